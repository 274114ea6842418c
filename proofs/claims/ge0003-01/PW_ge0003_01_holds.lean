import PyProof.Rows.All
import Wide.All
import OpenK.AllK
import Wide.FinOn
import PySem.Challenge.RW_ge0003_01
set_option Elab.async false

section
open PySem PySem.W PyProof.Rows
set_option Elab.async false
namespace Mine
set_option maxRecDepth 100000 in
set_option maxHeartbeats 8000000 in
open_top hd for PySem.Challenge.rw_ge0003_01
end Mine
end

section
open PySem PySem.W PyProof.Rows
set_option Elab.async false
set_option maxRecDepth 100000
set_option linter.unusedVariables false
namespace Mine

/-! worlds: what is known and stays -/
abbrev Wd := Addr → Option Obj
def Wle (B B' : Wd) : Prop := ∀ b o, B b = some o → B' b = some o
theorem Wle.refl (B : Wd) : Wle B B := fun _ _ e => e
theorem Wle.trans {B B' B'' : Wd} (x : Wle B B') (y : Wle B' B'') : Wle B B'' := fun b o e => y b o (x b o e)

structure Ty where
  R : Wd → Value → Prop
  mono : ∀ {B B' : Wd} {v : Value}, Wle B B' → R B v → R B' v

def tInt (i : Int) : Ty := ⟨fun _ v => ∃ t, v = .int i t, fun _ h => h⟩
def tBool (b : Bool) : Ty := ⟨fun _ v => v = .bool b, fun _ h => h⟩
def tNone : Ty := ⟨fun _ v => v = .none, fun _ h => h⟩
def tVal (x : Value) : Ty := ⟨fun _ v => v = x, fun _ h => h⟩
def tPair (p : Int × Int) : Ty :=
  ⟨fun B v => ∃ a t u, v = .ref a ∧ B a = some { cls := .type "tuple", data := .seq #[.int p.1 t, .int p.2 u] },
   fun hle ⟨a, t, u, e, h⟩ => ⟨a, t, u, e, hle _ _ h⟩⟩

def Al2 {α β : Type} (R : α → β → Prop) : List α → List β → Prop
  | [], [] => True
  | a :: as, b :: bs => R a b ∧ Al2 R as bs
  | _, _ => False
theorem Al2.mono {α β : Type} {R R' : α → β → Prop} (h : ∀ a b, R a b → R' a b) : ∀ {as : List α} {bs : List β}, Al2 R as bs → Al2 R' as bs
  | [], [], _ => trivial
  | _ :: _, _ :: _, ⟨x, y⟩ => ⟨h _ _ x, Al2.mono h y⟩
  | [], _ :: _, x => x.elim
  | _ :: _, [], x => x.elim
theorem Al2.length {α β : Type} {R : α → β → Prop} : ∀ {as : List α} {bs : List β}, Al2 R as bs → bs.length = as.length
  | [], [], _ => rfl
  | _ :: _, _ :: _, ⟨_, y⟩ => by simp [Al2.length y]
  | [], _ :: _, x => x.elim
  | _ :: _, [], x => x.elim
theorem Al2.get {α β : Type} {R : α → β → Prop} : ∀ {as : List α} {bs : List β} {i : Nat} {a : α}, Al2 R as bs → as[i]? = some a → ∃ b, bs[i]? = some b ∧ R a b
  | [], _, _, _, _, e => by simp at e
  | a :: as, b :: bs, 0, x, ⟨h, _⟩, e => by simp at e; subst e; exact ⟨b, rfl, h⟩
  | a :: as, b :: bs, i + 1, x, ⟨_, h⟩, e => by
    obtain ⟨y, e', r⟩ := Al2.get (i := i) h (by simpa using e)
    exact ⟨y, by simpa using e', r⟩
  | _ :: _, [], _, _, x, _ => x.elim
theorem Al2.get' {α β : Type} {R : α → β → Prop} : ∀ {as : List α} {bs : List β} {i : Nat} {b : β}, Al2 R as bs → bs[i]? = some b → ∃ a, as[i]? = some a ∧ R a b
  | _, [], _, _, _, e => by simp at e
  | a :: as, b :: bs, 0, x, ⟨h, _⟩, e => by simp at e; subst e; exact ⟨a, rfl, h⟩
  | a :: as, b :: bs, i + 1, x, ⟨_, h⟩, e => by
    obtain ⟨y, e', r⟩ := Al2.get' (i := i) h (by simpa using e)
    exact ⟨y, by simpa using e', r⟩
  | [], _ :: _, _, _, x, _ => x.elim
theorem Al2.append {α β : Type} {R : α → β → Prop} : ∀ {as as' : List α} {bs bs' : List β}, Al2 R as bs → Al2 R as' bs' → Al2 R (as ++ as') (bs ++ bs')
  | [], _, [], _, _, h => h
  | _ :: _, _, _ :: _, _, ⟨x, y⟩, h => ⟨x, Al2.append y h⟩
  | [], _, _ :: _, _, x, _ => x.elim
  | _ :: _, _, [], _, x, _ => x.elim
theorem Al2.take {α β : Type} {R : α → β → Prop} : ∀ (n : Nat) {as : List α} {bs : List β}, Al2 R as bs → Al2 R (as.take n) (bs.take n)
  | 0, _, _, _ => by simp [Al2]
  | n + 1, [], [], _ => by simp [Al2]
  | n + 1, _ :: _, _ :: _, ⟨x, y⟩ => ⟨x, Al2.take n y⟩
  | _ + 1, [], _ :: _, x => x.elim
  | _ + 1, _ :: _, [], x => x.elim
theorem Al2.drop {α β : Type} {R : α → β → Prop} : ∀ (n : Nat) {as : List α} {bs : List β}, Al2 R as bs → Al2 R (as.drop n) (bs.drop n)
  | 0, _, _, h => h
  | n + 1, [], [], _ => by simp [Al2]
  | n + 1, _ :: _, _ :: _, ⟨_, y⟩ => Al2.drop n y
  | _ + 1, [], _ :: _, x => x.elim
  | _ + 1, _ :: _, [], x => x.elim
theorem Al2.snoc {α β : Type} {R : α → β → Prop} {as : List α} {bs : List β} {a : α} {b : β} (h : Al2 R as bs) (x : R a b) : Al2 R (as ++ [a]) (bs ++ [b]) := h.append ⟨x, trivial⟩

abbrev lstObj (vs : Array Value) (n : Nat) : Obj := { cls := .type "list", data := .seq vs n }
def tList {α : Type} (T : α → Ty) (xs : List α) : Ty :=
  ⟨fun B v => ∃ a vs n, v = .ref a ∧ B a = some (lstObj vs n) ∧ Al2 (fun x u => (T x).R B u) xs vs.toList,
   fun hle ⟨a, vs, n, e, h, r⟩ => ⟨a, vs, n, e, hle _ _ h, r.mono fun x _ y => (T x).mono hle y⟩⟩
abbrev tInts (ns : List Int) : Ty := tList tInt ns
abbrev tPairs (ps : List (Int × Int)) : Ty := tList tPair ps

/-! a name read -/
def Rd (env : Env) (h : Heap) (x : Str) (v : Value) : Prop :=
  (env.kindOf x = some .local ∧ ∃ m, h.Ns env.locals m ∧ m x = some v) ∨
  ((env.kindOf x = some .cell ∨ env.kindOf x = some .free) ∧ ∃ a, env.cells.lookup x = some a ∧ h.IsCell a (some v))
theorem Rd.keeps {env : Env} {h h' : Heap} {x : Str} {v : Value} (r : Rd env h x v) (k : ∀ b o, h.get? b = some o → h'.get? b = some o) : Rd env h' x v := by
  rcases r with ⟨a, m, n, e⟩ | ⟨a, c, e, i⟩
  · exact .inl ⟨a, m, n.keeps k, e⟩
  · exact .inr ⟨a, c, e, i.keeps k⟩

structure Cx where
  w : World
  H : Heap
  A : Around
  env : Env
  n : Nat
abbrev Cx.prog (_ : Cx) : Program := PySem.Challenge.rw_ge0003_01.row.prog
abbrev Mo (w : World) : Model := model PySem.Challenge.rw_ge0003_01.row.prog w

/-- room: n more frames may be laid -/
structure Rm (A : Around) (n : Nat) : Prop where
  h : A.handled = none
  d : A.depth + n ≤ 900
  u : A.units + 100 * n ≤ 9000
theorem Rm.le {A : Around} {n m : Nat} (r : Rm A n) (h : m ≤ n) : Rm A m := ⟨r.h, by have := r.d; omega, by have := r.u; omega⟩
theorem Rm.deeper {A : Around} {n : Nat} (r : Rm A (n + 1)) (env : Env) : Rm (A.deeper env) n :=
  ⟨r.h, by have := r.d; show A.depth + 1 + n ≤ 900; omega, by have := r.u; show A.units + 3 + 100 * n ≤ 9000; omega⟩

/-- what stands at the law's call -/
structure Gl (w : World) (H : Heap) : Prop where
  kin : (hd.heap_39 w.params).In H
  top : ∃ p loose mg mb, TopRead p loose mg mb H

structure Fc (c : Cx) : Prop where
  kind : c.env.scope.kind = .function
  globals : c.env.globals = mainGlobals
  builtins : c.env.builtins = builtinsNs
  rm : Rm c.A c.n
  gl : Gl c.w c.H
abbrev Ga := List (Str × Ty)

theorem kRefl (s : Shared) : Keeps s s := ⟨s.heap, s.toks, rfl, fun _ _ e => e⟩
theorem kTrans {s s' s'' : Shared} (x : Keeps s s') (y : Keeps s' s'') : Keeps s s'' := by
  obtain ⟨h, t, rfl, k⟩ := x
  obtain ⟨h', t', rfl, k'⟩ := y
  exact ⟨h', t', rfl, fun b o e => k' b o (k b o e)⟩
theorem kGet {s s' : Shared} (x : Keeps s s') : ∀ b o, s.heap.get? b = some o → s'.heap.get? b = some o := by
  obtain ⟨h, t, rfl, k⟩ := x
  exact k

structure Sat (c : Cx) (Γ : Ga) (B : Wd) (s : Shared) : Prop where
  fc : Fc c
  base : ∀ b o, c.H.get? b = some o → B b = some o
  sub : ∀ b o, B b = some o → s.heap.get? b = some o
  cal : ∀ x a, c.env.cells.lookup x = some a → ∃ ov, s.heap.IsCell a ov
  vars : ∀ p ∈ Γ, ∃ v, Rd c.env s.heap p.1 v ∧ p.2.R B v

structure Grow (B : Wd) (s : Shared) (B' : Wd) (s' : Shared) : Prop where
  le : Wle B B'
  sub : ∀ b o, B' b = some o → s'.heap.get? b = some o
  new : ∀ b o, B' b = some o → B b = some o ∨ s.heap.get? b = none
  keeps : Keeps s s'

theorem Grow.refl {B : Wd} {s : Shared} (h : ∀ b o, B b = some o → s.heap.get? b = some o) : Grow B s B s := ⟨Wle.refl B, h, fun _ _ e => .inl e, kRefl s⟩
theorem Grow.trans {B B' B'' : Wd} {s s' s'' : Shared} (x : Grow B s B' s') (y : Grow B' s' B'' s'') : Grow B s B'' s'' where
  le := x.le.trans y.le
  sub := y.sub
  keeps := kTrans x.keeps y.keeps
  new := fun b o e => by
    rcases y.new b o e with h | h
    · exact x.new b o h
    · refine .inr ?_
      cases q : s.heap.get? b with
      | none => rfl
      | some o' => rw [kGet x.keeps b o' q] at h; cases h
theorem Grow.toks {B : Wd} {s : Shared} (h : ∀ b o, B b = some o → s.heap.get? b = some o) (t : Nat) : Grow B s B { s with toks := t } := ⟨Wle.refl B, h, fun _ _ e => .inl e, ⟨s.heap, t, rfl, fun _ _ e => e⟩⟩
/-- a new object, known from here on -/
def Wd.add (B : Wd) (a : Addr) (o : Obj) : Wd := fun b => if b = a then some o else B b
theorem get?_size_none (h : Heap) : h.get? h.objs.size = none := by
  cases e : h.get? h.objs.size with
  | none => rfl
  | some o => exact absurd (Heap.lt_size e) (Nat.lt_irrefl _)
theorem get?_ge_none {h : Heap} {a : Addr} (ha : h.objs.size ≤ a) : h.get? a = none := by
  cases e : h.get? a with
  | none => rfl
  | some o => exact absurd (Heap.lt_size e) (Nat.not_lt.mpr ha)
theorem Wd.add_self (B : Wd) (a : Addr) (o : Obj) : B.add a o a = some o := by simp [Wd.add]
theorem Wd.le_add {B : Wd} {a : Addr} {o : Obj} (h : B a = none) : Wle B (B.add a o) := fun b x e => by
  unfold Wd.add
  by_cases q : b = a
  · subst q; rw [h] at e; cases e
  · rw [if_neg q]; exact e
theorem Wd.add_cases {B : Wd} {a b : Addr} {o x : Obj} (e : B.add a o b = some x) : (b = a ∧ x = o) ∨ (b ≠ a ∧ B b = some x) := by
  unfold Wd.add at e
  by_cases q : b = a
  · rw [if_pos q] at e; exact .inl ⟨q, (Option.some.inj e).symm⟩
  · rw [if_neg q] at e; exact .inr ⟨q, e⟩
theorem Grow.alloc {B : Wd} {s : Shared} {t : Nat} (h : ∀ b o, B b = some o → s.heap.get? b = some o) (o : Obj) (hf : o.isFreed = false := by rfl) :
    Grow B s (B.add s.heap.objs.size o) { s with heap := s.heap.push o, toks := t } where
  le := Wd.le_add (by cases e : B s.heap.objs.size with | none => rfl | some x => have := h _ _ e; rw [get?_size_none] at this; cases this)
  sub := fun b x e => by
    rcases Wd.add_cases e with ⟨rfl, rfl⟩ | ⟨_, e⟩
    · exact Heap.get?_push_size _ hf
    · exact Heap.get?_push_of_some _ (h _ _ e)
  new := fun b x e => by
    rcases Wd.add_cases e with ⟨rfl, rfl⟩ | ⟨_, e⟩
    · exact .inr (get?_size_none _)
    · exact .inl e
  keeps := ⟨_, _, rfl, fun _ _ e => Heap.get?_push_of_some _ e⟩

theorem Sat.grow {c : Cx} {Γ : Ga} {B B' : Wd} {s s' : Shared} (S : Sat c Γ B s) (g : Grow B s B' s') : Sat c Γ B' s' where
  fc := S.fc
  base := fun b o e => g.le _ _ (S.base b o e)
  sub := g.sub
  cal := fun x a e => by obtain ⟨ov, i⟩ := S.cal x a e; exact ⟨ov, i.keeps (kGet g.keeps)⟩
  vars := fun p hp => by
    obtain ⟨v, r, t⟩ := S.vars p hp
    exact ⟨v, r.keeps (kGet g.keeps), p.2.mono g.le t⟩
theorem Sat.refl {c : Cx} {Γ : Ga} {B : Wd} {s : Shared} (S : Sat c Γ B s) : Grow B s B s := Grow.refl S.sub

def Ev (c : Cx) (Γ : Ga) (e : Expr) (T : Ty) : Prop :=
  ∀ B s E, Sat c Γ B s → wpAny (Mo c.w) c.A (eval e c.env) (fun v s' => ∃ B', Grow B s B' s' ∧ T.R B' v) E s
def Te (c : Cx) (Γ : Ga) (e : Expr) (b : Bool) : Prop :=
  ∀ B s E, Sat c Γ B s → wpAny (Mo c.w) c.A (isTrue e c.env (eval e c.env)) (fun r s' => r = b ∧ ∃ B', Grow B s B' s') E s

section
variable {c : Cx} {Γ : Ga}

theorem ev_int {i : Int} {k : Nat} {p : Pos} : Ev c Γ (.Constant (.int i) k p) (tInt i) := fun B s E S =>
  wpAny_Constant_int ⟨B, Grow.toks S.sub _, s.toks, rfl⟩
theorem ev_none {k : Nat} {p : Pos} : Ev c Γ (.Constant .none k p) tNone := fun B s E S =>
  wpAny_Constant_none ⟨B, S.refl, rfl⟩
theorem ev_bool {b : Bool} {k : Nat} {p : Pos} : Ev c Γ (.Constant (.bool b) k p) (tBool b) := fun B s E S =>
  wpAny_Constant_bool ⟨B, S.refl, rfl⟩

theorem wp_name {M : Model} {A : Around} {E : Value → Shared → Prop} {s : Shared} {env : Env} {x : Str} {p : Pos} {v : Value} {Q : Value → Shared → Prop} (r : Rd env s.heap x v) (h : Q v s)
    (hk : env.scope.kind = .function) (hd : (x == ("__debug__" : Str)) = false) (hn : (x == ("__classdict__" : Str)) = false) : wpAny M A (eval (.Name x p) env) Q E s := by
  refine wpAny_Name ?_ hd
  rcases r with ⟨a, m, n, e⟩ | ⟨a | a, cc, e, i⟩
  · exact wpAny_loadName_local hk a n e h
  · exact wpAny_loadName_cell hk a e i h
  · exact wpAny_loadName_free hk a e i h hn

theorem ev_name {x : Str} {p : Pos} {T : Ty} (hm : (x, T) ∈ Γ) (hd : (x == ("__debug__" : Str)) = false := by decide) (hn : (x == ("__classdict__" : Str)) = false := by decide) :
    Ev c Γ (.Name x p) T := fun B s E S => by
  obtain ⟨v, r, t⟩ := S.vars _ hm
  exact wp_name r ⟨B, S.refl, t⟩ S.fc.kind hd hn

theorem ev_bin {l r : Expr} {op : Operator} {p : Pos} {T U V : Ty} (hl : Ev c Γ l T) (hr : Ev c Γ r U)
    (h : ∀ B s E a b, Sat c Γ B s → T.R B a → U.R B b → wpAny (Mo c.w) c.A (binaryOp op a b) (fun v s' => ∃ B', Grow B s B' s' ∧ V.R B' v) E s) : Ev c Γ (.BinOp l op r p) V := fun B s E S => by
  refine wpAny_BinOp (wpAny_mono (hl B s E S) (fun a s₁ ⟨B₁, g₁, t₁⟩ => ?_) fun _ _ e => e)
  refine wpAny_mono (hr B₁ s₁ E (S.grow g₁)) (fun b s₂ ⟨B₂, g₂, t₂⟩ => ?_) fun _ _ e => e
  refine wpAny_mono (h B₂ s₂ E a b ((S.grow g₁).grow g₂) (T.mono g₂.le t₁) t₂) (fun v s₃ ⟨B₃, g₃, t₃⟩ => ?_) fun _ _ e => e
  exact ⟨B₃, (g₁.trans g₂).trans g₃, t₃⟩

theorem ev_add {l r : Expr} {p : Pos} {a b : Int} (hl : Ev c Γ l (tInt a)) (hr : Ev c Γ r (tInt b)) : Ev c Γ (.BinOp l .Add r p) (tInt (a + b)) :=
  ev_bin hl hr fun B s E x y S hx hy => by
    obtain ⟨t, rfl⟩ := hx
    obtain ⟨u, rfl⟩ := hy
    exact wpAny_add_int ⟨B, Grow.toks S.sub _, _, rfl⟩
theorem ev_sub {l r : Expr} {p : Pos} {a b : Int} (hl : Ev c Γ l (tInt a)) (hr : Ev c Γ r (tInt b)) : Ev c Γ (.BinOp l .Sub r p) (tInt (a - b)) :=
  ev_bin hl hr fun B s E x y S hx hy => by
    obtain ⟨t, rfl⟩ := hx
    obtain ⟨u, rfl⟩ := hy
    exact sub_int ⟨B, Grow.toks S.sub _, _, rfl⟩
end
end Mine
end

section
open PySem PySem.W PyProof.Rows
set_option Elab.async false
set_option maxRecDepth 100000
set_option linter.unusedVariables false
namespace Mine

section
variable {c : Cx} {Γ : Ga}

/-! names of the top and of the built-ins -/
theorem wp_gname {M : Model} {A : Around} {E : Value → Shared → Prop} {s : Shared} {env : Env} {x : Str} {p : Pos} {v : Value} {mg : Str → Option Value} {Q : Value → Shared → Prop}
    (hk : env.scope.kind = .function) (hx : env.kindOf x = some .globalImplicit) (hg : s.heap.Ns env.globals mg) (e : mg x = some v) (h : Q v s) (hd : (x == ("__debug__" : Str)) = false) :
    wpAny M A (eval (.Name x p) env) Q E s := Calls.Name_function_global hk hx (Calls.loadGlobal_global hg e h) hd

theorem Sat.heap {B : Wd} {s : Shared} (S : Sat c Γ B s) : ∀ b o, c.H.get? b = some o → s.heap.get? b = some o := fun b o e => S.sub b o (S.base b o e)

theorem ev_gname {x : Str} {p : Pos} {v : Value} (e : nsIn (hd.heap_39 c.w.params) mainGlobals x = some (some v)) (hx : c.env.kindOf x = some .globalImplicit := by rfl) (hd : (x == ("__debug__" : Str)) = false := by decide) :
    Ev c Γ (.Name x p) (tVal v) := fun B s E S => by
  obtain ⟨p', loose, mg, mb, T⟩ := S.fc.gl.top
  refine wp_gname S.fc.kind hx (mg := mg) (by rw [S.fc.globals]; exact T.g.keeps S.heap) (mg_of S.fc.gl.kin T.g e) ⟨B, S.refl, rfl⟩ hd
theorem ev_bname {x : Str} {p : Pos} {v : Value} (e : nsIn (hd.heap_39 c.w.params) mainGlobals x = some none) (hv : bootBuiltins x = some v) (hx : c.env.kindOf x = some .globalImplicit := by rfl) (hn : x ≠ "__name__" := by decide)
    (hd : (x == ("__debug__" : Str)) = false := by decide) : Ev c Γ (.Name x p) (tVal v) := fun B s E S => by
  obtain ⟨p', loose, mg, mb, T⟩ := S.fc.gl.top
  refine Calls.Name_function_global S.fc.kind hx (Calls.loadGlobal_builtin (mg := mg) (mb := mb) (by rw [S.fc.globals]; exact T.g.keeps S.heap) (mg_none_of S.fc.gl.kin T.g e)
    (by rw [S.fc.builtins]; exact T.b.keeps S.heap) ((T.builtins x hn).trans hv) ⟨B, S.refl, rfl⟩) hd

/-! lists of arguments -/
def EvL (c : Cx) (Γ : Ga) (es : List Expr) (Ts : List Ty) : Prop :=
  ∀ pos B s E, Sat c Γ B s → wpAny (Mo c.w) c.A (spliced (backTo pos (starEach es c.env))) (fun vs s' => ∃ B', Grow B s B' s' ∧ Al2 (fun (T : Ty) v => T.R B' v) Ts vs) E s
theorem evl_nil : EvL c Γ [] [] := fun pos B s E S => wpAny_items_nil ⟨B, S.refl, trivial⟩
theorem evl_cons {e : Expr} {es : List Expr} {T : Ty} {Ts : List Ty} (h : Ev c Γ e T) (hr : EvL c Γ es Ts) (he : starEach (e :: es) c.env = (false, eval e c.env) :: starEach es c.env := by rfl) :
    EvL c Γ (e :: es) (T :: Ts) := fun pos B s E S => by
  refine wpAny_items_cons (wpAny_mono (h B s E S) (fun v s₁ ⟨B₁, g₁, t₁⟩ => ?_) fun _ _ e => e) he
  refine wpAny_mono (hr pos B₁ s₁ E (S.grow g₁)) (fun vs s₂ ⟨B₂, g₂, t₂⟩ => ?_) fun _ _ e => e
  exact ⟨B₂, g₁.trans g₂, T.mono g₂.le t₁, t₂⟩

/-- a world over the top -/
structure Ws (H : Heap) (B : Wd) (s : Shared) : Prop where
  base : ∀ b o, H.get? b = some o → B b = some o
  sub : ∀ b o, B b = some o → s.heap.get? b = some o
theorem Sat.ws {B : Wd} {s : Shared} (S : Sat c Γ B s) : Ws c.H B s := ⟨S.base, S.sub⟩
theorem Ws.refl {H : Heap} {B : Wd} {s : Shared} (S : Ws H B s) : Grow B s B s := Grow.refl S.sub
theorem Ws.grow {H : Heap} {B B' : Wd} {s s' : Shared} (S : Ws H B s) (g : Grow B s B' s') : Ws H B' s' := ⟨fun b o e => g.le _ _ (S.base b o e), g.sub⟩

def Fn (w : World) (H : Heap) (A : Around) (f : Value) (Ts : List Ty) (U : Ty) : Prop :=
  ∀ B s E vs, Ws H B s → Al2 (fun (T : Ty) v => T.R B v) Ts vs → wpAny (Mo w) A (call f vs) (fun r s' => ∃ B', Grow B s B' s' ∧ U.R B' r) E s

theorem ev_call_b {f e : Expr} {es : List Expr} {pos : Pos} {id : String} {Ts : List Ty} {U : Ty} (hf : Ev c Γ f (tVal (.builtin id))) (ha : EvL c Γ (e :: es) Ts) (hfn : Fn c.w c.H c.A (.builtin id) Ts U)
    (hc : eval (.Call f (e :: es) [] pos) c.env = (do callWith pos (← eval f c.env) [] (backTo pos (starEach (e :: es) c.env)) (backToKw pos (keywordEach [] c.env))) := by rfl)
    (he : starEach (e :: es) c.env = (false, eval e c.env) :: starEach es c.env := by rfl) (hp : (backTo pos (starEach es c.env)).any (·.1) = false := by rfl) :
    Ev c Γ (.Call f (e :: es) [] pos) U := fun B s E S => by
  refine Call_ (wpAny_mono (hf B s E S) (fun v s₁ ⟨B₁, g₁, t₁⟩ => ?_) fun _ _ e => e) hc
  cases t₁
  refine callWith_builtin1 (wpAny_mono (ha pos B₁ s₁ E (S.grow g₁)) (fun vs s₂ ⟨B₂, g₂, t₂⟩ => ?_) fun _ _ e => e) he hp
  refine wpAny_mono (hfn B₂ s₂ E vs ((S.grow g₁).grow g₂).ws t₂) (fun r s₃ ⟨B₃, g₃, t₃⟩ => ?_) fun _ _ e => e
  exact ⟨B₃, (g₁.trans g₂).trans g₃, t₃⟩
theorem ev_call_t {f e : Expr} {es : List Expr} {pos : Pos} {id : String} {Ts : List Ty} {U : Ty} (hf : Ev c Γ f (tVal (.type id))) (ha : EvL c Γ (e :: es) Ts) (hfn : Fn c.w c.H c.A (.type id) Ts U)
    (hc : eval (.Call f (e :: es) [] pos) c.env = (do callWith pos (← eval f c.env) [] (backTo pos (starEach (e :: es) c.env)) (backToKw pos (keywordEach [] c.env))) := by rfl)
    (he : starEach (e :: es) c.env = (false, eval e c.env) :: starEach es c.env := by rfl) (hp : (backTo pos (starEach es c.env)).any (·.1) = false := by rfl) :
    Ev c Γ (.Call f (e :: es) [] pos) U := fun B s E S => by
  refine Call_ (wpAny_mono (hf B s E S) (fun v s₁ ⟨B₁, g₁, t₁⟩ => ?_) fun _ _ e => e) hc
  cases t₁
  refine callWith_type1 (wpAny_mono (ha pos B₁ s₁ E (S.grow g₁)) (fun vs s₂ ⟨B₂, g₂, t₂⟩ => ?_) fun _ _ e => e) he hp
  refine wpAny_mono (hfn B₂ s₂ E vs ((S.grow g₁).grow g₂).ws t₂) (fun r s₃ ⟨B₃, g₃, t₃⟩ => ?_) fun _ _ e => e
  exact ⟨B₃, (g₁.trans g₂).trans g₃, t₃⟩
theorem ev_call_d {f e : Expr} {es : List Expr} {pos : Pos} {a : Addr} {o : Obj} {fd : FuncData} {Ts : List Ty} {U : Ty} (hf : Ev c Γ f (tVal (.ref a))) (ha : EvL c Γ (e :: es) Ts) (hfn : Fn c.w c.H c.A (.ref a) Ts U)
    (ho : (hd.heap_39 c.w.params).lookup a = some o) (hdat : o.data = .func fd)
    (hc : eval (.Call f (e :: es) [] pos) c.env = (do callWith pos (← eval f c.env) [] (backTo pos (starEach (e :: es) c.env)) (backToKw pos (keywordEach [] c.env))) := by rfl)
    (he : starEach (e :: es) c.env = (false, eval e c.env) :: starEach es c.env := by rfl) :
    Ev c Γ (.Call f (e :: es) [] pos) U := fun B s E S => by
  refine Call_ (wpAny_mono (hf B s E S) (fun v s₁ ⟨B₁, g₁, t₁⟩ => ?_) fun _ _ e => e) hc
  cases t₁
  refine callWith_def hdat (wpAny_mono (ha pos B₁ s₁ E (S.grow g₁)) (fun vs s₂ ⟨B₂, g₂, t₂⟩ => ?_) fun _ _ e => e) he
  refine ⟨((S.grow g₁).grow g₂).heap _ _ (S.fc.gl.kin _ _ ho), ?_⟩
  refine wpAny_mono (hfn B₂ s₂ E vs ((S.grow g₁).grow g₂).ws t₂) (fun r s₃ ⟨B₃, g₃, t₃⟩ => ?_) fun _ _ e => e
  exact ⟨B₃, (g₁.trans g₂).trans g₃, t₃⟩

/-! comparisons -/
def Cm (c : Cx) (T U : Ty) (op : CmpOp) (q : Bool) : Prop :=
  ∀ B s E a b, Fc c → Ws c.H B s → T.R B a → U.R B b → wpAny (Mo c.w) c.A (compareOp op a b) (fun v s' => v = .bool q ∧ ∃ B', Grow B s B' s') E s
theorem ev_cmp {l r : Expr} {op : CmpOp} {p : Pos} {T U : Ty} {q : Bool} (hl : Ev c Γ l T) (hr : Ev c Γ r U) (h : Cm c T U op q) (hm : behindInMarks op r = false := by rfl) :
    Ev c Γ (.Compare l [op] [r] p) (tBool q) := fun B s E S => by
  refine wpAny_Compare1 (wpAny_mono (hl B s E S) (fun a s₁ ⟨B₁, g₁, t₁⟩ => ?_) fun _ _ e => e) hm
  refine wpAny_mono (hr B₁ s₁ E (S.grow g₁)) (fun b s₂ ⟨B₂, g₂, t₂⟩ => ?_) fun _ _ e => e
  refine wpAny_mono (h B₂ s₂ E a b S.fc ((S.grow g₁).grow g₂).ws (T.mono g₂.le t₁) t₂) (fun v s₃ ⟨ev, B₃, g₃⟩ => ?_) fun _ _ e => e
  exact ⟨B₃, (g₁.trans g₂).trans g₃, ev⟩
theorem te_cmp {l r : Expr} {op : CmpOp} {p : Pos} {T U : Ty} {q : Bool} (hl : Ev c Γ l T) (hr : Ev c Γ r U) (h : Cm c T U op q) (hm : behindInMarks op r = false := by rfl) :
    Te c Γ (.Compare l [op] [r] p) q := fun B s E S => by
  refine wpAny_isTrue_Compare1 (wpAny_mono (hl B s E S) (fun a s₁ ⟨B₁, g₁, t₁⟩ => ?_) fun _ _ e => e) hm
  refine wpAny_mono (hr B₁ s₁ E (S.grow g₁)) (fun b s₂ ⟨B₂, g₂, t₂⟩ => ?_) fun _ _ e => e
  refine wpAny_mono (h B₂ s₂ E a b S.fc ((S.grow g₁).grow g₂).ws (T.mono g₂.le t₁) t₂) (fun v s₃ ⟨ev, B₃, g₃⟩ => ?_) fun _ _ e => e
  subst ev
  exact wpAny_truthy_bool ⟨rfl, B₃, (g₁.trans g₂).trans g₃⟩
/-- a chain of two -/
theorem ev_chain {l m r : Expr} {op op' : CmpOp} {p : Pos} {T U V : Ty} {q q' : Bool} (hl : Ev c Γ l T) (hm : Ev c Γ m U) (hr : Ev c Γ r V) (h : Cm c T U op q) (h' : Cm c U V op' q')
    (hk : lastMarks [op, op'] [m, r] = false := by rfl) : Ev c Γ (.Compare l [op, op'] [m, r] p) (tBool (q && q')) := fun B s E S => by
  refine Compare_chain (wpAny_mono (hl B s E S) (fun a s₁ ⟨B₁, g₁, t₁⟩ => ?_) fun _ _ e => e) hk
  refine chain_link (wpAny_mono (hm B₁ s₁ E (S.grow g₁)) (fun b s₂ ⟨B₂, g₂, t₂⟩ => ?_) fun _ _ e => e)
  refine wpAny_mono (h B₂ s₂ E a b S.fc ((S.grow g₁).grow g₂).ws (T.mono g₂.le t₁) t₂) (fun v s₃ ⟨ev, B₃, g₃⟩ => ?_) fun _ _ e => e
  subst ev
  refine wpAny_truthy_bool ?_
  have G := (g₁.trans g₂).trans g₃
  cases q with
  | false => simp only [Bool.false_eq_true, if_false]; exact ⟨B₃, G, rfl⟩
  | true =>
    simp only [if_true]
    refine chain_last (wpAny_mono (hr B₃ s₃ E (S.grow G)) (fun d s₄ ⟨B₄, g₄, t₄⟩ => ?_) fun _ _ e => e)
    refine wpAny_mono (h' B₄ s₄ E b d S.fc (S.grow (G.trans g₄)).ws (U.mono (g₃.trans g₄).le t₂) t₄) (fun v s₅ ⟨ev, B₅, g₅⟩ => ?_) fun _ _ e => e
    exact ⟨B₅, (G.trans g₄).trans g₅, ev⟩
theorem te_chain {l m r : Expr} {op op' : CmpOp} {p : Pos} {T U V : Ty} {q q' : Bool} (hl : Ev c Γ l T) (hm : Ev c Γ m U) (hr : Ev c Γ r V) (h : Cm c T U op q) (h' : Cm c U V op' q')
    (hk : lastMarks [op, op'] [m, r] = false := by rfl) : Te c Γ (.Compare l [op, op'] [m, r] p) (q && q') := fun B s E S => by
  refine PyProof.Rows.isTrue_chain (wpAny_mono (hl B s E S) (fun a s₁ ⟨B₁, g₁, t₁⟩ => ?_) fun _ _ e => e) hk
  refine test_link (wpAny_mono (hm B₁ s₁ E (S.grow g₁)) (fun b s₂ ⟨B₂, g₂, t₂⟩ => ?_) fun _ _ e => e)
  refine wpAny_mono (h B₂ s₂ E a b S.fc ((S.grow g₁).grow g₂).ws (T.mono g₂.le t₁) t₂) (fun v s₃ ⟨ev, B₃, g₃⟩ => ?_) fun _ _ e => e
  subst ev
  refine wpAny_truthy_bool ?_
  have G := (g₁.trans g₂).trans g₃
  cases q with
  | false => simp only [Bool.false_eq_true, if_false]; exact ⟨rfl, B₃, G⟩
  | true =>
    simp only [if_true]
    refine test_last (wpAny_mono (hr B₃ s₃ E (S.grow G)) (fun d s₄ ⟨B₄, g₄, t₄⟩ => ?_) fun _ _ e => e)
    refine wpAny_mono (h' B₄ s₄ E b d S.fc (S.grow (G.trans g₄)).ws (U.mono (g₃.trans g₄).le t₂) t₄) (fun v s₅ ⟨ev, B₅, g₅⟩ => ?_) fun _ _ e => e
    subst ev
    exact wpAny_truthy_bool ⟨by simp, B₅, (G.trans g₄).trans g₅⟩

theorem cm_lt {a b : Int} : Cm c (tInt a) (tInt b) .Lt (decide (a < b)) := fun B s E x y F S ⟨t, hx⟩ ⟨u, hy⟩ => by subst hx; subst hy; exact wpAny_lt_int ⟨rfl, B, S.refl⟩
theorem cm_le {a b : Int} : Cm c (tInt a) (tInt b) .LtE (decide (a ≤ b)) := fun B s E x y F S ⟨t, hx⟩ ⟨u, hy⟩ => by subst hx; subst hy; exact PyProof.Rows.le_int ⟨rfl, B, S.refl⟩
theorem cm_gt {a b : Int} : Cm c (tInt a) (tInt b) .Gt (decide (b < a)) := fun B s E x y F S ⟨t, hx⟩ ⟨u, hy⟩ => by subst hx; subst hy; exact PyProof.Rows.gt_int ⟨rfl, B, S.refl⟩
theorem cm_ge {a b : Int} : Cm c (tInt a) (tInt b) .GtE (decide (b ≤ a)) := fun B s E x y F S ⟨t, hx⟩ ⟨u, hy⟩ => by subst hx; subst hy; exact PyProof.Rows.ge_int ⟨rfl, B, S.refl⟩
theorem cm_eq {a b : Int} : Cm c (tInt a) (tInt b) .Eq (a == b) := fun B s E x y F S ⟨t, hx⟩ ⟨u, hy⟩ => by subst hx; subst hy; exact PyProof.Rows.eq_int ⟨rfl, B, S.refl⟩
theorem cm_ne {a b : Int} : Cm c (tInt a) (tInt b) .NotEq (a != b) := fun B s E x y F S ⟨t, hx⟩ ⟨u, hy⟩ => by subst hx; subst hy; exact PyProof.Rows.ne_int ⟨rfl, B, S.refl⟩
theorem cm_ne_bool {a b : Bool} : Cm c (tBool a) (tBool b) .NotEq (a != b) := fun B s E x y F S hx hy => by cases hx; cases hy; exact PyProof.Rows.ne_bool ⟨rfl, B, S.refl⟩
theorem cm_is_none_int {a : Int} : Cm c (tInt a) tNone .Is false := fun B s E x y F S ⟨t, hx⟩ hy => by subst hx; cases hy; exact PySem.is_none ⟨rfl, B, S.refl⟩
theorem cm_is_none_none : Cm c tNone tNone .Is true := fun B s E x y F S hx hy => by cases hx; cases hy; exact PySem.is_none ⟨rfl, B, S.refl⟩
theorem cm_is_none_list {α : Type} {T : α → Ty} {xs : List α} : Cm c (tList T xs) tNone .Is false := fun B s E x y F S ⟨a, vs, n, hx, _⟩ hy => by subst hx; cases hy; exact PySem.is_none ⟨rfl, B, S.refl⟩

/-! and, or -/
theorem te_or {x y : Expr} {p : Pos} {a b : Bool} (hx : Te c Γ x a) (hy : a = false → Te c Γ y b) : Te c Γ (.BoolOp .Or [x, y] p) (a || b) := fun B s E S => by
  refine wpAny_isTrue_BoolOp (wpAny_allTrue_Or_cons (wpAny_mono (hx B s E S) (fun r s₁ ⟨e₁, B₁, g₁⟩ => ?_) fun _ _ e => e))
  subst e₁
  cases r with
  | true => simp only [if_true]; exact ⟨rfl, B₁, g₁⟩
  | false =>
    simp only [Bool.false_eq_true, if_false]
    refine wpAny_allTrue_Or_cons (wpAny_mono (hy rfl B₁ s₁ E (S.grow g₁)) (fun r s₂ ⟨e₂, B₂, g₂⟩ => ?_) fun _ _ e => e)
    subst e₂
    cases r with
    | true => simp only [if_true]; exact ⟨rfl, B₂, g₁.trans g₂⟩
    | false => simp only [Bool.false_eq_true, if_false]; exact wpAny_allTrue_Or_nil ⟨rfl, B₂, g₁.trans g₂⟩
theorem ev_and {x y : Expr} {p : Pos} {a b : Bool} (hx : Ev c Γ x (tBool a)) (hy : a = true → Ev c Γ y (tBool b)) : Ev c Γ (.BoolOp .And [x, y] p) (tBool (a && b)) := fun B s E S => by
  refine wpAny_And2 (wpAny_mono (hx B s E S) (fun r s₁ ⟨B₁, g₁, e₁⟩ => ?_) fun _ _ e => e)
  cases e₁
  refine wpAny_truthy_bool ?_
  cases a with
  | false => simp only [Bool.false_eq_true, if_false]; exact ⟨B₁, g₁, rfl⟩
  | true =>
    simp only [if_true]
    refine wpAny_mono (hy rfl B₁ s₁ E (S.grow g₁)) (fun r s₂ ⟨B₂, g₂, e₂⟩ => ?_) fun _ _ e => e
    exact ⟨B₂, g₁.trans g₂, e₂⟩
theorem ev_ife {t x y : Expr} {p : Pos} {a : Bool} {T : Ty} (ht : Te c Γ t a) (hx : a = true → Ev c Γ x T) (hy : a = false → Ev c Γ y T) : Ev c Γ (.IfExp t x y p) T := fun B s E S => by
  refine wpAny_IfExp (wpAny_mono (ht B s E S) (fun r s₁ ⟨e₁, B₁, g₁⟩ => ?_) fun _ _ e => e)
  subst e₁
  cases r with
  | true => simp only [if_true]; exact wpAny_mono (hx rfl B₁ s₁ E (S.grow g₁)) (fun v s₂ ⟨B₂, g₂, t₂⟩ => ⟨B₂, g₁.trans g₂, t₂⟩) fun _ _ e => e
  | false => simp only [Bool.false_eq_true, if_false]; exact wpAny_mono (hy rfl B₁ s₁ E (S.grow g₁)) (fun v s₂ ⟨B₂, g₂, t₂⟩ => ⟨B₂, g₁.trans g₂, t₂⟩) fun _ _ e => e

/-! arithmetic -/
theorem ev_mod {l r : Expr} {p : Pos} {a b : Int} (hl : Ev c Γ l (tInt a)) (hr : Ev c Γ r (tInt b)) (hb : b ≠ 0) : Ev c Γ (.BinOp l .Mod r p) (tInt (a.fmod b)) :=
  ev_bin hl hr fun B s E x y S ⟨t, hx⟩ ⟨u, hy⟩ => by subst hx; subst hy; exact mod_int' hb ⟨B, Grow.toks S.sub _, _, rfl⟩
theorem ev_div {l r : Expr} {p : Pos} {a b : Int} (hl : Ev c Γ l (tInt a)) (hr : Ev c Γ r (tInt b)) (hb : b ≠ 0) (hp : Builtin.divisionGoesByPylong a b = false) : Ev c Γ (.BinOp l .FloorDiv r p) (tInt (a.fdiv b)) :=
  ev_bin hl hr fun B s E x y S ⟨t, hx⟩ ⟨u, hy⟩ => by subst hx; subst hy; exact floordiv_int hb ⟨B, Grow.toks S.sub _, _, rfl⟩ (.inl hp)
theorem ev_pow2 {l r : Expr} {p : Pos} {n : Nat} (hl : Ev c Γ l (tInt 2)) (hr : Ev c Γ r (tInt n)) (hn : n ≤ 100) : Ev c Γ (.BinOp l .Pow r p) (tInt (2 ^ n)) :=
  ev_bin hl hr fun B s E x y S ⟨t, hx⟩ ⟨u, hy⟩ => by
    subst hx; subst hy
    refine pow_int (by omega) ?_ ⟨B, Grow.toks S.sub _, _, rfl⟩
    have : Builtin.Int.intBits 2 = 2 := by decide
    rw [this]; omega
end
end Mine
end

section
open PySem PySem.W PyProof.Rows
set_option Elab.async false
set_option maxRecDepth 100000
set_option linter.unusedVariables false
namespace Mine

abbrev tupObj (vs : Array Value) : Obj := { cls := .type "tuple", data := .seq vs }
def tTup (Ts : List Ty) : Ty :=
  ⟨fun B v => ∃ a vs, v = .ref a ∧ B a = some (tupObj vs) ∧ Al2 (fun (T : Ty) u => T.R B u) Ts vs.toList,
   fun hle ⟨a, vs, e, h, r⟩ => ⟨a, vs, e, hle _ _ h, r.mono fun T _ y => T.mono hle y⟩⟩
def lexLt (p q : Int × Int) : Bool := decide (p.1 < q.1) || (p.1 == q.1 && decide (p.2 < q.2))

section
variable {c : Cx} {Γ : Ga}

theorem al2_map {α : Type} {T : α → Ty} {B : Wd} : ∀ {xs : List α} {vs : List Value}, Al2 (fun (T : Ty) v => T.R B v) (xs.map T) vs → Al2 (fun x v => (T x).R B v) xs vs
  | [], [], _ => trivial
  | _ :: _, _ :: _, ⟨x, y⟩ => ⟨x, al2_map y⟩
  | [], _ :: _, x => x.elim
  | _ :: _, [], x => x.elim

/-! displays -/
theorem ev_tup {es : List Expr} {k : Nat} {p : Pos} {Ts : List Ty} (h : EvL c Γ es Ts) (hz : Ts.length ≤ 100) : Ev c Γ (.Tuple es k p) (tTup Ts) := fun B s E S => by
  refine wpAny_Tuple (wpAny_mono (h p B s E S) (fun vs s₁ ⟨B₁, g₁, t₁⟩ => ⟨?_, ?_⟩) fun _ _ e => e)
  · have := t₁.length; rw [sizeLine_eq]; omega
  · have G := Grow.alloc (t := s₁.toks) (S.grow g₁).sub (tupObj vs.toArray)
    refine ⟨_, g₁.trans G, _, vs.toArray, rfl, Wd.add_self _ _ _, ?_⟩
    simpa using t₁.mono fun T v y => T.mono G.le y
theorem tup_pair {B : Wd} {v : Value} {a b : Int} (h : (tTup [tInt a, tInt b]).R B v) : (tPair (a, b)).R B v := by
  obtain ⟨x, ⟨vs⟩, rfl, hx, r⟩ := h
  match vs, r with
  | [v₁, v₂], ⟨⟨t, h1⟩, ⟨u, h2⟩, _⟩ =>
    subst h1; subst h2
    exact ⟨x, t, u, rfl, hx⟩
theorem ev_pair {x y : Expr} {k : Nat} {p : Pos} {a b : Int} (hx : Ev c Γ x (tInt a)) (hy : Ev c Γ y (tInt b)) (h2 : starEach [x, y] c.env = (false, eval x c.env) :: starEach [y] c.env := by rfl) (h1 : starEach [y] c.env = (false, eval y c.env) :: starEach [] c.env := by rfl) :
    Ev c Γ (.Tuple [x, y] k p) (tPair (a, b)) := fun B s E S => by
  refine wpAny_mono (ev_tup (evl_cons hx (evl_cons hy evl_nil h1) h2) (by simp) B s E S) (fun v s' ⟨B', g, t⟩ => ⟨B', g, tup_pair t⟩) fun _ _ e => e
theorem ev_list {α : Type} {T : α → Ty} {es : List Expr} {p : Pos} {xs : List α} (h : EvL c Γ es (xs.map T)) (hz : xs.length ≤ 100) : Ev c Γ (.List es p) (tList T xs) := fun B s E S => by
  refine wpAny_List (wpAny_mono (h p B s E S) (fun vs s₁ ⟨B₁, g₁, t₁⟩ => ⟨?_, ?_⟩) fun _ _ e => e)
  · have := t₁.length; rw [sizeLine_eq]; simp at this; omega
  · have G := Grow.alloc (t := s₁.toks) (S.grow g₁).sub (lstObj vs.toArray 0)
    refine ⟨_, g₁.trans G, _, vs.toArray, 0, rfl, Wd.add_self _ _ _, ?_⟩
    simpa using (al2_map t₁).mono fun x v y => (T x).mono G.le y
theorem ev_list0 {α : Type} {T : α → Ty} {p : Pos} : Ev c Γ (.List [] p) (tList T []) := ev_list (xs := ([] : List α)) evl_nil (by simp)
theorem ev_list1 {α : Type} {T : α → Ty} {x : Expr} {p : Pos} {a : α} (h : Ev c Γ x (T a)) (h1 : starEach [x] c.env = (false, eval x c.env) :: starEach [] c.env := by rfl) : Ev c Γ (.List [x] p) (tList T [a]) :=
  ev_list (xs := [a]) (evl_cons h evl_nil h1) (by simp)

/-! places -/
theorem tList.isList {α : Type} {T : α → Ty} {xs : List α} {B : Wd} {s : Shared} {a : Addr} {vs : Array Value} {n : Nat} (h : B a = some (lstObj vs n)) (sub : ∀ b o, B b = some o → s.heap.get? b = some o) : s.heap.IsList a vs :=
  ⟨_, sub _ _ h, rfl, n, rfl⟩
theorem ev_item {α : Type} {T : α → Ty} {v i : Expr} {p : Pos} {xs : List α} {k : Int} {x : α} (hv : Ev c Γ v (tList T xs)) (hi : Ev c Γ i (tInt k)) (h0 : 0 ≤ k) (hz : k < 1000) (hx : xs[k.toNat]? = some x)
    (hs : ∀ o j, subscripted i false o j = operate [o, j] (getItem o j) := by intros; rfl) : Ev c Γ (.Subscript v i p) (T x) := fun B s E S => by
  refine Subscript_ (wpAny_mono (hv B s E S) (fun o s₁ ⟨B₁, g₁, a, vs, n, e₁, h₁, r₁⟩ => ?_) fun _ _ e => e)
  subst e₁
  refine wpAny_mono (hi B₁ s₁ E (S.grow g₁)) (fun j s₂ ⟨B₂, g₂, t, e₂⟩ => ?_) fun _ _ e => e
  subst e₂
  obtain ⟨u, hu, hr⟩ := r₁.get hx
  have hl : s₂.heap.IsList a vs := ⟨_, g₂.sub _ _ (g₂.le _ _ h₁), rfl, n, rfl⟩
  refine tail_any hl.typeIs slot_list_getitem.lookup (wpAny_getItem_list hl h0 (by omega) (by simpa using hu) ?_) (hs _ _)
  exact ⟨B₂, g₁.trans g₂, (T x).mono g₂.le hr⟩
theorem ev_last {α : Type} {T : α → Ty} {v i : Expr} {p : Pos} {xs : List α} {x : α} (hv : Ev c Γ v (tList T xs)) (hi : Ev c Γ i (tInt (-1))) (hz : xs.length ≤ 1000) (hx : xs.getLast? = some x)
    (hs : ∀ o j, subscripted i false o j = operate [o, j] (getItem o j) := by intros; rfl) : Ev c Γ (.Subscript v i p) (T x) := fun B s E S => by
  refine Subscript_ (wpAny_mono (hv B s E S) (fun o s₁ ⟨B₁, g₁, a, vs, n, e₁, h₁, r₁⟩ => ?_) fun _ _ e => e)
  subst e₁
  refine wpAny_mono (hi B₁ s₁ E (S.grow g₁)) (fun j s₂ ⟨B₂, g₂, t, e₂⟩ => ?_) fun _ _ e => e
  subst e₂
  have hne : 0 < xs.length := by
    cases xs with
    | nil => simp at hx
    | cons _ _ => simp
  have hx' : xs[xs.length - 1]? = some x := by rw [← List.getLast?_eq_getElem?]; exact hx
  obtain ⟨u, hu, hr⟩ := r₁.get hx'
  have hl : s₂.heap.IsList a vs := ⟨_, g₂.sub _ _ (g₂.le _ _ h₁), rfl, n, rfl⟩
  have hlen := r₁.length
  simp at hlen
  have e : (-1 + (vs.size : Int)).toNat = xs.length - 1 := by omega
  refine tail_any hl.typeIs slot_list_getitem.lookup (wpAny_getItem_list_neg hl (by omega) (by omega) (by omega) (by rw [e]; simpa using hu) ?_) (hs _ _)
  exact ⟨B₂, g₁.trans g₂, (T x).mono g₂.le hr⟩
theorem ev_fst {v i : Expr} {p : Pos} {q : Int × Int} (hv : Ev c Γ v (tPair q)) (hi : Ev c Γ i (tInt 0))
    (hs : ∀ o j, subscripted i false o j = operate [o, j] (getItem o j) := by intros; rfl) : Ev c Γ (.Subscript v i p) (tInt q.1) := fun B s E S => by
  refine Subscript_ (wpAny_mono (hv B s E S) (fun o s₁ ⟨B₁, g₁, a, t, u, e₁, h₁⟩ => ?_) fun _ _ e => e)
  subst e₁
  refine wpAny_mono (hi B₁ s₁ E (S.grow g₁)) (fun j s₂ ⟨B₂, g₂, t', e₂⟩ => ?_) fun _ _ e => e
  subst e₂
  refine item_tupleT (k := 0) (j := 0) (x := .int q.1 t) ⟨_, g₂.sub _ _ (g₂.le _ _ h₁), rfl, 0, rfl⟩ (by decide) (by decide) (by rfl) rfl ?_ (hs _ _)
  exact ⟨B₂, g₁.trans g₂, t, rfl⟩
theorem ev_snd {v i : Expr} {p : Pos} {q : Int × Int} (hv : Ev c Γ v (tPair q)) (hi : Ev c Γ i (tInt 1))
    (hs : ∀ o j, subscripted i false o j = operate [o, j] (getItem o j) := by intros; rfl) : Ev c Γ (.Subscript v i p) (tInt q.2) := fun B s E S => by
  refine Subscript_ (wpAny_mono (hv B s E S) (fun o s₁ ⟨B₁, g₁, a, t, u, e₁, h₁⟩ => ?_) fun _ _ e => e)
  subst e₁
  refine wpAny_mono (hi B₁ s₁ E (S.grow g₁)) (fun j s₂ ⟨B₂, g₂, t', e₂⟩ => ?_) fun _ _ e => e
  subst e₂
  refine item_tupleT (k := 1) (j := 1) (x := .int q.2 u) ⟨_, g₂.sub _ _ (g₂.le _ _ h₁), rfl, 0, rfl⟩ (by decide) (by decide) (by rfl) rfl ?_ (hs _ _)
  exact ⟨B₂, g₁.trans g₂, u, rfl⟩
theorem ev_neg {x : Expr} {p : Pos} {a : Int} (h : Ev c Γ x (tInt a)) : Ev c Γ (.UnaryOp .USub x p) (tInt (-a)) := fun B s E S => by
  refine wpAny_UnaryOp (wpAny_mono (h B s E S) (fun v s₁ ⟨B₁, g₁, t, e₁⟩ => ?_) fun _ _ e => e)
  subst e₁
  exact PyProof.Rows.neg_int ⟨B₁, g₁.trans (Grow.toks (S.grow g₁).sub _), _, rfl⟩

/-! slices -/
theorem ev_upto {α : Type} {T : α → Ty} {v u : Expr} {p pos : Pos} {xs : List α} {k : Nat} (hv : Ev c Γ v (tList T xs)) (hu : Ev c Γ u (tInt k)) (hz : xs.length ≤ 1000)
    (ht : ∀ o r, letTemporaryGo v o r = pure () := by intro _ _; rfl) : Ev c Γ (.Subscript v (.Slice none (some u) none p) pos) (tList T (xs.take k)) := fun B s E S => by
  refine wpAny_Subscript_list_slice (wpAny_mono (hv B s E S) (fun o s₁ ⟨B₁, g₁, a, vs, n, e₁, h₁, r₁⟩ => ?_) fun _ _ e => e) ht
  rw [evalPart_none, evalPart_some]
  refine wpAny_pure (wpAny_mono (hu B₁ s₁ E (S.grow g₁)) (fun j s₂ ⟨B₂, g₂, t, e₂⟩ => ?_) fun _ _ e => e)
  subst e₂
  have hlen := r₁.length
  simp at hlen
  refine ⟨a, vs, none, some (k : Int), e₁, ⟨_, g₂.sub _ _ (g₂.le _ _ h₁), rfl, n, rfl⟩, by rw [sizeLine_eq]; omega, .none, .int _ _, ?_⟩
  have G1 := Grow.alloc (t := s₂.toks) ((S.grow g₁).grow g₂).sub ({ cls := .type "slice", data := .fields #[.none, .int k t, .none] } : Obj)
  have G2 := Grow.alloc (t := s₂.toks) G1.sub (lstObj (slicePick vs none (some (k : Int)) none) 0)
  have e3 : (s₂.heap.push ({ cls := .type "slice", data := .fields #[.none, .int k t, .none] } : Obj)).objs.size = s₂.heap.objs.size + 1 := Heap.size_push ..
  refine ⟨_, ((g₁.trans g₂).trans G1).trans G2, _, slicePick vs none (some (k : Int)) none, 0, rfl, ?_, ?_⟩
  · rw [← e3]; exact Wd.add_self _ _ _
  · rw [show (slicePick vs none (some (k : Int)) none).toList = vs.toList.take k by rw [slicePick_upto']]
    exact (r₁.take k).mono fun x v y => (T x).mono (g₂.le.trans (G1.le.trans G2.le)) y
theorem ev_from {α : Type} {T : α → Ty} {v u : Expr} {p pos : Pos} {xs : List α} {k : Nat} (hv : Ev c Γ v (tList T xs)) (hu : Ev c Γ u (tInt k)) (hz : xs.length ≤ 1000)
    (ht : ∀ o r, letTemporaryGo v o r = pure () := by intro _ _; rfl) : Ev c Γ (.Subscript v (.Slice (some u) none none p) pos) (tList T (xs.drop k)) := fun B s E S => by
  refine wpAny_Subscript_list_slice (wpAny_mono (hv B s E S) (fun o s₁ ⟨B₁, g₁, a, vs, n, e₁, h₁, r₁⟩ => ?_) fun _ _ e => e) ht
  rw [evalPart_none, evalPart_some]
  refine wpAny_mono (hu B₁ s₁ E (S.grow g₁)) (fun j s₂ ⟨B₂, g₂, t, e₂⟩ => wpAny_pure ?_) fun _ _ e => e
  subst e₂
  have hlen := r₁.length
  simp at hlen
  refine ⟨a, vs, some (k : Int), none, e₁, ⟨_, g₂.sub _ _ (g₂.le _ _ h₁), rfl, n, rfl⟩, by rw [sizeLine_eq]; omega, .int _ _, .none, ?_⟩
  have G1 := Grow.alloc (t := s₂.toks) ((S.grow g₁).grow g₂).sub ({ cls := .type "slice", data := .fields #[.int k t, .none, .none] } : Obj)
  have G2 := Grow.alloc (t := s₂.toks) G1.sub (lstObj (slicePick vs (some (k : Int)) none none) 0)
  have e3 : (s₂.heap.push ({ cls := .type "slice", data := .fields #[.int k t, .none, .none] } : Obj)).objs.size = s₂.heap.objs.size + 1 := Heap.size_push ..
  refine ⟨_, ((g₁.trans g₂).trans G1).trans G2, _, slicePick vs (some (k : Int)) none none, 0, rfl, ?_, ?_⟩
  · rw [← e3]; exact Wd.add_self _ _ _
  · rw [show (slicePick vs (some (k : Int)) none none).toList = vs.toList.drop k by rw [slicePick_from']]
    exact (r₁.drop k).mono fun x v y => (T x).mono (g₂.le.trans (G1.le.trans G2.le)) y

/-! two lists added -/
theorem ev_cat {α : Type} {T : α → Ty} {l r : Expr} {p : Pos} {xs ys : List α} (hl : Ev c Γ l (tList T xs)) (hr : Ev c Γ r (tList T ys)) (hx : xs.length ≤ 1000) (hy : ys.length ≤ 1000) : Ev c Γ (.BinOp l .Add r p) (tList T (xs ++ ys)) :=
  ev_bin hl hr fun B s E x y S ⟨a, vs, n, ea, ha, ra⟩ ⟨b, us, m, eb, hb, rb⟩ => by
    subst ea; subst eb
    have l1 := ra.length
    have l2 := rb.length
    simp at l1 l2
    have G := Grow.alloc (t := s.toks) S.sub (lstObj (vs ++ us) 0)
    refine P.add_list (S.sub _ _ ha) (S.sub _ _ hb) ⟨_, G, _, _, 0, rfl, Wd.add_self _ _ _, ?_⟩ (by rw [sizeLine_eq]; omega)
    rw [Array.toList_append]
    exact (ra.mono fun x v y => (T x).mono G.le y).append (rb.mono fun x v y => (T x).mono G.le y)
end
end Mine
end

section
open PySem PySem.W PyProof.Rows PySem.SeqAt
set_option Elab.async false
set_option maxRecDepth 100000
set_option linter.unusedVariables false
set_option linter.unusedSimpArgs false
set_option autoImplicit false
namespace Mine

section
variable {c : Cx} {Γ : Ga}

theorem al2_ints {B : Wd} : ∀ {ns : List Int} {vs : List Value}, Al2 (fun x v => (tInt x).R B v) ns vs → IntsAre vs ns
  | [], [], _ => .nil
  | n :: _, _ :: _, ⟨⟨t, e⟩, r⟩ => by subst e; exact .cons n t (al2_ints r)
  | [], _ :: _, x => x.elim
  | _ :: _, [], x => x.elim
theorem al2_of_ints {B : Wd} : ∀ {ns : List Int} {vs : List Value}, IntsAre vs ns → Al2 (fun x v => (tInt x).R B v) ns vs
  | _, _, .nil => trivial
  | _, _, .cons n t r => ⟨⟨t, rfl⟩, al2_of_ints r⟩

theorem units_ok {A : Around} {n : Nat} (r : Rm A n) : A.units + 64 < cLine := by have := r.u; rw [show cLine = 9900 from rfl]; omega
theorem units_ok' {A : Around} {n : Nat} (r : Rm A n) : A.units < cLine := by have := r.u; rw [show cLine = 9900 from rfl]; omega

theorem cm_eq_ints {ns ms : List Int} : Cm c (tInts ns) (tInts ms) .Eq (decide (ns = ms)) := fun B s E x y F S ⟨a, vs, n, ea, ha, ra⟩ ⟨b, us, m, eb, hb, rb⟩ => by
  subst ea; subst eb
  exact eq_intsK (vs := vs.toList) (us := us.toList) ⟨_, S.sub _ _ ha, rfl, n, by simp⟩ (al2_ints ra) ⟨_, S.sub _ _ hb, rfl, m, by simp⟩ (al2_ints rb) (units_ok F.rm) ⟨rfl, B, S.refl⟩
theorem cm_ne_ints {ns ms : List Int} : Cm c (tInts ns) (tInts ms) .NotEq (!decide (ns = ms)) := fun B s E x y F S ⟨a, vs, n, ea, ha, ra⟩ ⟨b, us, m, eb, hb, rb⟩ => by
  subst ea; subst eb
  exact ne_intsK (vs := vs.toList) (us := us.toList) ⟨_, S.sub _ _ ha, rfl, n, by simp⟩ (al2_ints ra) ⟨_, S.sub _ _ hb, rfl, m, by simp⟩ (al2_ints rb) (units_ok F.rm) ⟨rfl, B, S.refl⟩

/-! pairs as data -/
def pd (p : Int × Int) : PyData := .tuple [.int p.1, .int p.2]
theorem reads_pair {B : Wd} {h : Heap} {p : Int × Int} {v : Value} (sub : ∀ b o, B b = some o → h.get? b = some o) (r : (tPair p).R B v) : Reads h v (pd p) [] := by
  obtain ⟨a, t, u, rfl, ha⟩ := r
  refine reads_tuple_at (vs := #[.int p.1 t, .int p.2 u]) (sub _ _ ha) rfl rfl ?_
  have := ReadsAll.cons (Reads.int (h := h) p.1 t) (ReadsAll.cons (Reads.int (h := h) p.2 u) ReadsAll.nil)
  simpa using this
theorem readsAll_pairs {B : Wd} {h : Heap} (sub : ∀ b o, B b = some o → h.get? b = some o) : ∀ {ps : List (Int × Int)} {vs : List Value}, Al2 (fun p v => (tPair p).R B v) ps vs → ReadsAll h vs (ps.map pd) []
  | [], [], _ => .nil
  | p :: ps, v :: vs, ⟨r, rs⟩ => by
    have := ReadsAll.cons (reads_pair sub r) (readsAll_pairs sub rs)
    simpa using this
  | [], _ :: _, x => x.elim
  | _ :: _, [], x => x.elim
theorem shaped_pair (p : Int × Int) : shaped (pd p) = true := by
  simp [shaped, pd, PyData.canLay0, PyData.canLayAll0, PyData.depth, PyData.depthAll]
theorem canLay_pairs : ∀ ps : List (Int × Int), PyData.canLayAll0 (ps.map pd) = true
  | [] => rfl
  | p :: r => by simp [PyData.canLayAll0, pd, PyData.canLay0, canLay_pairs r]
theorem depth_pairs : ∀ ps : List (Int × Int), PyData.depthAll (ps.map pd) ≤ 1
  | [] => by simp [PyData.depthAll]
  | p :: r => by
    have := depth_pairs r
    simp only [List.map_cons, PyData.depthAll, pd, PyData.depth]
    omega
theorem shaped_pairs (ps : List (Int × Int)) : shaped (.list (ps.map pd)) = true := by
  have h1 := depth_pairs ps
  show (PyData.canLay0 (.list (ps.map pd)) && decide (PyData.depth (.list (ps.map pd)) ≤ 64)) = true
  rw [Bool.and_eq_true]
  refine ⟨by simp only [PyData.canLay0]; exact canLay_pairs ps, decide_eq_true ?_⟩
  simp only [PyData.depth]; omega
theorem shaped_nil : shaped (.list []) = true := by
  simp [shaped, PyData.canLay0, PyData.canLayAll0, PyData.depth, PyData.depthAll]

theorem cm_eq_pair {p q : Int × Int} : Cm c (tPair p) (tPair q) .Eq (decide (p = q)) := fun B s E x y F S hp hq => by
  refine eq_dataH (reads_pair S.sub hp) (reads_pair S.sub hq) (shaped_pair p) (shaped_pair q) (units_ok F.rm) ⟨?_, B, S.refl⟩
  congr 1
  simp only [pd, PyData.eqv, PyData.eqvAll, Bool.and_true]
  obtain ⟨a, b⟩ := p
  obtain ⟨d, e⟩ := q
  by_cases h1 : a = d <;> by_cases h2 : b = e <;> simp [h1, h2]
theorem cm_eq_pairs_nil {α : Type} {T : α → Ty} {ps : List (Int × Int)} : Cm c (tPairs ps) (tList T []) .Eq (decide (ps = [])) := fun B s E x y F S ⟨a, vs, n, ea, ha, ra⟩ ⟨b, us, m, eb, hb, rb⟩ => by
  subst ea; subst eb
  have hu : us.toList = [] := by
    cases h : us.toList with
    | nil => rfl
    | cons _ _ => rw [h] at rb; exact rb.elim
  have r1 := reads_list_at (S.sub _ _ ha) rfl rfl (readsAll_pairs S.sub ra)
  have r2 := reads_list_at (xs := []) (as := []) (S.sub _ _ hb) rfl rfl (by rw [hu]; exact .nil)
  refine eq_dataH r1 r2 (shaped_pairs ps) shaped_nil (units_ok F.rm) ⟨?_, B, S.refl⟩
  congr 1
  cases ps with
  | nil => simp [PyData.eqv, PyData.eqvAll]
  | cons _ _ => simp [PyData.eqv, PyData.eqvAll]

/-! two tuples, which comes first -/
theorem wp_rich_lt_int {A : Around} {w : World} {E : Value → Shared → Prop} {s : Shared} {a b : Int} {t u : Tok} {Q : Value → Shared → Prop} (h : Q (.bool (decide (a < b))) s) : wpAny (Mo w) A (richCompare .Lt (.int a t) (.int b u)) Q E s := wpAny_lt_int h
theorem cm_lt_pair {p q : Int × Int} : Cm c (tPair p) (tPair q) .Lt (lexLt p q) := fun B s E x y F S ⟨a, t, u, ea, ha⟩ ⟨b, t', u', eb, hb⟩ => by
  subst ea; subst eb
  have ta : s.TypeIs (.ref a) "tuple" := ⟨_, S.sub _ _ ha, rfl⟩
  have tb : s.TypeIs (.ref b) "tuple" := ⟨_, S.sub _ _ hb, rfl⟩
  show wpAny _ _ (richCompare .Lt (.ref a) (.ref b)) _ _ _
  refine wpAny_richCompare_same_room (op := .Lt) ta tb PySem.F.slot_tuple_lt (wpAny_call_entry PySem.F.slot_tuple_lt ta PySem.F.entry_tuple_lt ?_ (PySem.F.args_tuple_lt_2 _ _)) (units_ok' F.rm)
  refine wpAny_bind (m := slotArgs "__lt__" 1 ⟨[.ref a, .ref b], []⟩) (wpAny_of_eq (a := (Value.ref a, [Value.ref b])) rfl ?_)
  dsimp only
  refine wpAny_bind (wpAny_isInstance tb isSubtype_tuple_tuple ?_)
  simp only [Bool.not_true, Bool.false_eq_true, if_false]
  refine wpAny_bind (wpAny_tupleItemsOf (S.sub _ _ ha) rfl ?_)
  refine wpAny_bind (wpAny_tupleItemsOf (S.sub _ _ hb) rfl ?_)
  simp only [List.zip_cons_cons, List.zip_nil_right, List.forIn_cons, List.forIn_nil]
  refine wpAny_bind (wpAny_bind (wpAny_bind (wpAny_eqBool_int ?_)))
  cases h1 : (p.1 == q.1) with
  | false =>
    have n1 : p.1 ≠ q.1 := by simpa using h1
    simp only [h1, Bool.not_false, if_true]
    refine wpAny_bind (wpAny_rule (wpAny_bind (wp_rich_lt_int (wpAny_bind (wpAny_pure (wpAny_pure (wpAny_pure ?_)))))))
    refine wpAny_pure ⟨_, rfl, (fun e => nomatch e), ?_, B, S.refl⟩
    simp [lexLt, n1]
  | true =>
    have n1 : p.1 = q.1 := by simpa using h1
    simp only [h1, Bool.not_true, Bool.false_eq_true, if_false]
    refine wpAny_pure (wpAny_bind (wpAny_bind (wpAny_eqBool_int ?_)))
    cases h2 : (p.2 == q.2) with
    | false =>
      simp only [h2, Bool.not_false, if_true]
      refine wpAny_bind (wpAny_rule (wpAny_bind (wp_rich_lt_int (wpAny_bind (wpAny_pure (wpAny_pure (wpAny_pure ?_)))))))
      refine wpAny_pure ⟨_, rfl, (fun e => nomatch e), ?_, B, S.refl⟩
      simp [lexLt, n1]
    | true =>
      have n2 : p.2 = q.2 := by simpa using h2
      simp only [h2, Bool.not_true, Bool.false_eq_true, if_false]
      refine wpAny_pure (wpAny_pure ?_)
      refine wpAny_pure ⟨_, rfl, (fun e => nomatch e), ?_, B, S.refl⟩
      simp [lexLt, n1, n2, Builtin.Tuple.tupleCompareSizes]
end
end Mine
end

section
open PySem PySem.W PyProof.Rows
set_option Elab.async false
set_option maxRecDepth 100000
set_option linter.unusedVariables false
set_option linter.unusedSimpArgs false
set_option autoImplicit false
namespace Mine

/-- what is said of a list that is being made -/
structure LTy where
  R : Wd → List Value → Prop
  mono : ∀ {B B' : Wd} {vs : List Value}, Wle B B' → R B vs → R B' vs
def lList {α : Type} (T : α → Ty) (xs : List α) : LTy := ⟨fun B vs => Al2 (fun x u => (T x).R B u) xs vs, fun hle r => r.mono fun x _ y => (T x).mono hle y⟩
abbrev La := List (Addr × LTy)

structure St (c : Cx) (M : Addr → Prop) (Λ : La) (Γ : Ga) (B : Wd) (s : Shared) : Prop where
  sat : Sat c Γ B s
  dis : ∀ b o, B b = some o → ¬ M b
  mal : ∀ b, M b → ∃ o, s.heap.get? b = some o
  loc : M c.env.locals
  ns : ∃ m, s.heap.Ns c.env.locals m
  inj : ∀ x y a, M a → c.env.cells.lookup x = some a → c.env.cells.lookup y = some a → x = y
  own : ∀ q ∈ Λ, M q.1 ∧ ∃ vs n, s.heap.get? q.1 = some (lstObj vs n) ∧ q.2.R B vs.toList

structure Mv (M : Addr → Prop) (B : Wd) (s : Shared) (B' : Wd) (s' : Shared) : Prop where
  le : Wle B B'
  new : ∀ b o, B' b = some o → B b = some o ∨ s.heap.get? b = none ∨ M b
  alive : ∀ b o, s.heap.get? b = some o → ∃ o', s'.heap.get? b = some o'
  but : ∃ h' tk, s' = { s with heap := h', toks := tk } ∧ ∀ b o, ¬ M b → s.heap.get? b = some o → h'.get? b = some o

theorem Mv.get {M : Addr → Prop} {B B' : Wd} {s s' : Shared} (x : Mv M B s B' s') : ∀ b o, ¬ M b → s.heap.get? b = some o → s'.heap.get? b = some o := by
  obtain ⟨h', tk, rfl, k⟩ := x.but
  exact k
theorem Mv.refl (M : Addr → Prop) (B : Wd) (s : Shared) : Mv M B s B s := ⟨Wle.refl B, fun _ _ e => .inl e, fun _ o e => ⟨o, e⟩, s.heap, s.toks, rfl, fun _ _ _ e => e⟩
theorem Mv.trans {M : Addr → Prop} {B B' B'' : Wd} {s s' s'' : Shared} (x : Mv M B s B' s') (y : Mv M B' s' B'' s'') : Mv M B s B'' s'' where
  le := x.le.trans y.le
  new := fun b o e => by
    rcases y.new b o e with h | h | h
    · exact x.new b o h
    · refine .inr (.inl ?_)
      cases q : s.heap.get? b with
      | none => rfl
      | some o' => obtain ⟨o'', q'⟩ := x.alive b o' q; rw [q'] at h; cases h
    · exact .inr (.inr h)
  alive := fun b o e => by obtain ⟨o', e'⟩ := x.alive b o e; exact y.alive b o' e'
  but := by
    have g := x.get
    obtain ⟨h, t, rfl, k⟩ := x.but
    obtain ⟨h', t', rfl, k'⟩ := y.but
    exact ⟨h', t', rfl, fun b o n e => k' b o n (k b o n e)⟩
theorem Grow.mv {M : Addr → Prop} {B B' : Wd} {s s' : Shared} (g : Grow B s B' s') : Mv M B s B' s' := ⟨g.le, fun b o e => (g.new b o e).imp id .inl, fun b o e => ⟨o, kGet g.keeps b o e⟩, by
  obtain ⟨h, t, e, k⟩ := g.keeps
  exact ⟨h, t, e, fun b o _ => k b o⟩⟩

section
variable {c : Cx} {M : Addr → Prop} {Λ : La} {Γ : Ga} {B B' : Wd} {s s' : Shared}

theorem St.grow (S : St c M Λ Γ B s) (g : Grow B s B' s') : St c M Λ Γ B' s' where
  sat := S.sat.grow g
  dis := fun b o e m => by
    rcases g.new b o e with h | h
    · exact S.dis b o h m
    · obtain ⟨o', q⟩ := S.mal b m; rw [q] at h; cases h
  mal := fun b m => by obtain ⟨o, q⟩ := S.mal b m; exact ⟨o, kGet g.keeps b o q⟩
  loc := S.loc
  ns := by obtain ⟨m, n⟩ := S.ns; exact ⟨m, n.keeps (kGet g.keeps)⟩
  inj := S.inj
  own := fun q hq => by
    obtain ⟨m, vs, n, e, r⟩ := S.own q hq
    exact ⟨m, vs, n, kGet g.keeps _ _ e, q.2.mono g.le r⟩

theorem St.sub_Γ {Γ' : Ga} (S : St c M Λ Γ B s) (h : ∀ p ∈ Γ', p ∈ Γ) : St c M Λ Γ' B s :=
  { S with sat := ⟨S.sat.fc, S.sat.base, S.sat.sub, S.sat.cal, fun p hp => S.sat.vars p (h p hp)⟩ }

theorem cell_ne_dict {h : Heap} {a b : Addr} {ov : Option Value} {m : Str → Option Value} (x : h.IsCell a ov) (y : h.Ns b m) : a ≠ b := by
  rintro rfl
  obtain ⟨o, e, d⟩ := x
  obtain ⟨o', es, ep, e', d', _⟩ := y
  rw [e] at e'; cases e'; rw [d] at d'; cases d'
theorem list_ne_dict {h : Heap} {a b : Addr} {vs : Array Value} {n : Nat} {m : Str → Option Value} (x : h.get? a = some (lstObj vs n)) (y : h.Ns b m) : a ≠ b := by
  rintro rfl
  obtain ⟨o', es, ep, e', d', _⟩ := y
  rw [x] at e'; cases e'; cases d'
theorem list_ne_cell {h : Heap} {a b : Addr} {vs : Array Value} {n : Nat} {ov : Option Value} (x : h.get? a = some (lstObj vs n)) (y : h.IsCell b ov) : a ≠ b := by
  rintro rfl
  obtain ⟨o, e, d⟩ := y
  rw [x] at e; cases e; cases d

/-- a name that the body may store -/
def Wr (c : Cx) (M : Addr → Prop) (x : Str) : Prop := c.env.kindOf x = some .local ∨ (c.env.kindOf x = some .cell ∧ ∃ a, c.env.cells.lookup x = some a ∧ M a)

theorem wp_store {x : Str} {v : Value} {T : Ty} {Γ' : Ga} {E : Value → Shared → Prop} {Q : Unit → Shared → Prop} (S : St c M Λ Γ B s) (hx : Wr c M x) (ht : T.R B v)
    (hΓ : ∀ p ∈ Γ', p = (x, T) ∨ (p ∈ Γ ∧ p.1 ≠ x)) (h : ∀ s', St c M Λ Γ' B s' → Mv M B s B s' → Q () s') : wpAny (Mo c.w) c.A (storeName c.env x v) Q E s := by
  have key : ∀ (ad : Addr) (h' : Heap) (tk : Nat), M ad → (∀ b, b ≠ ad → h'.get? b = s.heap.get? b) → (∃ o, h'.get? ad = some o) → Rd c.env h' x v → (∀ y u, y ≠ x → Rd c.env s.heap y u → Rd c.env h' y u) →
      (∃ m, h'.Ns c.env.locals m) → (∀ y a, c.env.cells.lookup y = some a → ∃ ov, h'.IsCell a ov) → (∀ q ∈ Λ, q.1 ≠ ad) → Q () { s with heap := h', toks := tk } := by
    intro ad h' tk hM hs hal hrd hoth hns hcel hown
    have dis' : ∀ b o, B b = some o → h'.get? b = some o := fun b o e => by
      rw [hs b (fun q => S.dis b o e (q ▸ hM))]; exact S.sat.sub b o e
    refine h _ ⟨⟨S.sat.fc, S.sat.base, dis', hcel, fun p hp => ?_⟩, S.dis, fun b m => ?_, S.loc, hns, S.inj, fun q hq => ?_⟩ ⟨Wle.refl B, fun _ _ e => .inl e, fun b o e => ?_, h', tk, rfl, fun b o n e => ?_⟩
    · rcases hΓ p hp with rfl | ⟨hp', ne⟩
      · exact ⟨v, hrd, ht⟩
      · obtain ⟨u, r, t⟩ := S.sat.vars p hp'
        exact ⟨u, hoth _ _ ne r, t⟩
    · by_cases q : b = ad
      · rw [q]; exact hal
      · obtain ⟨o, e⟩ := S.mal b m; exact ⟨o, (hs b q).trans e⟩
    · obtain ⟨m, vs, n, e, r⟩ := S.own q hq
      exact ⟨m, vs, n, (hs _ (hown q hq)).trans e, r⟩
    · by_cases q : b = ad
      · rw [q]; exact hal
      · exact ⟨o, (hs b q).trans e⟩
    · exact (hs b (fun q => n (q ▸ hM))).trans e
  obtain ⟨m, hn⟩ := S.ns
  rcases hx with hl | ⟨hc, a, ha, hM⟩
  · refine wpAny_storeName_local hl hn (fun h' hn' hs' => ?_) (by rw [S.sat.fc.kind]; rfl)
    refine key c.env.locals h' _ S.loc hs'.2 (by obtain ⟨o, _, _, e, _⟩ := hn'; exact ⟨o, e⟩) (.inl ⟨hl, _, hn', by simp⟩) (fun y u ne r => ?_) ⟨_, hn'⟩ (fun y a e => ?_) (fun q hq e => ?_)
    · rcases r with ⟨hy, m₂, n₂, e₂⟩ | ⟨hy, a, ea, ia⟩
      · refine .inl ⟨hy, _, hn', ?_⟩
        have : m y = some u := by
          obtain ⟨o, es, ep, q1, q2, q3, q4⟩ := hn
          obtain ⟨o', es', ep', p1, p2, p3, p4⟩ := n₂
          rw [q1] at p1; cases p1; rw [q2] at p2; cases p2
          rw [← q4, p4]; exact e₂
        simp [ne, this]
      · refine .inr ⟨hy, a, ea, ia.sameBut hs' (cell_ne_dict ia hn)⟩
    · obtain ⟨ov, i⟩ := S.sat.cal y a e
      exact ⟨ov, i.sameBut hs' (cell_ne_dict i hn)⟩
    · obtain ⟨_, vs, n, e', _⟩ := S.own q hq
      exact list_ne_dict e' hn e
  · obtain ⟨ov, ia⟩ := S.sat.cal x a ha
    refine wpAny_storeName_cell S.sat.fc.kind hc ha ia fun h' hi' hs' => ?_
    have hne : c.env.locals ≠ a := fun e => cell_ne_dict ia hn e.symm
    refine key a h' _ hM hs'.2 (by obtain ⟨o, e, _⟩ := hi'; exact ⟨o, e⟩) (.inr ⟨.inl hc, a, ha, hi'⟩) (fun y u ne r => ?_) ⟨m, hn.sameBut hs' hne⟩ (fun y a' e => ?_) (fun q hq e => ?_)
    · rcases r with ⟨hy, m₂, n₂, e₂⟩ | ⟨hy, a', ea, ia'⟩
      · exact .inl ⟨hy, m₂, n₂.sameBut hs' hne, e₂⟩
      · refine .inr ⟨hy, a', ea, ia'.sameBut hs' fun q => ne (S.inj y x a hM (q ▸ ea) ha)⟩
    · by_cases q : a' = a
      · subst q; exact ⟨_, hi'⟩
      · obtain ⟨ov', i⟩ := S.sat.cal y a' e
        exact ⟨ov', i.sameBut hs' q⟩
    · obtain ⟨_, vs, n, e', _⟩ := S.own q hq
      exact list_ne_cell e' ia e

/-! targets -/
def Tgt (c : Cx) (M : Addr → Prop) (t : Expr) (T : Ty) (Γ Γ' : Ga) : Prop :=
  ∀ Λ B s E v, St c M Λ Γ B s → T.R B v → wpAny (Mo c.w) c.A (assign t c.env v) (fun _ s' => Mv M B s B s' ∧ St c M Λ Γ' B s') E s
theorem tg_name {x : Str} {p : Pos} {T : Ty} {Γ' : Ga} (hx : Wr c M x) (hΓ : ∀ p ∈ Γ', p = (x, T) ∨ (p ∈ Γ ∧ p.1 ≠ x)) : Tgt c M (.Name x p) T Γ Γ' := fun Λ B s E v S t =>
  wpAny_assign_Name (wp_store S hx t hΓ fun s' S' m => ⟨m, S'⟩)
theorem tg_tup {x y : Str} {p q r : Pos} {k : Nat} {T U : Ty} {Γ₁ Γ' : Ga} (hx : Wr c M x) (hy : Wr c M y) (h1 : ∀ p ∈ Γ₁, p = (x, T) ∨ (p ∈ Γ ∧ p.1 ≠ x)) (h2 : ∀ p ∈ Γ', p = (y, U) ∨ (p ∈ Γ₁ ∧ p.1 ≠ y)) :
    Tgt c M (.Tuple [.Name x p, .Name y q] k r) (tTup [T, U]) Γ Γ' := fun Λ B s E v S ⟨a, ⟨vs⟩, ea, ha, rr⟩ => by
  subst ea
  match vs, rr with
  | [v₁, v₂], ⟨t1, t2, _⟩ =>
    refine wpAny_assign_Tuple (items := #[v₁, v₂]) S.sat.fc.rm.h ⟨_, S.sat.sub _ _ ha, rfl, 0, rfl⟩ rfl rfl fun h' he => ?_
    have G : Grow B s B { s with heap := h' } := ⟨Wle.refl B, fun b o e => he b o (Nat.ne_of_lt (Heap.lt_size (S.sat.sub b o e))) (S.sat.sub b o e), fun _ _ e => .inl e,
      ⟨h', s.toks, rfl, fun b o e => he b o (Nat.ne_of_lt (Heap.lt_size e)) e⟩⟩
    show wpAny _ _ (assignInOrder [assign (.Name x p) c.env, assign (.Name y q) c.env] [v₁, v₂]) _ _ _
    refine wpAny_bind (wpAny_holding (wpAny_assign_Name (wp_store (S.grow G) hx t1 h1 fun s₁ S₁ m₁ => ?_)))
    refine wpAny_bind (wpAny_holding (wpAny_assign_Name (wp_store S₁ hy t2 h2 fun s₂ S₂ m₂ => ?_)))
    exact wpAny_pure ⟨((Grow.mv G).trans m₁).trans m₂, S₂⟩
theorem pair_tup {p : Int × Int} {B : Wd} {v : Value} (h : (tPair p).R B v) : (tTup [tInt p.1, tInt p.2]).R B v := by
  obtain ⟨a, t, u, e, ha⟩ := h
  exact ⟨a, _, e, ha, ⟨t, rfl⟩, ⟨u, rfl⟩, trivial⟩
theorem tg_pair {x y : Str} {p q r : Pos} {k : Nat} {z : Int × Int} {Γ₁ Γ' : Ga} (hx : Wr c M x) (hy : Wr c M y) (h1 : ∀ p ∈ Γ₁, p = (x, tInt z.1) ∨ (p ∈ Γ ∧ p.1 ≠ x)) (h2 : ∀ p ∈ Γ', p = (y, tInt z.2) ∨ (p ∈ Γ₁ ∧ p.1 ≠ y)) :
    Tgt c M (.Tuple [.Name x p, .Name y q] k r) (tPair z) Γ Γ' := fun Λ B s E v S t => tg_tup hx hy h1 h2 Λ B s E v S (pair_tup t)

/-! statements -/
abbrev Pr := Wd → Shared → Prop
def Ex (c : Cx) (M : Addr → Prop) (P : Pr) (b : List Stmt) (Q : Flow → Pr) : Prop :=
  ∀ B s E, P B s → wpAny (Mo c.w) c.A (execs b c.env) (fun f s' => ∃ B', Mv M B s B' s' ∧ Q f B' s') E s
def Ex1 (c : Cx) (M : Addr → Prop) (P : Pr) (b : Stmt) (Q : Flow → Pr) : Prop :=
  ∀ B s E, P B s → wpAny (Mo c.w) c.A (exec b c.env) (fun f s' => ∃ B', Mv M B s B' s' ∧ Q f B' s') E s
/-- goes on, and then -/
def nxt (P : Pr) : Flow → Pr := fun f B s => f = .next ∧ P B s
def rets (T : Ty) : Flow → Pr := fun f B s => ∃ v, f = .ret v ∧ (∀ b o, B b = some o → s.heap.get? b = some o) ∧ T.R B v

theorem ex_nil {P : Pr} : Ex c M P [] (nxt P) := fun B s E h => wpAny_execs_nil ⟨B, Mv.refl M B s, rfl, h⟩
theorem ex_cons {P P' : Pr} {Q : Flow → Pr} {st : Stmt} {rest : List Stmt} (h : Ex1 c M P st (nxt P')) (hr : Ex c M P' rest Q) : Ex c M P (st :: rest) Q := fun B s E hp => by
  refine wpAny_execs_cons (wpAny_mono (h B s E hp) (fun f s₁ ⟨B₁, m₁, e, p₁⟩ => ?_) fun _ _ e => e)
  subst e
  exact wpAny_mono (hr B₁ s₁ E p₁) (fun f s₂ ⟨B₂, m₂, q₂⟩ => ⟨B₂, m₁.trans m₂, q₂⟩) fun _ _ e => e
/-- the last statement that counts -/
theorem ex_end {P : Pr} {Q : Flow → Pr} {st : Stmt} {rest : List Stmt} (h : Ex1 c M P st Q) (hq : ∀ B s, ¬ Q .next B s) : Ex c M P (st :: rest) Q := fun B s E hp => by
  refine wpAny_execs_cons (wpAny_mono (h B s E hp) (fun f s₁ ⟨B₁, m₁, q₁⟩ => ?_) fun _ _ e => e)
  cases f with
  | next => exact (hq _ _ q₁).elim
  | brk => exact ⟨B₁, m₁, q₁⟩
  | cont => exact ⟨B₁, m₁, q₁⟩
  | ret v => exact ⟨B₁, m₁, q₁⟩
theorem ex_one {P P' : Pr} {st : Stmt} (h : Ex1 c M P st (nxt P')) : Ex c M P [st] (nxt P') := ex_cons h ex_nil
theorem ex_pre {P P' : Pr} {Q : Flow → Pr} {b : List Stmt} (h : Ex c M P b Q) (hp : ∀ B s, P' B s → P B s) : Ex c M P' b Q := fun B s E p => h B s E (hp B s p)
theorem ex_post {P : Pr} {Q Q' : Flow → Pr} {b : List Stmt} (h : Ex c M P b Q) (hq : ∀ f B s, Q f B s → Q' f B s) : Ex c M P b Q' := fun B s E p =>
  wpAny_mono (h B s E p) (fun f s' ⟨B', m, q⟩ => ⟨B', m, hq f B' s' q⟩) fun _ _ e => e
theorem ex1_post {P : Pr} {Q Q' : Flow → Pr} {b : Stmt} (h : Ex1 c M P b Q) (hq : ∀ f B s, Q f B s → Q' f B s) : Ex1 c M P b Q' := fun B s E p =>
  wpAny_mono (h B s E p) (fun f s' ⟨B', m, q⟩ => ⟨B', m, hq f B' s' q⟩) fun _ _ e => e

theorem ex_return {e : Expr} {p : Pos} {T : Ty} (h : Ev c Γ e T) : Ex1 c M (St c M Λ Γ) (.Return (some e) p) (rets T) := fun B s E S => by
  refine wpAny_Return_some (wpAny_mono (h B s E S.sat) (fun v s₁ ⟨B₁, g₁, t₁⟩ => ?_) fun _ _ e => e)
  exact ⟨B₁, Grow.mv g₁, v, rfl, g₁.sub, t₁⟩
theorem ex_assign {x : Str} {p pos : Pos} {e : Expr} {T : Ty} {Γ' : Ga} (h : Ev c Γ e T) (hx : Wr c M x) (hΓ : ∀ p ∈ Γ', p = (x, T) ∨ (p ∈ Γ ∧ p.1 ≠ x))
    (hs : swapsWith e (some (.Name x p)) pos.line c.env = pure false := by rfl) : Ex1 c M (St c M Λ Γ) (.Assign [.Name x p] e pos) (nxt (St c M Λ Γ')) := fun B s E S => by
  refine wpAny_Assign_Name (wpAny_mono (h B s E S.sat) (fun v s₁ ⟨B₁, g₁, t₁⟩ => ?_) fun _ _ e => e) hs
  exact wp_store (S.grow g₁) hx t₁ hΓ fun s' S' m => ⟨B₁, (Grow.mv g₁).trans m, rfl, S'⟩
theorem ex_assign_t {t : Expr} {pos : Pos} {e : Expr} {T : Ty} {Γ' : Ga} (h : Ev c Γ e T) (ht : Tgt c M t T Γ Γ') (hs : swapsWithSole [t] e pos.line c.env = pure false := by rfl)
    (hw : swappedStores [t] e c.env = pure none := by rfl) (he : (assignEach [t] c.env).map (·.2) = [assign t c.env] := by rfl) : Ex1 c M (St c M Λ Γ) (.Assign [t] e pos) (nxt (St c M Λ Γ')) := fun B s E S => by
  refine wpAny_Assign_stores (wpAny_mono (h B s E S.sat) (fun v s₁ ⟨B₁, g₁, t₁⟩ => ?_) fun _ _ e => e) hs hw
  rw [he]
  show wpAny _ _ (assign t c.env v) _ _ _
  refine wpAny_mono (ht Λ B₁ s₁ E v (S.grow g₁) t₁) (fun _ s₂ ⟨m₂, S₂⟩ => ?_) fun _ _ e => e
  exact ⟨B₁, (Grow.mv g₁).trans m₂, rfl, S₂⟩
theorem ex_if {t : Expr} {b₁ b₂ : List Stmt} {p : Pos} {q : Bool} {Q : Flow → Pr} (ht : Te c Γ t q) (h1 : q = true → Ex c M (St c M Λ Γ) b₁ Q) (h2 : q = false → Ex c M (St c M Λ Γ) b₂ Q) : Ex1 c M (St c M Λ Γ) (.If t b₁ b₂ p) Q := fun B s E S => by
  refine wpAny_If (wpAny_mono (ht B s E S.sat) (fun r s₁ ⟨e₁, B₁, g₁⟩ => ?_) fun _ _ e => e)
  subst e₁
  cases r with
  | true => simp only [if_true]; exact wpAny_mono (h1 rfl B₁ s₁ E (S.grow g₁)) (fun f s₂ ⟨B₂, m₂, q₂⟩ => ⟨B₂, (Grow.mv g₁).trans m₂, q₂⟩) fun _ _ e => e
  | false => simp only [Bool.false_eq_true, if_false]; exact wpAny_mono (h2 rfl B₁ s₁ E (S.grow g₁)) (fun f s₂ ⟨B₂, m₂, q₂⟩ => ⟨B₂, (Grow.mv g₁).trans m₂, q₂⟩) fun _ _ e => e
end
end Mine
end

section
open PySem PySem.W PyProof.Rows
set_option Elab.async false
set_option maxRecDepth 100000
set_option linter.unusedVariables false
set_option linter.unusedSimpArgs false
set_option autoImplicit false
namespace Mine

def tRange (a b : Int) : Ty :=
  ⟨fun B v => ∃ r t u w, v = .ref r ∧ B r = some { cls := .type "range", data := .fields #[.int a t, .int b u, .int 1 w] },
   fun hle ⟨r, t, u, w, e, h⟩ => ⟨r, t, u, w, e, hle _ _ h⟩⟩
/-- a list of which only this is known -/
def tListW {α : Type} (T : α → Ty) (xs : List α) : Ty :=
  ⟨fun B v => ∃ a o vs n, v = .ref a ∧ B a = some o ∧ o.cls = .type "list" ∧ o.data = .seq vs n ∧ Al2 (fun x u => (T x).R B u) xs vs.toList,
   fun hle ⟨a, o, vs, n, e, h, hc, hd, r⟩ => ⟨a, o, vs, n, e, hle _ _ h, hc, hd, r.mono fun x _ y => (T x).mono hle y⟩⟩

def FieldsAt (I : Addr) (h : Heap) : Prop := ∃ o vs, h.get? I = some o ∧ o.data = .fields vs

/-- what an iteration over a value of T gives -/
def Itb (c : Cx) (T : Ty) {α : Type} (Tx : α → Ty) (xs : List α) : Prop :=
  ∀ B s E v, Fc c → Ws c.H B s → T.R B v → wpAny (Mo c.w) c.A (pyIter v) (fun it s' => ∃ I fp P Stt, it = .ref I ∧ Walks PySem.Challenge.rw_ge0003_01.row.prog c.w c.A I fp [I] xs.length P Stt ∧ Stt 0 s'.heap ∧
    s.heap.get? I = none ∧ (∀ b ∈ fp, b = I ∨ ∃ o, B b = some o) ∧ Grow B s B s' ∧ (∀ i h, Stt i h → FieldsAt I h) ∧
    (∀ (es : List Expr) (k : Nat) (p : Pos) (i j : Nat) v s₁ (Q : Unit → Shared → Prop) E₁, P i v → Stt j s₁.heap → Q () s₁ → wpAny (Mo c.w) c.A (letOwnedTupleGo (.Tuple es k p) it v) Q E₁ s₁) ∧
    (∀ (i : Nat) v x, P i v → xs[i]? = some x → (Tx x).R B v)) E s

theorem letGo_list {prog : Program} {w : World} {A : Around} {E : Value → Shared → Prop} {s : Shared} {elts : List Expr} {k : Nat} {p : Pos} {I l : Addr} {i : Nat} {v : Value} {Q : Unit → Shared → Prop} (hit : s.heap.IsListIter I l i) (h : Q () s) :
    wpAny (model prog w) A (letOwnedTupleGo (.Tuple elts k p) (.ref I) v) Q E s := by
  cases v with
  | ref a => exact wpAny_letOwnedTupleGo_listiter hit h
  | _ => exact wpAny_pure h

section
variable {c : Cx} {M : Addr → Prop} {Λ : La} {Γ : Ga} {B B' : Wd} {s s' : Shared}

theorem itb_list {α : Type} {T : α → Ty} {xs : List α} : Itb c (tList T xs) T xs := fun B s E v F W ⟨a, vs, n, ea, ha, ra⟩ => by
  subst ea
  have hl : s.heap.IsList a vs := ⟨_, W.sub _ _ ha, rfl, n, rfl⟩
  have hlt : a < s.heap.objs.size := Heap.lt_size (W.sub _ _ ha)
  have hlen := ra.length
  simp at hlen
  refine wpAny_pyIter_list hl ⟨s.heap.objs.size, [s.heap.objs.size, a], (fun i v => vs[i]? = some v), (fun i h => h.IsListIter s.heap.objs.size a i ∧ h.IsList a vs), rfl, ?_, ⟨⟨_, Heap.get?_push_size _ rfl, rfl, rfl⟩, hl.push _⟩, get?_size_none _, ?_, ?_, ?_, ?_, ?_⟩
  · rw [← hlen]; exact Walks.list F.rm.h _ _ (Nat.ne_of_lt hlt) vs
  · intro b hb
    rcases List.mem_cons.mp hb with rfl | hb
    · exact .inl rfl
    · rw [List.mem_singleton.mp hb]; exact .inr ⟨_, ha⟩
  · exact ⟨Wle.refl B, fun b o e => Heap.get?_push_of_some _ (W.sub _ _ e), fun _ _ e => .inl e, _, s.toks, rfl, fun b o e => Heap.get?_push_of_some _ e⟩
  · rintro i h ⟨⟨o, e, _, d⟩, _⟩; exact ⟨o, _, e, d⟩
  · rintro es k p i j v s₁ Q E₁ _ ⟨hit, _⟩ q; exact letGo_list hit q
  · intro i v x hp hx
    obtain ⟨u, hu, r⟩ := ra.get hx
    have : vs[i]? = some u := by simpa using hu
    rw [this] at hp; cases hp
    exact r
theorem itb_listW {α : Type} {T : α → Ty} {xs : List α} : Itb c (tListW T xs) T xs := fun B s E v F W ⟨a, o, vs, n, ea, ha, hc, hd, ra⟩ => by
  subst ea
  have hl : s.heap.IsList a vs := ⟨_, W.sub _ _ ha, hc, n, hd⟩
  have hlt : a < s.heap.objs.size := Heap.lt_size (W.sub _ _ ha)
  have hlen := ra.length
  simp at hlen
  refine wpAny_pyIter_list hl ⟨s.heap.objs.size, [s.heap.objs.size, a], (fun i v => vs[i]? = some v), (fun i h => h.IsListIter s.heap.objs.size a i ∧ h.IsList a vs), rfl, ?_, ⟨⟨_, Heap.get?_push_size _ rfl, rfl, rfl⟩, hl.push _⟩, get?_size_none _, ?_, ?_, ?_, ?_, ?_⟩
  · rw [← hlen]; exact Walks.list F.rm.h _ _ (Nat.ne_of_lt hlt) vs
  · intro b hb
    rcases List.mem_cons.mp hb with rfl | hb
    · exact .inl rfl
    · rw [List.mem_singleton.mp hb]; exact .inr ⟨_, ha⟩
  · exact ⟨Wle.refl B, fun b o e => Heap.get?_push_of_some _ (W.sub _ _ e), fun _ _ e => .inl e, _, s.toks, rfl, fun b o e => Heap.get?_push_of_some _ e⟩
  · rintro i h ⟨⟨o, e, _, d⟩, _⟩; exact ⟨o, _, e, d⟩
  · rintro es k p i j v s₁ Q E₁ _ ⟨hit, _⟩ q; exact letGo_list hit q
  · intro i v x hp hx
    obtain ⟨u, hu, r⟩ := ra.get hx
    have : vs[i]? = some u := by simpa using hu
    rw [this] at hp; cases hp
    exact r

theorem range_small {a b : Int} (ha : 0 ≤ a) (ha' : a ≤ 100000) (hb : 0 ≤ b) (hb' : b ≤ 100000) : Builtin.Range.small a b 1 = true := by
  have hs : Builtin.Range.rangeSize a b 1 = if a < b then b - a else 0 := by
    unfold Builtin.Range.rangeSize
    rw [if_pos (by decide)]
    split <;> simp
  have fit : ∀ z : Int, -1000000 ≤ z → z ≤ 1000000 → Builtin.Range.rangeFitsLong z = true := by
    intro z h1 h2
    unfold Builtin.Range.rangeFitsLong
    simp only [Bool.and_eq_true, decide_eq_true_eq]
    omega
  unfold Builtin.Range.small
  have h3 : 0 ≤ Builtin.Range.rangeSize a b 1 := by rw [hs]; split <;> omega
  have h4 : Builtin.Range.rangeSize a b 1 ≤ 100000 := by rw [hs]; split <;> omega
  rw [fit a (by omega) (by omega), fit b (by omega) (by omega), fit 1 (by omega) (by omega), fit _ (by omega) (by omega)]
  simp
  right
  exact fit b (by omega) (by omega)
theorem range_size {a b : Int} (h : a ≤ b) : Builtin.Range.rangeSize a b 1 = b - a := by
  unfold Builtin.Range.rangeSize
  rw [if_pos (by decide)]
  split <;> (try simp) <;> omega
theorem range_size' {a b : Int} : Builtin.Range.rangeSize a b 1 = ((b - a).toNat : Int) := by
  unfold Builtin.Range.rangeSize
  rw [if_pos (by decide)]
  split <;> (try simp) <;> omega
/-- the ints of a range -/
def rInts (a b : Int) : List Int := (List.range (b - a).toNat).map fun (i : Nat) => a + (i : Int)
theorem rInts_length (a b : Int) : (rInts a b).length = (b - a).toNat := by simp [rInts]
theorem itb_range {a b : Int} (ha : 0 ≤ a) (ha' : a ≤ 100000) (hb : 0 ≤ b) (hb' : b ≤ 100000) : Itb c (tRange a b) tInt (rInts a b) := fun B s E v F W ⟨r, t, u, w, er, hr⟩ => by
  subst er
  refine wpAny_pyIter_range (t := t) (u := u) (v := w) (W.sub _ _ hr) (range_small ha ha' hb hb') ⟨s.heap.objs.size, [s.heap.objs.size], (fun i v => ∃ t, v = .int (a + (i : Int) * 1) t),
    (fun i h => IsRangeIter h s.heap.objs.size (a + (i : Nat) * 1) (((rInts a b).length : Int) - (i : Nat)) 1), rfl, Walks.range F.rm.h _ a 1 _, ?_, get?_size_none _, ?_, ?_, ?_, ?_, ?_⟩
  · show IsRangeIter _ _ _ _ _
    have e1 : a + ((0 : Nat) : Int) * 1 = a := by simp
    have e2 : (((rInts a b).length : Int) - ((0 : Nat) : Int)) = Builtin.Range.rangeSize a b 1 := by rw [rInts_length, range_size']; simp
    rw [e1, e2]
    exact Heap.get?_push_size _ rfl
  · intro b hb; exact .inl (List.mem_singleton.mp hb)
  · exact ⟨Wle.refl B, fun b o e => Heap.get?_push_of_some _ (W.sub _ _ e), fun _ _ e => .inl e, _, s.toks, rfl, fun b o e => Heap.get?_push_of_some _ e⟩
  · intro i h st; exact ⟨_, _, st, rfl⟩
  · rintro es k p i j v s₁ Q E₁ ⟨t, rfl⟩ _ q; exact wpAny_pure q
  · rintro i v x ⟨t, rfl⟩ hx
    refine ⟨t, ?_⟩
    simp only [rInts, List.getElem?_map, Option.map_eq_some_iff] at hx
    obtain ⟨j, hj, rfl⟩ := hx
    obtain ⟨_, rfl⟩ := List.getElem?_eq_some_iff.mp hj
    simp
end
end Mine
end

section
open PySem PySem.W PyProof.Rows
set_option Elab.async false
set_option maxRecDepth 100000
set_option linter.unusedVariables false
set_option linter.unusedSimpArgs false
set_option autoImplicit false
namespace Mine

section
variable {w : World} {A : Around} {R : Result → Shared → Prop} {s : Shared}
theorem forLoop_gen {target : Expr} {it : Value} {body orelse : List Stmt} {env : Env} (I : Nat → Shared → Prop)
    (turn : ∀ n s, I n s → wpAny (Mo w) A (pyNext it) (fun r s₁ => match r with
      | none => wpAny (Mo w) A (execs orelse env) (fun f s₃ => R (.ok f) s₃) (notedBy (Mo w) A env fun e s' => R (.error e) s') s₁
      | some v => wpAny (Mo w) A (letOwnedTupleGo target it v) (fun _ s₁' => wpAny (Mo w) A (assign target env v) (fun _ s₂ => wpAny (Mo w) A (execs body env) (fun f s₃ => match f with
          | .next | .cont => ∃ m, m < n ∧ I m s₃
          | .brk => R (.ok .next) s₃
          | .ret v => R (.ok (.ret v)) s₃) (notedBy (Mo w) A env fun e s' => R (.error e) s') s₂) (notedBy (Mo w) A env fun e s' => R (.error e) s') s₁')
            (notedBy (Mo w) A env fun e s' => R (.error e) s') s₁) (notedBy (Mo w) A env fun e s' => R (.error e) s') s)
    (n : Nat) (h : I n s) : codeAny (Mo w) A (.forLoop target it body orelse env) R s := by
  refine codeAny_loop' rfl I (fun n s hI => ?_) n h
  show wpAny _ _ ((forTurn target it body orelse env).onRaise (fun x => do noteFrame x env; theTreesLotGoes x)) _ _ s
  refine wpAny_noted ?_
  simp only [forTurn]
  refine wpAny_bind (wpAny_standAt (wpAny_bind (wpAny_onRaise (wpAny_mono (turn n s hI) (fun r s₁ h₁ => ?_) fun _ _ h' => wpAny_standAt h'))))
  cases r with
  | none => exact wpAny_pure (.inr ⟨rfl, codeAny_block h₁⟩)
  | some v =>
    refine wpAny_bind (wpAny_mono h₁ (fun _ s₁' h₁' => ?_) fun _ _ h' => h')
    refine wpAny_bind (wpAny_mono h₁' (fun _ s₂ h₂ => wpAny_bind (wpAny_mono h₂ (fun f s₃ h₃ => ?_) fun _ _ h' => h')) fun _ _ h' => h')
    cases f with
    | next => exact wpAny_pure (.inl ⟨rfl, h₃⟩)
    | cont => exact wpAny_pure (.inl ⟨rfl, h₃⟩)
    | brk => exact wpAny_pure h₃
    | ret v => exact wpAny_pure h₃
end

section
variable {c : Cx} {M : Addr → Prop} {Λ : La} {Γ : Ga} {B B' : Wd} {s s' : Shared}

/-- another's object is changed -/
theorem St.other {I : Addr} {h' : Heap} {tk : Nat} (S : St c M Λ Γ B s) (hc : ∀ {b ov}, s.heap.IsCell b ov → b ≠ I) (hB : B I = none) (hM : ¬ M I) (k : ∀ b o, b ∉ [I] → s.heap.get? b = some o → h'.get? b = some o) :
    St c M Λ Γ B { s with heap := h', toks := tk } := by
  have k' : ∀ b o, b ≠ I → s.heap.get? b = some o → h'.get? b = some o := fun b o n e => k b o (fun h => n (List.mem_singleton.mp h)) e
  have hN : ∀ {m}, s.heap.Ns c.env.locals m → h'.Ns c.env.locals m := fun {m} n => n.at' fun o e => k' _ o (fun q => hM (q ▸ S.loc)) e
  have hC : ∀ {b ov}, s.heap.IsCell b ov → h'.IsCell b ov := fun {b ov} i => by
    have ne := hc i
    obtain ⟨o, e, d⟩ := i
    exact ⟨o, k' b o ne e, d⟩
  refine ⟨⟨S.sat.fc, S.sat.base, fun b o e => k' b o (fun q => ?_) (S.sat.sub b o e), fun x a e => ?_, fun p hp => ?_⟩, S.dis, fun b m => ?_, S.loc, ?_, S.inj, fun q hq => ?_⟩
  · subst q; rw [hB] at e; cases e
  · obtain ⟨ov, i⟩ := S.sat.cal x a e; exact ⟨ov, hC i⟩
  · obtain ⟨v, r, t⟩ := S.sat.vars p hp
    refine ⟨v, ?_, t⟩
    rcases r with ⟨a, m, n, e⟩ | ⟨a, cc, e, i⟩
    · exact .inl ⟨a, m, hN n, e⟩
    · exact .inr ⟨a, cc, e, hC i⟩
  · obtain ⟨o, e⟩ := S.mal b m
    exact ⟨o, k' b o (fun q => hM (q ▸ m)) e⟩
  · obtain ⟨m, n⟩ := S.ns; exact ⟨m, hN n⟩
  · obtain ⟨m, vs, n, e, r⟩ := S.own q hq
    exact ⟨m, vs, n, k' _ _ (fun z => hM (z ▸ m)) e, r⟩
/-- the iterator moves on: nothing of ours is its -/
theorem St.step {I : Addr} {h' : Heap} {tk : Nat} (S : St c M Λ Γ B s) (hI : FieldsAt I s.heap) (hB : B I = none) (hM : ¬ M I) (k : ∀ b o, b ∉ [I] → s.heap.get? b = some o → h'.get? b = some o) :
    St c M Λ Γ B { s with heap := h', toks := tk } := by
  refine S.other (fun {b ov} i => ?_) hB hM k
  rintro rfl
  obtain ⟨o, e, d⟩ := i
  obtain ⟨o', vs, e', d'⟩ := hI
  rw [e] at e'; cases e'; rw [d] at d'; cases d'
theorem Mv.step {I : Addr} {h' : Heap} {tk : Nat} {B₀ : Wd} {s₀ : Shared} (m : Mv M B₀ s₀ B s) (hI : s₀.heap.get? I = none) (k : ∀ b o, b ∉ [I] → s.heap.get? b = some o → h'.get? b = some o) :
    Mv M B₀ s₀ B { s with heap := h', toks := tk } := by
  have k' : ∀ b o, b ≠ I → s.heap.get? b = some o → h'.get? b = some o := fun b o n e => k b o (fun h => n (List.mem_singleton.mp h)) e
  have hn : ∀ b o, s₀.heap.get? b = some o → b ≠ I := fun b o e q => by rw [q, hI] at e; cases e
  refine ⟨m.le, m.new, fun b o e => ?_, ?_⟩
  · obtain ⟨o', e'⟩ := m.alive b o e
    exact ⟨o', k' b o' (hn b o e) e'⟩
  · obtain ⟨h₁, t₁, rfl, kk⟩ := m.but
    exact ⟨h', tk, rfl, fun b o n e => k' b o (hn b o e) (kk b o n e)⟩

theorem ex_for {α : Type} {target iter : Expr} {body : List Stmt} {pos : Pos} {T : Ty} {Tx : α → Ty} {xs : List α} {Γi : Nat → Ga} {Λi : Nat → La} {Hi : Nat → Prop} {Γt : Nat → α → Ga} {Qr : Flow → Pr}
    (hit : Ev c (Γi 0) iter T) (hb : Itb c T Tx xs) (h0 : Hi 0)
    (htg : ∀ i x, xs[i]? = some x → Hi i → Tgt c M target (Tx x) (Γi i) (Γt i x))
    (hbody : ∀ i x, xs[i]? = some x → Hi i → Ex c M (St c M (Λi i) (Γt i x)) body (fun f B s => (f = .next ∧ Hi (i + 1) ∧ St c M (Λi (i + 1)) (Γi (i + 1)) B s) ∨ Qr f B s))
    (hr : ∀ f B s, Qr f B s → ∃ v, f = .ret v)
    (hs : ∀ x, foldedSetIterable iter c.env x = pure x := by intro _; rfl)
    (hn : ∀ (t : Expr) (x : Str) (p : Pos) (it v : Value), t = .Name x p → letOwnedTupleGo t it v = pure () := by rintro _ _ _ _ _ rfl; rfl)
    (ht : (∃ x p, target = .Name x p) ∨ ∃ es k p, target = .Tuple es k p) :
    Ex1 c M (St c M (Λi 0) (Γi 0)) (.For target iter body [] pos) (fun f B s => (f = .next ∧ Hi xs.length ∧ St c M (Λi xs.length) (Γi xs.length) B s) ∨ Qr f B s) := fun B s E S => by
  refine wpAny_For (wpAny_mono (hit B s E S.sat) (fun v s₁ ⟨B₁, g₁, t₁⟩ => ?_) fun _ _ e => e) hs
  refine wpAny_mono (hb B₁ s₁ E v S.sat.fc (S.sat.grow g₁).ws t₁) (fun it s₂ ⟨I, fp, P, Stt, eit, W, st0, hI, hfp, g₂, hfa, hlg, hP⟩ => ?_) fun _ _ e => e
  subst eit
  have S₁ := S.grow g₁
  have S₂ := S₁.grow g₂
  have hB₁ : B₁ I = none := by
    cases q : B₁ I with
    | none => rfl
    | some o => have := g₁.sub _ _ q; rw [hI] at this; cases this
  have hMI : ¬ M I := fun m => by obtain ⟨o, e⟩ := S₁.mal I m; rw [hI] at e; cases e
  refine forLoop_gen
    (fun n s' => ∃ i B', i ≤ xs.length ∧ n = xs.length + 1 - i ∧ Hi i ∧ St c M (Λi i) (Γi i) B' s' ∧ Mv M B₁ s₁ B' s' ∧ Stt i s'.heap ∧ B' I = none) ?_ (xs.length + 1)
    ⟨0, B₁, Nat.zero_le _, rfl, h0, S₂, Grow.mv g₂, st0, hB₁⟩
  rintro n s' ⟨i, B', hi, rfl, hH, S', m', st', hBI⟩
  by_cases hlt : i < xs.length
  · obtain ⟨x, hx⟩ : ∃ x, xs[i]? = some x := ⟨xs[i], by simp [hlt]⟩
    refine W.item i _ _ _ hlt st' fun v h' tk hPv stn k => ?_
    have Sn := S'.step (tk := tk) (hfa _ _ st') hBI hMI k
    have mn := m'.step (tk := tk) hI k
    have hgo : ∀ (Q : Unit → Shared → Prop) E₁, Q () { s' with heap := h', toks := tk } → wpAny (Mo c.w) c.A (letOwnedTupleGo target (.ref I) v) Q E₁ { s' with heap := h', toks := tk } := by
      intro Q E₁ q
      rcases ht with ⟨y, p, rfl⟩ | ⟨es, k, p, rfl⟩
      · rw [hn _ y p _ _ rfl]; exact wpAny_pure q
      · exact hlg es k p i (i + 1) v { s' with heap := h', toks := tk } Q E₁ hPv stn q
    refine hgo _ _ ?_
    refine wpAny_mono (htg i x hx hH (Λi i) B' { s' with heap := h', toks := tk } _ v Sn ((Tx x).mono m'.le (hP i v x hPv hx))) (fun _ s₃ ⟨m₃, S₃⟩ => ?_) fun _ _ e => e
    refine wpAny_mono (hbody i x hx hH B' s₃ _ S₃) (fun f s₄ ⟨B₄, m₄, q⟩ => ?_) fun _ _ e => e
    have mm := (mn.trans m₃).trans m₄
    rcases q with ⟨rfl, hH', S₄⟩ | q
    · refine ⟨xs.length + 1 - (i + 1), by omega, i + 1, B₄, hlt, rfl, hH', S₄, mm, ?_, ?_⟩
      · refine W.frame _ _ _ stn fun b hb' o e => ?_
        have nM : ¬ M b := by
          rcases hfp b hb' with rfl | ⟨o', e'⟩
          · exact hMI
          · exact S'.dis b o' (m'.le _ _ e')
        exact m₄.get b o nM (m₃.get b o nM e)
      · obtain ⟨oI, _, eI, _⟩ := hfa _ _ stn
        cases q : B₄ I with
        | none => rfl
        | some o =>
          rcases m₄.new I o q with h | h | h
          · rw [hBI] at h; cases h
          · rw [m₃.get I oI hMI eI] at h; cases h
          · exact (hMI h).elim
    · obtain ⟨v', rfl⟩ := hr _ _ _ q
      exact ⟨B₄, (Grow.mv g₁).trans mm, .inr q⟩
  · have hie : i = xs.length := by omega
    subst hie
    refine W.done _ _ _ st' fun h' tk k => ?_
    refine wpAny_execs_nil ⟨B', (Grow.mv g₁).trans (m'.step hI k), .inl ⟨rfl, hH, S'.step (hfa _ _ st') hBI hMI k⟩⟩

/-- a while: by a ghost that each turn lowers -/
theorem ex_while {σ : Type} {test : Expr} {body : List Stmt} {pos : Pos} {Γi : σ → Ga} {Hi : σ → Prop} {ms : σ → Nat} {go : σ → Bool} {nx : σ → σ} {fin : σ → Prop}
    (ht : ∀ g, Hi g → Te c (Γi g) test (go g))
    (hb : ∀ g, Hi g → go g = true → Hi (nx g) ∧ ms (nx g) < ms g ∧ Ex c M (St c M Λ (Γi g)) body (nxt (St c M Λ (Γi (nx g)))))
    (hf : ∀ g, Hi g → go g = false → fin g) (g₀ : σ) (h0 : Hi g₀) :
    Ex1 c M (St c M Λ (Γi g₀)) (.While test body [] pos) (fun f B s => f = .next ∧ ∃ g, fin g ∧ St c M Λ (Γi g) B s) := fun B s E S => by
  refine wpAny_While ?_
  refine codeAny_whileLoop (fun n s' => ∃ g B', n = ms g ∧ Hi g ∧ St c M Λ (Γi g) B' s' ∧ Mv M B s B' s') ?_ (ms g₀) ⟨g₀, B, rfl, h0, S, Mv.refl M B s⟩
  rintro n s' ⟨g, B', rfl, hH, S', m'⟩
  refine wpAny_mono (ht g hH B' s' _ S'.sat) (fun r s₁ ⟨e₁, B₁, g₁⟩ => ?_) fun _ _ e => e
  subst e₁
  have S₁ := S'.grow g₁
  cases hgo : go g with
  | true =>
    simp only [if_true]
    obtain ⟨h1, h2, h3⟩ := hb g hH hgo
    refine wpAny_mono (h3 B₁ s₁ _ S₁) (fun f s₂ ⟨B₂, m₂, e₂, S₂⟩ => ?_) fun _ _ e => e
    subst e₂
    exact ⟨ms (nx g), h2, nx g, B₂, rfl, h1, S₂, (m'.trans (Grow.mv g₁)).trans m₂⟩
  | false =>
    simp only [Bool.false_eq_true, if_false]
    exact wpAny_execs_nil ⟨B₁, m'.trans (Grow.mv g₁), rfl, g, hf g hH hgo, S₁⟩
end
end Mine
end

section
open PySem PySem.W PyProof.Rows
set_option Elab.async false
set_option maxRecDepth 100000
set_option linter.unusedVariables false
set_option linter.unusedSimpArgs false
set_option autoImplicit false
namespace Mine

section
variable {c : Cx} {M : Addr → Prop} {Λ : La} {Γ : Ga} {B B' : Wd} {s s' : Shared}

/-- the list in the making is changed -/
theorem St.setList {l : Addr} {φ φ' : LTy} {vs : Array Value} {n : Nat} {h' : Heap} {tk : Nat} (S : St c M [(l, φ)] Γ B s) (hs : ∀ b, b ≠ l → h'.get? b = s.heap.get? b) (e : h'.get? l = some (lstObj vs n)) (r : φ'.R B vs.toList) :
    St c M [(l, φ')] Γ B { s with heap := h', toks := tk } ∧ Mv M B s B { s with heap := h', toks := tk } := by
  obtain ⟨hM, us, n', e', _⟩ := S.own _ List.mem_cons_self
  have e' : s.heap.get? l = some (lstObj us n') := e'
  have hM : M l := hM
  have k : ∀ b o, b ≠ l → s.heap.get? b = some o → h'.get? b = some o := fun b o n q => (hs b n).trans q
  have hN : ∀ {m}, s.heap.Ns c.env.locals m → h'.Ns c.env.locals m := fun {m} n => n.at' fun o q => k _ o (Ne.symm (list_ne_dict e' n)) q
  have hC : ∀ {b ov}, s.heap.IsCell b ov → h'.IsCell b ov := fun {b ov} i => by
    have ne := Ne.symm (list_ne_cell e' i)
    obtain ⟨o, q, d⟩ := i
    exact ⟨o, k b o ne q, d⟩
  refine ⟨⟨⟨S.sat.fc, S.sat.base, fun b o q => k b o (fun z => S.dis b o q (z ▸ hM)) (S.sat.sub b o q), fun x a q => ?_, fun p hp => ?_⟩, S.dis, fun b m => ?_, S.loc, ?_, S.inj, fun q hq => ?_⟩,
    ⟨Wle.refl B, fun _ _ q => .inl q, fun b o q => ?_, h', tk, rfl, fun b o n q => k b o (fun z => n (z ▸ hM)) q⟩⟩
  · obtain ⟨ov, i⟩ := S.sat.cal x a q; exact ⟨ov, hC i⟩
  · obtain ⟨v, r, t⟩ := S.sat.vars p hp
    refine ⟨v, ?_, t⟩
    rcases r with ⟨a, m, n, e⟩ | ⟨a, cc, e, i⟩
    · exact .inl ⟨a, m, n.at' fun o q => k _ o (Ne.symm (list_ne_dict e' n)) q, e⟩
    · exact .inr ⟨a, cc, e, hC i⟩
  · by_cases z : b = l
    · rw [z]; exact ⟨_, e⟩
    · obtain ⟨o, q⟩ := S.mal b m; exact ⟨o, k b o z q⟩
  · obtain ⟨m, n⟩ := S.ns; exact ⟨m, hN n⟩
  · rw [List.mem_singleton.mp hq]; exact ⟨hM, vs, n, e, r⟩
  · by_cases z : b = l
    · rw [z]; exact ⟨_, e⟩
    · exact ⟨o, k b o z q⟩

theorem wp_append {α : Type} {T : α → Ty} {xs : List α} {x : α} {l : Addr} {v : Value} {Q : Value → Shared → Prop} {E : Value → Shared → Prop} (S : St c M [(l, lList T xs)] Γ B s) (t : (T x).R B v) (hz : xs.length ≤ 1000)
    (h : ∀ s', St c M [(l, lList T (xs ++ [x]))] Γ B s' → Mv M B s B s' → Q .none s') : wpAny (Mo c.w) c.A (call (.builtin "list.append") [.ref l, v]) Q E s := by
  obtain ⟨hM, vs, n, e, r⟩ := S.own _ List.mem_cons_self
  have hl := r.length
  simp at hl
  refine wpAny_list_append_plain ⟨n, e⟩ (fun h' ⟨n', e'⟩ hs => ?_) (by rw [sizeLine_eq]; omega)
  have := S.setList (tk := s.toks) (φ' := lList T (xs ++ [x])) hs.2 e' (by rw [Array.toList_push]; exact Al2.snoc r t)
  exact h _ this.1 this.2

theorem compLoop_gen {elt target iter : Expr} {ifs : List Expr} {scope : Scope} {pos : Pos} {it acc : Value} {env : Env} {w : World} {A : Around} {R : Result → Shared → Prop} (I : Nat → Shared → Prop)
    (turn : ∀ n s, I n s → wpAny (Mo w) A (pyNext it) (fun r s₁ => match r with
      | none => R (.ok .next) s₁
      | some v => wpAny (Mo w) A (letOwnedTupleGo target it v) (fun _ s₁' => wpAny (Mo w) A (assign target env v) (fun _ s₂ =>
          wpAny (Mo w) A (forIn ifs true fun c r => if r = true then do let ok ← isTrue c env (eval c env); pure (ForInStep.yield ok) else pure (ForInStep.yield r)) (fun ok s₃ =>
            if ok = true then wpAny (Mo w) A (eval elt env) (fun x s₄ =>
              wpAny (Mo w) A (call (.builtin "list.append") [acc, x]) (fun _ s₅ => ∃ m, m < n ∧ I m s₅) (notedBy (Mo w) A env fun e s' => R (.error e) s') s₄) (notedBy (Mo w) A env fun e s' => R (.error e) s') s₃
            else ∃ m, m < n ∧ I m s₃) (notedBy (Mo w) A env fun e s' => R (.error e) s') s₂) (notedBy (Mo w) A env fun e s' => R (.error e) s') s₁') (notedBy (Mo w) A env fun e s' => R (.error e) s') s₁) (notedBy (Mo w) A env fun e s' => R (.error e) s') s)
    (n : Nat) (h : I n s) : codeAny (Mo w) A (.compLoop (.ListComp elt [⟨target, iter, ifs, 0⟩] scope pos) 0 it acc env) R s := by
  refine codeAny_loop rfl I (fun n s hI => ?_) n h
  show wpAny _ A ((compTurn (.ListComp elt [⟨target, iter, ifs, 0⟩] scope pos) 0 it acc env).onRaise (fun x => do noteFrame x env; theTreesLotGoes x)) _ _ s
  refine wpAny_noted ?_
  rw [compTurn_list]
  refine wpAny_bind (wpAny_standAt (wpAny_bind (wpAny_mono (turn n s hI) (fun r s₁ h₁ => ?_) fun _ _ h' => h')))
  cases r with
  | none => exact wpAny_pure h₁
  | some v =>
    refine wpAny_bind (wpAny_mono h₁ (fun _ s₁' h₁' => ?_) fun _ _ h' => h')
    refine wpAny_bind (wpAny_mono h₁' (fun _ s₂ h₂ => wpAny_bind (wpAny_mono h₂ (fun ok s₃ h₃ => ?_) fun _ _ h' => h')) fun _ _ h' => h')
    cases ok with
    | false => exact wpAny_pure ⟨rfl, h₃⟩
    | true =>
      exact wpAny_bind (wpAny_bind (wpAny_mono h₃ (fun x s₄ h₄ => wpAny_bind (wpAny_mono h₄ (fun _ s₅ h₅ => wpAny_pure (wpAny_pure ⟨rfl, h₅⟩)) fun _ _ h' => h')) fun _ _ h' => h'))

/-- the environment of a comprehension -/
def compX (scope : Scope) (cl : List (Str × Addr)) (L : Addr) (env : Env) : Env :=
  { scope := relabel scope env, locals := L, globals := env.globals, cells := cellsFrom (L + 1) scope.names cl, qual := env.qual, func := none, code := env.code, frame := env.frame, builtins := env.builtins }
abbrev cc (c : Cx) (scope : Scope) (cl : List (Str × Addr)) (L : Addr) : Cx := { c with env := compX scope cl L c.env }
/-- what a comprehension's turns may change: the list that it makes, its names, its cells -/
def compM (scope : Scope) (L a : Nat) : Prop := a + 1 = L ∨ a = L ∨ ∃ n, (n, a) ∈ cellsFrom (L + 1) scope.names []

theorem cellsFrom_acc : ∀ (names : List (Str × NameKind)) (n : Nat) (acc : List (Str × Addr)), cellsFrom n names acc = cellsFrom n names [] ++ acc
  | [], _, acc => by simp [cellsFrom]
  | (name, kind) :: r, n, acc => by
    unfold cellsFrom
    split
    · rw [cellsFrom_acc r (n + 1) ((name, n) :: acc), cellsFrom_acc r (n + 1) [(name, n)]]; simp
    · exact cellsFrom_acc r n acc
theorem pushCells_size : ∀ (names : List (Str × NameKind)) (h : Heap), h.objs.size ≤ (pushCells h names).objs.size
  | [], h => Nat.le_refl _
  | (_, kind) :: r, h => by
    unfold pushCells
    split
    · exact Nat.le_trans (by rw [Heap.size_push]; omega) (pushCells_size r _)
    · exact pushCells_size r h

theorem wp_newCompEnv {scope : Scope} {cl : List (Str × Addr)} {env : Env} {M' : Model} {A : Around} {E : Value → Shared → Prop} {Q : Env → Shared → Prop}
    (h : Q (newEnv scope s.heap.objs.size env.globals (cellsFrom (s.heap.objs.size + 1) scope.names cl) env.qual none .none (some env) builtinsNs) { s with heap := pushCells (s.heap.push { cls := .type "dict", data := .dict #[] }) scope.names }) :
    wpAny M' A (newFunctionEnv scope env.globals cl [] env.qual none .none (some env)) Q E s := by
  simp only [newFunctionEnv, Option.isSome_some, if_true]
  refine wpAny_bind (wpAny_alloc ?_)
  refine wpAny_bind (wpAny_layCells _ (fun name kind cells => by cases hkc : kind == NameKind.cell <;> simp [hkc]) _ _ _ _ ?_)
  rw [show ({ s with heap := s.heap.push { cls := .type "dict", data := .dict #[] } } : Shared).heap.objs.size = s.heap.objs.size + 1 from Heap.size_push ..]
  rw [List.forIn_nil]
  exact wpAny_bind (wpAny_pure (wpAny_pure h))

theorem lookup_append {α : Type} {l₁ l₂ : List (Str × α)} {x : Str} {a : α} (h : (l₁ ++ l₂).lookup x = some a) : (x, a) ∈ l₁ ∨ l₂.lookup x = some a := by
  induction l₁ with
  | nil => exact .inr h
  | cons p r ih =>
    obtain ⟨k, v⟩ := p
    simp only [List.cons_append, List.lookup_cons] at h
    cases hb : x == k with
    | true => rw [hb] at h; cases h; rw [beq_iff_eq.mp hb]; exact .inl List.mem_cons_self
    | false =>
      rw [hb] at h
      rcases ih h with q | q
      · exact .inl (List.mem_cons_of_mem _ q)
      · exact .inr q

/-- a name of the outer text that is seen within -/
def Cap (c : Cx) (scope : Scope) (cl : List (Str × Addr)) (x : Str) : Prop :=
  (c.env.kindOf x = some .cell ∨ c.env.kindOf x = some .free) ∧ ∀ L, ((compX scope cl L c.env).kindOf x = some .cell ∨ (compX scope cl L c.env).kindOf x = some .free) ∧ (compX scope cl L c.env).cells.lookup x = c.env.cells.lookup x
theorem Cap.rd {scope : Scope} {cl : List (Str × Addr)} {x : Str} {L : Addr} {h : Heap} {v : Value} (k : Cap c scope cl x) (r : Rd c.env h x v) : Rd (compX scope cl L c.env) h x v := by
  rcases r with ⟨a, _⟩ | ⟨_, cc, e, i⟩
  · rcases k.1 with h | h <;> (rw [h] at a; cases a)
  · exact .inr ⟨(k.2 L).1, cc, (k.2 L).2.trans e, i⟩

def TeL (c : Cx) (Γ : Ga) (ifs : List Expr) (q : Bool) : Prop := ∀ B s E, Sat c Γ B s →
  wpAny (Mo c.w) c.A (forIn ifs true fun x r => if r = true then do let ok ← isTrue x c.env (eval x c.env); pure (ForInStep.yield ok) else pure (ForInStep.yield r)) (fun r s' => r = q ∧ ∃ B', Grow B s B' s') E s
theorem tel_nil : TeL c Γ [] true := fun B s E S => wpAny_tests_nil ⟨rfl, B, S.refl⟩
theorem tel_one {e : Expr} {q : Bool} (h : Te c Γ e q) : TeL c Γ [e] q := fun B s E S => wpAny_tests_one (h B s E S)

theorem comp_core {α β : Type} {elt target iter : Expr} {ifs : List Expr} {scope : Scope} {pos p2 : Pos} {T : Ty} {Tx : α → Ty} {U : β → Ty} {xs : List α} {Γc : Ga} {Γt : α → Ga} {cl : List (Str × Addr)} (q : α → Bool) (f : α → β)
    {use : Option (Value → Sem Unit)} {Q : Value → Shared → Prop} {E : Value → Shared → Prop}
    (hit : Ev c Γ iter T) (hb : Itb c T Tx xs) (hclos : closureFor scope c.env = pure cl) (hsub : ∀ p ∈ cl, c.env.cells.lookup p.1 = some p.2)
    (hkind : scope.kind = .function) (hnames : ∀ x ∈ scope.names, x.2 = .local → scope.names.lookup x.1 = some .local)
    (hcap : ∀ p ∈ Γc, p ∈ Γ ∧ Cap c scope cl p.1)
    (htg : ∀ L x, x ∈ xs → Tgt (cc c scope cl L) (compM scope L) target (Tx x) Γc (Γt x)) (hΓ : ∀ x, ∀ p ∈ Γc, p ∈ Γt x)
    (htest : ∀ L x, x ∈ xs → TeL (cc c scope cl L) (Γt x) ifs (q x))
    (helt : ∀ L x, x ∈ xs → q x = true → Ev (cc c scope cl L) (Γt x) elt (U (f x)))
    (hz : xs.length ≤ 1000) (ht : (∃ x p, target = .Name x p) ∨ ∃ es k p, target = .Tuple es k p)
    (S : Sat c Γ B s)
    (hpost : ∀ B' s' D L fl, Grow B s B' s' → (tList U ((xs.filter q).map f)).R B' (.ref D) → (∃ m, s'.heap.Ns L m) → B' L = none → s.heap.get? L = none → compPost (Mo c.w) c.A E use Q (.ref D) L (.ok fl) s')
    (hs : ∀ x, foldedSetIterable iter c.env x = pure x)
    (hn : ∀ (t : Expr) (x : Str) (p : Pos) (it v : Value), t = .Name x p → letOwnedTupleGo t it v = pure () := by rintro _ _ _ _ _ rfl; rfl) :
    wpAny (Mo c.w) c.A (comprehension (.ListComp elt [⟨target, iter, ifs, 0⟩] scope pos) scope c.env p2 (newList []) false (eval iter c.env) use) Q E s := by
  refine wpAny_comprehension_free (cl := cl) rfl hs hclos hkind hnames ?_
  refine wpAny_mono (hit B s E S) (fun v s₁ ⟨B₁, g₁, t₁⟩ => ?_) fun _ _ e => e
  refine wpAny_mono (hb B₁ s₁ E v S.fc (S.grow g₁).ws t₁) (fun it s₂ ⟨I, fp, P, Stt, eit, W, st0, hI, hfp, g₂, hfa, hlg, hP⟩ => ?_) fun _ _ e => e
  subst eit
  have S₂ := (S.grow g₁).grow g₂
  have hBI : B₁ I = none := by
    cases q : B₁ I with
    | none => rfl
    | some o => have := g₁.sub _ _ q; rw [hI] at this; cases this
  refine wpAny_newList (wp_newCompEnv ?_) (Nat.zero_le _)
  generalize hH2 : s₂.heap.push ({ cls := .type "list", data := .seq ([] : List Value).toArray } : Obj) = H2
  have hL : H2.objs.size = s₂.heap.objs.size + 1 := by rw [← hH2, Heap.size_push]
  generalize hLL : H2.objs.size = L at hL
  have hD2 : H2.get? s₂.heap.objs.size = some (lstObj #[] 0) := by rw [← hH2]; exact Heap.get?_push_size _ rfl
  generalize hH3 : pushCells (H2.push ({ cls := .type "dict", data := .dict #[] } : Obj)) scope.names = H3
  have k23 : ∀ b o, H2.get? b = some o → H3.get? b = some o := fun b o e => by rw [← hH3]; exact pushCells_keeps _ _ b o (Heap.get?_push_of_some _ e)
  have k03 : ∀ b o, s₂.heap.get? b = some o → H3.get? b = some o := fun b o e => k23 b o (by rw [← hH2]; exact Heap.get?_push_of_some _ e)
  have hns : H3.Ns L fun _ => none := by
    rw [← hH3, ← hLL]
    exact (Heap.Ns.new H2 (.type "dict")).keeps (pushCells_keeps _ _)
  have ok := cellsFrom_ok scope.names (H2.push ({ cls := .type "dict", data := .dict #[] } : Obj)) (L + 1) [] ⟨fun _ _ hm => (nomatch hm), List.Pairwise.nil⟩ (by rw [Heap.size_push, hLL]; exact Nat.le_refl _)
  rw [show (H2.push ({ cls := .type "dict", data := .dict #[] } : Obj)).objs.size = L + 1 by rw [Heap.size_push, hLL]] at ok
  rw [hH3] at ok
  have hD : s₂.heap.objs.size + 1 = L := hL.symm
  have hLne : L ≠ s₂.heap.objs.size := by omega
  have hcl : ∀ x (a : Nat), cl.lookup x = some a → a < s₂.heap.objs.size := fun x a e => by
    obtain ⟨ov, i⟩ := S₂.cal x a (hsub _ (mem_of_lookup e))
    exact i.lt
  have hMlo : ∀ a : Nat, compM scope L a → s₂.heap.objs.size ≤ a := fun a m => by
    rcases m with m | m | ⟨n, m⟩
    · omega
    · omega
    · have := (ok.empty n a m).2; omega
  have hlo : ∀ {b o}, s₂.heap.get? b = some o → ¬ compM scope L b := fun {b o} e m => Nat.lt_irrefl _ (Nat.lt_of_le_of_lt (hMlo b m) (Heap.lt_size e))
  have S₃ : St (cc c scope cl L) (compM scope L) [(s₂.heap.objs.size, lList U ([] : List β))] Γc B₁ { s₂ with heap := H3 } := by
    refine ⟨⟨⟨hkind, S₂.fc.globals, S₂.fc.builtins, S₂.fc.rm, S₂.fc.gl⟩, S₂.base, fun b o e => k03 b o (g₂.sub b o e), fun x a e => ?_, fun p hp => ?_⟩, fun b o e => hlo (g₂.sub b o e), fun b m => ?_, .inr (.inl rfl), ⟨_, hns⟩, fun x y a m e1 e2 => ?_, fun z hz' => ?_⟩
    · have e : (cellsFrom (L + 1) scope.names cl).lookup x = some a := e
      rw [cellsFrom_acc] at e
      rcases lookup_append e with h | h
      · exact ⟨_, (ok.empty x a h).1⟩
      · obtain ⟨ov, i⟩ := S₂.cal x a (hsub _ (mem_of_lookup h))
        exact ⟨ov, i.keeps k03⟩
    · obtain ⟨hpΓ, hp2⟩ := hcap p hp
      obtain ⟨v, r, t⟩ := S₂.vars p hpΓ
      exact ⟨v, hp2.rd (r.keeps k03), t⟩
    · rcases m with m | m | ⟨n, m⟩
      · have : b = s₂.heap.objs.size := Nat.succ.inj (m.trans hD.symm)
        rw [this]; exact ⟨_, k23 _ _ hD2⟩
      · rw [m]; obtain ⟨o, _, _, e, _⟩ := hns; exact ⟨o, e⟩
      · obtain ⟨o, e, _⟩ := (ok.empty n b m).1; exact ⟨o, e⟩
    · have e1 : (cellsFrom (L + 1) scope.names cl).lookup x = some a := e1
      have e2 : (cellsFrom (L + 1) scope.names cl).lookup y = some a := e2
      rw [cellsFrom_acc] at e1 e2
      have hm := hMlo a m
      rcases lookup_append e1 with h1 | h1
      · rcases lookup_append e2 with h2 | h2
        · exact name_of_addr ok.apart h1 h2
        · have := hcl y a h2; omega
      · have := hcl x a h1; omega
    · rw [List.mem_singleton.mp hz']
      exact ⟨.inl hD, #[], 0, k23 _ _ hD2, trivial⟩
  have hMI : ¬ compM scope L I := by obtain ⟨o, _, e, _⟩ := hfa 0 _ st0; exact hlo e
  have st3 : Stt 0 H3 := W.frame _ _ _ st0 fun b _ o e => k03 b o e
  have m₃ : Mv (compM scope L) B₁ s₁ B₁ { s₂ with heap := H3 } := by
    obtain ⟨hh, tt, rfl, kk⟩ := g₂.keeps
    exact ⟨Wle.refl _, fun _ _ e => .inl e, fun b o e => ⟨o, k03 b o (kk b o e)⟩, H3, tt, rfl, fun b o _ e => k03 b o (kk b o e)⟩
  have loop : codeAny (Mo c.w) c.A (.compLoop (.ListComp elt [⟨target, iter, ifs, 0⟩] scope pos) 0 (.ref I) (.ref s₂.heap.objs.size) (compX scope cl L c.env)) (compPost (Mo c.w) c.A E use Q (.ref s₂.heap.objs.size) L) { s₂ with heap := H3 } := by
    refine compLoop_gen
      (fun n s' => ∃ i B', i ≤ xs.length ∧ n = xs.length + 1 - i ∧ St (cc c scope cl L) (compM scope L) [(s₂.heap.objs.size, lList U (((xs.take i).filter q).map f))] Γc B' s' ∧ Mv (compM scope L) B₁ s₁ B' s' ∧ Stt i s'.heap ∧ B' I = none) ?_ (xs.length + 1)
      ⟨0, B₁, Nat.zero_le _, rfl, by simpa using S₃, m₃, st3, hBI⟩
    rintro n s' ⟨i, B', hi, rfl, S', m', st', hBI'⟩
    by_cases hlt : i < xs.length
    · obtain ⟨x, hx⟩ : ∃ x, xs[i]? = some x := ⟨xs[i], by simp [hlt]⟩
      have hmem : x ∈ xs := List.mem_of_getElem? hx
      refine W.item i _ _ _ hlt st' fun v h' tk hPv stn k => ?_
      have Sn := S'.step (tk := tk) (hfa _ _ st') hBI' hMI k
      have mn := m'.step (tk := tk) hI k
      have hgo : ∀ (Q : Unit → Shared → Prop) E₁, Q () { s' with heap := h', toks := tk } → wpAny (Mo c.w) c.A (letOwnedTupleGo target (.ref I) v) Q E₁ { s' with heap := h', toks := tk } := by
        intro Q E₁ z
        rcases ht with ⟨y, p, rfl⟩ | ⟨es, k, p, rfl⟩
        · rw [hn _ y p _ _ rfl]; exact wpAny_pure z
        · exact hlg es k p i (i + 1) v { s' with heap := h', toks := tk } Q E₁ hPv stn z
      refine hgo _ _ ?_
      refine wpAny_mono (htg L x hmem _ B' { s' with heap := h', toks := tk } _ v Sn ((Tx x).mono m'.le (hP i v x hPv hx))) (fun _ s₄ ⟨m₄, S₄⟩ => ?_) fun _ _ e => e
      have mm := mn.trans m₄
      have frm : ∀ {s₅ : Shared} {B₅ : Wd}, Mv (compM scope L) B' s₄ B₅ s₅ → Stt (i + 1) s₅.heap ∧ B₅ I = none := fun {s₅ B₅} m₅ => by
        refine ⟨W.frame _ _ _ stn fun b hb' o e => ?_, ?_⟩
        · have nM : ¬ compM scope L b := by
            rcases hfp b hb' with rfl | ⟨o', e'⟩
            · exact hMI
            · exact S'.dis b o' (m'.le _ _ e')
          exact m₅.get b o nM (m₄.get b o nM e)
        · obtain ⟨oI, _, eI, _⟩ := hfa _ _ stn
          cases z : B₅ I with
          | none => rfl
          | some o =>
            rcases m₅.new I o z with h | h | h
            · rw [hBI'] at h; cases h
            · rw [m₄.get I oI hMI eI] at h; cases h
            · exact (hMI h).elim
      refine wpAny_mono (htest L x hmem B' s₄ _ S₄.sat) (fun r s₅ ⟨e₅, B₅, g₅⟩ => ?_) fun _ _ e => e
      subst e₅
      have S₅ := S₄.grow g₅
      have m₅ : Mv (compM scope L) B' s₄ B₅ s₅ := Grow.mv g₅
      cases hq : q x with
      | false =>
        simp only [Bool.false_eq_true, if_false]
        refine ⟨xs.length + 1 - (i + 1), by omega, i + 1, B₅, hlt, rfl, ?_, mm.trans m₅, (frm m₅).1, (frm m₅).2⟩
        rw [take_succ_filter q xs i x hx, hq]
        simpa using S₅.sub_Γ (hΓ x)
      | true =>
        simp only [if_true]
        refine wpAny_mono (helt L x hmem hq B₅ s₅ _ S₅.sat) (fun y s₆ ⟨B₆, g₆, t₆⟩ => ?_) fun _ _ e => e
        have hzl : (((xs.take i).filter q).map f).length ≤ 1000 := by
          rw [List.length_map]
          have h1 := List.length_filter_le q (xs.take i)
          have h2 := List.length_take_le i xs
          have h3 : (xs.take i).length ≤ xs.length := by rw [List.length_take]; omega
          omega
        refine wp_append (c := cc c scope cl L) (S₅.grow g₆) t₆ hzl fun s₇ S₇ m₇ => ?_
        have m₇' := (m₅.trans (Grow.mv g₆)).trans m₇
        refine ⟨xs.length + 1 - (i + 1), by omega, i + 1, B₆, hlt, rfl, ?_, mm.trans m₇', (frm m₇').1, (frm m₇').2⟩
        rw [take_succ_filter q xs i x hx, hq]
        simpa using S₇.sub_Γ (hΓ x)
    · have hie : i = xs.length := by omega
      subst hie
      refine W.done _ _ _ st' fun h' tk k => ?_
      have Sn := S'.step (tk := tk) (hfa _ _ st') hBI' hMI k
      have mn := m'.step (tk := tk) hI k
      obtain ⟨hMD, vs, nn, eD, rD⟩ := Sn.own _ List.mem_cons_self
      have hMD : compM scope L s₂.heap.objs.size := hMD
      have eD : h'.get? s₂.heap.objs.size = some (lstObj vs nn) := eD
      have hBD : B' s₂.heap.objs.size = none := by
        cases z : B' s₂.heap.objs.size with
        | none => rfl
        | some o => exact (Sn.dis _ o z hMD).elim
      have hle := Wd.le_add (o := lstObj vs nn) hBD
      have olds : ∀ a : Nat, s₂.heap.objs.size ≤ a → s.heap.get? a = none := fun a ha => by
        cases z : s.heap.get? a with
        | none => rfl
        | some o => exact absurd (Heap.lt_size (kGet g₂.keeps _ _ (kGet g₁.keeps _ _ z))) (Nat.not_lt.mpr ha)
      refine hpost (B'.add s₂.heap.objs.size (lstObj vs nn)) _ _ L .next ?_ ?_ Sn.ns ?_ (olds L (by omega))
      · refine ⟨(g₁.le.trans m'.le).trans hle, fun b o e => ?_, fun b o e => ?_, ?_⟩
        · rcases Wd.add_cases e with ⟨rfl, rfl⟩ | ⟨_, e⟩
          · exact eD
          · exact Sn.sat.sub b o e
        · rcases Wd.add_cases e with ⟨rfl, rfl⟩ | ⟨_, e⟩
          · exact .inr (olds _ (Nat.le_refl _))
          · rcases m'.new b o e with h | h | h
            · exact g₁.new b o h
            · refine .inr ?_
              cases z : s.heap.get? b with
              | none => rfl
              | some o' => rw [kGet g₁.keeps _ _ z] at h; cases h
            · exact .inr (olds b (hMlo b h))
        · obtain ⟨h₁, t₁', e₁, k₁⟩ := g₁.keeps
          obtain ⟨h₂, t₂', e₂, k₂⟩ := mn.but
          refine ⟨h₂, t₂', by rw [e₂, e₁], fun b o e => k₂ b o (fun m => ?_) (kGet g₁.keeps b o e)⟩
          exact Nat.lt_irrefl _ (Nat.lt_of_le_of_lt (hMlo b m) (Heap.lt_size (kGet g₂.keeps _ _ (kGet g₁.keeps _ _ e))))
      · refine ⟨_, vs, nn, rfl, Wd.add_self _ _ _, ?_⟩
        rw [List.take_length] at rD
        exact Al2.mono (fun x v y => (U x).mono hle y) rD
      · unfold Wd.add
        rw [if_neg hLne]
        cases z : B' L with
        | none => rfl
        | some o => exact (Sn.dis _ o z (.inr (.inl rfl))).elim
  exact codeAny_compStart_list loop (W.self 0 _ _ _ st3 loop)
end
end Mine
end

section
open PySem PySem.W PyProof.Rows
set_option Elab.async false
set_option maxRecDepth 100000
set_option linter.unusedVariables false
set_option linter.unusedSimpArgs false
set_option autoImplicit false
namespace Mine

def clsOf : List (Str × NameKind) → List (Str × Addr) → List (Str × Addr) → Option (List (Str × Addr))
  | [], _, acc => some acc
  | (n, k) :: r, cells, acc => if k == .free then (match cells.lookup n with | some a => clsOf r cells ((n, a) :: acc) | none => none) else clsOf r cells acc

theorem closureFor_of {scope : Scope} {env : Env} {cl : List (Str × Addr)} (h : clsOf scope.names env.cells [] = some cl) : closureFor scope env = pure cl := by
  simp only [closureFor]
  generalize hacc : ([] : List (Str × Addr)) = acc at h ⊢
  clear hacc
  revert h
  generalize scope.names = names
  induction names generalizing acc with
  | nil =>
    intro h
    simp only [clsOf, Option.some.injEq] at h
    subst h
    rfl
  | cons x r ih =>
    intro h
    obtain ⟨n, k⟩ := x
    simp only [clsOf] at h
    rw [List.forIn_cons]
    cases hk : k == NameKind.free with
    | false =>
      rw [hk] at h
      simp only [Bool.false_eq_true, if_false] at h ⊢
      exact ih acc h
    | true =>
      rw [hk] at h
      simp only [if_true] at h ⊢
      cases hl : env.cells.lookup n with
      | none => rw [hl] at h; cases h
      | some a =>
        rw [hl] at h
        have e : cellOf env n = pure a := by simp only [cellOf, hl]
        rw [e]
        exact ih _ h
theorem clsOf_sub : ∀ {names : List (Str × NameKind)} {cells acc cl : List (Str × Addr)}, clsOf names cells acc = some cl → (∀ p ∈ acc, cells.lookup p.1 = some p.2) → ∀ p ∈ cl, cells.lookup p.1 = some p.2
  | [], cells, acc, cl, h, ha => by simp only [clsOf, Option.some.injEq] at h; subst h; exact ha
  | (n, k) :: r, cells, acc, cl, h, ha => by
    simp only [clsOf] at h
    cases hk : k == NameKind.free with
    | false =>
      rw [hk] at h
      exact clsOf_sub (by simpa using h) ha
    | true =>
      rw [hk] at h
      cases hl : cells.lookup n with
      | none => rw [hl] at h; simp at h
      | some a =>
        rw [hl] at h
        refine clsOf_sub (by simpa using h) fun p hp => ?_
        rcases List.mem_cons.mp hp with rfl | hp
        · exact hl
        · exact ha p hp

/-- a comprehension's scope is laid -/
structure Sc (c : Cx) (scope : Scope) (cl : List (Str × Addr)) : Prop where
  clos : clsOf scope.names c.env.cells [] = some cl
  kind : scope.kind = .function
  names : ∀ x ∈ scope.names, x.2 = .local → scope.names.lookup x.1 = some .local

section
variable {c : Cx} {M : Addr → Prop} {Λ : La} {Γ : Ga} {B B' : Wd} {s s' : Shared}

theorem ev_comp {α β : Type} {elt target iter : Expr} {ifs : List Expr} {scope : Scope} {pos : Pos} {T : Ty} {Tx : α → Ty} {U : β → Ty} {xs : List α} {Γc : Ga} {Γt : α → Ga} {cl : List (Str × Addr)} (q : α → Bool) (f : α → β)
    (sc : Sc c scope cl) (hit : Ev c Γ iter T) (hb : Itb c T Tx xs)
    (hcap : ∀ p ∈ Γc, p ∈ Γ ∧ Cap c scope cl p.1)
    (htg : ∀ L x, x ∈ xs → Tgt (cc c scope cl L) (compM scope L) target (Tx x) Γc (Γt x)) (hΓ : ∀ x, ∀ p ∈ Γc, p ∈ Γt x)
    (htest : ∀ L x, x ∈ xs → TeL (cc c scope cl L) (Γt x) ifs (q x))
    (helt : ∀ L x, x ∈ xs → q x = true → Ev (cc c scope cl L) (Γt x) elt (U (f x)))
    (hz : xs.length ≤ 1000) (ht : (∃ x p, target = .Name x p) ∨ ∃ es k p, target = .Tuple es k p)
    (hs : ∀ x, foldedSetIterable iter c.env x = pure x := by intro _; rfl) :
    Ev c Γ (.ListComp elt [⟨target, iter, ifs, 0⟩] scope pos) (tList U ((xs.filter q).map f)) := fun B s E S => by
  rw [eval_ListComp]
  refine comp_core q f hit hb (closureFor_of sc.clos) (clsOf_sub sc.clos (by simp)) sc.kind sc.names hcap htg hΓ htest helt hz ht S ?_ hs
  intro B' s' D L fl g t hN hL hsL
  obtain ⟨m, hN⟩ := hN
  refine ⟨m, hN, fun h' hs' => ⟨B', ⟨g.le, fun b o e => hs'.extBut b o (fun z => ?_) (g.sub b o e), g.new, ?_⟩, t⟩⟩
  · rw [z, hL] at e; cases e
  · obtain ⟨h₁, t₁, rfl, k⟩ := g.keeps
    exact ⟨h', t₁, rfl, fun b o e => hs'.extBut b o (fun z => by rw [z, hsL] at e; cases e) (k b o e)⟩

theorem ex_assign_comp {α β : Type} {elt target iter : Expr} {ifs : List Expr} {scope : Scope} {pos : Pos} {T : Ty} {Tx : α → Ty} {U : β → Ty} {xs : List α} {Γc Γ' : Ga} {Γt : α → Ga} {cl : List (Str × Addr)} {y : Str} {py spos : Pos} (q : α → Bool) (f : α → β)
    (sc : Sc c scope cl) (hit : Ev c Γ iter T) (hb : Itb c T Tx xs)
    (hcap : ∀ p ∈ Γc, p ∈ Γ ∧ Cap c scope cl p.1)
    (htg : ∀ L x, x ∈ xs → Tgt (cc c scope cl L) (compM scope L) target (Tx x) Γc (Γt x)) (hΓ : ∀ x, ∀ p ∈ Γc, p ∈ Γt x)
    (htest : ∀ L x, x ∈ xs → TeL (cc c scope cl L) (Γt x) ifs (q x))
    (helt : ∀ L x, x ∈ xs → q x = true → Ev (cc c scope cl L) (Γt x) elt (U (f x)))
    (hz : xs.length ≤ 1000) (ht : (∃ x p, target = .Name x p) ∨ ∃ es k p, target = .Tuple es k p)
    (hx : Wr c M y) (hΓ' : ∀ p ∈ Γ', p = (y, tList U ((xs.filter q).map f)) ∨ (p ∈ Γ ∧ p.1 ≠ y))
    (hsw : swapsWith (.ListComp elt [⟨target, iter, ifs, 0⟩] scope pos) (some (.Name y py)) spos.line c.env = pure true := by rfl)
    (hs : ∀ x, foldedSetIterable iter c.env x = pure x := by intro _; rfl) :
    Ex1 c M (St c M Λ Γ) (.Assign [.Name y py] (.ListComp elt [⟨target, iter, ifs, 0⟩] scope pos) spos) (nxt (St c M Λ Γ')) := fun B s E S => by
  rw [exec_Assign_Name_used _ _ _ _ hsw]
  refine wpAny_bind (wpAny_standAt (wpAny_bind ?_))
  show wpAny _ c.A (do let _ ← comprehension (.ListComp elt [⟨target, iter, ifs, 0⟩] scope pos) scope c.env _ (newList []) false (eval iter c.env) (some (assign (.Name y py) c.env))) _ _ s
  refine wpAny_bind (wpAny_mono (comp_core (Q := fun _ s' => ∃ B', Mv M B s B' s' ∧ nxt (St c M Λ Γ') .next B' s') (use := some (assign (.Name y py) c.env)) q f hit hb (closureFor_of sc.clos) (clsOf_sub sc.clos (by simp)) sc.kind sc.names hcap htg hΓ htest helt hz ht S.sat ?_ hs)
    (fun _ s' hq => wpAny_pure (wpAny_pure hq)) fun _ _ e => e)
  intro B' s' D L fl g t hN hL hsL
  obtain ⟨m, hN⟩ := hN
  have hML : ¬ M L := fun z => by obtain ⟨o, e⟩ := S.mal L z; rw [hsL] at e; cases e
  show wpAny _ c.A (assign (.Name y py) c.env (.ref D)) _ _ _
  refine wpAny_assign_Name (wp_store (S.grow g) hx t hΓ' fun s'' S'' mv => ?_)
  have hN'' : s''.heap.Ns L m := hN.at' fun o e => mv.get L o hML e
  refine ⟨m, hN'', fun h' hs' => ⟨B', ?_, rfl, ?_⟩⟩
  · have := ((Grow.mv (M := M) g).trans mv).step (I := L) (h' := h') (tk := s''.toks) hsL fun b o hb e => hs'.extBut b o (fun z => hb (z ▸ List.mem_singleton.mpr rfl)) e
    exact this
  · exact S''.other (I := L) (tk := s''.toks) (fun {b ov} i => cell_ne_dict i hN'') hL hML fun b o hb e => hs'.extBut b o (fun z => hb (z ▸ List.mem_singleton.mpr rfl)) e

theorem filt_true {α : Type} (xs : List α) : xs.filter (fun _ => true) = xs := List.filter_eq_self.mpr fun _ _ => rfl
theorem ev_map {α β : Type} {elt target iter : Expr} {scope : Scope} {pos : Pos} {T : Ty} {Tx : α → Ty} {U : β → Ty} {xs : List α} {Γc : Ga} {Γt : α → Ga} {cl : List (Str × Addr)} (f : α → β)
    (sc : Sc c scope cl) (hit : Ev c Γ iter T) (hb : Itb c T Tx xs)
    (hcap : ∀ p ∈ Γc, p ∈ Γ ∧ Cap c scope cl p.1)
    (htg : ∀ L x, x ∈ xs → Tgt (cc c scope cl L) (compM scope L) target (Tx x) Γc (Γt x)) (hΓ : ∀ x, ∀ p ∈ Γc, p ∈ Γt x)
    (helt : ∀ L x, x ∈ xs → Ev (cc c scope cl L) (Γt x) elt (U (f x)))
    (hz : xs.length ≤ 1000) (ht : (∃ x p, target = .Name x p) ∨ ∃ es k p, target = .Tuple es k p)
    (hs : ∀ x, foldedSetIterable iter c.env x = pure x := by intro _; rfl) :
    Ev c Γ (.ListComp elt [⟨target, iter, [], 0⟩] scope pos) (tList U (xs.map f)) := by
  have := ev_comp (fun _ => true) f (elt := elt) (pos := pos) (U := U) sc hit hb hcap htg hΓ (fun L x hx => tel_nil) (fun L x hx _ => helt L x hx) hz ht hs
  rw [filt_true] at this
  exact this

/-! helpers for comprehensions -/
theorem cap_nil {scope : Scope} {cl : List (Str × Addr)} : ∀ p ∈ ([] : Ga), p ∈ Γ ∧ Cap c scope cl p.1 := fun p h => by cases h
theorem cap_cons {scope : Scope} {cl : List (Str × Addr)} {x : Str} {T : Ty} {Γc : Ga} (hm : (x, T) ∈ Γ) (hk : c.env.kindOf x = some .cell ∨ c.env.kindOf x = some .free)
    (hx : ∀ L, ((compX scope cl L c.env).kindOf x = some .cell ∨ (compX scope cl L c.env).kindOf x = some .free) ∧ (compX scope cl L c.env).cells.lookup x = c.env.cells.lookup x)
    (h : ∀ p ∈ Γc, p ∈ Γ ∧ Cap c scope cl p.1) : ∀ p ∈ (x, T) :: Γc, p ∈ Γ ∧ Cap c scope cl p.1 := fun p hp => by
  rcases List.mem_cons.mp hp with rfl | hp
  · exact ⟨hm, hk, hx⟩
  · exact h p hp
end
end Mine
end

section
open PySem PySem.W PyProof.Rows
set_option Elab.async false
set_option maxRecDepth 100000
set_option linter.unusedVariables false
set_option linter.unusedSimpArgs false
set_option autoImplicit false
namespace Mine

/-! the sort, as a plain function of the answers -/
def kRun {α : Type} (ans : Nat → Nat → Bool) : KasT α → α
  | .ret a => a
  | .ask i j k => kRun ans (k (ans i j))
theorem kRun_bind {α β : Type} {ans : Nat → Nat → Bool} {f : α → KasT β} : ∀ (t : KasT α), kRun ans (t.bind f) = kRun ans (f (kRun ans t))
  | .ret _ => rfl
  | .ask i j k => kRun_bind (k (ans i j))
theorem kRun_wp {α : Type} {ans : Nat → Nat → Bool} {cmp : Nat → Nat → (Bool → Shared → Prop) → Shared → Prop} {s : Shared} (hc : ∀ i j C, C (ans i j) s → cmp i j C s) {Q : α → Shared → Prop} : ∀ (t : KasT α), Q (kRun ans t) s → t.kasWp cmp Q s
  | .ret _, h => h
  | .ask i j k, h => hc i j _ (kRun_wp hc (k (ans i j)) h)

section
variable (key : Nat → Int)
def kAns (i j : Nat) : Bool := decide (key i < key j)
def kK (p : Array Nat) (i : Nat) : Int := key (p.getD i 0)
variable {key}
theorem kK_congr {p q : Array Nat} {i j : Nat} (h : p[i]? = q[j]?) : kK key p i = kK key q j := by
  unfold kK; rw [Array.getD_eq_getD_getElem?, Array.getD_eq_getD_getElem?, h]
theorem kK_rev {p : Array Nat} {i j : Nat} (hj : j ≤ p.size) (k : Nat) : kK key (kas_rev p i j) k = if i ≤ k ∧ k < j then kK key p (i + j - 1 - k) else kK key p k := by
  have e := getElem?_mirror_all (xs := p) (i := i) hj k
  by_cases h : i ≤ k ∧ k < j
  · rw [if_pos h] at e ⊢; exact kK_congr e
  · rw [if_neg h] at e ⊢; exact kK_congr e
theorem kK_bub {p : Array Nat} {src d : Nat} (hs : src < p.size) (hd : d ≤ src) (k : Nat) :
    kK key (bubble p src d) k = if k = src - d then kK key p src else if src - d < k ∧ k ≤ src then kK key p (k - 1) else kK key p k := by
  have e := getElem?_bubble hs d hd k
  by_cases h1 : k = src - d
  · rw [if_pos h1] at e ⊢; exact kK_congr e
  · rw [if_neg h1] at e ⊢
    by_cases h2 : src - d < k ∧ k ≤ src
    · rw [if_pos h2] at e ⊢; exact kK_congr e
    · rw [if_neg h2] at e ⊢; exact kK_congr e
theorem rev_size (p : Array Nat) (i j : Nat) : (kas_rev p i j).size = p.size := mirror_size ..
theorem rev_perm (p : Array Nat) (i j : Nat) : (kas_rev p i j).Perm p := mirror_perm ..

def Asc (key : Nat → Int) (p : Array Nat) (n : Nat) : Prop := ∀ i j, i ≤ j → j < n → kK key p i ≤ kK key p j
def Dsc (key : Nat → Int) (p : Array Nat) (n : Nat) : Prop := ∀ i j, i ≤ j → j < n → kK key p j ≤ kK key p i
theorem Asc.succ {p : Array Nat} {n : Nat} (h : Asc key p n) (hn : n = 0 ∨ kK key p (n - 1) ≤ kK key p n) : Asc key p (n + 1) := fun i j hij hj => by
  by_cases hjn : j = n
  · subst hjn
    by_cases hi : i = j
    · subst hi; exact Int.le_refl _
    · rcases hn with hn | hn
      · omega
      · exact Int.le_trans (h i (j - 1) (by omega) (by omega)) hn
  · exact h i j hij (by omega)
theorem Dsc.succ {p : Array Nat} {n : Nat} (h : Dsc key p n) (hn : n = 0 ∨ kK key p n ≤ kK key p (n - 1)) : Dsc key p (n + 1) := fun i j hij hj => by
  by_cases hjn : j = n
  · subst hjn
    by_cases hi : i = j
    · subst hi; exact Int.le_refl _
    · rcases hn with hn | hn
      · omega
      · exact Int.le_trans hn (h i (j - 1) (by omega) (by omega))
  · exact h i j hij (by omega)

theorem asc_run : ∀ (f n : Nat) (p : Array Nat), 0 < n → Asc key p n → n ≤ kRun (kAns key) (kas_asc p f n) ∧ kRun (kAns key) (kas_asc p f n) ≤ n + f ∧ Asc key p (kRun (kAns key) (kas_asc p f n)) ∧
    (kRun (kAns key) (kas_asc p f n) < n + f → kK key p (kRun (kAns key) (kas_asc p f n)) < kK key p (kRun (kAns key) (kas_asc p f n) - 1))
  | 0, n, p, h0, h => ⟨Nat.le_refl _, Nat.le_refl _, h, fun hlt => absurd hlt (Nat.lt_irrefl _)⟩
  | f + 1, n, p, h0, h => by
    simp only [kas_asc, kRun]
    cases hc : kAns key (p.getD n 0) (p.getD (n - 1) 0) with
    | true =>
      simp only [if_true, kRun]
      exact ⟨Nat.le_refl _, by omega, h, fun _ => of_decide_eq_true hc⟩
    | false =>
      simp only [Bool.false_eq_true, if_false]
      have hle : kK key p (n - 1) ≤ kK key p n := Int.not_lt.mp (of_decide_eq_false hc)
      obtain ⟨a, b, c, d⟩ := asc_run f (n + 1) p (by omega) (h.succ (.inr hle))
      exact ⟨by omega, by omega, c, fun hlt => d (by omega)⟩

theorem rev_equal {p : Array Nat} {i j : Nat} (hj : j ≤ p.size) (he : ∀ x, i ≤ x → x < j → kK key p x = kK key p (j - 1)) (k : Nat) : kK key (kas_rev p i j) k = kK key p k := by
  rw [kK_rev hj]
  split
  · rename_i h
    rw [he k h.1 h.2, he (i + j - 1 - k) (by omega) (by omega)]
  · rfl

theorem desc_run : ∀ (f n q : Nat) (p : Array Nat), q + 1 ≤ n → n + f ≤ p.size → Dsc key p n → (∀ x, n - (q + 1) ≤ x → x < n → kK key p x = kK key p (n - 1)) →
    ∃ p' n' q', kRun (kAns key) (kas_desc f p n q) = (p', n', q') ∧ p'.Perm p ∧ p'.size = p.size ∧ n ≤ n' ∧ n' ≤ n + f ∧ q' + 1 ≤ n' ∧ Dsc key p' n' ∧ (∀ x, n' - (q' + 1) ≤ x → x < n' → kK key p' x = kK key p' (n' - 1))
  | 0, n, q, p, hq, hz, h, he => ⟨p, n, q, rfl, .refl _, rfl, Nat.le_refl _, Nat.le_refl _, hq, h, he⟩
  | f + 1, n, q, p, hq, hz, h, he => by
    simp only [kas_desc, kRun]
    cases hc : kAns key (p.getD n 0) (p.getD (n - 1) 0) with
    | true =>
      have hlt : kK key p n < kK key p (n - 1) := of_decide_eq_true hc
      simp only [if_true]
      by_cases h0 : q > 0
      · rw [if_pos h0]
        have e := rev_equal (p := p) (i := n - (q + 1)) (j := n) (by omega) he
        obtain ⟨p', n', q', e', hp, hs, a, b, c, d, g⟩ := desc_run f (n + 1) 0 (kas_rev p (n - (q + 1)) n) (by omega) (by rw [rev_size]; omega)
          (fun i j hij hj => by rw [e, e]; exact (h.succ (.inr (Int.le_of_lt hlt))) i j hij hj) (fun x h1 h2 => congrArg _ (by omega))
        exact ⟨p', n', q', e', hp.trans (rev_perm ..), hs.trans (rev_size ..), by omega, by omega, c, d, g⟩
      · rw [if_neg h0]
        obtain ⟨p', n', q', e', hp, hs, a, b, c, d, g⟩ := desc_run f (n + 1) 0 p (by omega) (by omega) (h.succ (.inr (Int.le_of_lt hlt))) (fun x h1 h2 => congrArg _ (by omega))
        exact ⟨p', n', q', e', hp, hs, by omega, by omega, c, d, g⟩
    | false =>
      have hle : kK key p (n - 1) ≤ kK key p n := Int.not_lt.mp (of_decide_eq_false hc)
      simp only [Bool.false_eq_true, if_false, kRun]
      cases hd : kAns key (p.getD (n - 1) 0) (p.getD n 0) with
      | true =>
        simp only [if_true, kRun]
        exact ⟨p, n, q, rfl, .refl _, rfl, Nat.le_refl _, by omega, hq, h, he⟩
      | false =>
        have hge : kK key p n ≤ kK key p (n - 1) := Int.not_lt.mp (of_decide_eq_false hd)
        simp only [Bool.false_eq_true, if_false]
        obtain ⟨p', n', q', e', hp, hs, a, b, c, d, g⟩ := desc_run f (n + 1) (q + 1) p (by omega) (by omega) (h.succ (.inr hge)) (fun x h1 h2 => by
          by_cases hx : x = n
          · subst hx; rfl
          · rw [he x (by omega) (by omega)]
            show kK key p (n - 1) = kK key p n
            omega)
        exact ⟨p', n', q', e', hp, hs, by omega, by omega, c, d, g⟩

theorem tail3_run {n nrem : Nat} {p : Array Nat} (h0 : 0 < n) (hn : n ≤ nrem) (hz : nrem ≤ p.size) (h : Dsc key p n) :
    ∃ m p', kRun (kAns key) (kas_tail3 n nrem p) = (m, p') ∧ p'.Perm p ∧ p'.size = p.size ∧ 0 < m ∧ m ≤ nrem ∧ Asc key p' m := by
  unfold kas_tail3
  rw [kRun_bind]
  have hA : Asc key (kas_rev p 0 n) n := fun i j hij hj => by
    rw [kK_rev (by omega), kK_rev (by omega), if_pos (by omega), if_pos (by omega)]
    exact h _ _ (by omega) (by omega)
  obtain ⟨a, b, c, d⟩ := asc_run (nrem - n) n (kas_rev p 0 n) h0 hA
  exact ⟨_, _, rfl, rev_perm .., rev_size .., by omega, by omega, c⟩

theorem descPart_run {n nrem : Nat} {p : Array Nat} (h0 : 0 < n) (hn : n < nrem) (hz : nrem ≤ p.size) (h : ∀ i, i < n → kK key p i = kK key p (n - 1)) (hl : kK key p n < kK key p (n - 1)) :
    ∃ m p', kRun (kAns key) (kas_descPart n nrem p) = (m, p') ∧ p'.Perm p ∧ p'.size = p.size ∧ 0 < m ∧ m ≤ nrem ∧ Asc key p' m := by
  unfold kas_descPart
  rw [kRun_bind]
  have hD : Dsc key p n := fun i j hij hj => by rw [h i (by omega), h j (by omega)]; exact Int.le_refl _
  obtain ⟨p', n', q', e', hp, hs, a, b, c, d, g⟩ := desc_run (nrem - (n + 1)) (n + 1) 0 p (by omega) (by omega) (hD.succ (.inr (Int.le_of_lt hl))) (fun x h1 h2 => congrArg _ (by omega))
  rw [e']
  dsimp only
  by_cases hq : q' > 0
  · rw [if_pos hq]
    have e := rev_equal (p := p') (i := n' - (q' + 1)) (j := n') (by omega) g
    obtain ⟨m, p'', e'', hp', hs', u, v, w⟩ := tail3_run (p := kas_rev p' (n' - (q' + 1)) n') (n := n') (nrem := nrem) (by omega) (by omega) (by rw [rev_size]; omega) (fun i j hij hj => by rw [e, e]; exact d i j hij hj)
    exact ⟨m, p'', e'', hp'.trans ((rev_perm ..).trans hp), (hs'.trans (rev_size ..)).trans hs, u, v, w⟩
  · rw [if_neg hq]
    obtain ⟨m, p'', e'', hp', hs', u, v, w⟩ := tail3_run (p := p') (n := n') (nrem := nrem) (by omega) (by omega) (by omega) d
    exact ⟨m, p'', e'', hp'.trans hp, hs'.trans hs, u, v, w⟩

theorem count_run {nrem : Nat} {p : Array Nat} (h2 : 2 ≤ nrem) (hz : nrem ≤ p.size) :
    ∃ m p', kRun (kAns key) (kas_count nrem p) = (m, p') ∧ p'.Perm p ∧ p'.size = p.size ∧ 0 < m ∧ m ≤ nrem ∧ Asc key p' m := by
  unfold kas_count
  rw [kRun_bind]
  have hA : Asc key p 1 := fun i j hij hj => by
    have h1 : i = 0 := by omega
    have h2 : j = 0 := by omega
    subst h1; subst h2; exact Int.le_refl _
  obtain ⟨a, b, c, d⟩ := asc_run (nrem - 1) 1 p (by omega) hA
  generalize hm : kRun (kAns key) (kas_asc p (nrem - 1) 1) = n at a b c d
  by_cases hn : n = nrem
  · rw [if_pos (by simpa using hn)]
    exact ⟨n, p, rfl, .refl _, rfl, by omega, by omega, c⟩
  · rw [if_neg (by simpa using hn)]
    have hlt := d (by omega)
    by_cases h1 : n > 1
    · rw [if_pos h1]
      simp only [kRun]
      cases hc : kAns key (p.getD 0 0) (p.getD (n - 1) 0) with
      | true =>
        simp only [if_true, kRun]
        exact ⟨n, p, rfl, .refl _, rfl, by omega, by omega, c⟩
      | false =>
        simp only [Bool.false_eq_true, if_false]
        have hge : kK key p (n - 1) ≤ kK key p 0 := Int.not_lt.mp (of_decide_eq_false hc)
        have hall : ∀ x, 0 ≤ x → x < n → kK key p x = kK key p (n - 1) := fun x _ hx => by
          have h3 := c x (n - 1) (by omega) (by omega)
          have h4 := c 0 x (by omega) hx
          omega
        have e := rev_equal (p := p) (i := 0) (j := n) (by omega) hall
        obtain ⟨m, p', e', hp, hs, u, v, w⟩ := descPart_run (n := n) (nrem := nrem) (p := kas_rev p 0 n) (by omega) (by omega) (by rw [rev_size]; omega) (fun i hi => by rw [e, e]; exact hall i (by omega) hi) (by rw [e, e]; exact hlt)
        exact ⟨m, p', e', hp.trans (rev_perm ..), hs.trans (rev_size ..), u, v, w⟩
    · rw [if_neg h1]
      have hn1 : n = 1 := by omega
      subst hn1
      obtain ⟨m, p', e', hp, hs, u, v, w⟩ := descPart_run (n := 1) (nrem := nrem) (p := p) (by omega) (by omega) (by omega) (fun i hi => congrArg _ (by omega)) hlt
      exact ⟨m, p', e', hp, hs, u, v, w⟩

theorem place_run : ∀ (f k l r : Nat) (p : Array Nat), l ≤ r → r ≤ k → r - l ≤ f → Asc key p k → (∀ i, i < l → kK key p i ≤ kK key p k) → (∀ i, r ≤ i → i < k → kK key p k ≤ kK key p i) →
    kRun (kAns key) (kas_place p k f l r) ≤ k ∧ (∀ i, i < kRun (kAns key) (kas_place p k f l r) → kK key p i ≤ kK key p k) ∧ (∀ i, kRun (kAns key) (kas_place p k f l r) ≤ i → i < k → kK key p k ≤ kK key p i)
  | 0, k, l, r, p, hlr, hr, hf, hA, h1, h2 => by
    have : l = r := by omega
    subst this
    exact ⟨hr, h1, h2⟩
  | f + 1, k, l, r, p, hlr, hr, hf, hA, h1, h2 => by
    simp only [kas_place]
    by_cases h : l ≥ r
    · rw [if_pos h]
      have : l = r := by omega
      subst this
      exact ⟨hr, h1, h2⟩
    · rw [if_neg h]
      simp only [kRun]
      cases hc : kAns key (p.getD k 0) (p.getD ((l + r) / 2) 0) with
      | true =>
        simp only [if_true]
        have hlt : kK key p k < kK key p ((l + r) / 2) := of_decide_eq_true hc
        exact place_run f k l ((l + r) / 2) p (by omega) (by omega) (by omega) hA h1 fun i hi hik => by
          have := hA ((l + r) / 2) i hi hik
          omega
      | false =>
        simp only [Bool.false_eq_true, if_false]
        have hge : kK key p ((l + r) / 2) ≤ kK key p k := Int.not_lt.mp (of_decide_eq_false hc)
        exact place_run f k ((l + r) / 2 + 1) r p (by omega) (by omega) (by omega) hA (fun i hi => by
          have := hA i ((l + r) / 2) (by omega) (by omega)
          omega) h2

theorem bin_run : ∀ (f k : Nat) (p : Array Nat), 0 < k → k + f ≤ p.size → Asc key p k → ∃ p', kRun (kAns key) (kas_bin f p k) = p' ∧ p'.Perm p ∧ Asc key p' (k + f)
  | 0, k, p, h0, hz, h => ⟨p, rfl, .refl _, h⟩
  | f + 1, k, p, h0, hz, h => by
    simp only [kas_bin]
    rw [kRun_bind]
    obtain ⟨a, b, c⟩ := place_run k k 0 k p (by omega) (by omega) (by omega) h (fun i hi => by omega) (fun i h1 h2 => by omega)
    generalize kRun (kAns key) (kas_place p k k 0 k) = l at a b c
    have e := kK_bub (key := key) (p := p) (src := k) (d := k - l) (by omega) (by omega)
    have el : k - (k - l) = l := by omega
    rw [el] at e
    have hA : Asc key (bubble p k (k - l)) (k + 1) := fun i j hij hj => by
      rw [e, e]
      by_cases hi : i = l
      · rw [if_pos hi]
        by_cases hj' : j = l
        · rw [if_pos hj']; exact Int.le_refl _
        · rw [if_neg hj', if_pos (by omega)]
          exact c (j - 1) (by omega) (by omega)
      · rw [if_neg hi]
        by_cases hi2 : l < i ∧ i ≤ k
        · rw [if_pos hi2]
          by_cases hj' : j = l
          · omega
          · rw [if_neg hj', if_pos (by omega)]
            exact h _ _ (by omega) (by omega)
        · rw [if_neg hi2]
          by_cases hj' : j = l
          · rw [if_pos hj']; exact b i (by omega)
          · rw [if_neg hj']
            by_cases hj2 : l < j ∧ j ≤ k
            · rw [if_pos hj2]
              exact h _ _ (by omega) (by omega)
            · rw [if_neg hj2]
              exact h _ _ (by omega) (by omega)
    obtain ⟨p', e', hp, hA'⟩ := bin_run f (k + 1) (bubble p k (k - l)) (by omega) (by rw [bubble_size]; omega) hA
    exact ⟨p', e', hp.trans (bubble_perm ..), by rw [show k + (f + 1) = k + 1 + f by omega]; exact hA'⟩

theorem sort_run {n : Nat} (h2 : 2 ≤ n) : (kRun (kAns key) (kas_sort n)).Perm (List.range n).toArray ∧ Asc key (kRun (kAns key) (kas_sort n)) n := by
  unfold kas_sort
  rw [kRun_bind]
  obtain ⟨m, p', e', hp, hs, u, v, w⟩ := count_run (key := key) (nrem := n) (p := List.toArray (List.range n)) h2 (by simp)
  have hs' : p'.size = n := by rw [hs]; simp
  rw [e']
  dsimp only
  by_cases h : m < n
  · rw [if_pos h]
    have hm : max m 1 = m := by omega
    rw [hm]
    obtain ⟨q, e, hq, hA⟩ := bin_run (key := key) (n - m) m p' u (by omega) w
    rw [e]
    exact ⟨hq.trans hp, by rw [show m + (n - m) = n by omega] at hA; exact hA⟩
  · rw [if_neg h]
    have : m = n := by omega
    subst this
    exact ⟨hp, w⟩
end
/-! what the sort asks lies within -/
def kAll {α : Type} (n : Nat) (Q : α → Prop) : KasT α → Prop
  | .ret a => Q a
  | .ask i j k => i < n ∧ j < n ∧ ∀ b, kAll n Q (k b)
theorem kAll_bind {α β : Type} {n : Nat} {Q : α → Prop} {R : β → Prop} {f : α → KasT β} : ∀ (t : KasT α), kAll n Q t → (∀ a, Q a → kAll n R (f a)) → kAll n R (t.bind f)
  | .ret a, h, hf => hf a h
  | .ask i j k, ⟨a, b, c⟩, hf => ⟨a, b, fun x => kAll_bind (k x) (c x) hf⟩
theorem kRun_wpIn {α : Type} {n : Nat} {R : α → Prop} {ans : Nat → Nat → Bool} {cmp : Nat → Nat → (Bool → Shared → Prop) → Shared → Prop} {s : Shared} (hc : ∀ i j C, i < n → j < n → C (ans i j) s → cmp i j C s) {Q : α → Shared → Prop} :
    ∀ (t : KasT α), kAll n R t → Q (kRun ans t) s → t.kasWp cmp Q s
  | .ret _, _, h => h
  | .ask i j k, ⟨a, b, c⟩, h => hc i j _ a b (kRun_wpIn hc (k (ans i j)) (c _) h)
def LtA (n : Nat) (p : Array Nat) : Prop := ∀ x, p.getD x 0 < n
theorem LtA.perm {n : Nat} {p q : Array Nat} (h0 : 0 < n) (h : LtA n p) (hp : q.Perm p) : LtA n q := fun x => by
  rw [Array.getD_eq_getD_getElem?]
  cases e : q[x]? with
  | none => exact h0
  | some y =>
    have hy : y ∈ q := Array.mem_of_getElem? e
    have hy' : y ∈ p := hp.mem_iff.mp hy
    obtain ⟨i, hi, e'⟩ := Array.mem_iff_getElem.mp hy'
    have := h i
    rw [Array.getD_eq_getD_getElem?] at this
    simp [hi, e'] at this
    exact this
theorem kAll_if {α : Type} {n : Nat} {Q : α → Prop} {b : Prop} [Decidable b] {x y : KasT α} (hx : b → kAll n Q x) (hy : ¬ b → kAll n Q y) : kAll n Q (if b then x else y) := by
  by_cases h : b
  · rw [if_pos h]; exact hx h
  · rw [if_neg h]; exact hy h
theorem asc_in {n : Nat} {p : Array Nat} (hp : LtA n p) : ∀ (f k : Nat), kAll n (fun _ => True) (kas_asc p f k)
  | 0, _ => trivial
  | f + 1, k => ⟨hp _, hp _, fun b => kAll_if (fun _ => trivial) fun _ => asc_in hp f (k + 1)⟩
theorem desc_in {n : Nat} (h0 : 0 < n) : ∀ (f : Nat) (p : Array Nat) (k q : Nat), LtA n p → kAll n (fun r => LtA n r.1) (kas_desc f p k q)
  | 0, p, _, _, hp => hp
  | f + 1, p, k, q, hp => ⟨hp _, hp _, fun b => kAll_if (fun _ => kAll_if (fun _ => desc_in h0 f _ _ _ (hp.perm h0 (rev_perm ..))) fun _ => desc_in h0 f _ _ _ hp)
      fun _ => ⟨hp _, hp _, fun d => kAll_if (fun _ => hp) fun _ => desc_in h0 f _ _ _ hp⟩⟩
theorem tail3_in {n : Nat} (h0 : 0 < n) {k m : Nat} {p : Array Nat} (hp : LtA n p) : kAll n (fun r => LtA n r.2) (kas_tail3 k m p) :=
  kAll_bind _ (asc_in (hp.perm h0 (rev_perm ..)) _ _) fun _ _ => hp.perm h0 (rev_perm ..)
theorem descPart_in {n : Nat} (h0 : 0 < n) {k m : Nat} {p : Array Nat} (hp : LtA n p) : kAll n (fun r => LtA n r.2) (kas_descPart k m p) :=
  kAll_bind _ (desc_in h0 _ _ _ _ hp) fun r hr => kAll_if (fun _ => tail3_in h0 (hr.perm h0 (rev_perm ..))) fun _ => tail3_in h0 hr
theorem count_in {n : Nat} (h0 : 0 < n) {m : Nat} {p : Array Nat} (hp : LtA n p) : kAll n (fun r => LtA n r.2) (kas_count m p) :=
  kAll_bind _ (asc_in hp _ _) fun r _ => kAll_if (fun _ => hp) fun _ => kAll_if (fun _ => ⟨hp _, hp _, fun c => kAll_if (fun _ => hp) fun _ => descPart_in h0 (hp.perm h0 (rev_perm ..))⟩) fun _ => descPart_in h0 hp
theorem place_in {n : Nat} {p : Array Nat} {k : Nat} (hp : LtA n p) : ∀ (f l r : Nat), kAll n (fun _ => True) (kas_place p k f l r)
  | 0, _, _ => trivial
  | f + 1, l, r => kAll_if (fun _ => trivial) fun _ => ⟨hp _, hp _, fun c => kAll_if (fun _ => place_in hp f _ _) fun _ => place_in hp f _ _⟩
theorem bin_in {n : Nat} (h0 : 0 < n) : ∀ (f : Nat) (p : Array Nat) (k : Nat), LtA n p → kAll n (fun _ => True) (kas_bin f p k)
  | 0, _, _, _ => trivial
  | f + 1, p, k, hp => kAll_bind _ (place_in hp _ _ _) fun l _ => bin_in h0 f _ _ (hp.perm h0 (bubble_perm ..))
theorem sort_in {n : Nat} (h0 : 0 < n) : kAll n (fun _ => True) (kas_sort n) := by
  refine kAll_bind _ (count_in h0 (fun x => ?_)) fun r hr => kAll_if (fun _ => bin_in h0 _ _ _ hr) fun _ => trivial
  rw [Array.getD_eq_getD_getElem?]
  by_cases h : x < n
  · simp [h]
  · simp [h, h0]
end Mine
end

section
open PySem PySem.W PyProof.Rows
set_option Elab.async false
set_option maxRecDepth 100000
set_option linter.unusedVariables false
set_option linter.unusedSimpArgs false
set_option autoImplicit false
namespace Mine

/-- a pair as a number: pairs are laid by it -/
def cd (p : Int × Int) : Int := p.1 * 1000 + p.2
def Sm (p : Int × Int) : Prop := 0 ≤ p.1 ∧ p.1 < 1000 ∧ 0 ≤ p.2 ∧ p.2 < 1000
theorem lexLt_cd {p q : Int × Int} (hp : Sm p) (hq : Sm q) : lexLt p q = decide (cd p < cd q) := by
  obtain ⟨a, b, c, d⟩ := hp
  obtain ⟨a', b', c', d'⟩ := hq
  unfold lexLt cd
  rw [Bool.eq_iff_iff]
  simp only [Bool.or_eq_true, Bool.and_eq_true, decide_eq_true_eq, beq_iff_eq]
  omega
theorem cd_inj {p q : Int × Int} (hp : Sm p) (hq : Sm q) (h : cd p = cd q) : p = q := by
  obtain ⟨a, b, c, d⟩ := hp
  obtain ⟨a', b', c', d'⟩ := hq
  unfold cd at h
  have h1 : p.1 = q.1 := by omega
  have h2 : p.2 = q.2 := by omega
  exact Prod.ext h1 h2

def PairAt (h : Heap) (p : Int × Int) (v : Value) : Prop := ∃ a t u, v = .ref a ∧ h.get? a = some { cls := .type "tuple", data := .seq #[.int p.1 t, .int p.2 u] }

section
variable {w : World} {A : Around} {E : Value → Shared → Prop} {s : Shared}

theorem ask_pair {vs : List Value} {ps : List (Int × Int)} {i j : Nat} {C : Bool → Shared → Prop} (hP : Al2 (PairAt s.heap) ps vs) (hs : ∀ p ∈ ps, Sm p) (hi : i < ps.length) (hj : j < ps.length)
    (h : C (decide (cd (ps.getD i (0, 0)) < cd (ps.getD j (0, 0)))) s) : kas_ask PySem.Challenge.rw_ge0003_01.row.prog w A (tuples' true) vs i j C s := by
  unfold kas_ask
  obtain ⟨v, hv, a, t, u, rfl, ha⟩ := hP.get (i := i) (a := ps[i]) (by simp [hi])
  obtain ⟨v', hv', a', t', u', rfl, ha'⟩ := hP.get (i := j) (a := ps[j]) (by simp [hj])
  have e1 : vs.getD i Value.none = .ref a := by simp [hv]
  have e2 : vs.getD j Value.none = .ref a' := by simp [hv']
  have e3 : ps.getD i (0, 0) = ps[i] := by simp [hi]
  have e4 : ps.getD j (0, 0) = ps[j] := by simp [hj]
  rw [e3, e4, ← lexLt_cd (hs _ (List.getElem_mem hi)) (hs _ (List.getElem_mem hj))] at h
  rw [e1, e2]
  refine kat_lt ha rfl ha' rfl ?_
  show KatLex _ w A true (decide (2 < 2)) C [(Value.int ps[i].1 t, Value.int ps[j].1 t'), (Value.int ps[i].2 u, Value.int ps[j].2 u')] 0 s
  refine kat_cons (wpAny_eqBool_int ?_)
  cases h1 : (ps[i].1 == ps[j].1) with
  | false =>
    have n1 : ps[i].1 ≠ ps[j].1 := by simpa using h1
    refine kat_no ?_
    show wpAny _ _ (oneLt' true _ _) _ _ _
    refine oneLt_int ?_
    have : lexLt ps[i] ps[j] = decide (ps[i].1 < ps[j].1) := by simp [lexLt, n1]
    rw [this] at h; exact h
  | true =>
    have n1 : ps[i].1 = ps[j].1 := by simpa using h1
    refine kat_yes (kat_cons (wpAny_eqBool_int ?_))
    have e : lexLt ps[i] ps[j] = decide (ps[i].2 < ps[j].2) := by simp [lexLt, n1]
    rw [e] at h
    cases h2 : (ps[i].2 == ps[j].2) with
    | false =>
      refine kat_no ?_
      show wpAny _ _ (oneLt' false _ _) _ _ _
      exact kat_one _ _ (wpAny_lt_int h)
    | true =>
      have n2 : ps[i].2 = ps[j].2 := by simpa using h2
      refine kat_yes (kat_nil ?_)
      have : decide (ps[i].2 < ps[j].2) = decide (2 < 2) := by simp [n2]
      rw [this] at h; exact h

theorem tups_of : ∀ {ps : List (Int × Int)} {vs : List Value}, Al2 (PairAt s.heap) ps vs → ∃ fs, KatTups s.heap vs fs ∧ fs.length = ps.length ∧ ∀ v ∈ fs, ∃ i t, v = .int i t
  | [], [], _ => ⟨[], trivial, rfl, fun v h => by cases h⟩
  | p :: ps, v :: vs, ⟨⟨a, t, u, e, ha⟩, r⟩ => by
    obtain ⟨fs, k, l, q⟩ := tups_of r
    refine ⟨.int p.1 t :: fs, ⟨⟨a, _, _, 0, e, ha, rfl, rfl, rfl⟩, k⟩, by simp [l], fun v hv => ?_⟩
    rcases List.mem_cons.mp hv with rfl | hv
    · exact ⟨_, _, rfl⟩
    · exact q v hv
  | [], _ :: _, x => x.elim
  | _ :: _, [], x => x.elim

theorem al2_pick {α β : Type} {R : α → β → Prop} {xs : List α} {ys : List β} {dx : α} {dy : β} (h : Al2 R xs ys) : ∀ (is : List Nat), (∀ i ∈ is, i < xs.length) → Al2 R (is.map fun i => xs.getD i dx) (is.map fun i => ys.getD i dy)
  | [], _ => trivial
  | i :: is, hi => by
    have h0 := hi i List.mem_cons_self
    obtain ⟨y, hy, r⟩ := h.get (i := i) (a := xs[i]) (by simp [h0])
    refine ⟨?_, al2_pick h is fun j hj => hi j (List.mem_cons_of_mem _ hj)⟩
    have e1 : xs.getD i dx = xs[i] := by simp [h0]
    have e2 : ys.getD i dy = y := by simp [hy]
    show R (xs.getD i dx) (ys.getD i dy)
    rw [e1, e2]; exact r

theorem map_range_getD {α : Type} (xs : List α) (d : α) : (List.range xs.length).map (fun i => xs.getD i d) = xs := by
  apply List.ext_getElem?
  intro i
  by_cases h : i < xs.length
  · simp [h]
  · simp [h]

/-- the sort of pairs, in place -/
theorem lsort_pairs {R : Int × Int → Value → Prop} {a : Addr} {vs : List Value} {ps : List (Int × Int)} {n : Nat} {P : PySem.Fin → Shared → Prop} (ho : s.heap.get? a = some (seqObj "list" vs.toArray n)) (hR : Al2 R ps vs) (hRP : ∀ p v, R p v → PairAt s.heap p v) (hs : ∀ p ∈ ps, Sm p) (h64 : vs.length < 64)
    (h : ∀ (out : List Value) (ps' : List (Int × Int)), Al2 R ps' out → ps'.Perm ps → ps'.Pairwise (fun x y => cd x ≤ cd y) → P (.done (.ret .none)) { s with heap := sortedHeap s.heap a vs out.toArray }) :
    wpAny (Mo w) A (Builtin.«list.sort» ⟨[.ref a], []⟩) P E s := by
  have hP : Al2 (PairAt s.heap) ps vs := hR.mono hRP
  rw [list_sort_plain]
  have ha : a < s.heap.objs.size := Heap.lt_size ho
  refine wpAny_bind (listItems_at ho rfl ?_)
  refine wpAny_bind (listUpdate_at ho rfl ?_ (by rw [List.size_toArray, sizeLine_eq]; omega) (Nat.zero_le _))
  obtain ⟨e1, ho1⟩ : ∃ e1, (s.heap.update a (Obj.mapSeq fun _ => #[])).get? a = some (seqObj "list" #[] e1) := ⟨_, get?_update_seq ho (fun _ => #[])⟩
  refine wpAny_bind (seqEpoch_at ho1 rfl ?_)
  refine wpAny_bind (wpAny_newTuple ?_ (by show vs.length ≤ _; rw [sizeLine_eq]; omega))
  refine wpAny_bind (wpAny_newList ?_ (Nat.zero_le _))
  refine wpAny_holding ?_
  have ho6 : (((s.heap.update a (Obj.mapSeq fun _ => #[])).push (seqObj "tuple" vs.toArray 0)).push (seqObj "list" #[] 0)).get? a = some (seqObj "list" #[] e1) := by
    rw [Heap.get?_push_ne _ _ _ (by rw [size_push', Heap.size_update]; exact Nat.ne_of_lt (Nat.lt_succ_of_lt ha)), Heap.get?_push_ne _ _ _ (by rw [Heap.size_update]; exact Nat.ne_of_lt ha)]
    exact ho1
  have keep : ∀ b o, b ≠ a → s.heap.get? b = some o → (((s.heap.update a (Obj.mapSeq fun _ => #[])).push (seqObj "tuple" vs.toArray 0)).push (seqObj "list" #[] 0)).get? b = some o := fun b o hb e => by
    refine Heap.get?_push_of_some _ (Heap.get?_push_of_some _ ?_)
    rw [Heap.get?_update_ne _ _ _ _ hb]; exact e
  have hP6 : Al2 (PairAt (((s.heap.update a (Obj.mapSeq fun _ => #[])).push (seqObj "tuple" vs.toArray 0)).push (seqObj "list" #[] 0))) ps vs := hP.mono fun p v ⟨b, t, u, e, hb⟩ => ⟨b, t, u, e, keep b _ (fun z => by
    subst z; rw [ho] at hb; simp at hb) hb⟩
  show wpAny (Mo w) A _ P E { s with heap := ((s.heap.update a (Obj.mapSeq fun _ => #[])).push (seqObj "tuple" vs.toArray 0)).push (seqObj "list" #[] 0) }
  dsimp only
  have hsz : vs.toArray.size = vs.length := by simp
  have hlen := hP.length
  by_cases h2 : vs.toArray.size < 2
  · rw [if_pos h2, if_pos h2]
    refine wpAny_bind (wpAny_pure ?_)
    rw [StateT.run_pure]
    refine wpAny_bind (wpAny_pure ?_)
    dsimp only
    refine wpAny_bind (seqEpoch_at ho6 rfl ?_)
    refine wpAny_bind (listUpdate_at ho6 rfl ?_ (Nat.zero_le _) (by rw [Array.size_map]; show (pairsOf vs).size ≤ _; rw [pairsOf_size, sizeLine_eq]; omega))
    simp only [bne_self_eq_false, Bool.false_eq_true, if_false]
    refine wpAny_pure ?_
    have e : Array.map (fun x => x.2) (arrOf (SortSt.mk' general' (vs.toArray.zip vs.toArray) #[] 7 none)) = vs.toArray := by
      show Array.map (fun (x : Keyed) => x.2) (vs.toArray.zip vs.toArray) = vs.toArray
      apply Array.ext_getElem?
      intro k
      simp only [Array.getElem?_map, Array.getElem?_zip_eq_some]
      cases q : vs.toArray[k]? with
      | none =>
        have : (vs.toArray.zip vs.toArray)[k]? = none := by
          rw [Array.getElem?_eq_none_iff] at q ⊢
          simpa using q
        rw [this]; rfl
      | some v =>
        have : (vs.toArray.zip vs.toArray)[k]? = some (v, v) := Array.getElem?_zip_eq_some.mpr ⟨q, q⟩
        rw [this]; rfl
    rw [e]
    refine h vs ps hR (.refl _) ?_
    match ps, hlen with
    | [], _ => exact .nil
    | [_], _ => simp
    | _ :: _ :: _, hl => simp at hl; omega
  · rw [if_neg h2, if_neg h2]
    have h2' : 2 ≤ vs.length := by omega
    obtain ⟨fs, hK, hfl, hfi⟩ := tups_of (s := { s with heap := ((s.heap.update a (Obj.mapSeq fun _ => #[])).push (seqObj "tuple" vs.toArray 0)).push (seqObj "list" #[] 0) }) hP6
    refine wpAny_bind (kat_kind (T := .type "int") hK (by omega) (fun v hv => by obtain ⟨i, t, rfl⟩ := hfi v hv; exact Looks.of_pure rfl) rfl ?_)
    show wpAny _ A _ _ _ _
    have hvp : vs.length = ps.length := hlen
    have ans := sort_run (key := fun i => cd (ps.getD i (0, 0))) h2'
    generalize hp : kRun (kAns fun i => cd (ps.getD i (0, 0))) (kas_sort vs.length) = p at ans
    obtain ⟨hperm, hasc⟩ := ans
    have hpl : p.toList.Perm (List.range vs.length) := by simpa using Array.perm_iff_toList_perm.mp hperm
    have hps : p.size = vs.length := by simpa using hpl.length_eq
    have hmem : ∀ i ∈ p.toList, i < vs.length := fun i hi => List.mem_range.mp (hpl.mem_iff.mp hi)
    have hrun : ∀ (G : Array Nat → Shared → Prop) (s0 : Shared), Al2 (PairAt s0.heap) ps vs → G p s0 → (kas_sort vs.length).kasWp (kas_ask PySem.Challenge.rw_ge0003_01.row.prog w A (tuples' true) vs) G s0 := by
      intro G s0 hP0 hG
      exact kRun_wpIn (n := vs.length) (ans := kAns fun i => cd (ps.getD i (0, 0))) (fun i j C hi hj hC => ask_pair hP0 hs (hvp ▸ hi) (hvp ▸ hj) hC) _ (sort_in (by omega)) (by rw [hp]; exact hG)
    refine wpAny_bind (wpAny_mono (kat_run (Q := fun st' s' => s' = { s with heap := ((s.heap.update a (Obj.mapSeq fun _ => #[])).push (seqObj "tuple" vs.toArray 0)).push (seqObj "list" #[] 0) } ∧ arrOf st' = p.map (kas_item (vs.toArray.zip vs.toArray)) ∧ failedOf st' = none)
      (G := fun q s' => q = p ∧ s' = { s with heap := ((s.heap.update a (Obj.mapSeq fun _ => #[])).push (seqObj "tuple" vs.toArray 0)).push (seqObj "list" #[] 0) })
      rfl h2' h64 (fun p' st' s' a1 a2 a3 a4 => ⟨a4.2, a4.1 ▸ a2, a3⟩) (hrun _ _ hP6 ⟨rfl, rfl⟩)) ?_ fun _ _ e => e)
    rintro ⟨⟨⟩, st'⟩ s' ⟨rfl, har, hf⟩
    dsimp only
    have hout := kat_snds rfl har
    have hosz : (List.toArray (p.toList.map fun i => vs.getD i Value.none)).size = vs.length := by rw [List.size_toArray, List.length_map, Array.length_toList, hps]
    rw [hout]
    refine wpAny_bind (seqEpoch_at ho6 rfl ?_)
    refine wpAny_bind (listUpdate_at ho6 rfl ?_ (Nat.zero_le _) (Nat.le_trans (Nat.le_of_eq hosz) (by rw [sizeLine_eq]; omega)))
    rw [hf]
    simp only [bne_self_eq_false, Bool.false_eq_true, if_false]
    refine wpAny_pure (h (p.toList.map fun i => vs.getD i Value.none) (p.toList.map fun i => ps.getD i (0, 0)) (al2_pick hR _ fun i hi => hvp ▸ hmem i hi) ?_ ?_)
    · have := hpl.map (fun i => ps.getD i (0, 0))
      rw [hvp, map_range_getD] at this
      exact this
    · rw [List.pairwise_map]
      rw [List.pairwise_iff_getElem]
      intro i j hi hj hij
      have := hasc i j (by omega) (by simpa [hps] using hj)
      unfold kK at this
      have e1 : p.getD i 0 = p.toList[i] := by
        rw [Array.getD_eq_getD_getElem?]; simp [show i < p.size by simpa using hi]
      have e2 : p.getD j 0 = p.toList[j] := by
        rw [Array.getD_eq_getD_getElem?]; simp [show j < p.size by simpa using hj]
      rw [e1, e2] at this
      exact this

theorem sorted_pairs {R : Int × Int → Value → Prop} {l : Addr} {vs : List Value} {ps : List (Int × Int)} {Q : Value → Shared → Prop} (hl : s.heap.IsList l vs.toArray) (hR : Al2 R ps vs) (hRP : ∀ p v, R p v → PairAt s.heap p v) (hs : ∀ p ∈ ps, Sm p) (h64 : vs.length < 64)
    (h : ∀ (out : List Value) (ps' : List (Int × Int)), Al2 R ps' out → ps'.Perm ps → ps'.Pairwise (fun x y => cd x ≤ cd y) → Q (.ref (s.heap.objs.size + 1)) { s with heap := sortedAll s.heap vs out.toArray }) :
    wpAny (Mo w) A (call (.builtin "sorted") [.ref l]) Q E s := by
  refine Calls.call_function_entry kind_sorted plain_sorted entry_sorted (args_sorted1 _) ?_
  unfold Builtin.«sorted»
  refine wpAny_bind (m := checkCount "sorted" 1 1 _) (wpAny_pure ?_)
  refine wpAny_bind (collect_list hl ?_ (by rw [sizeLine_eq]; omega))
  refine wpAny_bind (wpAny_newList ?_ (by rw [sizeLine_eq]; omega))
  have hsz : ((s.heap.push (seqObj "list" #[] 0)).update s.heap.objs.size (Obj.mapSeq (· ++ vs.toArray))).objs.size = s.heap.objs.size + 1 := by
    rw [Heap.size_update, size_push']
  have hoL : (((s.heap.push (seqObj "list" #[] 0)).update s.heap.objs.size (Obj.mapSeq (· ++ vs.toArray))).push (seqObj "list" vs.toArray 0)).get? (s.heap.objs.size + 1) = some (seqObj "list" vs.toArray 0) := by
    rw [← hsz]; exact Heap.get?_push_size _ rfl
  have keep : ∀ b o, s.heap.get? b = some o → (((s.heap.push (seqObj "list" #[] 0)).update s.heap.objs.size (Obj.mapSeq (· ++ vs.toArray))).push (seqObj "list" vs.toArray 0)).get? b = some o := fun b o q => by
    have hlt : b < s.heap.objs.size := Heap.lt_size q
    rw [Heap.get?_push_ne _ _ _ (by rw [hsz]; exact Nat.ne_of_lt (Nat.lt_succ_of_lt hlt)), Heap.get?_update_ne _ _ _ _ (Nat.ne_of_lt hlt), Heap.get?_push_ne _ _ _ (Nat.ne_of_lt hlt)]
    exact q
  show wpAny _ _ _ _ _ { s with heap := ((s.heap.push (seqObj "list" #[] 0)).update s.heap.objs.size (Obj.mapSeq (· ++ vs.toArray))).push (seqObj "list" vs.toArray 0) }
  rw [hsz]
  refine wpAny_bind (wpAny_holding (wpAny_call_entry slot_list_sort ⟨_, hoL, rfl⟩ entry_list_sort (lsort_pairs (s := { s with heap := ((s.heap.push (seqObj "list" #[] 0)).update s.heap.objs.size (Obj.mapSeq (· ++ vs.toArray))).push (seqObj "list" vs.toArray 0) }) hoL hR (fun p v r => by obtain ⟨b, t, u, e, hb⟩ := hRP p v r; exact ⟨b, t, u, e, keep _ _ hb⟩) hs h64 fun out ps' a1 a2 a3 => ⟨_, rfl, ?_⟩) (args_list_sort _)))
  exact wpAny_pure ⟨_, rfl, h out ps' a1 a2 a3⟩
end
end Mine
end

section
open PySem PySem.W PyProof.Rows
set_option Elab.async false
set_option maxRecDepth 100000
set_option linter.unusedVariables false
set_option linter.unusedSimpArgs false
set_option autoImplicit false
namespace Mine

def srtP (ps : List (Int × Int)) : List (Int × Int) := ps.mergeSort fun a b => decide (cd a ≤ cd b)
def srtI (ns : List Int) : List Int := ns.mergeSort fun a b => decide (a ≤ b)
theorem srtP_perm (ps : List (Int × Int)) : (srtP ps).Perm ps := List.mergeSort_perm ..
theorem srtI_perm (ns : List Int) : (srtI ns).Perm ns := List.mergeSort_perm ..
theorem srtP_sorted (ps : List (Int × Int)) : (srtP ps).Pairwise fun a b => cd a ≤ cd b := by
  have := List.pairwise_mergeSort (le := fun (a b : Int × Int) => decide (cd a ≤ cd b)) (fun a b c h1 h2 => by simp at h1 h2 ⊢; omega) (fun a b => by simp; omega) ps
  exact this.imp fun h => by simpa using h
theorem srtI_sorted (ns : List Int) : (srtI ns).Pairwise fun a b => a ≤ b := by
  have := List.pairwise_mergeSort (le := fun (a b : Int) => decide (a ≤ b)) (fun a b c h1 h2 => by simp at h1 h2 ⊢; omega) (fun a b => by simp; omega) ns
  exact this.imp fun h => by simpa using h
theorem srtP_uniq {ps qs : List (Int × Int)} (hs : ∀ p ∈ ps, Sm p) (hp : qs.Perm ps) (hq : qs.Pairwise fun a b => cd a ≤ cd b) : qs = srtP ps :=
  List.Perm.eq_of_pairwise (le := fun a b => cd a ≤ cd b) (fun a b ha hb h1 h2 => cd_inj (hs a (hp.mem_iff.mp ha)) (hs b ((srtP_perm ps).mem_iff.mp hb)) (by omega)) hq (srtP_sorted ps) (hp.trans (srtP_perm ps).symm)
theorem srtI_uniq {ns ms : List Int} (hp : ms.Perm ns) (hq : ms.Pairwise fun a b => a ≤ b) : ms = srtI ns :=
  List.Perm.eq_of_pairwise (le := fun a b => a ≤ b) (fun a b _ _ h1 h2 => by omega) hq (srtI_sorted ns) (hp.trans (srtI_perm ns).symm)
/-- the greatest -/
def mxI : List Int → Int
  | [] => 0
  | [a] => a
  | a :: r => max a (mxI r)
theorem mxI_mem : ∀ {ns : List Int}, ns ≠ [] → mxI ns ∈ ns
  | [a], _ => List.mem_singleton.mpr rfl
  | a :: b :: r, _ => by
    have := mxI_mem (ns := b :: r) (by simp)
    show max a (mxI (b :: r)) ∈ _
    rcases Int.le_total a (mxI (b :: r)) with h | h
    · rw [Int.max_eq_right h]; exact List.mem_cons_of_mem _ this
    · rw [Int.max_eq_left h]; exact List.mem_cons_self
theorem le_mxI : ∀ {ns : List Int} {x : Int}, x ∈ ns → x ≤ mxI ns
  | [a], x, h => by rw [List.mem_singleton.mp h]; exact Int.le_refl _
  | a :: b :: r, x, h => by
    show x ≤ max a (mxI (b :: r))
    rcases List.mem_cons.mp h with rfl | h
    · omega
    · have := le_mxI h; omega

section
variable {w : World} {H : Heap} {A : Around}

theorem fn_len {α : Type} {T : α → Ty} {xs : List α} (hz : xs.length < 1000) : Fn w H A (.builtin "len") [tList T xs] (tInt xs.length) := fun B s E vs W hv => by
  match vs, hv with
  | [v], ⟨⟨a, us, n, e, h, r⟩, _⟩ =>
    subst e
    have hl := r.length
    simp at hl
    refine PySem.Calls.call_len_list (items := us) ⟨_, W.sub _ _ h, rfl, n, rfl⟩ (by omega) ⟨B, Grow.toks W.sub _, s.toks + 1, by rw [hl]⟩
theorem fn_range1 {b : Int} : Fn w H A (.type "range") [tInt b] (tRange 0 b) := fun B s E vs W hv => by
  match vs, hv with
  | [v], ⟨⟨t, e⟩, _⟩ =>
    subst e
    have G := Grow.alloc (t := s.toks + 1 + 1) W.sub ({ cls := .type "range", data := .fields #[.int 0 s.toks, .int b t, .int 1 (s.toks + 1)] } : Obj)
    exact call_range_1 ⟨_, G, _, _, _, _, rfl, Wd.add_self _ _ _⟩
theorem fn_range2 {a b : Int} : Fn w H A (.type "range") [tInt a, tInt b] (tRange a b) := fun B s E vs W hv => by
  match vs, hv with
  | [v, v'], ⟨⟨t, e⟩, ⟨u, e'⟩, _⟩ =>
    subst e; subst e'
    have G := Grow.alloc (t := s.toks + 1) W.sub ({ cls := .type "range", data := .fields #[.int a t, .int b u, .int 1 s.toks] } : Obj)
    exact call_range_2 ⟨_, G, _, _, _, _, rfl, Wd.add_self _ _ _⟩
theorem fn_max2 {a b : Int} (hh : A.handled = none) : Fn w H A (.builtin "max") [tInt a, tInt b] (tInt (max a b)) := fun B s E vs W hv => by
  match vs, hv with
  | [v, v'], ⟨⟨t, e⟩, ⟨u, e'⟩, _⟩ =>
    subst e; subst e'
    refine max_two_ints hh fun h' tk k => ⟨B, ⟨Wle.refl B, fun b o e => k b o (W.sub b o e), fun _ _ e => .inl e, h', tk, rfl, k⟩, ?_⟩
    by_cases h : b > a
    · rw [if_pos h]; exact ⟨u, by rw [Int.max_eq_right (by omega)]⟩
    · rw [if_neg h]; exact ⟨t, by rw [Int.max_eq_left (by omega)]⟩
theorem fn_max {ns : List Int} (hh : A.handled = none) (hne : ns ≠ []) : Fn w H A (.builtin "max") [tInts ns] (tInt (mxI ns)) := fun B s E vs W hv => by
  match vs, hv with
  | [v], ⟨⟨a, us, n, e, h, r⟩, _⟩ =>
    subst e
    have hi := al2_ints r
    obtain ⟨xs, ex⟩ := hi.allInts.items
    have hns : ns = xs.toList.map (·.1) := by
      rw [← hi.numsOf, ← nums_intItems, ← ex]
    have hpos : 0 < ns.length := List.length_pos_iff.mpr hne
    have hsz : 0 < xs.size := by
      have h3 := hpos; rw [hns, List.length_map, Array.length_toList] at h3; exact h3
    have hl : s.heap.IsList a (intItems xs) := by
      have : s.heap.IsList a us.toList.toArray := ⟨_, W.sub _ _ h, rfl, n, by simp⟩
      rw [ex] at this; exact this
    refine max_intList hh hl hsz fun v h' tk hv k => ⟨B, ⟨Wle.refl B, fun b o e => k b o (W.sub b o e), fun _ _ e => .inl e, h', tk, rfl, k⟩, ?_⟩
    obtain ⟨t, rfl⟩ := intItems_at hv
    obtain ⟨h1, h2⟩ := argBest_gt (numAt xs) (xs.size - 1)
    refine ⟨t, ?_⟩
    congr 1
    have m1 : numAt xs (argBest (fun i j => decide (numAt xs i > numAt xs j)) (xs.size - 1)) ∈ ns := by
      rw [hns, numAt_eq]
      have : argBest (fun i j => decide (numAt xs i > numAt xs j)) (xs.size - 1) < (xs.toList.map (·.1)).length := by rw [List.length_map, Array.length_toList]; omega
      rw [List.getD_eq_getElem?_getD, List.getElem?_eq_getElem this]
      exact List.getElem_mem this
    have m2 : mxI ns ≤ numAt xs (argBest (fun i j => decide (numAt xs i > numAt xs j)) (xs.size - 1)) := by
      have hm := mxI_mem hne
      rw [hns] at hm
      obtain ⟨j, hj, e⟩ := List.mem_iff_getElem.mp hm
      rw [List.length_map, Array.length_toList] at hj
      have := h2 j (by omega)
      rw [numAt_eq xs j, List.getD_eq_getElem?_getD, List.getElem?_eq_getElem (by simpa using hj)] at this
      simp only [Option.getD_some] at this
      rw [e] at this
      rw [hns]; exact this
    have := le_mxI m1
    omega
theorem fn_sorted {ns : List Int} (hz : ns.length < 64) : Fn w H A (.builtin "sorted") [tInts ns] (tInts (srtI ns)) := fun B s E vs W hv => by
  match vs, hv with
  | [v], ⟨⟨a, us, n, e, h, r⟩, _⟩ =>
    subst e
    have hlen := r.length
    refine sorted_ints (vs := us.toList) (ns := ns) ⟨_, W.sub _ _ h, rfl, n, by simp⟩ (al2_ints r) (by omega) fun out ns' i1 i2 i3 => ?_
    have hold := fun b o (e : s.heap.get? b = some o) => sortedAll_old (vs := us.toList) (out := out) e
    obtain ⟨ep, hat⟩ := sortedAll_at s.heap us.toList out
    have hBn : B (s.heap.objs.size + 1) = none := by
      cases z : B (s.heap.objs.size + 1) with
      | none => rfl
      | some o => have := W.sub _ _ z; rw [get?_ge_none (Nat.le_succ _)] at this; cases this
    refine ⟨B.add (s.heap.objs.size + 1) (lstObj out ep), ⟨Wd.le_add hBn, fun b o e => ?_, fun b o e => ?_, _, s.toks, rfl, hold⟩, _, out, ep, rfl, Wd.add_self _ _ _, ?_⟩
    · rcases Wd.add_cases e with ⟨rfl, rfl⟩ | ⟨_, e⟩
      · exact hat
      · exact hold _ _ (W.sub _ _ e)
    · rcases Wd.add_cases e with ⟨rfl, rfl⟩ | ⟨_, e⟩
      · exact .inr (get?_ge_none (Nat.le_succ _))
      · exact .inl e
    · rw [← srtI_uniq i2 i3]; exact al2_of_ints i1
theorem fn_sortedP {ps : List (Int × Int)} (hz : ps.length < 64) (hs : ∀ p ∈ ps, Sm p) : Fn w H A (.builtin "sorted") [tPairs ps] (tPairs (srtP ps)) := fun B s E vs W hv => by
  match vs, hv with
  | [v], ⟨⟨a, us, n, e, h, r⟩, _⟩ =>
    subst e
    have hlen := r.length
    refine sorted_pairs (R := fun p v => (tPair p).R B v) (vs := us.toList) (ps := ps) ⟨_, W.sub _ _ h, rfl, n, by simp⟩ r (fun p v ⟨b, t, u, e, hb⟩ => ⟨b, t, u, e, W.sub _ _ hb⟩) hs (by omega) fun out ps' i1 i2 i3 => ?_
    have hold := fun b o (e : s.heap.get? b = some o) => sortedAll_old (vs := us.toList) (out := out.toArray) e
    obtain ⟨ep, hat⟩ := sortedAll_at s.heap us.toList out.toArray
    have hBn : B (s.heap.objs.size + 1) = none := by
      cases z : B (s.heap.objs.size + 1) with
      | none => rfl
      | some o => have := W.sub _ _ z; rw [get?_ge_none (Nat.le_succ _)] at this; cases this
    have hle := Wd.le_add (o := lstObj out.toArray ep) hBn
    refine ⟨B.add (s.heap.objs.size + 1) (lstObj out.toArray ep), ⟨hle, fun b o e => ?_, fun b o e => ?_, _, s.toks, rfl, hold⟩, _, out.toArray, ep, rfl, Wd.add_self _ _ _, ?_⟩
    · rcases Wd.add_cases e with ⟨rfl, rfl⟩ | ⟨_, e⟩
      · exact hat
      · exact hold _ _ (W.sub _ _ e)
    · rcases Wd.add_cases e with ⟨rfl, rfl⟩ | ⟨_, e⟩
      · exact .inr (get?_ge_none (Nat.le_succ _))
      · exact .inl e
    · rw [← srtP_uniq hs i2 i3]
      exact Al2.mono (fun p v y => (tPair p).mono hle y) i1
end
end Mine
end

section
open PySem PySem.W PyProof.Rows
set_option Elab.async false
set_option maxRecDepth 100000
set_option linter.unusedVariables false
set_option linter.unusedSimpArgs false
set_option autoImplicit false
namespace Mine

abbrev cF (w : World) (H : Heap) (A : Around) (fd : FuncData) (L a : Addr) (n : Nat) : Cx := { w := w, H := H, A := A.deeper (callEnvC fd L a), env := callEnvC fd L a, n := n }
def mF (fd : FuncData) (L : Nat) (b : Addr) : Prop := b = L ∨ ∃ n, (cellsFrom (L + 1) fd.scope.names []).lookup n = some b

def Bd (B : Wd) (p : Str × Ty) (q : Str × Value) : Prop := p.1 = q.1 ∧ p.2.R B q.2

section
variable {kf : Str → Option NameKind}
theorem bindL_other : ∀ {binds : List (Str × Value)} {m : Str → Option Value} {x : Str}, (∀ q ∈ binds, q.1 ≠ x) → bindL kf binds m x = m x
  | [], _, _, _ => rfl
  | (n, v) :: r, m, x, h => by
    unfold bindL
    rw [bindL_other fun q hq => h q (List.mem_cons_of_mem _ hq)]
    split
    · exact if_neg (Ne.symm (h _ List.mem_cons_self))
    · rfl
theorem bindC_other : ∀ {binds : List (Str × Value)} {m : Str → Option Value} {x : Str}, (∀ q ∈ binds, q.1 ≠ x) → bindC kf binds m x = m x
  | [], _, _, _ => rfl
  | (n, v) :: r, m, x, h => by
    unfold bindC
    rw [bindC_other fun q hq => h q (List.mem_cons_of_mem _ hq)]
    split
    · rfl
    · exact if_neg (Ne.symm (h _ List.mem_cons_self))
theorem bindL_mem : ∀ {binds : List (Str × Value)} {m : Str → Option Value} {x : Str} {v : Value}, binds.Pairwise (fun p q => p.1 ≠ q.1) → (x, v) ∈ binds → kf x = some .local → bindL kf binds m x = some v
  | (n, u) :: r, m, x, v, hp, hm, hk => by
    unfold bindL
    rcases List.mem_cons.mp hm with e | hm
    · cases e
      rw [bindL_other fun q hq => Ne.symm ((List.pairwise_cons.mp hp).1 q hq), if_pos hk, if_pos rfl]
    · exact bindL_mem (List.pairwise_cons.mp hp).2 hm hk
theorem bindC_mem : ∀ {binds : List (Str × Value)} {m : Str → Option Value} {x : Str} {v : Value}, binds.Pairwise (fun p q => p.1 ≠ q.1) → (x, v) ∈ binds → kf x = some .cell → bindC kf binds m x = some v
  | (n, u) :: r, m, x, v, hp, hm, hk => by
    unfold bindC
    rcases List.mem_cons.mp hm with e | hm
    · cases e
      rw [bindC_other fun q hq => Ne.symm ((List.pairwise_cons.mp hp).1 q hq), if_neg (by rw [hk]; decide), if_pos rfl]
    · exact bindC_mem (List.pairwise_cons.mp hp).2 hm hk
end
theorem bd_mem {B : Wd} : ∀ {ps : Ga} {binds : List (Str × Value)} {p : Str × Ty}, Al2 (Bd B) ps binds → p ∈ ps → ∃ v, (p.1, v) ∈ binds ∧ p.2.R B v
  | p :: ps, q :: qs, p', ⟨⟨e, r⟩, h⟩, hm => by
    rcases List.mem_cons.mp hm with rfl | hm
    · exact ⟨q.2, by rw [e]; exact List.mem_cons_self, r⟩
    · obtain ⟨v, a, b⟩ := bd_mem h hm
      exact ⟨v, List.mem_cons_of_mem _ a, b⟩
  | _ :: _, [], _, h, _ => h.elim
theorem bd_mem' {B : Wd} : ∀ {ps : Ga} {binds : List (Str × Value)} {q : Str × Value}, Al2 (Bd B) ps binds → q ∈ binds → ∃ p ∈ ps, p.1 = q.1
  | p :: ps, q :: qs, q', ⟨⟨e, r⟩, h⟩, hm => by
    rcases List.mem_cons.mp hm with rfl | hm
    · exact ⟨p, List.mem_cons_self, e⟩
    · obtain ⟨p', a, b⟩ := bd_mem' h hm
      exact ⟨p', List.mem_cons_of_mem _ a, b⟩
  | [], _ :: _, _, h, _ => h.elim
theorem bd_nodup {B : Wd} : ∀ {ps : Ga} {binds : List (Str × Value)}, Al2 (Bd B) ps binds → ps.Pairwise (fun p q => p.1 ≠ q.1) → binds.Pairwise (fun p q => p.1 ≠ q.1)
  | [], [], _, _ => .nil
  | p :: ps, q :: qs, ⟨⟨e, r⟩, h⟩, hp => by
    obtain ⟨h1, h2⟩ := List.pairwise_cons.mp hp
    refine List.pairwise_cons.mpr ⟨fun q' hq' => ?_, bd_nodup h h2⟩
    obtain ⟨p', hp', e'⟩ := bd_mem' h hq'
    rw [← e, ← e']
    exact h1 p' hp'
  | [], _ :: _, h, _ => h.elim
  | _ :: _, [], h, _ => h.elim

/-- a def is entered -/
theorem code_enterH {w : World} {H : Heap} {A : Around} {R : Result → Shared → Prop} {a : Addr} {o : Obj} {fd : FuncData} {body : List Stmt} {ps : Ga} {n : Nat} {B : Wd} {s : Shared} {args : Args} {binds : List (Str × Value)}
    (ho : s.heap.get? a = some o) (hdat : o.data = .func fd) (hbody : fd.body = .stmts body) (hclo : fd.closure = []) (hg : fd.globals = mainGlobals) (hb : fd.builtins = builtinsNs)
    (hcode : s.heap.CodeRec fd.code fd.qualname) (gl : Gl w H) (rm : Rm A (n + 1)) (W : Ws H B s)
    (hbind : BindsTo s fd args binds) (hbd : Al2 (Bd B) ps binds) (hnd : ps.Pairwise fun p q => p.1 ≠ q.1)
    (hkind : ∀ p ∈ ps, fd.scope.names.lookup p.1 = some .local ∨ (fd.scope.names.lookup p.1 = some .cell ∧ ∀ L, ((cellsFrom (L + 1) fd.scope.names []).lookup p.1).isSome = true))
    (h : ∀ L s₁, s.heap.objs.size ≤ L → Grow B s B s₁ → St (cF w H A fd L a n) (mF fd L) [] ps B s₁ → (∀ b, mF fd L b → s.heap.get? b = none) →
      wpAny (Mo w) (cF w H A fd L a n).A (execs body (cF w H A fd L a n).env) (fun f s' => R (.ok (.ret (match f with | .ret v => v | _ => .none))) s') (fun _ _ => False) s₁)
    (hco : fd.scope.isCoroutine = false) (hgen : fd.scope.isGenerator = false) (hk : fd.scope.kind = .function) :
    codeAny (Mo w) A (.call (.ref a) args) R s := by
  obtain ⟨p', loose, mg, mb, T⟩ := gl.top
  have kin : (hd.heap_39 w.params).In s.heap := gl.kin.keeps fun b o e => W.sub b o (W.base b o e)
  have hbd' : binds.Pairwise fun p q => p.1 ≠ q.1 := bd_nodup hbd hnd
  refine codeAny_call_function (by have := rm.d; show A.depth < 1000; omega) ho hdat hco hgen hbody hcode (hbind _ _ _ _ ?_)
  rw [hclo]
  refine wpAny_newFunctionEnv_cells hk (fun q hq => ?_) fun env he s₁ X => ?_
  · obtain ⟨p, hp, e⟩ := bd_mem' hbd hq
    rw [← e]
    rcases hkind p hp with h1 | ⟨h1, h2⟩
    · exact .inl h1
    · exact .inr ⟨h1, h2 _⟩
  · subst he
    refine ⟨(T.nolimit.keeps fun b o e => W.sub b o (W.base b o e)).keeps X.toInCall.keep, codeAny_func ?_⟩
    have hL : s.heap.objs.size ≤ (callEnvC fd s.heap.objs.size a).locals := X.toInCall.fresh
    have G : Grow B s B s₁ := ⟨Wle.refl B, fun b o e => X.toInCall.keep b o (W.sub b o e), fun _ _ e => .inl e, by
      obtain ⟨h', tk, e⟩ := X.toInCall.same
      subst e
      exact ⟨h', tk, rfl, X.toInCall.keep⟩⟩
    have Cpw : ∀ nm b, (nm, b) ∈ cellsFrom (s.heap.objs.size + 1) fd.scope.names [] → s.heap.objs.size < b := fun nm b hm => X.above nm b hm
    have hfr : ∀ b, mF fd s.heap.objs.size b → s.heap.get? b = none := fun b hb => by
      rcases hb with rfl | ⟨nm, hm⟩
      · exact get?_size_none _
      · exact get?_ge_none (Nat.le_of_lt (Cpw nm b (mem_of_lookup hm)))
    have S : St (cF w H A fd s.heap.objs.size a n) (mF fd s.heap.objs.size) [] ps B s₁ := by
      refine ⟨⟨⟨hk, hg, hb, rm.deeper _, gl⟩, W.base, G.sub, fun x b e => ⟨_, X.cell x b e⟩, fun p hp => ?_⟩, fun b o e m => ?_, fun b m => ?_, .inl rfl, ⟨_, X.toInCall.ns⟩, fun x y b m e1 e2 => ?_, fun q hq => by cases hq⟩
      · obtain ⟨v, hv, r⟩ := bd_mem hbd hp
        refine ⟨v, ?_, r⟩
        rcases hkind p hp with h1 | ⟨h1, h2⟩
        · exact .inl ⟨h1, _, X.toInCall.ns, bindL_mem hbd' hv h1⟩
        · obtain ⟨b, hb'⟩ := Option.isSome_iff_exists.mp (h2 s.heap.objs.size)
          refine .inr ⟨.inl h1, b, hb', ?_⟩
          have := X.cell p.1 b hb'
          rw [bindC_mem hbd' hv h1] at this
          exact this
      · have := W.sub b o e
        rw [hfr b m] at this; cases this
      · rcases m with rfl | ⟨nm, m⟩
        · obtain ⟨o, _, _, e, _⟩ := X.toInCall.ns; exact ⟨o, e⟩
        · obtain ⟨o, e, _⟩ := X.cell nm b m; exact ⟨o, e⟩
      · exact name_of_addr X.apart (mem_of_lookup e1) (mem_of_lookup e2)
    exact wpAny_mono (h s.heap.objs.size s₁ (Nat.le_refl _) G S hfr) (fun f s' q => q) fun _ _ x => x.elim

theorem code_enter {w : World} {H : Heap} {A : Around} {R : Result → Shared → Prop} {a : Addr} {o : Obj} {fd : FuncData} {body : List Stmt} {ps : Ga} {n : Nat} {B : Wd} {s : Shared} {args : Args} {binds : List (Str × Value)}
    (ho : (hd.heap_39 w.params).lookup a = some o) (hdat : o.data = .func fd) (hbody : fd.body = .stmts body) (hclo : fd.closure = []) (hg : fd.globals = mainGlobals) (hb : fd.builtins = builtinsNs)
    (hcode : codeIn (hd.heap_39 w.params) fd.code fd.qualname = true) (gl : Gl w H) (rm : Rm A (n + 1)) (W : Ws H B s)
    (hbind : BindsTo s fd args binds) (hbd : Al2 (Bd B) ps binds) (hnd : ps.Pairwise fun p q => p.1 ≠ q.1)
    (hkind : ∀ p ∈ ps, fd.scope.names.lookup p.1 = some .local ∨ (fd.scope.names.lookup p.1 = some .cell ∧ ∀ L, ((cellsFrom (L + 1) fd.scope.names []).lookup p.1).isSome = true))
    (h : ∀ L s₁, s.heap.objs.size ≤ L → Grow B s B s₁ → St (cF w H A fd L a n) (mF fd L) [] ps B s₁ → (∀ b, mF fd L b → s.heap.get? b = none) →
      wpAny (Mo w) (cF w H A fd L a n).A (execs body (cF w H A fd L a n).env) (fun f s' => R (.ok (.ret (match f with | .ret v => v | _ => .none))) s') (fun _ _ => False) s₁)
    (hco : fd.scope.isCoroutine = false) (hgen : fd.scope.isGenerator = false) (hk : fd.scope.kind = .function) :
    codeAny (Mo w) A (.call (.ref a) args) R s := by
  have kin : (hd.heap_39 w.params).In s.heap := gl.kin.keeps fun b o e => W.sub b o (W.base b o e)
  exact code_enterH (kin _ _ ho) hdat hbody hclo hg hb (codeRec_of kin hcode) gl rm W hbind hbd hnd hkind h hco hgen hk

theorem wp_enter {w : World} {H : Heap} {A : Around} {E : Value → Shared → Prop} {Q : Value → Shared → Prop} {a : Addr} {o : Obj} {fd : FuncData} {body : List Stmt} {ps : Ga} {n : Nat} {B : Wd} {s : Shared} {args : Args} {binds : List (Str × Value)}
    (ho : (hd.heap_39 w.params).lookup a = some o) (hdat : o.data = .func fd) (hbody : fd.body = .stmts body) (hclo : fd.closure = []) (hg : fd.globals = mainGlobals) (hb : fd.builtins = builtinsNs)
    (hcode : codeIn (hd.heap_39 w.params) fd.code fd.qualname = true) (gl : Gl w H) (rm : Rm A (n + 1)) (W : Ws H B s)
    (hbind : BindsTo s fd args binds) (hbd : Al2 (Bd B) ps binds) (hnd : ps.Pairwise fun p q => p.1 ≠ q.1)
    (hkind : ∀ p ∈ ps, fd.scope.names.lookup p.1 = some .local ∨ (fd.scope.names.lookup p.1 = some .cell ∧ ∀ L, ((cellsFrom (L + 1) fd.scope.names []).lookup p.1).isSome = true))
    (h : ∀ L s₁, s.heap.objs.size ≤ L → Grow B s B s₁ → St (cF w H A fd L a n) (mF fd L) [] ps B s₁ → (∀ b, mF fd L b → s.heap.get? b = none) →
      wpAny (Mo w) (cF w H A fd L a n).A (execs body (cF w H A fd L a n).env) (fun f s' => Q (match f with | .ret v => v | _ => .none) s') (fun _ _ => False) s₁)
    (hco : fd.scope.isCoroutine = false) (hgen : fd.scope.isGenerator = false) (hk : fd.scope.kind = .function) :
    wpAny (Mo w) A (call (.ref a) args.pos args.kw) Q E s :=
  wpAny_call (code_enter ho hdat hbody hclo hg hb hcode gl rm W hbind hbd hnd hkind h hco hgen hk)

/-- the end of a def -/
theorem Mv.grow {M : Addr → Prop} {B₀ B B' : Wd} {s₀ s s' : Shared} (g : Grow B₀ s₀ B s) (m : Mv M B s B' s') (hM : ∀ b, M b → s₀.heap.get? b = none) (hs : ∀ b o, B' b = some o → s'.heap.get? b = some o) : Grow B₀ s₀ B' s' where
  le := g.le.trans m.le
  sub := hs
  new := fun b o e => by
    rcases m.new b o e with h | h | h
    · exact g.new b o h
    · refine .inr ?_
      cases q : s₀.heap.get? b with
      | none => rfl
      | some o' => rw [kGet g.keeps b o' q] at h; cases h
    · exact .inr (hM b h)
  keeps := by
    obtain ⟨h, t, e, k⟩ := g.keeps
    obtain ⟨h', t', e', k'⟩ := m.but
    refine ⟨h', t', by rw [e', e], fun b o q => k' b o (fun hm => ?_) (by rw [e]; exact k b o q)⟩
    rw [hM b hm] at q; cases q

theorem fn_def {w : World} {H : Heap} {A : Around} {a : Addr} {o : Obj} {fd : FuncData} {body : List Stmt} {ps : Ga} {Ts : List Ty} {U : Ty} {n : Nat}
    (ho : (hd.heap_39 w.params).lookup a = some o) (hdat : o.data = .func fd) (hbody : fd.body = .stmts body) (hclo : fd.closure = []) (hg : fd.globals = mainGlobals) (hb : fd.builtins = builtinsNs)
    (hcode : codeIn (hd.heap_39 w.params) fd.code fd.qualname = true) (gl : Gl w H) (rm : Rm A (n + 1))
    (hbind : ∀ B s vs, Ws H B s → Al2 (fun (T : Ty) v => T.R B v) Ts vs → ∃ binds, BindsTo s fd ⟨vs, []⟩ binds ∧ Al2 (Bd B) ps binds) (hnd : ps.Pairwise fun p q => p.1 ≠ q.1)
    (hkind : ∀ p ∈ ps, fd.scope.names.lookup p.1 = some .local ∨ (fd.scope.names.lookup p.1 = some .cell ∧ ∀ L, ((cellsFrom (L + 1) fd.scope.names []).lookup p.1).isSome = true))
    (h : ∀ L, Ex (cF w H A fd L a n) (mF fd L) (St (cF w H A fd L a n) (mF fd L) [] ps) body (rets U))
    (hco : fd.scope.isCoroutine = false) (hgen : fd.scope.isGenerator = false) (hk : fd.scope.kind = .function) : Fn w H A (.ref a) Ts U := fun B s E vs W hv => by
  obtain ⟨binds, h1, h2⟩ := hbind B s vs W hv
  refine wp_enter (args := ⟨vs, []⟩) ho hdat hbody hclo hg hb hcode gl rm W h1 h2 hnd hkind (fun L s₁ hL G S hfr => ?_) hco hgen hk
  refine wpAny_mono (h L B s₁ _ S) (fun f s' ⟨B', m, v, e, hs, t⟩ => ?_) fun _ _ e => e
  subst e
  exact ⟨B', Mv.grow G m hfr hs, t⟩
theorem ex_st {c : Cx} {M : Addr → Prop} {Λ : La} {Γ : Ga} (Γ' : Ga) {st : Stmt} {rest : List Stmt} {Q : Flow → Pr} (h : Ex1 c M (St c M Λ Γ) st (nxt (St c M Λ Γ'))) (hr : Ex c M (St c M Λ Γ') rest Q) : Ex c M (St c M Λ Γ) (st :: rest) Q := ex_cons h hr
/-- the names of a list are apart -/
def napart : List Str → Bool
  | [] => true
  | x :: r => r.all (fun y => !(x == y)) && napart r
theorem apart_of : ∀ {ps : Ga}, napart (ps.map (·.1)) = true → ps.Pairwise fun p q => p.1 ≠ q.1
  | [], _ => .nil
  | p :: ps, h => by
    simp only [List.map_cons, napart, Bool.and_eq_true, List.all_eq_true, List.mem_map, forall_exists_index, and_imp, forall_apply_eq_imp_iff₂] at h
    refine List.pairwise_cons.mpr ⟨fun q hq e => ?_, apart_of h.2⟩
    have := h.1 q hq
    rw [e] at this
    simp at this
/-- the kinds of a list's names -/
def nlocal (names : List (Str × NameKind)) : List Str → Bool
  | [] => true
  | x :: r => (names.lookup x == some .local) && nlocal names r
theorem kinds_of {fd : FuncData} : ∀ {ps : Ga}, nlocal fd.scope.names (ps.map (·.1)) = true → ∀ p ∈ ps, fd.scope.names.lookup p.1 = some .local ∨ (fd.scope.names.lookup p.1 = some .cell ∧ ∀ L, ((cellsFrom (L + 1) fd.scope.names []).lookup p.1).isSome = true)
  | [], _, p, h => by cases h
  | q :: ps, h, p, hp => by
    simp only [List.map_cons, nlocal, Bool.and_eq_true, beq_iff_eq] at h
    rcases List.mem_cons.mp hp with rfl | hp
    · exact .inl h.1
    · exact kinds_of h.2 p hp
end Mine
end

section
open PySem PySem.W PyProof.Rows
set_option Elab.async false
set_option maxRecDepth 100000
set_option linter.unusedVariables false
set_option linter.unusedSimpArgs false
set_option autoImplicit false
namespace Mine

local macro_rules | `(tactic| tb_rel) => `(tactic| (with_reducible (first | exact List.mem_cons_self | exact List.mem_cons_of_mem _ (List.mem_cons_self) | exact List.mem_cons_of_mem _ (List.mem_cons_of_mem _ (List.mem_cons_self)) | exact List.mem_cons_of_mem _ (List.mem_cons_of_mem _ (List.mem_cons_of_mem _ (List.mem_cons_self))) | exact List.mem_cons_of_mem _ (List.mem_cons_of_mem _ (List.mem_cons_of_mem _ (List.mem_cons_of_mem _ (List.mem_cons_self)))) | exact List.mem_cons_of_mem _ (List.mem_cons_of_mem _ (List.mem_cons_of_mem _ (List.mem_cons_of_mem _ (List.mem_cons_of_mem _ (List.mem_cons_self))))) | exact List.mem_cons_of_mem _ (List.mem_cons_of_mem _ (List.mem_cons_of_mem _ (List.mem_cons_of_mem _ (List.mem_cons_of_mem _ (List.mem_cons_of_mem _ (List.mem_cons_self)))))) | exact List.mem_cons_of_mem _ (List.mem_cons_of_mem _ (List.mem_cons_of_mem _ (List.mem_cons_of_mem _ (List.mem_cons_of_mem _ (List.mem_cons_of_mem _ (List.mem_cons_of_mem _ (List.mem_cons_self))))))) | exact List.mem_cons_of_mem _ (List.mem_cons_of_mem _ (List.mem_cons_of_mem _ (List.mem_cons_of_mem _ (List.mem_cons_of_mem _ (List.mem_cons_of_mem _ (List.mem_cons_of_mem _ (List.mem_cons_of_mem _ (List.mem_cons_self)))))))) | exact List.mem_cons_of_mem _ (List.mem_cons_of_mem _ (List.mem_cons_of_mem _ (List.mem_cons_of_mem _ (List.mem_cons_of_mem _ (List.mem_cons_of_mem _ (List.mem_cons_of_mem _ (List.mem_cons_of_mem _ (List.mem_cons_of_mem _ (List.mem_cons_self))))))))) | exact List.mem_cons_of_mem _ (List.mem_cons_of_mem _ (List.mem_cons_of_mem _ (List.mem_cons_of_mem _ (List.mem_cons_of_mem _ (List.mem_cons_of_mem _ (List.mem_cons_of_mem _ (List.mem_cons_of_mem _ (List.mem_cons_of_mem _ (List.mem_cons_of_mem _ (List.mem_cons_self)))))))))) | exact List.mem_cons_of_mem _ (List.mem_cons_of_mem _ (List.mem_cons_of_mem _ (List.mem_cons_of_mem _ (List.mem_cons_of_mem _ (List.mem_cons_of_mem _ (List.mem_cons_of_mem _ (List.mem_cons_of_mem _ (List.mem_cons_of_mem _ (List.mem_cons_of_mem _ (List.mem_cons_of_mem _ (List.mem_cons_self))))))))))) | exact List.mem_cons_of_mem _ (List.mem_cons_of_mem _ (List.mem_cons_of_mem _ (List.mem_cons_of_mem _ (List.mem_cons_of_mem _ (List.mem_cons_of_mem _ (List.mem_cons_of_mem _ (List.mem_cons_of_mem _ (List.mem_cons_of_mem _ (List.mem_cons_of_mem _ (List.mem_cons_of_mem _ (List.mem_cons_of_mem _ (List.mem_cons_self)))))))))))) | exact List.mem_cons_of_mem _ (List.mem_cons_of_mem _ (List.mem_cons_of_mem _ (List.mem_cons_of_mem _ (List.mem_cons_of_mem _ (List.mem_cons_of_mem _ (List.mem_cons_of_mem _ (List.mem_cons_of_mem _ (List.mem_cons_of_mem _ (List.mem_cons_of_mem _ (List.mem_cons_of_mem _ (List.mem_cons_of_mem _ (List.mem_cons_of_mem _ (List.mem_cons_self))))))))))))))))
/-- Γ' after a store -/
theorem upd_nil {Γ : Ga} {x : Str} {T : Ty} : ∀ p ∈ ([] : Ga), p = (x, T) ∨ (p ∈ Γ ∧ p.1 ≠ x) := fun p h => by cases h
theorem upd_new {Γ Γ' : Ga} {x : Str} {T : Ty} (h : ∀ p ∈ Γ', p = (x, T) ∨ (p ∈ Γ ∧ p.1 ≠ x)) : ∀ p ∈ (x, T) :: Γ', p = (x, T) ∨ (p ∈ Γ ∧ p.1 ≠ x) := fun p hp => by
  rcases List.mem_cons.mp hp with rfl | hp
  · exact .inl rfl
  · exact h p hp
theorem upd_old {Γ Γ' : Ga} {x y : Str} {T U : Ty} (hm : (y, U) ∈ Γ) (hn : (y == x) = false) (h : ∀ p ∈ Γ', p = (x, T) ∨ (p ∈ Γ ∧ p.1 ≠ x)) : ∀ p ∈ (y, U) :: Γ', p = (x, T) ∨ (p ∈ Γ ∧ p.1 ≠ x) := fun p hp => by
  rcases List.mem_cons.mp hp with rfl | hp
  · exact .inr ⟨hm, fun e => by have e : y = x := e; rw [e] at hn; simp at hn⟩
  · exact h p hp
local macro_rules | `(tactic| tb_start) => `(tactic| (repeat' (first | exact upd_nil | (with_reducible refine upd_new ?_) | (with_reducible refine upd_old (by tb_rel) (by decide +kernel) ?_))))

section
variable {w : World} {H : Heap} {A : Around} {n : Nat}

theorem fn_bisect_left {xs : List (Int × Int)} {p : Int × Int} {k : Nat} (gl : Gl w H) (rm : Rm A (n + 1)) (hz : xs.length < 100) (hk : k ≤ xs.length) (hp : ∀ i q, xs[i]? = some q → lexLt q p = decide (i < k)) :
    Fn w H A (.ref 41) [tPairs xs, tPair p, tInt 0, tNone] (tInt k) := by
  refine fn_def (n := n) (ps := [("a", tPairs xs), ("x", tPair p), ("lo", tInt 0), ("hi", tNone), ("key", tNone)]) (ho := rfl) (hdat := rfl) (hbody := rfl) (hclo := rfl) (hg := rfl) (hb := rfl) (hcode := rfl) gl rm ?_ ?_ ?_ (fun L => ?_) rfl rfl rfl
  · intro B s vs W hv
    match vs, hv with
    | [v1, v2, v3, v4], ⟨h1, h2, h3, h4, _⟩ =>
      refine ⟨[("a", v1), ("x", v2), ("lo", v3), ("hi", v4), ("key", .none)], kp_binds (gl.kin.keeps fun b o e => W.sub b o (W.base b o e)) fun S => rfl, ⟨rfl, h1⟩, ⟨rfl, h2⟩, ⟨rfl, h3⟩, ⟨rfl, h4⟩, ⟨rfl, rfl⟩, trivial⟩
  · exact apart_of rfl
  · exact kinds_of rfl
  · refine ex_st [("a", tPairs xs), ("x", tPair p), ("lo", tInt 0), ("hi", tNone), ("key", tNone)] ?_ ?_
    · exact ex_if (q := false) (te_cmp (ev_name (by tb_rel)) ev_int cm_lt) (fun h => nomatch h) (fun _ => ex_nil)
    refine ex_st [("a", tPairs xs), ("x", tPair p), ("lo", tInt 0), ("hi", tInt xs.length), ("key", tNone)] ?_ ?_
    · refine ex_if (q := true) (te_cmp (ev_name (by tb_rel)) ev_none cm_is_none_none) (fun _ => ?_) (fun h => nomatch h)
      refine ex_one (ex_assign (ev_call_b (ev_bname rfl (by decide +kernel)) (evl_cons (ev_name (by tb_rel)) evl_nil) (fn_len (by omega))) (.inl rfl) (by tb_start))
    refine ex_st [("a", tPairs xs), ("x", tPair p), ("lo", tInt k), ("hi", tInt k), ("key", tNone)] ?_ ?_
    · refine ex_if (q := true) (te_cmp (ev_name (by tb_rel)) ev_none cm_is_none_none) (fun _ => ?_) (fun h => nomatch h)
      refine ex_one (ex1_post (ex_while (σ := Nat × Nat) (Γi := fun g => [("a", tPairs xs), ("x", tPair p), ("lo", tInt g.1), ("hi", tInt g.2), ("key", tNone)]) (Hi := fun g => g.1 ≤ k ∧ k ≤ g.2 ∧ g.2 ≤ xs.length) (ms := fun g => g.2 - g.1)
        (go := fun g => decide ((g.1 : Int) < g.2)) (nx := fun g => if (g.1 + g.2) / 2 < k then ((g.1 + g.2) / 2 + 1, g.2) else (g.1, (g.1 + g.2) / 2)) (fin := fun g => g.1 = k ∧ g.2 = k) (fun g hg => ?_) (fun g hg hgo => ?_) (fun g hg hgo => ?_) (0, xs.length) ⟨Nat.zero_le _, hk, Nat.le_refl _⟩) ?_)
      · exact te_cmp (ev_name (by tb_rel)) (ev_name (by tb_rel)) cm_lt
      · have hlt : g.1 < g.2 := by have := of_decide_eq_true hgo; omega
        obtain ⟨h1, h2, h3⟩ := hg
        have hm : (g.1 + g.2) / 2 < xs.length := by omega
        have em : ((g.1 : Int) + (g.2 : Int)).fdiv 2 = (((g.1 + g.2) / 2 : Nat) : Int) := by
          rw [Int.fdiv_eq_ediv_of_nonneg _ (by omega)]; omega
        refine ⟨?_, ?_, ?_⟩
        · split
          · exact ⟨by omega, h2, h3⟩
          · exact ⟨h1, by omega, by omega⟩
        · split
          · dsimp only; omega
          · dsimp only; omega
        · refine ex_st [("mid", tInt ((g.1 + g.2) / 2 : Nat)), ("a", tPairs xs), ("x", tPair p), ("lo", tInt g.1), ("hi", tInt g.2), ("key", tNone)] ?_ ?_
          · refine ex_assign ?_ (.inl rfl) (by tb_start)
            rw [← em]
            exact ev_div (ev_add (ev_name (by tb_rel)) (ev_name (by tb_rel))) ev_int (by omega) (PyProof.noPylong_small (by omega))
          · refine ex_one (ex_if (q := decide ((g.1 + g.2) / 2 < k)) ?_ (fun hq => ?_) (fun hq => ?_))
            · have hx : xs[((((g.1 + g.2) / 2 : Nat) : Int)).toNat]? = some xs[(g.1 + g.2) / 2] := by rw [Int.toNat_natCast]; exact List.getElem?_eq_getElem hm
              rw [← hp _ _ (List.getElem?_eq_getElem hm)]
              exact te_cmp (ev_item (ev_name (by tb_rel)) (ev_name (by tb_rel)) (Int.natCast_nonneg _) (by omega) hx) (ev_name (by tb_rel)) cm_lt_pair
            · rw [if_pos (of_decide_eq_true hq)]
              dsimp only
              rw [show (((g.1 + g.2) / 2 + 1 : Nat) : Int) = (((g.1 + g.2) / 2 : Nat) : Int) + 1 from rfl]
              exact ex_one (ex_assign (ev_add (ev_name (by tb_rel)) ev_int) (.inl rfl) (by tb_start))
            · rw [if_neg (of_decide_eq_false hq)]
              exact ex_one (ex_assign (ev_name (by tb_rel)) (.inl rfl) (by tb_start))
      · have := of_decide_eq_false hgo
        omega
      · rintro f B s ⟨rfl, g, ⟨h1, h2⟩, S⟩
        subst h1
        refine ⟨rfl, ?_⟩
        rw [h2] at S
        exact S
    · exact ex_end (ex_return (ev_name (by tb_rel))) (fun B s ⟨v, e, _⟩ => nomatch e)

theorem fn_bisect_right {xs : List Int} {p : Int} {k : Nat} (gl : Gl w H) (rm : Rm A (n + 1)) (hz : xs.length < 100) (hk : k ≤ xs.length) (hp : ∀ i q, xs[i]? = some q → decide (p < q) = decide (k ≤ i)) :
    Fn w H A (.ref 23) [tInts xs, tInt p] (tInt k) := by
  refine fn_def (n := n) (ps := [("a", tInts xs), ("x", tInt p), ("lo", tInt 0), ("hi", tNone), ("key", tNone)]) (ho := rfl) (hdat := rfl) (hbody := rfl) (hclo := rfl) (hg := rfl) (hb := rfl) (hcode := rfl) gl rm ?_ ?_ ?_ (fun L => ?_) rfl rfl rfl
  · intro B s vs W hv
    match vs, hv with
    | [v1, v2], ⟨h1, h2, _⟩ =>
      refine ⟨[("a", v1), ("x", v2), ("lo", _), ("hi", _), ("key", _)], kp_binds (gl.kin.keeps fun b o e => W.sub b o (W.base b o e)) fun S => rfl, ⟨rfl, h1⟩, ⟨rfl, h2⟩, ⟨rfl, _, rfl⟩, ⟨rfl, rfl⟩, ⟨rfl, rfl⟩, trivial⟩
  · exact apart_of rfl
  · exact kinds_of rfl
  · refine ex_st [("a", tInts xs), ("x", tInt p), ("lo", tInt 0), ("hi", tNone), ("key", tNone)] ?_ ?_
    · exact ex_if (q := false) (te_cmp (ev_name (by tb_rel)) ev_int cm_lt) (fun h => nomatch h) (fun _ => ex_nil)
    refine ex_st [("a", tInts xs), ("x", tInt p), ("lo", tInt 0), ("hi", tInt xs.length), ("key", tNone)] ?_ ?_
    · refine ex_if (q := true) (te_cmp (ev_name (by tb_rel)) ev_none cm_is_none_none) (fun _ => ?_) (fun h => nomatch h)
      refine ex_one (ex_assign (ev_call_b (ev_bname rfl (by decide +kernel)) (evl_cons (ev_name (by tb_rel)) evl_nil) (fn_len (by omega))) (.inl rfl) (by tb_start))
    refine ex_st [("a", tInts xs), ("x", tInt p), ("lo", tInt k), ("hi", tInt k), ("key", tNone)] ?_ ?_
    · refine ex_if (q := true) (te_cmp (ev_name (by tb_rel)) ev_none cm_is_none_none) (fun _ => ?_) (fun h => nomatch h)
      refine ex_one (ex1_post (ex_while (σ := Nat × Nat) (Γi := fun g => [("a", tInts xs), ("x", tInt p), ("lo", tInt g.1), ("hi", tInt g.2), ("key", tNone)]) (Hi := fun g => g.1 ≤ k ∧ k ≤ g.2 ∧ g.2 ≤ xs.length) (ms := fun g => g.2 - g.1)
        (go := fun g => decide ((g.1 : Int) < g.2)) (nx := fun g => if k ≤ (g.1 + g.2) / 2 then (g.1, (g.1 + g.2) / 2) else ((g.1 + g.2) / 2 + 1, g.2)) (fin := fun g => g.1 = k ∧ g.2 = k) (fun g hg => ?_) (fun g hg hgo => ?_) (fun g hg hgo => ?_) (0, xs.length) ⟨Nat.zero_le _, hk, Nat.le_refl _⟩) ?_)
      · exact te_cmp (ev_name (by tb_rel)) (ev_name (by tb_rel)) cm_lt
      · have hlt : g.1 < g.2 := by have := of_decide_eq_true hgo; omega
        obtain ⟨h1, h2, h3⟩ := hg
        have hm : (g.1 + g.2) / 2 < xs.length := by omega
        have em : ((g.1 : Int) + (g.2 : Int)).fdiv 2 = (((g.1 + g.2) / 2 : Nat) : Int) := by
          rw [Int.fdiv_eq_ediv_of_nonneg _ (by omega)]; omega
        refine ⟨?_, ?_, ?_⟩
        · split
          · exact ⟨h1, by omega, by omega⟩
          · exact ⟨by omega, h2, h3⟩
        · split
          · dsimp only; omega
          · dsimp only; omega
        · refine ex_st [("mid", tInt ((g.1 + g.2) / 2 : Nat)), ("a", tInts xs), ("x", tInt p), ("lo", tInt g.1), ("hi", tInt g.2), ("key", tNone)] ?_ ?_
          · refine ex_assign ?_ (.inl rfl) (by tb_start)
            rw [← em]
            exact ev_div (ev_add (ev_name (by tb_rel)) (ev_name (by tb_rel))) ev_int (by omega) (PyProof.noPylong_small (by omega))
          · refine ex_one (ex_if (q := decide (k ≤ (g.1 + g.2) / 2)) ?_ (fun hq => ?_) (fun hq => ?_))
            · have hx : xs[((((g.1 + g.2) / 2 : Nat) : Int)).toNat]? = some xs[(g.1 + g.2) / 2] := by rw [Int.toNat_natCast]; exact List.getElem?_eq_getElem hm
              rw [← hp _ _ (List.getElem?_eq_getElem hm)]
              exact te_cmp (ev_name (by tb_rel)) (ev_item (ev_name (by tb_rel)) (ev_name (by tb_rel)) (Int.natCast_nonneg _) (by omega) hx) cm_lt
            · rw [if_pos (of_decide_eq_true hq)]
              exact ex_one (ex_assign (ev_name (by tb_rel)) (.inl rfl) (by tb_start))
            · rw [if_neg (of_decide_eq_false hq)]
              dsimp only
              rw [show (((g.1 + g.2) / 2 + 1 : Nat) : Int) = (((g.1 + g.2) / 2 : Nat) : Int) + 1 from rfl]
              exact ex_one (ex_assign (ev_add (ev_name (by tb_rel)) ev_int) (.inl rfl) (by tb_start))
      · have := of_decide_eq_false hgo
        omega
      · rintro f B s ⟨rfl, g, ⟨h1, h2⟩, S⟩
        subst h1
        refine ⟨rfl, ?_⟩
        rw [h2] at S
        exact S
    · exact ex_end (ex_return (ev_name (by tb_rel))) (fun B s ⟨v, e, _⟩ => nomatch e)
end
end Mine
end

section
open PySem PySem.W PyProof.Rows
set_option Elab.async false
set_option maxRecDepth 100000
set_option linter.unusedVariables false
set_option linter.unusedSimpArgs false
set_option autoImplicit false
namespace Mine

def tAnd (T U : Ty) : Ty := ⟨fun B v => T.R B v ∧ U.R B v, fun hle ⟨a, b⟩ => ⟨T.mono hle a, U.mono hle b⟩⟩
/-- a world without one address -/
def Wd.sub (B : Wd) (l : Addr) : Wd := fun b => if b = l then none else B b
theorem Wd.sub_le {B : Wd} {l : Addr} : Wle (B.sub l) B := fun b o e => by
  unfold Wd.sub at e
  by_cases q : b = l
  · rw [if_pos q] at e; cases e
  · rw [if_neg q] at e; exact e
theorem Wd.sub_self {B : Wd} {l : Addr} : B.sub l l = none := by simp [Wd.sub]
theorem Wd.sub_of {B : Wd} {l b : Addr} {o : Obj} (h : B b = some o) (hn : b ≠ l) : B.sub l b = some o := by simp [Wd.sub, hn, h]
theorem Wd.le_sub {B B' : Wd} {l : Addr} (h : Wle B B') (hl : B l = none) : Wle B (B'.sub l) := fun b o e => Wd.sub_of (h b o e) fun q => by subst q; rw [hl] at e; cases e

section
variable {c : Cx} {M : Addr → Prop} {Λ : La} {Γ : Ga} {B B' : Wd} {s s' : Shared}

theorem ev_weak {e : Expr} {T U : Ty} (h : Ev c Γ e T) (hw : ∀ B v, T.R B v → U.R B v) : Ev c Γ e U := fun B s E S => wpAny_mono (h B s E S) (fun v s' ⟨B', g, t⟩ => ⟨B', g, hw B' v t⟩) fun _ _ e => e
theorem ev_val {e : Expr} {T : Ty} {v : Value} (h : Ev c Γ e (tVal v)) (hv : ∀ B s, Sat c Γ B s → T.R B v) : Ev c Γ e T := fun B s E S => wpAny_mono (h B s E S) (fun v' s' ⟨B', g, t⟩ => ⟨B', g, by cases t; exact T.mono g.le (hv B s S)⟩) fun _ _ e => e

/-- one list of ours is changed by another's hand -/
theorem St.hop {l : Addr} {φ φ' : LTy} {vs : Array Value} {n : Nat} (S : St c M [(l, φ)] Γ B s) (m : Mv (fun b => b = l) B s B' s') (hl : B' l = none) (sub : ∀ b o, B' b = some o → s'.heap.get? b = some o) (e : s'.heap.get? l = some (lstObj vs n)) (r : φ'.R B' vs.toList) :
    St c M [(l, φ')] Γ B' s' ∧ Mv M B s B' s' := by
  obtain ⟨hM, us, n', e', _⟩ := S.own _ List.mem_cons_self
  have e' : s.heap.get? l = some (lstObj us n') := e'
  have hM : M l := hM
  have k : ∀ b o, b ≠ l → s.heap.get? b = some o → s'.heap.get? b = some o := fun b o n q => m.get b o n q
  refine ⟨⟨⟨S.sat.fc, fun b o q => m.le b o (S.sat.base b o q), sub, fun x a q => ?_, fun p hp => ?_⟩, fun b o q z => ?_, fun b z => ?_, S.loc, ?_, S.inj, fun q hq => ?_⟩, m.le, fun b o q => ?_, m.alive, ?_⟩
  · obtain ⟨ov, i⟩ := S.sat.cal x a q
    obtain ⟨o, q', d⟩ := i
    exact ⟨ov, o, k a o (Ne.symm (list_ne_cell e' ⟨o, q', d⟩)) q', d⟩
  · obtain ⟨v, r', t⟩ := S.sat.vars p hp
    refine ⟨v, ?_, p.2.mono m.le t⟩
    rcases r' with ⟨a, m', n, e⟩ | ⟨a, cc, e, i⟩
    · exact .inl ⟨a, m', n.at' fun o q => k _ o (Ne.symm (list_ne_dict e' n)) q, e⟩
    · obtain ⟨o, q', d⟩ := i
      exact .inr ⟨a, cc, e, o, k _ o (Ne.symm (list_ne_cell e' ⟨o, q', d⟩)) q', d⟩
  · rcases m.new b o q with h | h | h
    · exact S.dis b o h z
    · obtain ⟨o', z'⟩ := S.mal b z; rw [z'] at h; cases h
    · have h : b = l := h
      rw [h, hl] at q; cases q
  · obtain ⟨o, q⟩ := S.mal b z; exact m.alive b o q
  · obtain ⟨m', n⟩ := S.ns; exact ⟨m', n.at' fun o q => k _ o (Ne.symm (list_ne_dict e' n)) q⟩
  · rw [List.mem_singleton.mp hq]; exact ⟨hM, vs, n, e, r⟩
  · rcases m.new b o q with h | h | h
    · exact .inl h
    · exact .inr (.inl h)
    · have h : b = l := h
      rw [h, hl] at q; cases q
  · obtain ⟨h', tk, e, k'⟩ := m.but
    exact ⟨h', tk, e, fun b o n q => k' b o (fun z => n (by have z : b = l := z; rw [z]; exact hM)) q⟩

/-- a method of a list of ours -/
theorem wp_list_meth {x name : Str} {px apos pos : Pos} {e : Expr} {es : List Expr} {id : String} {l : Addr} {φ : LTy} {Ts : List Ty} {Q : Value → Shared → Prop} {E : Value → Shared → Prop}
    (S : St c M [(l, φ)] Γ B s) (hx : (x, tVal (.ref l)) ∈ Γ) (slot : Slot "list" name id) (hty : typeOf (.builtin id) = pure (.type "method_descriptor")) (ha : EvL c Γ (e :: es) Ts)
    (h : ∀ B' s' vs, Grow B s B' s' → Al2 (fun (T : Ty) v => T.R B' v) Ts vs → wpAny (Mo c.w) c.A (call (.builtin id) (.ref l :: vs)) Q E s')
    (pl : Sem Bool) (hd : (x == ("__debug__" : Str)) = false := by decide) (hn : (x == ("__classdict__" : Str)) = false := by decide)
    (he : eval (.Call (.Attribute (.Name x px) name apos) (e :: es) [] pos) c.env = (do
      let ov ← eval (.Name x px) c.env
      standAt apos.atName
      let (f, first) ← holding [ov] (getMethod ov name pl)
      callWith pos f first (backTo pos (starEach (e :: es) c.env)) []) := by rfl)
    (h1 : starEach (e :: es) c.env = (false, eval e c.env) :: starEach es c.env := by rfl) (h2 : (backTo pos (starEach es c.env)).any (·.1) = false := by rfl) :
    wpAny (Mo c.w) c.A (eval (.Call (.Attribute (.Name x px) name apos) (e :: es) [] pos) c.env) Q E s := by
  obtain ⟨v, r, t⟩ := S.sat.vars _ hx
  cases t
  obtain ⟨_, us, n, e', _⟩ := S.own _ List.mem_cons_self
  have e' : s.heap.get? l = some (lstObj us n) := e'
  refine MethodCall_ (wp_name r ?_ S.sat.fc.kind hd hn) he
  refine getMethod_list_of (items := us) slot hty ⟨_, e', rfl, n, rfl⟩ ⟨_, e', rfl⟩ ?_
  refine callWith_method1 (wpAny_mono (ha pos B s E S.sat) (fun vs s₁ ⟨B₁, g₁, t₁⟩ => ?_) fun _ _ e => e) h1 h2
  exact h B₁ s₁ vs g₁ t₁

theorem ex_append {α : Type} {T : α → Ty} {xs : List α} {a : α} {x : Str} {px apos pos pos' : Pos} {e : Expr} {l : Addr} (hx : (x, tVal (.ref l)) ∈ Γ) (ha : Ev c Γ e (T a)) (hz : xs.length ≤ 1000) (pl : Sem Bool)
    (h1 : starEach [e] c.env = (false, eval e c.env) :: starEach [] c.env := by rfl) (hd : (x == ("__debug__" : Str)) = false := by decide) (hn : (x == ("__classdict__" : Str)) = false := by decide)
    (he : eval (.Call (.Attribute (.Name x px) "append" apos) [e] [] pos) c.env = (do
      let ov ← eval (.Name x px) c.env
      standAt apos.atName
      let (f, first) ← holding [ov] (getMethod ov "append" pl)
      callWith pos f first (backTo pos (starEach [e] c.env)) []) := by rfl)
    (hi : interactive c.env = false := by rfl) (hs : swapsWith (.Call (.Attribute (.Name x px) "append" apos) [e] [] pos) none pos'.line c.env = pure false := by rfl) :
    Ex1 c M (St c M [(l, lList T xs)] Γ) (.Expr (.Call (.Attribute (.Name x px) "append" apos) [e] [] pos) pos') (nxt (St c M [(l, lList T (xs ++ [a]))] Γ)) := fun B s E S => by
  refine wpAny_Expr_any (wp_list_meth S hx slot_list_append type_list_append (evl_cons ha evl_nil h1) (fun B₁ s₁ vs g₁ t₁ => ?_) pl hd hn he h1 rfl) hi hs
  match vs, t₁ with
  | [v], ⟨t₁, _⟩ =>
    refine wp_append (S.grow g₁) t₁ hz fun s₂ S₂ m₂ => ?_
    exact ⟨B₁, (Grow.mv g₁).trans m₂, rfl, S₂⟩

/-- a new list is kept for ourselves -/
theorem ex_own {α : Type} {T : α → Ty} {xs₀ : List α} (h0 : xs₀ = []) {x : Str} {px pos p : Pos} {rest : List Stmt} {Q : Flow → Pr} {Γl : Addr → Ga} (hx : c.env.kindOf x = some .local)
    (hΓ : ∀ l, ∀ p ∈ Γl l, p = (x, tVal (.ref l)) ∨ (p ∈ Γ ∧ p.1 ≠ x))
    (h : ∀ l, Ex c (fun b => M b ∨ b = l) (St c (fun b => M b ∨ b = l) [(l, lList T xs₀)] (Γl l)) rest Q)
    (hs : swapsWith (.List [] p) (some (.Name x px)) pos.line c.env = pure false := by rfl) :
    Ex c M (St c M [] Γ) (.Assign [.Name x px] (.List [] p) pos :: rest) Q := fun B s E S => by
  subst h0
  refine wpAny_execs_cons (wpAny_Assign_Name (wpAny_List (wpAny_items_nil ⟨Nat.zero_le _, ?_⟩)) hs)
  have kp : ∀ b o, s.heap.get? b = some o → (s.heap.push (lstObj #[] 0)).get? b = some o := fun b o e => Heap.get?_push_of_some _ e
  have G : Grow B s B { s with heap := s.heap.push (lstObj #[] 0) } := ⟨Wle.refl B, fun b o e => kp b o (S.sat.sub b o e), fun _ _ e => .inl e, _, s.toks, rfl, kp⟩
  have S₁ := S.grow G
  have hnl : s.heap.get? s.heap.objs.size = none := get?_size_none _
  have hBl : B s.heap.objs.size = none := by
    cases z : B s.heap.objs.size with
    | none => rfl
    | some o => have := S.sat.sub _ _ z; rw [hnl] at this; cases this
  have hMl : ¬ M s.heap.objs.size := fun m => by obtain ⟨o, e⟩ := S.mal _ m; rw [hnl] at e; cases e
  refine wp_store (T := tVal (.ref s.heap.objs.size)) S₁ (.inl hx) rfl (hΓ s.heap.objs.size) fun s₂ S₂ m₂ => ?_
  have hat : s₂.heap.get? s.heap.objs.size = some (lstObj #[] 0) := m₂.get _ _ hMl (Heap.get?_push_size _ rfl)
  have S₃ : St c (fun b => M b ∨ b = s.heap.objs.size) [(s.heap.objs.size, lList T ([] : List α))] (Γl s.heap.objs.size) B s₂ := by
    refine ⟨S₂.sat, fun b o e z => ?_, fun b z => ?_, .inl S₂.loc, S₂.ns, fun y z a ha h1 h2 => ?_, fun q hq => ?_⟩
    · rcases z with z | z
      · exact S.dis b o e z
      · subst z; rw [hBl] at e; cases e
    · rcases z with z | z
      · exact S₂.mal b z
      · subst z; exact ⟨_, hat⟩
    · rcases ha with ha | ha
      · exact S₂.inj y z a ha h1 h2
      · subst ha
        obtain ⟨ov, i⟩ := S₂.sat.cal y _ h1
        exact absurd rfl (list_ne_cell hat i)
    · rw [List.mem_singleton.mp hq]; exact ⟨.inr rfl, #[], 0, hat, trivial⟩
  refine wpAny_mono (h s.heap.objs.size B s₂ E S₃) (fun f s₃ ⟨B₃, m₃, q⟩ => ?_) fun _ _ e => e
  have m₀ : Mv M B s B s₂ := (Grow.mv G).trans m₂
  refine ⟨B₃, ⟨m₃.le, fun b o e => ?_, fun b o e => ?_, ?_⟩, q⟩
  · rcases m₃.new b o e with h | h | h | h
    · exact .inl h
    · refine .inr (.inl ?_)
      cases z : s.heap.get? b with
      | none => rfl
      | some o' => obtain ⟨o'', z'⟩ := m₀.alive b o' z; rw [z'] at h; cases h
    · exact .inr (.inr h)
    · rw [h]; exact .inr (.inl hnl)
  · obtain ⟨o', e'⟩ := m₀.alive b o e; exact m₃.alive b o' e'
  · have hg := m₀.get
    obtain ⟨h₁, t₁, e₁, k₁⟩ := m₀.but
    obtain ⟨h₃, t₃, e₃, k₃⟩ := m₃.but
    refine ⟨h₃, t₃, by rw [e₃, e₁], fun b o n e => k₃ b o (fun z => ?_) (hg b o n e)⟩
    rcases z with z | z
    · exact n z
    · rw [z, hnl] at e; cases e

/-- and is given to all -/
theorem ex_give {α : Type} {T : α → Ty} {xs : List α} {x : Str} {l : Addr} {rest : List Stmt} {Q : Flow → Pr} {Γ' : Ga} (hx : (x, tVal (.ref l)) ∈ Γ)
    (hΓ : ∀ p ∈ Γ', p = (x, tList T xs) ∨ p ∈ Γ)
    (h : Ex c (fun b => M b ∧ b ≠ l) (St c (fun b => M b ∧ b ≠ l) [] Γ') rest Q) : Ex c M (St c M [(l, lList T xs)] Γ) rest Q := fun B s E S => by
  obtain ⟨hM, us, n, e', r⟩ := S.own _ List.mem_cons_self
  have e' : s.heap.get? l = some (lstObj us n) := e'
  have hM : M l := hM
  have hBl : B l = none := by
    cases z : B l with
    | none => rfl
    | some o => exact (S.dis l o z hM).elim
  have hle := Wd.le_add (o := lstObj us n) hBl
  have S' : St c (fun b => M b ∧ b ≠ l) [] Γ' (B.add l (lstObj us n)) s := by
    refine ⟨⟨S.sat.fc, fun b o e => hle b o (S.sat.base b o e), fun b o e => ?_, S.sat.cal, fun p hp => ?_⟩, fun b o e z => ?_, fun b z => S.mal b z.1, ⟨S.loc, ?_⟩, S.ns, fun y z a ha h1 h2 => S.inj y z a ha.1 h1 h2, fun q hq => by cases hq⟩
    · rcases Wd.add_cases e with ⟨rfl, rfl⟩ | ⟨_, e⟩
      · exact e'
      · exact S.sat.sub b o e
    · rcases hΓ p hp with rfl | hp
      · obtain ⟨v, r', t⟩ := S.sat.vars _ hx
        exact ⟨v, r', l, us, n, t, Wd.add_self _ _ _, Al2.mono (fun x u y => (T x).mono hle y) r⟩
      · obtain ⟨v, r', t⟩ := S.sat.vars p hp
        exact ⟨v, r', p.2.mono hle t⟩
    · rcases Wd.add_cases e with ⟨rfl, rfl⟩ | ⟨_, e⟩
      · exact z.2 rfl
      · exact S.dis b o e z.1
    · obtain ⟨m, n⟩ := S.ns
      exact Ne.symm (list_ne_dict e' n)
  refine wpAny_mono (h _ s E S') (fun f s₃ ⟨B₃, m₃, q⟩ => ?_) fun _ _ e => e
  refine ⟨B₃, ⟨hle.trans m₃.le, fun b o e => ?_, m₃.alive, ?_⟩, q⟩
  · rcases m₃.new b o e with h | h | h
    · rcases Wd.add_cases h with ⟨rfl, rfl⟩ | ⟨_, h⟩
      · exact .inr (.inr hM)
      · exact .inl h
    · exact .inr (.inl h)
    · exact .inr (.inr h.1)
  · obtain ⟨h₃, t₃, e₃, k₃⟩ := m₃.but
    exact ⟨h₃, t₃, e₃, fun b o n e => k₃ b o (fun z => n z.1) e⟩

/-- a test that reads a list of ours -/
theorem ex_if_own {α : Type} {T : α → Ty} {xs : List α} {x : Str} {l : Addr} {t : Expr} {b₁ b₂ : List Stmt} {p : Pos} {q : Bool} {Q : Flow → Pr} {Γ' : Ga} (hx : (x, tVal (.ref l)) ∈ Γ) (hΓ : ∀ p ∈ Γ', p = (x, tList T xs) ∨ p ∈ Γ)
    (ht : Te c Γ' t q) (h1 : q = true → Ex c M (St c M [(l, lList T xs)] Γ) b₁ Q) (h2 : q = false → Ex c M (St c M [(l, lList T xs)] Γ) b₂ Q) : Ex1 c M (St c M [(l, lList T xs)] Γ) (.If t b₁ b₂ p) Q := fun B s E S => by
  obtain ⟨hM, us, n, e', r⟩ := S.own _ List.mem_cons_self
  have e' : s.heap.get? l = some (lstObj us n) := e'
  have hM : M l := hM
  have hBl : B l = none := by
    cases z : B l with
    | none => rfl
    | some o => exact (S.dis l o z hM).elim
  have hle := Wd.le_add (o := lstObj us n) hBl
  have S' : Sat c Γ' (B.add l (lstObj us n)) s := by
    refine ⟨S.sat.fc, fun b o e => hle b o (S.sat.base b o e), fun b o e => ?_, S.sat.cal, fun p hp => ?_⟩
    · rcases Wd.add_cases e with ⟨rfl, rfl⟩ | ⟨_, e⟩
      · exact e'
      · exact S.sat.sub b o e
    · rcases hΓ p hp with rfl | hp
      · obtain ⟨v, r', t⟩ := S.sat.vars _ hx
        exact ⟨v, r', l, us, n, t, Wd.add_self _ _ _, Al2.mono (fun x u y => (T x).mono hle y) r⟩
      · obtain ⟨v, r', t⟩ := S.sat.vars p hp
        exact ⟨v, r', p.2.mono hle t⟩
  refine wpAny_If (wpAny_mono (ht _ s E S') (fun r' s₁ ⟨e₁, B₁, g₁⟩ => ?_) fun _ _ e => e)
  subst e₁
  have g : Grow B s (B₁.sub l) s₁ := by
    refine ⟨Wd.le_sub (hle.trans g₁.le) hBl, fun b o e => g₁.sub b o (Wd.sub_le b o e), fun b o e => ?_, g₁.keeps⟩
    have hne : b ≠ l := fun z => by subst z; rw [Wd.sub_self] at e; cases e
    rcases g₁.new b o (Wd.sub_le b o e) with h | h
    · rcases Wd.add_cases h with ⟨rfl, rfl⟩ | ⟨_, h⟩
      · exact (hne rfl).elim
      · exact .inl h
    · exact .inr h
  cases r' with
  | true => simp only [if_true]; exact wpAny_mono (h1 rfl _ s₁ E (S.grow g)) (fun f s₂ ⟨B₂, m₂, q₂⟩ => ⟨B₂, (Grow.mv g).trans m₂, q₂⟩) fun _ _ e => e
  | false => simp only [Bool.false_eq_true, if_false]; exact wpAny_mono (h2 rfl _ s₁ E (S.grow g)) (fun f s₂ ⟨B₂, m₂, q₂⟩ => ⟨B₂, (Grow.mv g).trans m₂, q₂⟩) fun _ _ e => e
theorem wp_st (Γ' : Ga) {st : Stmt} {rest : List Stmt} {Q : Flow → Shared → Prop} {E : Value → Shared → Prop} (h : Ex1 c M (St c M Λ Γ) st (nxt (St c M Λ Γ'))) (S : St c M Λ Γ B s)
    (k : ∀ B' s', Mv M B s B' s' → St c M Λ Γ' B' s' → wpAny (Mo c.w) c.A (execs rest c.env) Q E s') : wpAny (Mo c.w) c.A (execs (st :: rest) c.env) Q E s := by
  refine wpAny_execs_cons (wpAny_mono (h B s E S) (fun f s₁ ⟨B₁, m₁, e, p₁⟩ => ?_) fun _ _ e => e)
  subst e
  exact k B₁ s₁ m₁ p₁
theorem ev_name_rd {x : Str} {p : Pos} {T : Ty} {Q : Value → Shared → Prop} {E : Value → Shared → Prop} (S : Sat c Γ B s) (hm : (x, T) ∈ Γ) (h : ∀ v, T.R B v → Q v s) (hd : (x == ("__debug__" : Str)) = false := by decide) (hn : (x == ("__classdict__" : Str)) = false := by decide) :
    wpAny (Mo c.w) c.A (eval (.Name x p) c.env) Q E s := by
  obtain ⟨v, r, t⟩ := S.vars _ hm
  exact wp_name r (h v t) S.fc.kind hd hn
theorem EvL.app {es : List Expr} {Ts : List Ty} (h : EvL c Γ es Ts) (pos : Pos) {E : Value → Shared → Prop} (S : Sat c Γ B s) {Q : List Value → Shared → Prop} (hq : ∀ vs s' B', Grow B s B' s' → Al2 (fun (T : Ty) v => T.R B' v) Ts vs → Q vs s') :
    wpAny (Mo c.w) c.A (spliced (backTo pos (starEach es c.env))) Q E s := wpAny_mono (h pos B s E S) (fun vs s' ⟨B', g, t⟩ => hq vs s' B' g t) fun _ _ e => e
end
theorem wp_insert_raw {prog : Program} {w : World} {A : Around} {E : Value → Shared → Prop} {s : Shared} {l : Addr} {us : Array Value} {m : Nat} {k : Int} {t : Tok} {v : Value} {Q : Value → Shared → Prop} (hat : s.heap.get? l = some (lstObj us m)) (hf : Builtin.List.listFitsIndex k = true) (hz : us.size ≤ sizeLine)
    (h : Q .none { s with heap := s.heap.update l (Obj.mapSeq fun xs => have j := if k < 0 then (k + (xs.size : Int)).toNat else min k.toNat xs.size; (xs.extract 0 j).push v ++ xs.extract j) }) :
    wpAny (model prog w) A (call (.builtin "list.insert") [.ref l, .int k t, v]) Q E s :=
  call_meets PySem.F.slot_list_insert ⟨_, hat, rfl⟩ PySem.F.entry_list_insert (PySem.F.args_list_insert_3 _ _ _) (PySem.AutoSeq1.list_insert_list_int_val_1 l us m k t v (by simp [hf]) hz) ⟨hat, h⟩
end Mine
end

section
open PySem PySem.W PyProof.Rows
set_option Elab.async false
set_option maxRecDepth 100000
set_option linter.unusedVariables false
set_option linter.unusedSimpArgs false
set_option autoImplicit false
namespace Mine

local macro_rules | `(tactic| tb_rel) => `(tactic| (with_reducible (first | exact List.mem_cons_self | exact List.mem_cons_of_mem _ (List.mem_cons_self) | exact List.mem_cons_of_mem _ (List.mem_cons_of_mem _ (List.mem_cons_self)) | exact List.mem_cons_of_mem _ (List.mem_cons_of_mem _ (List.mem_cons_of_mem _ (List.mem_cons_self))) | exact List.mem_cons_of_mem _ (List.mem_cons_of_mem _ (List.mem_cons_of_mem _ (List.mem_cons_of_mem _ (List.mem_cons_self)))) | exact List.mem_cons_of_mem _ (List.mem_cons_of_mem _ (List.mem_cons_of_mem _ (List.mem_cons_of_mem _ (List.mem_cons_of_mem _ (List.mem_cons_self))))) | exact List.mem_cons_of_mem _ (List.mem_cons_of_mem _ (List.mem_cons_of_mem _ (List.mem_cons_of_mem _ (List.mem_cons_of_mem _ (List.mem_cons_of_mem _ (List.mem_cons_self)))))) | exact List.mem_cons_of_mem _ (List.mem_cons_of_mem _ (List.mem_cons_of_mem _ (List.mem_cons_of_mem _ (List.mem_cons_of_mem _ (List.mem_cons_of_mem _ (List.mem_cons_of_mem _ (List.mem_cons_self))))))) | exact List.mem_cons_of_mem _ (List.mem_cons_of_mem _ (List.mem_cons_of_mem _ (List.mem_cons_of_mem _ (List.mem_cons_of_mem _ (List.mem_cons_of_mem _ (List.mem_cons_of_mem _ (List.mem_cons_of_mem _ (List.mem_cons_self)))))))) | exact List.mem_cons_of_mem _ (List.mem_cons_of_mem _ (List.mem_cons_of_mem _ (List.mem_cons_of_mem _ (List.mem_cons_of_mem _ (List.mem_cons_of_mem _ (List.mem_cons_of_mem _ (List.mem_cons_of_mem _ (List.mem_cons_of_mem _ (List.mem_cons_self))))))))) | exact List.mem_cons_of_mem _ (List.mem_cons_of_mem _ (List.mem_cons_of_mem _ (List.mem_cons_of_mem _ (List.mem_cons_of_mem _ (List.mem_cons_of_mem _ (List.mem_cons_of_mem _ (List.mem_cons_of_mem _ (List.mem_cons_of_mem _ (List.mem_cons_of_mem _ (List.mem_cons_self)))))))))) | exact List.mem_cons_of_mem _ (List.mem_cons_of_mem _ (List.mem_cons_of_mem _ (List.mem_cons_of_mem _ (List.mem_cons_of_mem _ (List.mem_cons_of_mem _ (List.mem_cons_of_mem _ (List.mem_cons_of_mem _ (List.mem_cons_of_mem _ (List.mem_cons_of_mem _ (List.mem_cons_of_mem _ (List.mem_cons_self))))))))))) | exact List.mem_cons_of_mem _ (List.mem_cons_of_mem _ (List.mem_cons_of_mem _ (List.mem_cons_of_mem _ (List.mem_cons_of_mem _ (List.mem_cons_of_mem _ (List.mem_cons_of_mem _ (List.mem_cons_of_mem _ (List.mem_cons_of_mem _ (List.mem_cons_of_mem _ (List.mem_cons_of_mem _ (List.mem_cons_of_mem _ (List.mem_cons_self)))))))))))) | exact List.mem_cons_of_mem _ (List.mem_cons_of_mem _ (List.mem_cons_of_mem _ (List.mem_cons_of_mem _ (List.mem_cons_of_mem _ (List.mem_cons_of_mem _ (List.mem_cons_of_mem _ (List.mem_cons_of_mem _ (List.mem_cons_of_mem _ (List.mem_cons_of_mem _ (List.mem_cons_of_mem _ (List.mem_cons_of_mem _ (List.mem_cons_of_mem _ (List.mem_cons_self))))))))))))))))
local macro_rules | `(tactic| tb_start) => `(tactic| (repeat' (first | exact upd_nil | (with_reducible refine upd_new ?_) | (with_reducible refine upd_old (by tb_rel) (by decide +kernel) ?_))))

def insAt {α : Type} (k : Nat) (p : α) (xs : List α) : List α := xs.take k ++ [p] ++ xs.drop k

theorem tPair_sub {B : Wd} {l : Addr} {us : Array Value} {n : Nat} {p : Int × Int} {v : Value} (h : (tPair p).R B v) (hl : B l = some (lstObj us n)) : (tPair p).R (B.sub l) v := by
  obtain ⟨a, t, u, e, ha⟩ := h
  exact ⟨a, t, u, e, Wd.sub_of ha fun z => by subst z; rw [hl] at ha; simp at ha⟩

section
variable {w : World} {H : Heap} {A : Around} {n : Nat}

theorem insort_left {xs : List (Int × Int)} {p : Int × Int} {k : Nat} (gl : Gl w H) (rm : Rm A (n + 2)) (hz : xs.length < 100) (hk : k ≤ xs.length) (hp : ∀ i q, xs[i]? = some q → lexLt q p = decide (i < k))
    {B : Wd} {s : Shared} {E : Value → Shared → Prop} {l : Addr} {v : Value} {us : Array Value} {m : Nat} (W : Ws H B s) (hBl : B l = none) (hl : s.heap.get? l = some (lstObj us m)) (hu : Al2 (fun p v => (tPair p).R B v) xs us.toList) (hv : (tPair p).R B v) :
    wpAny (Mo w) A (call (.ref 32) [.ref l, v]) (fun r s' => ∃ B' us' m', Mv (fun b => b = l) B s B' s' ∧ B' l = none ∧ (∀ b o, B' b = some o → s'.heap.get? b = some o) ∧ s'.heap.get? l = some (lstObj us' m') ∧
      Al2 (fun p v => (tPair p).R B' v) (insAt k p xs) us'.toList) E s := by
  have hle := Wd.le_add (o := lstObj us m) hBl
  have W' : Ws H (B.add l (lstObj us m)) s := ⟨fun b o e => hle b o (W.base b o e), fun b o e => by
    rcases Wd.add_cases e with ⟨rfl, rfl⟩ | ⟨_, e⟩
    · exact hl
    · exact W.sub b o e⟩
  refine wp_enter (args := ⟨[.ref l, v], []⟩) (n := n + 1) (ps := [("a", tAnd (tPairs xs) (tVal (.ref l))), ("x", tPair p), ("lo", tInt 0), ("hi", tNone), ("key", tNone)]) (ho := rfl) (hdat := rfl) (hbody := rfl) (hclo := rfl) (hg := rfl) (hb := rfl) (hcode := rfl) gl rm W'
    (binds := [("a", .ref l), ("x", v), ("lo", _), ("hi", _), ("key", _)]) (kp_binds (gl.kin.keeps fun b o e => W.sub b o (W.base b o e)) fun S => rfl)
    ⟨⟨rfl, ⟨l, us, m, rfl, Wd.add_self _ _ _, Al2.mono (fun x u y => (tPair x).mono hle y) hu⟩, rfl⟩, ⟨rfl, (tPair p).mono hle hv⟩, ⟨rfl, _, rfl⟩, ⟨rfl, rfl⟩, ⟨rfl, rfl⟩, trivial⟩ (apart_of rfl) (kinds_of rfl) (fun L s₁ hL G S hfr => ?_) rfl rfl rfl
  refine wp_st [("a", tAnd (tPairs xs) (tVal (.ref l))), ("x", tPair p), ("lo", tInt k), ("hi", tNone), ("key", tNone)] ?_ S fun B₂ s₂ m₂ S₂ => ?_
  · refine ex_if (q := true) (te_cmp (ev_name (by tb_rel)) ev_none cm_is_none_none) (fun _ => ?_) (fun h => nomatch h)
    refine ex_one (ex_assign (ev_call_d (ev_gname rfl) (evl_cons (ev_weak (T := tAnd (tPairs xs) (tVal (.ref l))) (ev_name (by tb_rel)) fun B v h => h.1) (evl_cons (ev_name (by tb_rel)) (evl_cons (ev_name (by tb_rel)) (evl_cons (ev_name (by tb_rel)) evl_nil)))) (fn_bisect_left gl (rm.deeper _) hz hk hp) rfl rfl) (.inl rfl) (by tb_start))
  have hB₂l : B₂ l = some (lstObj us m) := m₂.le _ _ (Wd.add_self _ _ _)
  have hlen := hu.length
  simp at hlen
  refine wpAny_execs_cons (wpAny_Expr_any (MethodCall_ (pl := _) (ev_name_rd S₂.sat (x := "a") (by tb_rel) fun v' hv' => ?_) rfl) rfl rfl)
  obtain ⟨_, ev'⟩ := hv'
  cases ev'
  refine getMethod_list_of (items := us) PySem.F.slot_list_insert PySem.F.type_list_insert ⟨_, S₂.sat.sub _ _ hB₂l, rfl, m, rfl⟩ ⟨_, S₂.sat.sub _ _ hB₂l, rfl⟩ ?_
  refine callWith_method1 (EvL.app (Ts := [tInt k, tPair p]) (evl_cons (ev_name (by tb_rel)) (evl_cons (ev_name (by tb_rel)) evl_nil)) _ S₂.sat fun vs s₃ B₃ g₃ t₃ => ?_) rfl rfl
  match vs, t₃ with
  | [v1, v2], ⟨⟨t, e1⟩, h2, _⟩ =>
  subst e1
  have S₃ := S₂.grow g₃
  have hB₃l : B₃ l = some (lstObj us m) := g₃.le _ _ hB₂l
  have hat := S₃.sat.sub _ _ hB₃l
  have hfit : Builtin.List.listFitsIndex (k : Int) = true := by
    unfold Builtin.List.listFitsIndex
    simp only [Bool.and_eq_true, decide_eq_true_eq]
    omega
  refine wp_insert_raw hat hfit (by rw [sizeLine_eq]; omega) ?_
  refine wpAny_execs_nil ?_
  have hup := get?_update_seq (h := s₃.heap) (a := l) hat (fun xs => (xs.extract 0 (if (k : Int) < 0 then ((k : Int) + (xs.size : Int)).toNat else min (k : Int).toNat xs.size)).push v2 ++ xs.extract (if (k : Int) < 0 then ((k : Int) + (xs.size : Int)).toNat else min (k : Int).toNat xs.size))
  have hkk : (if (k : Int) < 0 then ((k : Int) + (us.size : Int)).toNat else min (k : Int).toNat us.size) = k := by
    rw [if_neg (by omega)]
    omega
  rw [hkk] at hup
  have sb := Heap.SameBut.update s₃.heap l (Obj.mapSeq (fun (xs : Array Value) => (xs.extract 0 (if (k : Int) < 0 then ((k : Int) + (xs.size : Int)).toNat else min (k : Int).toNat xs.size)).push v2 ++ xs.extract (if (k : Int) < 0 then ((k : Int) + (xs.size : Int)).toNat else min (k : Int).toNat xs.size)))
  have leB : Wle B (B₃.sub l) := Wd.le_sub ((hle.trans m₂.le).trans g₃.le) hBl
  have mm := m₂.trans (Grow.mv g₃)
  have nM : ∀ b o, s.heap.get? b = some o → ¬ mF _ L b := fun b o e z => by rw [hfr b z] at e; cases e
  refine ⟨B₃.sub l, _, _, ⟨leB, fun b o e => ?_, fun b o e => ?_, ?_⟩, Wd.sub_self, fun b o e => ?_, hup, ?_⟩
  · have hne : b ≠ l := fun z => by subst z; rw [Wd.sub_self] at e; cases e
    rcases mm.new b o (Wd.sub_le b o e) with h | h | h
    · rcases Wd.add_cases h with ⟨rfl, rfl⟩ | ⟨_, h⟩
      · exact (hne rfl).elim
      · exact .inl h
    · refine .inr (.inl ?_)
      cases z : s.heap.get? b with
      | none => rfl
      | some o' => rw [kGet G.keeps b o' z] at h; cases h
    · exact .inr (.inl (hfr b h))
  · by_cases z : b = l
    · subst z; exact ⟨_, hup⟩
    · obtain ⟨o', e'⟩ := mm.alive b o (kGet G.keeps b o e)
      exact ⟨o', (sb.2 b z).trans e'⟩
  · obtain ⟨h₁, t₁, e₁, k₁⟩ := G.keeps
    have hg := mm.get
    obtain ⟨h₂, t₂, e₂, k₂⟩ := mm.but
    refine ⟨_, t₂, by rw [e₂, e₁], fun b o n e => (sb.2 b n).trans (hg b o (nM b o e) (kGet G.keeps b o e))⟩
  · have hne : b ≠ l := fun z => by subst z; rw [Wd.sub_self] at e; cases e
    exact (sb.2 b hne).trans (S₃.sat.sub b o (Wd.sub_le b o e))
  · have hu' := Al2.mono (fun p v y => (tPair p).mono leB y) hu
    have h2' := tPair_sub h2 hB₃l
    have e : ((us.extract 0 k).push v2 ++ us.extract k).toList = us.toList.take k ++ [v2] ++ us.toList.drop k := by
      rw [Array.toList_append, Array.toList_push, Array.toList_extract, Array.toList_extract, List.extract_eq_take_drop, List.extract_eq_take_drop]
      simp [hlen, List.take_of_length_le]
    rw [e]
    exact ((hu'.take k).append (as' := [p]) (bs' := [v2]) ⟨h2', trivial⟩).append (hu'.drop k)
end
end Mine
end

section
open PySem PySem.W PyProof.Rows
set_option Elab.async false
set_option maxRecDepth 100000
set_option linter.unusedVariables false
set_option linter.unusedSimpArgs false
set_option autoImplicit false
namespace Mine

local macro_rules | `(tactic| tb_rel) => `(tactic| (with_reducible (first | exact List.mem_cons_self | exact List.mem_cons_of_mem _ (List.mem_cons_self) | exact List.mem_cons_of_mem _ (List.mem_cons_of_mem _ (List.mem_cons_self)) | exact List.mem_cons_of_mem _ (List.mem_cons_of_mem _ (List.mem_cons_of_mem _ (List.mem_cons_self))) | exact List.mem_cons_of_mem _ (List.mem_cons_of_mem _ (List.mem_cons_of_mem _ (List.mem_cons_of_mem _ (List.mem_cons_self)))) | exact List.mem_cons_of_mem _ (List.mem_cons_of_mem _ (List.mem_cons_of_mem _ (List.mem_cons_of_mem _ (List.mem_cons_of_mem _ (List.mem_cons_self))))) | exact List.mem_cons_of_mem _ (List.mem_cons_of_mem _ (List.mem_cons_of_mem _ (List.mem_cons_of_mem _ (List.mem_cons_of_mem _ (List.mem_cons_of_mem _ (List.mem_cons_self)))))) | exact List.mem_cons_of_mem _ (List.mem_cons_of_mem _ (List.mem_cons_of_mem _ (List.mem_cons_of_mem _ (List.mem_cons_of_mem _ (List.mem_cons_of_mem _ (List.mem_cons_of_mem _ (List.mem_cons_self))))))) | exact List.mem_cons_of_mem _ (List.mem_cons_of_mem _ (List.mem_cons_of_mem _ (List.mem_cons_of_mem _ (List.mem_cons_of_mem _ (List.mem_cons_of_mem _ (List.mem_cons_of_mem _ (List.mem_cons_of_mem _ (List.mem_cons_self)))))))) | exact List.mem_cons_of_mem _ (List.mem_cons_of_mem _ (List.mem_cons_of_mem _ (List.mem_cons_of_mem _ (List.mem_cons_of_mem _ (List.mem_cons_of_mem _ (List.mem_cons_of_mem _ (List.mem_cons_of_mem _ (List.mem_cons_of_mem _ (List.mem_cons_self))))))))) | exact List.mem_cons_of_mem _ (List.mem_cons_of_mem _ (List.mem_cons_of_mem _ (List.mem_cons_of_mem _ (List.mem_cons_of_mem _ (List.mem_cons_of_mem _ (List.mem_cons_of_mem _ (List.mem_cons_of_mem _ (List.mem_cons_of_mem _ (List.mem_cons_of_mem _ (List.mem_cons_self)))))))))) | exact List.mem_cons_of_mem _ (List.mem_cons_of_mem _ (List.mem_cons_of_mem _ (List.mem_cons_of_mem _ (List.mem_cons_of_mem _ (List.mem_cons_of_mem _ (List.mem_cons_of_mem _ (List.mem_cons_of_mem _ (List.mem_cons_of_mem _ (List.mem_cons_of_mem _ (List.mem_cons_of_mem _ (List.mem_cons_self))))))))))) | exact List.mem_cons_of_mem _ (List.mem_cons_of_mem _ (List.mem_cons_of_mem _ (List.mem_cons_of_mem _ (List.mem_cons_of_mem _ (List.mem_cons_of_mem _ (List.mem_cons_of_mem _ (List.mem_cons_of_mem _ (List.mem_cons_of_mem _ (List.mem_cons_of_mem _ (List.mem_cons_of_mem _ (List.mem_cons_of_mem _ (List.mem_cons_self)))))))))))) | exact List.mem_cons_of_mem _ (List.mem_cons_of_mem _ (List.mem_cons_of_mem _ (List.mem_cons_of_mem _ (List.mem_cons_of_mem _ (List.mem_cons_of_mem _ (List.mem_cons_of_mem _ (List.mem_cons_of_mem _ (List.mem_cons_of_mem _ (List.mem_cons_of_mem _ (List.mem_cons_of_mem _ (List.mem_cons_of_mem _ (List.mem_cons_of_mem _ (List.mem_cons_self))))))))))))))))
local macro_rules | `(tactic| tb_start) => `(tactic| (repeat' (first | exact upd_nil | (with_reducible refine upd_new ?_) | (with_reducible refine upd_old (by tb_rel) (by decide +kernel) ?_))))
abbrev dirs : List (Int × Int) := [(0, 1), (1, 1)]
def tComp : Ty := ⟨fun B v => ∃ x dx hs t n lst, v = .ref x ∧ B x = some (instObj 65 dx) ∧ B dx = some (dictOf [⟨hs, .str "comp_select_list" t, lst⟩] n) ∧ (tPairs dirs).R B lst,
  fun hle ⟨x, dx, hs, t, n, lst, e, h1, h2, h3⟩ => ⟨x, dx, hs, t, n, lst, e, hle _ _ h1, hle _ _ h2, (tPairs dirs).mono hle h3⟩⟩

theorem k_ga (p : Params) : findIn (hd.heap_39 p) (.ref 65) "__getattribute__" = some (some (.builtin "object.__getattribute__")) := by kernel_rfl
theorem k_noga (p : Params) : findIn (hd.heap_39 p) (.ref 65) "__getattr__" = some none := by kernel_rfl
theorem k_cmp (p : Params) : findIn (hd.heap_39 p) (.ref 65) "compare" = some (some (.ref 62)) := by kernel_rfl
theorem k_cmpT (p : Params) : typeIn (hd.heap_39 p) (.ref 62) = some (.type "function") := by kernel_rfl
theorem k_sel (p : Params) : findIn (hd.heap_39 p) (.ref 65) "comp_select_list" = some none := by kernel_rfl
theorem k_dict (p : Params) : hasDictIn (hd.heap_39 p) 65 = true := by kernel_rfl
theorem k_makes (p : Params) : makesIn (hd.heap_39 p) 65 = true := by kernel_rfl
theorem k_init (p : Params) : findIn (hd.heap_39 p) (.ref 65) "__init__" = some (some (.ref 55)) := by kernel_rfl
theorem k_initT (p : Params) : typeIn (hd.heap_39 p) (.ref 55) = some (.type "function") := by kernel_rfl
theorem k_set (p : Params) : findIn (hd.heap_39 p) (.ref 65) "__setattr__" = some (some (.builtin "object.__setattr__")) := by kernel_rfl
theorem k_over (p : Params) : plainOver (hd.heap_39 p) 65 = true := by kernel_rfl
theorem k_taker (p : Params) : takerIn (hd.heap_39 p) 65 "comp_select_list" = some none := by kernel_rfl
theorem k_keep65 (p : Params) : keepIn (hd.heap_39 p) (.ref 65) = true := by kernel_rfl
theorem k_keep62 (p : Params) : keepIn (hd.heap_39 p) (.ref 62) = true := by kernel_rfl

section
variable {c : Cx} {M : Addr → Prop} {Λ : La} {Γ : Ga} {B B' : Wd} {s s' : Shared}
theorem ev_sel {x : Str} {px pos : Pos} (hx : (x, tComp) ∈ Γ) (hd : (x == ("__debug__" : Str)) = false := by decide) (hn : (x == ("__classdict__" : Str)) = false := by decide) :
    Ev c Γ (.Attribute (.Name x px) "comp_select_list" pos) (tPairs dirs) := fun B s E S => by
  refine Attribute_name (ev_name_rd S hx (fun v ⟨a, dx, hs, t, n, lst, e, h1, h2, h3⟩ => ?_) hd hn)
  subst e
  have kin := S.fc.gl.kin.keeps S.heap
  refine get_value (C := 65) kin ⟨S.sub _ _ h1, rfl, rfl, S.sub _ _ h2⟩ (k_ga _) (findObj_own (k_dict _) (k_sel _) rfl rfl) ?_ ⟨B, Grow.toks S.sub _, h3⟩
  obtain ⟨l, _, _, e, _⟩ := h3
  subst e
  rfl
/-- a call of what the top made -/
theorem ev_call_k {f e : Expr} {es : List Expr} {pos : Pos} {a : Addr} {Ts : List Ty} {U : Ty} (hf : Ev c Γ f (tVal (.ref a))) (ha : EvL c Γ (e :: es) Ts) (hfn : Fn c.w c.H c.A (.ref a) Ts U) (hk : keepIn (Mine.hd.heap_39 c.w.params) (.ref a) = true)
    (hc : eval (.Call f (e :: es) [] pos) c.env = (do callWith pos (← eval f c.env) [] (backTo pos (starEach (e :: es) c.env)) (backToKw pos (keywordEach [] c.env))) := by rfl)
    (he : starEach (e :: es) c.env = (false, eval e c.env) :: starEach es c.env := by rfl) (hp : (backTo pos (starEach es c.env)).any (·.1) = false := by rfl) :
    Ev c Γ (.Call f (e :: es) [] pos) U := fun B s E S => by
  refine Call_ (wpAny_mono (hf B s E S) (fun v s₁ ⟨B₁, g₁, t₁⟩ => ?_) fun _ _ e => e) hc
  cases t₁
  refine callWith_K (S.fc.gl.kin.keeps (S.grow g₁).heap) hk (EvL.app ha pos (S.grow g₁) fun vs s₂ B₂ g₂ t₂ => ?_) he hp
  have S₂ := (S.grow g₁).grow g₂
  refine ⟨S.fc.gl.kin.keeps S₂.heap, wpAny_mono (hfn B₂ s₂ E vs S₂.ws t₂) (fun r s₃ ⟨B₃, g₃, t₃⟩ => ?_) fun _ _ e => e⟩
  exact ⟨B₃, (g₁.trans g₂).trans g₃, t₃⟩
theorem ev_told {x : Str} {px apos pos : Pos} {e : Expr} {es : List Expr} {Ts : List Ty} {U : Ty} (hx : (x, tComp) ∈ Γ) (ha : EvL c Γ (e :: es) Ts) (hfn : Fn c.w c.H c.A (.ref 62) (tComp :: Ts) U) (pl : Sem Bool)
    (h1 : starEach (e :: es) c.env = (false, eval e c.env) :: starEach es c.env := by rfl) (h2 : (backTo pos (starEach es c.env)).any (·.1) = false := by rfl)
    (hd : (x == ("__debug__" : Str)) = false := by decide) (hn : (x == ("__classdict__" : Str)) = false := by decide)
    (he : eval (.Call (.Attribute (.Name x px) "compare" apos) (e :: es) [] pos) c.env = (do
      let ov ← eval (.Name x px) c.env
      standAt apos.atName
      let (f, first) ← holding [ov] (getMethod ov "compare" pl)
      callWith pos f first (backTo pos (starEach (e :: es) c.env)) []) := by rfl) :
    Ev c Γ (.Call (.Attribute (.Name x px) "compare" apos) (e :: es) [] pos) U := fun B s E S => by
  refine MethodCall_ (ev_name_rd S hx (fun v hv => ?_) hd hn) he
  have hv' := hv
  obtain ⟨a, dx, hs, t, n, lst, e, h1', h2', h3⟩ := hv'
  subst e
  have kin := S.fc.gl.kin.keeps S.heap
  refine method_fn (C := 65) (od := some (dictOf [⟨hs, .str "comp_select_list" t, lst⟩] n)) kin ⟨S.sub _ _ h1', rfl, rfl, S.sub _ _ h2'⟩ (k_ga _) (k_noga _) (k_cmp _) (k_cmpT _) rfl ?_
  refine callWith_K kin (k_keep62 _) (EvL.app ha pos S fun vs s₂ B₂ g₂ t₂ => ?_) h1 h2
  have S₂ := S.grow g₂
  refine ⟨S.fc.gl.kin.keeps S₂.heap, wpAny_mono (hfn B₂ s₂ E (.ref a :: vs) S₂.ws ⟨tComp.mono g₂.le hv, t₂⟩) (fun r s₃ ⟨B₃, g₃, t₃⟩ => ?_) fun _ _ e => e⟩
  exact ⟨B₃, g₂.trans g₃, t₃⟩
end

section
variable {w : World} {H : Heap} {A : Around} {n : Nat}

theorem ex_br {c : Cx} {M : Addr → Prop} {P P' : Pr} {H : Prop} (T : Ty) {Q : Flow → Pr} {st : Stmt} {rest : List Stmt} (h : Ex1 c M P st (fun f B s => (f = .next ∧ H ∧ P' B s) ∨ rets T f B s)) (hr : H → Ex c M P' rest Q) (hQ : ∀ f B s, rets T f B s → Q f B s) :
    Ex c M P (st :: rest) Q := fun B s E S => by
  refine wpAny_execs_cons (wpAny_mono (h B s E S) (fun f s₁ ⟨B₁, m₁, q⟩ => ?_) fun _ _ e => e)
  rcases q with ⟨rfl, hH, S₁⟩ | q
  · exact wpAny_mono (hr hH B₁ s₁ E S₁) (fun f s₂ ⟨B₂, m₂, q₂⟩ => ⟨B₂, m₁.trans m₂, q₂⟩) fun _ _ e => e
  · have q' := hQ _ _ _ q
    obtain ⟨v, rfl, _⟩ := q
    exact ⟨B₁, m₁, q'⟩
/-- a loop out of which nothing returns -/
theorem ex_go {c : Cx} {M : Addr → Prop} {P P' : Pr} {H : Prop} {Q : Flow → Pr} {st : Stmt} {rest : List Stmt} (h : Ex1 c M P st (fun f B s => (f = .next ∧ H ∧ P' B s) ∨ False)) (hr : H → Ex c M P' rest Q) :
    Ex c M P (st :: rest) Q := fun B s E S => by
  refine wpAny_execs_cons (wpAny_mono (h B s E S) (fun f s₁ ⟨B₁, m₁, q⟩ => ?_) fun _ _ e => e)
  rcases q with ⟨rfl, hH, S₁⟩ | q
  · exact wpAny_mono (hr hH B₁ s₁ E S₁) (fun f s₂ ⟨B₂, m₂, q₂⟩ => ⟨B₂, m₁.trans m₂, q₂⟩) fun _ _ e => e
  · exact q.elim
/-- a turn's end -/
theorem ex_turn {c : Cx} {M : Addr → Prop} {Λ : La} {Γ Γ' : Ga} {H : Prop} (h : H) (hΓ : ∀ p ∈ Γ', p ∈ Γ) {Qr : Flow → Pr} : Ex c M (St c M Λ Γ) [] (fun f B s => (f = .next ∧ H ∧ St c M Λ Γ' B s) ∨ Qr f B s) :=
  ex_post ex_nil fun f B s q => .inl ⟨q.1, h, q.2.sub_Γ hΓ⟩
theorem rInts_get {a b x : Int} {i : Nat} (h : (rInts a b)[i]? = some x) : x = a + (i : Int) ∧ i < (b - a).toNat := by
  simp only [rInts, List.getElem?_map, Option.map_eq_some_iff] at h
  obtain ⟨j, hj, rfl⟩ := h
  obtain ⟨h1, rfl⟩ := List.getElem?_eq_some_iff.mp hj
  simp at h1
  simp
  omega
theorem ex_ret {c : Cx} {M : Addr → Prop} {Λ : La} {Γ : Ga} {e : Expr} {p : Pos} {T : Ty} {rest : List Stmt} (h : Ev c Γ e T) : Ex c M (St c M Λ Γ) (.Return (some e) p :: rest) (rets T) :=
  ex_end (ex_return h) (fun B s ⟨v, e, _⟩ => nomatch e)
/-- if so, it returns; if not, on -/
theorem ex_if_ret {c : Cx} {M : Addr → Prop} {Λ : La} {Γ : Ga} {T : Ty} {Q : Flow → Pr} {t : Expr} {p pr : Pos} {e : Expr} {rest : List Stmt} {q : Bool} (ht : Te c Γ t q) (he : q = true → Ev c Γ e T) (hr : q = false → Ex c M (St c M Λ Γ) rest Q) (hQ : q = true → ∀ f B s, rets T f B s → Q f B s) :
    Ex c M (St c M Λ Γ) (.If t [.Return (some e) pr] [] p :: rest) Q := by
  cases q with
  | true => exact ex_br T (H := False) (P' := St c M Λ Γ) (ex_if ht (fun h => ex_post (ex_ret (he h)) fun f B s q => .inr q) (fun h => nomatch h)) (fun h => h.elim) (hQ rfl)
  | false => exact ex_cons (ex_if ht (fun h => nomatch h) fun _ => ex_nil) (hr rfl)
def cmpP (p q : Int × Int) : Int := if p.1 < q.1 then -1 else if q.1 < p.1 then 1 else if p.2 < q.2 then -1 else if q.2 < p.2 then 1 else 0

theorem fn_compare {p q : Int × Int} (gl : Gl w H) (rm : Rm A (n + 1)) : Fn w H A (.ref 62) [tComp, tPair p, tPair q] (tInt (cmpP p q)) := by
  refine fn_def (n := n) (ps := [("self", tComp), ("left", tPair p), ("right", tPair q)]) (ho := rfl) (hdat := rfl) (hbody := rfl) (hclo := rfl) (hg := rfl) (hb := rfl) (hcode := rfl) gl rm ?_ (apart_of rfl) (kinds_of rfl) (fun L => ?_) rfl rfl rfl
  · intro B s vs W hv
    match vs, hv with
    | [v1, v2, v3], ⟨h1, h2, h3, _⟩ =>
      exact ⟨[("self", v1), ("left", v2), ("right", v3)], kp_binds (gl.kin.keeps fun b o e => W.sub b o (W.base b o e)) fun S => rfl, ⟨rfl, h1⟩, ⟨rfl, h2⟩, ⟨rfl, h3⟩, trivial⟩
  · refine ex_br (tInt (cmpP p q)) (ex_for (α := Int × Int) (T := tPairs dirs) (Tx := tPair) (xs := dirs) (Γi := fun _ => [("self", tComp), ("left", tPair p), ("right", tPair q)]) (Λi := fun _ => []) (Hi := fun i => (1 ≤ i → p.1 = q.1) ∧ (2 ≤ i → p.2 = q.2))
      (Γt := fun _ x => [("direction", tInt x.2), ("index", tInt x.1), ("self", tComp), ("left", tPair p), ("right", tPair q)]) (Qr := rets (tInt (cmpP p q))) (ev_sel (by tb_rel)) itb_list ⟨fun h => absurd h (by omega), fun h => absurd h (by omega)⟩ (fun i x hx hH => ?_) (fun i x hx hH => ?_)
      (fun f B s ⟨v, e, _⟩ => ⟨v, e⟩) (ht := .inr ⟨_, _, _, rfl⟩)) (fun hH => ?_) (fun _ _ _ q => q)
    · exact tg_pair (Γ₁ := [("index", tInt x.1), ("self", tComp), ("left", tPair p), ("right", tPair q)]) (.inl rfl) (.inl rfl) (by tb_start) (by tb_start)
    · obtain ⟨a, b, ha, hb, h1, h2, h3⟩ : ∃ a b : Int, (i = 0 ∧ x = (0, 1) ∧ a = p.1 ∧ b = q.1 ∨ i = 1 ∧ x = (1, 1) ∧ a = p.2 ∧ b = q.2) ∧ True ∧ (a < b → cmpP p q = -1) ∧ (b < a → cmpP p q = 1) ∧ (a = b → (1 ≤ i + 1 → p.1 = q.1) ∧ (2 ≤ i + 1 → p.2 = q.2)) := by
        match i, hx with
        | 0, hx =>
          cases hx
          refine ⟨p.1, q.1, .inl ⟨rfl, rfl, rfl, rfl⟩, trivial, fun h => if_pos h, fun h => ?_, fun h => ⟨fun _ => h, fun h' => absurd h' (by omega)⟩⟩
          unfold cmpP; rw [if_neg (by omega), if_pos h]
        | 1, hx =>
          cases hx
          have e := hH.1 (Nat.le_refl _)
          refine ⟨p.2, q.2, .inr ⟨rfl, rfl, rfl, rfl⟩, trivial, fun h => ?_, fun h => ?_, fun h => ⟨fun _ => e, fun _ => h⟩⟩
          · unfold cmpP; rw [if_neg (by omega), if_neg (by omega), if_pos h]
          · unfold cmpP; rw [if_neg (by omega), if_neg (by omega), if_neg (by omega), if_pos h]
        | n + 2, hx => simp at hx
      have hx2 : x.2 = 1 := by rcases ha with ⟨_, rfl, _⟩ | ⟨_, rfl, _⟩ <;> rfl
      refine ex_st [("l", tInt a), ("direction", tInt x.2), ("index", tInt x.1), ("self", tComp), ("left", tPair p), ("right", tPair q)] ?_ ?_
      · refine ex_assign ?_ (.inl rfl) (by tb_start)
        rcases ha with ⟨_, rfl, rfl, rfl⟩ | ⟨_, rfl, rfl, rfl⟩
        · exact ev_fst (ev_name (by tb_rel)) (ev_name (by tb_rel))
        · exact ev_snd (ev_name (by tb_rel)) (ev_name (by tb_rel))
      refine ex_st [("r", tInt b), ("l", tInt a), ("direction", tInt x.2), ("index", tInt x.1), ("self", tComp), ("left", tPair p), ("right", tPair q)] ?_ ?_
      · refine ex_assign ?_ (.inl rfl) (by tb_start)
        rcases ha with ⟨_, rfl, rfl, rfl⟩ | ⟨_, rfl, rfl, rfl⟩
        · exact ev_fst (ev_name (by tb_rel)) (ev_name (by tb_rel))
        · exact ev_snd (ev_name (by tb_rel)) (ev_name (by tb_rel))
      rw [hx2]
      refine ex_if_ret (T := tInt (-1)) (te_cmp (ev_name (by tb_rel)) (ev_name (by tb_rel)) cm_lt) (fun _ => ev_neg (ev_name (by tb_rel))) (fun n1 => ?_) (fun hq f B s q => .inr (by rw [h1 (of_decide_eq_true hq)]; exact q))
      · refine ex_if_ret (T := tInt 1) (te_cmp (ev_name (by tb_rel)) (ev_name (by tb_rel)) cm_gt) (fun _ => ev_name (by tb_rel)) (fun n2 => ?_) (fun hq f B s q => .inr (by rw [h2 (of_decide_eq_true hq)]; exact q))
        · have := of_decide_eq_false n1
          have := of_decide_eq_false n2
          refine ex_post ex_nil fun f B s q => .inl ⟨q.1, h3 (by omega), q.2.sub_Γ fun p hp => ?_⟩
          exact List.mem_cons_of_mem _ (List.mem_cons_of_mem _ (List.mem_cons_of_mem _ (List.mem_cons_of_mem _ hp)))
    · have e : cmpP p q = 0 := by
        have e1 := hH.1 (by decide)
        have e2 := hH.2 (by decide)
        unfold cmpP; rw [if_neg (by omega), if_neg (by omega), if_neg (by omega), if_neg (by omega)]
      rw [e]
      exact ex_ret ev_int
end
end Mine
end

section
open PySem PySem.W PyProof.Rows
set_option Elab.async false
set_option maxRecDepth 100000
set_option linter.unusedVariables false
set_option linter.unusedSimpArgs false
set_option autoImplicit false
namespace Mine

local macro_rules | `(tactic| tb_rel) => `(tactic| (with_reducible (first | exact List.mem_cons_self | exact List.mem_cons_of_mem _ (List.mem_cons_self) | exact List.mem_cons_of_mem _ (List.mem_cons_of_mem _ (List.mem_cons_self)) | exact List.mem_cons_of_mem _ (List.mem_cons_of_mem _ (List.mem_cons_of_mem _ (List.mem_cons_self))) | exact List.mem_cons_of_mem _ (List.mem_cons_of_mem _ (List.mem_cons_of_mem _ (List.mem_cons_of_mem _ (List.mem_cons_self)))) | exact List.mem_cons_of_mem _ (List.mem_cons_of_mem _ (List.mem_cons_of_mem _ (List.mem_cons_of_mem _ (List.mem_cons_of_mem _ (List.mem_cons_self))))) | exact List.mem_cons_of_mem _ (List.mem_cons_of_mem _ (List.mem_cons_of_mem _ (List.mem_cons_of_mem _ (List.mem_cons_of_mem _ (List.mem_cons_of_mem _ (List.mem_cons_self)))))) | exact List.mem_cons_of_mem _ (List.mem_cons_of_mem _ (List.mem_cons_of_mem _ (List.mem_cons_of_mem _ (List.mem_cons_of_mem _ (List.mem_cons_of_mem _ (List.mem_cons_of_mem _ (List.mem_cons_self))))))) | exact List.mem_cons_of_mem _ (List.mem_cons_of_mem _ (List.mem_cons_of_mem _ (List.mem_cons_of_mem _ (List.mem_cons_of_mem _ (List.mem_cons_of_mem _ (List.mem_cons_of_mem _ (List.mem_cons_of_mem _ (List.mem_cons_self)))))))) | exact List.mem_cons_of_mem _ (List.mem_cons_of_mem _ (List.mem_cons_of_mem _ (List.mem_cons_of_mem _ (List.mem_cons_of_mem _ (List.mem_cons_of_mem _ (List.mem_cons_of_mem _ (List.mem_cons_of_mem _ (List.mem_cons_of_mem _ (List.mem_cons_self))))))))) | exact List.mem_cons_of_mem _ (List.mem_cons_of_mem _ (List.mem_cons_of_mem _ (List.mem_cons_of_mem _ (List.mem_cons_of_mem _ (List.mem_cons_of_mem _ (List.mem_cons_of_mem _ (List.mem_cons_of_mem _ (List.mem_cons_of_mem _ (List.mem_cons_of_mem _ (List.mem_cons_self)))))))))) | exact List.mem_cons_of_mem _ (List.mem_cons_of_mem _ (List.mem_cons_of_mem _ (List.mem_cons_of_mem _ (List.mem_cons_of_mem _ (List.mem_cons_of_mem _ (List.mem_cons_of_mem _ (List.mem_cons_of_mem _ (List.mem_cons_of_mem _ (List.mem_cons_of_mem _ (List.mem_cons_of_mem _ (List.mem_cons_self))))))))))) | exact List.mem_cons_of_mem _ (List.mem_cons_of_mem _ (List.mem_cons_of_mem _ (List.mem_cons_of_mem _ (List.mem_cons_of_mem _ (List.mem_cons_of_mem _ (List.mem_cons_of_mem _ (List.mem_cons_of_mem _ (List.mem_cons_of_mem _ (List.mem_cons_of_mem _ (List.mem_cons_of_mem _ (List.mem_cons_of_mem _ (List.mem_cons_self)))))))))))) | exact List.mem_cons_of_mem _ (List.mem_cons_of_mem _ (List.mem_cons_of_mem _ (List.mem_cons_of_mem _ (List.mem_cons_of_mem _ (List.mem_cons_of_mem _ (List.mem_cons_of_mem _ (List.mem_cons_of_mem _ (List.mem_cons_of_mem _ (List.mem_cons_of_mem _ (List.mem_cons_of_mem _ (List.mem_cons_of_mem _ (List.mem_cons_of_mem _ (List.mem_cons_self))))))))))))))))
local macro_rules | `(tactic| tb_start) => `(tactic| (repeat' (first | exact upd_nil | (with_reducible refine upd_new ?_) | (with_reducible refine upd_old (by tb_rel) (by decide +kernel) ?_))))
theorem Rm.under {A : Around} {n : Nat} (r : Rm A (n + 1)) (C : Addr) (vs : List Value) : Rm (A.under (.builtin "type.__call__" ⟨.ref C :: vs, []⟩)) n :=
  ⟨r.h, by have := r.d; show A.depth + 1 + n ≤ 900; omega, by have := r.u; show A.units + 1 + 100 * n ≤ 9000; omega⟩

section
variable {w : World} {H : Heap} {A : Around} {n : Nat}
theorem fn_make (gl : Gl w H) (rm : Rm A (n + 2)) : Fn w H A (.ref 65) [tPairs dirs] tComp := fun B s E vs W hv => by
  match vs, hv with
  | [lst], ⟨hl, _⟩ =>
  have hlst := hl
  obtain ⟨h, g, d, t, os⟩ := s
  have X : (hd.heap_39 w.params).In h := gl.kin.keeps fun b o e => W.sub b o (W.base b o e)
  refine wpAny_call (make_core (makes_of X (k_makes _)) (looks_findIn X (k_init _)) (fun self => bind_fn X self (k_initT _)) (.inl rfl) ?_)
  have kp : ∀ b o, h.get? b = some o → ((h.push emptyDict).push (instObj 65 h.objs.size)).get? b = some o := fun b o e => Heap.get?_push_of_some _ (Heap.get?_push_of_some _ e)
  have hx : ((h.push emptyDict).push (instObj 65 h.objs.size)).get? (h.objs.size + 1) = some (instObj 65 h.objs.size) := by
    have := Heap.get?_push_size (h.push emptyDict) (o := instObj 65 h.objs.size) rfl
    rwa [Heap.size_push] at this
  have hdx : ((h.push emptyDict).push (instObj 65 h.objs.size)).get? h.objs.size = some emptyDict := Heap.get?_push_of_some _ (Heap.get?_push_size _ rfl)
  have hsz : ((h.push emptyDict).push (instObj 65 h.objs.size)).objs.size = h.objs.size + 1 + 1 := by rw [Heap.size_push, Heap.size_push]
  have bn : ∀ a : Nat, h.objs.size ≤ a → B a = none := fun a ha => by
    cases z : B a with
    | none => rfl
    | some o => have := W.sub _ _ z; rw [get?_ge_none ha] at this; cases this
  have W' : Ws H B ⟨(h.push emptyDict).push (instObj 65 h.objs.size), g, d, t, os⟩ := ⟨W.base, fun b o e => kp b o (W.sub b o e)⟩
  refine code_enter (n := n) (ps := [("self", tVal (.ref (h.objs.size + 1))), ("comp_select_list", tAnd (tPairs dirs) (tVal lst))]) (ho := rfl) (hdat := rfl) (hbody := rfl) (hclo := rfl) (hg := rfl) (hb := rfl) (hcode := rfl) gl (rm.under _ _) W'
    (binds := [("self", .ref (h.objs.size + 1)), ("comp_select_list", lst)]) (kp_binds (X.keeps kp) fun S => rfl)
    ⟨⟨rfl, rfl⟩, ⟨rfl, hl, rfl⟩, trivial⟩ (apart_of rfl) (kinds_of rfl) (fun L s₁ hL G S hfr => ?_) rfl rfl rfl
  refine wpAny_execs_cons (plainObj_wpAny_Assign_Attribute (ev_name_rd S.sat (x := "comp_select_list") (by tb_rel) fun v hv => ev_name_rd S.sat (x := "self") (by tb_rel) fun v' hv' => ?_) rfl)
  obtain ⟨_, hv⟩ := hv
  cases hv; cases hv'
  obtain ⟨m, hN⟩ := S.ns
  have hat1 := kGet G.keeps _ _ hx
  have hat2 := kGet G.keeps _ _ hdx
  have hL' : h.objs.size + 1 + 1 ≤ L := hsz ▸ hL
  refine set_dict (h₀ := h) (L := L) (m := m) (es := []) (n := 0) (news := [(h.objs.size + 1, instObj 65 h.objs.size), (h.objs.size, dictOf [] 0)]) ⟨hN, fun b o e => kGet G.keeps b o (kp b o e), by omega⟩ X (fun p hp => ?_) ⟨hat1, rfl, rfl, hat2⟩ rfl (k_set _) (k_over _) (k_taker _) (k_dict _) rfl rfl
    (Upd.tail (show h.objs.size + 1 ≠ h.objs.size by omega) (Upd.head (fun p hp => nomatch hp))) (by simp [putL]) (fun h' F' N' => ?_)
  · rcases List.mem_cons.mp hp with rfl | hp
    · exact ⟨hat1, by show h.objs.size + 1 ≠ L; omega, get?_ge_none (by omega)⟩
    · rw [List.mem_singleton.mp hp]
      exact ⟨hat2, by show h.objs.size ≠ L; omega, get?_ge_none (Nat.le_refl _)⟩
  · refine wpAny_execs_nil ?_
    obtain ⟨hs, tk, hd'⟩ : ∃ hs tk, h'.get? h.objs.size = some (dictOf [⟨hs, .str "comp_select_list" tk, lst⟩] 1) := ⟨_, _, (N' _ (List.mem_cons_of_mem _ List.mem_cons_self)).1⟩
    have hx' := (N' _ List.mem_cons_self).1
    have l1 := Wd.le_add (o := instObj 65 h.objs.size) (bn (h.objs.size + 1) (by omega))
    have hne : (h.objs.size : Nat) ≠ h.objs.size + 1 := by omega
    have b2 : (B.add (h.objs.size + 1) (instObj 65 h.objs.size)) h.objs.size = none := by
      unfold Wd.add
      rw [if_neg hne]
      exact bn _ (Nat.le_refl _)
    have l2 := Wd.le_add (o := dictOf [⟨hs, .str "comp_select_list" tk, lst⟩] 1) b2
    refine ⟨rfl, (B.add (h.objs.size + 1) (instObj 65 h.objs.size)).add h.objs.size (dictOf [⟨hs, .str "comp_select_list" tk, lst⟩] 1), ⟨l1.trans l2, fun b o e => ?_, fun b o e => ?_, ?_⟩, h.objs.size + 1, h.objs.size, hs, tk, 1, lst, rfl, l2 _ _ (Wd.add_self _ _ _), Wd.add_self _ _ _, (tPairs dirs).mono (l1.trans l2) hlst⟩
    · rcases Wd.add_cases e with ⟨rfl, rfl⟩ | ⟨_, e⟩
      · exact hd'
      · rcases Wd.add_cases e with ⟨rfl, rfl⟩ | ⟨_, e⟩
        · exact hx'
        · exact F'.keep _ _ (W.sub _ _ e)
    · rcases Wd.add_cases e with ⟨rfl, rfl⟩ | ⟨_, e⟩
      · exact .inr (get?_ge_none (Nat.le_refl _))
      · rcases Wd.add_cases e with ⟨rfl, rfl⟩ | ⟨_, e⟩
        · exact .inr (get?_ge_none (Nat.le_succ _))
        · exact .inl e
    · obtain ⟨h₁, t₁, e₁, k₁⟩ := G.keeps
      subst e₁
      exact ⟨h', _, rfl, fun b o e => F'.keep b o e⟩
end
end Mine
end

section
open PySem PySem.W PyProof.Rows
set_option Elab.async false
set_option maxRecDepth 100000
set_option linter.unusedVariables false
set_option linter.unusedSimpArgs false
set_option autoImplicit false
namespace Mine

local macro_rules | `(tactic| tb_rel) => `(tactic| (with_reducible (first | exact List.mem_cons_self | exact List.mem_cons_of_mem _ (List.mem_cons_self) | exact List.mem_cons_of_mem _ (List.mem_cons_of_mem _ (List.mem_cons_self)) | exact List.mem_cons_of_mem _ (List.mem_cons_of_mem _ (List.mem_cons_of_mem _ (List.mem_cons_self))) | exact List.mem_cons_of_mem _ (List.mem_cons_of_mem _ (List.mem_cons_of_mem _ (List.mem_cons_of_mem _ (List.mem_cons_self)))) | exact List.mem_cons_of_mem _ (List.mem_cons_of_mem _ (List.mem_cons_of_mem _ (List.mem_cons_of_mem _ (List.mem_cons_of_mem _ (List.mem_cons_self))))) | exact List.mem_cons_of_mem _ (List.mem_cons_of_mem _ (List.mem_cons_of_mem _ (List.mem_cons_of_mem _ (List.mem_cons_of_mem _ (List.mem_cons_of_mem _ (List.mem_cons_self)))))) | exact List.mem_cons_of_mem _ (List.mem_cons_of_mem _ (List.mem_cons_of_mem _ (List.mem_cons_of_mem _ (List.mem_cons_of_mem _ (List.mem_cons_of_mem _ (List.mem_cons_of_mem _ (List.mem_cons_self))))))) | exact List.mem_cons_of_mem _ (List.mem_cons_of_mem _ (List.mem_cons_of_mem _ (List.mem_cons_of_mem _ (List.mem_cons_of_mem _ (List.mem_cons_of_mem _ (List.mem_cons_of_mem _ (List.mem_cons_of_mem _ (List.mem_cons_self)))))))) | exact List.mem_cons_of_mem _ (List.mem_cons_of_mem _ (List.mem_cons_of_mem _ (List.mem_cons_of_mem _ (List.mem_cons_of_mem _ (List.mem_cons_of_mem _ (List.mem_cons_of_mem _ (List.mem_cons_of_mem _ (List.mem_cons_of_mem _ (List.mem_cons_self))))))))) | exact List.mem_cons_of_mem _ (List.mem_cons_of_mem _ (List.mem_cons_of_mem _ (List.mem_cons_of_mem _ (List.mem_cons_of_mem _ (List.mem_cons_of_mem _ (List.mem_cons_of_mem _ (List.mem_cons_of_mem _ (List.mem_cons_of_mem _ (List.mem_cons_of_mem _ (List.mem_cons_self)))))))))) | exact List.mem_cons_of_mem _ (List.mem_cons_of_mem _ (List.mem_cons_of_mem _ (List.mem_cons_of_mem _ (List.mem_cons_of_mem _ (List.mem_cons_of_mem _ (List.mem_cons_of_mem _ (List.mem_cons_of_mem _ (List.mem_cons_of_mem _ (List.mem_cons_of_mem _ (List.mem_cons_of_mem _ (List.mem_cons_self))))))))))) | exact List.mem_cons_of_mem _ (List.mem_cons_of_mem _ (List.mem_cons_of_mem _ (List.mem_cons_of_mem _ (List.mem_cons_of_mem _ (List.mem_cons_of_mem _ (List.mem_cons_of_mem _ (List.mem_cons_of_mem _ (List.mem_cons_of_mem _ (List.mem_cons_of_mem _ (List.mem_cons_of_mem _ (List.mem_cons_of_mem _ (List.mem_cons_self)))))))))))) | exact List.mem_cons_of_mem _ (List.mem_cons_of_mem _ (List.mem_cons_of_mem _ (List.mem_cons_of_mem _ (List.mem_cons_of_mem _ (List.mem_cons_of_mem _ (List.mem_cons_of_mem _ (List.mem_cons_of_mem _ (List.mem_cons_of_mem _ (List.mem_cons_of_mem _ (List.mem_cons_of_mem _ (List.mem_cons_of_mem _ (List.mem_cons_of_mem _ (List.mem_cons_self))))))))))))))))
local macro_rules | `(tactic| tb_start) => `(tactic| (repeat' (first | exact upd_nil | (with_reducible refine upd_new ?_) | (with_reducible refine upd_old (by tb_rel) (by decide +kernel) ?_))))
def swp (p : Int × Int) : Int × Int := (p.2, p.1)
theorem Sm.swp {p : Int × Int} (h : Sm p) : Sm (swp p) := ⟨h.2.2.1, h.2.2.2, h.1, h.2.1⟩
/-- where it goes -/
def plc (p : Int × Int) (os : List (Int × Int)) : Nat := os.countP fun q => decide (cd q < cd p)
theorem plc_le (p : Int × Int) (os : List (Int × Int)) : plc p os ≤ os.length := List.countP_le_length
theorem plc_at : ∀ {os : List (Int × Int)} {p : Int × Int}, os.Pairwise (fun a b => cd a ≤ cd b) → ∀ i q, os[i]? = some q → decide (cd q < cd p) = decide (i < plc p os)
  | [], _, _, i, q, h => by simp at h
  | o :: os, p, hs, 0, q, h => by
    cases h
    obtain ⟨h1, h2⟩ := List.pairwise_cons.mp hs
    rw [decide_eq_decide]
    unfold plc
    rw [List.countP_cons]
    by_cases hq : cd o < cd p
    · simp [hq]
    · simp only [hq, false_iff, decide_false, Bool.false_eq_true, if_false, Nat.add_zero]
      rw [List.countP_eq_zero.mpr (fun a ha => by have := h1 a ha; simp; omega)]
      omega
  | o :: os, p, hs, i + 1, q, h => by
    obtain ⟨h1, h2⟩ := List.pairwise_cons.mp hs
    have h' : os[i]? = some q := by simpa using h
    have ih := plc_at (p := p) h2 i q h'
    rw [decide_eq_decide] at ih ⊢
    unfold plc at ih ⊢
    rw [List.countP_cons, ih]
    by_cases hq : cd o < cd p
    · simp [hq]
    · have hm := List.mem_of_getElem? h'
      have := h1 q hm
      simp only [hq, decide_false, Bool.false_eq_true, if_false, Nat.add_zero]
      rw [List.countP_eq_zero.mpr (fun a ha => by have := h1 a ha; simp; omega)]
      omega
theorem insAt_perm {α : Type} (k : Nat) (p : α) (os : List α) : (insAt k p os).Perm (p :: os) := by
  unfold insAt
  have : (os.take k ++ [p] ++ os.drop k).Perm (p :: (os.take k ++ os.drop k)) := by
    rw [List.append_assoc]; exact List.perm_middle
  rwa [List.take_append_drop] at this
theorem insAt_sorted {p : Int × Int} {os : List (Int × Int)} (hs : os.Pairwise fun a b => cd a ≤ cd b) : (insAt (plc p os) p os).Pairwise fun a b => cd a ≤ cd b := by
  unfold insAt
  have hlow : ∀ a ∈ os.take (plc p os), cd a < cd p := fun a ha => by
    obtain ⟨i, hi, e⟩ := List.mem_iff_getElem.mp ha
    rw [List.length_take] at hi
    have := plc_at (p := p) hs i a (by rw [← e, List.getElem_take]; exact List.getElem?_eq_getElem _)
    rw [decide_eq_decide] at this
    exact this.mpr (by omega)
  have hhigh : ∀ a ∈ os.drop (plc p os), cd p ≤ cd a := fun a ha => by
    obtain ⟨i, hi, e⟩ := List.mem_iff_getElem.mp ha
    have := plc_at (p := p) hs (plc p os + i) a (by rw [← e, List.getElem_drop]; exact List.getElem?_eq_getElem _)
    rw [decide_eq_decide] at this
    have h2 : ¬ cd a < cd p := fun h => by have := this.mp h; omega
    omega
  rw [List.append_assoc, List.pairwise_append]
  refine ⟨hs.sublist (List.take_sublist ..), ?_, fun a ha b hb => ?_⟩
  · show (p :: os.drop (plc p os)).Pairwise _
    exact List.pairwise_cons.mpr ⟨hhigh, hs.sublist (List.drop_sublist ..)⟩
  · have h1 := hlow a ha
    rcases List.mem_append.mp hb with hb | hb
    · rw [List.mem_singleton.mp hb]; omega
    · have := hhigh b hb; omega
theorem srtP_snoc {ps : List (Int × Int)} {p : Int × Int} (hs : ∀ q ∈ ps ++ [p], Sm q) : insAt (plc p (srtP ps)) p (srtP ps) = srtP (ps ++ [p]) := by
  refine srtP_uniq hs ?_ (insAt_sorted (srtP_sorted ps))
  refine (insAt_perm _ _ _).trans (((srtP_perm ps).cons p).trans ?_)
  exact (List.perm_append_singleton p ps).symm

section
variable {c : Cx} {M : Addr → Prop} {Λ : La} {Γ : Ga} {B B' : Wd} {s s' : Shared} {n : Nat}
theorem ex_insort {xs ys : List (Int × Int)} {p : Int × Int} {k : Nat} {l : Addr} {x : Str} {p1 p2 pos pos' : Pos} {e : Expr} (gl : Gl c.w c.H) (rm : Rm c.A (n + 2)) (hx : (x, tVal (.ref l)) ∈ Γ) (he : Ev c Γ e (tPair p)) (hz : xs.length < 100) (hk : k ≤ xs.length) (hys : insAt k p xs = ys)
    (hp : ∀ i q, xs[i]? = some q → lexLt q p = decide (i < k)) (hkind : c.env.kindOf "insort_left" = some .globalImplicit := by rfl) (hd : (x == ("__debug__" : Str)) = false := by decide) (hn : (x == ("__classdict__" : Str)) = false := by decide)
    (h1 : starEach [.Name x p2, e] c.env = (false, eval (.Name x p2) c.env) :: starEach [e] c.env := by rfl) (h2 : starEach [e] c.env = (false, eval e c.env) :: starEach [] c.env := by rfl) (h3 : (backTo pos (starEach [e] c.env)).any (·.1) = false := by rfl)
    (hc : eval (.Call (.Name "insort_left" p1) [.Name x p2, e] [] pos) c.env = (do callWith pos (← eval (.Name "insort_left" p1) c.env) [] (backTo pos (starEach [.Name x p2, e] c.env)) (backToKw pos (keywordEach [] c.env))) := by rfl)
    (hi : interactive c.env = false := by rfl) (hs : swapsWith (.Call (.Name "insort_left" p1) [.Name x p2, e] [] pos) none pos'.line c.env = pure false := by rfl) :
    Ex1 c M (St c M [(l, lList tPair xs)] Γ) (.Expr (.Call (.Name "insort_left" p1) [.Name x p2, e] [] pos) pos') (nxt (St c M [(l, lList tPair ys)] Γ)) := fun B s E S => by
  subst hys
  refine wpAny_Expr_any (Call_ (wpAny_mono (ev_gname (v := .ref 32) rfl hkind (by decide) B s E S.sat) (fun v s₁ ⟨B₁, g₁, t₁⟩ => ?_) fun _ _ e => e) hc) hi hs
  cases t₁
  have S₁ := S.grow g₁
  refine callWith_K (gl.kin.keeps S₁.sat.heap) (show keepIn (Mine.hd.heap_39 c.w.params) (.ref 32) = true by kernel_rfl) (EvL.app (Ts := [tVal (.ref l), tPair p]) (evl_cons (ev_name hx hd hn) (evl_cons he evl_nil h2) h1) pos S₁.sat fun vs s₂ B₂ g₂ t₂ => ?_) h1 h3
  have S₂ := S₁.grow g₂
  refine ⟨gl.kin.keeps S₂.sat.heap, ?_⟩
  match vs, t₂ with
  | [v1, v2], ⟨e1, h2, _⟩ =>
  cases e1
  obtain ⟨hM, us, m, e', r⟩ := S₂.own _ List.mem_cons_self
  have e' : s₂.heap.get? l = some (lstObj us m) := e'
  have hM : M l := hM
  have hBl : B₂ l = none := by
    cases z : B₂ l with
    | none => rfl
    | some o => exact (S₂.dis l o z hM).elim
  refine wpAny_mono (insort_left gl rm hz hk hp S₂.sat.ws hBl e' r h2) (fun r' s₃ ⟨B₃, us', m', mv, hl, sub, hat, r3⟩ => ?_) fun _ _ e => e
  obtain ⟨S₃, mm⟩ := S₂.hop (φ' := lList tPair (insAt k p xs)) mv hl sub hat r3
  exact ⟨B₃, ((Grow.mv g₁).trans (Grow.mv g₂)).trans mm, rfl, S₃⟩
end

section
variable {w : World} {H : Heap} {A : Around} {n : Nat}
/-- by their ends -/
def byE (xs : List (Int × Int)) : List (Int × Int) := (srtP (xs.map swp)).map swp

theorem fn_by_ends {xs : List (Int × Int)} (gl : Gl w H) (rm : Rm A (n + 3)) (hz : xs.length < 64) (hs : ∀ p ∈ xs, Sm p) : Fn w H A (.ref 74) [tPairs xs] (tPairs (byE xs)) := by
  have hsw : ∀ p ∈ xs.map swp, Sm p := fun p hp => by obtain ⟨q, hq, e⟩ := List.mem_map.mp hp; rw [← e]; exact (hs q hq).swp
  refine fn_def (n := n + 2) (ps := [("stretches", tPairs xs)]) (ho := rfl) (hdat := rfl) (hbody := rfl) (hclo := rfl) (hg := rfl) (hb := rfl) (hcode := rfl) gl rm ?_ (apart_of rfl) (kinds_of rfl) (fun L => ?_) rfl rfl rfl
  · intro B s vs W hv
    match vs, hv with
    | [v1], ⟨h1, _⟩ => exact ⟨[("stretches", v1)], kp_binds (gl.kin.keeps fun b o e => W.sub b o (W.base b o e)) fun S => rfl, ⟨rfl, h1⟩, trivial⟩
  refine ex_own (T := tPair) (xs₀ := srtP ((xs.take 0).map swp)) (by simp [srtP]) (Γl := fun l => [("order", tVal (.ref l)), ("stretches", tPairs xs)]) rfl (fun l => by tb_start) (fun l => ?_)
  refine ex_go (ex_for (α := Int × Int) (T := tPairs xs) (Tx := tPair) (xs := xs) (Γi := fun _ => [("order", tVal (.ref l)), ("stretches", tPairs xs)]) (Λi := fun i => [(l, lList tPair (srtP ((xs.take i).map swp)))]) (Hi := fun _ => True)
    (Γt := fun _ x => [("end", tInt x.2), ("begin", tInt x.1), ("order", tVal (.ref l)), ("stretches", tPairs xs)]) (Qr := fun _ _ _ => False) (ev_name (by tb_rel)) itb_list trivial (fun i x hx _ => ?_) (fun i x hx _ => ?_)
      (fun f B s q => q.elim) (ht := .inr ⟨_, _, _, rfl⟩)) (fun _ => ?_)
  · exact tg_pair (Γ₁ := [("begin", tInt x.1), ("order", tVal (.ref l)), ("stretches", tPairs xs)]) (.inl rfl) (.inl rfl) (by tb_start) (by tb_start)
  · have hlt : i < xs.length := (List.getElem?_eq_some_iff.mp hx).1
    have htk : (xs.take (i + 1)).map swp = (xs.take i).map swp ++ [swp x] := by
      rw [List.take_add_one, hx]; simp
    have hsub : ∀ q ∈ (xs.take i).map swp ++ [swp x], Sm q := fun q hq => by
      rw [← htk] at hq
      obtain ⟨y, hy, e⟩ := List.mem_map.mp hq
      rw [← e]; exact (hs y (List.mem_of_mem_take hy)).swp
    have hln : (srtP ((xs.take i).map swp)).length ≤ xs.length := by
      rw [(srtP_perm _).length_eq, List.length_map, List.length_take]; omega
    refine ex_post (ex_one (ex_insort (n := n) (xs := srtP ((xs.take i).map swp)) (ys := srtP ((xs.take (i + 1)).map swp)) (p := swp x) (k := plc (swp x) (srtP ((xs.take i).map swp))) (l := l) gl (rm.deeper _) (by tb_rel)
      (ev_pair (ev_name (by tb_rel)) (ev_name (by tb_rel))) (by omega) (plc_le _ _) (by rw [srtP_snoc hsub, ← htk]) (fun j q hq => by
        rw [lexLt_cd (hsub q (List.mem_append_left _ ((srtP_perm _).mem_iff.mp (List.mem_of_getElem? hq)))) (hsub _ (List.mem_append_right _ (List.mem_singleton.mpr rfl)))]
        exact plc_at (srtP_sorted _) j q hq))) fun f B s q => .inl ⟨q.1, trivial, q.2.sub_Γ fun p hp => ?_⟩
    exact List.mem_cons_of_mem _ (List.mem_cons_of_mem _ hp)
  · rw [List.take_length]
    have hos : ∀ q ∈ srtP (xs.map swp), Sm q := fun q hq => hsw q ((srtP_perm _).mem_iff.mp hq)
    have hol : (srtP (xs.map swp)).length = xs.length := by rw [(srtP_perm _).length_eq, List.length_map]
    have hsd := srtP_sorted (xs.map swp)
    unfold byE
    generalize srtP (xs.map swp) = os at hos hol hsd
    refine ex_give (Γ' := [("order", tPairs os), ("stretches", tPairs xs)]) (x := "order") (by tb_rel) (fun p hp => by
      rcases List.mem_cons.mp hp with rfl | hp
      · exact .inl rfl
      · exact .inr (List.mem_cons_of_mem _ hp)) ?_
    refine ex_st [("told", tComp), ("order", tPairs os), ("stretches", tPairs xs)] ?_ ?_
    · refine ex_assign (ev_call_k (ev_gname rfl) (evl_cons (ev_list (T := tPair) (xs := dirs) (evl_cons (ev_pair ev_int ev_int) (evl_cons (ev_pair ev_int ev_int) evl_nil)) (by decide)) evl_nil) (fn_make gl (rm.deeper _)) (k_keep65 _)) (.inl rfl) (by tb_start)
    refine ex_go (ex_for (α := Int) (T := tRange 1 os.length) (Tx := tInt) (xs := rInts 1 os.length) (Γi := fun _ => [("told", tComp), ("order", tPairs os), ("stretches", tPairs xs)]) (Λi := fun i => []) (Hi := fun _ => True)
      (Γt := fun _ x => [("k", tInt x), ("told", tComp), ("order", tPairs os), ("stretches", tPairs xs)]) (Qr := fun _ _ _ => False) (ev_call_t (ev_bname rfl (by decide +kernel)) (evl_cons ev_int (evl_cons (ev_call_b (ev_bname rfl (by decide +kernel)) (evl_cons (ev_name (by tb_rel)) evl_nil) (fn_len (by omega))) evl_nil)) fn_range2)
      (itb_range (by omega) (by omega) (by omega) (by omega)) trivial (fun i x hx _ => ?_) (fun i x hx _ => ?_) (fun f B s q => q.elim) (ht := .inl ⟨_, _, rfl⟩)) (fun _ => ?_)
    · exact tg_name (.inl rfl) (by tb_start)
    · obtain ⟨rfl, hi⟩ := rInts_get hx
      have hi1 : i + 1 < os.length := by omega
      have hi0 : i < os.length := by omega
      have e0 : os[(1 + (i : Int) - 1).toNat]? = some os[i] := by rw [show (1 + (i : Int) - 1).toNat = i by omega]; exact List.getElem?_eq_getElem hi0
      have e1 : os[(1 + (i : Int)).toNat]? = some os[i + 1] := by rw [show (1 + (i : Int)).toNat = i + 1 by omega]; exact List.getElem?_eq_getElem hi1
      have hle : cd os[i] ≤ cd os[i + 1] := List.pairwise_iff_getElem.mp hsd i (i + 1) hi0 hi1 (by omega)
      have s0 := hos _ (List.getElem_mem hi0)
      have s1 := hos _ (List.getElem_mem hi1)
      generalize os[i] = a at e0 hle s0
      generalize os[i + 1] = b at e1 hle s1
      have c1 : cmpP a b ≤ 0 ∧ 0 ≤ cmpP b a ∧ (cmpP a b = 0 ↔ a = b) := by
        obtain ⟨h1, h2, h3, h4⟩ := s0
        obtain ⟨h5, h6, h7, h8⟩ := s1
        unfold cd at hle
        have hab : a = b ↔ a.1 = b.1 ∧ a.2 = b.2 := Prod.ext_iff
        rw [hab]
        unfold cmpP
        refine ⟨?_, ?_, ?_⟩
        all_goals (repeat' split) <;> omega
      refine ex_st [("k", tInt (1 + (i : Int))), ("told", tComp), ("order", tPairs os), ("stretches", tPairs xs)] ?_ ?_
      · exact ex_if (te_or (te_cmp (ev_told (by tb_rel) (evl_cons (ev_item (ev_name (by tb_rel)) (ev_sub (ev_name (by tb_rel)) ev_int) (by omega) (by omega) e0) (evl_cons (ev_item (ev_name (by tb_rel)) (ev_name (by tb_rel)) (by omega) (by omega) e1) evl_nil)) (fn_compare gl (rm.deeper _)) _) ev_int cm_gt)
          fun _ => te_cmp (ev_told (by tb_rel) (evl_cons (ev_item (ev_name (by tb_rel)) (ev_name (by tb_rel)) (by omega) (by omega) e1) (evl_cons (ev_item (ev_name (by tb_rel)) (ev_sub (ev_name (by tb_rel)) ev_int) (by omega) (by omega) e0) evl_nil)) (fn_compare gl (rm.deeper _)) _) ev_int cm_lt)
          (fun h => by simp at h; omega) (fun _ => ex_nil)
      refine ex_st [("k", tInt (1 + (i : Int))), ("told", tComp), ("order", tPairs os), ("stretches", tPairs xs)] ?_ ?_
      · refine ex_if (te_cmp (ev_cmp (ev_told (by tb_rel) (evl_cons (ev_item (ev_name (by tb_rel)) (ev_sub (ev_name (by tb_rel)) ev_int) (by omega) (by omega) e0) (evl_cons (ev_item (ev_name (by tb_rel)) (ev_name (by tb_rel)) (by omega) (by omega) e1) evl_nil)) (fn_compare gl (rm.deeper _)) _) ev_int cm_eq)
          (ev_cmp (ev_item (ev_name (by tb_rel)) (ev_sub (ev_name (by tb_rel)) ev_int) (by omega) (by omega) e0) (ev_item (ev_name (by tb_rel)) (ev_name (by tb_rel)) (by omega) (by omega) e1) cm_eq_pair) cm_ne_bool) (fun h => ?_) (fun _ => ex_nil)
        exfalso
        revert h
        by_cases hab : a = b
        · have h0 := c1.2.2.mpr hab
          subst hab
          simp [h0]
        · have : ¬ cmpP a b = 0 := fun h => hab (c1.2.2.mp h)
          simp [this, hab]
      exact ex_turn trivial fun p hp => List.mem_cons_of_mem _ hp
    · refine ex_ret ?_
      exact ev_map (Γc := []) (Γt := fun x => [("begin", tInt x.2), ("end", tInt x.1)]) (cl := []) swp ⟨rfl, rfl, by decide +kernel⟩ (ev_name (by tb_rel)) itb_list cap_nil
        (fun L x hx => tg_pair (Γ₁ := [("end", tInt x.1)]) (.inl rfl) (.inl rfl) (by tb_start) (by tb_start)) (fun x p hp => nomatch hp) (fun L x hx => ev_pair (ev_name (by tb_rel)) (ev_name (by tb_rel))) (by omega) (.inr ⟨_, _, _, rfl⟩)
end
end Mine
end

section
open PySem PySem.W PyProof.Rows
set_option Elab.async false
set_option maxRecDepth 100000
set_option linter.unusedVariables false
set_option linter.unusedSimpArgs false
set_option autoImplicit false
namespace Mine

local macro_rules | `(tactic| tb_rel) => `(tactic| (with_reducible (first | exact List.mem_cons_self | exact List.mem_cons_of_mem _ (List.mem_cons_self) | exact List.mem_cons_of_mem _ (List.mem_cons_of_mem _ (List.mem_cons_self)) | exact List.mem_cons_of_mem _ (List.mem_cons_of_mem _ (List.mem_cons_of_mem _ (List.mem_cons_self))) | exact List.mem_cons_of_mem _ (List.mem_cons_of_mem _ (List.mem_cons_of_mem _ (List.mem_cons_of_mem _ (List.mem_cons_self)))) | exact List.mem_cons_of_mem _ (List.mem_cons_of_mem _ (List.mem_cons_of_mem _ (List.mem_cons_of_mem _ (List.mem_cons_of_mem _ (List.mem_cons_self))))) | exact List.mem_cons_of_mem _ (List.mem_cons_of_mem _ (List.mem_cons_of_mem _ (List.mem_cons_of_mem _ (List.mem_cons_of_mem _ (List.mem_cons_of_mem _ (List.mem_cons_self)))))) | exact List.mem_cons_of_mem _ (List.mem_cons_of_mem _ (List.mem_cons_of_mem _ (List.mem_cons_of_mem _ (List.mem_cons_of_mem _ (List.mem_cons_of_mem _ (List.mem_cons_of_mem _ (List.mem_cons_self))))))) | exact List.mem_cons_of_mem _ (List.mem_cons_of_mem _ (List.mem_cons_of_mem _ (List.mem_cons_of_mem _ (List.mem_cons_of_mem _ (List.mem_cons_of_mem _ (List.mem_cons_of_mem _ (List.mem_cons_of_mem _ (List.mem_cons_self)))))))) | exact List.mem_cons_of_mem _ (List.mem_cons_of_mem _ (List.mem_cons_of_mem _ (List.mem_cons_of_mem _ (List.mem_cons_of_mem _ (List.mem_cons_of_mem _ (List.mem_cons_of_mem _ (List.mem_cons_of_mem _ (List.mem_cons_of_mem _ (List.mem_cons_self))))))))) | exact List.mem_cons_of_mem _ (List.mem_cons_of_mem _ (List.mem_cons_of_mem _ (List.mem_cons_of_mem _ (List.mem_cons_of_mem _ (List.mem_cons_of_mem _ (List.mem_cons_of_mem _ (List.mem_cons_of_mem _ (List.mem_cons_of_mem _ (List.mem_cons_of_mem _ (List.mem_cons_self)))))))))) | exact List.mem_cons_of_mem _ (List.mem_cons_of_mem _ (List.mem_cons_of_mem _ (List.mem_cons_of_mem _ (List.mem_cons_of_mem _ (List.mem_cons_of_mem _ (List.mem_cons_of_mem _ (List.mem_cons_of_mem _ (List.mem_cons_of_mem _ (List.mem_cons_of_mem _ (List.mem_cons_of_mem _ (List.mem_cons_self))))))))))) | exact List.mem_cons_of_mem _ (List.mem_cons_of_mem _ (List.mem_cons_of_mem _ (List.mem_cons_of_mem _ (List.mem_cons_of_mem _ (List.mem_cons_of_mem _ (List.mem_cons_of_mem _ (List.mem_cons_of_mem _ (List.mem_cons_of_mem _ (List.mem_cons_of_mem _ (List.mem_cons_of_mem _ (List.mem_cons_of_mem _ (List.mem_cons_self)))))))))))) | exact List.mem_cons_of_mem _ (List.mem_cons_of_mem _ (List.mem_cons_of_mem _ (List.mem_cons_of_mem _ (List.mem_cons_of_mem _ (List.mem_cons_of_mem _ (List.mem_cons_of_mem _ (List.mem_cons_of_mem _ (List.mem_cons_of_mem _ (List.mem_cons_of_mem _ (List.mem_cons_of_mem _ (List.mem_cons_of_mem _ (List.mem_cons_of_mem _ (List.mem_cons_self))))))))))))))))
local macro_rules | `(tactic| tb_start) => `(tactic| (repeat' (first | exact upd_nil | (with_reducible refine upd_new ?_) | (with_reducible refine upd_old (by tb_rel) (by decide +kernel) ?_))))
theorem wrc {w : World} {H : Heap} {A : Around} {fd : FuncData} {L a b : Addr} {n : Nat} {x : Str} (hk : (cF w H A fd L a n).env.kindOf x = some .cell) (hl : (cellsFrom (L + 1) fd.scope.names []).lookup x = some b) : Wr (cF w H A fd L a n) (mF fd L) x := .inr ⟨hk, b, hl, .inr ⟨x, hl⟩⟩
/-- is the next one taken -/
def gtk (acc : List (Int × Int)) (p : Int × Int) : Bool := match acc.getLast? with
  | none => true
  | some z => decide (z.2 ≤ p.1)
def tkStep (acc : List (Int × Int)) (p : Int × Int) : List (Int × Int) := if gtk acc p = true then acc ++ [p] else acc
def tkn (ys : List (Int × Int)) : List (Int × Int) := ys.foldl tkStep []
theorem tkStep_len (acc : List (Int × Int)) (p : Int × Int) : (tkStep acc p).length ≤ acc.length + 1 := by
  unfold tkStep; split <;> simp
theorem tkn_len' : ∀ (ys acc : List (Int × Int)), (ys.foldl tkStep acc).length ≤ acc.length + ys.length
  | [], acc => by simp
  | y :: ys, acc => by
    have h1 := tkn_len' ys (tkStep acc y)
    have h2 := tkStep_len acc y
    simp only [List.foldl_cons, List.length_cons]
    omega
theorem tkn_len (ys : List (Int × Int)) : (tkn ys).length ≤ ys.length := by have := tkn_len' ys []; simp only [List.length_nil, Nat.zero_add] at this; exact this
theorem foldl_take_succ {α β : Type} (f : β → α → β) (b : β) (ys : List α) (i : Nat) (y : α) (h : ys[i]? = some y) : (ys.take (i + 1)).foldl f b = f ((ys.take i).foldl f b) y := by
  rw [List.take_add_one, h]; simp
theorem byE_len (xs : List (Int × Int)) : (byE xs).length = xs.length := by unfold byE; rw [List.length_map, (srtP_perm _).length_eq, List.length_map]

section
variable {w : World} {H : Heap} {A : Around} {n : Nat}
theorem fn_taken {xs : List (Int × Int)} (gl : Gl w H) (rm : Rm A (n + 4)) (hz : xs.length < 64) (hs : ∀ p ∈ xs, Sm p) : Fn w H A (.ref 81) [tPairs xs] (tPairs (tkn (byE xs))) := by
  refine fn_def (n := n + 3) (ps := [("stretches", tPairs xs)]) (ho := rfl) (hdat := rfl) (hbody := rfl) (hclo := rfl) (hg := rfl) (hb := rfl) (hcode := rfl) gl rm ?_ (apart_of rfl) (kinds_of rfl) (fun L => ?_) rfl rfl rfl
  · intro B s vs W hv
    match vs, hv with
    | [v1], ⟨h1, _⟩ => exact ⟨[("stretches", v1)], kp_binds (gl.kin.keeps fun b o e => W.sub b o (W.base b o e)) fun S => rfl, ⟨rfl, h1⟩, trivial⟩
  refine ex_own (T := tPair) (xs₀ := tkn ((byE xs).take 0)) rfl (Γl := fun l => [("found", tVal (.ref l)), ("stretches", tPairs xs)]) rfl (fun l => by tb_start) (fun l => ?_)
  refine ex_go (ex_for (α := Int × Int) (T := tPairs (byE xs)) (Tx := tPair) (xs := byE xs) (Γi := fun _ => [("found", tVal (.ref l)), ("stretches", tPairs xs)]) (Λi := fun i => [(l, lList tPair (tkn ((byE xs).take i)))]) (Hi := fun _ => True)
    (Γt := fun _ x => [("end", tInt x.2), ("begin", tInt x.1), ("found", tVal (.ref l)), ("stretches", tPairs xs)]) (Qr := fun _ _ _ => False) (ev_call_d (ev_gname rfl) (evl_cons (ev_name (by tb_rel)) evl_nil) (fn_by_ends gl (rm.deeper _) hz hs) rfl rfl) itb_list trivial (fun i x hx _ => ?_) (fun i x hx _ => ?_)
      (fun f B s q => q.elim) (ht := .inr ⟨_, _, _, rfl⟩)) (fun _ => ?_)
  · exact tg_pair (Γ₁ := [("begin", tInt x.1), ("found", tVal (.ref l)), ("stretches", tPairs xs)]) (.inl rfl) (.inl rfl) (by tb_start) (by tb_start)
  · have e : tkn ((byE xs).take (i + 1)) = tkStep (tkn ((byE xs).take i)) x := foldl_take_succ _ _ _ _ _ hx
    rw [e]
    have hl : (tkn ((byE xs).take i)).length ≤ 64 := by
      have h1 := tkn_len ((byE xs).take i)
      rw [List.length_take, byE_len] at h1
      omega
    generalize tkn ((byE xs).take i) = acc at hl
    refine ex_cons (P' := St _ _ [(l, lList tPair (tkStep acc x))] [("end", tInt x.2), ("begin", tInt x.1), ("found", tVal (.ref l)), ("stretches", tPairs xs)]) ?_ (ex_turn trivial fun p hp => List.mem_cons_of_mem _ (List.mem_cons_of_mem _ hp))
    refine ex_if_own (q := decide (acc = []) || gtk acc x) (x := "found") (Γ' := [("end", tInt x.2), ("begin", tInt x.1), ("found", tPairs acc), ("stretches", tPairs xs)]) (by tb_rel) (fun p hp => ?_) ?_ (fun h => ?_) (fun h => ?_)
    · simp only [List.mem_cons, List.not_mem_nil, or_false] at hp ⊢
      rcases hp with rfl | rfl | rfl | rfl <;> simp
    · refine te_or (te_cmp (ev_name (by tb_rel)) (ev_list0 (T := tPair)) cm_eq_pairs_nil) fun h => ?_
      have hne : acc ≠ [] := by simpa using h
      obtain ⟨z, hzl⟩ : ∃ z, acc.getLast? = some z := ⟨acc.getLast hne, List.getLast?_eq_some_getLast hne⟩
      have : gtk acc x = decide (z.2 ≤ x.1) := by unfold gtk; rw [hzl]
      rw [this]
      exact te_cmp (ev_name (by tb_rel)) (ev_snd (ev_last (ev_name (by tb_rel)) (ev_neg ev_int) (by omega) hzl) ev_int) cm_ge
    · have hg : gtk acc x = true := by
        rcases Bool.or_eq_true_iff.mp h with h | h
        · have : acc = [] := of_decide_eq_true h
          subst this; rfl
        · exact h
      unfold tkStep
      rw [if_pos hg]
      exact ex_one (ex_append (by tb_rel) (ev_pair (ev_name (by tb_rel)) (ev_name (by tb_rel))) (by omega) _)
    · have hg : ¬ gtk acc x = true := by
        intro h'
        rw [h'] at h
        simp at h
      unfold tkStep
      rw [if_neg hg]
      exact ex_nil
  · rw [List.take_length]
    refine ex_give (Γ' := [("found", tPairs (tkn (byE xs)))]) (x := "found") (by tb_rel) (fun p hp => .inl (List.mem_singleton.mp hp)) (ex_ret (ev_name (by tb_rel)))

/-- the rows that are free for one -/
def fre (rs : List Int) (b : Int) : List Int := (rInts 0 rs.length).filter fun k => decide (rs.getD k.toNat 0 ≤ b)
def rwStep (rs : List Int) (p : Int × Int) : List Int := match fre rs p.1 with
  | [] => rs ++ [p.2]
  | h :: _ => rs.take h.toNat ++ [p.2] ++ rs.drop (h.toNat + 1)
def rws (ys : List (Int × Int)) : List Int := ys.foldl rwStep []
theorem rwStep_len (rs : List Int) (p : Int × Int) : (rwStep rs p).length ≤ rs.length + 1 := by
  unfold rwStep
  split <;> simp <;> omega
theorem rws_len' : ∀ (ys : List (Int × Int)) (rs : List Int), (ys.foldl rwStep rs).length ≤ rs.length + ys.length
  | [], rs => by simp
  | y :: ys, rs => by
    have h1 := rws_len' ys (rwStep rs y)
    have h2 := rwStep_len rs y
    simp only [List.foldl_cons, List.length_cons]
    omega
theorem rws_len (ys : List (Int × Int)) : (rws ys).length ≤ ys.length := by have := rws_len' ys []; simp only [List.length_nil, Nat.zero_add] at this; exact this

theorem fn_rows {xs : List (Int × Int)} (gl : Gl w H) (rm : Rm A (n + 1)) (hz : xs.length < 64) (hs : ∀ p ∈ xs, Sm p) : Fn w H A (.ref 86) [tPairs xs] (tInt (rws (srtP xs)).length) := by
  refine fn_def (n := n) (ps := [("stretches", tPairs xs)]) (ho := rfl) (hdat := rfl) (hbody := rfl) (hclo := rfl) (hg := rfl) (hb := rfl) (hcode := rfl) gl rm ?_ (apart_of rfl) (kinds_of rfl) (fun L => ?_) rfl rfl rfl
  · intro B s vs W hv
    match vs, hv with
    | [v1], ⟨h1, _⟩ => exact ⟨[("stretches", v1)], kp_binds (gl.kin.keeps fun b o e => W.sub b o (W.base b o e)) fun S => rfl, ⟨rfl, h1⟩, trivial⟩
  refine ex_st [("rows", tInts (rws ((srtP xs).take 0))), ("stretches", tPairs xs)] (ex_assign (T := tInts (rws ((srtP xs).take 0))) (ev_list0 (T := tInt)) (wrc rfl rfl) (by tb_start)) ?_
  refine ex_go (ex_for (α := Int × Int) (T := tPairs (srtP xs)) (Tx := tPair) (xs := srtP xs) (Γi := fun i => [("rows", tInts (rws ((srtP xs).take i))), ("stretches", tPairs xs)]) (Λi := fun i => []) (Hi := fun _ => True)
    (Γt := fun i x => [("end", tInt x.2), ("begin", tInt x.1), ("rows", tInts (rws ((srtP xs).take i))), ("stretches", tPairs xs)]) (Qr := fun _ _ _ => False) (ev_call_b (ev_bname rfl (by decide +kernel)) (evl_cons (ev_name (by tb_rel)) evl_nil) (fn_sortedP hz hs)) itb_list trivial (fun i x hx _ => ?_) (fun i x hx _ => ?_)
      (fun f B s q => q.elim) (ht := .inr ⟨_, _, _, rfl⟩)) (fun _ => ?_)
  · exact tg_pair (Γ₁ := [("begin", tInt x.1), ("rows", tInts (rws ((srtP xs).take i))), ("stretches", tPairs xs)]) (wrc rfl rfl) (.inl rfl) (by tb_start) (by tb_start)
  · have e : rws ((srtP xs).take (i + 1)) = rwStep (rws ((srtP xs).take i)) x := foldl_take_succ _ _ _ _ _ hx
    rw [e]
    have hl : (rws ((srtP xs).take i)).length ≤ 64 := by
      have h1 := rws_len ((srtP xs).take i)
      rw [List.length_take, (srtP_perm xs).length_eq] at h1
      omega
    generalize rws ((srtP xs).take i) = rs at hl
    refine ex_st [("free", tInts (fre rs x.1)), ("end", tInt x.2), ("begin", tInt x.1), ("rows", tInts rs), ("stretches", tPairs xs)] ?_ ?_
    · have e2 : fre rs x.1 = ((rInts 0 rs.length).filter fun k => decide (rs.getD k.toNat 0 ≤ x.1)).map (fun k => k) := by simp [fre]
      rw [e2]
      refine ex_assign_comp (U := tInt) (Γc := [("rows", tInts rs), ("begin", tInt x.1)]) (Γt := fun k => [("k", tInt k), ("rows", tInts rs), ("begin", tInt x.1)]) (fun k => decide (rs.getD k.toNat 0 ≤ x.1)) (fun k => k) ⟨rfl, rfl, by decide +kernel⟩
        (ev_call_t (ev_bname rfl (by decide +kernel)) (evl_cons (ev_call_b (ev_bname rfl (by decide +kernel)) (evl_cons (ev_name (by tb_rel)) evl_nil) (fn_len (by omega))) evl_nil) fn_range1) (itb_range (by omega) (by omega) (by omega) (by omega))
        (cap_cons (by tb_rel) (.inl rfl) (fun L => ⟨.inl rfl, rfl⟩) (cap_cons (by tb_rel) (.inl rfl) (fun L => ⟨.inl rfl, rfl⟩) cap_nil))
        (fun L k hk => tg_name (.inl rfl) (by tb_start)) (fun k p hp => List.mem_cons_of_mem _ hp) (fun L k hk => tel_one ?_) (fun L k hk _ => ev_name (by tb_rel)) (by rw [rInts_length]; omega) (.inl ⟨_, _, rfl⟩) (.inl rfl) (by tb_start)
      obtain ⟨j, hj⟩ := List.mem_iff_getElem?.mp hk
      obtain ⟨rfl, hj2⟩ := rInts_get hj
      have hjl : j < rs.length := by omega
      have e0 : rs[(0 + (j : Int)).toNat]? = some rs[j] := by rw [show (0 + (j : Int)).toNat = j by omega]; exact List.getElem?_eq_getElem hjl
      have e1 : rs.getD (0 + (j : Int)).toNat 0 = rs[j] := by rw [List.getD_eq_getElem?_getD, e0]; rfl
      rw [e1]
      exact te_cmp (ev_item (ev_name (by tb_rel)) (ev_name (by tb_rel)) (by omega) (by omega) e0) (ev_name (by tb_rel)) cm_le
    · refine ex_cons (P' := St _ _ [] [("rows", tInts (rwStep rs x)), ("stretches", tPairs xs)]) (ex_assign (ev_ife (te_cmp (ev_name (by tb_rel)) (ev_list0 (T := tInt)) cm_ne_ints) (fun h => ?_) (fun h => ?_)) (wrc rfl rfl) (by tb_start)) (ex_turn trivial fun p hp => hp)
      · have hne : fre rs x.1 ≠ [] := by simpa using h
        obtain ⟨h0, t, ef⟩ : ∃ h0 t, fre rs x.1 = h0 :: t := by
          cases q : fre rs x.1 with
          | nil => exact absurd q hne
          | cons a b => exact ⟨a, b, rfl⟩
        have hm : h0 ∈ rInts 0 rs.length := (List.mem_filter.mp (show h0 ∈ fre rs x.1 by rw [ef]; exact List.mem_cons_self)).1
        obtain ⟨j, hj⟩ := List.mem_iff_getElem?.mp hm
        obtain ⟨rfl, hj2⟩ := rInts_get hj
        have ej : (0 + (j : Int)) = (j : Int) := by omega
        rw [ej] at ef
        have er : rwStep rs x = rs.take j ++ [x.2] ++ rs.drop (j + 1) := by unfold rwStep; rw [ef]; simp
        rw [er]
        have e0 : (fre rs x.1)[(0 : Int).toNat]? = some (j : Int) := by rw [ef]; rfl
        refine ev_cat (ev_cat (ev_upto (ev_name (by tb_rel)) (ev_item (ev_name (by tb_rel)) ev_int (by omega) (by omega) e0) (by omega)) (ev_list1 (T := tInt) (ev_name (by tb_rel))) (by simp; omega) (by simp)) (ev_from (k := j + 1) (ev_name (by tb_rel)) ?_ (by omega)) (by simp; omega) (by simp; omega)
        exact ev_add (ev_item (ev_name (by tb_rel)) ev_int (by omega) (by omega) e0) ev_int
      · have he : fre rs x.1 = [] := by simpa using h
        have er : rwStep rs x = rs ++ [x.2] := by unfold rwStep; rw [he]
        rw [er]
        exact ev_cat (ev_name (by tb_rel)) (ev_list1 (T := tInt) (ev_name (by tb_rel))) (by omega) (by simp)
  · rw [show (srtP xs).take (srtP xs).length = srtP xs from List.take_length]
    refine ex_ret (ev_call_b (ev_bname rfl (by decide +kernel)) (evl_cons (ev_name (by tb_rel)) evl_nil) (fn_len ?_))
    have := rws_len (srtP xs)
    rw [(srtP_perm xs).length_eq] at this
    omega
end
end Mine
end

section
open PySem PySem.W PyProof.Rows
set_option Elab.async false
set_option maxRecDepth 100000
set_option linter.unusedVariables false
set_option linter.unusedSimpArgs false
set_option autoImplicit false
namespace Mine

local macro_rules | `(tactic| tb_rel) => `(tactic| (with_reducible (first | exact List.mem_cons_self | exact List.mem_cons_of_mem _ (List.mem_cons_self) | exact List.mem_cons_of_mem _ (List.mem_cons_of_mem _ (List.mem_cons_self)) | exact List.mem_cons_of_mem _ (List.mem_cons_of_mem _ (List.mem_cons_of_mem _ (List.mem_cons_self))) | exact List.mem_cons_of_mem _ (List.mem_cons_of_mem _ (List.mem_cons_of_mem _ (List.mem_cons_of_mem _ (List.mem_cons_self)))) | exact List.mem_cons_of_mem _ (List.mem_cons_of_mem _ (List.mem_cons_of_mem _ (List.mem_cons_of_mem _ (List.mem_cons_of_mem _ (List.mem_cons_self))))) | exact List.mem_cons_of_mem _ (List.mem_cons_of_mem _ (List.mem_cons_of_mem _ (List.mem_cons_of_mem _ (List.mem_cons_of_mem _ (List.mem_cons_of_mem _ (List.mem_cons_self)))))) | exact List.mem_cons_of_mem _ (List.mem_cons_of_mem _ (List.mem_cons_of_mem _ (List.mem_cons_of_mem _ (List.mem_cons_of_mem _ (List.mem_cons_of_mem _ (List.mem_cons_of_mem _ (List.mem_cons_self))))))) | exact List.mem_cons_of_mem _ (List.mem_cons_of_mem _ (List.mem_cons_of_mem _ (List.mem_cons_of_mem _ (List.mem_cons_of_mem _ (List.mem_cons_of_mem _ (List.mem_cons_of_mem _ (List.mem_cons_of_mem _ (List.mem_cons_self)))))))) | exact List.mem_cons_of_mem _ (List.mem_cons_of_mem _ (List.mem_cons_of_mem _ (List.mem_cons_of_mem _ (List.mem_cons_of_mem _ (List.mem_cons_of_mem _ (List.mem_cons_of_mem _ (List.mem_cons_of_mem _ (List.mem_cons_of_mem _ (List.mem_cons_self))))))))) | exact List.mem_cons_of_mem _ (List.mem_cons_of_mem _ (List.mem_cons_of_mem _ (List.mem_cons_of_mem _ (List.mem_cons_of_mem _ (List.mem_cons_of_mem _ (List.mem_cons_of_mem _ (List.mem_cons_of_mem _ (List.mem_cons_of_mem _ (List.mem_cons_of_mem _ (List.mem_cons_self)))))))))) | exact List.mem_cons_of_mem _ (List.mem_cons_of_mem _ (List.mem_cons_of_mem _ (List.mem_cons_of_mem _ (List.mem_cons_of_mem _ (List.mem_cons_of_mem _ (List.mem_cons_of_mem _ (List.mem_cons_of_mem _ (List.mem_cons_of_mem _ (List.mem_cons_of_mem _ (List.mem_cons_of_mem _ (List.mem_cons_self))))))))))) | exact List.mem_cons_of_mem _ (List.mem_cons_of_mem _ (List.mem_cons_of_mem _ (List.mem_cons_of_mem _ (List.mem_cons_of_mem _ (List.mem_cons_of_mem _ (List.mem_cons_of_mem _ (List.mem_cons_of_mem _ (List.mem_cons_of_mem _ (List.mem_cons_of_mem _ (List.mem_cons_of_mem _ (List.mem_cons_of_mem _ (List.mem_cons_self)))))))))))) | exact List.mem_cons_of_mem _ (List.mem_cons_of_mem _ (List.mem_cons_of_mem _ (List.mem_cons_of_mem _ (List.mem_cons_of_mem _ (List.mem_cons_of_mem _ (List.mem_cons_of_mem _ (List.mem_cons_of_mem _ (List.mem_cons_of_mem _ (List.mem_cons_of_mem _ (List.mem_cons_of_mem _ (List.mem_cons_of_mem _ (List.mem_cons_of_mem _ (List.mem_cons_self))))))))))))))))
local macro_rules | `(tactic| tb_start) => `(tactic| (repeat' (first | exact upd_nil | (with_reducible refine upd_new ?_) | (with_reducible refine upd_old (by tb_rel) (by decide +kernel) ?_))))
def lawParts : List Stmt × Scope := match (PySem.Challenge.rw_ge0003_01.row.prog.main.body.find? fun st => match st with | .FunctionDef n .. => n == "law" | _ => false) with
  | some (.FunctionDef _ _ body _ _ _ scope ..) => (body, scope)
  | _ => ([], { kind := .function, names := [], isGenerator := false, isCoroutine := false })

abbrev cE (w : World) (H : Heap) (A : Around) (name : Str) (scope : Scope) (L a : Addr) (cdv : Value) (n : Nat) : Cx := { w := w, H := H, A := A, env := envOfC name scope L a cdv, n := n }
def mE (scope : Scope) (L : Nat) (b : Addr) : Prop := b = L ∨ ∃ n, (cellsFrom (L + 1) scope.names []).lookup n = some b
theorem wre {w : World} {H : Heap} {A : Around} {name : Str} {scope : Scope} {L a b : Addr} {cdv : Value} {n : Nat} {x : Str} (hk : (cE w H A name scope L a cdv n).env.kindOf x = some .cell) (hl : (cellsFrom (L + 1) scope.names []).lookup x = some b) : Wr (cE w H A name scope L a cdv n) (mE scope L) x := .inr ⟨hk, b, hl, .inr ⟨x, hl⟩⟩
/-- a cell of a comprehension's own -/
theorem wcc {c : Cx} {scope : Scope} {cl : List (Str × Addr)} {L b : Addr} {x : Str} (hk : (compX scope cl L c.env).kindOf x = some .cell) (hl : (cellsFrom (L + 1) scope.names []).lookup x = some b) (hl2 : (cellsFrom (L + 1) scope.names cl).lookup x = some b) : Wr (cc c scope cl L) (compM scope L) x :=
  .inr ⟨hk, b, hl2, .inr (.inr ⟨x, mem_of_lookup hl⟩)⟩

/-! what the law reckons -/
def stre (m : Int) : Int × Int := (m.fmod 10, m.fmod 10 + 1 + (m.fdiv 10).fmod 5)
def lotOf (xs : List (Int × Int)) (m : Int) : List (Int × Int) := srtP (((rInts 0 xs.length).filter fun k => ((m.fdiv (2 ^ k.toNat)).fmod 2 == 1)).map fun k => xs.getD k.toNat (0, 0))
def badL (l : List (Int × Int)) : List Int := (rInts 1 l.length).filter fun k => decide ((l.getD k.toNat (0, 0)).1 < (l.getD (k - 1).toNat (0, 0)).2)
def bstStep (xs : List (Int × Int)) (b m : Int) : Int := if badL (lotOf xs m) = [] then max b (lotOf xs m).length else b
def bst (xs : List (Int × Int)) (i : Nat) : Int := ((rInts 0 (2 ^ xs.length)).take i).foldl (bstStep xs) 0
def ptsOf (tk : List (Int × Int)) : List Int := tk.map fun p => p.2 - 1
def missL (xs : List (Int × Int)) (pts : List Int) : List Int := (xs.filter fun p => decide ((pts.filter fun q => decide (p.1 ≤ q) && decide (q < p.2)) = [])).map fun _ => 1
def brR (ns : List Int) (x : Int) : Nat := ns.countP fun y => decide (y ≤ x)
def ovr (xs : List (Int × Int)) : List Int := (rInts 0 15).map fun pl => (brR (srtI (xs.map (·.1))) pl : Int) - (brR (srtI (xs.map (·.2))) pl : Int)
def cnt (xs : List (Int × Int)) : List Int := (rInts 0 15).map fun pl => ((((xs.filter fun p => decide (p.1 ≤ pl) && decide (pl < p.2)).map fun _ => (1 : Int)).length : Nat) : Int)

structure Facts (xs : List (Int × Int)) : Prop where
  len : xs.length ≤ 8
  sm : ∀ p ∈ xs, Sm p
  best : ((tkn (byE xs)).length : Int) = bst xs (2 ^ xs.length)
  apart : badL (tkn (byE xs)) = []
  hit : missL xs (ptsOf (tkn (byE xs))) = []
  over : ovr xs = cnt xs
  rows : ((rws (srtP xs)).length : Int) = mxI (ovr xs)
  moreT : 0 ≤ ((tkn (byE (xs ++ [(3, 6)]))).length : Int) - bst xs (2 ^ xs.length) ∧ ((tkn (byE (xs ++ [(3, 6)]))).length : Int) - bst xs (2 ^ xs.length) ≤ 1
  moreR : 0 ≤ ((rws (srtP (xs ++ [(3, 6)]))).length : Int) - mxI (ovr xs) ∧ ((rws (srtP (xs ++ [(3, 6)]))).length : Int) - mxI (ovr xs) ≤ 1

theorem brR_at : ∀ {ns : List Int} {x : Int}, ns.Pairwise (fun a b => a ≤ b) → ∀ i q, ns[i]? = some q → decide (x < q) = decide (brR ns x ≤ i)
  | [], _, _, i, q, h => by simp at h
  | o :: os, p, hs, 0, q, h => by
    cases h
    obtain ⟨h1, h2⟩ := List.pairwise_cons.mp hs
    rw [decide_eq_decide]
    unfold brR
    rw [List.countP_cons]
    by_cases hq : o ≤ p
    · simp [hq]
    · simp only [hq, decide_false, Bool.false_eq_true, if_false, Nat.add_zero]
      rw [List.countP_eq_zero.mpr (fun a ha => by have := h1 a ha; simp; omega)]
      omega
  | o :: os, p, hs, i + 1, q, h => by
    obtain ⟨h1, h2⟩ := List.pairwise_cons.mp hs
    have h' : os[i]? = some q := by simpa using h
    have ih := brR_at (x := p) h2 i q h'
    rw [decide_eq_decide] at ih ⊢
    unfold brR at ih ⊢
    rw [List.countP_cons, ih]
    by_cases hq : o ≤ p
    · simp [hq]
    · have hm := List.mem_of_getElem? h'
      have := h1 q hm
      simp only [hq, decide_false, Bool.false_eq_true, if_false, Nat.add_zero]
      rw [List.countP_eq_zero.mpr (fun a ha => by have := h1 a ha; simp; omega)]
      omega
theorem brR_le (ns : List Int) (x : Int) : brR ns x ≤ ns.length := List.countP_le_length

section
variable {c : Cx} {Γ : Ga}
theorem ev_uptoW {α : Type} {T : α → Ty} {v u : Expr} {p pos : Pos} {xs : List α} {k : Nat} (hv : Ev c Γ v (tListW T xs)) (hu : Ev c Γ u (tInt k)) (hz : xs.length ≤ 1000)
    (ht : ∀ o r, letTemporaryGo v o r = pure () := by intro _ _; rfl) : Ev c Γ (.Subscript v (.Slice none (some u) none p) pos) (tList T (xs.take k)) := fun B s E S => by
  refine wpAny_Subscript_list_slice (wpAny_mono (hv B s E S) (fun o s₁ ⟨B₁, g₁, a, oo, vs, n, e₁, h₁, hc, hdd, r₁⟩ => ?_) fun _ _ e => e) ht
  rw [evalPart_none, evalPart_some]
  refine wpAny_pure (wpAny_mono (hu B₁ s₁ E (S.grow g₁)) (fun j s₂ ⟨B₂, g₂, t, e₂⟩ => ?_) fun _ _ e => e)
  subst e₂
  have hlen := r₁.length
  simp at hlen
  refine ⟨a, vs, none, some (k : Int), e₁, ⟨_, g₂.sub _ _ (g₂.le _ _ h₁), hc, n, hdd⟩, by rw [sizeLine_eq]; omega, .none, .int _ _, ?_⟩
  have G1 := Grow.alloc (t := s₂.toks) ((S.grow g₁).grow g₂).sub ({ cls := .type "slice", data := .fields #[.none, .int k t, .none] } : Obj)
  have G2 := Grow.alloc (t := s₂.toks) G1.sub (lstObj (slicePick vs none (some (k : Int)) none) 0)
  have e3 : (s₂.heap.push ({ cls := .type "slice", data := .fields #[.none, .int k t, .none] } : Obj)).objs.size = s₂.heap.objs.size + 1 := Heap.size_push ..
  refine ⟨_, ((g₁.trans g₂).trans G1).trans G2, _, slicePick vs none (some (k : Int)) none, 0, rfl, ?_, ?_⟩
  · rw [← e3]; exact Wd.add_self _ _ _
  · rw [show (slicePick vs none (some (k : Int)) none).toList = vs.toList.take k by rw [slicePick_upto']]
    exact (r₁.take k).mono fun x v y => (T x).mono (g₂.le.trans (G1.le.trans G2.le)) y
end

theorem pow_le8 {k : Nat} (h : k ≤ 8) : (2 : Int) ^ k ≤ 256 ∧ 1 ≤ (2 : Int) ^ k := by
  match k, h with
  | 0, _ => decide
  | 1, _ => decide
  | 2, _ => decide
  | 3, _ => decide
  | 4, _ => decide
  | 5, _ => decide
  | 6, _ => decide
  | 7, _ => decide
  | 8, _ => decide
  | n + 9, h => omega
theorem rInts_mem {a b x : Int} (h : x ∈ rInts a b) : ∃ j : Nat, x = a + (j : Int) ∧ j < (b - a).toNat := by
  obtain ⟨j, hj⟩ := List.mem_iff_getElem?.mp h
  obtain ⟨e, hj2⟩ := rInts_get hj
  exact ⟨j, e, hj2⟩
def LawOK (body : List Stmt) (scope : Scope) : Prop := ∀ (w : World) (H : Heap) (A : Around) (n : Nat) (L fa : Addr) (cdv : Value) (name : Str) (ns : List Int), Gl w H → Rm A (n + 5) → ns.length ≤ 63 → Facts ((ns.take 8).map stre) →
  Ex (cE w H A name scope L fa cdv (n + 5)) (mE scope L) (St (cE w H A name scope L fa cdv (n + 5)) (mE scope L) [] [("script", tListW tInt ns)]) body (rets (tBool true))

def Tail2 (body : List Stmt) (scope : Scope) : Prop := ∀ (w : World) (H : Heap) (A : Around) (n : Nat) (L fa : Addr) (cdv : Value) (name : Str) (xs : List (Int × Int)) (be : Int), Gl w H → Rm A (n + 5) → xs.length ≤ 8 → (∀ p ∈ xs, Sm p) →
  ovr xs = cnt xs → ((rws (srtP xs)).length : Int) = mxI (ovr xs) → (0 ≤ ((tkn (byE (xs ++ [(3, 6)]))).length : Int) - be ∧ ((tkn (byE (xs ++ [(3, 6)]))).length : Int) - be ≤ 1) →
  (0 ≤ ((rws (srtP (xs ++ [(3, 6)]))).length : Int) - mxI (ovr xs) ∧ ((rws (srtP (xs ++ [(3, 6)]))).length : Int) - mxI (ovr xs) ≤ 1) →
  Ex (cE w H A name scope L fa cdv (n + 5)) (mE scope L) (St (cE w H A name scope L fa cdv (n + 5)) (mE scope L) [] [("best", tInt be), ("stretches", tPairs xs)]) body (rets (tBool true))

set_option maxHeartbeats 8000000 in
theorem law_tail2 : Tail2 (lawParts.1.drop 7) lawParts.2 := by
  conv => arg 1; whnf
  conv => arg 2; whnf
  intro w H A n L fa cdv name xs be gl rm hx8 hsm fO fR fT fRR
  have hsm2 : ∀ p ∈ xs ++ [(3, 6)], Sm p := fun p hp => by
    rcases List.mem_append.mp hp with hp | hp
    · exact hsm p hp
    · rw [List.mem_singleton.mp hp]; exact ⟨by decide, by decide, by decide, by decide⟩
  have hl2 : (xs ++ [((3 : Int), (6 : Int))]).length ≤ 9 := by simp; omega
  have htl2 : (tkn (byE (xs ++ [(3, 6)]))).length ≤ 9 := by
    have := tkn_len (byE (xs ++ [(3, 6)]))
    rw [byE_len] at this
    omega
  refine ex_st [("begins", tInts (srtI (xs.map (·.1)))), ("ends", tInts (srtI (xs.map (·.2)))), ("best", tInt be), ("stretches", tPairs xs)] ?_ ?_
  · refine ex_assign_t (ev_tup (Ts := [tInts (srtI (xs.map (·.1))), tInts (srtI (xs.map (·.2)))]) (evl_cons (ev_call_b (ev_bname rfl (by decide +kernel)) (evl_cons (T := tInts (xs.map (·.1))) ?_ evl_nil) (fn_sorted (by rw [List.length_map]; omega))) (evl_cons (ev_call_b (ev_bname rfl (by decide +kernel)) (evl_cons (T := tInts (xs.map (·.2))) ?_ evl_nil) (fn_sorted (by rw [List.length_map]; omega))) evl_nil)) (by simp))
      (tg_tup (Γ₁ := [("begins", tInts (srtI (xs.map (·.1)))), ("best", tInt be), ("stretches", tPairs xs)]) (wre rfl rfl) (wre rfl rfl) (by tb_start) (by tb_start))
    · exact ev_map (U := tInt) (Γc := []) (Γt := fun (x : Int × Int) => [("end", tInt x.2), ("begin", tInt x.1)]) (cl := []) (fun (p : Int × Int) => p.1) ⟨rfl, rfl, by decide +kernel⟩ (ev_name (by tb_rel)) itb_list cap_nil
        (fun L x hx => tg_pair (Γ₁ := [("begin", tInt x.1)]) (.inl rfl) (.inl rfl) (by tb_start) (by tb_start)) (fun x p hp => nomatch hp) (fun L x hx => ev_name (by tb_rel)) (by omega) (.inr ⟨_, _, _, rfl⟩)
    · exact ev_map (U := tInt) (Γc := []) (Γt := fun (x : Int × Int) => [("end", tInt x.2), ("begin", tInt x.1)]) (cl := []) (fun (p : Int × Int) => p.2) ⟨rfl, rfl, by decide +kernel⟩ (ev_name (by tb_rel)) itb_list cap_nil
        (fun L x hx => tg_pair (Γ₁ := [("begin", tInt x.1)]) (.inl rfl) (.inl rfl) (by tb_start) (by tb_start)) (fun x p hp => nomatch hp) (fun L x hx => ev_name (by tb_rel)) (by omega) (.inr ⟨_, _, _, rfl⟩)
  have s1 := srtI_sorted (xs.map (·.1))
  have s2 := srtI_sorted (xs.map (·.2))
  have l1 : (srtI (xs.map (·.1))).length ≤ 8 := by rw [(srtI_perm _).length_eq, List.length_map]; omega
  have l2 : (srtI (xs.map (·.2))).length ≤ 8 := by rw [(srtI_perm _).length_eq, List.length_map]; omega
  refine ex_st [("over", tInts (ovr xs)), ("best", tInt be), ("stretches", tPairs xs)] ?_ ?_
  · unfold ovr
    generalize srtI (xs.map (·.1)) = bs at s1 l1
    generalize srtI (xs.map (·.2)) = es at s2 l2
    refine ex_assign_comp (U := tInt) (Γc := [("begins", tInts bs), ("ends", tInts es)]) (Γt := fun pl => [("place", tInt pl), ("begins", tInts bs), ("ends", tInts es)]) (fun _ => true) (fun pl => (brR bs pl : Int) - (brR es pl : Int)) ⟨rfl, rfl, by decide +kernel⟩
      (ev_call_t (ev_bname rfl (by decide +kernel)) (evl_cons ev_int evl_nil) fn_range1) (itb_range (by omega) (by omega) (by omega) (by omega)) (cap_cons (by tb_rel) (.inl rfl) (fun L => ⟨.inl rfl, rfl⟩) (cap_cons (by tb_rel) (.inl rfl) (fun L => ⟨.inl rfl, rfl⟩) cap_nil))
      (fun L k hk => tg_name (.inl rfl) (by tb_start)) (fun k p hp => List.mem_cons_of_mem _ hp) (fun L k hk => tel_nil) (fun L k hk _ => ?_) (by rw [rInts_length]; omega) (.inl ⟨_, _, rfl⟩) (.inl rfl) (by rw [filt_true]; tb_start)
    exact ev_sub (ev_call_d (ev_gname rfl) (evl_cons (ev_name (by tb_rel)) (evl_cons (ev_name (by tb_rel)) evl_nil)) (fn_bisect_right (n := n) gl (rm.le (by omega)) (by omega) (brR_le _ _) (brR_at s1)) rfl rfl)
      (ev_call_d (ev_gname rfl) (evl_cons (ev_name (by tb_rel)) (evl_cons (ev_name (by tb_rel)) evl_nil)) (fn_bisect_right (n := n) gl (rm.le (by omega)) (by omega) (brR_le _ _) (brR_at s2)) rfl rfl)
  have hov : ovr xs ≠ [] := by
    intro h
    have : (ovr xs).length = 15 := by unfold ovr; rw [List.length_map, rInts_length]; rfl
    rw [h] at this; simp at this
  generalize hovr : ovr xs = ov at fO fR fRR hov
  refine ex_if_ret (q := !decide (ov = cnt xs)) (T := tBool false) (te_cmp (ev_name (by tb_rel)) (U := tInts (cnt xs)) ?_ cm_ne_ints) (fun _ => ev_bool) (fun _ => ?_) (fun h => ?_)
  · unfold cnt
    refine ev_map (U := tInt) (Γc := [("stretches", tPairs xs)]) (Γt := fun pl => [("place", tInt pl), ("stretches", tPairs xs)]) _ ⟨rfl, rfl, by decide +kernel⟩
      (ev_call_t (ev_bname rfl (by decide +kernel)) (evl_cons ev_int evl_nil) fn_range1) (itb_range (by omega) (by omega) (by omega) (by omega)) (cap_cons (by tb_rel) (.inl rfl) (fun L => ⟨.inl rfl, rfl⟩) cap_nil)
      (fun L k hk => tg_name (wcc rfl rfl rfl) (by tb_start)) (fun k p hp => List.mem_cons_of_mem _ hp) (fun L pl hk => ev_call_b (ev_bname rfl (by decide +kernel)) (evl_cons (T := tInts ((xs.filter fun p => decide (p.1 ≤ pl) && decide (pl < p.2)).map fun _ => (1 : Int))) ?_ evl_nil) (fn_len ?_)) (by rw [rInts_length]; omega) (.inl ⟨_, _, rfl⟩)
    · exact ev_comp (U := tInt) (Γc := [("place", tInt pl)]) (Γt := fun (p : Int × Int) => [("end", tInt p.2), ("begin", tInt p.1), ("place", tInt pl)]) (fun (p : Int × Int) => decide (p.1 ≤ pl) && decide (pl < p.2)) (fun _ => 1) ⟨rfl, rfl, by decide +kernel⟩
        (ev_name (by tb_rel)) itb_list (cap_cons (by tb_rel) (.inl rfl) (fun L => ⟨.inl rfl, rfl⟩) cap_nil)
        (fun L x hx => tg_pair (Γ₁ := [("begin", tInt x.1), ("place", tInt pl)]) (.inl rfl) (.inl rfl) (by tb_start) (by tb_start)) (fun k p hp => List.mem_cons_of_mem _ (List.mem_cons_of_mem _ hp)) (fun L q hq => tel_one (te_chain (ev_name (by tb_rel)) (ev_name (by tb_rel)) (ev_name (by tb_rel)) cm_le cm_lt)) (fun L q hq _ => ev_int) (by omega) (.inr ⟨_, _, _, rfl⟩)
    · rw [List.length_map]
      exact Nat.lt_of_le_of_lt (List.length_filter_le _ _) (by omega)
  · refine ex_if_ret (q := ((rws (srtP xs)).length : Int) != mxI ov) (T := tBool false) (te_cmp (ev_call_d (ev_gname rfl) (evl_cons (ev_name (by tb_rel)) evl_nil) (fn_rows (n := n) gl (rm.le (by omega)) (by omega) hsm) rfl rfl) (ev_call_b (ev_bname rfl (by decide +kernel)) (evl_cons (ev_name (by tb_rel)) evl_nil) (fn_max rm.h hov)) cm_ne) (fun _ => ev_bool) (fun _ => ?_) (fun h => ?_)
    · refine ex_st [("more", tPairs (xs ++ [(3, 6)])), ("over", tInts ov), ("best", tInt be)] ?_ ?_
      · exact ex_assign (ev_cat (ev_name (by tb_rel)) (ev_list1 (T := tPair) (ev_pair ev_int ev_int)) (by omega) (by simp)) (.inl rfl) (by tb_start)
      · refine ex_ret ?_
        have e1 : (decide (0 ≤ ((tkn (byE (xs ++ [(3, 6)]))).length : Int) - be) && decide (((tkn (byE (xs ++ [(3, 6)]))).length : Int) - be ≤ 1) && (decide (0 ≤ ((rws (srtP (xs ++ [(3, 6)]))).length : Int) - mxI ov) && decide (((rws (srtP (xs ++ [(3, 6)]))).length : Int) - mxI ov ≤ 1))) = true := by
          simp only [Bool.and_eq_true, decide_eq_true_eq]; exact ⟨⟨fT.1, fT.2⟩, fRR.1, fRR.2⟩
        rw [← e1]
        exact ev_and (ev_chain ev_int (ev_sub (ev_call_b (ev_bname rfl (by decide +kernel)) (evl_cons (ev_call_d (ev_gname rfl) (evl_cons (ev_name (by tb_rel)) evl_nil) (fn_taken (n := n) gl (rm.le (by omega)) (by omega) hsm2) rfl rfl) evl_nil) (fn_len (by omega))) (ev_name (by tb_rel))) ev_int cm_le cm_le)
          (fun _ => ev_chain ev_int (ev_sub (ev_call_d (ev_gname rfl) (evl_cons (ev_name (by tb_rel)) evl_nil) (fn_rows (n := n) gl (rm.le (by omega)) (by omega) hsm2) rfl rfl) (ev_call_b (ev_bname rfl (by decide +kernel)) (evl_cons (ev_name (by tb_rel)) evl_nil) (fn_max rm.h hov))) ev_int cm_le cm_le)
    · simp [fR] at h
  · simp [fO] at h

def Tail1 (body : List Stmt) (scope : Scope) : Prop := ∀ (w : World) (H : Heap) (A : Around) (n : Nat) (L fa : Addr) (cdv : Value) (name : Str) (xs : List (Int × Int)), Gl w H → Rm A (n + 5) → Facts xs →
  Ex (cE w H A name scope L fa cdv (n + 5)) (mE scope L) (St (cE w H A name scope L fa cdv (n + 5)) (mE scope L) [] [("best", tInt (bst xs (2 ^ xs.length))), ("taken", tPairs (tkn (byE xs))), ("stretches", tPairs xs)]) body (rets (tBool true))

set_option maxHeartbeats 8000000 in
theorem law_tail1 : Tail1 (lawParts.1.drop 4) lawParts.2 := by
  conv => arg 1; whnf
  conv => arg 2; whnf
  intro w H A n L fa cdv name xs gl rm F
  have hx8 := F.len
  have hsm := F.sm
  have htl : (tkn (byE xs)).length ≤ 8 := by
    have := tkn_len (byE xs)
    rw [byE_len] at this
    omega
  have fB := F.best
  have fA := F.apart
  have fH := F.hit
  have fO := F.over
  have fR := F.rows
  have fT := F.moreT
  have fRR := F.moreR
  generalize hbe : bst xs (2 ^ xs.length) = be at fB fT
  generalize htk : tkn (byE xs) = tk at fB fA fH htl
  refine ex_if_ret (q := ((tk.length : Int) != be) || !decide (badL tk = [])) (T := tBool false) (te_or (te_cmp (ev_call_b (ev_bname rfl (by decide +kernel)) (evl_cons (ev_name (by tb_rel)) evl_nil) (fn_len (by omega))) (ev_name (by tb_rel)) cm_ne) fun _ => te_cmp (T := tInts (badL tk)) ?_ (ev_list0 (T := tInt)) cm_ne_ints) (fun _ => ev_bool) (fun _ => ?_) (fun h => ?_)
  · rw [show badL tk = ((rInts 1 tk.length).filter fun k => decide ((tk.getD k.toNat (0, 0)).1 < (tk.getD (k - 1).toNat (0, 0)).2)).map (fun k => k) by simp [badL]]
    refine ev_comp (U := tInt) (Γc := [("taken", tPairs tk)]) (Γt := fun k => [("k", tInt k), ("taken", tPairs tk)]) (fun k => decide ((tk.getD k.toNat (0, 0)).1 < (tk.getD (k - 1).toNat (0, 0)).2)) (fun k => k) ⟨rfl, rfl, by decide +kernel⟩
      (ev_call_t (ev_bname rfl (by decide +kernel)) (evl_cons ev_int (evl_cons (ev_call_b (ev_bname rfl (by decide +kernel)) (evl_cons (ev_name (by tb_rel)) evl_nil) (fn_len (by omega))) evl_nil)) fn_range2) (itb_range (by omega) (by omega) (by omega) (by omega))
      (cap_cons (by tb_rel) (.inl rfl) (fun L => ⟨.inl rfl, rfl⟩) cap_nil)
      (fun L k hk => tg_name (.inl rfl) (by tb_start)) (fun k p hp => List.mem_cons_of_mem _ hp) (fun L k hk => tel_one ?_) (fun L k hk _ => ev_name (by tb_rel)) (by rw [rInts_length]; omega) (.inl ⟨_, _, rfl⟩)
    obtain ⟨j, rfl, hj⟩ := rInts_mem hk
    have h1 : j + 1 < tk.length := by omega
    have h0 : j < tk.length := by omega
    have e1 : tk[(1 + (j : Int)).toNat]? = some tk[j + 1] := by rw [show (1 + (j : Int)).toNat = j + 1 by omega]; exact List.getElem?_eq_getElem h1
    have e0 : tk[(1 + (j : Int) - 1).toNat]? = some tk[j] := by rw [show (1 + (j : Int) - 1).toNat = j by omega]; exact List.getElem?_eq_getElem h0
    have d1 : tk.getD (1 + (j : Int)).toNat (0, 0) = tk[j + 1] := by rw [List.getD_eq_getElem?_getD, e1]; rfl
    have d0 : tk.getD (1 + (j : Int) - 1).toNat (0, 0) = tk[j] := by rw [List.getD_eq_getElem?_getD, e0]; rfl
    rw [d1, d0]
    exact te_cmp (ev_fst (ev_item (ev_name (by tb_rel)) (ev_name (by tb_rel)) (by omega) (by omega) e1) ev_int) (ev_snd (ev_item (ev_name (by tb_rel)) (ev_sub (ev_name (by tb_rel)) ev_int) (by omega) (by omega) e0) ev_int) cm_lt
  · refine ex_st [("points", tInts (ptsOf tk)), ("best", tInt be), ("taken", tPairs tk), ("stretches", tPairs xs)] ?_ ?_
    · exact ex_assign (T := tInts (ptsOf tk)) (ev_map (U := tInt) (Γc := []) (Γt := fun (x : Int × Int) => [("end", tInt x.2), ("begin", tInt x.1)]) (cl := []) (fun (p : Int × Int) => p.2 - 1) ⟨rfl, rfl, by decide +kernel⟩ (ev_name (by tb_rel)) itb_list cap_nil
        (fun L x hx => tg_pair (Γ₁ := [("begin", tInt x.1)]) (.inl rfl) (.inl rfl) (by tb_start) (by tb_start)) (fun x p hp => nomatch hp) (fun L x hx => ev_sub (ev_name (by tb_rel)) ev_int) (by omega) (.inr ⟨_, _, _, rfl⟩)) (wre rfl rfl) (by tb_start)
    have hpl : (ptsOf tk).length ≤ 8 := by unfold ptsOf; rw [List.length_map]; omega
    generalize ptsOf tk = pts at fH hpl
    refine ex_if_ret (q := !decide (missL xs pts = [])) (T := tBool false) (te_cmp (T := tInts (missL xs pts)) ?_ (ev_list0 (T := tInt)) cm_ne_ints) (fun _ => ev_bool) (fun _ => ?_) (fun h => ?_)
    · refine ev_comp (U := tInt) (Γc := [("points", tInts pts)]) (Γt := fun (p : Int × Int) => [("end", tInt p.2), ("begin", tInt p.1), ("points", tInts pts)]) (fun (p : Int × Int) => decide ((pts.filter fun q => decide (p.1 ≤ q) && decide (q < p.2)) = [])) (fun _ => 1) ⟨rfl, rfl, by decide +kernel⟩
        (ev_name (by tb_rel)) itb_list (cap_cons (by tb_rel) (.inl rfl) (fun L => ⟨.inl rfl, rfl⟩) cap_nil)
        (fun L p hp => tg_pair (Γ₁ := [("begin", tInt p.1), ("points", tInts pts)]) (wcc rfl rfl rfl) (wcc rfl rfl rfl) (by tb_start) (by tb_start)) (fun k p hp => List.mem_cons_of_mem _ (List.mem_cons_of_mem _ hp)) (fun L p hp => tel_one (te_cmp ?_ (ev_list0 (T := tInt)) cm_eq_ints)) (fun L k hk _ => ev_int) (by omega) (.inr ⟨_, _, _, rfl⟩)
      rw [show (pts.filter fun q => decide (p.1 ≤ q) && decide (q < p.2)) = (pts.filter fun q => decide (p.1 ≤ q) && decide (q < p.2)).map (fun q => q) by simp]
      exact ev_comp (U := tInt) (Γc := [("begin", tInt p.1), ("end", tInt p.2)]) (Γt := fun q => [("point", tInt q), ("begin", tInt p.1), ("end", tInt p.2)]) (fun q => decide (p.1 ≤ q) && decide (q < p.2)) (fun q => q) ⟨rfl, rfl, by decide +kernel⟩
        (ev_name (by tb_rel)) itb_list (cap_cons (by tb_rel) (.inl rfl) (fun L => ⟨.inl rfl, rfl⟩) (cap_cons (by tb_rel) (.inl rfl) (fun L => ⟨.inl rfl, rfl⟩) cap_nil))
        (fun L q hq => tg_name (.inl rfl) (by tb_start)) (fun k p hp => List.mem_cons_of_mem _ hp) (fun L q hq => tel_one (te_chain (ev_name (by tb_rel)) (ev_name (by tb_rel)) (ev_name (by tb_rel)) cm_le cm_lt)) (fun L q hq _ => ev_name (by tb_rel)) (by omega) (.inl ⟨_, _, rfl⟩)
    · exact ex_pre (law_tail2 w H A n L fa cdv name xs be gl rm hx8 hsm fO fR fT fRR) fun B s S => S.sub_Γ fun p hp => by
        simp only [List.mem_cons, List.not_mem_nil, or_false] at hp ⊢
        rcases hp with rfl | rfl <;> simp
    · simp [fH] at h
  · simp [fB, fA] at h

set_option maxHeartbeats 8000000 in
theorem law_body : LawOK lawParts.1 lawParts.2 := by
  conv => arg 1; whnf
  conv => arg 2; whnf
  intro w H A n L fa cdv name ns gl rm hz F
  have hx8 := F.len
  refine ex_st [("stretches", tPairs ((ns.take 8).map stre))] ?_ ?_
  · refine ex_assign (ev_map (U := tPair) (Γc := []) (Γt := fun m => [("number", tInt m)]) (cl := []) stre ⟨rfl, rfl, by decide +kernel⟩ (ev_uptoW (k := 8) (ev_name (by tb_rel)) ev_int (by omega)) itb_list cap_nil (fun L m hm => tg_name (.inl rfl) (by tb_start)) (fun x p hp => nomatch hp) (fun L m hm => ?_) (by rw [List.length_take]; omega) (.inl ⟨_, _, rfl⟩))
      (wre rfl rfl) (by tb_start)
    exact ev_pair (ev_mod (ev_name (by tb_rel)) ev_int (by decide)) (ev_add (ev_add (ev_mod (ev_name (by tb_rel)) ev_int (by decide)) ev_int) (ev_mod (ev_div (ev_name (by tb_rel)) ev_int (by decide) (PyProof.noPylong_small (by decide))) ev_int (by decide)))
  generalize (ns.take 8).map stre = xs at F hx8
  have hsm := F.sm
  refine ex_if_ret (q := false) (T := tBool false) (te_cmp (ev_call_d (ev_gname rfl) (evl_cons (ev_name (by tb_rel)) evl_nil) (fn_by_ends (n := n) gl (rm.le (by omega)) (by omega) hsm) rfl rfl) ev_none cm_is_none_list) (fun h => nomatch h) (fun _ => ?_) (fun h => nomatch h)
  refine ex_st [("best", tInt 0), ("taken", tPairs (tkn (byE xs))), ("stretches", tPairs xs)] ?_ ?_
  · refine ex_assign_t (ev_tup (Ts := [tPairs (tkn (byE xs)), tInt 0]) (evl_cons (ev_call_d (ev_gname rfl) (evl_cons (ev_name (by tb_rel)) evl_nil) (fn_taken (n := n) gl (rm.le (by omega)) (by omega) hsm) rfl rfl) (evl_cons ev_int evl_nil)) (by simp))
      (tg_tup (Γ₁ := [("taken", tPairs (tkn (byE xs))), ("stretches", tPairs xs)]) (wre rfl rfl) (.inl rfl) (by tb_start) (by tb_start))
  refine ex_go (ex_for (α := Int) (T := tRange 0 (2 ^ xs.length)) (Tx := tInt) (xs := rInts 0 (2 ^ xs.length)) (Γi := fun i => [("best", tInt (bst xs i)), ("taken", tPairs (tkn (byE xs))), ("stretches", tPairs xs)]) (Λi := fun i => []) (Hi := fun _ => True)
      (Γt := fun i m => [("mask", tInt m), ("best", tInt (bst xs i)), ("taken", tPairs (tkn (byE xs))), ("stretches", tPairs xs)]) (Qr := fun _ _ _ => False) (ev_call_t (ev_bname rfl (by decide +kernel)) (evl_cons (ev_pow2 ev_int (ev_call_b (ev_bname rfl (by decide +kernel)) (evl_cons (ev_name (by tb_rel)) evl_nil) (fn_len (by omega))) (by omega)) evl_nil) fn_range1)
      (itb_range (by omega) (by omega) (by have := pow_le8 hx8; omega) (by have := pow_le8 hx8; omega)) trivial (fun i m hm _ => ?_) (fun i m hm _ => ?_) (fun f B s q => q.elim) (ht := .inl ⟨_, _, rfl⟩)) (fun _ => ?_)
  · exact tg_name (wre rfl rfl) (by tb_start)
  · have eb : bst xs (i + 1) = bstStep xs (bst xs i) m := foldl_take_succ _ _ _ _ _ hm
    rw [eb]
    obtain ⟨rfl, hi⟩ := rInts_get hm
    have hll : (lotOf xs (0 + (i : Int))).length ≤ 8 := by
      unfold lotOf
      rw [(srtP_perm _).length_eq, List.length_map]
      refine Nat.le_trans (List.length_filter_le _ _) ?_
      rw [rInts_length]; omega
    refine ex_st [("lot", tPairs (lotOf xs (0 + (i : Int)))), ("mask", tInt (0 + (i : Int))), ("best", tInt (bst xs i)), ("taken", tPairs (tkn (byE xs))), ("stretches", tPairs xs)] ?_ ?_
    · refine ex_assign (T := tPairs (lotOf xs (0 + (i : Int)))) (ev_call_b (ev_bname rfl (by decide +kernel)) (evl_cons ?_ evl_nil) (fn_sortedP ?_ ?_)) (wre rfl rfl) (by tb_start)
      · refine ev_comp (U := tPair) (Γc := [("stretches", tPairs xs), ("mask", tInt (0 + (i : Int)))]) (Γt := fun k => [("k", tInt k), ("stretches", tPairs xs), ("mask", tInt (0 + (i : Int)))]) (fun k => (((0 + (i : Int)).fdiv (2 ^ k.toNat)).fmod 2 == 1)) (fun k => xs.getD k.toNat (0, 0)) ⟨rfl, rfl, by decide +kernel⟩
          (ev_call_t (ev_bname rfl (by decide +kernel)) (evl_cons (ev_call_b (ev_bname rfl (by decide +kernel)) (evl_cons (ev_name (by tb_rel)) evl_nil) (fn_len (by omega))) evl_nil) fn_range1) (itb_range (by omega) (by omega) (by omega) (by omega))
          (cap_cons (by tb_rel) (.inl rfl) (fun L => ⟨.inl rfl, rfl⟩) (cap_cons (by tb_rel) (.inl rfl) (fun L => ⟨.inl rfl, rfl⟩) cap_nil))
          (fun L k hk => tg_name (.inl rfl) (by tb_start)) (fun k p hp => List.mem_cons_of_mem _ hp) (fun L k hk => tel_one ?_) (fun L k hk _ => ?_) (by rw [rInts_length]; omega) (.inl ⟨_, _, rfl⟩)
        · obtain ⟨j, rfl, hj⟩ := rInts_mem hk
          rw [show (0 + (j : Int)) = (j : Int) by omega, Int.toNat_natCast]
          have hp2 := pow_le8 (k := j) (by omega)
          exact te_cmp (ev_mod (ev_div (ev_name (by tb_rel)) (ev_pow2 ev_int (ev_name (by tb_rel)) (by omega)) (by omega) (PyProof.noPylong_small (by omega))) ev_int (by decide)) ev_int cm_eq
        · obtain ⟨j, rfl, hj⟩ := rInts_mem hk
          have hjl : j < xs.length := by omega
          have e0 : xs[(0 + (j : Int)).toNat]? = some xs[j] := by rw [show (0 + (j : Int)).toNat = j by omega]; exact List.getElem?_eq_getElem hjl
          have e1 : xs.getD (0 + (j : Int)).toNat (0, 0) = xs[j] := by rw [List.getD_eq_getElem?_getD, e0]; rfl
          rw [e1]
          exact ev_item (ev_name (by tb_rel)) (ev_name (by tb_rel)) (by omega) (by omega) e0
      · rw [List.length_map]
        refine Nat.lt_of_le_of_lt (List.length_filter_le _ _) ?_
        rw [rInts_length]; omega
      · intro p hp
        obtain ⟨k, hk, rfl⟩ := List.mem_map.mp hp
        obtain ⟨j, rfl, hj⟩ := rInts_mem (List.mem_filter.mp hk).1
        have hjl : j < xs.length := by omega
        rw [List.getD_eq_getElem?_getD, show (0 + (j : Int)).toNat = j by omega, List.getElem?_eq_getElem hjl]
        exact hsm _ (List.getElem_mem hjl)
    · unfold bstStep
      generalize lotOf xs (0 + (i : Int)) = lot at hll
      refine ex_cons (P' := St _ _ [] [("lot", tPairs lot), ("mask", tInt (0 + (i : Int))), ("best", tInt (if badL lot = [] then max (bst xs i) lot.length else bst xs i)), ("taken", tPairs (tkn (byE xs))), ("stretches", tPairs xs)]) (ex_if (q := decide (badL lot = [])) ?_ (fun h => ?_) (fun h => ?_))
        (ex_turn trivial fun p hp => List.mem_cons_of_mem _ (List.mem_cons_of_mem _ hp))
      · refine te_cmp (T := tInts (badL lot)) ?_ (ev_list0 (T := tInt)) cm_eq_ints
        rw [show badL lot = ((rInts 1 lot.length).filter fun k => decide ((lot.getD k.toNat (0, 0)).1 < (lot.getD (k - 1).toNat (0, 0)).2)).map (fun k => k) by simp [badL]]
        refine ev_comp (U := tInt) (Γc := [("lot", tPairs lot)]) (Γt := fun k => [("k", tInt k), ("lot", tPairs lot)]) (fun k => decide ((lot.getD k.toNat (0, 0)).1 < (lot.getD (k - 1).toNat (0, 0)).2)) (fun k => k) ⟨rfl, rfl, by decide +kernel⟩
          (ev_call_t (ev_bname rfl (by decide +kernel)) (evl_cons ev_int (evl_cons (ev_call_b (ev_bname rfl (by decide +kernel)) (evl_cons (ev_name (by tb_rel)) evl_nil) (fn_len (by omega))) evl_nil)) fn_range2) (itb_range (by omega) (by omega) (by omega) (by omega))
          (cap_cons (by tb_rel) (.inl rfl) (fun L => ⟨.inl rfl, rfl⟩) cap_nil)
          (fun L k hk => tg_name (.inl rfl) (by tb_start)) (fun k p hp => List.mem_cons_of_mem _ hp) (fun L k hk => tel_one ?_) (fun L k hk _ => ev_name (by tb_rel)) (by rw [rInts_length]; omega) (.inl ⟨_, _, rfl⟩)
        obtain ⟨j, rfl, hj⟩ := rInts_mem hk
        have h1 : j + 1 < lot.length := by omega
        have h0 : j < lot.length := by omega
        have e1 : lot[(1 + (j : Int)).toNat]? = some lot[j + 1] := by rw [show (1 + (j : Int)).toNat = j + 1 by omega]; exact List.getElem?_eq_getElem h1
        have e0 : lot[(1 + (j : Int) - 1).toNat]? = some lot[j] := by rw [show (1 + (j : Int) - 1).toNat = j by omega]; exact List.getElem?_eq_getElem h0
        have d1 : lot.getD (1 + (j : Int)).toNat (0, 0) = lot[j + 1] := by rw [List.getD_eq_getElem?_getD, e1]; rfl
        have d0 : lot.getD (1 + (j : Int) - 1).toNat (0, 0) = lot[j] := by rw [List.getD_eq_getElem?_getD, e0]; rfl
        rw [d1, d0]
        exact te_cmp (ev_fst (ev_item (ev_name (by tb_rel)) (ev_name (by tb_rel)) (by omega) (by omega) e1) ev_int) (ev_snd (ev_item (ev_name (by tb_rel)) (ev_sub (ev_name (by tb_rel)) ev_int) (by omega) (by omega) e0) ev_int) cm_lt
      · rw [if_pos (of_decide_eq_true h)]
        exact ex_one (ex_assign (ev_call_b (ev_bname rfl (by decide +kernel)) (evl_cons (ev_name (by tb_rel)) (evl_cons (ev_call_b (ev_bname rfl (by decide +kernel)) (evl_cons (ev_name (by tb_rel)) evl_nil) (fn_len (by omega))) evl_nil)) (fn_max2 rm.h)) (.inl rfl) (by tb_start))
      · rw [if_neg (of_decide_eq_false h)]
        exact ex_nil
  have h2n : (rInts 0 (2 ^ xs.length)).length = 2 ^ xs.length := by
    rw [rInts_length, show ((2 : Int) ^ xs.length) = ((2 ^ xs.length : Nat) : Int) by simp, Int.sub_zero, Int.toNat_natCast]
  rw [h2n]
  exact law_tail1 w H A n L fa cdv name xs gl rm F
end Mine
end

section
open PySem PySem.W PyProof.Rows
set_option Elab.async false
set_option maxRecDepth 100000
set_option linter.unusedVariables false
set_option linter.unusedSimpArgs false
set_option autoImplicit false
namespace Mine

/-! ## the plain law -/
def Ok (p : Int × Int) : Prop := 0 ≤ p.1 ∧ p.1 < p.2 ∧ p.2 ≤ 14
theorem Ok.sm {p : Int × Int} (h : Ok p) : Sm p := by obtain ⟨a, b, c⟩ := h; exact ⟨a, by omega, by omega, by omega⟩
abbrev Ch (l : List (Int × Int)) : Prop := l.Pairwise fun a b => a.2 ≤ b.1

/-! lots -/
def subN {α : Type} : Nat → List α → List α
  | _, [] => []
  | m, x :: xs => if m % 2 = 1 then x :: subN (m / 2) xs else subN (m / 2) xs
theorem subN_sub {α : Type} : ∀ (m : Nat) (xs : List α), (subN m xs).Sublist xs
  | _, [] => .slnil
  | m, x :: xs => by
    unfold subN
    split
    · exact (subN_sub _ xs).cons_cons x
    · exact (subN_sub _ xs).cons x
theorem sub_subN {α : Type} : ∀ {t xs : List α}, t.Sublist xs → ∃ m, m < 2 ^ xs.length ∧ subN m xs = t
  | _, _, .slnil => ⟨0, by simp, rfl⟩
  | _, _, .cons (l₂ := xs) x h => by
    obtain ⟨m, hm, e⟩ := sub_subN h
    refine ⟨2 * m, by rw [List.length_cons, Nat.pow_succ]; omega, ?_⟩
    unfold subN
    rw [if_neg (by omega), show 2 * m / 2 = m by omega]
    exact e
  | _, _, .cons_cons (l₂ := xs) x h => by
    obtain ⟨m, hm, e⟩ := sub_subN h
    refine ⟨2 * m + 1, by rw [List.length_cons, Nat.pow_succ]; omega, ?_⟩
    unfold subN
    rw [if_pos (by omega), show (2 * m + 1) / 2 = m by omega, e]
theorem lotN_sub : ∀ (xs : List (Int × Int)) (m : Nat), ((List.range xs.length).filter fun i => decide (m / 2 ^ i % 2 = 1)).map (fun i => xs.getD i (0, 0)) = subN m xs
  | [], m => by simp [subN]
  | x :: xs, m => by
    rw [List.length_cons, List.range_succ_eq_map, List.filter_cons]
    have ih := lotN_sub xs (m / 2)
    have e : ((List.map Nat.succ (List.range xs.length)).filter fun i => decide (m / 2 ^ i % 2 = 1)).map (fun i => (x :: xs).getD i (0, 0)) = subN (m / 2) xs := by
      rw [List.filter_map, List.map_map, ← ih]
      have h1 : ((fun i => decide (m / 2 ^ i % 2 = 1)) ∘ Nat.succ) = fun i => decide (m / 2 / 2 ^ i % 2 = 1) := by
        funext i
        simp only [Function.comp]
        rw [Nat.div_div_eq_div_mul, Nat.succ_eq_add_one, Nat.pow_succ, Nat.mul_comm (2 ^ i) 2]
      rw [h1]
      apply List.map_congr_left
      intro i _
      simp
    unfold subN
    by_cases h : m % 2 = 1
    · have h0 : decide (m / 2 ^ 0 % 2 = 1) = true := by simpa using h
      rw [if_pos h0, if_pos h, List.map_cons, e]
      rfl
    · have h0 : ¬ decide (m / 2 ^ 0 % 2 = 1) = true := by simpa using h
      rw [if_neg h0, if_neg h, e]
theorem rInts0 (n : Nat) : rInts 0 n = (List.range n).map fun (i : Nat) => (i : Int) := by
  unfold rInts
  rw [show ((n : Int) - 0).toNat = n by omega]
  exact List.map_congr_left fun i _ => by omega
theorem bit_eq (m i : Nat) : (((m : Int).fdiv (2 ^ i)).fmod 2 == 1) = decide (m / 2 ^ i % 2 = 1) := by
  have e : ((2 : Int) ^ i) = ((2 ^ i : Nat) : Int) := by simp
  rw [e, Int.fdiv_eq_ediv_of_nonneg _ (Int.natCast_nonneg _), Int.fmod_eq_emod_of_nonneg _ (by decide), ← Int.natCast_ediv]
  rw [Bool.eq_iff_iff]
  simp only [beq_iff_eq, decide_eq_true_eq]
  omega
theorem lotOf_eq (xs : List (Int × Int)) (m : Nat) : lotOf xs (m : Int) = srtP (subN m xs) := by
  unfold lotOf
  rw [rInts0, List.filter_map, List.map_map, ← lotN_sub]
  have h1 : ((fun k : Int => (((m : Int).fdiv (2 ^ k.toNat)).fmod 2 == 1)) ∘ fun (i : Nat) => (i : Int)) = fun i => decide (m / 2 ^ i % 2 = 1) := by
    funext i
    simp only [Function.comp, Int.toNat_natCast]
    exact bit_eq m i
  rw [h1]
  rfl

/-! lots that lie apart -/
theorem badL_nil {l : List (Int × Int)} : badL l = [] ↔ ∀ j (h : j + 1 < l.length), l[j].2 ≤ l[j + 1].1 := by
  unfold badL
  rw [List.filter_eq_nil_iff]
  constructor
  · intro h j hj
    have hm : (1 + (j : Int)) ∈ rInts 1 l.length := by
      unfold rInts
      exact List.mem_map.mpr ⟨j, List.mem_range.mpr (by omega), rfl⟩
    have := h _ hm
    rw [decide_eq_true_eq, show (1 + (j : Int)).toNat = j + 1 by omega, show (1 + (j : Int) - 1).toNat = j by omega, List.getD_eq_getElem?_getD, List.getD_eq_getElem?_getD, List.getElem?_eq_getElem hj, List.getElem?_eq_getElem (by omega)] at this
    simp only [Option.getD_some] at this
    omega
  · intro h k hk
    obtain ⟨j, rfl, hj⟩ := rInts_mem hk
    have hj1 : j + 1 < l.length := by omega
    have := h j hj1
    rw [decide_eq_true_eq, show (1 + (j : Int)).toNat = j + 1 by omega, show (1 + (j : Int) - 1).toNat = j by omega, List.getD_eq_getElem?_getD, List.getD_eq_getElem?_getD, List.getElem?_eq_getElem hj1, List.getElem?_eq_getElem (by omega)]
    simp only [Option.getD_some]
    omega
theorem badL_ch {l : List (Int × Int)} (ho : ∀ p ∈ l, Ok p) : badL l = [] ↔ Ch l := by
  rw [badL_nil]
  constructor
  · intro h
    refine List.pairwise_iff_getElem.mpr ?_
    intro i j hi hj hij
    obtain ⟨d, rfl⟩ : ∃ d, j = i + 1 + d := ⟨j - (i + 1), by omega⟩
    clear hij
    induction d with
    | zero => exact h i hj
    | succ d ih =>
      have h1 := ih (by omega)
      have h2 := h (i + 1 + d) (by omega)
      have h3 := (ho _ (List.getElem_mem (show i + 1 + d < l.length by omega))).2.1
      have h4 : l[i + 1 + d + 1].1 = l[i + 1 + (d + 1)].1 := rfl
      omega
  · intro h j hj
    exact List.pairwise_iff_getElem.mp h j (j + 1) (by omega) hj (by omega)

/-! the first road: what is taken lies apart -/
theorem tkStep_pos {acc : List (Int × Int)} {p : Int × Int} (h : gtk acc p = true) : tkStep acc p = acc ++ [p] := if_pos h
theorem tkStep_neg {acc : List (Int × Int)} {p : Int × Int} (h : ¬ gtk acc p = true) : tkStep acc p = acc := if_neg h
theorem tk_ch : ∀ (ys acc : List (Int × Int)), (∀ p ∈ ys, Ok p) → (∀ p ∈ acc, Ok p) → Ch acc → Ch (ys.foldl tkStep acc)
  | [], acc, _, _, h => h
  | y :: ys, acc, hy, ha, h => by
    rw [List.foldl_cons]
    have hy0 := hy y List.mem_cons_self
    have hys := fun p hp => hy p (List.mem_cons_of_mem _ hp)
    by_cases hg : gtk acc y = true
    · rw [tkStep_pos hg]
      refine tk_ch ys _ hys (fun p hp => ?_) ?_
      · rcases List.mem_append.mp hp with hp | hp
        · exact ha p hp
        · rw [List.mem_singleton.mp hp]; exact hy0
      · refine List.pairwise_append.mpr ⟨h, by simp, fun a hm b hb => ?_⟩
        rw [List.mem_singleton.mp hb]
        unfold gtk at hg
        cases hl : acc.getLast? with
        | none => rw [List.getLast?_eq_none_iff] at hl; subst hl; cases hm
        | some z =>
          rw [hl] at hg
          have hz : z.2 ≤ y.1 := of_decide_eq_true hg
          have hz2 := List.getLast?_eq_some_iff.mp hl
          obtain ⟨ini, rfl⟩ := hz2
          rcases List.mem_append.mp hm with hm | hm
          · have h1 := (List.pairwise_append.mp h).2.2 a hm z (List.mem_singleton.mpr rfl)
            have h2 := (ha z (List.mem_append_right _ (List.mem_singleton.mpr rfl))).2.1
            omega
          · rw [List.mem_singleton.mp hm]; exact hz
    · rw [tkStep_neg hg]
      exact tk_ch ys acc hys ha h
theorem tk_sub : ∀ (ys acc : List (Int × Int)), ∃ t, ys.foldl tkStep acc = acc ++ t ∧ t.Sublist ys
  | [], acc => ⟨[], by simp, .slnil⟩
  | y :: ys, acc => by
    rw [List.foldl_cons]
    by_cases hg : gtk acc y = true
    · rw [tkStep_pos hg]
      obtain ⟨t, e, s⟩ := tk_sub ys (acc ++ [y])
      exact ⟨y :: t, by rw [e]; simp, s.cons_cons y⟩
    · rw [tkStep_neg hg]
      obtain ⟨t, e, s⟩ := tk_sub ys acc
      exact ⟨t, e, s.cons y⟩
theorem tkn_sub (ys : List (Int × Int)) : (tkn ys).Sublist ys := by
  obtain ⟨t, e, s⟩ := tk_sub ys []
  unfold tkn
  rw [e]; simpa using s

/-- the greedy road counts at least any lot -/
def gr : Int → List (Int × Int) → Nat
  | _, [] => 0
  | e, y :: ys => if e ≤ y.1 then gr y.2 ys + 1 else gr e ys
theorem tk_gr : ∀ (ys acc : List (Int × Int)) (e : Int), (∀ p ∈ ys, Ok p) → (match acc.getLast? with | none => e = 0 | some z => e = z.2) → (ys.foldl tkStep acc).length = acc.length + gr e ys
  | [], acc, e, _, _ => by simp [gr]
  | y :: ys, acc, e, hy, he => by
    rw [List.foldl_cons]
    have hy0 := hy y List.mem_cons_self
    have hys := fun p hp => hy p (List.mem_cons_of_mem _ hp)
    have hg : gtk acc y = decide (e ≤ y.1) := by
      unfold gtk
      cases hl : acc.getLast? with
      | none =>
        rw [hl] at he
        have he : e = 0 := he
        have := hy0.1
        simp; omega
      | some z =>
        rw [hl] at he
        have he : e = z.2 := he
        simp [he]
    unfold gr
    by_cases h : e ≤ y.1
    · rw [tkStep_pos (by rw [hg]; simpa using h), if_pos h, tk_gr ys (acc ++ [y]) y.2 hys (by simp)]
      simp; omega
    · rw [tkStep_neg (by rw [hg]; simpa using h), if_neg h, tk_gr ys acc e hys he]
theorem gr_opt : ∀ {ys c : List (Int × Int)} {e : Int}, ys.Pairwise (fun a b => a.2 ≤ b.2) → c.Sublist ys → Ch c → (∀ p ∈ c, e ≤ p.1) → c.length ≤ gr e ys
  | [], c, e, _, hs, _, _ => by rw [List.sublist_nil.mp hs]; exact Nat.zero_le _
  | y :: ys, c, e, hp, hs, hc, he => by
    obtain ⟨hp1, hp2⟩ := List.pairwise_cons.mp hp
    unfold gr
    cases hs with
    | cons _ hs =>
      by_cases h : e ≤ y.1
      · rw [if_pos h]
        match c, hs, hc, he with
        | [], _, _, _ => exact Nat.zero_le _
        | c0 :: c', hs, hc, he =>
          obtain ⟨hc1, hc2⟩ := List.pairwise_cons.mp hc
          have hm : c0 ∈ ys := hs.subset List.mem_cons_self
          have h0 := hp1 c0 hm
          have := gr_opt (e := y.2) hp2 ((List.sublist_cons_self c0 c').trans hs) hc2 fun p hp => by have := hc1 p hp; omega
          simp only [List.length_cons]; omega
      · rw [if_neg h]
        exact gr_opt hp2 hs hc he
    | cons_cons _ hs =>
      rename_i c'
      obtain ⟨hc1, hc2⟩ := List.pairwise_cons.mp hc
      rw [if_pos (he y List.mem_cons_self)]
      have := gr_opt (e := y.2) hp2 hs hc2 fun p hp => hc1 p hp
      simp only [List.length_cons]; omega

theorem byE_perm (xs : List (Int × Int)) : (byE xs).Perm xs := by
  unfold byE
  have := (srtP_perm (xs.map swp)).map swp
  rw [List.map_map] at this
  rwa [show (swp ∘ swp) = id from rfl, List.map_id] at this
theorem byE_sorted {xs : List (Int × Int)} : (byE xs).Pairwise fun a b => cd (swp a) ≤ cd (swp b) := by
  unfold byE
  rw [List.pairwise_map]
  exact srtP_sorted _
theorem byE_ends {xs : List (Int × Int)} (ho : ∀ p ∈ xs, Ok p) : (byE xs).Pairwise fun a b => a.2 ≤ b.2 := by
  refine List.Pairwise.imp_of_mem (fun {a b} ha hb h => ?_) (byE_sorted (xs := xs))
  obtain ⟨a1, a2, a3⟩ := ho a ((byE_perm xs).mem_iff.mp ha)
  obtain ⟨b1, b2, b3⟩ := ho b ((byE_perm xs).mem_iff.mp hb)
  unfold cd swp at h
  dsimp only at h
  omega
theorem tkn_gr {xs : List (Int × Int)} (ho : ∀ p ∈ xs, Ok p) : (tkn (byE xs)).length = gr 0 (byE xs) := by
  unfold tkn
  rw [tk_gr (byE xs) [] 0 (fun p hp => ho p ((byE_perm xs).mem_iff.mp hp)) rfl]
  simp
theorem tkn_ch {xs : List (Int × Int)} (ho : ∀ p ∈ xs, Ok p) : Ch (tkn (byE xs)) :=
  tk_ch _ [] (fun p hp => ho p ((byE_perm xs).mem_iff.mp hp)) (by simp) .nil
/-- no lot that lies apart is larger -/
theorem opt_ge {xs c t : List (Int × Int)} (ho : ∀ p ∈ xs, Ok p) (hc : Ch c) (hp : t.Perm c) (hs : t.Sublist xs) : c.length ≤ (tkn (byE xs)).length := by
  rw [tkn_gr ho]
  obtain ⟨c', hc', hs'⟩ := List.exists_perm_sublist hs (byE_perm xs).symm
  have hcc : c'.Perm c := hc'.trans hp
  have hok : ∀ p ∈ c, Ok p := fun p hp' => ho p (hs.subset (hp.mem_iff.mpr hp'))
  have hsort : c.Pairwise fun a b => cd (swp a) ≤ cd (swp b) := List.Pairwise.imp_of_mem (fun {a b} ha hb h => by
    obtain ⟨a1, a2, a3⟩ := hok a ha
    obtain ⟨b1, b2, b3⟩ := hok b hb
    unfold cd swp; dsimp only; omega) hc
  have e : c' = c := List.Perm.eq_of_pairwise (le := fun a b => cd (swp a) ≤ cd (swp b)) (fun a b ha hb h1 h2 => by
    have := cd_inj (hok a (hcc.mem_iff.mp ha)).sm.swp (hok b hb).sm.swp (by omega)
    have e1 := congrArg swp this
    exact e1) ((byE_sorted (xs := xs)).sublist hs') hsort hcc
  rw [← e]
  exact gr_opt (byE_ends ho) hs' (e ▸ hc) fun p hp' => (ho p ((byE_perm xs).mem_iff.mp (hs'.subset hp'))).1
theorem srtP_ch {c t : List (Int × Int)} (hok : ∀ p ∈ c, Ok p) (hc : Ch c) (hp : t.Perm c) : srtP t = c := by
  refine (srtP_uniq (fun p hp' => (hok p (hp.mem_iff.mp hp')).sm) hp.symm ?_).symm
  exact List.Pairwise.imp_of_mem (fun {a b} ha hb h => by
    obtain ⟨a1, a2, a3⟩ := hok a ha
    obtain ⟨b1, b2, b3⟩ := hok b hb
    unfold cd; omega) hc

theorem fold_best (xs : List (Int × Int)) : ∀ (ms : List Int) (b : Int), b ≤ ms.foldl (bstStep xs) b ∧ (∀ m ∈ ms, badL (lotOf xs m) = [] → ((lotOf xs m).length : Int) ≤ ms.foldl (bstStep xs) b) ∧
    (ms.foldl (bstStep xs) b = b ∨ ∃ m ∈ ms, badL (lotOf xs m) = [] ∧ ms.foldl (bstStep xs) b = ((lotOf xs m).length : Int))
  | [], b => ⟨Int.le_refl _, by simp, .inl rfl⟩
  | m :: ms, b => by
    rw [List.foldl_cons]
    obtain ⟨h1, h2, h3⟩ := fold_best xs ms (bstStep xs b m)
    have hb : b ≤ bstStep xs b m := by unfold bstStep; split <;> omega
    refine ⟨by omega, fun m' hm' hb' => ?_, ?_⟩
    · rcases List.mem_cons.mp hm' with rfl | hm'
      · have : ((lotOf xs m').length : Int) ≤ bstStep xs b m' := by unfold bstStep; rw [if_pos hb']; omega
        omega
      · exact h2 m' hm' hb'
    · rcases h3 with h3 | ⟨m', hm', hb', e⟩
      · rw [h3]
        unfold bstStep
        by_cases hb' : badL (lotOf xs m) = []
        · rw [if_pos hb']
          rcases Int.le_total b (lotOf xs m).length with h | h
          · rw [Int.max_eq_right h]; exact .inr ⟨m, List.mem_cons_self, hb', rfl⟩
          · rw [Int.max_eq_left h]; exact .inl rfl
        · rw [if_neg hb']; exact .inl rfl
      · exact .inr ⟨m', List.mem_cons_of_mem _ hm', hb', e⟩

theorem best_eq {xs : List (Int × Int)} (ho : ∀ p ∈ xs, Ok p) : ((tkn (byE xs)).length : Int) = bst xs (2 ^ xs.length) := by
  unfold bst
  have e2 : ((2 : Int) ^ xs.length) = ((2 ^ xs.length : Nat) : Int) := by simp
  have hms : (rInts 0 (2 ^ xs.length)).take (2 ^ xs.length) = (List.range (2 ^ xs.length)).map fun (i : Nat) => (i : Int) := by
    rw [e2, rInts0, List.take_of_length_le (by simp)]
  rw [hms]
  obtain ⟨h1, h2, h3⟩ := fold_best xs ((List.range (2 ^ xs.length)).map fun (i : Nat) => (i : Int)) 0
  have hok : ∀ p ∈ tkn (byE xs), Ok p := fun p hp => ho p ((byE_perm xs).mem_iff.mp ((tkn_sub _).subset hp))
  have hle : ((tkn (byE xs)).length : Int) ≤ ((List.range (2 ^ xs.length)).map fun (i : Nat) => (i : Int)).foldl (bstStep xs) 0 := by
    obtain ⟨t, ht, hs⟩ := List.exists_perm_sublist (tkn_sub (byE xs)) (byE_perm xs)
    obtain ⟨m, hm, e⟩ := sub_subN hs
    have hl : lotOf xs (m : Int) = tkn (byE xs) := by rw [lotOf_eq, e]; exact srtP_ch hok (tkn_ch ho) ht
    have := h2 m (List.mem_map.mpr ⟨m, List.mem_range.mpr hm, rfl⟩) (by rw [hl]; exact (badL_ch hok).mpr (tkn_ch ho))
    rwa [hl] at this
  have hge : ((List.range (2 ^ xs.length)).map fun (i : Nat) => (i : Int)).foldl (bstStep xs) 0 ≤ ((tkn (byE xs)).length : Int) := by
    rcases h3 with h3 | ⟨m, hm, hb, e⟩
    · rw [h3]; omega
    · rw [e]
      obtain ⟨i, hi, rfl⟩ := List.mem_map.mp hm
      rw [lotOf_eq] at hb ⊢
      have hsub := subN_sub i xs
      have hok' : ∀ p ∈ srtP (subN i xs), Ok p := fun p hp => ho p (hsub.subset ((srtP_perm _).mem_iff.mp hp))
      have := opt_ge ho ((badL_ch hok').mp hb) (srtP_perm _).symm hsub
      omega
  omega
end Mine
end

section
open PySem PySem.W PyProof.Rows
set_option Elab.async false
set_option maxRecDepth 100000
set_option linter.unusedVariables false
set_option linter.unusedSimpArgs false
set_option autoImplicit false
namespace Mine

/-! points -/
theorem tk_keep : ∀ (ys acc : List (Int × Int)) (z : Int × Int), z ∈ acc → z ∈ ys.foldl tkStep acc := fun ys acc z h => by
  obtain ⟨t, e, _⟩ := tk_sub ys acc
  rw [e]; exact List.mem_append_left _ h
theorem tk_hit : ∀ (ys acc : List (Int × Int)), (∀ p ∈ ys, Ok p) → ys.Pairwise (fun a b => a.2 ≤ b.2) → (∀ a ∈ acc, ∀ y ∈ ys, a.2 ≤ y.2) → ∀ p ∈ ys, ∃ z ∈ ys.foldl tkStep acc, p.1 < z.2 ∧ z.2 ≤ p.2
  | y :: ys, acc, ho, hp, ha, p, hm => by
    obtain ⟨hp1, hp2⟩ := List.pairwise_cons.mp hp
    rw [List.foldl_cons]
    have hoy := ho y List.mem_cons_self
    by_cases hg : gtk acc y = true
    · rw [tkStep_pos hg]
      rcases List.mem_cons.mp hm with rfl | hm
      · exact ⟨p, tk_keep _ _ _ (List.mem_append_right _ (List.mem_singleton.mpr rfl)), hoy.2.1, Int.le_refl _⟩
      · refine tk_hit ys _ (fun q hq => ho q (List.mem_cons_of_mem _ hq)) hp2 (fun a h y' hy' => ?_) p hm
        rcases List.mem_append.mp h with h | h
        · exact ha a h y' (List.mem_cons_of_mem _ hy')
        · rw [List.mem_singleton.mp h]; exact hp1 y' hy'
    · rw [tkStep_neg hg]
      rcases List.mem_cons.mp hm with rfl | hm
      · unfold gtk at hg
        cases hl : acc.getLast? with
        | none => rw [hl] at hg; exact absurd rfl hg
        | some z =>
          rw [hl] at hg
          have hz : ¬ z.2 ≤ p.1 := fun h => hg (decide_eq_true h)
          have hz2 : z ∈ acc := List.mem_of_getLast? hl
          exact ⟨z, tk_keep _ _ _ hz2, by omega, ha z hz2 p List.mem_cons_self⟩
      · exact tk_hit ys acc (fun q hq => ho q (List.mem_cons_of_mem _ hq)) hp2 (fun a h y' hy' => ha a h y' (List.mem_cons_of_mem _ hy')) p hm
theorem hit_nil {xs : List (Int × Int)} (ho : ∀ p ∈ xs, Ok p) : missL xs (ptsOf (tkn (byE xs))) = [] := by
  unfold missL
  rw [List.map_eq_nil_iff, List.filter_eq_nil_iff]
  intro p hp
  rw [decide_eq_true_eq, List.filter_eq_nil_iff]
  intro h
  obtain ⟨z, hz, h1, h2⟩ := tk_hit (byE xs) [] (fun p hp => ho p ((byE_perm xs).mem_iff.mp hp)) (byE_ends ho) (fun a h => by cases h) p ((byE_perm xs).mem_iff.mpr hp)
  have := h (z.2 - 1) (List.mem_map.mpr ⟨z, hz, rfl⟩)
  simp only [Bool.and_eq_true, decide_eq_true_eq] at this
  omega

/-! how many over a place -/
def dep (xs : List (Int × Int)) (pl : Int) : Nat := xs.countP fun p => decide (p.1 ≤ pl) && decide (pl < p.2)
theorem cnt_eq (xs : List (Int × Int)) : cnt xs = (rInts 0 15).map fun pl => (dep xs pl : Int) := by
  unfold cnt dep
  refine List.map_congr_left fun pl _ => ?_
  rw [List.length_map, List.countP_eq_length_filter]
theorem dep_split {pl : Int} : ∀ {xs : List (Int × Int)}, (∀ p ∈ xs, Ok p) → (xs.countP fun p => decide (p.1 ≤ pl)) = dep xs pl + xs.countP fun p => decide (p.2 ≤ pl)
  | [], _ => rfl
  | x :: xs, ho => by
    have ih := dep_split (pl := pl) (xs := xs) fun p hp => ho p (List.mem_cons_of_mem _ hp)
    have h0 := (ho x List.mem_cons_self).2.1
    unfold dep at ih ⊢
    rw [List.countP_cons, List.countP_cons, List.countP_cons, ih]
    by_cases h1 : x.1 ≤ pl
    · by_cases h2 : x.2 ≤ pl
      · have h3 : ¬ pl < x.2 := by omega
        simp [h1, h2, h3]; omega
      · have h3 : pl < x.2 := by omega
        simp [h1, h2, h3]; omega
    · have h2 : ¬ x.2 ≤ pl := by omega
      simp [h1, h2]
theorem over_eq {xs : List (Int × Int)} (ho : ∀ p ∈ xs, Ok p) : ovr xs = cnt xs := by
  rw [cnt_eq]
  unfold ovr brR
  refine List.map_congr_left fun pl _ => ?_
  rw [(srtI_perm _).countP_eq, (srtI_perm _).countP_eq, List.countP_map, List.countP_map]
  have := dep_split (pl := pl) ho
  have e1 : ((fun y : Int => decide (y ≤ pl)) ∘ fun x : Int × Int => x.1) = fun p => decide (p.1 ≤ pl) := rfl
  have e2 : ((fun y : Int => decide (y ≤ pl)) ∘ fun x : Int × Int => x.2) = fun p => decide (p.2 ≤ pl) := rfl
  rw [e1, e2, this]
  omega

/-! rows -/
theorem fre_nil {rs : List Int} {b : Int} : fre rs b = [] → ∀ r ∈ rs, b < r := fun h r hr => by
  unfold fre at h
  rw [List.filter_eq_nil_iff] at h
  obtain ⟨i, hi, e⟩ := List.mem_iff_getElem.mp hr
  have := h (i : Int) (by rw [rInts0]; exact List.mem_map.mpr ⟨i, List.mem_range.mpr hi, rfl⟩)
  rw [decide_eq_true_eq, Int.toNat_natCast, List.getD_eq_getElem?_getD, List.getElem?_eq_getElem hi, Option.getD_some, e] at this
  omega
theorem fre_cons {rs t : List Int} {b h : Int} (e : fre rs b = h :: t) : ∃ j : Nat, h = (j : Int) ∧ ∃ hj : j < rs.length, rs[j] ≤ b := by
  have hm : h ∈ fre rs b := by rw [e]; exact List.mem_cons_self
  unfold fre at hm
  obtain ⟨h1, h2⟩ := List.mem_filter.mp hm
  obtain ⟨j, rfl, hj⟩ := rInts_mem h1
  have hjl : j < rs.length := by omega
  refine ⟨j, by omega, hjl, ?_⟩
  rw [decide_eq_true_eq, show (0 + (j : Int)).toNat = j by omega, List.getD_eq_getElem?_getD, List.getElem?_eq_getElem hjl, Option.getD_some] at h2
  exact h2
/-- one turn: either a new row, or one that is free -/
theorem rwStep_cases (rs : List Int) (p : Int × Int) : (rwStep rs p = rs ++ [p.2] ∧ ∀ r ∈ rs, p.1 < r) ∨ ∃ (a c : List Int) (r : Int), rs = a ++ r :: c ∧ r ≤ p.1 ∧ rwStep rs p = a ++ p.2 :: c := by
  unfold rwStep
  cases e : fre rs p.1 with
  | nil => exact .inl ⟨rfl, fre_nil e⟩
  | cons h t =>
    obtain ⟨j, rfl, hj, hr⟩ := fre_cons e
    refine .inr ⟨rs.take j, rs.drop (j + 1), rs[j], ?_, hr, ?_⟩
    · rw [← List.drop_eq_getElem_cons hj, List.take_append_drop]
    · simp
/-- what the rows are, whatever was laid -/
structure Rw (pre : List (Int × Int)) (rs : List Int) : Prop where
  ends : ∀ pl, (∀ a ∈ pre, a.1 ≤ pl) → (pre.countP fun a => decide (pl < a.2)) = rs.countP fun r => decide (pl < r)
  low : ∀ pl, dep pre pl ≤ rs.length
theorem Rw.step {pre : List (Int × Int)} {rs : List Int} {p : Int × Int} (R : Rw pre rs) (hp : ∀ a ∈ pre, a.1 ≤ p.1) : Rw (pre ++ [p]) (rwStep rs p) := by
  have hends : ∀ pl, (∀ a ∈ pre ++ [p], a.1 ≤ pl) → ((pre ++ [p]).countP fun a => decide (pl < a.2)) = (rwStep rs p).countP fun r => decide (pl < r) := fun pl h => by
    have hp1 := h p (List.mem_append_right _ (List.mem_singleton.mpr rfl))
    have ih := R.ends pl fun a ha => h a (List.mem_append_left _ ha)
    rw [List.countP_append, ih]
    rcases rwStep_cases rs p with ⟨e, _⟩ | ⟨a, c, r, e1, hr, e2⟩
    · rw [e, List.countP_append]
      simp [List.countP_cons]
    · rw [e2, e1, List.countP_append, List.countP_append, List.countP_cons, List.countP_cons]
      have : ¬ pl < r := by omega
      simp [this, List.countP_cons]; omega
  have hlen : rs.length ≤ (rwStep rs p).length := by
    rcases rwStep_cases rs p with ⟨e, _⟩ | ⟨a, c, r, e1, hr, e2⟩
    · rw [e]; simp
    · rw [e2, e1]; simp
  refine ⟨hends, fun pl => ?_⟩
  by_cases h : p.1 ≤ pl
  · have hall : ∀ a ∈ pre ++ [p], a.1 ≤ pl := fun a ha => by
      rcases List.mem_append.mp ha with ha | ha
      · have := hp a ha; omega
      · rw [List.mem_singleton.mp ha]; exact h
    have h1 : dep (pre ++ [p]) pl ≤ (pre ++ [p]).countP fun a => decide (pl < a.2) := List.countP_mono_left fun a _ h => by
      simp only [Bool.and_eq_true] at h; exact h.2
    rw [hends pl hall] at h1
    exact Nat.le_trans h1 List.countP_le_length
  · have h1 : dep (pre ++ [p]) pl = dep pre pl := by
      unfold dep
      rw [List.countP_append]
      simp [List.countP_cons, h]
    rw [h1]
    exact Nat.le_trans (R.low pl) hlen
theorem Rw.new {pre : List (Int × Int)} {rs : List Int} {p : Int × Int} (R : Rw pre rs) (hp : ∀ a ∈ pre, a.1 ≤ p.1) (hok : p.1 < p.2) : (rwStep rs p).length ≤ rs.length ∨ (rwStep rs p).length = dep (pre ++ [p]) p.1 := by
  rcases rwStep_cases rs p with ⟨e, hr⟩ | ⟨a, c, r, e1, hr, e2⟩
  · refine .inr ?_
    have h1 : (rs.countP fun r => decide (p.1 < r)) = rs.length := List.countP_eq_length.mpr fun r h => by simpa using hr r h
    have h2 := R.ends p.1 hp
    have h3 : dep pre p.1 = pre.countP fun a => decide (p.1 < a.2) := by
      unfold dep
      refine List.countP_congr fun a ha => ?_
      simp [hp a ha]
    have h4 : dep (pre ++ [p]) p.1 = dep pre p.1 + 1 := by
      unfold dep
      rw [List.countP_append]
      simp [List.countP_cons, hok]
    rw [e, h4, h3, h2, h1]; simp
  · refine .inl ?_
    rw [e2, e1]; simp
theorem rws_all {D : Nat} : ∀ (k : Nat) (ys : List (Int × Int)), ys.Pairwise (fun a b => a.1 ≤ b.1) → (∀ p ∈ ys, p.1 < p.2) → (∀ p ∈ ys, dep ys p.1 ≤ D) → k ≤ ys.length → Rw (ys.take k) (rws (ys.take k)) ∧ (rws (ys.take k)).length ≤ D
  | 0, ys, _, _, _, _ => ⟨⟨fun pl _ => by simp [rws], fun pl => by simp [dep, rws]⟩, by simp [rws]⟩
  | k + 1, ys, hs, ho, hD, hk => by
    obtain ⟨R, hl⟩ := rws_all k ys hs ho hD (by omega)
    have hx : ys[k]? = some ys[k] := List.getElem?_eq_getElem (by omega)
    have e : rws (ys.take (k + 1)) = rwStep (rws (ys.take k)) ys[k] := foldl_take_succ _ _ _ _ _ hx
    have et : ys.take (k + 1) = ys.take k ++ [ys[k]] := by rw [List.take_add_one, hx]; rfl
    have hp : ∀ a ∈ ys.take k, a.1 ≤ ys[k].1 := fun a ha => by
      obtain ⟨i, hi, rfl⟩ := List.mem_iff_getElem.mp ha
      rw [List.length_take] at hi
      rw [List.getElem_take]
      exact List.pairwise_iff_getElem.mp hs i k (by omega) (by omega) (by omega)
    have hm : ys[k] ∈ ys := List.getElem_mem _
    rw [e, et]
    refine ⟨R.step hp, ?_⟩
    rcases R.new hp (ho _ hm) with h | h
    · omega
    · rw [h, ← et]
      have h1 : dep (ys.take (k + 1)) ys[k].1 ≤ dep ys ys[k].1 := List.Sublist.countP_le (List.take_sublist _ _)
      have h2 := hD _ hm
      omega

theorem place_mem {pl : Int} (h0 : 0 ≤ pl) (h1 : pl < 15) : pl ∈ rInts 0 15 := by
  unfold rInts
  refine List.mem_map.mpr ⟨pl.toNat, List.mem_range.mpr ?_, by omega⟩
  show pl.toNat < (15 - 0 : Int).toNat
  omega
theorem srtP_begins {xs : List (Int × Int)} (ho : ∀ p ∈ xs, Ok p) : (srtP xs).Pairwise fun a b => a.1 ≤ b.1 := by
  refine List.Pairwise.imp_of_mem (fun {a b} ha hb h => ?_) (srtP_sorted xs)
  obtain ⟨a1, a2, a3⟩ := ho a ((srtP_perm xs).mem_iff.mp ha)
  obtain ⟨b1, b2, b3⟩ := ho b ((srtP_perm xs).mem_iff.mp hb)
  unfold cd at h
  omega
theorem dep_perm {xs ys : List (Int × Int)} (h : xs.Perm ys) (pl : Int) : dep xs pl = dep ys pl := h.countP_eq _
theorem mx_cnt_ne (xs : List (Int × Int)) : cnt xs ≠ [] := by
  intro h
  have : (cnt xs).length = 15 := by unfold cnt; rw [List.length_map, rInts_length]; rfl
  rw [h] at this; simp at this
theorem mx_at (xs : List (Int × Int)) : ∃ pl, 0 ≤ pl ∧ pl < 15 ∧ mxI (cnt xs) = dep xs pl := by
  have := mxI_mem (mx_cnt_ne xs)
  generalize mxI (cnt xs) = m at this
  rw [cnt_eq] at this
  obtain ⟨pl, hpl, e⟩ := List.mem_map.mp this
  obtain ⟨j, rfl, hj⟩ := rInts_mem hpl
  have : (15 - 0 : Int).toNat = 15 := rfl
  exact ⟨_, by omega, by omega, e.symm⟩
theorem mx_ge {xs : List (Int × Int)} {pl : Int} (h0 : 0 ≤ pl) (h1 : pl < 15) : (dep xs pl : Int) ≤ mxI (cnt xs) := by
  refine le_mxI ?_
  rw [cnt_eq]
  exact List.mem_map.mpr ⟨pl, place_mem h0 h1, rfl⟩
theorem rows_eq {xs : List (Int × Int)} (ho : ∀ p ∈ xs, Ok p) : ((rws (srtP xs)).length : Int) = mxI (ovr xs) := by
  rw [over_eq ho]
  have ho' : ∀ p ∈ srtP xs, Ok p := fun p hp => ho p ((srtP_perm xs).mem_iff.mp hp)
  have hnn : 0 ≤ mxI (cnt xs) := by obtain ⟨pl, _, _, e⟩ := mx_at xs; omega
  obtain ⟨R, hl⟩ := rws_all (D := (mxI (cnt xs)).toNat) (srtP xs).length (srtP xs) (srtP_begins ho) (fun p hp => (ho' p hp).2.1) (fun p hp => by
    obtain ⟨p1, p2, p3⟩ := ho' p hp
    have := mx_ge (xs := xs) (pl := p.1) p1 (by omega)
    rw [dep_perm (srtP_perm xs)]
    omega) (Nat.le_refl _)
  rw [List.take_length] at R hl
  obtain ⟨pl, h0, h1, e⟩ := mx_at xs
  have := R.low pl
  rw [dep_perm (srtP_perm xs)] at this
  omega

/-! one more -/
theorem moreT {xs : List (Int × Int)} {x : Int × Int} (ho : ∀ p ∈ xs, Ok p) (hx : Ok x) : (tkn (byE xs)).length ≤ (tkn (byE (xs ++ [x]))).length ∧ (tkn (byE (xs ++ [x]))).length ≤ (tkn (byE xs)).length + 1 := by
  have ho' : ∀ p ∈ xs ++ [x], Ok p := fun p hp => by
    rcases List.mem_append.mp hp with hp | hp
    · exact ho p hp
    · rw [List.mem_singleton.mp hp]; exact hx
  constructor
  · obtain ⟨t, ht, hs⟩ := List.exists_perm_sublist (tkn_sub (byE xs)) (byE_perm xs)
    exact opt_ge ho' (tkn_ch ho) ht (hs.trans (List.sublist_append_left _ _))
  · obtain ⟨t, ht, hs⟩ := List.exists_perm_sublist (tkn_sub (byE (xs ++ [x]))) (byE_perm (xs ++ [x]))
    obtain ⟨u, v, rfl, hu, hv⟩ := List.sublist_append_iff.mp hs
    obtain ⟨c, hc, hcs⟩ := List.exists_perm_sublist (List.sublist_append_left u v) ht
    have := opt_ge ho ((tkn_ch ho').sublist hcs) hc.symm hu
    have hv1 : v.length ≤ 1 := hv.length_le
    have h1 := ht.length_eq
    rw [List.length_append] at h1
    have h2 := hc.length_eq
    omega
theorem dep_snoc (xs : List (Int × Int)) (x : Int × Int) (pl : Int) : dep xs pl ≤ dep (xs ++ [x]) pl ∧ dep (xs ++ [x]) pl ≤ dep xs pl + 1 := by
  unfold dep
  rw [List.countP_append]
  have : [x].countP (fun p => decide (p.1 ≤ pl) && decide (pl < p.2)) ≤ 1 := List.countP_le_length
  omega
theorem moreR {xs : List (Int × Int)} {x : Int × Int} (ho : ∀ p ∈ xs, Ok p) (hx : Ok x) : mxI (ovr xs) ≤ ((rws (srtP (xs ++ [x]))).length : Int) ∧ ((rws (srtP (xs ++ [x]))).length : Int) ≤ mxI (ovr xs) + 1 := by
  have ho' : ∀ p ∈ xs ++ [x], Ok p := fun p hp => by
    rcases List.mem_append.mp hp with hp | hp
    · exact ho p hp
    · rw [List.mem_singleton.mp hp]; exact hx
  rw [rows_eq ho', over_eq ho, over_eq ho']
  obtain ⟨a, a0, a1, ea⟩ := mx_at xs
  obtain ⟨b, b0, b1, eb⟩ := mx_at (xs ++ [x])
  have h1 := mx_ge (xs := xs ++ [x]) a0 a1
  have h2 := mx_ge (xs := xs) b0 b1
  have h3 := dep_snoc xs x a
  have h4 := dep_snoc xs x b
  omega

theorem stre_ok (m : Int) : Ok (stre m) := by
  unfold stre Ok
  have h1 := Int.fmod_nonneg_of_pos m (b := 10) (by decide)
  have h2 := Int.fmod_lt_of_pos m (b := 10) (by decide)
  have h3 := Int.fmod_nonneg_of_pos (m.fdiv 10) (b := 5) (by decide)
  have h4 := Int.fmod_lt_of_pos (m.fdiv 10) (b := 5) (by decide)
  dsimp only
  omega
theorem facts (ns : List Int) : Facts ((ns.take 8).map stre) := by
  have ho : ∀ p ∈ (ns.take 8).map stre, Ok p := fun p hp => by obtain ⟨m, _, rfl⟩ := List.mem_map.mp hp; exact stre_ok m
  have hl : ((ns.take 8).map stre).length ≤ 8 := by rw [List.length_map, List.length_take]; omega
  generalize (ns.take 8).map stre = xs at ho hl
  have h36 : Ok (3, 6) := ⟨by decide, by decide, by decide⟩
  have hT := moreT ho h36
  have hR := moreR ho h36
  have hb := best_eq ho
  exact { len := hl, sm := fun p hp => (ho p hp).sm, best := hb, apart := (badL_ch fun p hp => ho p ((byE_perm xs).mem_iff.mp ((tkn_sub _).subset hp))).mpr (tkn_ch ho), hit := hit_nil ho, over := over_eq ho, rows := rows_eq ho,
          moreT := by omega, moreR := by omega }
end Mine
end

section
open PySem PySem.W PyProof.Rows
set_option Elab.async false
set_option maxRecDepth 100000
set_option linter.unusedVariables false
set_option linter.unusedSimpArgs false
set_option pp.maxSteps 3000
set_option pp.proofs false
namespace Mine
set_option autoImplicit false in
theorem law_enter {w : World} {s : Shared} {fa : Addr} {o : Obj} {pm cdv doc : Value} {name : Str} {params : Arguments} {l : Addr} {vs : List Value} {ns : List Int}
    (ho : s.heap.get? fa = some o) (hdat : o.data = .func { Calls.docDef name params lawParts.1 lawParts.2 pm cdv doc with defaults := .none, kwdefaults := .none }) (hcd : s.heap.CodeRec cdv name) (gl : Gl w s.heap) (hl : s.heap.IsList l vs.toArray) (hI : IntsAre vs ns) (hz : ns.length ≤ 63)
    (hbind : BindsTo s { Calls.docDef name params lawParts.1 lawParts.2 pm cdv doc with defaults := .none, kwdefaults := .none } ⟨[.ref l], []⟩ [("script", .ref l)]) :
    codeAny (Mo w) callerA (.call (.ref fa) ⟨[.ref l], []⟩) (fun r s' => r = .ok (.ret (.bool true)) ∧ Keeps s s') s := by
  have rm : Rm callerA 6 := ⟨rfl, by decide, by decide⟩
  have W : Ws s.heap s.heap.get? s := ⟨fun _ _ e => e, fun _ _ e => e⟩
  obtain ⟨oo, ho', hc, n, hdd⟩ := hl
  refine code_enterH (n := 5) (ps := [("script", tListW tInt ns)]) ho hdat rfl rfl rfl rfl hcd gl rm W hbind ⟨⟨rfl, l, oo, _, n, rfl, ho', hc, hdd, by simpa using al2_of_ints hI⟩, trivial⟩ (apart_of rfl) (kinds_of rfl) (fun L s₁ hL G S hfr => ?_) rfl rfl rfl
  refine wpAny_mono (law_body w s.heap (callerA.deeper _) 0 L fa cdv name ns gl (rm.deeper _) hz (facts ns) s.heap.get? s₁ _ S) (fun f s' ⟨B', m, v, e, hs, t⟩ => ?_) fun _ _ e => e
  subst e
  cases t
  exact ⟨rfl, (Mv.grow G m hfr hs).keeps⟩
end Mine
end

open PySem PySem.W PyProof.Rows
set_option maxRecDepth 100000 in
set_option maxHeartbeats 8000000 in
theorem PySem.Challenge.cw_ge0003_01_holds : PySem.Challenge.rw_ge0003_01.Holds := by
  refine Mine.hd ?_
  k_fill
  intro w s₀ s₁ mg mb G Y fa o pm cd doc dV kV ho hd hcd hD hmg hg args vals as hpre hlay hrd hwl hlo
  have KX := kIn_of Y
  refine Ground.open G ?_
  intro T B D TE TW
  have he := Dflts.none hD rfl
  subst he
  have he := Dflts.noKw hD
  subst he
  wrow_args hpre hlay hrd hwl hlo
  rename_i ns hs hlay0 hL1 hr1 hl2 w4 w3 l vs w0 hL ra w1 r0 hI hr hcond0 hcond
  have gl : Mine.Gl w s₁.heap := ⟨KX, _, _, _, _, topRead_of T⟩
  have hn63 : ns.length ≤ 63 := by omega
  refine wpAny_call (codeAny_mono (Mine.law_enter ho hd hcd gl hL hI hn63 (BindsTo.of_eq rfl)) fun r s' g => ?_)
  obtain ⟨e, k⟩ := g
  subst e
  refine GoodW.toG ⟨.inl ⟨.bool true, .bool true, [], rfl, ?_, .bool true, ?_, unshared_nil⟩, ?_, ?_, ?_⟩
  · intro cls; rfl
  · exact postW_of (by wrow_shape) (by wtm_val) (by first | rfl | w_fin)
  · obtain ⟨h, tk, e, kk⟩ := k
    subst e
    exact kk
  · obtain ⟨h, tk, e, kk⟩ := k
    subst e
    rfl
  · obtain ⟨h, tk, e, kk⟩ := k
    subst e
    exact hg
