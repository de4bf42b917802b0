import PyProof.Rows.All
import Wide.All
import OpenK.AllK
import Wide.FinOn
import KE.KEqDict
import KE.KSortKey
import PySem.Challenge.RW_xp0033_01
open PySem PySem.W PyProof.Rows
set_option Elab.async false
set_option linter.all false
namespace Mine
set_option maxRecDepth 100000 in
set_option maxHeartbeats 8000000 in
open_top hd for PySem.Challenge.rw_xp0033_01
end Mine
/-! Fw -/
section
open PySem PySem.W PyProof.Rows PySem.Calls
set_option maxRecDepth 100000
set_option linter.all false
namespace Mine

abbrev View := Addr → Obj → Prop
def vw (p : Addr → Prop) (h : Heap) : View := fun b o => ¬ p b ∧ h.get? b = some o
def Sub (g g' : View) : Prop := ∀ b o, g b o → g' b o
theorem Sub.refl (g : View) : Sub g g := fun _ _ h => h
theorem Sub.trans {a b c : View} (x : Sub a b) (y : Sub b c) : Sub a c := fun d o h => y d o (x d o h)
abbrev Hs (h h' : Heap) : Prop := ∀ b o, h.get? b = some o → h'.get? b = some o
theorem sub_vw {p : Addr → Prop} {h h' : Heap} (k : Hs h h') : Sub (vw p h) (vw p h') := fun b o x => ⟨x.1, k b o x.2⟩

structure T where
  P : View → Value → Prop
  mono : ∀ {g g' v}, Sub g g' → P g v → P g' v

def Fa (g : View) : List T → List Value → Prop
  | [], [] => True
  | t :: ts, v :: vs => t.P g v ∧ Fa g ts vs
  | _, _ => False
theorem Fa.mono {g g' : View} (k : Sub g g') : ∀ {ts : List T} {vs : List Value}, Fa g ts vs → Fa g' ts vs
  | [], [], _ => trivial
  | _ :: _, _ :: _, h => ⟨T.mono _ k h.1, Fa.mono k h.2⟩
  | [], _ :: _, h => h.elim
  | _ :: _, [], h => h.elim
theorem Fa.length {g : View} : ∀ {ts : List T} {vs : List Value}, Fa g ts vs → vs.length = ts.length
  | [], [], _ => rfl
  | _ :: _, _ :: _, h => by simp [Fa.length h.2]
  | [], _ :: _, h => h.elim
  | _ :: _, [], h => h.elim
theorem Fa.get {g : View} : ∀ {ts : List T} {vs : List Value} {i : Nat} {t : T}, Fa g ts vs → ts[i]? = some t → ∃ v, vs[i]? = some v ∧ t.P g v
  | [], _, _, _, _, e => by simp at e
  | _ :: _, [], _, _, h, _ => h.elim
  | t :: ts, v :: vs, 0, _, h, e => by simp at e; subst e; exact ⟨v, rfl, h.1⟩
  | t :: ts, v :: vs, i + 1, _, h, e => by
    obtain ⟨v', e', hp⟩ := Fa.get h.2 (i := i) (by simpa using e)
    exact ⟨v', by simpa using e', hp⟩
theorem Fa.append {g : View} : ∀ {ts ts' : List T} {vs vs' : List Value}, Fa g ts vs → Fa g ts' vs' → Fa g (ts ++ ts') (vs ++ vs')
  | [], _, [], _, _, h' => h'
  | _ :: _, _, _ :: _, _, h, h' => ⟨h.1, Fa.append h.2 h'⟩
  | [], _, _ :: _, _, h, _ => h.elim
  | _ :: _, _, [], _, h, _ => h.elim

def I (i : Int) : T := ⟨fun _ v => ∃ t, v = .int i t, fun _ h => h⟩
def S (x : Str) : T := ⟨fun _ v => ∃ t, v = .str x t, fun _ h => h⟩
def B (b : Bool) : T := ⟨fun _ v => v = .bool b, fun _ h => h⟩
def NO : T := ⟨fun _ v => v = .none, fun _ h => h⟩
def V (x : Value) : T := ⟨fun _ v => v = x, fun _ h => h⟩
def AnyT : T := ⟨fun _ _ => True, fun _ h => h⟩
abbrev lst (vs : List Value) (n : Nat) : Obj := { cls := .type "list", data := .seq vs.toArray n }
abbrev tpl (vs : List Value) (n : Nat) : Obj := { cls := .type "tuple", data := .seq vs.toArray n }
def LL (ts : List T) : T := ⟨fun g v => ∃ a vs n, v = .ref a ∧ g a (lst vs n) ∧ Fa g ts vs, fun k ⟨a, vs, n, h1, h2, h3⟩ => ⟨a, vs, n, h1, k _ _ h2, h3.mono k⟩⟩
def TU (ts : List T) : T := ⟨fun g v => ∃ a vs n, v = .ref a ∧ g a (tpl vs n) ∧ Fa g ts vs, fun k ⟨a, vs, n, h1, h2, h3⟩ => ⟨a, vs, n, h1, k _ _ h2, h3.mono k⟩⟩

structure AOk (n : Nat) (A : Around) : Prop where
  h : A.handled = none
  d : A.depth + n ≤ 900
  u : A.units + 10 * n ≤ 9000
theorem AOk.le {n k : Nat} {A : Around} (x : AOk n A) (h : k ≤ n) : AOk k A := ⟨x.h, by have := x.d; omega, by have := x.u; omega⟩
theorem AOk.deeper {n : Nat} {A : Around} (x : AOk (n + 1) A) (env : Env) : AOk n (A.deeper env) :=
  ⟨x.h, by have := x.d; simp only [Around.deeper]; omega, by have := x.u; simp only [Around.deeper]; omega⟩
theorem AOk.in1 {n : Nat} {A : Around} (x : AOk (n + 1) A) : AOk n A.in1 := ⟨x.h, by have := x.d; simp only [Around.in1_depth]; omega, by have := x.u; simp only [Around.in1_units]; omega⟩
theorem AOk.room {n : Nat} {A : Around} (x : AOk n A) : A.depth < recursionLimit := by have := x.d; unfold recursionLimit; omega
theorem AOk.units {n : Nat} {A : Around} (x : AOk n A) : A.units + 64 < cLine := by have := x.u; unfold cLine; omega

structure Cx where
  prog : Program
  w : World
  K : Frag
  mg : Str → Option Value
  mb : Str → Option Value
  top : Heap
structure GOk (C : Cx) (h : Heap) : Prop where
  k0 : C.K.In C.top
  g0 : C.top.Ns mainGlobals C.mg
  b0 : C.top.Ns builtinsNs C.mb
  bb : ∀ x : Str, x ≠ "__name__" → C.mb x = bootBuiltins x
  n0 : C.top.NoLimit
  sub : Hs C.top h
theorem GOk.keeps {C : Cx} {h h' : Heap} (x : GOk C h) (k : Hs h h') : GOk C h' := { x with sub := fun b o e => k b o (x.sub b o e) }
theorem GOk.k {C : Cx} {h : Heap} (x : GOk C h) : C.K.In h := x.k0.keeps x.sub
theorem GOk.g {C : Cx} {h : Heap} (x : GOk C h) : h.Ns mainGlobals C.mg := x.g0.keeps x.sub
theorem GOk.b {C : Cx} {h : Heap} (x : GOk C h) : h.Ns builtinsNs C.mb := x.b0.keeps x.sub
theorem GOk.nolimit {C : Cx} {h : Heap} (x : GOk C h) : h.NoLimit := x.n0.keeps x.sub

/-- what an evaluation reads of its frame -/
structure FrR (env : Env) (m : Str → Option Value) (h : Heap) : Prop where
  kind : env.scope.kind = .function
  gl : env.globals = mainGlobals
  bu : env.builtins = builtinsNs
  loc : ∃ ml, h.Ns env.locals ml ∧ ∀ x, env.kindOf x = some .local → ml x = m x
  cel : ∀ x, (env.kindOf x = some .cell ∨ env.kindOf x = some .free) → ∃ c, env.cells.lookup x = some c ∧ h.IsCell c (m x)
theorem FrR.keeps {env : Env} {m : Str → Option Value} {h h' : Heap} (F : FrR env m h) (k : Hs h h') : FrR env m h' :=
  { F with
    loc := let ⟨ml, h1, h2⟩ := F.loc; ⟨ml, h1.keeps k, h2⟩
    cel := fun x hx => let ⟨c, h1, h2⟩ := F.cel x hx; ⟨c, h1, h2.keeps k⟩ }
def Pin (p : Addr → Prop) (h : Heap) : Prop := ∀ b, p b → ∃ o, h.get? b = some o
theorem Pin.keeps {p : Addr → Prop} {h h' : Heap} (x : Pin p h) (k : Hs h h') : Pin p h' := fun b hb => let ⟨o, e⟩ := x b hb; ⟨o, k b o e⟩

abbrev Rho := List (Str × T)
def Vars (m : Str → Option Value) (g : View) (ρ : Rho) : Prop := ∀ x t, ρ.lookup x = some t → ∃ v, m x = some v ∧ t.P g v
theorem Vars.mono {m : Str → Option Value} {g g' : View} {ρ : Rho} (x : Vars m g ρ) (k : Sub g g') : Vars m g' ρ := fun y t e => let ⟨v, h1, h2⟩ := x y t e; ⟨v, h1, t.mono k h2⟩
def upd (m : Str → Option Value) (x : Str) (v : Value) : Str → Option Value := fun y => if y = x then some v else m y
theorem Vars.put {m : Str → Option Value} {g : View} {ρ : Rho} {x : Str} {t : T} {v : Value} (h : Vars m g ρ) (ht : t.P g v) : Vars (upd m x v) g ((x, t) :: ρ) := by
  intro y u e
  rw [List.lookup_cons] at e
  unfold upd
  by_cases hy : y = x
  · subst hy
    simp at e
    subst e
    exact ⟨v, by simp, ht⟩
  · have : (y == x) = false := by simpa using hy
    rw [this] at e
    simp only [hy, if_false]
    exact h y u e
theorem Vars.nil {m : Str → Option Value} {g : View} : Vars m g [] := fun _ _ e => by cases e

structure Sit (C : Cx) (n : Nat) (env : Env) (ρ : Rho) (A : Around) (m : Str → Option Value) (p : Addr → Prop) (s : Shared) : Prop where
  a : AOk n A
  f : FrR env m s.heap
  v : Vars m (vw p s.heap) ρ
  g : GOk C s.heap
  pin : Pin p s.heap

theorem keeps_refl (s : Shared) : Keeps s s := ⟨s.heap, s.toks, rfl, fun _ _ e => e⟩
theorem keeps_tok (s : Shared) (t : Nat) : Keeps s { s with toks := t } := ⟨s.heap, t, rfl, fun _ _ e => e⟩
theorem keeps_trans {a b c : Shared} (x : Keeps a b) (y : Keeps b c) : Keeps a c := by
  obtain ⟨h, t, rfl, k⟩ := x
  obtain ⟨h', t', rfl, k'⟩ := y
  exact ⟨h', t', rfl, fun d o e => k' d o (k d o e)⟩
theorem keeps_hs {a b : Shared} (x : Keeps a b) : Hs a.heap b.heap := by obtain ⟨h, t, rfl, k⟩ := x; exact k
theorem keeps_mk {s : Shared} {h : Heap} {t : Nat} (k : Hs s.heap h) : Keeps s { s with heap := h, toks := t } := ⟨h, t, rfl, k⟩

theorem Sit.keeps {C : Cx} {n : Nat} {env : Env} {ρ : Rho} {A : Around} {m : Str → Option Value} {p : Addr → Prop} {s s' : Shared} (x : Sit C n env ρ A m p s) (k : Keeps s s') :
    Sit C n env ρ A m p s' := ⟨x.a, x.f.keeps (keeps_hs k), x.v.mono (sub_vw (keeps_hs k)), x.g.keeps (keeps_hs k), x.pin.keeps (keeps_hs k)⟩

/-- what an evaluation leaves -/
abbrev Gives (p : Addr → Prop) (t : T) (s : Shared) : Value → Shared → Prop := fun v s' => Keeps s s' ∧ t.P (vw p s'.heap) v
abbrev noE : Value → Shared → Prop := fun _ _ => False

def Ev (C : Cx) (n : Nat) (env : Env) (ρ : Rho) (e : Expr) (t : T) : Prop :=
  ∀ A m p s, Sit C n env ρ A m p s → wpAny (model C.prog C.w) A (eval e env) (Gives p t s) noE s

theorem up {M : Model} {A : Around} {s s' : Shared} {tr : Sem Value} {p : Addr → Prop} {t : T} (k : Keeps s s') (h : wpAny M A tr (Gives p t s') noE s') : wpAny M A tr (Gives p t s) noE s' :=
  wpAny_mono h (fun _ _ x => ⟨keeps_trans k x.1, x.2⟩) fun _ _ x => x

/-- a contract of a def; of what is called -/
def FnC (C : Cx) (n : Nat) (f : Value) (ts : List T) (t : T) : Prop :=
  ∀ A p s vs, AOk n A → GOk C s.heap → Pin p s.heap → Fa (vw p s.heap) ts vs →
    codeAny (model C.prog C.w) A (.call f ⟨vs, []⟩) (fun r s' => ∃ v, r = .ok (.ret v) ∧ Gives p t s v s') s
def Fn (C : Cx) (n : Nat) (f : Value) (ts : List T) (t : T) : Prop :=
  ∀ A p s vs, AOk n A → GOk C s.heap → Pin p s.heap → Fa (vw p s.heap) ts vs → wpAny (model C.prog C.w) A (call f vs) (Gives p t s) noE s
theorem FnC.fn {C : Cx} {n : Nat} {f : Value} {ts : List T} {t : T} (h : FnC C n f ts t) : Fn C n f ts t := fun A p s vs a g q hf =>
  wpAny_call (codeAny_mono (h A p s vs a g q hf) fun r s' x => by obtain ⟨v, rfl, hv⟩ := x; exact hv)

section
variable {C : Cx} {n : Nat} {env : Env} {ρ : Rho}

/-! values -/
theorem ev_int {i : Int} {k : Nat} {pos : Pos} : Ev C n env ρ (.Constant (.int i) k pos) (I i) := fun _ _ _ _ _ => wpAny_Constant_int ⟨keeps_tok _ _, _, rfl⟩
theorem ev_str {x : Str} {k : Nat} {pos : Pos} : Ev C n env ρ (.Constant (.str x) k pos) (S x) := fun _ _ _ _ _ => wpAny_Constant_str ⟨keeps_tok _ _, _, rfl⟩
theorem ev_bool {b : Bool} {k : Nat} {pos : Pos} : Ev C n env ρ (.Constant (.bool b) k pos) (B b) := fun _ _ _ _ _ => wpAny_Constant_bool ⟨keeps_refl _, rfl⟩
theorem ev_none {k : Nat} {pos : Pos} : Ev C n env ρ (.Constant .none k pos) NO := fun _ _ _ _ _ => wpAny_Constant_none ⟨keeps_refl _, rfl⟩

theorem load_wp {A : Around} {m p} {s : Shared} {x : Str} {t : T} {Q : Value → Shared → Prop} {E : Value → Shared → Prop} (st : Sit C n env ρ A m p s) (hv : ρ.lookup x = some t)
    (hk : env.kindOf x = some .local ∨ env.kindOf x = some .cell ∨ env.kindOf x = some .free) (hc : (x == ("__classdict__" : Str)) = false) (h : ∀ v, t.P (vw p s.heap) v → Q v s) :
    wpAny (model C.prog C.w) A (loadName env x) Q E s := by
  obtain ⟨v, hm, ht⟩ := st.v x t hv
  rcases hk with hk | hk | hk
  · obtain ⟨ml, hn, hl⟩ := st.f.loc
    exact wpAny_loadName_local st.f.kind hk hn ((hl x hk).trans hm) (h v ht)
  · obtain ⟨c, h1, h2⟩ := st.f.cel x (.inl hk)
    exact wpAny_loadName_cell st.f.kind hk h1 (hm ▸ h2) (h v ht)
  · obtain ⟨c, h1, h2⟩ := st.f.cel x (.inr hk)
    exact wpAny_loadName_free st.f.kind hk h1 (hm ▸ h2) (h v ht) hc

def isLocalish (env : Env) (x : Str) : Bool := (env.kindOf x == some .local || env.kindOf x == some .cell || env.kindOf x == some .free) && !(x == ("__classdict__" : Str)) && !(x == ("__debug__" : Str))
theorem localish {env : Env} {x : Str} (h : isLocalish env x = true) : (env.kindOf x = some .local ∨ env.kindOf x = some .cell ∨ env.kindOf x = some .free) ∧ (x == ("__classdict__" : Str)) = false ∧ (x == ("__debug__" : Str)) = false := by
  unfold isLocalish at h
  simp only [Bool.and_eq_true, Bool.or_eq_true, beq_iff_eq, Bool.not_eq_true'] at h
  exact ⟨by rcases h.1.1 with (a | a) | a <;> simp [a], h.1.2, h.2⟩

theorem ev_name {x : Str} {t : T} {pos : Pos} (hv : ρ.lookup x = some t) (hk : isLocalish env x = true) : Ev C n env ρ (.Name x pos) t := fun _ _ _ _ st =>
  wpAny_Name (load_wp st hv (localish hk).1 (localish hk).2.1 fun v ht => ⟨keeps_refl _, ht⟩) (localish hk).2.2
end
end Mine

end
/-! Fw2 -/
section
open PySem PySem.W PyProof.Rows PySem.Calls
set_option maxRecDepth 100000
set_option linter.all false
namespace Mine
section
variable {C : Cx} {n : Nat} {env : Env} {ρ : Rho}

theorem mg_of {h : Heap} {x : Str} {r : Option Value} (G : GOk C h) (e : nsIn C.K mainGlobals x = some r) : C.mg x = r := by
  obtain ⟨o, es, ep, ho, hd, hk, hm⟩ := G.g
  unfold nsIn at e
  split at e
  · rename_i c d es' n' sl hl
    have h1 := G.k _ _ hl
    rw [ho] at h1
    cases h1
    have hd' : Data.dict es' n' = .dict es ep := hd
    cases hd'
    rw [← hm x]
    unfold nsFind findBy
    rw [← Array.find?_toList]
    split at e
    · rename_i en he; cases e; rw [he]; rfl
    · rename_i he
      rw [he]
      split at e
      · cases e
      · cases e; rfl
  · cases e

theorem ev_global {x : Str} {v : Value} {pos : Pos} (hv : nsIn C.K mainGlobals x = some (some v)) (hx : env.kindOf x = some .globalImplicit) (hd : (x == ("__debug__" : Str)) = false) :
    Ev C n env ρ (.Name x pos) (V v) := fun _ _ _ _ st =>
  Name_function_global st.f.kind hx (loadGlobal_global (by rw [st.f.gl]; exact st.g.g) (mg_of st.g hv) ⟨keeps_refl _, rfl⟩) hd
theorem ev_builtin {x : Str} {v : Value} {pos : Pos} (hv : bootBuiltins x = some v) (hg : nsIn C.K mainGlobals x = some none) (hx : env.kindOf x = some .globalImplicit) (hd : (x == ("__debug__" : Str)) = false) (hn : x ≠ "__name__") :
    Ev C n env ρ (.Name x pos) (V v) := fun _ _ _ _ st =>
  Name_function_global st.f.kind hx (loadGlobal_builtin (by rw [st.f.gl]; exact st.g.g) (mg_of st.g hg) (by rw [st.f.bu]; exact st.g.b) ((st.g.bb x hn).trans hv) ⟨keeps_refl _, rfl⟩) hd

/-! two operands -/
def Op2 (C : Cx) (n : Nat) (op : Operator) (a b t : T) : Prop := ∀ A p s v1 v2, AOk n A → GOk C s.heap → Pin p s.heap → a.P (vw p s.heap) v1 → b.P (vw p s.heap) v2 →
  wpAny (model C.prog C.w) A (binaryOp op v1 v2) (Gives p t s) noE s
def Cm2 (C : Cx) (n : Nat) (op : CmpOp) (a b t : T) : Prop := ∀ A p s v1 v2, AOk n A → GOk C s.heap → Pin p s.heap → a.P (vw p s.heap) v1 → b.P (vw p s.heap) v2 →
  wpAny (model C.prog C.w) A (compareOp op v1 v2) (Gives p t s) noE s
def Un1 (C : Cx) (n : Nat) (op : UnaryOp) (a t : T) : Prop := ∀ A p s v1, AOk n A → GOk C s.heap → Pin p s.heap → a.P (vw p s.heap) v1 →
  wpAny (model C.prog C.w) A (unaryOp op v1) (Gives p t s) noE s
def It2 (C : Cx) (n : Nat) (a b t : T) : Prop := ∀ A p s v1 v2, AOk n A → GOk C s.heap → Pin p s.heap → a.P (vw p s.heap) v1 → b.P (vw p s.heap) v2 →
  (∃ ty id, s.TypeIs v1 ty ∧ typeLookup (.type ty) "__getitem__" = pure (some (.builtin id))) ∧ wpAny (model C.prog C.w) A (getItem v1 v2) (Gives p t s) noE s

/-- two evaluations, one after the other -/
theorem two {A : Around} {m p} {s : Shared} {e1 e2 : Expr} {t1 t2 : T} (st : Sit C n env ρ A m p s) (h1 : Ev C n env ρ e1 t1) (h2 : Ev C n env ρ e2 t2) {Q : Value → Value → Shared → Prop}
    (h : ∀ v1 v2 s', Keeps s s' → Sit C n env ρ A m p s' → t1.P (vw p s'.heap) v1 → t2.P (vw p s'.heap) v2 → Q v1 v2 s') :
    wpAny (model C.prog C.w) A (eval e1 env) (fun v1 s1 => wpAny (model C.prog C.w) A (eval e2 env) (fun v2 s2 => Q v1 v2 s2) noE s1) noE s :=
  wpAny_mono (h1 _ _ _ _ st) (fun v1 s1 x1 => wpAny_mono (h2 _ _ _ _ (st.keeps x1.1)) (fun v2 s2 x2 =>
    h v1 v2 s2 (keeps_trans x1.1 x2.1) ((st.keeps x1.1).keeps x2.1) (t1.mono (sub_vw (keeps_hs x2.1)) x1.2) x2.2) fun _ _ x => x) fun _ _ x => x

theorem ev_bin {op : Operator} {l r : Expr} {pos : Pos} {a b t : T} (hl : Ev C n env ρ l a) (hr : Ev C n env ρ r b) (ho : Op2 C n op a b t) : Ev C n env ρ (.BinOp l op r pos) t := fun _ _ _ _ st =>
  wpAny_BinOp (two st hl hr fun v1 v2 s' k st' h1 h2 => up k (ho _ _ _ _ _ st'.a st'.g st'.pin h1 h2))
theorem ev_cmp {op : CmpOp} {l r : Expr} {pos : Pos} {a b t : T} (hl : Ev C n env ρ l a) (hr : Ev C n env ρ r b) (ho : Cm2 C n op a b t) (hm : behindInMarks op r = false) : Ev C n env ρ (.Compare l [op] [r] pos) t := fun _ _ _ _ st =>
  wpAny_Compare1 (two st hl hr fun v1 v2 s' k st' h1 h2 => up k (ho _ _ _ _ _ st'.a st'.g st'.pin h1 h2)) hm
theorem ev_un {op : UnaryOp} {x : Expr} {pos : Pos} {a t : T} (hx : Ev C n env ρ x a) (ho : Un1 C n op a t) : Ev C n env ρ (.UnaryOp op x pos) t := fun _ _ _ _ st =>
  wpAny_UnaryOp (wpAny_mono (hx _ _ _ _ st) (fun v s1 x1 => up x1.1 (ho _ _ _ _ st.a (st.keeps x1.1).g (st.keeps x1.1).pin x1.2)) fun _ _ x => x)
theorem ev_sub {value slice : Expr} {pos : Pos} {a b t : T} (hv : Ev C n env ρ value a) (hi : Ev C n env ρ slice b) (ho : It2 C n a b t) (hs : ∀ o i, subscripted slice false o i = operate [o, i] (getItem o i)) :
    Ev C n env ρ (.Subscript value slice pos) t := fun _ _ _ _ st =>
  Subscript_ (two st hv hi fun v1 v2 s' k st' h1 h2 => by
    obtain ⟨⟨ty, id, hT, hl⟩, hg⟩ := ho _ _ _ _ _ st'.a st'.g st'.pin h1 h2
    exact tail_any hT hl (up k hg) (hs _ _))

/-! truth -/
def Tr (C : Cx) (n : Nat) (env : Env) (ρ : Rho) (e : Expr) (b : Bool) : Prop := ∀ A m p s, Sit C n env ρ A m p s →
  wpAny (model C.prog C.w) A (isTrue e env (eval e env)) (fun c s' => c = b ∧ Keeps s s') noE s
theorem tr_cmp {op : CmpOp} {l r : Expr} {pos : Pos} {a b : T} {c : Bool} (hl : Ev C n env ρ l a) (hr : Ev C n env ρ r b) (ho : Cm2 C n op a b (B c)) (hm : behindInMarks op r = false) : Tr C n env ρ (.Compare l [op] [r] pos) c :=
  fun _ _ _ _ st => wpAny_isTrue_Compare1 (two st hl hr fun v1 v2 s' k st' h1 h2 => wpAny_mono (ho _ _ _ _ _ st'.a st'.g st'.pin h1 h2) (fun v s2 x2 => by
    obtain ⟨k2, rfl⟩ := x2
    exact wpAny_truthy_bool ⟨rfl, keeps_trans k k2⟩) fun _ _ x => x) hm
theorem tr_not {x : Expr} {pos : Pos} {c : Bool} (h : Tr C n env ρ x c) : Tr C n env ρ (.UnaryOp .Not x pos) (!c) := fun _ _ _ _ st =>
  wpAny_isTrue_Not (wpAny_mono (h _ _ _ _ st) (fun _ _ x => ⟨by rw [x.1], x.2⟩) fun _ _ x => x)
def TrA (C : Cx) (n : Nat) (env : Env) (ρ : Rho) (op : BoolOp) (es : List Expr) (b : Bool) : Prop := ∀ A m p s, Sit C n env ρ A m p s →
  wpAny (model C.prog C.w) A (allTrue op es env) (fun c s' => c = b ∧ Keeps s s') noE s
theorem tr_bool {op : BoolOp} {es : List Expr} {pos : Pos} {c : Bool} (h : TrA C n env ρ op es c) : Tr C n env ρ (.BoolOp op es pos) c := fun _ _ _ _ st => wpAny_isTrue_BoolOp (h _ _ _ _ st)
theorem tra_and_nil : TrA C n env ρ .And [] true := fun _ _ _ _ st => wpAny_allTrue_And_nil ⟨rfl, keeps_refl _⟩
theorem tra_or_nil : TrA C n env ρ .Or [] false := fun _ _ _ _ st => wpAny_allTrue_Or_nil ⟨rfl, keeps_refl _⟩
/-- the tail is looked at where the head is true alone -/
theorem tra_and {x : Expr} {rest : List Expr} {c d : Bool} (h : Tr C n env ρ x c) (hr : c = true → TrA C n env ρ .And rest d) : TrA C n env ρ .And (x :: rest) (c && d) := fun _ _ _ _ st =>
  wpAny_allTrue_And_cons (wpAny_mono (h _ _ _ _ st) (fun b s1 x1 => by
    obtain ⟨rfl, k⟩ := x1
    cases b with
    | false => simpa using k
    | true =>
      have := wpAny_mono (hr rfl _ _ _ _ (st.keeps k)) (Q' := fun c s' => c = d ∧ Keeps _ s') (E' := noE) (fun _ _ x => ⟨x.1, keeps_trans k x.2⟩) fun _ _ x => x
      simpa using this) fun _ _ x => x)
theorem tra_or {x : Expr} {rest : List Expr} {c d : Bool} (h : Tr C n env ρ x c) (hr : c = false → TrA C n env ρ .Or rest d) : TrA C n env ρ .Or (x :: rest) (c || d) := fun _ _ _ _ st =>
  wpAny_allTrue_Or_cons (wpAny_mono (h _ _ _ _ st) (fun b s1 x1 => by
    obtain ⟨rfl, k⟩ := x1
    cases b with
    | true => simpa using k
    | false =>
      have := wpAny_mono (hr rfl _ _ _ _ (st.keeps k)) (Q' := fun c s' => c = d ∧ Keeps _ s') (E' := noE) (fun _ _ x => ⟨x.1, keeps_trans k x.2⟩) fun _ _ x => x
      simpa using this) fun _ _ x => x)

/-! ops on data -/
section ops
theorem gi {A : Around} {p : Addr → Prop} {s : Shared} {op : Operator} {v1 v2 : Value} {i : Int} (h : ∀ Q : Value → Shared → Prop, Q (.int i s.toks) { s with toks := s.toks + 1 } → wpAny (model C.prog C.w) A (binaryOp op v1 v2) Q noE s) :
    wpAny (model C.prog C.w) A (binaryOp op v1 v2) (Gives p (I i) s) noE s := h _ ⟨keeps_tok _ _, _, rfl⟩
theorem op_add {a b : Int} : Op2 C n .Add (I a) (I b) (I (a + b)) := by
  rintro A p s _ _ hA hG _ ⟨t, rfl⟩ ⟨u, rfl⟩; exact gi fun Q h => PyProof.Rows.add_int h
theorem op_sub {a b : Int} : Op2 C n .Sub (I a) (I b) (I (a - b)) := by
  rintro A p s _ _ hA hG _ ⟨t, rfl⟩ ⟨u, rfl⟩; exact gi fun Q h => PyProof.Rows.sub_int h
theorem op_mul {a b : Int} (hm : IntMulOk a b) : Op2 C n .Mult (I a) (I b) (I (a * b)) := by
  rintro A p s _ _ hA hG _ ⟨t, rfl⟩ ⟨u, rfl⟩; exact gi fun Q h => PyProof.Rows.mul_int h hm
theorem op_mod {a b : Int} (hb : b ≠ 0) : Op2 C n .Mod (I a) (I b) (I (a.fmod b)) := by
  rintro A p s _ _ hA hG _ ⟨t, rfl⟩ ⟨u, rfl⟩; exact gi fun Q h => PyProof.Rows.mod_int hb h
theorem op_div {a b : Int} (hb : b ≠ 0) (hp : Builtin.divisionGoesByPylong a b = false) : Op2 C n .FloorDiv (I a) (I b) (I (a.fdiv b)) := by
  rintro A p s _ _ hA hG _ ⟨t, rfl⟩ ⟨u, rfl⟩; exact gi fun Q h => PyProof.Rows.floordiv_int hb h (.inl hp)
theorem op_subb {a b : Bool} : Op2 C n .Sub (B a) (B b) (I (b2i a - b2i b)) := by
  rintro A p s _ _ hA hG _ rfl rfl; exact gi fun Q h => PyProof.Rows.sub_bool h
theorem un_neg {a : Int} : Un1 C n .USub (I a) (I (-a)) := by
  rintro A p s _ hA hG _ ⟨t, rfl⟩; exact PyProof.Rows.neg_int ⟨keeps_tok _ _, _, rfl⟩
theorem op_adds {x y : Str} (hsz : x.length + y.length ≤ sizeLine) : Op2 C n .Add (S x) (S y) (S (x ++ y)) := by
  rintro A p s _ _ hA hG _ ⟨t, rfl⟩ ⟨u, rfl⟩; exact PyProof.Rows.add_str (fun t' tk => ⟨⟨_, _, rfl, fun _ _ e => e⟩, _, rfl⟩) hsz

theorem gb {A : Around} {p : Addr → Prop} {s : Shared} {b : Bool} : Gives p (B b) s (.bool b) s := ⟨keeps_refl _, rfl⟩
theorem cm_eq {a b : Int} : Cm2 C n .Eq (I a) (I b) (B (a == b)) := by rintro A p s _ _ hA hG _ ⟨t, rfl⟩ ⟨u, rfl⟩; exact PyProof.Rows.eq_int (gb (A := A))
theorem cm_ne {a b : Int} : Cm2 C n .NotEq (I a) (I b) (B (a != b)) := by rintro A p s _ _ hA hG _ ⟨t, rfl⟩ ⟨u, rfl⟩; exact PyProof.Rows.ne_int (gb (A := A))
theorem cm_lt {a b : Int} : Cm2 C n .Lt (I a) (I b) (B (decide (a < b))) := by rintro A p s _ _ hA hG _ ⟨t, rfl⟩ ⟨u, rfl⟩; exact PyProof.Rows.lt_int (gb (A := A))
theorem cm_gt {a b : Int} : Cm2 C n .Gt (I a) (I b) (B (decide (b < a))) := by rintro A p s _ _ hA hG _ ⟨t, rfl⟩ ⟨u, rfl⟩; exact PyProof.Rows.gt_int (gb (A := A))
theorem cm_le {a b : Int} : Cm2 C n .LtE (I a) (I b) (B (decide (a ≤ b))) := by rintro A p s _ _ hA hG _ ⟨t, rfl⟩ ⟨u, rfl⟩; exact PyProof.Rows.le_int (gb (A := A))
theorem cm_ge {a b : Int} : Cm2 C n .GtE (I a) (I b) (B (decide (b ≤ a))) := by rintro A p s _ _ hA hG _ ⟨t, rfl⟩ ⟨u, rfl⟩; exact PyProof.Rows.ge_int (gb (A := A))
theorem cm_eqs {x y : Str} : Cm2 C n .Eq (S x) (S y) (B (x == y)) := by rintro A p s _ _ hA hG _ ⟨t, rfl⟩ ⟨u, rfl⟩; exact PyProof.Rows.eq_str (gb (A := A))
theorem cm_nes {x y : Str} : Cm2 C n .NotEq (S x) (S y) (B (x != y)) := by rintro A p s _ _ hA hG _ ⟨t, rfl⟩ ⟨u, rfl⟩; exact PyProof.Rows.ne_str (gb (A := A))
theorem cm_lts {x y : Str} : Cm2 C n .Lt (S x) (S y) (B (decide (x.cps.toList < y.cps.toList))) := by rintro A p s _ _ hA hG _ ⟨t, rfl⟩ ⟨u, rfl⟩; exact PyProof.Rows.lt_str (gb (A := A))
theorem cm_gts {x y : Str} : Cm2 C n .Gt (S x) (S y) (B (decide (y.cps.toList < x.cps.toList))) := by rintro A p s _ _ hA hG _ ⟨t, rfl⟩ ⟨u, rfl⟩; exact PySem.P.gt_str (gb (A := A))
end ops

/-! items -/
theorem LL.at {g : View} {ts : List T} {v : Value} (h : (LL ts).P g v) : ∃ a vs n, v = .ref a ∧ g a (lst vs n) ∧ Fa g ts vs := h
theorem isList_of {p : Addr → Prop} {h : Heap} {a : Addr} {vs : List Value} {k : Nat} (e : vw p h a (lst vs k)) : h.IsList a vs.toArray := ⟨_, e.2, rfl, _, rfl⟩
theorem isTup_of {p : Addr → Prop} {h : Heap} {a : Addr} {vs : List Value} {k : Nat} (e : vw p h a (tpl vs k)) : IsTup h a vs.toArray := ⟨_, e.2, rfl, _, rfl⟩
theorem it_list {ts : List T} {i : Int} {t : T} (h0 : 0 ≤ i) (h1 : i < 2 ^ 63) (ht : ts[i.toNat]? = some t) : It2 C n (LL ts) (I i) t := by
  rintro A p s _ _ hA hG _ ⟨a, vs, k, rfl, hg, hf⟩ ⟨u, rfl⟩
  obtain ⟨v, hv, hp⟩ := hf.get ht
  exact ⟨⟨_, _, (isList_of hg).typeIs, slot_list_getitem.lookup⟩, wpAny_getItem_list (isList_of hg) h0 h1 (by simpa using hv) ⟨keeps_refl _, hp⟩⟩
theorem it_list_neg {ts : List T} {i : Int} {t : T} (h0 : i < 0) (h1 : -(2 ^ 63) ≤ i) (hl : -(ts.length : Int) ≤ i) (ht : ts[(i + ts.length).toNat]? = some t) : It2 C n (LL ts) (I i) t := by
  rintro A p s _ _ hA hG _ ⟨a, vs, k, rfl, hg, hf⟩ ⟨u, rfl⟩
  obtain ⟨v, hv, hp⟩ := hf.get ht
  have hlen := hf.length
  exact ⟨⟨_, _, (isList_of hg).typeIs, slot_list_getitem.lookup⟩, wpAny_getItem_list_neg (isList_of hg) h0 (by simpa [hlen] using hl) h1 (by simpa [hlen] using hv) ⟨keeps_refl _, hp⟩⟩
theorem it_tup {ts : List T} {i : Int} {t : T} (h0 : 0 ≤ i) (h1 : i < 2 ^ 63) (ht : ts[i.toNat]? = some t) : It2 C n (TU ts) (I i) t := by
  rintro A p s _ _ hA hG _ ⟨a, vs, k, rfl, hg, hf⟩ ⟨u, rfl⟩
  obtain ⟨v, hv, hp⟩ := hf.get ht
  have hlt : i.toNat < vs.length := by
    rcases Nat.lt_or_ge i.toNat vs.length with h | h
    · exact h
    · rw [List.getElem?_eq_none h] at hv; cases hv
  exact ⟨⟨_, _, (isTup_of hg).typeIs, slot_tuple_getitem.lookup⟩, PyProof.Rows.getItem_tuple (j := i.toNat) (isTup_of hg) (by omega) h1 (by
      have q0 : ¬ i < 0 := by omega
      have q1 : (decide (0 ≤ i) && decide (i < (vs.length : Int))) = true := by simp; omega
      simp only [seqIndex?, List.size_toArray, q0, if_false, q1, if_true]) (by simpa using hv) ⟨keeps_refl _, hp⟩⟩
theorem it_str {x : Str} {i : Int} {c : Nat} (hr : (decide (i < -(2 ^ 63 : Int)) || decide (i ≥ 2 ^ 63)) = false) (hc : (seqIndex? i x.length).bind (x.cps[·]?) = some c) : It2 C n (S x) (I i) (S ⟨#[c]⟩) := by
  rintro A p s _ _ hA hG _ ⟨t, rfl⟩ ⟨u, rfl⟩
  exact ⟨⟨"str", _, typeIs_str _ _ _, slot_str_getitem.lookup⟩, PyProof.Rows.getItem_str hr hc ⟨keeps_tok _ _, _, rfl⟩⟩
end
end Mine

end
/-! Fw3 -/
section
open PySem PySem.W PyProof.Rows PySem.Calls
set_option maxRecDepth 100000
set_option linter.all false
namespace Mine

/-! closures -/
def clo (env : Env) : List (Str × NameKind) → List (Str × Addr) → List (Str × Addr)
  | [], acc => acc
  | (x, k) :: r, acc => if k == .free then clo env r ((x, (env.cells.lookup x).getD 0) :: acc) else clo env r acc
theorem closure_is {env : Env} {scope : Scope} (h : ∀ x, (x, NameKind.free) ∈ scope.names → ∃ c, env.cells.lookup x = some c) : closureFor scope env = pure (clo env scope.names []) := by
  unfold closureFor
  have key : ∀ (l : List (Str × NameKind)) (acc : List (Str × Addr)), (∀ x, (x, NameKind.free) ∈ l → ∃ c, env.cells.lookup x = some c) →
      (forIn l acc (fun x r => match x with | (name, kind) => if (kind == NameKind.free) = true then do let a ← cellOf env name; pure (ForInStep.yield ((name, a) :: r)) else pure (ForInStep.yield r)) : Sem (List (Str × Addr))) = pure (clo env l acc) := by
    intro l
    induction l with
    | nil => intro acc _; rfl
    | cons y r ih =>
      intro acc hl
      obtain ⟨x, k⟩ := y
      rw [List.forIn_cons]
      unfold clo
      by_cases hk : (k == NameKind.free) = true
      · have hk' : k = .free := by simpa using hk
        subst hk'
        obtain ⟨c, hc⟩ := hl x (.head _)
        have : (cellOf env x : Sem Addr) = pure c := by unfold cellOf; rw [hc]
        simp only [beq_self_eq_true, if_true, this, hc, Option.getD_some]
        exact ih _ fun y hy => hl y (.tail _ hy)
      · simp only [hk, if_false, Bool.false_eq_true]
        exact ih _ fun y hy => hl y (.tail _ hy)
  exact bind_congr_pure (key _ _ h)
where
  bind_congr_pure {α : Type} {m : Sem α} {a : α} (h : m = pure a) : (m >>= fun r => pure r) = pure a := by rw [h]; rfl

theorem clo_lookup {env : Env} {x : Str} : ∀ {l : List (Str × NameKind)} {acc : List (Str × Addr)}, (x, NameKind.free) ∈ l ∨ acc.lookup x = env.cells.lookup x → (∃ c, env.cells.lookup x = some c) →
    (clo env l acc).lookup x = env.cells.lookup x
  | [], acc, h, _ => by
    rcases h with h | h
    · cases h
    · exact h
  | (y, k) :: r, acc, h, hc => by
    unfold clo
    obtain ⟨c, hc'⟩ := hc
    by_cases hk : (k == NameKind.free) = true
    · rw [if_pos hk]
      refine clo_lookup ?_ ⟨c, hc'⟩
      by_cases hy : x = y
      · right
        subst hy
        rw [List.lookup_cons, beq_self_eq_true, hc']; rfl
      · rcases h with h | h
        · rcases List.mem_cons.mp h with e | h
          · exact absurd (Prod.mk.inj e).1 hy
          · exact .inl h
        · right
          rw [List.lookup_cons, show (x == y) = false by simpa using hy]
          exact h
    · rw [if_neg hk]
      refine clo_lookup ?_ ⟨c, hc'⟩
      rcases h with h | h
      · rcases List.mem_cons.mp h with e | h
        · have e2 : NameKind.free = k := (Prod.mk.inj e).2
          rw [← e2] at hk
          exact absurd rfl hk
        · exact .inl h
      · exact .inr h

/-! new cells -/
theorem cellsFrom_not {x : Str} : ∀ {l : List (Str × NameKind)} {n : Nat} {acc : List (Str × Addr)}, (x, NameKind.cell) ∉ l → (cellsFrom n l acc).lookup x = acc.lookup x
  | [], _, _, _ => rfl
  | (y, k) :: r, n, acc, h => by
    unfold cellsFrom
    have hr : (x, NameKind.cell) ∉ r := fun q => h (.tail _ q)
    by_cases hk : (k == NameKind.cell) = true
    · rw [if_pos hk, cellsFrom_not hr, List.lookup_cons]
      have : (x == y) = false := by
        have hk' : k = .cell := by simpa using hk
        simp only [beq_eq_false_iff_ne, ne_eq]
        rintro rfl
        exact h (by rw [hk']; exact .head _)
      rw [this]
    · rw [if_neg hk, cellsFrom_not hr]
theorem pushCells_size : ∀ (l : List (Str × NameKind)) (h : Heap), h.objs.size ≤ (pushCells h l).objs.size
  | [], _ => Nat.le_refl _
  | (_, k) :: r, h => by
    unfold pushCells
    split
    · exact Nat.le_trans (by rw [Heap.size_push]; omega) (pushCells_size r _)
    · exact pushCells_size r h
/-- a name of one's own that stands once: its cell is new, empty -/
theorem cellsFrom_yes {x : Str} : ∀ {l : List (Str × NameKind)} {h : Heap} {acc : List (Str × Addr)}, (x, NameKind.cell) ∈ l →
    ∃ c, (cellsFrom h.objs.size l acc).lookup x = some c ∧ h.objs.size ≤ c ∧ (pushCells h l).IsCell c none
  | [], _, _, h => by cases h
  | (y, k) :: r, h, acc, hm => by
    unfold cellsFrom pushCells
    by_cases hk : (k == NameKind.cell) = true
    · rw [if_pos hk, if_pos hk]
      by_cases hr : (x, NameKind.cell) ∈ r
      · obtain ⟨c, h1, h2, h3⟩ := cellsFrom_yes (h := h.push { cls := .type "cell", data := .cell none }) (acc := (y, h.objs.size) :: acc) hr
        rw [Heap.size_push] at h1 h2
        exact ⟨c, h1, by omega, h3⟩
      · have e : x = y := by
          rcases List.mem_cons.mp hm with e | e
          · exact (Prod.mk.inj e).1
          · exact absurd e hr
        subst e
        refine ⟨h.objs.size, ?_, Nat.le_refl _, ⟨_, pushCells_keeps r _ _ _ (Heap.get?_push_size _ rfl), rfl⟩⟩
        rw [cellsFrom_not hr, List.lookup_cons, beq_self_eq_true]
    · rw [if_neg hk, if_neg hk]
      refine cellsFrom_yes ?_
      rcases List.mem_cons.mp hm with e | e
      · have : NameKind.cell = k := (Prod.mk.inj e).2
        rw [← this] at hk
        exact absurd rfl hk
      · exact e

theorem nfe {M : Model} {A : Around} {E : Value → Shared → Prop} {s : Shared} {scope : Scope} {globals : Addr} {cl : List (Str × Addr)} {qual : Str} {env : Env} {Q : Env → Shared → Prop}
    (h : Q (newEnv scope s.heap.objs.size globals (cellsFrom (s.heap.objs.size + 1) scope.names cl) qual none .none (some env) builtinsNs)
      { s with heap := pushCells (s.heap.push { cls := .type "dict", data := .dict #[] }) scope.names }) :
    wpAny M A (newFunctionEnv scope globals cl [] qual none .none (some env)) Q E s := by
  simp only [newFunctionEnv, Option.isSome_some, if_true]
  refine wpAny_bind (wpAny_alloc ?_)
  refine wpAny_bind (wpAny_layCells _ (fun name kind cells => by cases hkc : kind == NameKind.cell <;> simp [hkc]) _ _ _ _ ?_)
  rw [show ({ s with heap := s.heap.push { cls := .type "dict", data := .dict #[] } } : Shared).heap.objs.size = s.heap.objs.size + 1 from Heap.size_push ..]
  rw [List.forIn_nil]
  exact wpAny_bind (wpAny_pure (wpAny_pure h))

/-- the environment of a comprehension -/
def cenv (scope : Scope) (cs : List (Str × Addr)) (L : Addr) (env : Env) : Env := compEnvC scope cs L env

section
variable {C : Cx} {n : Nat} {env : Env} {ρ : Rho}

/-- what a comprehension's scope is like (a look) -/
def scopeOK (env : Env) (scope : Scope) (x : Str) : Bool :=
  scope.kind == .function && (scope.names.all fun y => (y.2 != .free || ((env.kindOf y.1 == some .cell || env.kindOf y.1 == some .free) && y.1 != (".0" : Str))) && (y.2 != .local || (scope.names.lookup y.1 == some .local && (y.1 == x || y.1 == (".0" : Str)))) &&
    (y.2 != .cell || (scope.names.lookup y.1 == some .cell && y.1 == x))) && (scope.names.lookup x == some .local || scope.names.lookup x == some .cell)

structure ScopeOK (env : Env) (scope : Scope) (x : Str) : Prop where
  kind : scope.kind = .function
  free : ∀ y, (y, NameKind.free) ∈ scope.names → (env.kindOf y = some .cell ∨ env.kindOf y = some .free) ∧ y ≠ (".0" : Str)
  loc : ∀ y, (y, NameKind.local) ∈ scope.names → scope.names.lookup y = some .local ∧ (y = x ∨ y = (".0" : Str))
  cel : ∀ y, (y, NameKind.cell) ∈ scope.names → scope.names.lookup y = some .cell ∧ y = x
  own : scope.names.lookup x = some .local ∨ scope.names.lookup x = some .cell
theorem scopeOK_is {scope : Scope} {x : Str} (h : scopeOK env scope x = true) : ScopeOK env scope x := by
  unfold scopeOK at h
  simp only [Bool.and_eq_true, List.all_eq_true, Bool.or_eq_true, beq_iff_eq, bne_iff_ne, ne_eq] at h
  obtain ⟨⟨h1, h2⟩, h3⟩ := h
  refine ⟨h1, fun y hy => ?_, fun y hy => ?_, fun y hy => ?_, h3⟩
  · have := (h2 _ hy).1.1
    simpa using this
  · have := (h2 _ hy).1.2
    simpa using this
  · have := (h2 _ hy).2
    simpa using this

theorem lookup_mem {α : Type} {l : List (Str × α)} {x : Str} {k : α} (h : l.lookup x = some k) : (x, k) ∈ l := mem_of_lookup h

/-- the kinds behind the relabelling -/
theorem kind_relabel {scope : Scope} {x : Str} : ∀ {k : NameKind}, (relabel scope env).names.lookup x = some k → ∃ k', scope.names.lookup x = some k' ∧ (k' = k ∨ (k' = .free ∧ k = .cell)) := by
  intro k h
  unfold relabel at h
  simp only at h
  generalize scope.names = l at h ⊢
  induction l with
  | nil => simp at h
  | cons y r ih =>
    obtain ⟨y, ky⟩ := y
    rw [List.map_cons, List.lookup_cons] at h
    by_cases hc : (ky == NameKind.free && env.scope.kind == .function && env.kindOf y == some .cell) = true
    · simp only [hc, if_true] at h
      by_cases hx : (x == y) = true
      · rw [hx] at h
        cases h
        refine ⟨ky, by rw [List.lookup_cons, hx], .inr ⟨?_, rfl⟩⟩
        simp only [Bool.and_eq_true, beq_iff_eq] at hc
        exact hc.1.1
      · have hx' : (x == y) = false := by simpa using hx
        rw [hx'] at h
        rw [List.lookup_cons, hx']
        exact ih h
    · simp only [hc, if_false, Bool.false_eq_true] at h
      by_cases hx : (x == y) = true
      · rw [hx] at h
        cases h
        exact ⟨_, by rw [List.lookup_cons, hx], .inl rfl⟩
      · have hx' : (x == y) = false := by simpa using hx
        rw [hx'] at h
        rw [List.lookup_cons, hx']
        exact ih h

/-- names in a comprehension's frame, before the first turn -/
def m0 (m : Str → Option Value) (x : Str) : Str → Option Value := fun y => if y = x ∨ y = (".0" : Str) then none else m y

theorem frr_comp {m : Str → Option Value} {h : Heap} {scope : Scope} {x : Str} (F : FrR env m h) (ok : ScopeOK env scope x) {h' : Heap}
    (e : h' = pushCells (h.push { cls := .type "dict", data := .dict #[] }) scope.names) :
    FrR (cenv scope (cellsFrom (h.objs.size + 1) scope.names (clo env scope.names [])) h.objs.size env) (m0 m x) h' ∧ Hs h h' ∧ h.objs.size < h'.objs.size ∧
      ((scope.names.lookup x = some .cell) → ∃ c, (cellsFrom (h.objs.size + 1) scope.names (clo env scope.names [])).lookup x = some c ∧ h.objs.size < c) ∧
      (∀ y c, y ≠ x → ((relabel scope env).names.lookup y = some .cell ∨ (relabel scope env).names.lookup y = some .free) → (cellsFrom (h.objs.size + 1) scope.names (clo env scope.names [])).lookup y = some c → h.IsCell c (m y)) := by
  have hpush : Hs h (h.push { cls := .type "dict", data := .dict #[] }) := fun b o q => Heap.get?_push_of_some _ q
  have hs1 : Hs (h.push { cls := .type "dict", data := .dict #[] }) h' := fun b o q => e ▸ pushCells_keeps _ _ b o q
  have hs : Hs h h' := fun b o q => hs1 b o (hpush b o q)
  have hsz : h.objs.size < h'.objs.size := by
    rw [e]
    exact Nat.lt_of_lt_of_le (by rw [Heap.size_push]; omega) (pushCells_size _ _)
  have hfc : ∀ y, (y, NameKind.free) ∈ scope.names → ∃ c, env.cells.lookup y = some c ∧ h.IsCell c (m y) := fun y hy => F.cel y (ok.free y hy).1
  have kk : ∀ y, ((relabel scope env).names.lookup y = some .cell ∨ (relabel scope env).names.lookup y = some .free) → scope.names.lookup y = some .cell ∨ scope.names.lookup y = some .free := by
    intro y hy'
    rcases hy' with q | q
    · obtain ⟨k', h1, h2⟩ := kind_relabel q
      rcases h2 with rfl | ⟨rfl, _⟩
      · exact .inl h1
      · exact .inr h1
    · obtain ⟨k', h1, h2⟩ := kind_relabel q
      rcases h2 with rfl | ⟨rfl, h2⟩
      · exact .inr h1
      · cases h2
  have fl : ∀ y, scope.names.lookup y = some .free → ∃ c, (cellsFrom (h.objs.size + 1) scope.names (clo env scope.names [])).lookup y = some c ∧ h.IsCell c (m y) := by
    intro y h1
    have hmem := lookup_mem h1
    obtain ⟨c, q1, q2⟩ := hfc y hmem
    have hnc : (y, NameKind.cell) ∉ scope.names := fun q => by
      have := (ok.cel y q).1
      rw [h1] at this; cases this
    exact ⟨c, by rw [cellsFrom_not hnc, clo_lookup (.inl hmem) ⟨c, q1⟩, q1], q2⟩
  refine ⟨⟨by show (relabel scope env).kind = _; exact ok.kind, F.gl, F.bu, ⟨fun _ => none, (Heap.Ns.new h (.type "dict")).keeps hs1, fun y hy => ?_⟩, fun y hy => ?_⟩, hs, hsz, fun hx => ?_, fun y c hyx hy e => ?_⟩
  · -- locals
    have hy' : (relabel scope env).names.lookup y = some .local := hy
    obtain ⟨k', h1, h2⟩ := kind_relabel hy'
    have h3 : k' = .local := by rcases h2 with h2 | h2; exact h2; cases h2.2
    subst h3
    have := (ok.loc y (lookup_mem h1)).2
    show none = m0 m x y
    unfold m0
    rw [if_pos this]
  · -- cells
    have hy' : (relabel scope env).names.lookup y = some .cell ∨ (relabel scope env).names.lookup y = some .free := hy
    have h1 := kk y hy'
    rcases h1 with h1 | h1
    · have hyx := (ok.cel y (lookup_mem h1)).2
      obtain ⟨c, q1, q2, q3⟩ := cellsFrom_yes (h := h.push { cls := .type "dict", data := .dict #[] }) (acc := clo env scope.names []) (lookup_mem h1)
      rw [Heap.size_push] at q1
      refine ⟨c, q1, ?_⟩
      have : m0 m x y = none := by unfold m0; rw [if_pos (.inl hyx)]
      rw [this, e]; exact q3
    · have hmem := lookup_mem h1
      obtain ⟨c, q1, q2⟩ := hfc y hmem
      have hnc : (y, NameKind.cell) ∉ scope.names := fun q => by
        have := (ok.cel y q).1
        rw [h1] at this; cases this
      have hnl : ¬ (y = x ∨ y = (".0" : Str)) := by
        rintro (q | q)
        · subst q
          rcases ok.own with q | q <;> (rw [h1] at q; cases q)
        · exact (ok.free _ hmem).2 q
      refine ⟨c, ?_, ?_⟩
      · show (cellsFrom (h.objs.size + 1) scope.names (clo env scope.names [])).lookup y = some c
        rw [cellsFrom_not hnc, clo_lookup (.inl hmem) ⟨c, q1⟩, q1]
      · have : m0 m x y = m y := by unfold m0; rw [if_neg hnl]
        rw [this]; exact q2.keeps hs
  · obtain ⟨c, q1, q2, q3⟩ := cellsFrom_yes (h := h.push { cls := .type "dict", data := .dict #[] }) (acc := clo env scope.names []) (lookup_mem hx)
    rw [Heap.size_push] at q1 q2
    exact ⟨c, q1, by omega⟩
  · rcases kk y hy with h1 | h1
    · exact absurd (ok.cel y (lookup_mem h1)).2 hyx
    · obtain ⟨c', q1, q2⟩ := fl y h1
      rw [e] at q1; cases q1; exact q2
end
end Mine

end
/-! Fw4 -/
section
open PySem PySem.W PyProof.Rows PySem.Calls
set_option maxRecDepth 100000
set_option linter.all false
namespace Mine

/-- an iterator over values that are told by ts -/
def Itr (C : Cx) (A : Around) (ts : List T) (p : Addr → Prop) (h1 : Heap) (h2 : Heap) (Ia : Addr) : Prop :=
  ∃ fp wr P St, Walks C.prog C.w A Ia fp wr ts.length P St ∧ St 0 h2 ∧ (∀ (i : Nat) v t, P i v → ts[i]? = some t → t.P (vw p h1) v) ∧ (∀ b ∈ wr, h1.get? b = none) ∧ (∀ b ∈ fp, b < h2.objs.size) ∧
    (∀ i h, St i h → ∀ b ∈ fp, ∃ o, h.get? b = some o) ∧ (∀ b ∈ fp, ¬ p b) ∧ (∀ b ∈ fp, ∀ o, h2.get? b = some o → ∀ v, o.data ≠ .cell v)
def Io (C : Cx) (n : Nat) (env : Env) (ρ : Rho) (e : Expr) (ts : List T) : Prop := ∀ A m p s, Sit C n env ρ A m p s →
  wpAny (model C.prog C.w) A (eval e env) (fun x s1 => Keeps s s1 ∧ wpAny (model C.prog C.w) A (pyIter x) (fun it s2 => Keeps s1 s2 ∧ ∃ Ia, it = .ref Ia ∧ Itr C A ts p s1.heap s2.heap Ia) noE s1) noE s

section
variable {C : Cx} {n : Nat} {env : Env} {ρ : Rho}

def InEv (C : Cx) (n : Nat) (env : Env) (ρ : Rho) (scope : Scope) (x : Str) (t : T) (e : Expr) (u : T) : Prop := ∀ cs L0, Ev C n (cenv scope cs L0 env) ((x, t) :: ρ) e u
def InTr (C : Cx) (n : Nat) (env : Env) (ρ : Rho) (scope : Scope) (x : Str) (t : T) (e : Expr) (b : Bool) : Prop := ∀ cs L0, Tr C n (cenv scope cs L0 env) ((x, t) :: ρ) e b

/-- what a comprehension's turns give -/
inductive CR (C : Cx) (n : Nat) (env : Env) (ρ : Rho) (scope : Scope) (x : Str) (ifs : List Expr) (elt : Expr) : List T → List T → Prop
  | nil : CR C n env ρ scope x ifs elt [] []
  | yes {t u : T} {ts us : List T} : (∀ c ∈ ifs, InTr C n env ρ scope x t c true) → InEv C n env ρ scope x t elt u → CR C n env ρ scope x ifs elt ts us → CR C n env ρ scope x ifs elt (t :: ts) (u :: us)
  | no {t : T} {ts us : List T} {c : Expr} : ifs = [c] → InTr C n env ρ scope x t c false → CR C n env ρ scope x ifs elt ts us → CR C n env ρ scope x ifs elt (t :: ts) us

theorem FrR.but {m : Str → Option Value} {h h' : Heap} {D : Addr} {vs : List Value} {k : Nat} (F : FrR env m h) (hD : h.get? D = some (lst vs k)) (hk : ∀ b o, b ≠ D → h.get? b = some o → h'.get? b = some o) : FrR env m h' := by
  refine { F with loc := ?_, cel := ?_ }
  · obtain ⟨ml, ⟨o, es, ep, h1, h2, h3⟩, h4⟩ := F.loc
    refine ⟨ml, ⟨o, es, ep, hk _ _ ?_ h1, h2, h3⟩, h4⟩
    rintro rfl
    rw [hD] at h1; cases h1; cases h2
  · intro x hx
    obtain ⟨c, h1, o, h2, h3⟩ := F.cel x hx
    refine ⟨c, h1, o, hk _ _ ?_ h2, h3⟩
    rintro rfl
    rw [hD] at h2; cases h2; cases h3
theorem FrR.butL {m : Str → Option Value} {h h' : Heap} {wr : List Addr} (F : FrR env m h) (hl : env.locals ∉ wr) (hc : ∀ y c, (env.kindOf y = some .cell ∨ env.kindOf y = some .free) → env.cells.lookup y = some c → c ∉ wr)
    (hk : ∀ b o, b ∉ wr → h.get? b = some o → h'.get? b = some o) : FrR env m h' := by
  refine { F with loc := ?_, cel := ?_ }
  · obtain ⟨ml, ⟨o, es, ep, h1, h2, h3⟩, h4⟩ := F.loc
    exact ⟨ml, ⟨o, es, ep, hk _ _ hl h1, h2, h3⟩, h4⟩
  · intro x hx
    obtain ⟨c, h1, o, h2, h3⟩ := F.cel x hx
    exact ⟨c, h1, o, hk _ _ (hc x c hx h1) h2, h3⟩

/-- where a name is kept -/
def tgt (env : Env) (x : Str) : Addr := if env.kindOf x = some .local then env.locals else (env.cells.lookup x).getD 0

theorem store_wp {M : Model} {A : Around} {m : Str → Option Value} {s : Shared} {x : Str} {v : Value} {E : Value → Shared → Prop} {Q : Unit → Shared → Prop} (F : FrR env m s.heap) (hx : env.kindOf x = some .local ∨ env.kindOf x = some .cell)
    (hi : ∀ y c, y ≠ x → (env.kindOf y = some .cell ∨ env.kindOf y = some .free) → env.cells.lookup y = some c → env.kindOf x = some .cell → env.cells.lookup x ≠ some c)
    (h : ∀ h' tk, FrR env (upd m x v) h' → Heap.SameBut (tgt env x) s.heap h' → Q () { s with heap := h', toks := tk }) : wpAny M A (storeName env x v) Q E s := by
  have hp : (env.scope.kind == .class || (env.scope.kind == .module && env.locals != env.globals)) = false := by rw [F.kind]; rfl
  rcases hx with hx | hx
  · obtain ⟨ml, hn, hl⟩ := F.loc
    refine wpAny_storeName_local hx hn (fun h' hn' hs' => h h' _ ?_ (by unfold tgt; rw [if_pos hx]; exact hs')) hp
    refine { F with loc := ⟨_, hn', fun y hy => ?_⟩, cel := fun y hy => ?_ }
    · unfold upd; by_cases e : y = x
      · simp [e]
      · simp only [e, if_false]; exact hl y hy
    · obtain ⟨c, h1, h2⟩ := F.cel y hy
      have hyx : y ≠ x := by rintro rfl; rcases hy with q | q <;> (rw [hx] at q; cases q)
      have : upd m x v y = m y := by unfold upd; rw [if_neg hyx]
      rw [this]
      refine ⟨c, h1, h2.sameBut hs' ?_⟩
      rintro rfl
      obtain ⟨o, e1, e2⟩ := h2
      obtain ⟨o', es, ep, e3, e4, _⟩ := hn
      rw [e1] at e3; cases e3; rw [e2] at e4; cases e4
  · obtain ⟨c, h1, h2⟩ := F.cel x (.inl hx)
    refine wpAny_storeName_cell F.kind hx h1 h2 (fun h' hc' hs' => h h' s.toks ?_ (by unfold tgt; rw [if_neg (by rw [hx]; decide), h1]; exact hs'))
    obtain ⟨ml, hn, hl⟩ := F.loc
    refine { F with loc := ⟨ml, hn.sameBut hs' ?_, fun y hy => ?_⟩, cel := fun y hy => ?_ }
    · rintro rfl
      obtain ⟨o, e1, e2⟩ := h2
      obtain ⟨o', es, ep, e3, e4, _⟩ := hn
      rw [e1] at e3; cases e3; rw [e2] at e4; cases e4
    · have hyx : y ≠ x := by rintro rfl; rw [hx] at hy; cases hy
      unfold upd; rw [if_neg hyx]; exact hl y hy
    · obtain ⟨d, q1, q2⟩ := F.cel y hy
      by_cases e : y = x
      · subst e
        have : upd m y v y = some v := by unfold upd; simp
        rw [this]; exact ⟨c, h1, hc'⟩
      · have : upd m x v y = m y := by unfold upd; rw [if_neg e]
        rw [this]
        refine ⟨d, q1, q2.sameBut hs' ?_⟩
        rintro rfl
        exact hi y d e hy q1 hx h1

theorem vw_sub {p p1 : Addr → Prop} {h h' : Heap} (hk : ∀ b o, ¬ p b → h.get? b = some o → ¬ p1 b ∧ h'.get? b = some o) : Sub (vw p h) (vw p1 h') := fun b o x => hk b o x.1 x.2
theorem vw_less {p p1 : Addr → Prop} {h : Heap} (hk : ∀ b, p b → p1 b) : Sub (vw p1 h) (vw p h) := fun b o x => ⟨fun q => x.1 (hk b q), x.2⟩

theorem upd_ne {m : Str → Option Value} {x y : Str} {v : Value} (h : y ≠ x) : upd m x v y = m y := by unfold upd; rw [if_neg h]

theorem Vars.put' {m : Str → Option Value} {g : View} {x : Str} {t : T} {v : Value} (h : ∀ y u, y ≠ x → ρ.lookup y = some u → ∃ w, m y = some w ∧ u.P g w) (ht : t.P g v) : Vars (upd m x v) g ((x, t) :: ρ) := by
  intro y u e
  rw [List.lookup_cons] at e
  unfold upd
  by_cases hy : y = x
  · subst hy
    simp at e
    subst e
    exact ⟨v, by simp, ht⟩
  · have : (y == x) = false := by simpa using hy
    rw [this] at e
    simp only [hy, if_false]
    exact h y u hy e

/-- a comprehension's loop over an iterator -/
theorem comp_loop {A : Around} {s1 s : Shared} {m mm : Str → Option Value} {p : Addr → Prop} {ce : Env} {scope : Scope} {x : Str} {px : Pos} {iter elt : Expr} {ifs : List Expr} {pos : Pos} {ts us : List T} {Ia D : Addr}
    {fp wr : List Addr} {P : Nat → Value → Prop} {St : Nat → Heap → Prop} {cs : List (Str × Addr)} {L0 : Addr}
    (hce : ce = cenv scope cs L0 env)
    (hA : AOk n A) (hG : GOk C s1.heap) (hpin : Pin p s1.heap) (hv : Vars m (vw p s1.heap) ρ) (hρ : ρ.lookup (".0" : Str) = none)
    (hk1 : Hs s1.heap s.heap) (F : FrR ce mm s.heap) (hmm : ∀ y, y ≠ x → y ≠ (".0" : Str) → mm y = m y)
    (W : Walks C.prog C.w A Ia fp wr ts.length P St) (hst : St 0 s.heap) (hty : ∀ (i : Nat) v t, P i v → ts[i]? = some t → t.P (vw p s1.heap) v)
    (hwe : ∀ i h, St i h → ∀ b ∈ wr, ∃ o, h.get? b = some o)
    (hD : s.heap.get? D = some (lst [] 0)) (hDf : D ∉ fp) (hLf : ce.locals ∉ fp) (hcf : ∀ y c, (ce.kindOf y = some .cell ∨ ce.kindOf y = some .free) → ce.cells.lookup y = some c → c ∉ fp)
    (hx : ce.kindOf x = some .local ∨ ce.kindOf x = some .cell)
    (hi : ∀ y c, y ≠ x → (ce.kindOf y = some .cell ∨ ce.kindOf y = some .free) → ce.cells.lookup y = some c → ce.kindOf x = some .cell → ce.cells.lookup x ≠ some c)
    (fD : s1.heap.get? D = none) (fT : s1.heap.get? (tgt ce x) = none) (fL : s1.heap.get? ce.locals = none) (fW : ∀ b ∈ wr, s1.heap.get? b = none)
    (hifs : ifs.length ≤ 1) (hcr : CR C n env ρ scope x ifs elt ts us) (hsz : ts.length ≤ 4096)
    {R : Result → Shared → Prop}
    (hR : ∀ h' tk vs k ml, Hs s1.heap h' → (∀ b o, b ≠ D → b ≠ tgt ce x → b ∉ wr → s.heap.get? b = some o → h'.get? b = some o) → h'.Ns ce.locals ml → h'.get? D = some (lst vs k) →
      Fa (vw p h') us vs → (∀ g, (∀ b o, b ≠ D → h'.get? b = some o → ¬ p b → b ≠ ce.locals → b ≠ tgt ce x → b ∉ wr → g b o) → Fa g us vs) → R (.ok .next) { s with heap := h', toks := tk }) :
    codeAny (model C.prog C.w) A (.compLoop (.ListComp elt [⟨.Name x px, iter, ifs, 0⟩] scope pos) 0 (.ref Ia) (.ref D) ce) R s := by
  -- the addresses that turn
  let p1 : Addr → Prop := fun b => p b ∨ b = D ∨ b = tgt ce x ∨ b = ce.locals ∨ b ∈ wr
  have fr : ∀ b, (b = D ∨ b = tgt ce x ∨ b = ce.locals ∨ b ∈ wr) → s1.heap.get? b = none := by
    rintro b (rfl | rfl | rfl | q)
    · exact fD
    · exact fT
    · exact fL
    · exact fW b q
  have hwf : ∀ b ∈ wr, b ∈ fp := W.sub
  have tex : ∀ {m' h}, FrR ce m' h → ∃ o, h.get? (tgt ce x) = some o ∧ ∀ vs k, o ≠ lst vs k := by
    intro m' h F
    unfold tgt
    rcases hx with q | q
    · rw [if_pos q]
      obtain ⟨ml, ⟨o, es, ep, e1, e2, _⟩, _⟩ := F.loc
      exact ⟨o, e1, fun vs k e => by rw [e] at e2; cases e2⟩
    · rw [if_neg (by rw [q]; decide)]
      obtain ⟨c, e1, o, e2, e3⟩ := F.cel x (.inl q)
      rw [e1]
      exact ⟨o, e2, fun vs k e => by rw [e] at e3; cases e3⟩
  have tDne : tgt ce x ≠ D := fun e => by
    obtain ⟨o, e1, e2⟩ := tex F
    rw [e, hD] at e1
    exact e2 _ _ (Option.some.inj e1).symm
  have tfp : tgt ce x ∉ fp := by
    unfold tgt
    rcases hx with q | q
    · rw [if_pos q]; exact hLf
    · rw [if_neg (by rw [q]; decide)]
      obtain ⟨c, e1, _⟩ := F.cel x (.inl q)
      rw [e1]; exact hcf x c (.inl q) e1
  refine codeAny_compLoop_tests
    (fun k s' => ∃ h tk m' vs nn us1 us2 i, s' = { s with heap := h, toks := tk } ∧ i ≤ ts.length ∧ k = ts.length + 1 - i ∧ St i h ∧ h.get? D = some (lst vs nn) ∧ FrR ce m' h ∧ (∀ y, y ≠ x → m' y = mm y) ∧
      CR C n env ρ scope x ifs elt (ts.drop i) us2 ∧ us = us1 ++ us2 ∧ Fa (vw p1 h) us1 vs ∧ us1.length ≤ i ∧ (∀ b o, b ≠ D → b ≠ tgt ce x → b ∉ wr → s.heap.get? b = some o → h.get? b = some o)) ?_ (ts.length + 1)
    ⟨s.heap, s.toks, mm, [], 0, [], us, 0, rfl, Nat.zero_le _, rfl, hst, hD, F, fun _ _ => rfl, by simpa using hcr, rfl, trivial, Nat.le_refl _, fun _ _ _ _ _ e => e⟩
  rintro k s' ⟨h, tk, m', vs, nn, us1, us2, i, rfl, hile, rfl, hSt, hDh, hF, hm', hcr', rfl, hfa, hul, hkp⟩
  have hs1 : Hs s1.heap h := fun b o e => by
    refine hkp b o ?_ ?_ ?_ (hk1 b o e)
    · rintro rfl; rw [fD] at e; cases e
    · rintro rfl; rw [fT] at e; cases e
    · intro q; rw [fW b q] at e; cases e
  have hvl := hfa.length
  by_cases hlt : i < ts.length
  · obtain ⟨t, ht⟩ : ∃ t, ts[i]? = some t := ⟨_, List.getElem?_eq_getElem hlt⟩
    have hdrop : ts.drop i = t :: ts.drop (i + 1) := by
      rw [List.getElem?_eq_getElem hlt] at ht
      rw [← Option.some.inj ht]; exact List.drop_eq_getElem_cons hlt
    refine W.item i _ _ _ hlt hSt fun v h₁ tk₁ hPv hSt₁ hk₁ => ?_
    have F₁ : FrR ce m' h₁ := hF.butL (fun q => hLf (hwf _ q)) (fun y c q1 q2 q3 => hcf y c q1 q2 (hwf _ q3)) hk₁
    have hD₁ : h₁.get? D = some (lst vs nn) := hk₁ _ _ (fun q => hDf (hwf _ q)) hDh
    refine wpAny_assign_Name (store_wp (s := { s with heap := h₁, toks := tk₁ }) F₁ hx hi fun h₂ tk₂ F₂ hs₂ => ?_)
    have hD₂ : h₂.get? D = some (lst vs nn) := hs₂.extBut _ _ (Ne.symm tDne) hD₁
    have hSt₂ : St (i + 1) h₂ := W.frame _ _ _ hSt₁ fun b hb o e => hs₂.extBut b o (fun q => tfp (q ▸ hb)) e
    have up₂ : ∀ b o, b ≠ tgt ce x → b ∉ wr → h.get? b = some o → h₂.get? b = some o := fun b o q1 q2 e => hs₂.extBut b o q1 (hk₁ b o q2 e)
    have hs1₂ : Hs s1.heap h₂ := fun b o e => up₂ b o (by rintro rfl; rw [fT] at e; cases e) (fun q => by rw [fW b q] at e; cases e) (hs1 b o e)
    have tP : t.P (vw p s1.heap) v := hty i v t hPv ht
    have sub1 : ∀ {h'}, Hs s1.heap h' → Sub (vw p s1.heap) (vw p1 h') := fun hh => vw_sub fun b o q e => ⟨fun q' => q'.elim q (fun q' => by rw [fr b q'] at e; cases e), hh b o e⟩
    have pin1 : ∀ {h' m''}, Hs s1.heap h' → FrR ce m'' h' → (∃ o, h'.get? D = some o) → St (i + 1) h' → Pin p1 h' := by
      intro h' m'' hh FF hd hst'
      rintro b (q | rfl | rfl | rfl | q)
      · exact (hpin.keeps hh) b q
      · exact hd
      · obtain ⟨o, e, _⟩ := tex FF; exact ⟨o, e⟩
      · obtain ⟨ml, ⟨o, _, _, e, _⟩, _⟩ := FF.loc; exact ⟨o, e⟩
      · exact hwe _ _ hst' b q
    have sit₂ : Sit C n ce ((x, t) :: ρ) A (upd m' x v) p1 { s with heap := h₂, toks := tk₂ } := by
      refine ⟨hA, F₂, ?_, hG.keeps hs1₂, pin1 hs1₂ F₂ ⟨_, hD₂⟩ hSt₂⟩
      refine Vars.put' (fun y u hyx e' => ?_) (t.mono (sub1 hs1₂) tP)
      obtain ⟨w', h1, h2⟩ := hv y u e'
      refine ⟨w', ?_, u.mono (sub1 hs1₂) h2⟩
      rw [hm' y hyx, hmm y hyx (by rintro rfl; rw [hρ] at e'; cases e'), h1]
    subst hce
    have kk : ∀ {h3 : Heap}, Hs h₂ h3 → (∀ b o, b ≠ D → b ≠ tgt (cenv scope cs L0 env) x → b ∉ wr → s.heap.get? b = some o → h3.get? b = some o) := fun q b o q1 q2 q3 e => q b o (up₂ b o q2 q3 (hkp b o q1 q2 q3 e))
    -- the test
    have test : ∀ (b : Bool), (∀ c, ifs = [c] → InTr C n env ρ scope x t c b) → (ifs = [] → b = true) →
        ∀ (Q : Bool → Shared → Prop) E, (∀ h3 tk3, Hs h₂ h3 → Q b { s with heap := h3, toks := tk3 }) →
        wpAny (model C.prog C.w) A (forIn ifs true fun c r => if r = true then do let ok ← isTrue c (cenv scope cs L0 env) (eval c (cenv scope cs L0 env)); pure (ForInStep.yield ok) else pure (ForInStep.yield r)) Q E { s with heap := h₂, toks := tk₂ } := by
      intro b hb hb0 Q E hQ
      match ifs, hifs with
      | [], _ => exact wpAny_tests_nil (hb0 rfl ▸ hQ h₂ tk₂ fun _ _ e => e)
      | [c], _ =>
        refine wpAny_tests_one (wpAny_mono (hb c rfl cs L0 _ _ _ _ sit₂) (fun b' s3 x3 => ?_) fun _ _ q => q.elim)
        obtain ⟨rfl, h3, tk3, rfl, k3⟩ := x3
        exact hQ h3 tk3 k3
    rw [hdrop] at hcr'
    cases hcr' with
    | yes h1 h2 h3 =>
      rename_i u us2
      refine test true (fun c hc => h1 c (by rw [hc]; exact .head _)) (fun _ => rfl) _ _ fun h3' tk3 k3 => ?_
      simp only [if_true]
      have sit₃ := sit₂.keeps (s' := { s with heap := h3', toks := tk3 }) ⟨h3', tk3, rfl, k3⟩
      refine wpAny_mono (h2 cs L0 _ _ _ _ sit₃) (fun y s4 x4 => ?_) fun _ _ q => q.elim
      obtain ⟨⟨h4, tk4, rfl, k4⟩, hy⟩ := x4
      have k24 : Hs h₂ h4 := fun b o e => k4 b o (k3 b o e)
      have hD₄ : h4.get? D = some (lst vs nn) := k24 _ _ hD₂
      refine wpAny_list_append_plain (hsz := by rw [List.size_toArray, sizeLine_eq]; omega) (items := vs.toArray) ⟨nn, hD₄⟩ fun h5 hl5 hs5 => ?_
      obtain ⟨n5, hl5⟩ := hl5
      have hl5' : h5.get? D = some (lst (vs ++ [y]) n5) := by simpa using hl5
      refine ⟨ts.length + 1 - (i + 1), by omega, h5, tk4, upd m' x v, vs ++ [y], n5, us1 ++ [u], us2, i + 1, rfl, hlt, rfl, ?_, hl5', ?_, fun z hz => by rw [upd_ne hz]; exact hm' z hz, h3, by simp, ?_, by rw [List.length_append, List.length_singleton]; omega, ?_⟩
      · exact W.frame _ _ _ hSt₂ fun b hb o e => hs5.extBut b o (fun q => hDf (q ▸ hb)) (k24 b o e)
      · exact (F₂.keeps k24).but hD₄ fun b o q e => hs5.extBut b o q e
      · refine Fa.append ?_ ⟨?_, trivial⟩
        · refine Fa.mono (fun b o q => ⟨q.1, ?_⟩) hfa
          exact hs5.extBut b o (fun e => q.1 (.inr (.inl e))) (k24 b o (up₂ b o (fun e => q.1 (.inr (.inr (.inl e)))) (fun e => q.1 (.inr (.inr (.inr (.inr e))))) q.2))
        · exact u.mono (fun b o q => ⟨q.1, hs5.extBut b o (fun e => q.1 (.inr (.inl e))) q.2⟩) hy
      · exact fun b o q1 q2 q3 e => hs5.extBut b o q1 (k24 b o (up₂ b o q2 q3 (hkp b o q1 q2 q3 e)))
    | no h1 h2 h3 =>
      rename_i c
      refine test false (fun c' hc => by rw [h1] at hc; cases hc; exact h2) (fun q => by rw [q] at h1; cases h1) _ _ fun h3' tk3 k3 => ?_
      simp only [Bool.false_eq_true, if_false]
      refine ⟨ts.length + 1 - (i + 1), by omega, h3', tk3, upd m' x v, vs, nn, us1, us2, i + 1, rfl, hlt, rfl, ?_, k3 _ _ hD₂, F₂.keeps k3, fun z hz => by rw [upd_ne hz]; exact hm' z hz, h3, rfl, ?_, by omega, ?_⟩
      · exact W.frame _ _ _ hSt₂ fun b hb o e => k3 b o e
      · refine Fa.mono (fun b o q => ⟨q.1, ?_⟩) hfa
        exact k3 b o (up₂ b o (fun e => q.1 (.inr (.inr (.inl e)))) (fun e => q.1 (.inr (.inr (.inr (.inr e))))) q.2)
      · exact fun b o q1 q2 q3 e => k3 b o (up₂ b o q2 q3 (hkp b o q1 q2 q3 e))
  · have hie : i = ts.length := by omega
    subst hie
    rw [List.drop_length] at hcr'
    cases hcr'
    refine W.done _ _ _ hSt fun h₁ tk₁ hk₁ => ?_
    have F₁ : FrR ce m' h₁ := hF.butL (fun q => hLf (hwf _ q)) (fun y c q1 q2 q3 => hcf y c q1 q2 (hwf _ q3)) hk₁
    obtain ⟨ml, hn, _⟩ := F₁.loc
    rw [List.append_nil] at hR
    refine hR h₁ tk₁ vs nn ml (fun b o e => hk₁ b o (fun q => by rw [fW b q] at e; cases e) (hs1 b o e)) (fun b o q1 q2 q3 e => hk₁ b o q3 (hkp b o q1 q2 q3 e)) hn (hk₁ _ _ (fun q => hDf (hwf _ q)) hDh) ?_ ?_
    · refine Fa.mono (fun b o q => ⟨fun z => q.1 (.inl z), ?_⟩) hfa
      exact hk₁ b o (fun e => q.1 (.inr (.inr (.inr (.inr e))))) q.2
    · intro g hg
      refine Fa.mono (fun b o q => ?_) hfa
      have nw : b ∉ wr := fun e => q.1 (.inr (.inr (.inr (.inr e))))
      exact hg b o (fun e => q.1 (.inr (.inl e))) (hk₁ b o nw q.2) (fun z => q.1 (.inl z)) (fun e => q.1 (.inr (.inr (.inr (.inl e))))) (fun e => q.1 (.inr (.inr (.inl e)))) nw
end
end Mine

end
/-! Fw5 -/
section
open PySem PySem.W PyProof.Rows PySem.Calls
set_option maxRecDepth 100000
set_option linter.all false
namespace Mine
section
variable {C : Cx} {n : Nat} {env : Env} {ρ : Rho}

theorem push_lt {h : Heap} {o : Obj} {b : Addr} (hb : b < h.objs.size) : (h.push o).get? b = h.get? b := by
  unfold Heap.get? Heap.push
  simp only [Array.getElem?_push]
  rw [if_neg (Nat.ne_of_lt hb)]
theorem get_none {h : Heap} {b : Addr} (hb : h.objs.size ≤ b) : h.get? b = none := by
  cases e : h.get? b with
  | none => rfl
  | some o => exact absurd (Heap.lt_size e) (Nat.not_lt.mpr hb)

theorem lookup_relabel_cell {scope : Scope} {x : Str} (h : scope.names.lookup x = some .cell) : (relabel scope env).names.lookup x = some .cell := by
    unfold relabel
    simp only
    generalize scope.names = l at h ⊢
    induction l with
    | nil => simp at h
    | cons y r ih =>
      obtain ⟨y, ky⟩ := y
      rw [List.map_cons, List.lookup_cons]
      rw [List.lookup_cons] at h
      by_cases hx : (x == y) = true
      · rw [hx] at h
        cases h
        by_cases hc : (NameKind.cell == NameKind.free && env.scope.kind == .function && env.kindOf y == some .cell) = true
        · simp at hc
        · simp only [hc, if_false, Bool.false_eq_true, hx]
      · have hx' : (x == y) = false := by simpa using hx
        rw [hx'] at h
        have := ih h
        by_cases hc : (ky == NameKind.free && env.scope.kind == .function && env.kindOf y == some .cell) = true
        · simp only [hc, if_true, hx']; exact this
        · simp only [hc, if_false, Bool.false_eq_true, hx']; exact this

theorem comp_core {A : Around} {m : Str → Option Value} {p : Addr → Prop} {s : Shared} {scope : Scope} {x : Str} {px : Pos} {iter elt : Expr} {ifs : List Expr} {pos pos' : Pos} {ts us : List T}
    {use : Option (Value → Sem Unit)} {Q : Value → Shared → Prop}
    (st : Sit C n env ρ A m p s) (hio : Io C n env ρ iter ts) (ok0 : scopeOK env scope x = true) (hρ : ρ.lookup (".0" : Str) = none) (hifs : ifs.length ≤ 1) (hcr : CR C n env ρ scope x ifs elt ts us) (hsz : ts.length ≤ 4096)
    (hs : ∀ v, foldedSetIterable iter env v = pure v)
    (hfin : ∀ D L0 s' ml vs k, Keeps s s' → s'.heap.Ns L0 ml → s.heap.get? L0 = none → s.heap.get? D = none → s'.heap.get? D = some (lst vs k) →
      (∀ h', (∀ b o, ¬ p b → b ≠ L0 → s'.heap.get? b = some o → h'.get? b = some o) → (LL us).P (vw p h') (.ref D)) → compPost (model C.prog C.w) A noE use Q (.ref D) L0 (.ok .next) s') :
    wpAny (model C.prog C.w) A (comprehension (.ListComp elt [⟨.Name x px, iter, ifs, 0⟩] scope pos) scope env pos' (newList []) false (eval iter env) use) Q noE s := by
  have ok := scopeOK_is ok0
  refine wpAny_comprehension_free (g := ⟨.Name x px, iter, ifs, 0⟩) (gs := []) rfl hs (closure_is fun y hy => ?_) ok.kind (fun y hy e => (ok.loc y.1 (by rw [← e]; exact hy)).1) ?_
  · obtain ⟨c, h1, _⟩ := st.f.cel y (ok.free y hy).1
    exact ⟨c, h1⟩
  refine wpAny_mono (hio _ _ _ _ st) (fun xv s1 x1 => ?_) fun _ _ q => q
  obtain ⟨k1, x1⟩ := x1
  refine wpAny_mono x1 (fun it s2 x2 => ?_) fun _ _ q => q
  obtain ⟨k2, Ia, rfl, fp, wr, P, St, W, hst, hty, hwf, hfs, hwe, hfp, hfc⟩ := x2
  have st1 := st.keeps k1
  have st2 := st1.keeps k2
  refine wpAny_newObj_type (nfe ?_)
  dsimp only
  generalize hH : s2.heap.push { cls := .type "list", dict := none, data := .seq ([] : List Value).toArray } = H
  have hHD : H.get? s2.heap.objs.size = some (lst [] 0) := by rw [← hH]; exact Heap.get?_push_size _ rfl
  have hHk : Hs s2.heap H := fun b o e => by rw [← hH]; exact Heap.get?_push_of_some _ e
  have hHs : H.objs.size = s2.heap.objs.size + 1 := by rw [← hH, Heap.size_push]
  obtain ⟨F, hs4, hsz4, hown, hcl⟩ := frr_comp (st2.f.keeps hHk) ok (h' := pushCells (H.push { cls := .type "dict", data := .dict #[] }) scope.names) rfl
  generalize hH4 : pushCells (H.push { cls := .type "dict", data := .dict #[] }) scope.names = H4 at F hs4 hsz4
  generalize hcs : cellsFrom (H.objs.size + 1) scope.names (clo env scope.names []) = cs at F hown hcl
  have k12 := keeps_hs k2
  have k1H : Hs s1.heap H := fun b o e => hHk b o (k12 b o e)
  have k14 : Hs s1.heap H4 := fun b o e => hs4 b o (k1H b o e)
  have n1 : ∀ b, s2.heap.objs.size ≤ b → s1.heap.get? b = none := fun b hb => by
    cases e : s1.heap.get? b with
    | none => rfl
    | some o => exact absurd (Heap.lt_size (k12 b o e)) (Nat.not_lt.mpr hb)
  have ns : ∀ b, s1.heap.get? b = none → s.heap.get? b = none := fun b e => by
    cases e' : s.heap.get? b with
    | none => rfl
    | some o => rw [keeps_hs k1 b o e'] at e; cases e
  have hxk : (cenv scope cs H.objs.size env).kindOf x = some .local ∨ (cenv scope cs H.objs.size env).kindOf x = some .cell := by
    rcases ok.own with q | q
    · exact .inl (lookup_relabel_local q)
    · exact .inr (lookup_relabel_cell q)
  have htgt : s2.heap.objs.size ≤ tgt (cenv scope cs H.objs.size env) x ∧ tgt (cenv scope cs H.objs.size env) x ∉ fp := by
    unfold tgt
    rcases hxk with q | q
    · rw [if_pos q]
      exact ⟨by show _ ≤ H.objs.size; omega, fun hm => by have := hfs _ hm; have : H.objs.size < s2.heap.objs.size := this; omega⟩
    · rw [if_neg (by rw [q]; decide)]
      have : scope.names.lookup x = some .cell := by
        rcases ok.own with q' | q'
        · have := lookup_relabel_local (env := env) q'
          have q2 : (relabel scope env).names.lookup x = some .cell := q
          unfold relabel at q2
          rw [this] at q2; cases q2
        · exact q'
      obtain ⟨c, e1, e2⟩ := hown this
      have e3 : (cenv scope cs H.objs.size env).cells.lookup x = some c := e1
      rw [e3]
      have e4 : s2.heap.objs.size ≤ c := Nat.le_trans (Nat.le_succ _) (Nat.le_trans (Nat.le_of_eq hHs.symm) (Nat.le_of_lt e2))
      exact ⟨e4, fun hm => Nat.lt_irrefl _ (Nat.lt_of_lt_of_le (hfs _ hm) e4)⟩
  have loop : ∀ s4 : Shared, s4 = { s2 with heap := H4 } →
      codeAny (model C.prog C.w) A (.compLoop (.ListComp elt [⟨.Name x px, iter, ifs, 0⟩] scope pos) 0 (.ref Ia) (.ref s2.heap.objs.size) (cenv scope cs H.objs.size env))
        (compPost (model C.prog C.w) A noE use Q (.ref s2.heap.objs.size) H.objs.size) s4 := by
    rintro s4 rfl
    refine comp_loop (s1 := s1) (ρ := ρ) (us := us) (p := p) rfl st.a st1.g st1.pin st1.v hρ k14 F (fun y q1 q2 => by unfold m0; rw [if_neg (fun q => q.elim q1 q2)]) W ?_ hty (fun i h st b hb => hwe i h st b (W.sub b hb)) (hs4 _ _ hHD)
      (fun hm => Nat.lt_irrefl _ (hfs _ hm)) (fun hm => ?_) (fun y c hy e hm => ?_) hxk (fun y c hyx hy e hx e' => ?_) (n1 _ (Nat.le_refl _)) (n1 _ htgt.1) (n1 _ (by show _ ≤ H.objs.size; omega)) hwf hifs hcr hsz ?_
    · exact W.frame _ _ _ hst fun b _ o e => hs4 b o (hHk b o e)
    · have : H.objs.size < s2.heap.objs.size := hfs _ hm
      omega
    · by_cases hyx : y = x
      · subst hyx
        have : c = tgt (cenv scope cs H.objs.size env) y := by
          unfold tgt
          rcases hxk with q | q
          · rcases hy with q' | q' <;> (rw [q] at q'; cases q')
          · rw [if_neg (by rw [q]; decide), e]; rfl
        exact htgt.2 (this ▸ hm)
      · obtain ⟨o, e1, e2⟩ := hcl y c hyx hy e
        have hlt := hfs _ hm
        have e1' : s2.heap.get? c = some o := by
          rw [← hH] at e1
          rwa [push_lt hlt] at e1
        exact hfc c hm o e1' _ e2
    · obtain ⟨o, e1, e2⟩ := hcl y c hyx hy e
      have hlt := Heap.lt_size e1
      have hxc : scope.names.lookup x = some .cell := by
        rcases ok.own with q' | q'
        · have := lookup_relabel_local (env := env) q'
          have q2 : (relabel scope env).names.lookup x = some .cell := hx
          unfold relabel at q2
          rw [this] at q2; cases q2
        · exact q'
      obtain ⟨d, e3, e4⟩ := hown hxc
      have e5 : cs.lookup x = some c := e'
      rw [e3] at e5; cases e5
      exact Nat.lt_irrefl _ (Nat.lt_trans e4 hlt)
    · intro h' tk vs k ml hk _ hns hD hfa hfg
      have kk : Keeps s { s2 with heap := h', toks := tk } := by
        have k1' := keeps_hs k1
        obtain ⟨ha, ta, rfl, _⟩ := k1
        obtain ⟨hb, tb, rfl, _⟩ := k2
        exact ⟨h', tk, rfl, fun b o e => hk b o (k1' b o e)⟩
      refine hfin _ _ { s2 with heap := h', toks := tk } ml vs k kk hns (ns _ (n1 _ (by show _ ≤ H.objs.size; omega))) (ns _ (n1 _ (Nat.le_refl _))) hD fun h'' hk'' => ?_
      have pD : ¬ p s2.heap.objs.size := fun q => by
        obtain ⟨o, e⟩ := st1.pin _ q
        rw [n1 _ (Nat.le_refl _)] at e; cases e
      refine ⟨_, vs, k, rfl, ⟨pD, hk'' _ _ pD (by show s2.heap.objs.size ≠ H.objs.size; omega) hD⟩, hfg _ fun b o q1 q2 q3 q4 q5 q6 => ⟨q3, hk'' b o q3 q4 q2⟩⟩
  exact codeAny_compStart_list (loop _ rfl) (W.self 0 _ _ _ (W.frame _ _ _ hst fun b _ o e => hs4 b o (hHk b o e)) (loop _ rfl))
theorem ev_comp {scope : Scope} {x : Str} {px : Pos} {iter elt : Expr} {ifs : List Expr} {pos : Pos} {ts us : List T}
    (hio : Io C n env ρ iter ts) (ok : scopeOK env scope x = true) (hρ : ρ.lookup (".0" : Str) = none) (hifs : ifs.length ≤ 1) (hcr : CR C n env ρ scope x ifs elt ts us) (hsz : ts.length ≤ 4096)
    (hs : ∀ v, foldedSetIterable iter env v = pure v) : Ev C n env ρ (.ListComp elt [⟨.Name x px, iter, ifs, 0⟩] scope pos) (LL us) := fun A m p s st => by
  rw [eval_ListComp]
  refine comp_core (use := none) st hio ok hρ hifs hcr hsz hs fun D L0 s' ml vs k kk hns fL fD hD hq => ?_
  refine ⟨ml, hns, fun h' hs' => ⟨?_, hq h' fun b o _ q e => hs'.extBut b o q e⟩⟩
  obtain ⟨h1, t1, rfl, k1⟩ := kk
  exact ⟨h', t1, rfl, fun b o e => hs'.extBut b o (by rintro rfl; rw [fL] at e; cases e) (k1 b o e)⟩

end
end Mine

end
/-! Fw6 -/
section
open PySem PySem.W PyProof.Rows PySem.Calls
set_option maxRecDepth 100000
set_option linter.all false
namespace Mine
section
variable {C : Cx} {n : Nat} {env : Env} {ρ : Rho}

theorem Pin.fresh {p : Addr → Prop} {h : Heap} {b : Addr} (x : Pin p h) (e : h.get? b = none) : ¬ p b := fun q => by obtain ⟨o, e'⟩ := x b q; rw [e] at e'; cases e'
theorem Pin.size {p : Addr → Prop} {h : Heap} (x : Pin p h) : ¬ p h.objs.size := x.fresh (get_none (Nat.le_refl _))

/-! sources -/
theorem itr_list {A : Around} {p : Addr → Prop} {s : Shared} {ts : List T} {a : Addr} {vs : List Value} {k : Nat} (hA : A.handled = none) (hp : Pin p s.heap) (hg : vw p s.heap a (lst vs k)) (hf : Fa (vw p s.heap) ts vs) :
    wpAny (model C.prog C.w) A (pyIter (.ref a)) (fun it s2 => Keeps s s2 ∧ ∃ Ia, it = .ref Ia ∧ Itr C A ts p s.heap s2.heap Ia) noE s := by
  have hl := isList_of hg
  have hlt := Heap.lt_size hg.2
  have hlen := hf.length
  refine wpAny_pyIter_list hl ⟨⟨_, _, rfl, fun _ _ e => Heap.get?_push_of_some _ e⟩, _, rfl, [s.heap.objs.size, a], [s.heap.objs.size], fun i v => vs.toArray[i]? = some v, fun i h => h.IsListIter s.heap.objs.size a i ∧ h.IsList a vs.toArray, ?_, ⟨⟨_, Heap.get?_push_size _ rfl, rfl, rfl⟩, hl.push _⟩, ?_, ?_, ?_, ?_, ?_, ?_⟩
  · have := Walks.list (prog := C.prog) (w := C.w) (A := A) hA s.heap.objs.size a (Nat.ne_of_lt hlt) vs.toArray
    rwa [show vs.toArray.size = ts.length by simp [hlen]] at this
  · intro i v t hv ht
    obtain ⟨v', e, hp⟩ := hf.get ht
    have hv' : vs[i]? = some v := by simpa using hv
    rw [hv'] at e; cases e; exact hp
  · intro b hb
    rw [List.mem_singleton.mp hb]; exact get_none (Nat.le_refl _)
  · intro b hb
    rw [show ({ s with heap := s.heap.push { cls := .type "list_iterator", data := .fields #[.ref a, .int 0 0] } } : Shared).heap.objs.size = s.heap.objs.size + 1 from Heap.size_push ..]
    rcases List.mem_cons.mp hb with rfl | hb
    · exact Nat.lt_succ_self _
    · rw [List.mem_singleton.mp hb]; exact Nat.lt_succ_of_lt hlt
  · intro i h st b hb
    obtain ⟨⟨o, e, _⟩, o2, e2, _⟩ := st
    rcases List.mem_cons.mp hb with rfl | hb
    · exact ⟨o, e⟩
    · rw [List.mem_singleton.mp hb]; exact ⟨o2, e2⟩
  · intro b hb
    rcases List.mem_cons.mp hb with rfl | hb
    · exact hp.size
    · rw [List.mem_singleton.mp hb]; exact hg.1
  · intro b hb o e v hd
    rcases List.mem_cons.mp hb with rfl | hb
    · have e' := Heap.get?_push_size s.heap (o := { cls := .type "list_iterator", data := .fields #[.ref a, .int 0 0] }) rfl
      rw [show ({ s with heap := s.heap.push { cls := .type "list_iterator", data := .fields #[.ref a, .int 0 0] } } : Shared).heap.get? s.heap.objs.size = _ from e'] at e
      cases e; cases hd
    · rw [List.mem_singleton.mp hb] at e
      rw [show ({ s with heap := s.heap.push { cls := .type "list_iterator", data := .fields #[.ref a, .int 0 0] } } : Shared).heap.get? a = _ from Heap.get?_push_of_some _ hg.2] at e
      cases e; cases hd
theorem io_list {e : Expr} {ts : List T} (h : Ev C n env ρ e (LL ts)) : Io C n env ρ e ts := fun A m p s st =>
  wpAny_mono (h _ _ _ _ st) (fun x s1 x1 => by
    obtain ⟨k1, a, vs, k, rfl, hg, hf⟩ := x1
    exact ⟨k1, itr_list st.a.h (st.keeps k1).pin hg hf⟩) fun _ _ q => q
theorem isTuple_of {p : Addr → Prop} {h : Heap} {a : Addr} {vs : List Value} {k : Nat} (e : vw p h a (tpl vs k)) : h.IsTuple a vs.toArray := ⟨_, e.2, rfl, _, rfl⟩
theorem itr_tup {A : Around} {p : Addr → Prop} {s : Shared} {ts : List T} {a : Addr} {vs : List Value} {k : Nat} (hA : A.handled = none) (hp : Pin p s.heap) (hg : vw p s.heap a (tpl vs k)) (hf : Fa (vw p s.heap) ts vs) :
    wpAny (model C.prog C.w) A (pyIter (.ref a)) (fun it s2 => Keeps s s2 ∧ ∃ Ia, it = .ref Ia ∧ Itr C A ts p s.heap s2.heap Ia) noE s := by
  have hl := isTuple_of hg
  have hlt := Heap.lt_size hg.2
  have hlen := hf.length
  have ek : Hs s.heap (s.heap.push { cls := .type "tuple_iterator", data := .fields #[.ref a, .int 0 0] }) := fun _ _ e => Heap.get?_push_of_some _ e
  refine wpAny_pyIter_tuple hl ⟨⟨_, _, rfl, ek⟩, _, rfl, [s.heap.objs.size, a], [s.heap.objs.size], fun i v => vs.toArray[i]? = some v, fun i h => h.IsTupleIter s.heap.objs.size a i ∧ h.IsTuple a vs.toArray, ?_, ⟨⟨_, Heap.get?_push_size _ rfl, rfl, rfl⟩, hl.at fun o e => ek _ _ e⟩, ?_, ?_, ?_, ?_, ?_, ?_⟩
  · have := Walks.tuple (prog := C.prog) (w := C.w) (A := A) hA s.heap.objs.size a (Nat.ne_of_lt hlt) vs.toArray
    rwa [show vs.toArray.size = ts.length by simp [hlen]] at this
  · intro i v t hv ht
    obtain ⟨v', e, hp⟩ := hf.get ht
    have hv' : vs[i]? = some v := by simpa using hv
    rw [hv'] at e; cases e; exact hp
  · intro b hb
    rw [List.mem_singleton.mp hb]; exact get_none (Nat.le_refl _)
  · intro b hb
    rw [show ({ s with heap := s.heap.push { cls := .type "tuple_iterator", data := .fields #[.ref a, .int 0 0] } } : Shared).heap.objs.size = s.heap.objs.size + 1 from Heap.size_push ..]
    rcases List.mem_cons.mp hb with rfl | hb
    · exact Nat.lt_succ_self _
    · rw [List.mem_singleton.mp hb]; exact Nat.lt_succ_of_lt hlt
  · intro i h st b hb
    obtain ⟨⟨o, e, _⟩, o2, e2, _⟩ := st
    rcases List.mem_cons.mp hb with rfl | hb
    · exact ⟨o, e⟩
    · rw [List.mem_singleton.mp hb]; exact ⟨o2, e2⟩
  · intro b hb
    rcases List.mem_cons.mp hb with rfl | hb
    · exact hp.size
    · rw [List.mem_singleton.mp hb]; exact hg.1
  · intro b hb o e v hd
    rcases List.mem_cons.mp hb with rfl | hb
    · have e' := Heap.get?_push_size s.heap (o := { cls := .type "tuple_iterator", data := .fields #[.ref a, .int 0 0] }) rfl
      rw [show ({ s with heap := s.heap.push { cls := .type "tuple_iterator", data := .fields #[.ref a, .int 0 0] } } : Shared).heap.get? s.heap.objs.size = _ from e'] at e
      cases e; cases hd
    · rw [List.mem_singleton.mp hb] at e
      rw [show ({ s with heap := s.heap.push { cls := .type "tuple_iterator", data := .fields #[.ref a, .int 0 0] } } : Shared).heap.get? a = _ from Heap.get?_push_of_some _ hg.2] at e
      cases e; cases hd
theorem io_tup {e : Expr} {ts : List T} (h : Ev C n env ρ e (TU ts)) : Io C n env ρ e ts := fun A m p s st =>
  wpAny_mono (h _ _ _ _ st) (fun x s1 x1 => by
    obtain ⟨k1, a, vs, k, rfl, hg, hf⟩ := x1
    exact ⟨k1, itr_tup st.a.h (st.keeps k1).pin hg hf⟩) fun _ _ q => q

/-! ranges -/
abbrev rgo (a b c : Int) (t u v : Tok) : Obj := { cls := .type "range", data := .fields #[.int a t, .int b u, .int c v] }
def RG (a b c : Int) : T := ⟨fun g x => ∃ r t u v, x = .ref r ∧ g r (rgo a b c t u v), fun k ⟨r, t, u, v, h1, h2⟩ => ⟨r, t, u, v, h1, k _ _ h2⟩⟩
theorem gives_push {p : Addr → Prop} {s : Shared} {o : Obj} {tk : Nat} {t : T} (hp : Pin p s.heap) (hf : o.isFreed = false) (h : ∀ g : View, g s.heap.objs.size o → Sub (vw p s.heap) g → t.P g (.ref s.heap.objs.size)) :
    Gives p t s (.ref s.heap.objs.size) { s with heap := s.heap.push o, toks := tk } :=
  ⟨⟨_, _, rfl, fun _ _ e => Heap.get?_push_of_some _ e⟩, h _ ⟨hp.size, Heap.get?_push_size _ hf⟩ (sub_vw fun _ _ e => Heap.get?_push_of_some _ e)⟩
theorem fn_range1 {b : Int} : Fn C n (.type "range") [I b] (RG 0 b 1) := by
  rintro A p s vs a g q hf
  match vs, hf with
  | [_], ⟨⟨t, rfl⟩, _⟩ => exact call_range_1 (gives_push q rfl fun g hg _ => ⟨_, _, _, _, rfl, hg⟩)
theorem fn_range2 {a b : Int} : Fn C n (.type "range") [I a, I b] (RG a b 1) := by
  rintro A p s vs _ g q hf
  match vs, hf with
  | [_, _], ⟨⟨t, rfl⟩, ⟨u, rfl⟩, _⟩ => exact call_range_2 (gives_push q rfl fun g hg _ => ⟨_, _, _, _, rfl, hg⟩)
theorem fn_range3 {a b c : Int} (hc : c ≠ 0) (hp : Builtin.divisionGoesByPylong (b - a) c = false) : Fn C n (.type "range") [I a, I b, I c] (RG a b c) := by
  rintro A p s vs _ g q hf
  match vs, hf with
  | [_, _, _], ⟨⟨t, rfl⟩, ⟨u, rfl⟩, ⟨v, rfl⟩, _⟩ => exact call_range_3 hc (gives_push q rfl fun g hg _ => ⟨_, _, _, _, rfl, hg⟩) (.inl hp)
theorem io_range {e : Expr} {a b c : Int} {N : Nat} (h : Ev C n env ρ e (RG a b c)) (hs : Builtin.Range.small a b c = true) (hN : Builtin.Range.rangeSize a b c = N) :
    Io C n env ρ e ((List.range N).map fun (i : Nat) => I (a + (i : Int) * c)) := fun A m p s st =>
  wpAny_mono (h _ _ _ _ st) (fun x s1 x1 => by
    obtain ⟨k1, r, t, u, v, rfl, hg⟩ := x1
    have st1 := st.keeps k1
    refine ⟨k1, ?_⟩
    refine wpAny_pyIter_range (a := a) (b := b) (c := c) (t := t) (u := u) (v := v) hg.2 hs ⟨⟨_, _, rfl, fun _ _ e => Heap.get?_push_of_some _ e⟩, _, rfl, [s1.heap.objs.size], [s1.heap.objs.size], fun i v => ∃ t, v = .int (a + (i : Nat) * c) t, fun i h => IsRangeIter h s1.heap.objs.size (a + (i : Nat) * c) ((N : Int) - (i : Nat)) c, ?_, ?_, ?_, ?_, ?_, ?_, ?_, ?_⟩
    · rw [List.length_map, List.length_range]
      exact Walks.range st.a.h _ a c N
    · show IsRangeIter _ _ _ _ _
      have e1 : (a + ((0 : Nat) : Int) * c) = a := by simp
      have e2 : ((N : Int) - ((0 : Nat) : Int)) = Builtin.Range.rangeSize a b c := by rw [hN]; simp
      rw [e1, e2]
      exact Heap.get?_push_size _ rfl
    · intro i v t ⟨tk, e⟩ ht
      have hi : i < N := by
        rcases Nat.lt_or_ge i N with q | q
        · exact q
        · rw [List.getElem?_eq_none (by simpa using q)] at ht; cases ht
      have : t = I (a + (i : Nat) * c) := by
        simp [hi] at ht
        exact ht.symm
      subst this
      exact ⟨tk, e⟩
    · intro b hb
      rw [List.mem_singleton.mp hb]; exact get_none (Nat.le_refl _)
    · intro b hb
      rw [List.mem_singleton.mp hb]
      show _ < (Heap.push _ _).objs.size
      rw [Heap.size_push]; exact Nat.lt_succ_self _
    · intro i h st b hb
      rw [List.mem_singleton.mp hb]
      exact ⟨_, st⟩
    · intro b hb
      rw [List.mem_singleton.mp hb]; exact st1.pin.size
    · intro z hz o e v hd
      rw [List.mem_singleton.mp hz] at e
      have e' := Heap.get?_push_size s1.heap (o := { cls := .type "range_iterator", data := .fields #[rawInt a, rawInt (Builtin.Range.rangeSize a b c), rawInt c] }) rfl
      have e2 := e'.symm.trans e
      cases e2; cases hd) fun _ _ q => q

/-! calls -/
def Evs (C : Cx) (n : Nat) (env : Env) (ρ : Rho) (es : List Expr) (ts : List T) : Prop := ∀ A m p s pos, Sit C n env ρ A m p s →
  wpAny (model C.prog C.w) A (spliced (backTo pos (starEach es env))) (fun vs s' => Keeps s s' ∧ Fa (vw p s'.heap) ts vs) noE s
theorem evs_nil : Evs C n env ρ [] [] := fun _ _ _ _ _ _ => wpAny_items_nil ⟨keeps_refl _, trivial⟩
theorem evs_cons {e : Expr} {rest : List Expr} {t : T} {ts : List T} (h : Ev C n env ρ e t) (hr : Evs C n env ρ rest ts) (he : starEach (e :: rest) env = (false, eval e env) :: starEach rest env) : Evs C n env ρ (e :: rest) (t :: ts) :=
  fun _ _ _ _ _ st => wpAny_items_cons (wpAny_mono (h _ _ _ _ st) (fun v s1 x1 => wpAny_mono (hr _ _ _ _ _ (st.keeps x1.1)) (fun vs s2 x2 =>
    ⟨keeps_trans x1.1 x2.1, t.mono (sub_vw (keeps_hs x2.1)) x1.2, x2.2⟩) fun _ _ q => q) fun _ _ q => q) he

def callee (f : Value) (K : Frag) : Bool := match f with
  | .builtin _ | .type _ => true
  | .ref a => (match K.lookup a with | some ⟨_, _, .func _, _⟩ => true | _ => false)
  | _ => false
theorem callWith_any {A : Around} {s : Shared} {pos : Pos} {f : Value} {x : Sem Value} {rest : List (Bool × Sem Value)} {first : List Value} {Q : Value → Shared → Prop} (hc : callee f C.K = true) (hr : rest.any (·.1) = false)
    (h : wpAny (model C.prog C.w) A (spliced ((false, x) :: rest)) (fun vs s1 => GOk C s1.heap ∧ wpAny (model C.prog C.w) A (call f (first ++ vs)) Q noE s1) noE s) : wpAny (model C.prog C.w) A (callWith pos f first ((false, x) :: rest) []) Q noE s := by
  have hplain : ((false, x) :: rest).any (·.1) = false := by rw [List.any_cons, hr]; rfl
  unfold callee at hc
  split at hc
  · exact PySem.Calls.callWith_builtin hplain (evalArgs_plain (wpAny_mono h (fun _ _ z => z.2) fun _ _ q => q))
  · exact PySem.callWith_type hplain (evalArgs_plain (wpAny_mono h (fun _ _ z => z.2) fun _ _ q => q))
  · rename_i a
    split at hc
    · rename_i c d fd sl hl
      exact callWith_function (o := ⟨c, d, .func fd, sl⟩) (fd := fd) (evalArgs_plain (wpAny_mono h (fun _ _ z => ⟨⟨z.1.k _ _ hl, rfl⟩, z.2⟩) fun _ _ q => q))
    · cases hc
  · cases hc

theorem ev_call {x : Str} {np pos : Pos} {e : Expr} {rest : List Expr} {f : Value} {ts : List T} {t : T} (hf : Ev C n env ρ (.Name x np) (V f)) (hargs : Evs C n env ρ (e :: rest) ts) (hfn : Fn C n f ts t) (hc : callee f C.K = true)
    (he : starEach (e :: rest) env = (false, eval e env) :: starEach rest env) (hr : (backTo pos (starEach rest env)).any (·.1) = false) : Ev C n env ρ (.Call (.Name x np) (e :: rest) [] pos) t := fun A m p s st => by
  refine wpAny_Call_Name_kw (wpAny_mono (hf _ _ _ _ st) (fun v s1 x1 => ?_) fun _ _ q => q)
  obtain ⟨k1, rfl⟩ := x1
  rw [he]
  refine callWith_any (x := eval e env) (rest := backTo pos (starEach rest env)) hc hr ?_
  have := hargs A m p s1 pos (st.keeps k1)
  rw [he] at this
  exact wpAny_mono this (fun vs s2 x2 => ⟨((st.keeps k1).keeps x2.1).g, up (keeps_trans k1 x2.1) (hfn A p s2 vs st.a ((st.keeps k1).keeps x2.1).g ((st.keeps k1).keeps x2.1).pin x2.2)⟩) fun _ _ q => q
end
end Mine

end
/-! Fw7 -/
section
open PySem PySem.W PyProof.Rows PySem.Calls
set_option maxRecDepth 100000
set_option linter.all false
namespace Mine

def pa (q pc : Addr → Prop) : Addr → Prop := fun b => pc b ∨ q b
structure Assn where
  P : (Str → Option Value) → (Addr → Prop) → (Addr → Prop) → Heap → Prop
  mo : ∀ {m q pc pc' h h'}, Sub (vw (pa q pc) h) (vw (pa q pc') h') → (∀ b o, q b → h.get? b = some o → h'.get? b = some o) → P m q pc h → P m q pc' h'
theorem Assn.mono (X : Assn) {m : Str → Option Value} {q pc : Addr → Prop} {h h' : Heap} (k : Hs h h') (x : X.P m q pc h) : X.P m q pc h' := X.mo (sub_vw k) (fun b o _ e => k b o e) x
def FF : Assn := ⟨fun _ _ _ _ => False, fun _ _ h => h⟩
def NT : T := ⟨fun _ _ => False, fun _ h => h⟩
def LV (ρ : Rho) : Assn := ⟨fun m q pc h => Vars m (vw (pa q pc) h) ρ, fun k _ x => x.mono k⟩

structure FrW (env : Env) (ow : Str → Prop) (q : Addr → Prop) : Prop where
  lq : q env.locals
  inj : ∀ x y c, env.cells.lookup x = some c → env.cells.lookup y = some c → x = y
  cq : ∀ x c, ow x → env.cells.lookup x = some c → q c
structure Base (C : Cx) (n : Nat) (env : Env) (A : Around) (ow : Str → Prop) (m : Str → Option Value) (q pc : Addr → Prop) (s : Shared) : Prop where
  a : AOk n A
  f : FrR env m s.heap
  w : FrW env ow q
  g : GOk C s.heap
  pin : Pin (pa q pc) s.heap
  dis : ∀ b, q b → ¬ pc b
  top : ∀ b, q b → C.top.get? b = none
structure Step (q : Addr → Prop) (s s' : Shared) (q' : Addr → Prop) : Prop where
  rest : ∃ h t, s' = { s with heap := h, toks := t }
  keep : ∀ b o, ¬ q b → s.heap.get? b = some o → s'.heap.get? b = some o
  grow : ∀ b, q b → q' b
  fresh : ∀ b, q' b → q b ∨ s.heap.get? b = none
theorem Step.refl {q : Addr → Prop} {s : Shared} : Step q s s q := ⟨⟨_, _, rfl⟩, fun _ _ _ e => e, fun _ h => h, fun _ h => .inl h⟩
theorem Step.of_keeps {q : Addr → Prop} {s s' : Shared} (k : Keeps s s') : Step q s s' q := ⟨let ⟨h, t, e, _⟩ := k; ⟨h, t, e⟩, fun b o _ e => keeps_hs k b o e, fun _ h => h, fun _ h => .inl h⟩
theorem Step.trans {q q1 q2 : Addr → Prop} {a b c : Shared} (x : Step q a b q1) (y : Step q1 b c q2) : Step q a c q2 := by
  have k : ∀ d o, ¬ q d → a.heap.get? d = some o → ¬ q1 d := fun d o hq e h => (x.fresh d h).elim hq (fun e' => by rw [e] at e'; cases e')
  refine ⟨?_, fun d o hq e => y.keep d o (k d o hq e) (x.keep d o hq e), fun d h => y.grow d (x.grow d h), fun d h => ?_⟩
  · obtain ⟨h, t, rfl⟩ := x.rest
    obtain ⟨h', t', rfl⟩ := y.rest
    exact ⟨h', t', rfl⟩
  · rcases y.fresh d h with h | h
    · exact x.fresh d h
    · by_cases hq : q d
      · exact .inl hq
      · right
        cases e : a.heap.get? d with
        | none => rfl
        | some o => rw [x.keep d o hq e] at h; cases h

structure Po where
  nx : Assn := FF
  bk : Assn := FF
  cn : Assn := FF
  rt : T := NT
def post (R : Po) (f : Flow) (m : Str → Option Value) (q pc : Addr → Prop) (h : Heap) : Prop := match f with
  | .next => R.nx.P m q pc h
  | .brk => R.bk.P m q pc h
  | .cont => R.cn.P m q pc h
  | .ret v => R.rt.P (vw pc h) v
/-- what a run of statements leaves -/
abbrev Leaves (C : Cx) (n : Nat) (env : Env) (A : Around) (ow : Str → Prop) (q pc : Addr → Prop) (s : Shared) (R : Po) : Flow → Shared → Prop := fun f s' =>
  ∃ m' q', Base C n env A ow m' q' pc s' ∧ Step q s s' q' ∧ post R f m' q' pc s'.heap
def X1 (C : Cx) (n : Nat) (env : Env) (ow : Str → Prop) (Pre : Assn) (st : Stmt) (R : Po) : Prop := ∀ A m q pc s, Base C n env A ow m q pc s → Pre.P m q pc s.heap →
  wpAny (model C.prog C.w) A (exec st env) (Leaves C n env A ow q pc s R) noE s
def Xs (C : Cx) (n : Nat) (env : Env) (ow : Str → Prop) (Pre : Assn) (ss : List Stmt) (R : Po) : Prop := ∀ A m q pc s, Base C n env A ow m q pc s → Pre.P m q pc s.heap →
  wpAny (model C.prog C.w) A (execs ss env) (Leaves C n env A ow q pc s R) noE s
def Imp (P Q : Assn) : Prop := ∀ m q pc h, P.P m q pc h → Q.P m q pc h
theorem Imp.refl (P : Assn) : Imp P P := fun _ _ _ _ h => h

section
variable {C : Cx} {n : Nat} {env : Env} {ρ : Rho} {ow : Str → Prop} {Pre : Assn} {R : Po}

theorem Base.keeps {A : Around} {m : Str → Option Value} {q pc : Addr → Prop} {s s' : Shared} (b : Base C n env A ow m q pc s) (k : Keeps s s') : Base C n env A ow m q pc s' :=
  ⟨b.a, b.f.keeps (keeps_hs k), b.w, b.g.keeps (keeps_hs k), b.pin.keeps (keeps_hs k), b.dis, b.top⟩
theorem Base.sit {A : Around} {m : Str → Option Value} {q pc : Addr → Prop} {s : Shared} (b : Base C n env A ow m q pc s) (hv : Vars m (vw (pa q pc) s.heap) ρ) : Sit C n env ρ A m (pa q pc) s := ⟨b.a, b.f, hv, b.g, b.pin⟩

/-- expressions may be read here: the addresses held back, and what comes back as it was told -/
def Rd (C : Cx) (n : Nat) (env : Env) (ow : Str → Prop) (Pre : Assn) (ρ : Rho) (Lf : T → Prop) : Prop := ∀ A m q pc s, Base C n env A ow m q pc s → Pre.P m q pc s.heap →
  ∃ p', (∀ b, pc b → p' b) ∧ Sit C n env ρ A m p' s ∧ ∀ t, Lf t → ∀ s' v (r : Addr → Prop), Keeps s s' → t.P (vw (fun d => p' d ∨ r d) s'.heap) v → t.P (vw (fun d => pa q pc d ∨ r d) s'.heap) v
theorem lift0 {t : T} {p p' : Addr → Prop} {h : Heap} {v : Value} (k : ∀ r : Addr → Prop, t.P (vw (fun d => p' d ∨ r d) h) v → t.P (vw (fun d => p d ∨ r d) h) v) (x : t.P (vw p' h) v) : t.P (vw p h) v :=
  t.mono (vw_less fun d hd => .inl hd) (k (fun _ => False) (t.mono (vw_less fun d hd => hd.elim id False.elim) x))
def LAll (t : T) : Prop := True
theorem rd (h : Imp Pre (LV ρ)) : Rd C n env ow Pre ρ LAll := fun A m q pc s b hP => ⟨pa q pc, fun _ z => .inl z, b.sit (h _ _ _ _ hP), fun _ _ _ _ _ _ z => z⟩
def Pu (t : T) : Prop := ∀ g g' v, t.P g v → t.P g' v
theorem Rd.pu {L : T → Prop} (h : Rd C n env ow Pre ρ L) : Rd C n env ow Pre ρ Pu := fun A m q pc s b hP => let ⟨p', h1, h2, _⟩ := h A m q pc s b hP; ⟨p', h1, h2, fun t ht _ v _ _ z => ht _ _ v z⟩

theorem xs_nil (h : Imp Pre R.nx) : Xs C n env ow Pre [] R := fun A m q pc s b hp => wpAny_execs_nil ⟨m, q, b, .refl, h _ _ _ _ hp⟩
theorem xs_cons {st : Stmt} {rest : List Stmt} {Mid : Assn} (h : X1 C n env ow Pre st { R with nx := Mid }) (hr : Xs C n env ow Mid rest R) : Xs C n env ow Pre (st :: rest) R := fun A m q pc s b hp =>
  wpAny_execs_cons (wpAny_mono (h A m q pc s b hp) (fun f s' x => by
    obtain ⟨m', q', b', st', hpost⟩ := x
    cases f with
    | next => exact wpAny_mono (hr A m' q' pc s' b' hpost) (fun f s'' ⟨m2, q2, b2, st2, hp2⟩ => ⟨m2, q2, b2, st'.trans st2, hp2⟩) fun _ _ q => q
    | brk => exact ⟨m', q', b', st', hpost⟩
    | cont => exact ⟨m', q', b', st', hpost⟩
    | ret v => exact ⟨m', q', b', st', hpost⟩) fun _ _ q => q)
theorem xs_one {st : Stmt} (h : X1 C n env ow Pre st R) : Xs C n env ow Pre [st] R :=
  xs_cons (Mid := R.nx) h (xs_nil (.refl _))
theorem x1_pre {st : Stmt} {Pre' : Assn} (hi : Imp Pre Pre') (h : X1 C n env ow Pre' st R) : X1 C n env ow Pre st R := fun A m q pc s b hp => h A m q pc s b (hi _ _ _ _ hp)
theorem xs_pre {ss : List Stmt} {Pre' : Assn} (hi : Imp Pre Pre') (h : Xs C n env ow Pre' ss R) : Xs C n env ow Pre ss R := fun A m q pc s b hp => h A m q pc s b (hi _ _ _ _ hp)
theorem xs_post {ss : List Stmt} {R' : Po} (h : Xs C n env ow Pre ss R) (hn : Imp R.nx R'.nx) (hb : Imp R.bk R'.bk) (hc : Imp R.cn R'.cn) (hr : ∀ g v, R.rt.P g v → R'.rt.P g v) : Xs C n env ow Pre ss R' := fun A m q pc s b hp =>
  wpAny_mono (h A m q pc s b hp) (fun f s' ⟨m', q', b', st', hpost⟩ => ⟨m', q', b', st', by
    cases f with
    | next => exact hn _ _ _ _ hpost
    | brk => exact hb _ _ _ _ hpost
    | cont => exact hc _ _ _ _ hpost
    | ret v => exact hr _ _ hpost⟩) fun _ _ q => q
theorem xs_false {ss : List Stmt} (h : ∀ m q pc h, ¬ Pre.P m q pc h) : Xs C n env ow Pre ss R := fun A m q pc s b hp => absurd hp (h _ _ _ _)

/-- a name is bound -/
def Puts (env : Env) (ow : Str → Prop) (Pre : Assn) (x : Str) (t : T) (Post : Assn) : Prop := ∀ m q pc h h' v, FrW env ow q → q (tgt env x) → Pre.P m q pc h → t.P (vw (pa q pc) h) v →
  (∀ b o, b ≠ tgt env x → h.get? b = some o → h'.get? b = some o) → Post.P (upd m x v) q pc h'
def canPut (env : Env) (x : Str) : Bool := env.kindOf x == some .local || env.kindOf x == some .cell

theorem store_base {A : Around} {m : Str → Option Value} {q pc : Addr → Prop} {s : Shared} {x : Str} {v : Value} {Q : Unit → Shared → Prop} (b : Base C n env A ow m q pc s) (hx : canPut env x = true) (ho : env.kindOf x = some .cell → ow x)
    (h : ∀ h' tk, Base C n env A ow (upd m x v) q pc { s with heap := h', toks := tk } → Heap.SameBut (tgt env x) s.heap h' → q (tgt env x) → Q () { s with heap := h', toks := tk }) :
    wpAny (model C.prog C.w) A (storeName env x v) Q noE s := by
  have hx' : env.kindOf x = some .local ∨ env.kindOf x = some .cell := by
    unfold canPut at hx; simpa using hx
  have hq : q (tgt env x) := by
    unfold tgt
    rcases hx' with e | e
    · rw [if_pos e]; exact b.w.lq
    · rw [if_neg (by rw [e]; decide)]
      obtain ⟨c, h1, _⟩ := b.f.cel x (.inl e)
      rw [h1]; exact b.w.cq x c (ho e) h1
  refine store_wp b.f hx' (fun y c hyx _ e _ e' => hyx (b.w.inj _ _ _ e e')) fun h' tk F hs => h h' tk ?_ hs hq
  have hk : ∀ d o, ¬ q d → s.heap.get? d = some o → h'.get? d = some o := fun d o hd e => hs.extBut d o (by rintro rfl; exact hd hq) e
  have hall : ∀ d o, s.heap.get? d = some o → ∃ o', h'.get? d = some o' := fun d o e => by
    by_cases hd : d = tgt env x
    · subst hd
      unfold tgt
      rcases hx' with e' | e'
      · rw [if_pos e']
        obtain ⟨ml, ⟨o', _, _, e1, _⟩, _⟩ := F.loc
        exact ⟨o', e1⟩
      · rw [if_neg (by rw [e']; decide)]
        obtain ⟨c, h1, o', e2, _⟩ := F.cel x (.inl e')
        rw [h1]; exact ⟨o', e2⟩
    · exact ⟨o, hs.extBut d o hd e⟩
  exact ⟨b.a, F, b.w, { b.g with sub := fun d o e => hk d o (fun hd => by rw [b.top d hd] at e; cases e) (b.g.sub d o e) }, fun d hd => let ⟨o, e⟩ := b.pin d hd; hall d o e, b.dis, b.top⟩

theorem x_assign {x : Str} {px pos : Pos} {e : Expr} {t : T} {L : T → Prop} (hρ : Rd C n env ow Pre ρ L) (hL : L t) (he : Ev C n env ρ e t) (hx : canPut env x = true) (ho : env.kindOf x = some .cell → ow x) (hs : swapsWith e (some (.Name x px)) pos.line env = pure false)
    (hp : Puts env ow Pre x t R.nx) : X1 C n env ow Pre (.Assign [.Name x px] e pos) R := fun A m q pc s b hP =>
  let ⟨p', hpc, sit, lift⟩ := hρ _ _ _ _ _ b hP
  wpAny_Assign_Name (wpAny_mono (he _ _ _ _ sit) (fun v s1 x1 => store_base (b.keeps x1.1) hx ho fun h' tk b' hs' hq =>
    ⟨_, q, b', (Step.of_keeps x1.1).trans ⟨⟨_, _, rfl⟩, fun d o hd e => hs'.extBut d o (by rintro rfl; exact hd hq) e, fun _ h => h, fun _ h => .inl h⟩,
      hp _ _ _ _ _ _ b.w hq (Pre.mono (keeps_hs x1.1) hP) (lift0 (fun r => lift t hL _ _ r x1.1) x1.2) fun d o hd e => hs'.extBut d o hd e⟩) fun _ _ q => q) hs
theorem puts_lv {x : Str} {t : T} : Puts env ow (LV ρ) x t (LV ((x, t) :: ρ)) := fun m q pc h h' v w hq hP ht hk =>
  Vars.put (Vars.mono hP (vw_sub fun d o hd e => ⟨hd, hk d o (by rintro rfl; exact hd (.inr hq)) e⟩)) (t.mono (vw_sub fun d o hd e => ⟨hd, hk d o (by rintro rfl; exact hd (.inr hq)) e⟩) ht)

theorem x_if {test : Expr} {body orelse : List Stmt} {pos : Pos} {c : Bool} {L : T → Prop} (hρ : Rd C n env ow Pre ρ L) (ht : Tr C n env ρ test c) (h1 : c = true → Xs C n env ow Pre body R) (h2 : c = false → Xs C n env ow Pre orelse R) :
    X1 C n env ow Pre (.If test body orelse pos) R := fun A m q pc s b hP =>
  let ⟨p', hpc, sit, lift⟩ := hρ _ _ _ _ _ b hP
  wpAny_If (wpAny_mono (ht _ _ _ _ sit) (fun b' s1 x1 => by
    obtain ⟨rfl, k⟩ := x1
    have fin : ∀ f s', Leaves C n env A ow q pc s1 R f s' → Leaves C n env A ow q pc s R f s' := fun f s' ⟨m2, q2, b2, st2, hp2⟩ => ⟨m2, q2, b2, (Step.of_keeps k).trans st2, hp2⟩
    cases b' with
    | true => exact wpAny_mono (h1 rfl A m q pc s1 (b.keeps k) (Pre.mono (keeps_hs k) hP)) fin fun _ _ q => q
    | false => exact wpAny_mono (h2 rfl A m q pc s1 (b.keeps k) (Pre.mono (keeps_hs k) hP)) fin fun _ _ q => q) fun _ _ q => q)
theorem x_ret {e : Expr} {pos : Pos} {L : T → Prop} (hρ : Rd C n env ow Pre ρ L) (he : Ev C n env ρ e R.rt) : X1 C n env ow Pre (.Return (some e) pos) R := fun A m q pc s b hP =>
  let ⟨p', hpc, sit, lift⟩ := hρ _ _ _ _ _ b hP
  wpAny_Return_some (wpAny_mono (he _ _ _ _ sit) (fun v s1 x1 => ⟨m, q, b.keeps x1.1, .of_keeps x1.1, R.rt.mono (vw_less fun d hd => hpc d hd) x1.2⟩) fun _ _ q => q)
theorem x_brk {pos : Pos} (h : Imp Pre R.bk) : X1 C n env ow Pre (.Break pos) R := fun A m q pc s b hP => wpAny_Break ⟨m, q, b, .refl, h _ _ _ _ hP⟩

/-! from a body to a contract -/
def toRet (f : Flow) : Value := match f with | .ret v => v | _ => .none

theorem fnc_plain {a : Addr} {fd : FuncData} {oc : Value} {od : Option Addr} {sl : Array (Option Value)} {body : List Stmt} {ts : List T} {t : T} {names : List Str}
    (ho : C.K.lookup a = some ⟨oc, od, .func fd, sl⟩) (hcd : codeIn C.K fd.code fd.qualname = true) (hbody : fd.body = .stmts body)
    (hbind : ∀ vs : List Value, vs.length = ts.length → bindArgs fd ⟨vs, []⟩ = pure (names.zip vs)) (hlen : names.length = ts.length) (hnd : names.Nodup)
    (hcell : ∀ x ∈ fd.scope.names, x.2 ≠ .cell) (hfree : ∀ x ∈ fd.scope.names, x.2 ≠ .free) (hloc : ∀ x ∈ names, fd.scope.names.lookup x = some .local)
    (hco : fd.scope.isCoroutine = false) (hgen : fd.scope.isGenerator = false) (hk : fd.scope.kind = .function) (hgl : fd.globals = mainGlobals) (hbu : fd.builtins = builtinsNs) (hclo : fd.closure = [])
    (h : ∀ L, Xs C n (callEnv fd L a) (fun _ => True) (LV (names.zip ts)) body { rt := t }) : FnC C (n + 1) (.ref a) ts t := by
  intro A p s vs hA hG hp hf
  have hvl := hf.length
  refine codeAny_call_def (fd := fd) (body := body) (binds := names.zip vs) hA.room (hG.k _ _ ho) rfl hG.nolimit (codeRec_of hG.k hcd) hbody (BindsTo.of_eq (hbind vs hvl)) hcell (fun x hx => hloc _ (List.of_mem_zip hx).1) (fun h0 hns hk0 => ?_) hco hgen hk
  have hL : s.heap.get? s.heap.objs.size = none := get_none (Nat.le_refl _)
  have hkx : ∀ x, (callEnv fd s.heap.objs.size a).kindOf x ≠ some .cell ∧ (callEnv fd s.heap.objs.size a).kindOf x ≠ some .free := fun x =>
    ⟨fun e => hcell _ (lookup_mem (show fd.scope.names.lookup x = some .cell from e)) rfl, fun e => hfree _ (lookup_mem (show fd.scope.names.lookup x = some .free from e)) rfl⟩
  have base : Base C n (callEnv fd s.heap.objs.size a) (A.deeper (callEnv fd s.heap.objs.size a)) (fun _ => True) (fun x => (names.zip vs).reverse.lookup x) (fun b => b = s.heap.objs.size) p { s with heap := h0, toks := s.toks + (names.zip vs).length } := by
    refine ⟨hA.deeper _, ⟨hk, hgl, hbu, ⟨_, hns, fun _ _ => rfl⟩, fun x hx => hx.elim (fun e => absurd e (hkx x).1) fun e => absurd e (hkx x).2⟩, ⟨rfl, fun x y c e => ?_, fun x c _ e => ?_⟩, hG.keeps hk0, fun b hb => ?_, fun b hb => by rw [hb]; exact hp.size, fun b hb => ?_⟩
    · have e' : fd.closure.lookup x = some c := e
      rw [hclo] at e'; cases e'
    · have e' : fd.closure.lookup x = some c := e
      rw [hclo] at e'; cases e'
    · rcases hb with hb | rfl
      · exact (hp.keeps hk0) b hb
      · obtain ⟨o, _, _, e, _⟩ := hns; exact ⟨o, e⟩
    · rw [hb]
      cases e : C.top.get? s.heap.objs.size with
      | none => rfl
      | some o => rw [hG.sub _ _ e] at hL; cases hL
  have hvars : Vars (fun x => (names.zip vs).reverse.lookup x) (vw (pa (fun b => b = s.heap.objs.size) p) h0) (names.zip ts) := by
    have sub : Sub (vw p s.heap) (vw (pa (fun b => b = s.heap.objs.size) p) h0) := vw_sub fun b o q e => ⟨fun z => z.elim q (fun z => by rw [z, hL] at e; cases e), hk0 b o e⟩
    exact vars_zip hnd (hf.mono sub)
  refine wpAny_mono (h s.heap.objs.size _ _ _ _ _ base hvars) (fun f s' ⟨m', q', b', st', hpost⟩ => ?_) fun _ _ q => q.elim
  cases f with
  | ret v =>
    refine ⟨v, rfl, ?_, hpost⟩
    obtain ⟨h2, t2, e2⟩ := st'.rest
    refine ⟨s'.heap, s'.toks, by rw [e2], fun b o e => st'.keep b o (by rintro rfl; rw [hL] at e; cases e) (hk0 b o e)⟩
  | next => exact hpost.elim
  | brk => exact hpost.elim
  | cont => exact hpost.elim
where
  vars_zip {g : View} : ∀ {names : List Str} {ts : List T} {vs : List Value}, names.Nodup → Fa g ts vs → Vars (fun x => (names.zip vs).reverse.lookup x) g (names.zip ts) := by
    intro names ts vs hnd hf x t e
    induction names generalizing ts vs with
    | nil => simp at e
    | cons y r ih =>
      match ts, vs, hf with
      | [], [], _ => simp at e
      | t' :: ts, v :: vs, hf =>
        rw [List.zip_cons_cons, List.lookup_cons] at e
        have hnd' := List.nodup_cons.mp hnd
        rw [List.zip_cons_cons, List.reverse_cons]
        by_cases hx : x = y
        · subst hx
          rw [beq_self_eq_true] at e
          cases e
          refine ⟨v, ?_, hf.1⟩
          show ((r.zip vs).reverse ++ [(x, v)]).lookup x = _
          have : (r.zip vs).reverse.lookup x = none := by
            rw [List.lookup_eq_none_iff]
            intro p hp
            rw [bne_iff_ne]
            rintro rfl
            exact hnd'.1 (List.of_mem_zip (a := p.1) (b := p.2) (by simpa using hp)).1
          rw [List.lookup_append, this]
          simp
        · have hb : (x == y) = false := by simpa using hx
          rw [hb] at e
          obtain ⟨v', h1, h2⟩ := ih hnd'.2 hf.2 e
          refine ⟨v', ?_, h2⟩
          show ((r.zip vs).reverse ++ [(y, v)]).lookup x = _
          have h1' : (r.zip vs).reverse.lookup x = some v' := h1
          rw [List.lookup_append, h1']; rfl
end
end Mine

end
/-! Re1 -/
section
open PySem PySem.W PyProof.Rows PySem.Calls
set_option maxRecDepth 100000
set_option linter.all false
namespace Mine
theorem slot_search : Slot "re.Pattern" "search" "re.Pattern.search" :=
  .of (owner := "re.Pattern") (n := "search") (by rw [typeLookup_type, builtinLookup_eq_fast]; kernel_rfl) (by decide +kernel) (by decide +kernel) (by decide +kernel)
    (by first | exact .inl (by decide +kernel) | exact .inr (by decide +kernel)) (by rw [isSubtype_type]; kernel_rfl)
theorem type_search : typeOf (.builtin "re.Pattern.search") = pure (.type "method_descriptor") := by show builtinType _ = _; rw [builtinType_eq_fast]; kernel_rfl
theorem entry_search : entryFor table "re.Pattern.search" = some Builtin.«re.Pattern.search» := entryFor_of_tree (by kernel_rfl)
theorem plain_re : PlainAttrs "re.Pattern" := ⟨⟨"object.__getattribute__", by rw [typeLookup_type, builtinLookup_eq_fast]; kernel_rfl, by decide +kernel⟩, by rw [typeLookup_type, builtinLookup_eq_fast]; kernel_rfl⟩
theorem args_search (a b : Value) : argsOk "re.Pattern.search" ⟨[a, b], []⟩ := by
  unfold argsOk
  kernel_rfl

/-! the machine on a text where no sign behind a dot is a figure -/
open PySem.Sre
def reCode : Array Nat := #[14, 8, 1, 2, 4294967295, 1, 1, 46, 0, 16, 46, 24, 9, 1, 4294967295, 13, 4, 8, 0, 0, 1, 6, 5, 1]

theorem step_exec {m : M} (ho : m.outcome = none) (ha : m.answer = none) (hpc : m.pc < m.code.size) : m.step = m.exec := by
  unfold M.step
  rw [ho, ha]
  simp [hpc]
theorem step_back {m : M} {f : Sre.Frame} {rest : List Sre.Frame} {b : Bool} (ho : m.outcome = none) (ha : m.answer = some b) (hf : m.frames = f :: rest) :
    m.step = M.resume { m with answer := none, frames := rest, weight := m.weight - (1 + f.kept.marks.size), pc := f.pc, pos := f.pos, outermost := f.outermost } f b := by
  unfold M.step
  rw [ho, ha, hf]
  rfl
theorem step_end {m : M} {b : Bool} (ho : m.outcome = none) (ha : m.answer = some b) (hf : m.frames = []) : m.step = { m with outcome := some (if b then .matched else .failed) } := by
  unfold M.step
  rw [ho, ha, hf]
  rfl
theorem acc_lit (x : Nat) (sn : Sre.Seen) : accepts reCode 9 x sn = .ok (x == 46, sn) := rfl
theorem acc_in (x : Nat) (sn : Sre.Seen) (h : isDigit x = false) : ∃ sn', accepts reCode 15 x sn = .ok (false, sn') := by
  refine ⟨((sn.add 8).add 55).add 0, ?_⟩
  show inSet reCode x reCode.size 17 true sn = _
  unfold inSet
  show (category 0 x >>= fun b => if b = true then _ else inSet reCode x 23 19 true _) = _
  have : category 0 x = .ok false := by
    unfold category
    simp [Except.map, h]
  rw [this]
  show inSet reCode x 23 19 true _ = _
  unfold inSet
  rfl
theorem exec_lit {m : M} (hc : m.code = reCode) (hpc : m.pc = 9) : m.exec = (let m := { m with seen := m.seen.add 16 }; if m.pos ≥ m.lim then m.say false else
    match accepts m.code m.pc (m.text.getD m.pos 0) m.seen with
    | .error why => m.stick why
    | .ok (false, seen) => { m with seen }.say false
    | .ok (true, seen) => { m with seen, pc := m.pc + itemWidth m.code m.pc, pos := m.pos + 1 }) := by
  obtain ⟨code, text, lim, start, lastStart, wholeText, mustAdvance, pc, pos, handed, outermost, marks, lastmark, lastindex, loops, inner, frames, weight, answer, seen, outcome⟩ := m
  simp only at hc hpc
  subst hc hpc
  rfl
theorem exec_rep {m : M} (hc : m.code = reCode) (hpc : m.pc = 11) : ∃ g : Nat → Sre.Seen → M, m.exec = (let room : Int := (m.lim : Int) - m.pos; let m := { m with seen := m.seen.add 24 }; if (1 : Int) > room then m.say false else
    match run m.code m.text 15 (min 4294967295 room.toNat) m.pos 0 (m.seen.add 13) with
    | .error why => m.stick why
    | .ok (n, seen) => let m := { m with seen }; if n < 1 then m.say false else g n seen) := by
  obtain ⟨code, text, lim, start, lastStart, wholeText, mustAdvance, pc, pos, handed, outermost, marks, lastmark, lastindex, loops, inner, frames, weight, answer, seen, outcome⟩ := m
  simp only at hc hpc
  subst hc hpc
  exact ⟨_, rfl⟩

/-- the machine at the start of an attempt at s -/
structure AtS (c : Array Nat) (s : Nat) (m : M) : Prop where
  code : m.code = reCode
  text : m.text = c
  lim : m.lim = c.size
  last : m.lastStart = c.size
  pc : m.pc = 9
  pos : m.pos = s
  fr : ∃ o, m.frames = [{ wait := .nextStart, pc := 9, pos := s, outermost := o }]
  wt : m.weight = 1
  ans : m.answer = none
  out : m.outcome = none
  marks : m.marks = #[]
/-- an attempt that said no -/
structure No (c : Array Nat) (s : Nat) (m : M) : Prop where
  code : m.code = reCode
  text : m.text = c
  lim : m.lim = c.size
  last : m.lastStart = c.size
  fr : ∃ o, m.frames = [{ wait := .nextStart, pc := 9, pos := s, outermost := o }]
  wt : m.weight = 1
  ans : m.answer = some false
  out : m.outcome = none
  marks : m.marks = #[]

inductive Runs : M → M → Nat → Prop
  | done {m : M} : m.outcome.isSome = true → Runs m m 0
  | step {m m' : M} {k : Nat} : m.outcome = none → Runs m.step m' k → Runs m m' (k + 1)

def noFig (c : Array Nat) : Prop := ∀ i, c.getD i 0 = 46 → isDigit (c.getD (i + 1) 0) = false

def nx (m : M) : M := { m with code := reCode, pc := 11, pos := m.pos + 1, seen := m.seen.add 16 }
theorem at_no {c : Array Nat} (hc : noFig c) {s : Nat} {m : M} (h : AtS c s m) : (∃ m', m.step = m' ∧ No c s m') ∨ (∃ m' m'', m.step = m' ∧ m'.outcome = none ∧ m'.step = m'' ∧ No c s m'') := by
  have hlt : m.pc < m.code.size := by rw [h.code, h.pc]; decide
  rw [step_exec h.out h.ans hlt, exec_lit h.code h.pc]
  dsimp only
  by_cases hs : m.pos ≥ m.lim
  · rw [if_pos hs]
    exact .inl ⟨_, rfl, h.code, h.text, h.lim, h.last, h.fr, h.wt, rfl, h.out, h.marks⟩
  · rw [if_neg hs, h.code, h.pc, acc_lit]
    by_cases hd : m.text.getD m.pos 0 = 46
    · right
      have e : (m.text.getD m.pos 0 == 46) = true := by rw [hd]; rfl
      rw [e]
      dsimp only
      refine ⟨_, _, rfl, h.out, rfl, ?_⟩
      show No c s (nx m).step
      rw [step_exec (m := nx m) h.out h.ans (show 11 < reCode.size by decide)]
      obtain ⟨g, eg⟩ := exec_rep (m := nx m) rfl rfl
      rw [eg]
      dsimp only [nx]
      by_cases hr : (1 : Int) > (m.lim : Int) - ((m.pos + 1 : Nat) : Int)
      · rw [if_pos hr]
        exact ⟨rfl, h.text, h.lim, h.last, h.fr, h.wt, rfl, h.out, h.marks⟩
      · rw [if_neg hr]
        obtain ⟨k, hk⟩ : ∃ k, min 4294967295 ((m.lim : Int) - ((m.pos + 1 : Nat) : Int)).toNat = k + 1 := ⟨min 4294967295 ((m.lim : Int) - ((m.pos + 1 : Nat) : Int)).toNat - 1, by omega⟩
        rw [hk]
        obtain ⟨sn', ea⟩ := acc_in (m.text.getD (m.pos + 1) 0) ((m.seen.add 16).add 24 |>.add 13) (by rw [h.text] at hd ⊢; exact hc _ hd)
        have er : run reCode m.text 15 (k + 1) (m.pos + 1) 0 ((m.seen.add 16).add 24 |>.add 13) = .ok (0, sn') := by
          unfold Sre.run
          rw [ea]; rfl
        rw [er]
        exact ⟨rfl, h.text, h.lim, h.last, h.fr, h.wt, rfl, h.out, h.marks⟩
    · left
      have e : (m.text.getD m.pos 0 == 46) = false := by simpa using hd
      rw [e]
      dsimp only
      exact ⟨_, rfl, rfl, h.text, h.lim, h.last, h.fr, h.wt, rfl, h.out, h.marks⟩

theorem no_next {c : Array Nat} {s : Nat} {m : M} (h : No c s m) (hs : s < c.size) : AtS c (s + 1) m.step := by
  obtain ⟨o, hf⟩ := h.fr
  rw [step_back h.out h.ans hf]
  obtain ⟨code, text, lim, start, lastStart, wholeText, mustAdvance, pc, pos, handed, outermost, marks, lastmark, lastindex, loops, inner, frames, weight, answer, seen, outcome⟩ := m
  obtain ⟨h1, h2, h3, h4, _, h6, h7, h8, h9⟩ := h
  simp only at h1 h2 h3 h4 h6 h7 h8 h9
  subst h1 h2 h3 h4 h6 h7 h8 h9
  unfold M.resume
  dsimp only
  rw [if_neg (by decide), if_pos hs]
  exact ⟨rfl, rfl, rfl, rfl, rfl, rfl, ⟨_, rfl⟩, rfl, rfl, rfl, rfl⟩
theorem no_last {c : Array Nat} {s : Nat} {m : M} (h : No c s m) (hs : ¬ s < c.size) : m.step.outcome = none ∧ m.step.step.outcome = some .failed := by
  obtain ⟨o, hf⟩ := h.fr
  rw [step_back h.out h.ans hf]
  obtain ⟨code, text, lim, start, lastStart, wholeText, mustAdvance, pc, pos, handed, outermost, marks, lastmark, lastindex, loops, inner, frames, weight, answer, seen, outcome⟩ := m
  obtain ⟨h1, h2, h3, h4, _, h6, h7, h8, h9⟩ := h
  simp only at h1 h2 h3 h4 h6 h7 h8 h9
  subst h1 h2 h3 h4 h6 h7 h8 h9
  unfold M.resume
  dsimp only
  rw [if_neg (by decide), if_neg hs]
  exact ⟨rfl, rfl⟩

theorem at_runs {c : Array Nat} (hc : noFig c) : ∀ (d s : Nat) (m : M), c.size - s = d → s ≤ c.size → AtS c s m → ∃ m' k, Runs m m' k ∧ k ≤ 3 * d + 5 ∧ m'.outcome = some .failed := by
  intro d
  induction d with
  | zero =>
    intro s m hd hs h
    have fin : ∀ m, No c s m → ∃ m' k, Runs m m' k ∧ k ≤ 2 ∧ m'.outcome = some .failed := fun m hn => by
      obtain ⟨e1, e2⟩ := no_last hn (by omega)
      exact ⟨_, _, .step hn.out (.step e1 (.done (by rw [e2]; rfl))), by omega, e2⟩
    rcases at_no hc h with ⟨m1, e, hn⟩ | ⟨m1, m2, e, eo, e2, hn⟩
    · obtain ⟨m', k, r, hk, ho⟩ := fin m1 hn
      exact ⟨m', k + 1, .step h.out (e ▸ r), by omega, ho⟩
    · obtain ⟨m', k, r, hk, ho⟩ := fin m2 hn
      exact ⟨m', k + 1 + 1, .step h.out (e ▸ .step eo (e2 ▸ r)), by omega, ho⟩
  | succ d ih =>
    intro s m hd hs h
    rcases at_no hc h with ⟨m1, e, hn⟩ | ⟨m1, m2, e, eo, e2, hn⟩
    · obtain ⟨m', k, r, hk, ho⟩ := ih (s + 1) _ (by omega) (by omega) (no_next hn (by omega))
      exact ⟨m', k + 1 + 1, .step h.out (e ▸ .step hn.out r), by omega, ho⟩
    · obtain ⟨m', k, r, hk, ho⟩ := ih (s + 1) _ (by omega) (by omega) (no_next hn (by omega))
      exact ⟨m', k + 1 + 1 + 1, .step h.out (e ▸ .step eo (e2 ▸ .step hn.out r)), by omega, ho⟩

theorem runs_for {m m' : M} {k : Nat} (r : Runs m m' k) : ∀ n, (k ≤ n → m.runFor n = m') ∧ (n < k → Runs (m.runFor n) m' (k - n)) := by
  induction r with
  | done h =>
    intro n
    refine ⟨fun _ => ?_, fun h' => absurd h' (Nat.not_lt_zero _)⟩
    cases n with
    | zero => rfl
    | succ n => unfold M.runFor; rw [if_pos h]
  | step h r ih =>
    rename_i m m' k
    intro n
    cases n with
    | zero => exact ⟨fun h' => absurd h' (by omega), fun _ => .step h r⟩
    | succ n =>
      have e : m.runFor (n + 1) = m.step.runFor n := by rw [M.runFor, h]; rfl
      rw [e]
      refine ⟨fun h' => (ih n).1 (by omega), fun h' => ?_⟩
      have := (ih n).2 (by omega)
      rwa [show k + 1 - (n + 1) = k - n by omega]
theorem runs_end {m m' : M} {k : Nat} (r : Runs m m' k) : m'.outcome.isSome = true := by
  induction r with
  | done h => exact h
  | step _ _ ih => exact ih
theorem runs_not {m m' : M} {k : Nat} (r : Runs m m' k) (hk : 0 < k) : m.outcome = none := by
  cases r with
  | done h => omega
  | step h _ => exact h

open PySem.Builtin.Re
theorem drive_wp {M' : Model} {A : Around} {E : Value → Shared → Prop} {Q : M → Shared → Prop} {s : Shared} : ∀ (turns : Nat) {m m' : M} {k : Nat}, Runs m m' k → k ≤ 4 * turns → 0 < turns → Q m' s → wpAny M' A (reDrive turns m) Q E s
  | 0, _, _, _, _, _, h0, _ => absurd h0 (by omega)
  | turns + 1, m, m', k, r, hk, _, hQ => by
    unfold reDrive
    show wpAny _ _ (if (m.runFor 4).outcome.isSome = true then pure (m.runFor 4) else (rule "sre.turn" >>= fun _ => reDrive turns (m.runFor 4))) _ _ _
    by_cases h4 : k ≤ 4
    · rw [(runs_for r 4).1 h4, if_pos (runs_end r)]
      exact wpAny_pure hQ
    · have r' := (runs_for r 4).2 (by omega)
      rw [runs_not r' (by omega)]
      exact wpAny_bind (wpAny_rule (drive_wp turns r' (by omega) (by omega) hQ))
end Mine

end
/-! Re2 -/
section
open PySem PySem.W PyProof.Rows PySem.Calls
set_option maxRecDepth 100000
set_option linter.all false
namespace Mine
open PySem.Sre PySem.Builtin.Re

theorem search_at {c : Array Nat} (h : 2 ≤ c.size) : AtS c 0 (forSearch reCode c 0 0 c.size false) := by
  unfold Sre.forSearch
  dsimp only
  have e : ¬ ((decide (0 > c.size) || decide (c.size - 0 < (header reCode).1)) = true) := by
    have : (header reCode).1 = 2 := rfl
    rw [this]
    simp
    omega
  rw [if_neg e]
  exact ⟨rfl, rfl, rfl, rfl, rfl, rfl, ⟨_, rfl⟩, rfl, rfl, rfl, rfl⟩
theorem search_runs {c : Array Nat} (hc : noFig c) : ∃ m' k, Runs (forSearch reCode c 0 0 c.size false) m' k ∧ k ≤ 3 * c.size + 5 ∧ m'.outcome = some .failed := by
  by_cases h : 2 ≤ c.size
  · obtain ⟨m', k, r, hk, ho⟩ := at_runs hc c.size 0 _ (by omega) (by omega) (search_at h)
    exact ⟨m', k, r, by omega, ho⟩
  · have e : (decide (0 > c.size) || decide (c.size - 0 < (header reCode).1)) = true := by
      have : (header reCode).1 = 2 := rfl
      rw [this]
      simp
      omega
    have es : ∃ m, forSearch reCode c 0 0 c.size false = m ∧ m.outcome = none ∧ m.answer = some false ∧ m.frames = [] := by
      refine ⟨_, rfl, ?_⟩
      unfold Sre.forSearch
      dsimp only
      rw [if_pos e]
      exact ⟨rfl, rfl, rfl⟩
    obtain ⟨m, em, h1, h2, h3⟩ := es
    rw [em]
    refine ⟨_, 1, .step h1 (.done ?_), by omega, ?_⟩
    · rw [step_end h1 h2 h3]; rfl
    · rw [step_end h1 h2 h3]; rfl

theorem named_is (v : Value) : reNamed "re.Pattern.search" "search" ["string", "pos", "endpos"] 1 [v] [] = pure [some v, none, none] := by rfl

variable {C : Cx} {n : Nat} {env : Env} {ρ : Rho}

theorem rules_wp {M' : Model} {A : Around} {E : Value → Shared → Prop} {s : Shared} {m : M} {Q : PUnit → Shared → Prop} (l : List Nat) (h : Q ⟨⟩ s) :
    wpAny M' A (forIn l PUnit.unit fun i _ => if m.seen.has i = true then do rule (Sre.names.getD i ""); pure (ForInStep.yield PUnit.unit) else pure (ForInStep.yield PUnit.unit)) Q E s := by
  refine wpAny_forIn_list _ (fun _ _ s' => s' = s) _ ?_ ?_ l _ rfl
  · rintro x rest b s' rfl
    split
    · exact wpAny_bind (wpAny_rule (wpAny_pure rfl))
    · exact wpAny_pure rfl
  · rintro b s' rfl; exact h

theorem search_wp {M' : Model} {A : Around} {E : Value → Shared → Prop} {s : Shared} {a b : Addr} {x : Str} {t : Tok} {vs : List Value} {ob : Obj} {is : List Value} {k : Nat} {ot : Obj}
    (ha : s.heap.get? a = some ob) (hf : ob.data = .fields vs.toArray) (h6 : reRawNat (vs.toArray.getD 6 .none) = 0) (h2 : reRawNat (vs.toArray.getD 2 .none) = 0) (h5 : vs.toArray.getD 5 .none = .ref b) (hb : s.heap.get? b = some ot) (ht : ot.data = .seq is.toArray k)
    (hcode : (is.toArray.map reRawOf).map (·.toNat) = reCode) (hx : noFig x.cps) (hl : x.cps.size ≤ 2 ^ 62) :
    wpAny M' A (Builtin.«re.Pattern.search» ⟨[.ref a, .str x t], []⟩) (fun fin s' => ∃ v, fin = .done (.ret v) ∧ v = .none ∧ s' = s) E s := by
  unfold Builtin.«re.Pattern.search» reTarget
  dsimp only
  rw [named_is]
  refine wpAny_bind (wpAny_bind (wpAny_pure ?_))
  dsimp only
  refine wpAny_bind (wpAny_pure (wpAny_bind (wpAny_pure (wpAny_bind (wpAny_fieldsOf ha hf ?_)))))
  refine wpAny_bind ?_
  unfold reTextOf asStr?
  refine wpAny_bind (wpAny_pure ?_)
  dsimp only
  refine wpAny_pure ?_
  dsimp only
  rw [h6]
  rw [if_neg (by decide), if_neg (by decide)]
  have e0 : reNoCollectionInside (.str x t) 0 = pure () := rfl
  rw [e0, h5, h2]
  refine wpAny_bind (wpAny_pure (wpAny_bind ?_))
  unfold reRawItems
  refine wpAny_bind (wpAny_seqItems hb ht (wpAny_pure (wpAny_pure ?_)))
  show wpAny M' A (reAnswer _ (forSearch ((is.toArray.map reRawOf).map (·.toNat)) x.cps 0 (min (Int.toNat 0) x.cps.size) (min (2 ^ 63 - 1 : Int).toNat x.cps.size) false)) _ _ _
  rw [hcode, show min (Int.toNat 0) x.cps.size = 0 from Nat.zero_min _, show min (2 ^ 63 - 1 : Int).toNat x.cps.size = x.cps.size from Nat.min_eq_right (Nat.le_trans hl (by decide))]
  obtain ⟨m', j, r, hj, ho⟩ := search_runs hx
  unfold reAnswer
  refine wpAny_bind ?_
  unfold reRunToEnd
  refine wpAny_bind (drive_wp (2 ^ 64) r (by omega) (by decide) ?_)
  refine wpAny_bind (rules_wp _ ?_)
  rw [ho]
  exact wpAny_pure (wpAny_pure ⟨_, rfl, rfl, rfl⟩)

theorem ev_search {o e : Expr} {apos pos : Pos} {a b : Addr} {vs is : List Value} {k : Nat} {x : Str} {oc : Value} {sl : Array (Option Value)} {ob : Obj}
    (ho : Ev C n env ρ o (V (.ref a))) (he : Ev C n env ρ e (S x)) (ha : C.K.lookup a = some { cls := .type "re.Pattern", data := .fields vs.toArray }) (hb : C.K.lookup b = some { cls := oc, data := .seq is.toArray k })
    (h6 : reRawNat (vs.toArray.getD 6 .none) = 0) (h2 : reRawNat (vs.toArray.getD 2 .none) = 0) (h5 : vs.toArray.getD 5 .none = .ref b)
    (hcode : (is.toArray.map reRawOf).map (·.toNat) = reCode) (hx : noFig x.cps) (hl : x.cps.size ≤ 2 ^ 62)
    (hbase : attributeBase o "search" env (eval o env) = eval o env) (hs : starEach [e] env = [(false, eval e env)]) (hline : (apos.endLine == pos.line) = true) :
    Ev C n env ρ (.Call (.Attribute o "search" apos) [e] [] pos) NO := fun A m p s st => by
  refine Call_method1 hbase hs hline (wpAny_mono (ho _ _ _ _ st) (fun v s1 x1 => ?_) fun _ _ q => q)
  obtain ⟨k1, rfl⟩ := x1
  have st1 := st.keeps k1
  refine ⟨"re.Pattern", "re.Pattern.search", plain_re, slot_search, type_search, ⟨_, st1.g.k _ _ ha, rfl⟩, fun b e => ⟨_, by cases e; exact st1.g.k _ _ ha, rfl⟩, ?_⟩
  refine callWith_any (C := C) (f := .builtin "re.Pattern.search") rfl rfl (PySem.Calls.spliced_cons (wpAny_mono (he _ _ _ _ st1) (fun v s2 x2 => PySem.Calls.spliced_nil ?_) fun _ _ q => q))
  obtain ⟨k2, t, rfl⟩ := x2
  have st2 := st1.keeps k2
  refine ⟨st2.g, ?_⟩
  refine wpAny_call_entry slot_search ⟨_, st2.g.k _ _ ha, rfl⟩ entry_search (wpAny_mono (search_wp (st2.g.k _ _ ha) rfl h6 h2 h5 (st2.g.k _ _ hb) rfl hcode hx hl) (fun fin s3 x3 => ?_) fun _ _ q => q) (args_search _ _)
  obtain ⟨v, rfl, rfl, rfl⟩ := x3
  exact ⟨_, rfl, keeps_trans k1 k2, rfl⟩
end Mine

end
/-! Fw8 -/
section
open PySem PySem.W PyProof.Rows PySem.Calls
set_option maxRecDepth 100000
set_option linter.all false
namespace Mine
section
variable {C : Cx} {n : Nat} {env : Env} {ρ : Rho}

/-! methods of strs -/
theorem ev_find {o e : Expr} {apos pos : Pos} {x y : Str} (ho : Ev C n env ρ o (S x)) (he : Ev C n env ρ e (S y)) (hbase : attributeBase o "find" env (eval o env) = eval o env) (hs : starEach [e] env = [(false, eval e env)])
    (hline : (apos.endLine == pos.line) = true) : Ev C n env ρ (.Call (.Attribute o "find" apos) [e] [] pos) (I (Txt.find x y)) := fun A m p s st =>
  Call_method1 hbase hs hline (wpAny_mono (ho _ _ _ _ st) (fun v s1 x1 => by
    obtain ⟨k1, t, rfl⟩ := x1
    exact SB.find (wpAny_mono (he _ _ _ _ (st.keeps k1)) (fun v s2 x2 => by
      obtain ⟨k2, u, rfl⟩ := x2
      exact ⟨y, u, rfl, keeps_trans (keeps_trans k1 k2) (keeps_tok _ _), _, rfl⟩) fun _ _ q => q)) fun _ _ q => q)

theorem strs_of {p : Addr → Prop} {g : View} : ∀ {texts : List Str} {vs : List Value}, Fa g (texts.map S) vs → ∃ l : List (Str × Tok), vs = strValues l ∧ l.map (·.1) = texts
  | [], [], _ => ⟨[], rfl, rfl⟩
  | [], _ :: _, h => h.elim
  | _ :: _, [], h => h.elim
  | x :: r, v :: vs, h => by
    obtain ⟨⟨t, rfl⟩, h2⟩ := h
    obtain ⟨l, rfl, rfl⟩ := strs_of (p := p) h2
    exact ⟨(x, t) :: l, rfl, rfl⟩
theorem ev_join {o e : Expr} {apos pos : Pos} {x : Str} {texts : List Str} (ho : Ev C n env ρ o (S x)) (he : Ev C n env ρ e (LL (texts.map S))) (hok : JoinOk x texts = true)
    (hbase : attributeBase o "join" env (eval o env) = eval o env) (hs : starEach [e] env = [(false, eval e env)])
    (hline : (apos.endLine == pos.line) = true) : Ev C n env ρ (.Call (.Attribute o "join" apos) [e] [] pos) (S (Txt.join x texts)) := fun A m p s st =>
  Call_method1 hbase hs hline (wpAny_mono (ho _ _ _ _ st) (fun v s1 x1 => by
    obtain ⟨k1, t, rfl⟩ := x1
    exact SB.join (wpAny_mono (he _ _ _ _ (st.keeps k1)) (fun v s2 x2 => by
      obtain ⟨k2, a, vs, k, rfl, hg, hf⟩ := x2
      obtain ⟨l, rfl, hl⟩ := strs_of (p := p) hf
      exact ⟨a, l, rfl, isList_of hg, texts, hl, hok, fun t' k' => ⟨keeps_trans (keeps_trans k1 k2) (keeps_tok _ _), _, rfl⟩⟩) fun _ _ q => q)) fun _ _ q => q)

/-! slices -/
def cutS (x : Str) (i : Nat) : Str := ⟨(x.cps.toList.drop i).toArray⟩
def strSliceFrom (x : Str) (i : Nat) : List Nat := Builtin.Str.strSliceIndices (some (i : Int)) none 1 x.length
theorem picked_from (x : Str) (i : Nat) (hi : i ≤ x.length) : (strSliceFrom x i).filterMap (x.cps[·]?) = x.cps.toList.drop i := by
  have e : strSliceFrom x i = Builtin.Str.strSliceIndices (some (i : Int)) (some ((x.length : Nat) : Int)) 1 x.length := by
    unfold strSliceFrom Builtin.Str.strSliceIndices
    simp only [show (1 : Int) > 0 by decide, if_true]
    congr 1
    split <;> omega
  rw [e, StrLaws.sliced_plain x hi (Nat.le_refl _), List.take_of_length_le]
  simp [Str.length]
theorem picked_len (x : Str) (i : Nat) (hi : i ≤ x.length) : (strSliceFrom x i).length = x.length - i := by
    have e : strSliceFrom x i = Builtin.Str.strSliceIndices (some (i : Int)) (some ((x.length : Nat) : Int)) 1 x.length := by
      unfold strSliceFrom Builtin.Str.strSliceIndices
      simp only [show (1 : Int) > 0 by decide, if_true]
      congr 1
      split <;> omega
    rw [e, StrLaws.strSliceIndices_plain hi (Nat.le_refl _)]
    simp
theorem ev_strFrom {value lower : Expr} {p0 pos : Pos} {x : Str} {i : Int} (hv : Ev C n env ρ value (S x)) (hl : Ev C n env ρ lower (I i)) (h0 : 0 ≤ i) (hi : i ≤ x.length) (hz : x.length ≤ sizeLine) (ht : ∀ o r, letTemporaryGo value o r = pure ()) :
    Ev C n env ρ (.Subscript value (.Slice (some lower) none none p0) pos) (S (cutS x i.toNat)) := fun A m p s st =>
  wpAny_Subscript_str_slice (wpAny_mono (hv _ _ _ _ st) (fun o s1 x1 => by
    obtain ⟨k1, t, rfl⟩ := x1
    rw [evalPart_some]
    refine wpAny_mono (hl _ _ _ _ (st.keeps k1)) (fun vl s2 x2 => ?_) fun _ _ q => q
    obtain ⟨k2, u, rfl⟩ := x2
    rw [evalPart_none]
    refine wpAny_pure ⟨x, t, some (i, u), none, rfl, rfl, rfl, ?_⟩
    have ei : i = ((i.toNat : Nat) : Int) := by omega
    have hp : (slicePicked x (some (i, u)) none none).filterMap (x.cps[·]?) = x.cps.toList.drop i.toNat := by
      have := picked_from x i.toNat (by omega)
      unfold slicePicked
      simp only [Option.map_some, Option.map_none, Option.getD_none]
      rw [ei]; exact this
    unfold sliceMade
    split
    · rename_i hc
      have hlen : (slicePicked x (some (i, u)) none none).length = x.length := by
        simp only [Bool.and_eq_true, beq_iff_eq] at hc; exact hc.2
      have hfull : cutS x i.toNat = x := by
        by_cases hi0 : i.toNat = 0
        · unfold cutS; rw [hi0]; simp
        · exfalso
          have e2 := picked_len x i.toNat (by omega)
          unfold slicePicked at hlen
          simp only [Option.map_some, Option.map_none, Option.getD_none] at hlen
          rw [ei] at hlen
          have e3 : (strSliceFrom x i.toNat).length = x.length := hlen
          rw [e2] at e3
          omega
      exact ⟨keeps_trans (keeps_trans k1 k2) ⟨_, _, rfl, fun _ _ e => Heap.get?_push_of_some _ e⟩, t, by rw [hfull]⟩
    · refine ⟨?_, keeps_trans (keeps_trans k1 k2) ⟨_, _, rfl, fun _ _ e => Heap.get?_push_of_some _ e⟩, s2.toks, ?_⟩
      · show (Str.mk _).length ≤ sizeLine
        rw [hp]
        simp only [Str.length, List.size_toArray, List.length_drop, Array.length_toList]
        have : x.cps.size ≤ sizeLine := hz
        omega
      · rw [hp]; rfl) fun _ _ q => q) ht
end
end Mine

end
/-! Fw9 -/
section
open PySem PySem.W PyProof.Rows PySem.Calls
set_option maxRecDepth 100000
set_option linter.all false
namespace Mine
section
variable {C : Cx} {n : Nat} {env : Env} {ρ : Rho} {ow : Str → Prop} {Pre : Assn} {R : Po}

/-- what an iterator's turn does to the ground -/
theorem Base.turn {A : Around} {m : Str → Option Value} {q pc : Addr → Prop} {s s' : Shared} {wr : List Addr} {s1 : Heap} (b : Base C n env A ow m q (fun b => pc b ∨ b ∈ wr) s)
    (hr : ∃ h t, s' = { s with heap := h, toks := t }) (hk : ∀ b o, b ∉ wr → s.heap.get? b = some o → s'.heap.get? b = some o)
    (fW : ∀ b ∈ wr, s1.get? b = none) (hw : ∀ b ∈ wr, pc b → ∃ o, s'.heap.get? b = some o) (hc : ∀ y c, env.cells.lookup y = some c → (env.kindOf y = some .cell ∨ env.kindOf y = some .free) → ∃ o, s1.get? c = some o) (ht : ∀ b o, C.top.get? b = some o → s1.get? b = some o) :
    Base C n env A ow m q pc s' := by
  refine ⟨b.a, b.f.butL (fun z => b.dis _ b.w.lq (.inr z)) (fun y c q1 q2 q3 => ?_) hk, b.w, { b.g with sub := fun d o e => hk d o (fun z => ?_) (b.g.sub d o e) }, fun d hd => ?_, fun d hd z => b.dis d hd (.inl z), b.top⟩
  · obtain ⟨o, e⟩ := hc y c q2 q1
    rw [fW c q3] at e; cases e
  · have := ht d o e
    rw [fW d z] at this; cases this
  · rcases hd with hd | hd
    · by_cases hz : d ∈ wr
      · exact hw d hz hd
      · obtain ⟨o, e⟩ := b.pin d (.inl (.inl hd))
        exact ⟨o, hk d o hz e⟩
    · obtain ⟨o, e⟩ := b.pin d (.inr hd)
      exact ⟨o, hk d o (fun z => b.dis d hd (.inr z)) e⟩

theorem x_for {x : Str} {px pos : Pos} {iter : Expr} {body : List Stmt} {ts : List T} {Inv Bod : Nat → Assn}
    (hρ : Imp Pre (LV ρ)) (hio : Io C n env ρ iter ts) (hx : canPut env x = true) (ho : env.kindOf x = some .cell → ow x) (h0 : Imp Pre (Inv 0))
    (hput : ∀ i t, ts[i]? = some t → Puts env ow (Inv i) x t (Bod i))
    (hb : ∀ i t, ts[i]? = some t → Xs C n env ow (Bod i) body { nx := Inv (i + 1), cn := Inv (i + 1), bk := R.nx, rt := R.rt })
    (hN : Imp (Inv ts.length) R.nx) (hs : ∀ v, foldedSetIterable iter env v = pure v) : X1 C n env ow Pre (.For (.Name x px) iter body [] pos) R := fun A m q pc s b hP => by
  refine wpAny_For (wpAny_mono (hio _ _ _ _ (b.sit (hρ _ _ _ _ hP))) (fun v s1 x1 => ?_) fun _ _ z => z) hs
  obtain ⟨k1, x1⟩ := x1
  refine wpAny_mono x1 (fun it s2 x2 => ?_) fun _ _ z => z
  obtain ⟨k2, Ia, rfl, fp, wr, P, St, W, hst, hty, hwf, hfs, hwe, hfp, hfc⟩ := x2
  have b1 := b.keeps k1
  let pc' : Addr → Prop := fun b => pc b ∨ b ∈ wr
  have k2s := keeps_hs k2
  have b2 : Base C n env A ow m q pc' s2 := by
    have b2 := b1.keeps k2
    refine ⟨b2.a, b2.f, b2.w, b2.g, ?_, ?_, b2.top⟩
    · rintro d ((hd | hd) | hd)
      · exact b2.pin d (.inl hd)
      · exact hwe _ _ hst d (W.sub _ hd)
      · exact b2.pin d (.inr hd)
    · rintro d hd (hd' | hd')
      · exact b2.dis d hd hd'
      · exact hfp d (W.sub _ hd') (.inr hd)
  have hsub : ∀ {q' : Addr → Prop} {h : Heap}, (∀ b, q' b → q b ∨ s1.heap.get? b = none) → (∀ b o, ¬ q b → s1.heap.get? b = some o → h.get? b = some o) → Sub (vw (pa q pc) s1.heap) (vw (pa q' pc') h) := by
    intro q' h h1 h2
    refine vw_sub fun d o hd e => ⟨?_, h2 d o (fun z => hd (.inr z)) e⟩
    rintro ((z | z) | z)
    · exact hd (.inl z)
    · rw [hwf d z] at e; cases e
    · rcases h1 d z with z | z
      · exact hd (.inr z)
      · rw [z] at e; cases e
  have hP1 : (Inv 0).P m q pc s1.heap := h0 _ _ _ _ (Pre.mono (keeps_hs k1) hP)
  have hcx : ∀ y c, env.cells.lookup y = some c → (env.kindOf y = some .cell ∨ env.kindOf y = some .free) → ∃ o, s1.heap.get? c = some o := fun y c e hk => by
    obtain ⟨c', e1, o, e2, _⟩ := b1.f.cel y hk
    rw [e] at e1; cases e1; exact ⟨o, e2⟩
  refine codeAny_forLoop (fun k s' => ∃ m' q' i, i ≤ ts.length ∧ k = ts.length + 1 - i ∧ Base C n env A ow m' q' pc' s' ∧ Step q s1 s' q' ∧ St i s'.heap ∧ (Inv i).P m' q' pc' s'.heap ∧ ∀ b ∈ fp, ¬ q' b) ?_ (ts.length + 1)
    ⟨m, q, 0, Nat.zero_le _, rfl, b2, .of_keeps k2, hst, (Inv 0).mo (hsub (fun _ h => .inl h) fun d o _ e => k2s d o e) (fun d o _ e => k2s d o e) hP1, fun d hd hq => hfp d hd (.inr hq)⟩ (fun _ => rfl)
  rintro k s' ⟨m', q', i, hi, rfl, B, S1, hSt, hI, hfq⟩
  by_cases hlt : i < ts.length
  · obtain ⟨t, ht⟩ : ∃ t, ts[i]? = some t := ⟨_, List.getElem?_eq_getElem hlt⟩
    refine W.item i _ _ _ hlt hSt fun v h₁ tk₁ hPv hSt₁ hk₁ => ?_
    have B₁ : Base C n env A ow m' q' pc' { s' with heap := h₁, toks := tk₁ } := by
      have B₁ : Base C n env A ow m' q' pc { s' with heap := h₁, toks := tk₁ } := B.turn ⟨_, _, rfl⟩ hk₁ hwf (fun d hd z => by obtain ⟨o, e⟩ := b1.pin d (.inl z); rw [hwf d hd] at e; cases e) hcx b1.g.sub
      exact ⟨B₁.a, B₁.f, B₁.w, B₁.g, fun d hd => hd.elim (fun z => z.elim (fun z => B₁.pin d (.inl z)) fun z => hwe _ _ hSt₁ d (W.sub _ z)) fun z => B₁.pin d (.inr z), B.dis, B₁.top⟩
    have keep₁ : ∀ d o, ¬ q d → s1.heap.get? d = some o → h₁.get? d = some o := fun d o hd e => hk₁ d o (fun z => by rw [hwf d z] at e; cases e) (S1.keep d o hd e)
    have hI₁ : (Inv i).P m' q' pc' h₁ := (Inv i).mo (vw_sub fun d o hd e => ⟨hd, hk₁ d o (fun z => hd (.inl (.inr z))) e⟩) (fun d o hd e => hk₁ d o (fun z => B.dis d hd (.inr z)) e) hI
    have tv : t.P (vw (pa q' pc') h₁) v := t.mono (hsub S1.fresh keep₁) (hty i v t hPv ht)
    refine wpAny_assign_Name (wpAny_mono (Q := fun _ s3 => ∃ h₂ tk₂, s3 = { s' with heap := h₂, toks := tk₂ } ∧ Base C n env A ow (upd m' x v) q' pc' s3 ∧ (Bod i).P (upd m' x v) q' pc' h₂ ∧ Heap.SameBut (tgt env x) h₁ h₂ ∧ q' (tgt env x)) (store_base B₁ hx ho fun h₂ tk₂ B₂ hs₂ hq =>
      ⟨h₂, tk₂, rfl, B₂, hput i t ht _ _ _ _ _ _ B₁.w hq hI₁ tv (fun d o hd e => hs₂.extBut d o hd e), hs₂, hq⟩) (fun _ s3 x3 => ?_) fun _ _ z => z.elim)
    obtain ⟨h₂, tk₂, rfl, B₂, hB₂, hs₂, hq⟩ := x3
    have S₂ : Step q s1 { s' with heap := h₂, toks := tk₂ } q' := by
      refine ⟨?_, fun d o hd e => hs₂.extBut d o ?_ (keep₁ d o hd e), S1.grow, S1.fresh⟩
      · obtain ⟨h, t, e⟩ := S1.rest
        exact ⟨h₂, tk₂, by rw [e]⟩
      · rintro rfl
        rcases S1.fresh _ hq with z | z
        · exact hd z
        · rw [z] at e; cases e
    have St₂ : St (i + 1) h₂ := W.frame _ _ _ hSt₁ fun d hd o e => hs₂.extBut d o (fun z => hfq d hd (z ▸ hq)) e
    refine wpAny_mono (hb i t ht _ _ _ _ _ B₂ hB₂) (fun f s4 x4 => ?_) fun _ _ z => z.elim
    obtain ⟨m4, q4, B4, S4, hp4⟩ := x4
    have hfq4 : ∀ b ∈ fp, ¬ q4 b := fun d hd z => by
      rcases S4.fresh d z with z | z
      · exact hfq d hd z
      · obtain ⟨o, e⟩ := hwe _ _ St₂ d hd
        have z' : h₂.get? d = none := z
        rw [z'] at e; cases e
    have nxt : (Inv (i + 1)).P m4 q4 pc' s4.heap → ∃ k', k' < ts.length + 1 - i ∧ ∃ m' q' j, j ≤ ts.length ∧ k' = ts.length + 1 - j ∧ Base C n env A ow m' q' pc' s4 ∧ Step q s1 s4 q' ∧ St j s4.heap ∧ (Inv j).P m' q' pc' s4.heap ∧ ∀ b ∈ fp, ¬ q' b := fun z =>
      ⟨ts.length + 1 - (i + 1), by omega, m4, q4, i + 1, hlt, rfl, B4, S₂.trans S4, W.frame _ _ _ St₂ fun d hd o e => S4.keep d o (hfq d hd) e, z, hfq4⟩
    have back : Base C n env A ow m4 q4 pc s4 := ⟨B4.a, B4.f, B4.w, B4.g, fun d hd => B4.pin d (hd.elim (fun z => .inl (.inl z)) .inr), fun d hd z => B4.dis d hd (.inl z), B4.top⟩
    cases f with
    | next => exact nxt hp4
    | cont => exact nxt hp4
    | brk => exact ⟨m4, q4, back, (Step.of_keeps k1).trans (S₂.trans S4), R.nx.mo (vw_less fun d hd => hd.elim (fun z => .inl (.inl z)) .inr) (fun _ _ _ e => e) hp4⟩
    | ret v => exact ⟨m4, q4, back, (Step.of_keeps k1).trans (S₂.trans S4), R.rt.mono (vw_less fun d hd => .inl hd) hp4⟩
  · have hie : i = ts.length := by omega
    subst hie
    refine W.done _ _ _ hSt fun h₁ tk₁ hk₁ => ?_
    have back : Base C n env A ow m' q' pc { s' with heap := h₁, toks := tk₁ } := B.turn ⟨_, _, rfl⟩ hk₁ hwf (fun d hd z => by obtain ⟨o, e⟩ := b1.pin d (.inl z); rw [hwf d hd] at e; cases e) hcx b1.g.sub
    refine wpAny_execs_nil ⟨m', q', back, (Step.of_keeps k1).trans ⟨?_, fun d o hd e => hk₁ d o (fun z => by rw [hwf d z] at e; cases e) (S1.keep d o hd e), S1.grow, S1.fresh⟩, hN _ _ _ _ ((Inv ts.length).mo (vw_sub fun d o hd e => ⟨?_, hk₁ d o (fun z => hd (.inl (.inr z))) e⟩) (fun d o hd e => hk₁ d o (fun z => B.dis d hd (.inr z)) e) hI)⟩
    · obtain ⟨h, t, e⟩ := S1.rest
      exact ⟨h₁, tk₁, by rw [e]⟩
    · exact fun z => hd (z.elim (fun z => .inl (.inl z)) .inr)

theorem x_while {test : Expr} {body : List Stmt} {pos : Pos} {Inv : Nat → Assn} {ρs : Nat → Rho} {c : Nat → Bool} (N : Nat) (h0 : Imp Pre (Inv 0)) {L : T → Prop} (hρ : ∀ k, Rd C n env ow (Inv k) (ρs k) L) (ht : ∀ k, k ≤ N → Tr C n env (ρs k) test (c k))
    (hb : ∀ k, k < N → c k = true → Xs C n env ow (Inv k) body { nx := Inv (k + 1), cn := Inv (k + 1), bk := R.nx, rt := R.rt }) (hc : c N = false) (hN : ∀ k, c k = false → Imp (Inv k) R.nx) :
    X1 C n env ow Pre (.While test body [] pos) R := fun A m q pc s b hP => by
  refine wpAny_While (codeAny_whileLoop (fun k s' => ∃ m' q' i, i ≤ N ∧ k = N - i ∧ Base C n env A ow m' q' pc s' ∧ Step q s s' q' ∧ (Inv i).P m' q' pc s'.heap) ?_ N ⟨m, q, 0, Nat.zero_le _, rfl, b, .refl, h0 _ _ _ _ hP⟩)
  rintro k s' ⟨m', q', i, hi, rfl, B, S1, hI⟩
  obtain ⟨p', hpc, sit, lift⟩ := hρ i _ _ _ _ _ B hI
  refine wpAny_mono (ht i hi _ _ _ _ sit) (fun b' s2 x2 => ?_) fun _ _ z => z.elim
  obtain ⟨rfl, k2⟩ := x2
  have S2 := S1.trans (Step.of_keeps k2)
  cases hci : c i with
  | false => exact wpAny_execs_nil ⟨m', q', B.keeps k2, S2, hN i hci _ _ _ _ ((Inv i).mono (keeps_hs k2) hI)⟩
  | true =>
    have hlt : i < N := by
      rcases Nat.lt_or_ge i N with z | z
      · exact z
      · have : i = N := by omega
        rw [this, hc] at hci; cases hci
    refine wpAny_mono (hb i hlt hci _ _ _ _ _ (B.keeps k2) ((Inv i).mono (keeps_hs k2) hI)) (fun f s4 x4 => ?_) fun _ _ z => z.elim
    obtain ⟨m4, q4, B4, S4, hp4⟩ := x4
    cases f with
    | next => exact ⟨N - (i + 1), by omega, m4, q4, i + 1, hlt, rfl, B4, S2.trans S4, hp4⟩
    | cont => exact ⟨N - (i + 1), by omega, m4, q4, i + 1, hlt, rfl, B4, S2.trans S4, hp4⟩
    | brk => exact ⟨m4, q4, B4, S2.trans S4, hp4⟩
    | ret v => exact ⟨m4, q4, B4, S2.trans S4, hp4⟩
end
end Mine

end
/-! Fw10 -/
section
open PySem PySem.W PyProof.Rows PySem.Calls
set_option maxRecDepth 100000
set_option linter.all false
namespace Mine
section
variable {C : Cx} {n : Nat} {env : Env} {ρ ρr : Rho} {ow : Str → Prop} {Pre : Assn} {R : Po} {L : T → Prop}

/-- a list of one's own -/
def OL (env : Env) (x : Str) (ts : List T) (ρ : Rho) : Assn := ⟨fun m q pc h => ∃ a vs k, m x = some (.ref a) ∧ q a ∧ h.get? a = some (lst vs k) ∧ Fa (vw (pa q pc) h) ts vs ∧ Vars m (vw (pa q pc) h) ρ ∧ ∀ y, canPut env y = true → a ≠ tgt env y,
  fun k kq ⟨a, vs, n, h1, h2, h3, h4, h5, h6⟩ => ⟨a, vs, n, h1, h2, kq _ _ h2 h3, h4.mono k, h5.mono k, h6⟩⟩
theorem ol_lv {x : Str} {ts : List T} : Imp (OL env x ts ρ) (LV ρ) := fun _ _ _ _ ⟨_, _, _, _, _, _, _, h, _⟩ => h
theorem rd_ol {x : Str} {ts : List T} : Rd C n env ow (OL env x ts ρ) ((x, LL ts) :: ρ) Pu := by
  rintro A m q pc s b ⟨a, vs, k, h1, h2, h3, h4, h5, h6⟩
  have na : ¬ pc a := b.dis a h2
  refine ⟨fun d => pa q pc d ∧ d ≠ a, fun d z => ⟨.inl z, fun e => na (e ▸ z)⟩, ⟨b.a, b.f, ?_, b.g, fun d hd => b.pin d hd.1⟩, fun t ht _ v _ _ z => ht _ _ v z⟩
  have sub : Sub (vw (pa q pc) s.heap) (vw (fun d => pa q pc d ∧ d ≠ a) s.heap) := vw_less fun d hd => hd.1
  intro y t e
  rw [List.lookup_cons] at e
  by_cases hy : y = x
  · subst hy
    simp at e
    subst e
    exact ⟨_, h1, a, vs, k, rfl, ⟨fun z => z.2 rfl, h3⟩, h4.mono sub⟩
  · have hb : (y == x) = false := by simpa using hy
    rw [hb] at e
    obtain ⟨v, e1, e2⟩ := h5 y t e
    exact ⟨v, e1, t.mono sub e2⟩
theorem puts_ol {x y : Str} {ts : List T} {t : T} (hxy : x ≠ y) (hc : canPut env y = true) : Puts env ow (OL env x ts ρ) y t (OL env x ts ((y, t) :: ρ)) := by
  rintro m q pc h h' v w hq ⟨a, vs, k, h1, h2, h3, h4, h5, h6⟩ ht hk
  refine ⟨a, vs, k, by rw [upd_ne hxy, h1], h2, hk _ _ (h6 y hc) h3, h4.mono (vw_sub fun d o hd e => ⟨hd, hk d o (by rintro rfl; exact hd (.inr hq)) e⟩), puts_lv (env := env) (ow := ow) m q pc h h' v w hq h5 ht hk, h6⟩
theorem ol_weak {x : Str} {ts : List T} {ρ' : Rho} (h : ∀ m g, Vars m g ρ → Vars m g ρ') : Imp (OL env x ts ρ) (OL env x ts ρ') := fun _ _ _ _ ⟨a, vs, k, h1, h2, h3, h4, h5, h6⟩ => ⟨a, vs, k, h1, h2, h3, h4, h _ _ h5, h6⟩

/-- a new list -/
def EvF (C : Cx) (n : Nat) (env : Env) (ρ : Rho) (e : Expr) (ts : List T) : Prop := ∀ A m p s, Sit C n env ρ A m p s →
  wpAny (model C.prog C.w) A (eval e env) (fun v s' => Keeps s s' ∧ ∃ a vs k, v = .ref a ∧ s.heap.get? a = none ∧ s'.heap.get? a = some (lst vs k) ∧ Fa (vw (fun d => p d ∨ d = a) s'.heap) ts vs) noE s
theorem EvF.ev {e : Expr} {ts : List T} (h : EvF C n env ρ e ts) : Ev C n env ρ e (LL ts) := fun A m p s st =>
  wpAny_mono (h _ _ _ _ st) (fun v s' ⟨k, a, vs, n, e1, e2, e3, e4⟩ => ⟨k, a, vs, n, e1, ⟨st.pin.fresh e2, e3⟩, e4.mono (vw_less fun _ z => .inl z)⟩) fun _ _ z => z
theorem push_new {p : Addr → Prop} {h : Heap} {o : Obj} {ts : List T} {vs : List Value} (hf : Fa (vw p h) ts vs) : Fa (vw (fun d => p d ∨ d = h.objs.size) (h.push o)) ts vs :=
  hf.mono (vw_sub fun d o' hd e => ⟨fun z => z.elim hd (fun z => by rw [z, get_none (Nat.le_refl _)] at e; cases e), Heap.get?_push_of_some _ e⟩)
theorem keeps_new {s s1 : Shared} {o : Obj} (k : Keeps s s1) : Keeps s { s1 with heap := s1.heap.push o } := keeps_trans k ⟨_, _, rfl, fun _ _ e => Heap.get?_push_of_some _ e⟩
theorem new_none {s s1 : Shared} (k : Keeps s s1) : s.heap.get? s1.heap.objs.size = none := by
  cases e : s.heap.get? s1.heap.objs.size with
  | none => rfl
  | some o => have := keeps_hs k _ _ e; rw [get_none (Nat.le_refl _)] at this; cases this
theorem ef_list {es : List Expr} {ts : List T} {pos : Pos} (h : Evs C n env ρ es ts) (hsz : ts.length ≤ sizeLine) : EvF C n env ρ (.List es pos) ts := fun A m p s st =>
  wpAny_List (wpAny_mono (h _ _ _ _ pos st) (fun vs s1 x1 => by
    obtain ⟨k1, hf⟩ := x1
    exact ⟨by rw [hf.length]; exact hsz, keeps_new k1, _, vs, 0, rfl, new_none k1, Heap.get?_push_size _ rfl, push_new hf⟩) fun _ _ z => z)
theorem ev_tuple {es : List Expr} {ts : List T} {pos : Pos} {k : Nat} (h : Evs C n env ρ es ts) (hsz : ts.length ≤ sizeLine) : Ev C n env ρ (.Tuple es k pos) (TU ts) := fun A m p s st =>
  wpAny_Tuple (wpAny_mono (h _ _ _ _ pos st) (fun vs s1 x1 => by
    obtain ⟨k1, hf⟩ := x1
    exact ⟨by rw [hf.length]; exact hsz, keeps_new k1, _, vs, 0, rfl, ⟨(st.keeps k1).pin.size, Heap.get?_push_size _ rfl⟩, hf.mono (sub_vw fun _ _ e => Heap.get?_push_of_some _ e)⟩) fun _ _ z => z)
theorem ef_add {l r : Expr} {pos : Pos} {ts us : List T} (hl : Ev C n env ρ l (LL ts)) (hr : Ev C n env ρ r (LL us)) (hsz : ts.length + us.length ≤ 4096) : EvF C n env ρ (.BinOp l .Add r pos) (ts ++ us) := fun A m p s st =>
  wpAny_BinOp (two st hl hr fun v1 v2 s' k st' h1 h2 => by
    obtain ⟨a, vs, i, rfl, hg, hf⟩ := h1
    obtain ⟨b, ws, j, rfl, hg2, hf2⟩ := h2
    refine PySem.P.add_list hg.2 hg2.2 ⟨keeps_new k, _, vs ++ ws, 0, rfl, new_none k, ?_, push_new (hf.append hf2)⟩ (by simp [hf.length, hf2.length, sizeLine_eq]; omega)
    show _ = some ({ cls := .type "list", data := .seq (vs ++ ws).toArray 0 } : Obj)
    rw [show (vs ++ ws).toArray = vs.toArray ++ ws.toArray by simp]
    exact Heap.get?_push_size _ rfl)

theorem Fa.replicate {g : View} {t : T} {v : Value} (h : t.P g v) : ∀ k, Fa g (List.replicate k t) (List.replicate k v)
  | 0 => trivial
  | k + 1 => ⟨h, Fa.replicate h k⟩
theorem foldl_rep {v : Value} : ∀ (k : Nat) (acc : Array Value), List.foldl (fun x1 x2 => x1 ++ x2) acc (List.replicate k #[v]) = acc ++ (List.replicate k v).toArray
  | 0, acc => by simp
  | k + 1, acc => by rw [List.replicate_succ, List.foldl_cons, foldl_rep k, List.replicate_succ, Array.append_assoc]; congr 1; simp
theorem mulL {A : Around} {E : Value → Shared → Prop} {s : Shared} {l : Addr} {items : Array Value} {k : Nat} {x : Int} {u : Tok} {Q : Value → Shared → Prop}
    (hl : s.heap.get? l = some { cls := .type "list", dict := none, data := .seq items k, slots := #[] })
    (hlo : -(2 ^ 63 : Int) ≤ x) (hhi : x < 2 ^ 63) (hsz : items.size * x.toNat ≤ 2 ^ 24)
    (h : Q (.ref s.heap.objs.size) { s with heap := s.heap.push { cls := .type "list", data := .seq (List.foldl (fun x1 x2 => x1 ++ x2) #[] (List.replicate (if items.isEmpty = true then 0 else x.toNat) items)) } }) :
    wpAny (model C.prog C.w) A (binaryOp .Mult (.ref l) (.int x u)) Q E s :=
  wpAny_binaryOp_repeat_ref (T := "list") (U := "int") (by decide) ⟨_, hl, rfl⟩ (fun s' => typeIs_int s' x u) noFill_list_mul F.fills_int_mul F.slot_int_rmul repeat_list F.slot_int_index.lookup
    (call_meets F.slot_int_rmul (typeIs_int s x u) F.entry_int_rmul (F.args_int_rmul_2 _ _) (int___rmul___int_list x u l items k)
      ⟨hl, rfl, ⟨_, hl, rfl⟩, call_meets F.slot_list_mul ⟨_, hl, rfl⟩ F.entry_list_mul (F.args_list_mul_2 _ _)
        (AutoListH.list___mul___list_int_3 l items k x u (by simp [Builtin.List.listFitsIndex]; omega) (by omega) (by simp [Builtin.List.listTooLong, sizeLine]; omega))
        ⟨hl, h⟩⟩)
theorem ef_mul1 {l r : Expr} {pos : Pos} {t : T} {k : Nat} (hl : Ev C n env ρ l (LL [t])) (hr : Ev C n env ρ r (I k)) (hsz : k ≤ 4096) : EvF C n env ρ (.BinOp l .Mult r pos) (List.replicate k t) := fun A m p s st =>
  wpAny_BinOp (two st hl hr fun v1 v2 s' kk st' h1 h2 => by
    obtain ⟨a, vs, i, rfl, hg, hf⟩ := h1
    obtain ⟨u, rfl⟩ := h2
    match vs, hf with
    | [v], hf =>
    refine mulL (items := #[v]) (k := i) hg.2 (by omega) (by omega) (by simp; omega) ⟨keeps_new kk, _, List.replicate k v, 0, rfl, new_none kk, ?_, push_new (hf.1 |> fun z => Fa.replicate z k)⟩
    have e : (List.foldl (fun x1 x2 => x1 ++ x2) #[] (List.replicate (if (#[v] : Array Value).isEmpty = true then 0 else ((k : Int)).toNat) #[v])) = (List.replicate k v).toArray := by
      rw [show (if (#[v] : Array Value).isEmpty = true then 0 else ((k : Int)).toNat) = k by simp, foldl_rep]; simp
    show _ = some ({ cls := .type "list", data := .seq (List.replicate k v).toArray 0 } : Obj)
    rw [← e]
    exact Heap.get?_push_size _ rfl)

/-! own lists at work -/
theorem tgt_is {m : Str → Option Value} {h : Heap} (F : FrR env m h) {y : Str} (hy : canPut env y = true) : ∃ o, h.get? (tgt env y) = some o := by
  unfold canPut at hy
  unfold tgt
  by_cases q : env.kindOf y = some .local
  · rw [if_pos q]
    obtain ⟨ml, ⟨o, es, ep, e1, e2, _⟩, _⟩ := F.loc
    exact ⟨o, e1⟩
  · rw [if_neg q]
    have q2 : env.kindOf y = some .cell := by simpa [q] using hy
    obtain ⟨c, e1, o, e2, e3⟩ := F.cel y (.inl q2)
    rw [e1]
    exact ⟨o, e2⟩
theorem Base.more {A : Around} {m : Str → Option Value} {q pc : Addr → Prop} {s s1 : Shared} {a : Addr} {o : Obj} (b : Base C n env A ow m q pc s) (k : Keeps s s1) (ha : s.heap.get? a = none) (ho : s1.heap.get? a = some o) :
    Base C n env A ow m (fun d => q d ∨ d = a) pc s1 ∧ Step q s s1 (fun d => q d ∨ d = a) := by
  have b1 := b.keeps k
  refine ⟨⟨b1.a, b1.f, ⟨.inl b1.w.lq, b1.w.inj, fun x c h e => .inl (b1.w.cq x c h e)⟩, b1.g, fun d hd => ?_, fun d hd z => ?_, fun d hd => ?_⟩, ⟨(Step.of_keeps (q := q) k).rest, fun d o _ e => keeps_hs k d o e, fun d z => .inl z, fun d z => z.elim .inl fun z => .inr (z ▸ ha)⟩⟩
  · rcases hd with hd | hd | rfl
    · exact b1.pin d (.inl hd)
    · exact b1.pin d (.inr hd)
    · exact ⟨o, ho⟩
  · rcases hd with hd | rfl
    · exact b1.dis d hd z
    · obtain ⟨o, e⟩ := b.pin d (.inl z); rw [ha] at e; cases e
  · rcases hd with hd | rfl
    · exact b1.top d hd
    · cases e : C.top.get? d with
      | none => rfl
      | some o => rw [b.g.sub _ _ e] at ha; cases ha
theorem lifts {p p' : Addr → Prop} {r : Addr → Prop} {h : Heap} : ∀ {ts : List T} {vs : List Value}, (∀ t ∈ ts, ∀ v, t.P (vw (fun d => p' d ∨ r d) h) v → t.P (vw (fun d => p d ∨ r d) h) v) → Fa (vw (fun d => p' d ∨ r d) h) ts vs → Fa (vw (fun d => p d ∨ r d) h) ts vs
  | [], [], _, _ => trivial
  | _ :: _, _ :: _, k, h => ⟨k _ (.head _) _ h.1, lifts (fun t ht => k t (.tail _ ht)) h.2⟩
  | [], _ :: _, _, h => h.elim
  | _ :: _, [], _, h => h.elim
theorem x_own {x : Str} {px pos : Pos} {e : Expr} {ts : List T} (hr : Rd C n env ow Pre ρr L) (hL : ∀ t ∈ ts, L t) (hlv : Imp Pre (LV ρ)) (hρx : ρ.lookup x = none) (he : EvF C n env ρr e ts) (hx : canPut env x = true) (ho : env.kindOf x = some .cell → ow x)
    (hs : swapsWith e (some (.Name x px)) pos.line env = pure false) (hpost : Imp (OL env x ts ρ) R.nx) : X1 C n env ow Pre (.Assign [.Name x px] e pos) R := fun A m q pc s b hP => by
  obtain ⟨p', hpc, sit, lift⟩ := hr _ _ _ _ _ b hP
  refine wpAny_Assign_Name (wpAny_mono (he _ _ _ _ sit) (fun v s1 x1 => ?_) fun _ _ z => z) hs
  obtain ⟨k1, a, vs, k, rfl, ha, hg, hf⟩ := x1
  obtain ⟨b1, S1⟩ := b.more k1 ha hg
  have ht : ∀ y, canPut env y = true → a ≠ tgt env y := fun y hy z => by
    obtain ⟨o, e⟩ := tgt_is b.f hy
    rw [← z, ha] at e; cases e
  refine store_base b1 hx ho fun h' tk b' hs' hq => ⟨_, _, b', S1.trans ⟨⟨_, _, rfl⟩, fun d o hd e => hs'.extBut d o (by rintro rfl; exact hd hq) e, fun _ z => z, fun _ z => .inl z⟩, hpost _ _ _ _ ⟨a, vs, k, by simp [upd], .inr rfl, hs'.extBut _ _ (ht x hx) hg, ?_, ?_, ht⟩⟩
  · have hf' := lifts (p := pa q pc) (r := fun d => d = a) (fun t htt v z => lift t (hL t htt) _ _ _ k1 z) hf
    exact hf'.mono (vw_sub fun d o hd e => ⟨fun z => hd (z.elim (fun z => .inl (.inl z)) fun z => z.elim (fun z => .inl (.inr z)) .inr), hs'.extBut d o (by rintro rfl; exact hd (hq.elim (fun z => .inl (.inr z)) .inr)) e⟩)
  · have hv := hlv _ _ _ _ hP
    intro y t e
    obtain ⟨w, e1, e2⟩ := hv y t e
    refine ⟨w, by rw [upd_ne (by rintro rfl; rw [hρx] at e; cases e), e1], t.mono (vw_sub fun d o hd e => ⟨?_, hs'.extBut d o ?_ (keeps_hs k1 d o e)⟩) e2⟩
    · rintro (z | z | rfl)
      · exact hd (.inl z)
      · exact hd (.inr z)
      · rw [ha] at e; cases e
    · rintro rfl
      rcases hq with z | z
      · exact hd (.inr z)
      · exact ht x hx z.symm

/-- the own list is changed in place -/
theorem own_change {A : Around} {m : Str → Option Value} {q pc : Addr → Prop} {s : Shared} {x : Str} {a : Addr} {vs : List Value} {k : Nat} {h' : Heap} {tk : Nat} {ts' : List T} {vs' : List Value} {k' : Nat} (b : Base C n env A ow m q pc s)
    (hm : m x = some (.ref a)) (hq : q a) (hg : s.heap.get? a = some (lst vs k)) (hv : Vars m (vw (pa q pc) s.heap) ρ) (ht : ∀ y, canPut env y = true → a ≠ tgt env y)
    (hs : Heap.SameBut a s.heap h') (hg' : h'.get? a = some (lst vs' k')) (hf : Fa (vw (pa q pc) s.heap) ts' vs') :
    Base C n env A ow m q pc { s with heap := h', toks := tk } ∧ Step q s { s with heap := h', toks := tk } q ∧ (OL env x ts' ρ).P m q pc h' := by
  have hk : ∀ d o, ¬ q d → s.heap.get? d = some o → h'.get? d = some o := fun d o hd e => hs.extBut d o (by rintro rfl; exact hd hq) e
  have hF : FrR env m h' := b.f.but hg fun d o hd e => hs.extBut d o hd e
  have sub : Sub (vw (pa q pc) s.heap) (vw (pa q pc) h') := vw_sub fun d o hd e => ⟨hd, hk d o (fun z => hd (.inr z)) e⟩
  refine ⟨⟨b.a, hF, b.w, { b.g with sub := fun d o e => hk d o (fun hd => by rw [b.top d hd] at e; cases e) (b.g.sub d o e) }, fun d hd => ?_, b.dis, b.top⟩, ⟨⟨_, _, rfl⟩, hk, fun _ z => z, fun _ z => .inl z⟩, ⟨a, vs', k', hm, hq, hg', hf.mono sub, hv.mono sub, ht⟩⟩
  by_cases hd' : d = a
  · subst hd'; exact ⟨_, hg'⟩
  · obtain ⟨o, e⟩ := b.pin d hd
    exact ⟨o, hs.extBut d o hd' e⟩
theorem ol_keeps {A : Around} {m : Str → Option Value} {q pc : Addr → Prop} {s s1 : Shared} {x : Str} {ts : List T} (k : Keeps s s1) (h : (OL env x ts ρ).P m q pc s.heap) : (OL env x ts ρ).P m q pc s1.heap := (OL env x ts ρ).mono (keeps_hs k) h

theorem x_append {x : Str} {np apos pos epos : Pos} {e : Expr} {ts : List T} {t : T} (hL : L t) (hr : Rd C n env ow (OL env x ts ρ) ρr L) (hx : isLocalish env x = true) (he : Ev C n env ρr e t) (hsz : ts.length ≤ 4096)
    (hline : (apos.endLine == pos.line) = true) (hst : starEach [e] env = [(false, eval e env)]) (hin : interactive env = false) (hbase : attributeBase (.Name x np) "append" env (eval (.Name x np) env) = eval (.Name x np) env)
    (hsw : swapsWith (.Call (.Attribute (.Name x np) "append" apos) [e] [] pos) none epos.line env = pure false)
    (hpost : Imp (OL env x (ts ++ [t]) ρ) R.nx) :
    X1 C n env ow (OL env x ts ρ) (.Expr (.Call (.Attribute (.Name x np) "append" apos) [e] [] pos) epos) R := fun A m q pc s b hP => by
  obtain ⟨p', hpc, sit, lift⟩ := hr _ _ _ _ _ b hP
  obtain ⟨a, vs, k, h1, h2, h3, h4, h5, h6⟩ := hP
  have hvx : Sit C n env [(x, V (.ref a))] A m (pa q pc) s := b.sit fun y t e => by
    rw [List.lookup_cons] at e
    by_cases hy : y = x
    · subst hy; simp at e; subst e; exact ⟨_, h1, rfl⟩
    · have hb : (y == x) = false := by simpa using hy
      rw [hb] at e; cases e
  have hn : Ev C n env [(x, V (.ref a))] (.Name x np) (V (.ref a)) := ev_name (by simp) hx
  refine wpAny_Expr_any (wpAny_Call_append hbase (by rw [hst]; rfl) hline (by rw [hst]; rfl) (wpAny_mono (hn _ _ _ _ hvx) (fun v s1 x1 => ?_) fun _ _ z => z)) hin hsw
  obtain ⟨k1, rfl⟩ := x1
  refine ⟨a, vs.toArray, rfl, ⟨_, k, keeps_hs k1 _ _ h3, rfl, rfl, rfl⟩, ?_⟩
  refine wpAny_mono (he _ _ _ _ (sit.keeps k1)) (fun y s2 x2 => ?_) fun _ _ z => z
  obtain ⟨k2, hy⟩ := x2
  have k12 := keeps_trans k1 k2
  have hg2 := keeps_hs k12 _ _ h3
  have hf2 : Fa (vw (pa q pc) s2.heap) (ts ++ [t]) (vs ++ [y]) := (h4.mono (sub_vw (keeps_hs k12))).append ⟨lift0 (fun r => lift t hL _ _ r k12) hy, trivial⟩
  refine wpAny_list_append_plain (hsz := by rw [List.size_toArray, sizeLine_eq, h4.length]; omega) (items := vs.toArray) ⟨k, hg2⟩ fun h' hl' hs' => ?_
  obtain ⟨n', hl'⟩ := hl'
  have hl2 : h'.get? a = some (lst (vs ++ [y]) n') := by simpa using hl'
  obtain ⟨B, S2, O⟩ := own_change (ρ := ρ) (tk := s2.toks) (b.keeps k12) h1 h2 hg2 (h5.mono (sub_vw (keeps_hs k12))) h6 hs' hl2 hf2
  exact ⟨m, q, B, (Step.of_keeps k12).trans S2, hpost _ _ _ _ O⟩
end
end Mine

end
/-! Fw11 -/
section
open PySem PySem.W PyProof.Rows PySem.Calls
set_option maxRecDepth 100000
set_option linter.all false
namespace Mine
section
variable {C : Cx} {n : Nat} {env : Env} {ρ ρr : Rho} {ow : Str → Prop} {Pre : Assn} {R : Po} {L : T → Prop}

theorem Fa.set {g : View} : ∀ {ts : List T} {vs : List Value} {t : T} {v : Value} (i : Nat), Fa g ts vs → t.P g v → Fa g (ts.set i t) (vs.set i v)
  | [], [], _, _, _, _, _ => trivial
  | _ :: _, _ :: _, _, _, 0, h, h' => ⟨h', h.2⟩
  | _ :: _, _ :: _, _, _, i + 1, h, h' => ⟨h.1, Fa.set i h.2 h'⟩
  | [], _ :: _, _, _, _, h, _ => h.elim
  | _ :: _, [], _, _, _, h, _ => h.elim
theorem own_set {A : Around} {m : Str → Option Value} {q pc : Addr → Prop} {s : Shared} {x : Str} {a : Addr} {vs : List Value} {k : Nat} {ts : List T} {i : Int} {u : Tok} {t : T} {v : Value} (b : Base C n env A ow m q pc s)
    (hm : m x = some (.ref a)) (hq : q a) (hg : s.heap.get? a = some (lst vs k)) (hv : Vars m (vw (pa q pc) s.heap) ρ) (ht : ∀ y, canPut env y = true → a ≠ tgt env y) (hf : Fa (vw (pa q pc) s.heap) ts vs)
    (h0 : 0 ≤ i) (hi : i < ts.length) (hl : ts.length ≤ 4096) (htv : t.P (vw (pa q pc) s.heap) v) {Q : Unit → Shared → Prop}
    (hQ : ∀ s', Base C n env A ow m q pc s' → Step q s s' q → (OL env x (ts.set i.toNat t) ρ).P m q pc s'.heap → Q () s') :
    wpAny (model C.prog C.w) A (setItem (.ref a) (.int i u) v) Q noE s := by
  have hl2 := hf.length
  refine ki_setAt (items := vs.toArray) (n := k) hg h0 (by omega) (by rw [List.size_toArray]; omega) ?_
  have e := PySem.IsL.update (l := a) (items := vs.toArray) (n := k) hg (·.setIfInBounds i.toNat v)
  have e' : (s.heap.update a (Obj.mapSeq (·.setIfInBounds i.toNat v))).get? a = some (lst (vs.set i.toNat v) (if (vs.toArray.setIfInBounds i.toNat v).size == vs.toArray.size then k else k + 1)) := by
    have : (vs.set i.toNat v).toArray = vs.toArray.setIfInBounds i.toNat v := by simp
    show _ = some ({ cls := .type "list", data := .seq (vs.set i.toNat v).toArray _ } : Obj)
    rw [this]; exact e
  obtain ⟨B, S2, O⟩ := own_change (ρ := ρ) (tk := s.toks) b hm hq hg hv ht (Heap.SameBut.update ..) e' (hf.set i.toNat htv)
  exact hQ _ B S2 O
theorem x_setitem {x : Str} {np p2 pos : Pos} {e ie : Expr} {ts : List T} {t : T} {i : Int} (hL : L t) (hr : Rd C n env ow (OL env x ts ρ) ρr L) (hx : isLocalish env x = true) (hxr : Ev C n env ρr (.Name x np) (LL ts)) (he : Ev C n env ρr e t) (hie : Ev C n env ρr ie (I i))
    (h0 : 0 ≤ i) (hi : i < ts.length) (hl : ts.length ≤ 4096) (hsw : swapsWith e (some (.Subscript (.Name x np) ie p2)) pos.line env = pure false) (hpost : Imp (OL env x (ts.set i.toNat t) ρ) R.nx) :
    X1 C n env ow (OL env x ts ρ) (.Assign [.Subscript (.Name x np) ie p2] e pos) R := fun A m q pc s b hP => by
  obtain ⟨p', hpc, sit, lift⟩ := hr _ _ _ _ _ b hP
  obtain ⟨a, vs, k, h1, h2, h3, h4, h5, h6⟩ := hP
  have hvx : Sit C n env [(x, V (.ref a))] A m (pa q pc) s := b.sit fun y t e => by
    rw [List.lookup_cons] at e
    by_cases hy : y = x
    · subst hy; simp at e; subst e; exact ⟨_, h1, rfl⟩
    · have hb : (y == x) = false := by simpa using hy
      rw [hb] at e; cases e
  have hn : Ev C n env [(x, V (.ref a))] (.Name x np) (V (.ref a)) := ev_name (by simp) hx
  refine wpAny_Assign_Subscript (wpAny_mono (he _ _ _ _ sit) (fun v s1 x1 => ?_) fun _ _ z => z) hsw
  obtain ⟨k1, hv⟩ := x1
  refine wpAny_mono (hn _ _ _ _ (hvx.keeps k1)) (fun ov s2 x2 => ?_) fun _ _ z => z
  obtain ⟨k2, rfl⟩ := x2
  have k12 := keeps_trans k1 k2
  refine wpAny_mono (hie _ _ _ _ (sit.keeps k12)) (fun iv s3 x3 => ?_) fun _ _ z => z
  obtain ⟨k3, u, rfl⟩ := x3
  have k13 := keeps_trans k12 k3
  have ks := keeps_hs k13
  exact own_set (ρ := ρ) (b.keeps k13) h1 h2 (ks _ _ h3) (h5.mono (sub_vw ks)) h6 (h4.mono (sub_vw ks)) h0 hi hl (t.mono (sub_vw (keeps_hs (keeps_trans k2 k3))) (lift0 (fun r => lift t hL _ _ r k1) hv)) fun s' B S2 O => ⟨m, q, B, (Step.of_keeps k13).trans S2, hpost _ _ _ _ O⟩
/-- x[i] += e, on ints -/
theorem x_augitem {x : Str} {np p2 pos : Pos} {e ie : Expr} {ts : List T} {i a0 d : Int} (hr : Rd C n env ow (OL env x ts ρ) ρr L) (hx : isLocalish env x = true) (he : Ev C n env ρr e (I d)) (hie : Ev C n env ρr ie (I i))
    (h0 : 0 ≤ i) (hi : ts[i.toNat]? = some (I a0)) (hl : ts.length ≤ 4096) (hau : ∀ ov iv new, augStore ie ov iv new = (do holding [new, ov, iv] (setItem ov iv new); release [new, ov, iv] []; pure .next)) (hpost : Imp (OL env x (ts.set i.toNat (I (a0 + d))) ρ) R.nx) :
    X1 C n env ow (OL env x ts ρ) (.AugAssign (.Subscript (.Name x np) ie p2) .Add e pos) R := fun A m q pc s b hP => by
  obtain ⟨p', hpc, sit, lift⟩ := hr _ _ _ _ _ b hP
  obtain ⟨a, vs, k, h1, h2, h3, h4, h5, h6⟩ := hP
  have hvx : Sit C n env [(x, V (.ref a))] A m (pa q pc) s := b.sit fun y t e => by
    rw [List.lookup_cons] at e
    by_cases hy : y = x
    · subst hy; simp at e; subst e; exact ⟨_, h1, rfl⟩
    · have hb : (y == x) = false := by simpa using hy
      rw [hb] at e; cases e
  have hn : Ev C n env [(x, V (.ref a))] (.Name x np) (V (.ref a)) := ev_name (by simp) hx
  have hlt : i.toNat < ts.length := by
    rcases Nat.lt_or_ge i.toNat ts.length with h | h
    · exact h
    · rw [List.getElem?_eq_none h] at hi; cases hi
  refine wpAny_AugAssign_SubscriptAny (wpAny_mono (hn _ _ _ _ hvx) (fun v s1 x1 => ?_) fun _ _ z => z) hau
  obtain ⟨k1, rfl⟩ := x1
  refine wpAny_mono (hie _ _ _ _ (sit.keeps k1)) (fun iv s2 x2 => ?_) fun _ _ z => z
  obtain ⟨k2, u, rfl⟩ := x2
  have k12 := keeps_trans k1 k2
  have ks := keeps_hs k12
  obtain ⟨old, ho, t0, rfl⟩ := h4.get hi
  refine wpAny_getItem_list (x := .int a0 t0) (items := vs.toArray) ⟨_, ks _ _ h3, rfl, _, rfl⟩ h0 (by omega) (by simpa using ho) ?_
  refine wpAny_mono (he _ _ _ _ (sit.keeps k12)) (fun dv s3 x3 => ?_) fun _ _ z => z
  obtain ⟨k3, u2, rfl⟩ := x3
  refine P.iadd_int ?_
  have k13 := keeps_trans (keeps_trans k12 k3) (keeps_tok s3 (s3.toks + 1))
  have ks := keeps_hs k13
  exact own_set (t := I (a0 + d)) (ρ := ρ) (b.keeps k13) h1 h2 (ks _ _ h3) (h5.mono (sub_vw ks)) h6 (h4.mono (sub_vw ks)) h0 (by omega) hl ⟨_, rfl⟩ fun s' B S2 O => ⟨m, q, B, (Step.of_keeps k13).trans S2, hpost _ _ _ _ O⟩
/-- x += e, on ints -/
theorem x_aug {x : Str} {np pos : Pos} {e : Expr} {a d : Int} (hr : Rd C n env ow Pre ρr L) (hL : L (I (a + d))) (hxr : ρr.lookup x = some (I a)) (hk : isLocalish env x = true) (he : Ev C n env ρr e (I d)) (hx : canPut env x = true) (ho : env.kindOf x = some .cell → ow x) (hp : Puts env ow Pre x (I (a + d)) R.nx) :
    X1 C n env ow Pre (.AugAssign (.Name x np) .Add e pos) R := fun A m q pc s b hP => by
  obtain ⟨p', hpc, sit, lift⟩ := hr _ _ _ _ _ b hP
  refine wpAny_AugAssign_Name (load_wp sit hxr (localish hk).1 (localish hk).2.1 ?_)
  rintro v ⟨t0, rfl⟩
  refine wpAny_mono (he _ _ _ _ sit) (fun dv s1 x1 => ?_) fun _ _ z => z
  obtain ⟨k1, u, rfl⟩ := x1
  refine P.iadd_int ?_
  have k2 := keeps_trans k1 (keeps_tok s1 (s1.toks + 1))
  exact store_base (b.keeps k2) hx ho fun h' tk b' hs' hq =>
    ⟨_, q, b', (Step.of_keeps k2).trans ⟨⟨_, _, rfl⟩, fun d o hd e => hs'.extBut d o (by rintro rfl; exact hd hq) e, fun _ h => h, fun _ h => .inl h⟩,
      hp _ _ _ _ _ _ b.w hq (Pre.mono (keeps_hs k2) hP) ⟨_, rfl⟩ fun d o hd e => hs'.extBut d o hd e⟩
end
end Mine

end
/-! Fw12 -/
section
open PySem PySem.W PyProof.Rows PySem.Calls
set_option maxRecDepth 100000
set_option linter.all false
namespace Mine
section
variable {C : Cx} {n : Nat} {env : Env} {ρ ρr : Rho} {ow : Str → Prop} {Pre : Assn} {R : Po} {L : T → Prop}

theorem puts_post {x : Str} {t : T} {Post Post' : Assn} (h : Puts env ow Pre x t Post) (hi : Imp Post Post') : Puts env ow Pre x t Post' := fun m q pc h' h'' v w hq hP ht hk => hi _ _ _ _ (h m q pc h' h'' v w hq hP ht hk)
theorem puts_ff {x : Str} {t : T} {Post : Assn} (h : ∀ m q pc h, ¬ Pre.P m q pc h) : Puts env ow Pre x t Post := fun m q pc h' h'' v w hq hP ht hk => absurd hP (h _ _ _ _)
theorem ol_nil {x : Str} {ts : List T} : Imp (OL env x ts ρ) (OL env x ts []) := ol_weak fun _ _ _ => Vars.nil
theorem vars_drop {y : Str} {t : T} {m : Str → Option Value} {g : View} (h : ρ.lookup y = none) (v : Vars m g ((y, t) :: ρ)) : Vars m g ρ := fun z u e => v z u (by
  rw [List.lookup_cons]
  have : (z == y) = false := by
    rw [beq_eq_false_iff_ne]; rintro rfl; rw [h] at e; cases e
  rw [this]; exact e)
theorem ol_drop {x y : Str} {ts : List T} {t : T} (h : ρ.lookup y = none) : Imp (OL env x ts ((y, t) :: ρ)) (OL env x ts ρ) := ol_weak fun _ _ => vars_drop h
theorem lv_drop {y : Str} {t : T} (h : ρ.lookup y = none) : Imp (LV ((y, t) :: ρ)) (LV ρ) := fun _ _ _ _ => vars_drop h
theorem Imp.trans {P Q R : Assn} (a : Imp P Q) (b : Imp Q R) : Imp P R := fun m q pc h x => b _ _ _ _ (a _ _ _ _ x)
theorem of_at {α : Type} {f : α → T} {xs : List α} {i : Nat} {t : T} (h : (xs.map f)[i]? = some t) : ∃ x, xs[i]? = some x ∧ t = f x := by
  rw [List.getElem?_map] at h
  cases e : xs[i]? with
  | none => rw [e] at h; cases h
  | some x => rw [e] at h; cases h; exact ⟨x, rfl, rfl⟩
theorem of_range {f : Nat → T} {N i : Nat} {t : T} (h : ((List.range N).map f)[i]? = some t) : i < N ∧ t = f i := by
  obtain ⟨x, e, rfl⟩ := of_at h
  have hi : i < N := by
    rcases Nat.lt_or_ge i N with q | q
    · exact q
    · rw [List.getElem?_eq_none (by simpa using q)] at e; cases e
  rw [List.getElem?_range hi] at e
  cases e; exact ⟨hi, rfl⟩
theorem pu_i {i : Int} : Pu (I i) := fun _ _ _ h => h
theorem pu_s {x : Str} : Pu (S x) := fun _ _ _ h => h
theorem pu_b {b : Bool} : Pu (B b) := fun _ _ _ h => h
theorem lv_nil : Imp Pre (LV []) := fun _ _ _ _ _ => Vars.nil
/-! truth of a value -/
def Truly (C : Cx) (n : Nat) (t : T) (b : Bool) : Prop := ∀ A p s v, AOk n A → GOk C s.heap → Pin p s.heap → t.P (vw p s.heap) v → wpAny (model C.prog C.w) A (truthy v) (fun c s' => c = b ∧ Keeps s s') noE s
theorem truly_none : Truly C n NO false := by rintro A p s v _ _ _ rfl; exact truthy_none ⟨rfl, keeps_refl _⟩
theorem truly_bool {b : Bool} : Truly C n (B b) b := by rintro A p s v _ _ _ rfl; exact wpAny_truthy_bool ⟨rfl, keeps_refl _⟩
theorem truly_int {i : Int} : Truly C n (I i) (i != 0) := by rintro A p s v _ _ _ ⟨t, rfl⟩; exact P.truthy_int ⟨rfl, keeps_refl _⟩
theorem tr_val {e : Expr} {t : T} {b : Bool} (he : Ev C n env ρ e t) (ht : Truly C n t b) (hi : ∀ whole, isTrue e env whole = (do let v ← whole; standAt e.pos; holding [v] (truthy v))) : Tr C n env ρ e b := fun A m p s st =>
  wpAny_isTrue_value (wpAny_mono (he _ _ _ _ st) (fun v s1 x1 => wpAny_mono (ht A p s1 v st.a (st.keeps x1.1).g (st.keeps x1.1).pin x1.2) (fun c s' x => ⟨x.1, keeps_trans x1.1 x.2⟩) fun _ _ z => z) fun _ _ z => z) (hi _)

/-! len, min, max -/
theorem fn_len_list {ts : List T} (hl : ts.length ≤ 4096) : Fn C n (.builtin "len") [LL ts] (I ts.length) := by
  rintro A p s vs a g q hf
  match vs, hf with
  | [_], ⟨⟨a, ws, k, rfl, hg, hf⟩, _⟩ =>
    have h2 := hf.length
    exact PyProof.Rows.len_list (isList_of hg) (by rw [List.size_toArray]; omega) ⟨keeps_tok _ _, _, by rw [List.size_toArray, h2]⟩
theorem fn_len_str {x : Str} (hl : x.length ≤ 4096) : Fn C n (.builtin "len") [S x] (I x.length) := by
  rintro A p s vs a g q hf
  match vs, hf with
  | [_], ⟨⟨t, rfl⟩, _⟩ => exact PyProof.Rows.len_str (by omega) ⟨keeps_tok _ _, _, rfl⟩
theorem fn_max2 {a b : Int} : Fn C n (.builtin "max") [I a, I b] (I (max a b)) := by
  rintro A p s vs hA g q hf
  match vs, hf with
  | [_, _], ⟨⟨t, rfl⟩, ⟨u, rfl⟩, _⟩ =>
    exact max_two_ints hA.h fun h' tk hk => ⟨keeps_mk hk, by
      by_cases h : b > a
      · rw [if_pos h]; exact ⟨u, by rw [show max a b = b by omega]⟩
      · rw [if_neg h]; exact ⟨t, by rw [show max a b = a by omega]⟩⟩
theorem fn_min2 {a b : Int} : Fn C n (.builtin "min") [I a, I b] (I (min a b)) := by
  rintro A p s vs hA g q hf
  match vs, hf with
  | [_, _], ⟨⟨t, rfl⟩, ⟨u, rfl⟩, _⟩ =>
    exact min_two_ints hA.h fun h' tk hk => ⟨keeps_mk hk, by
      by_cases h : b < a
      · rw [if_pos h]; exact ⟨u, by rw [show min a b = b by omega]⟩
      · rw [if_neg h]; exact ⟨t, by rw [show min a b = a by omega]⟩⟩
theorem ints_of {g : View} : ∀ {is : List Int} {vs : List Value}, Fa g (is.map I) vs → ∃ l : List (Int × Tok), vs = l.map (fun p => .int p.1 p.2) ∧ l.map (·.1) = is
  | [], [], _ => ⟨[], rfl, rfl⟩
  | [], _ :: _, h => h.elim
  | _ :: _, [], h => h.elim
  | x :: r, v :: vs, h => by
    obtain ⟨⟨t, rfl⟩, h2⟩ := h
    obtain ⟨l, rfl, rfl⟩ := ints_of h2
    exact ⟨(x, t) :: l, rfl, rfl⟩
theorem fa_ints {g : View} : ∀ {ns : List Int} {vs : List Value}, IntsAre vs ns → Fa g (ns.map I) vs := by
  intro ns vs h
  induction h with
  | nil => trivial
  | cons k t h2 ih => exact ⟨⟨t, rfl⟩, ih⟩
theorem fn_max_ints {is : List Int} {b : Int} (hb : b ∈ is) (hmax : ∀ x ∈ is, x ≤ b) : Fn C n (.builtin "max") [LL (is.map I)] (I b) := by
  rintro A p s vs hA g q hf
  match vs, hf with
  | [_], ⟨⟨a, ws, k, rfl, hg, hf⟩, _⟩ =>
    obtain ⟨l, rfl, rfl⟩ := ints_of hf
    have hne : 0 < l.toArray.size := by
      rw [List.size_toArray]
      cases l with
      | nil => simp at hb
      | cons _ _ => simp
    refine max_intList (xs := l.toArray) hA.h (by have := isList_of hg; simpa [intItems] using this) hne fun v h' tk hv hk => ⟨keeps_mk hk, ?_⟩
    obtain ⟨t, rfl⟩ := intItems_at hv
    refine ⟨t, ?_⟩
    obtain ⟨h1, h2⟩ := argBest_gt (numAt l.toArray) (l.toArray.size - 1)
    generalize hj : argBest (fun i j => decide (numAt l.toArray i > numAt l.toArray j)) (l.toArray.size - 1) = j at h1 h2 ⊢
    congr 1
    have num : ∀ i (hi : i < l.length), numAt l.toArray i = (l[i]).1 := fun i hi => by simp [numAt, hi]
    have hjl : j < l.length := by rw [List.size_toArray] at h1 hne; omega
    apply Int.le_antisymm
    · rw [num j hjl]
      exact hmax _ (List.mem_map.mpr ⟨_, List.getElem_mem hjl, rfl⟩)
    · obtain ⟨p0, hp0, hp1⟩ := List.mem_map.mp hb
      obtain ⟨i, hi, rfl⟩ := List.mem_iff_getElem.mp hp0
      have := h2 i (by rw [List.size_toArray]; omega)
      rw [num i hi] at this
      rw [← hp1]; exact this

/-! index, count, in -/
def dInt : Value → Option Int | .int a _ => some a | _ => none
def dStr : Value → Option Str | .str a _ => some a | _ => none
structure Key {α : Type} (f : α → T) (dec : Value → Option α) (eq : α → α → Bool) : Prop where
  d : ∀ {g a v}, (f a).P g v → dec v = some a
  e : ∀ {g a b v w}, (f a).P g v → (f b).P g w → PySem.MeetsSeq.EqGives v w (eq a b)
theorem key_int : Key I dInt (fun a b => a == b) := ⟨by rintro g a v ⟨t, rfl⟩; rfl, by rintro g a b v w ⟨t, rfl⟩ ⟨u, rfl⟩; exact PySem.MeetsSeq.EqGives.int a b t u⟩
theorem key_str : Key S dStr (fun x y => x.cps.toList == y.cps.toList) := ⟨by rintro g a v ⟨t, rfl⟩; rfl, by rintro g a b v w ⟨t, rfl⟩ ⟨u, rfl⟩; exact PySem.SeqRoads2.EqGives.str a b t u⟩
def eqv {α : Type} (dec : Value → Option α) (eq : α → α → Bool) (x : α) (y : Value) : Bool := match dec y with | some a => eq a x | none => false
theorem key_all {α : Type} {f : α → T} {dec : Value → Option α} {eq : α → α → Bool} (K : Key f dec eq) {g : View} : ∀ {xs : List α} {vs : List Value}, Fa g (xs.map f) vs → vs.length = xs.length ∧ (∀ (i : Nat) (hi : i < vs.length) (hj : i < xs.length), (f xs[i]).P g vs[i]) := by
  intro xs vs h
  have hl := h.length
  refine ⟨by simpa using hl, fun i hi hj => ?_⟩
  obtain ⟨v, e, hp⟩ := h.get (i := i) (t := f xs[i]) (by simp [hj])
  rw [List.getElem?_eq_getElem hi] at e
  cases e; exact hp
theorem key_eqs {α : Type} {f : α → T} {dec : Value → Option α} {eq : α → α → Bool} (K : Key f dec eq) {g : View} {xs : List α} {vs : List Value} {x : α} {w : Value} (h : Fa g (xs.map f) vs) (hx : (f x).P g w) : (∀ y, y ∈ vs.toArray → PySem.MeetsSeq.EqGives y w (eqv dec eq x y)) ∧
    vs.map (eqv dec eq x) = xs.map (fun a => eq a x) := by
  obtain ⟨hl, ha⟩ := key_all K h
  constructor
  · intro y hy
    obtain ⟨i, hi, rfl⟩ := List.mem_iff_getElem.mp (by simpa using hy)
    have hp := ha i hi (hl ▸ hi)
    have := K.e hp hx
    unfold eqv
    rw [K.d hp]; exact this
  · apply List.ext_getElem (by simp [hl])
    intro i h1 h2
    simp only [List.getElem_map]
    have hp := ha i (by simpa using h1) (by simpa using h2)
    unfold eqv
    rw [K.d hp]
theorem ev_index {α : Type} {f : α → T} {dec : Value → Option α} {eq : α → α → Bool} (K : Key f dec eq) {o e : Expr} {apos pos : Pos} {xs : List α} {x : α} {j : Nat} (hsz : xs.length ≤ 4096) (ho : Ev C n env ρ o (LL (xs.map f))) (he : Ev C n env ρ e (f x)) (hj : xs.findIdx? (fun a => eq a x) = some j)
    (hbase : attributeBase o "index" env (eval o env) = eval o env) (hs : starEach [e] env = [(false, eval e env)]) (hline : (apos.endLine == pos.line) = true) : Ev C n env ρ (.Call (.Attribute o "index" apos) [e] [] pos) (I j) := fun A m p s st =>
  Call_method1 hbase hs hline (wpAny_mono (ho _ _ _ _ st) (fun v s1 x1 => by
    obtain ⟨k1, a, vs, k, rfl, hg, hf⟩ := x1
    refine ⟨"list", "list.index", F.plainAttrs_list, F.slot_list_index, F.type_list_index, ⟨_, hg.2, rfl⟩, fun b hb => by cases hb; exact ⟨_, hg.2, rfl⟩, ?_⟩
    refine PySem.P.index_list (wpAny_mono (he _ _ _ _ (st.keeps k1)) (fun w s2 x2 => ?_) fun _ _ z => z)
    obtain ⟨k2, hw⟩ := x2
    have hf2 := hf.mono (sub_vw (keeps_hs k2))
    obtain ⟨h1, h2⟩ := key_eqs K hf2 hw
    have hl : vs.length = xs.length := by simpa using congrArg List.length h2
    rw [List.findIdx?_eq_some_iff_getElem] at hj
    obtain ⟨hjl, hj1, hj2⟩ := hj
    have at_ : ∀ i (hi : i < vs.length) (hi' : i < xs.length), eqv dec eq x vs[i] = eq xs[i] x := fun i hi hi' => by
      have := congrArg (fun l => l[i]?) h2
      simpa [hi, hi'] using this
    refine ⟨vs.toArray, k, eqv dec eq x, j, by simpa [hl] using hjl, keeps_hs k2 _ _ hg.2, h1, by omega, ?_, fun i hi hij => ?_, keeps_trans (keeps_trans k1 k2) (keeps_tok _ _), _, rfl⟩
    · simpa [at_ j (by omega) hjl] using hj1
    · have := hj2 i hij
      have hi' : i < vs.length := by simpa using hi
      simpa [at_ i hi' (by omega)] using this) fun _ _ z => z)
theorem ev_count {α : Type} {f : α → T} {dec : Value → Option α} {eq : α → α → Bool} (K : Key f dec eq) {o e : Expr} {apos pos : Pos} {xs : List α} {x : α} (ho : Ev C n env ρ o (LL (xs.map f))) (he : Ev C n env ρ e (f x))
    (hbase : attributeBase o "count" env (eval o env) = eval o env) (hs : starEach [e] env = [(false, eval e env)]) (hline : (apos.endLine == pos.line) = true) : Ev C n env ρ (.Call (.Attribute o "count" apos) [e] [] pos) (I (xs.countP (fun a => eq a x) : Nat)) := fun A m p s st =>
  Call_method1 hbase hs hline (wpAny_mono (ho _ _ _ _ st) (fun v s1 x1 => by
    obtain ⟨k1, a, vs, k, rfl, hg, hf⟩ := x1
    refine ⟨"list", "list.count", F.plainAttrs_list, F.slot_list_count, F.type_list_count, ⟨_, hg.2, rfl⟩, fun b hb => by cases hb; exact ⟨_, hg.2, rfl⟩, ?_⟩
    refine PySem.P.count_list (wpAny_mono (he _ _ _ _ (st.keeps k1)) (fun w s2 x2 => ?_) fun _ _ z => z)
    obtain ⟨k2, hw⟩ := x2
    have hf2 := hf.mono (sub_vw (keeps_hs k2))
    obtain ⟨h1, h2⟩ := key_eqs K hf2 hw
    refine ⟨vs.toArray, k, eqv dec eq x, keeps_hs k2 _ _ hg.2, h1, keeps_trans (keeps_trans k1 k2) (keeps_tok _ _), s2.toks, ?_⟩
    congr 2
    have e1 : ∀ {β : Type} (l : List β) (p : β → Bool), l.countP p = (l.map p).count true := fun l p => by
      rw [List.count_eq_countP, List.countP_map]; congr 1; funext z; simp
    show List.countP _ vs = _
    rw [e1 vs, e1 xs, h2]) fun _ _ z => z)
theorem cm_in {α : Type} {f : α → T} {dec : Value → Option α} {eq : α → α → Bool} (K : Key f dec eq) {xs : List α} {x : α} : Cm2 C n .In (f x) (LL (xs.map f)) (B (xs.any fun a => eq a x)) := by
  rintro A p s w _ hA hG _ hw ⟨a, vs, k, rfl, hg, hf⟩
  obtain ⟨h1, h2⟩ := key_eqs K hf hw
  refine PySem.SeqInW.in_listW (eqv dec eq x) h1 (isList_of hg) ⟨keeps_refl _, ?_⟩
  have e1 : ∀ {β : Type} (l : List β) (p : β → Bool), l.any p = (l.map p).any id := fun l p => by rw [List.any_map]; rfl
  show Value.bool _ = _
  rw [List.any_toArray, e1 vs, e1 xs, h2]
end
end Mine

end
/-! Fw13 -/
section
open PySem PySem.W PyProof.Rows PySem.Calls PySem.W
set_option maxRecDepth 100000
set_option linter.all false
namespace Mine
section
variable {C : Cx} {n : Nat} {env : Env} {ρ ρr : Rho} {ow : Str → Prop} {Pre : Assn} {R : Po} {L : T → Prop}

def Att (g : View) : List (Str × T) → List DictEntry → Prop
  | [], [] => True
  | (x, t) :: fs, e :: es => (∃ tk, e.key = .str x tk) ∧ t.P g e.val ∧ Att g fs es
  | _, _ => False
theorem Att.mono {g g' : View} (k : Sub g g') : ∀ {fs : List (Str × T)} {es : List DictEntry}, Att g fs es → Att g' fs es
  | [], [], _ => trivial
  | (x, t) :: fs, e :: es, h => ⟨h.1, t.mono k h.2.1, Att.mono k h.2.2⟩
  | [], _ :: _, h => h.elim
  | _ :: _, [], h => h.elim
theorem key_is {e : DictEntry} {x y : Str} {tk : Tok} (h : e.key = .str x tk) : e.key.isStr y = (x == y) := by rw [h]; rfl
theorem att_ref {g : View} : ∀ {fs : List (Str × T)} {es : List DictEntry}, Att g fs es → es.any (·.refKey) = false
  | [], [], _ => rfl
  | (x, t) :: fs, e :: es, h => by
    obtain ⟨⟨tk, hk⟩, _, h3⟩ := h
    rw [List.any_cons, att_ref h3]
    unfold DictEntry.refKey; rw [hk]; rfl
  | [], _ :: _, h => h.elim
  | _ :: _, [], h => h.elim
theorem att_find {g : View} {y : Str} : ∀ {fs : List (Str × T)} {es : List DictEntry}, Att g fs es → match fs.lookup y with
    | some t => ∃ e, es.find? (·.key.isStr y) = some e ∧ t.P g e.val
    | none => es.find? (·.key.isStr y) = none
  | [], [], _ => rfl
  | (x, t) :: fs, e :: es, h => by
    obtain ⟨⟨tk, hk⟩, h2, h3⟩ := h
    have ih := att_find (y := y) h3
    rw [List.lookup_cons, List.find?_cons, key_is hk]
    by_cases hy : y = x
    · subst hy
      simp only [beq_self_eq_true]
      exact ⟨e, rfl, h2⟩
    · have h1 : (y == x) = false := by simpa using hy
      have h2 : (x == y) = false := by simpa using fun z => hy z.symm
      rw [h1, h2]; exact ih
  | [], _ :: _, h => h.elim
  | _ :: _, [], h => h.elim
theorem att_get {g : View} {y : Str} {t : T} {fs : List (Str × T)} {es : List DictEntry} (h : Att g fs es) (e : fs.lookup y = some t) : ∃ v, getL y es = some (some v) ∧ t.P g v := by
  have := att_find (y := y) h
  rw [e] at this
  obtain ⟨d, h1, h2⟩ := this
  exact ⟨d.val, by unfold getL; rw [h1], h2⟩
theorem att_no {g : View} {y : Str} {fs : List (Str × T)} {es : List DictEntry} (h : Att g fs es) (e : fs.lookup y = none) : getL y es = some none := by
  have := att_find (y := y) h
  rw [e] at this
  unfold getL; rw [this, att_ref h]; rfl
theorem att_put {g : View} {y : Str} {t : T} {v : Value} {hsh : Int} {tk : Tok} : ∀ {fs : List (Str × T)} {es : List DictEntry}, Att g fs es → fs.lookup y = none → t.P g v → Att g (fs ++ [(y, t)]) (putL y hsh (.str y tk) v es)
  | [], [], _, _, hv => ⟨⟨tk, rfl⟩, hv, trivial⟩
  | (x, u) :: fs, e :: es, h, hn, hv => by
    obtain ⟨⟨tk', hk⟩, h2, h3⟩ := h
    rw [List.lookup_cons] at hn
    by_cases hy : y = x
    · subst hy; simp at hn
    · have h1 : (y == x) = false := by simpa using hy
      rw [h1] at hn
      have h2' : (x == y) = false := by simpa using fun z => hy z.symm
      unfold putL
      rw [key_is hk, h2']
      exact ⟨⟨tk', hk⟩, h2, att_put h3 hn hv⟩
  | [], _ :: _, h, _, _ => h.elim
  | _ :: _, [], h, _, _ => h.elim
theorem att_len {g : View} : ∀ {fs : List (Str × T)} {es : List DictEntry}, Att g fs es → es.length = fs.length
  | [], [], _ => rfl
  | _ :: _, _ :: _, h => by simp [att_len h.2.2]
  | [], _ :: _, h => h.elim
  | _ :: _, [], h => h.elim

def OB (cls : Addr) (fs : List (Str × T)) : T := ⟨fun g v => ∃ (x dx : Addr) (es : List DictEntry) (n : Nat), v = .ref x ∧ g x (instObj cls dx) ∧ g dx (dictOf es n) ∧ Att g fs es,
  fun {g g' v} k ⟨x, dx, es, n, h1, h2, h3, h4⟩ => ⟨x, dx, es, n, h1, k _ _ h2, k _ _ h3, h4.mono k⟩⟩
theorem inst_of {p : Addr → Prop} {h : Heap} {x dx cls : Addr} {es : List DictEntry} {k : Nat} (h1 : vw p h x (instObj cls dx)) (h2 : vw p h dx (dictOf es k)) : InstAt h x (instObj cls dx) cls (some (dictOf es k)) := ⟨h1.2, rfl, rfl, h2.2⟩
/-- told values that are handed out as they are -/
def Handed (t : T) : Prop := ∀ g v, t.P g v → handedIn v = true
theorem hd_i {i : Int} : Handed (I i) := by rintro g v ⟨t, rfl⟩; rfl
theorem hd_s {i : Str} : Handed (S i) := by rintro g v ⟨t, rfl⟩; rfl
theorem hd_b {i : Bool} : Handed (B i) := by rintro g v rfl; rfl
theorem hd_ll {ts : List T} : Handed (LL ts) := by rintro g v ⟨a, _, _, rfl, _⟩; rfl
theorem hd_tu {ts : List T} : Handed (TU ts) := by rintro g v ⟨a, _, _, rfl, _⟩; rfl
theorem ev_attr {x attr : Str} {np pos : Pos} {cls : Addr} {fs : List (Str × T)} {t : T} {at_ : Option Value} (hx : Ev C n env ρ (.Name x np) (OB cls fs)) (hf : fs.lookup attr = some t) (ht : Handed t)
    (hg : plainGet C.K cls attr = true) (hh : hasDictIn C.K cls = true) (ha : findIn C.K (.ref cls) attr = some at_) (hn : noGet C.K at_ = true)
    (he : eval (.Attribute (.Name x np) attr pos) env = (do let o ← eval (.Name x np) env; standAt pos.atName; let r ← holding [o] (getAttr o attr true); letTemporaryGo (.Name x np) o r; pure r)) : Ev C n env ρ (.Attribute (.Name x np) attr pos) t := fun A m p s st =>
  Attribute_name (wpAny_mono (hx _ _ _ _ st) (fun v s1 x1 => by
    obtain ⟨k1, b, dx, es, k, rfl, h1, h2, h3⟩ := x1
    obtain ⟨v, hv, hp⟩ := att_get h3 hf
    exact get_value (st.keeps k1).g.k (inst_of h1 h2) (plainGet_of hg).1 (findObj_own hh ha hn hv) (ht _ _ hp) ⟨keeps_trans k1 (keeps_tok _ _), hp⟩) fun _ _ z => z)
end
end Mine

end
/-! Fw14 -/
section
open PySem PySem.W PyProof.Rows PySem.Calls
set_option maxRecDepth 100000
set_option linter.all false
namespace Mine

/-- what an object of one's own is like -/
structure Sp where
  P : View → Obj → Prop
  mono : ∀ {g g' o}, Sub g g' → P g o → P g' o
def SL (ts : List T) : Sp := ⟨fun g o => ∃ vs n, o = lst vs n ∧ Fa g ts vs, fun k ⟨vs, n, h1, h2⟩ => ⟨vs, n, h1, h2.mono k⟩⟩
def SD (fs : List (Str × T)) : Sp := ⟨fun g o => ∃ es n, o = dictOf es n ∧ Att g fs es, fun k ⟨vs, n, h1, h2⟩ => ⟨vs, n, h1, h2.mono k⟩⟩
abbrev Owns := List (Addr × Sp)
structure Apart (env : Env) (a : Addr) : Prop where
  l : a ≠ env.locals
  c : ∀ x c, env.cells.lookup x = some c → a ≠ c
  t : ∀ y, canPut env y = true → a ≠ tgt env y
theorem apart_new {C : Cx} {n : Nat} {env : Env} {A : Around} {ow : Str → Prop} {m : Str → Option Value} {q pc : Addr → Prop} {s : Shared} {a : Addr} (b : Base C n env A ow m q pc s) (ha : s.heap.get? a = none) (hc : ∀ x c, env.cells.lookup x = some c → ∃ o, s.heap.get? c = some o) : Apart env a where
  l := by
    rintro rfl
    obtain ⟨ml, ⟨o, es, ep, e1, e2, _⟩, _⟩ := b.f.loc
    rw [ha] at e1; cases e1
  c := by
    rintro x c e rfl
    obtain ⟨o, e2⟩ := hc x a e
    rw [ha] at e2; cases e2
  t := fun y hy z => by
    obtain ⟨o, e⟩ := tgt_is b.f hy
    rw [← z, ha] at e; cases e
structure OwP (env : Env) (ρ : Rho) (F : Owns) (m : Str → Option Value) (q pc : Addr → Prop) (h : Heap) : Prop where
  v : Vars m (vw (pa q pc) h) ρ
  o : ∀ a sp, (a, sp) ∈ F → q a ∧ (∃ o, h.get? a = some o ∧ sp.P (vw (pa q pc) h) o) ∧ Apart env a
  d : (F.map (·.1)).Nodup
def Ow (env : Env) (ρ : Rho) (F : Owns) : Assn := ⟨OwP env ρ F, fun k kq h =>
  ⟨h.v.mono k, fun a sp ha => let ⟨h1, ⟨o, h2, h3⟩, h4⟩ := h.o a sp ha; ⟨h1, ⟨o, kq _ _ h1 h2, sp.mono k h3⟩, h4⟩, h.d⟩⟩
def EX {α : Type} (P : α → Assn) : Assn := ⟨fun m q pc h => ∃ a, (P a).P m q pc h, fun k kq ⟨a, h⟩ => ⟨a, (P a).mo k kq h⟩⟩
section
variable {C : Cx} {n : Nat} {env : Env} {ρ ρr : Rho} {ow : Str → Prop} {Pre : Assn} {R : Po} {L : T → Prop} {F : Owns}

theorem xs_ex {α : Type} {P : α → Assn} {ss : List Stmt} (h : ∀ a, Xs C n env ow (P a) ss R) : Xs C n env ow (EX P) ss R := fun A m q pc s b ⟨a, hp⟩ => h a A m q pc s b hp
theorem x1_ex {α : Type} {P : α → Assn} {ss : Stmt} (h : ∀ a, X1 C n env ow (P a) ss R) : X1 C n env ow (EX P) ss R := fun A m q pc s b ⟨a, hp⟩ => h a A m q pc s b hp
theorem imp_ex {α : Type} {P : α → Assn} (a : α) : Imp (P a) (EX P) := fun _ _ _ _ h => ⟨a, h⟩
theorem ow_lv : Imp (Ow env ρ F) (LV ρ) := fun _ _ _ _ h => h.v
theorem ow_of_lv : Imp (LV ρ) (Ow env ρ []) := fun _ _ _ _ h => ⟨h, fun _ _ z => (by cases z), .nil⟩
theorem ow_weak {ρ' : Rho} (h : ∀ m g, Vars m g ρ → Vars m g ρ') : Imp (Ow env ρ F) (Ow env ρ' F) := fun _ _ _ _ z => ⟨h _ _ z.v, z.o, z.d⟩
theorem puts_ow {y : Str} {t : T} (hc : canPut env y = true) : Puts env ow (Ow env ρ F) y t (Ow env ((y, t) :: ρ) F) := by
  rintro m q pc h h' v w hq hP ht hk
  have sub : Sub (vw (pa q pc) h) (vw (pa q pc) h') := vw_sub fun d o hd e => ⟨hd, hk d o (by rintro rfl; exact hd (.inr hq)) e⟩
  refine ⟨puts_lv (env := env) (ow := ow) m q pc h h' v w hq hP.v ht hk, fun a sp ha => ?_, hP.d⟩
  obtain ⟨h1, ⟨o, h2, h3⟩, h4⟩ := hP.o a sp ha
  exact ⟨h1, ⟨o, hk _ _ (h4.t y hc) h2, sp.mono sub h3⟩, h4⟩

/-- a name that tells of an own object, as seen where the own objects are open -/
def Tell (ρ : Rho) (F : Owns) (x : Str) (t : T) : Prop :=
  (∃ a ts, ρ.lookup x = some (V (.ref a)) ∧ (a, SL ts) ∈ F ∧ t = LL ts) ∨ (∃ a dx cls fs, ρ.lookup x = some (⟨fun g v => v = .ref a ∧ g a (instObj cls dx), fun k h => ⟨h.1, k _ _ h.2⟩⟩ : T) ∧ (dx, SD fs) ∈ F ∧ t = OB cls fs)
def IN (a cls dx : Addr) : T := ⟨fun g v => v = .ref a ∧ g a (instObj cls dx), fun k h => ⟨h.1, k _ _ h.2⟩⟩
theorem tell_l {x : Str} {a : Addr} {ts : List T} (h : ρ.lookup x = some (V (.ref a))) (hF : (a, SL ts) ∈ F) : Tell ρ F x (LL ts) := .inl ⟨a, ts, h, hF, rfl⟩
theorem tell_o {x : Str} {a dx cls : Addr} {fs : List (Str × T)} (h : ρ.lookup x = some (IN a cls dx)) (hF : (dx, SD fs) ∈ F) : Tell ρ F x (OB cls fs) := .inr ⟨a, dx, cls, fs, h, hF, rfl⟩
/-- the own objects open -/
theorem rd_ow {ρx : Rho} (hx : ∀ x t, (x, t) ∈ ρx → Tell ρ F x t) : Rd C n env ow (Ow env ρ F) (ρx ++ ρ) Pu := by
  intro A m q pc s b hP
  have hd : ∀ a sp, (a, sp) ∈ F → ¬ pc a := fun a sp ha => b.dis a (hP.o a sp ha).1
  have sub : Sub (vw (pa q pc) s.heap) (vw (fun d => pa q pc d ∧ ∀ sp, (d, sp) ∉ F) s.heap) := vw_less fun d hd => hd.1
  refine ⟨fun d => pa q pc d ∧ ∀ sp, (d, sp) ∉ F, fun d z => ⟨.inl z, fun sp e => hd d sp e z⟩, ⟨b.a, b.f, ?_, b.g, fun d hd => b.pin d hd.1⟩, fun t ht _ v _ _ z => ht _ _ v z⟩
  have opn : ∀ a sp, (a, sp) ∈ F → ∀ o, s.heap.get? a = some o → vw (fun d => pa q pc d ∧ ∀ sp, (d, sp) ∉ F) s.heap a o := fun a sp ha o e => ⟨fun z => z.2 sp ha, e⟩
  have base := hP.v.mono sub
  intro y t e
  rw [List.lookup_append] at e
  cases e1 : ρx.lookup y with
  | none => rw [e1] at e; exact base y t (by simpa using e)
  | some u =>
    rw [e1] at e
    simp at e; subst e
    rcases hx y u (lookup_mem e1) with ⟨a, ts, h1, h2, rfl⟩ | ⟨a, dx, cls, fs, h1, h2, rfl⟩
    · obtain ⟨v, e2, rfl⟩ := hP.v y _ h1
      obtain ⟨_, ⟨o, h4, vs, k, rfl, h5⟩, _⟩ := hP.o a _ h2
      exact ⟨_, e2, a, vs, k, rfl, opn a _ h2 _ h4, h5.mono sub⟩
    · obtain ⟨v, e2, rfl, h6⟩ := hP.v y _ h1
      obtain ⟨_, ⟨o, h4, es, k, rfl, h5⟩, _⟩ := hP.o dx _ h2
      exact ⟨_, e2, a, dx, es, k, rfl, sub _ _ h6, opn dx _ h2 _ h4, h5.mono sub⟩

/-- an own object is changed in place -/
theorem ow_change {A : Around} {m : Str → Option Value} {q pc : Addr → Prop} {s : Shared} {a : Addr} {sp sp' : Sp} {o o' : Obj} {h' : Heap} {tk i : Nat} (b : Base C n env A ow m q pc s) (hP : (Ow env ρ F).P m q pc s.heap)
    (hi : F[i]? = some (a, sp)) (ho : s.heap.get? a = some o) (hs : Heap.SameBut a s.heap h') (ho' : h'.get? a = some o') (hsp : sp'.P (vw (pa q pc) s.heap) o')
    (hno : ∀ v, o.data ≠ .cell v) :
    Base C n env A ow m q pc { s with heap := h', toks := tk } ∧ Step q s { s with heap := h', toks := tk } q ∧ (Ow env ρ (F.set i (a, sp'))).P m q pc h' := by
  have ha : (a, sp) ∈ F := List.mem_of_getElem? hi
  obtain ⟨hq, ⟨_, _, _⟩, ht⟩ := hP.o a sp ha
  have hk : ∀ d o, ¬ q d → s.heap.get? d = some o → h'.get? d = some o := fun d o hd e => hs.extBut d o (by rintro rfl; exact hd hq) e
  have hF : FrR env m h' := by
    refine b.f.butL (wr := [a]) (fun z => ?_) (fun y c h1 h2 h3 => ?_) (fun d o hd e => hs.extBut d o (by simpa using hd) e)
    · exact ht.l (List.mem_singleton.mp z).symm
    · exact ht.c y c h2 (List.mem_singleton.mp h3).symm
  have sub : Sub (vw (pa q pc) s.heap) (vw (pa q pc) h') := vw_sub fun d o hd e => ⟨hd, hk d o (fun z => hd (.inr z)) e⟩
  refine ⟨⟨b.a, hF, b.w, { b.g with sub := fun d o e => hk d o (fun hd => by rw [b.top d hd] at e; cases e) (b.g.sub d o e) }, fun d hd => ?_, b.dis, b.top⟩, ⟨⟨_, _, rfl⟩, hk, fun _ z => z, fun _ z => .inl z⟩, ⟨hP.v.mono sub, ?_, ?_⟩⟩
  · by_cases hd' : d = a
    · subst hd'; exact ⟨_, ho'⟩
    · obtain ⟨o, e⟩ := b.pin d hd
      exact ⟨o, hs.extBut d o hd' e⟩
  · intro c sc hc
    obtain ⟨j, hj, e⟩ := List.mem_iff_getElem.mp hc
    have hj' : j < F.length := by simpa using hj
    rw [List.getElem_set] at e
    by_cases hij : i = j
    · rw [if_pos hij] at e
      cases e
      exact ⟨hq, ⟨o', ho', sp'.mono sub hsp⟩, ht⟩
    · rw [if_neg hij] at e
      have hm : (c, sc) ∈ F := e ▸ List.getElem_mem hj'
      obtain ⟨h1, ⟨oc, h2, h3⟩, h4⟩ := hP.o c sc hm
      have hca : c ≠ a := by
        rintro rfl
        have hil : i < F.length := by
          rcases Nat.lt_or_ge i F.length with z | z
          · exact z
          · rw [List.getElem?_eq_none z] at hi; cases hi
        have e1 : (F.map (·.1))[i]'(by simpa using hil) = c := by
          rw [List.getElem_map]
          rw [List.getElem?_eq_getElem hil] at hi
          rw [Option.some.inj hi]
        have e2 : (F.map (·.1))[j]'(by simpa using hj') = c := by rw [List.getElem_map, e]
        exact hij ((List.getElem_inj hP.d).mp (e1.trans e2.symm))
      exact ⟨h1, ⟨oc, hs.extBut _ _ hca h2, sc.mono sub h3⟩, h4⟩
  · rw [List.map_set]
    have : (F.map (·.1)).set i a = F.map (·.1) := by
      apply List.ext_getElem (by simp)
      intro j h1 h2
      rw [List.getElem_set]
      by_cases hij : i = j
      · subst hij
        rw [if_pos rfl, List.getElem_map]
        have hil : i < F.length := by simpa using h2
        rw [List.getElem?_eq_getElem hil] at hi
        rw [Option.some.inj hi]
      · rw [if_neg hij]
    rw [this]; exact hP.d
end
end Mine

end
/-! Fw15 -/
section
open PySem PySem.W PyProof.Rows PySem.Calls
set_option maxRecDepth 100000
set_option linter.all false
namespace Mine
section
variable {C : Cx} {n : Nat} {env : Env} {ρ ρr : Rho} {ow : Str → Prop} {Pre : Assn} {R : Po} {L : T → Prop} {F : Owns}

def SpPu (sp : Sp) : Prop := ∀ g g' o, sp.P g o → sp.P g' o
theorem fa_pu {g g' : View} : ∀ {us : List T} {ws : List Value}, (∀ u ∈ us, Pu u) → Fa g us ws → Fa g' us ws
  | [], [], _, _ => trivial
  | _ :: _, _ :: _, k, h => ⟨k _ (.head _) _ _ _ h.1, fa_pu (fun u h => k u (.tail _ h)) h.2⟩
  | [], _ :: _, _, h => h.elim
  | _ :: _, [], _, h => h.elim
theorem sp_list {ts : List T} (h : ∀ t ∈ ts, Pu t) : SpPu (SL ts) := fun g g' o ⟨vs, n, h1, h2⟩ => ⟨vs, n, h1, fa_pu h h2⟩
theorem sp_obj {C0 : Nat} : SpPu (SD []) := fun g g' o ⟨es, n, h1, h2⟩ => ⟨es, n, h1, by cases es with | nil => trivial | cons _ _ => exact h2.elim⟩
/-- a new object -/
def EvN (C : Cx) (n : Nat) (env : Env) (ρ : Rho) (e : Expr) (sp : Sp) (Kp : Addr → Prop := fun _ => True) : Prop := ∀ A m p s, Sit C n env ρ A m p s →
  wpAny (model C.prog C.w) A (eval e env) (fun v s' => Keeps s s' ∧ ∃ a o, v = .ref a ∧ s.heap.get? a = none ∧ s'.heap.get? a = some o ∧ sp.P (vw (fun d => p d ∨ d = a) s'.heap) o ∧ Kp a) noE s
theorem EvF.evn {e : Expr} {ts : List T} (h : EvF C n env ρ e ts) : EvN C n env ρ e (SL ts) := fun A m p s st =>
  wpAny_mono (h _ _ _ _ st) (fun v s' ⟨k, a, vs, n, e1, e2, e3, e4⟩ => ⟨k, a, _, e1, e2, e3, ⟨vs, n, rfl, e4⟩, trivial⟩) fun _ _ z => z

theorem ow_keeps {A : Around} {m : Str → Option Value} {q pc : Addr → Prop} {s s1 : Shared} (k : Keeps s s1) (h : (Ow env ρ F).P m q pc s.heap) : (Ow env ρ F).P m q pc s1.heap := (Ow env ρ F).mono (keeps_hs k) h
/-- one more own object -/
theorem ow_more {A : Around} {m : Str → Option Value} {q pc : Addr → Prop} {s s1 : Shared} {a : Addr} {o : Obj} {sp : Sp} (b : Base C n env A ow m q pc s) (hP : (Ow env ρ F).P m q pc s.heap) (k : Keeps s s1) (ha : s.heap.get? a = none) (ho : s1.heap.get? a = some o)
    (hsp : sp.P (vw (pa (fun d => q d ∨ d = a) pc) s1.heap) o) (hcl : ∀ x c, env.cells.lookup x = some c → ∃ o, s.heap.get? c = some o) :
    Base C n env A ow m (fun d => q d ∨ d = a) pc s1 ∧ Step q s s1 (fun d => q d ∨ d = a) ∧ (Ow env ρ ((a, sp) :: F)).P m (fun d => q d ∨ d = a) pc s1.heap := by
  obtain ⟨b1, S1⟩ := b.more k ha ho
  have ks := keeps_hs k
  have sub : Sub (vw (pa q pc) s.heap) (vw (pa (fun d => q d ∨ d = a) pc) s1.heap) := vw_sub fun d o hd e => ⟨?_, ks _ _ e⟩
  · refine ⟨b1, S1, hP.v.mono sub, fun c sc hc => ?_, ?_⟩
    · rcases List.mem_cons.mp hc with e | hc
      · cases e
        exact ⟨.inr rfl, ⟨o, ho, hsp⟩, apart_new b ha hcl⟩
      · obtain ⟨h1, ⟨oc, h2, h3⟩, h4⟩ := hP.o c sc hc
        exact ⟨.inl h1, ⟨oc, ks _ _ h2, sc.mono sub h3⟩, h4⟩
    · rw [List.map_cons, List.nodup_cons]
      refine ⟨fun hm => ?_, hP.d⟩
      obtain ⟨⟨c, sc⟩, hc, e⟩ := List.mem_map.mp hm
      obtain ⟨h1, ⟨oc, h2, h3⟩, h4⟩ := hP.o c sc hc
      simp only at e
      rw [e, ha] at h2; cases h2
  · rintro (z | z | rfl)
    · exact hd (.inl z)
    · exact hd (.inr z)
    · rw [ha] at e; cases e

theorem nocells {A : Around} {m : Str → Option Value} {q pc : Addr → Prop} {s : Shared} (b : Base C n env A ow m q pc s) (h : ∀ x, ow x) : ∀ x c, env.cells.lookup x = some c → ∃ o, s.heap.get? c = some o := fun x c e => b.pin c (.inr (b.w.cq x c (h x) e))

theorem x_new {x : Str} {px pos : Pos} {e : Expr} {sp : Sp} {Kp : Addr → Prop} (hr : Rd C n env ow (Ow env ρ F) ρr L) (hsp : SpPu sp) (he : EvN C n env ρr e sp Kp) (hx : canPut env x = true) (ho : env.kindOf x = some .cell → ow x) (hcl : ∀ x, ow x)
    (hs : swapsWith e (some (.Name x px)) pos.line env = pure false) (hpost : ∀ a, Kp a → Imp (Ow env ((x, V (.ref a)) :: ρ) ((a, sp) :: F)) R.nx) : X1 C n env ow (Ow env ρ F) (.Assign [.Name x px] e pos) R := fun A m q pc s b hP => by
  obtain ⟨p', hpc, sit, lift⟩ := hr _ _ _ _ _ b hP
  refine wpAny_Assign_Name (wpAny_mono (he _ _ _ _ sit) (fun v s1 x1 => ?_) fun _ _ z => z) hs
  obtain ⟨k1, a, o, rfl, ha, hg, hf, hka⟩ := x1
  obtain ⟨b1, S1, O1⟩ := ow_more b hP k1 ha hg (hsp _ _ _ hf) (nocells b hcl)
  refine store_base b1 hx ho fun h' tk b' hs' hq => ⟨_, _, b', S1.trans ⟨⟨_, _, rfl⟩, fun d o hd e => hs'.extBut d o (by rintro rfl; exact hd hq) e, fun _ z => z, fun _ z => .inl z⟩, hpost a hka _ _ _ _ ?_⟩
  exact puts_ow (ow := ow) hx _ _ _ _ _ _ b1.w hq O1 rfl fun d o hd e => hs'.extBut d o hd e

theorem x_append_ow {o e : Expr} {apos pos epos : Pos} {ts : List T} {t : T} {a : Addr} {i : Nat} (hL : L t) (hr : Rd C n env ow (Ow env ρ F) ρr L) (hi : F[i]? = some (a, SL ts)) (ho : Ev C n env ρr o (V (.ref a))) (he : Ev C n env ρr e t) (hsz : ts.length ≤ 4096)
    (hline : (apos.endLine == pos.line) = true) (hst : starEach [e] env = [(false, eval e env)]) (hin : interactive env = false) (hbase : attributeBase o "append" env (eval o env) = eval o env)
    (hsw : swapsWith (.Call (.Attribute o "append" apos) [e] [] pos) none epos.line env = pure false)
    (hpost : Imp (Ow env ρ (F.set i (a, SL (ts ++ [t])))) R.nx) :
    X1 C n env ow (Ow env ρ F) (.Expr (.Call (.Attribute o "append" apos) [e] [] pos) epos) R := fun A m q pc s b hP => by
  obtain ⟨p', hpc, sit, lift⟩ := hr _ _ _ _ _ b hP
  refine wpAny_Expr_any (wpAny_Call_append hbase (by rw [hst]; rfl) hline (by rw [hst]; rfl) (wpAny_mono (ho _ _ _ _ sit) (fun v s1 x1 => ?_) fun _ _ z => z)) hin hsw
  obtain ⟨k1, rfl⟩ := x1
  obtain ⟨_, ⟨o1, h2, vs, k, rfl, h4⟩, _⟩ := (ow_keeps (A := A) k1 hP).o a _ (List.mem_of_getElem? hi)
  refine ⟨a, vs.toArray, rfl, ⟨_, k, h2, rfl, rfl, rfl⟩, ?_⟩
  refine wpAny_mono (he _ _ _ _ (sit.keeps k1)) (fun y s2 x2 => ?_) fun _ _ z => z
  obtain ⟨k2, hy⟩ := x2
  have k12 := keeps_trans k1 k2
  have hg2 := keeps_hs k2 _ _ h2
  have hf2 : Fa (vw (pa q pc) s2.heap) (ts ++ [t]) (vs ++ [y]) := (h4.mono (sub_vw (keeps_hs k2))).append ⟨lift0 (fun r => lift t hL _ _ r k12) hy, trivial⟩
  refine wpAny_list_append_plain (hsz := by rw [List.size_toArray, sizeLine_eq, h4.length]; omega) (items := vs.toArray) ⟨k, hg2⟩ fun h' hl' hs' => ?_
  obtain ⟨n', hl'⟩ := hl'
  have hl2 : h'.get? a = some (lst (vs ++ [y]) n') := by simpa using hl'
  obtain ⟨B, S2, O⟩ := ow_change (tk := s2.toks) (sp' := SL (ts ++ [t])) (b.keeps k12) (ow_keeps (A := A) k12 hP) hi hg2 hs' hl2 ⟨_, _, rfl, hf2⟩ (fun v z => by cases z)
  exact ⟨m, q, B, (Step.of_keeps k12).trans S2, hpost _ _ _ _ O⟩
/-- a new list behind a list -/
theorem x_append_new {o e : Expr} {apos pos epos : Pos} {ts : List T} {sp : Sp} {a : Addr} {i : Nat} (hr : Rd C n env ow (Ow env ρ F) ρr L) (hsp : SpPu sp) (hi : F[i]? = some (a, SL ts)) (ho : Ev C n env ρr o (V (.ref a))) (he : EvN C n env ρr e sp) (hsz : ts.length ≤ 4096) (hcl : ∀ x, ow x)
    (hline : (apos.endLine == pos.line) = true) (hst : starEach [e] env = [(false, eval e env)]) (hin : interactive env = false) (hbase : attributeBase o "append" env (eval o env) = eval o env)
    (hsw : swapsWith (.Call (.Attribute o "append" apos) [e] [] pos) none epos.line env = pure false)
    (hpost : ∀ c, Imp (Ow env ρ ((c, sp) :: F.set i (a, SL (ts ++ [V (.ref c)])))) R.nx) :
    X1 C n env ow (Ow env ρ F) (.Expr (.Call (.Attribute o "append" apos) [e] [] pos) epos) R := fun A m q pc s b hP => by
  obtain ⟨p', hpc, sit, lift⟩ := hr _ _ _ _ _ b hP
  refine wpAny_Expr_any (wpAny_Call_append hbase (by rw [hst]; rfl) hline (by rw [hst]; rfl) (wpAny_mono (ho _ _ _ _ sit) (fun v s1 x1 => ?_) fun _ _ z => z)) hin hsw
  obtain ⟨k1, rfl⟩ := x1
  obtain ⟨_, ⟨o1, h2, vs, k, rfl, h4⟩, _⟩ := (ow_keeps (A := A) k1 hP).o a _ (List.mem_of_getElem? hi)
  refine ⟨a, vs.toArray, rfl, ⟨_, k, h2, rfl, rfl, rfl⟩, ?_⟩
  refine wpAny_mono (he _ _ _ _ (sit.keeps k1)) (fun y s2 x2 => ?_) fun _ _ z => z
  obtain ⟨k2, c, oc, rfl, hc1, hc2, hc3, _⟩ := x2
  have hg2 := keeps_hs k2 _ _ h2
  obtain ⟨b2, S1, O1⟩ := ow_more (b.keeps k1) (ow_keeps (A := A) k1 hP) k2 hc1 hc2 (hsp _ _ _ hc3) (nocells (b.keeps k1) hcl)
  obtain ⟨_, ⟨o2, h6, vs2, k3, rfl, h5⟩, _⟩ := O1.o a _ (.tail _ (List.mem_of_getElem? hi))
  rw [hg2] at h6
  have e6 : vs2 = vs ∧ k3 = k := by
    have : vs.toArray = vs2.toArray ∧ k = k3 := by cases h6; exact ⟨rfl, rfl⟩
    exact ⟨by simpa using (congrArg Array.toList this.1).symm, this.2.symm⟩
  obtain ⟨rfl, rfl⟩ := e6
  refine wpAny_list_append_plain (hsz := by rw [List.size_toArray, sizeLine_eq, h4.length]; omega) (items := vs2.toArray) ⟨_, hg2⟩ fun h' hl' hs' => ?_
  obtain ⟨n', hl'⟩ := hl'
  have hl2 : h'.get? a = some (lst (vs2 ++ [.ref c]) n') := by simpa using hl'
  obtain ⟨B, S2, O⟩ := ow_change (i := i + 1) (tk := s2.toks) (sp' := SL (ts ++ [V (.ref c)])) b2 O1 (by simpa using hi) hg2 hs' hl2 ⟨_, _, rfl, h5.append ⟨rfl, trivial⟩⟩ (fun v z => by cases z)
  exact ⟨m, _, B, (Step.of_keeps k1).trans (S1.trans S2), hpost c _ _ _ _ O⟩

theorem x_setitem_ow {o e ie : Expr} {p2 pos : Pos} {ts : List T} {t : T} {a : Addr} {i : Int} {j : Nat} (hL : L t) (hr : Rd C n env ow (Ow env ρ F) ρr L) (hj : F[j]? = some (a, SL ts)) (ho : Ev C n env ρr o (V (.ref a))) (he : Ev C n env ρr e t) (hie : Ev C n env ρr ie (I i))
    (h0 : 0 ≤ i) (hi : i < ts.length) (hl : ts.length ≤ 4096) (hsw : swapsWith e (some (.Subscript o ie p2)) pos.line env = pure false) (hpost : Imp (Ow env ρ (F.set j (a, SL (ts.set i.toNat t)))) R.nx) :
    X1 C n env ow (Ow env ρ F) (.Assign [.Subscript o ie p2] e pos) R := fun A m q pc s b hP => by
  obtain ⟨p', hpc, sit, lift⟩ := hr _ _ _ _ _ b hP
  refine wpAny_Assign_Subscript (wpAny_mono (he _ _ _ _ sit) (fun v s1 x1 => ?_) fun _ _ z => z) hsw
  obtain ⟨k1, hv⟩ := x1
  refine wpAny_mono (ho _ _ _ _ (sit.keeps k1)) (fun ov s2 x2 => ?_) fun _ _ z => z
  obtain ⟨k2, rfl⟩ := x2
  have k12 := keeps_trans k1 k2
  refine wpAny_mono (hie _ _ _ _ (sit.keeps k12)) (fun iv s3 x3 => ?_) fun _ _ z => z
  obtain ⟨k3, u, rfl⟩ := x3
  have k13 := keeps_trans k12 k3
  obtain ⟨_, ⟨o1, h2, vs, k, rfl, h4⟩, _⟩ := (ow_keeps (A := A) k13 hP).o a _ (List.mem_of_getElem? hj)
  have hl2 := h4.length
  refine ki_setAt (items := vs.toArray) (n := k) h2 h0 (by omega) (by rw [List.size_toArray]; omega) ?_
  have e := PySem.IsL.update (l := a) (items := vs.toArray) (n := k) h2 (·.setIfInBounds i.toNat v)
  have e' : (s3.heap.update a (Obj.mapSeq (·.setIfInBounds i.toNat v))).get? a = some (lst (vs.set i.toNat v) (if (vs.toArray.setIfInBounds i.toNat v).size == vs.toArray.size then k else k + 1)) := by
    have : (vs.set i.toNat v).toArray = vs.toArray.setIfInBounds i.toNat v := by simp
    show _ = some ({ cls := .type "list", data := .seq (vs.set i.toNat v).toArray _ } : Obj)
    rw [this]; exact e
  obtain ⟨B, S2, O⟩ := ow_change (tk := s3.toks) (sp' := SL (ts.set i.toNat t)) (b.keeps k13) (ow_keeps (A := A) k13 hP) hj h2 (Heap.SameBut.update ..) e' ⟨_, _, rfl, h4.set i.toNat (t.mono (sub_vw (keeps_hs (keeps_trans k2 k3))) (lift0 (fun r => lift t hL _ _ r k1) hv))⟩ (fun v z => by cases z)
  exact ⟨m, q, B, (Step.of_keeps k13).trans S2, hpost _ _ _ _ O⟩
end
end Mine

end
/-! Fw16 -/
section
open PySem PySem.W PyProof.Rows PySem.Calls Builtin Builtin.ObjectAttr Builtin.Getset_descriptor
set_option maxRecDepth 100000
set_option linter.all false
namespace Mine
section
variable {C : Cx} {n : Nat} {env : Env} {ρ ρr : Rho} {ow : Str → Prop} {Pre : Assn} {R : Po} {L : T → Prop} {F : Owns}

theorem osa_core {A : Around} {R : Result → Shared → Prop} {s : Shared} {K : Frag} {x cls : Addr} {ox od od' : Obj} {dx : Addr} {name : Str} {tk : Tok} {v : Value} {es : List DictEntry} {n : Nat} (X : K.In s.heap)
    (I : InstAt s.heap x ox cls (some od)) (hd : ox.dict = some dx) (hD : s.heap.get? dx = some od) (hp : plainOver K cls = true) (ht : takerIn K cls name = some none) (hh : (clsIn K cls).any (·.hasDict) = true)
    (hl : (lookIn name od).isSome = true)
    (e : Obj.putName name (PyData.keyHash C.w.params name) (.str name s.toks) v od = od') (e' : od'.data = .dict es.toArray n) (hz : es.length ≤ 1000)
    (h : ∀ h', h'.get? dx = some od' → Heap.SameBut dx s.heap h' → R (.ok (.ret .none)) { s with heap := h', toks := s.toks + 1 }) :
    codeAny (model C.prog C.w) A (.call (.builtin "object.__setattr__") ⟨[.ref x, .str name tk, v], []⟩) R s := by
  refine osa_open X I hp ht fun b => ?_
  obtain ⟨cd, hc, hd'⟩ := any_some hh
  have D' : (s.heap.update dx (Obj.putName name (PyData.keyHash C.w.params name) (.str name s.toks) v)).get? dx = some od' := by
    rw [← e]; exact Heap.get?_update_self _ hD (by rw [e]; obtain ⟨_, _, dd, _⟩ := od'; cases e'; rfl)
  obtain ⟨hx, hcl, hn, -⟩ := I
  obtain ⟨oc, odi, oda, osl⟩ := ox
  dsimp only at hcl hd
  subst hcl hd
  refine wpAny_bind (wpAny_pure (wpAny_bind (wpAny_bind (wpAny_loadPart hx (wpAny_bind ((looks_clsIn X hc).here ?_))))))
  rw [hd']
  refine wpAny_pure (a := some dx) (wpAny_bind (wpAny_pure (wpAny_bind ?_)))
  unfold nsSet
  refine wpAny_bind (wpAny_bind (wpAny_askSetting (wpAny_pure (wpAny_bind (wpAny_mkText (wpAny_bind (wpAny_loadPart hD ?_)))))))
  unfold lookIn at hl
  split at hl
  · rename_i es₀ n₀ q
    rw [q]
    dsimp only
    have c : (!es₀.any (·.key.isStr name) && es₀.any (·.refKey)) = false := by
      rw [← Array.any_toList, ← Array.any_toList]
      split at hl
      · rename_i en he
        rw [List.any_eq_true.mpr ⟨en, List.mem_of_find?_eq_some he, List.find?_some he⟩]; rfl
      · split at hl
        · cases hl
        · rename_i z; rw [Bool.not_eq_true] at z; rw [z, Bool.and_false]
    rw [aRefKeyMayBeTheName_at, c]
    refine wpAny_updatePart hD ?_
    refine wpAny_bind (wpAny_lookBehind D' (by rw [e']; exact pastItsLine_dict (by rw [List.size_toArray, sizeLine_eq]; omega)) ?_)
    exact wpAny_pure (h _ D' (Heap.SameBut.update ..))
  · cases hl

/-- self.name = e -/
theorem x_setattr {x attr : Str} {np tp pos : Pos} {e : Expr} {a cls dx : Addr} {fs : List (Str × T)} {t : T} {i : Nat} (hL : L t) (hr : Rd C n env ow (Ow env ρ F) ρr L) (hx : ρ.lookup x = some (IN a cls dx)) (hxk : isLocalish env x = true) (hi : F[i]? = some (dx, SD fs))
    (he : Ev C n env ρr e t) (hf : fs.lookup attr = none) (hfl : fs.length ≤ 100)
    (hs : findIn C.K (.ref cls) "__setattr__" = some (some (.builtin "object.__setattr__"))) (hp : plainOver C.K cls = true) (ht : takerIn C.K cls attr = some none) (hh : hasDictIn C.K cls = true)
    (hsw : swapsWith e (some (.Attribute (.Name x np) attr tp)) pos.line env = pure false) (hpost : Imp (Ow env ρ (F.set i (dx, SD (fs ++ [(attr, t)])))) R.nx) :
    X1 C n env ow (Ow env ρ F) (.Assign [.Attribute (.Name x np) attr tp] e pos) R := fun A m q pc s b hP => by
  obtain ⟨p', hpc, sit, lift⟩ := hr _ _ _ _ _ b hP
  refine plainObj_wpAny_Assign_Attribute (wpAny_mono (he _ _ _ _ sit) (fun v s1 x1 => ?_) fun _ _ z => z) hsw
  obtain ⟨k1, hv⟩ := x1
  refine wpAny_mono (ev_name (pos := np) hx hxk _ _ _ _ ((b.keeps k1).sit (ow_keeps (A := A) k1 hP).v)) (fun ov s2 x2 => ?_) fun _ _ z => z
  obtain ⟨k2, rfl, hin⟩ := x2
  have k12 := keeps_trans k1 k2
  have hP2 := ow_keeps (A := A) k12 hP
  obtain ⟨_, ⟨o1, h2, es, k, rfl, h4⟩, _⟩ := hP2.o dx _ (List.mem_of_getElem? hi)
  have b2 := b.keeps k12
  have hI : InstAt s2.heap a (instObj cls dx) cls (some (dictOf es k)) := ⟨hin.2, rfl, rfl, h2⟩
  have hno := att_no h4 hf
  have hlen := att_len h4
  have hput : (putL attr (PyData.keyHash C.w.params attr) (.str attr (s2.toks + 1)) v es).length ≤ 1000 := by
    have := att_len (att_put (hsh := PyData.keyHash C.w.params attr) (tk := s2.toks + 1) h4 hf (t.mono (sub_vw (keeps_hs k2)) (lift0 (fun r => lift t hL _ _ r k1) hv)))
    rw [this]; simp; omega
  refine set_plain b2.g.k hI hs (osa_core (C := C) (s := { s2 with toks := s2.toks + 1 }) (es := putL attr (PyData.keyHash C.w.params attr) (.str attr (s2.toks + 1)) v es) (n := putN attr es k) b2.g.k hI rfl h2 hp ht hh (by rw [lookIn_dict, hno]; rfl) (by rw [putName_dict]) rfl hput fun h' hg' hs' => ?_)
  obtain ⟨B, S2, O⟩ := ow_change (tk := s2.toks + 1 + 1) (sp' := SD (fs ++ [(attr, t)])) b2 hP2 hi h2 hs' hg' ⟨_, _, rfl, att_put h4 hf (t.mono (sub_vw (keeps_hs k2)) (lift0 (fun r => lift t hL _ _ r k1) hv))⟩ (fun v z => by cases z)
  exact ⟨m, q, B, (Step.of_keeps k12).trans S2, hpost _ _ _ _ O⟩

/-! calls of K's defs and classes, methods -/
theorem starts {es : List Expr} {ts : List T} (h : Evs C n env ρ es ts) : True := trivial
theorem ev_callK {x : Str} {np pos : Pos} {e : Expr} {rest : List Expr} {f : Value} {ts : List T} {t : T} (hf : Ev C n env ρ (.Name x np) (V f)) (hargs : Evs C n env ρ (e :: rest) ts) (hfn : Fn C n f ts t) (hc : keepIn C.K f = true)
    (he : starEach (e :: rest) env = (false, eval e env) :: starEach rest env) (hr : (backTo pos (starEach rest env)).any (·.1) = false) : Ev C n env ρ (.Call (.Name x np) (e :: rest) [] pos) t := fun A m p s st => by
  refine wpAny_Call_Name_kw (wpAny_mono (hf _ _ _ _ st) (fun v s1 x1 => ?_) fun _ _ q => q)
  obtain ⟨k1, rfl⟩ := x1
  refine callWith_K (h₀ := s1.heap) (e := e) (rest := rest) (st.keeps k1).g.k hc ?_ he hr
  exact wpAny_mono (hargs A m p s1 pos (st.keeps k1)) (fun vs s2 x2 => ⟨((st.keeps k1).keeps x2.1).g.k, up (keeps_trans k1 x2.1) (hfn A p s2 vs st.a ((st.keeps k1).keeps x2.1).g ((st.keeps k1).keeps x2.1).pin x2.2)⟩) fun _ _ q => q

theorem method_wp {A : Around} {p : Addr → Prop} {s : Shared} {cls : Addr} {fs : List (Str × T)} {name : Str} {f : Addr} {v : Value} {pl : Sem Bool} {Q : Value × List Value → Shared → Prop} (g : GOk C s.heap) (hv : (OB cls fs).P (vw p s.heap) v)
    (hg : plainGet C.K cls name = true) (hf : findIn C.K (.ref cls) name = some (some (.ref f))) (ht : isFn C.K (.ref f) = true) (hn : fs.lookup name = none) (h : Q (.ref f, [v]) s) : wpAny (model C.prog C.w) A (getMethod v name pl) Q noE s := by
  obtain ⟨a, dx, es, k, rfl, h1, h2, h3⟩ := hv
  exact method_fn g.k (inst_of h1 h2) (plainGet_of hg).1 (plainGet_of hg).2 hf (beq_iff_eq.mp ht) (by show (lookIn name (dictOf es k)).map _ = _; rw [lookIn_dict, att_no h3 hn]; rfl) h
theorem ev_method {o e : Expr} {rest : List Expr} {name : Str} {apos pos : Pos} {cls f : Addr} {fs : List (Str × T)} {ts : List T} {t : T} {pl : Sem Bool} (ho : Ev C n env ρ o (OB cls fs)) (hargs : Evs C n env ρ (e :: rest) ts) (hfn : Fn C n (.ref f) (OB cls fs :: ts) t)
    (hg : plainGet C.K cls name = true) (hf : findIn C.K (.ref cls) name = some (some (.ref f))) (ht : isFn C.K (.ref f) = true) (hn : fs.lookup name = none) (hc : keepIn C.K (.ref f) = true)
    (he : starEach (e :: rest) env = (false, eval e env) :: starEach rest env) (hr : (backTo pos (starEach rest env)).any (·.1) = false)
    (hev : eval (.Call (.Attribute o name apos) (e :: rest) [] pos) env = (do
      let ov ← eval o env
      standAt apos.atName
      let (f, first) ← holding [ov] (getMethod ov name pl)
      callWith pos f first (backTo pos (starEach (e :: rest) env)) [])) : Ev C n env ρ (.Call (.Attribute o name apos) (e :: rest) [] pos) t := fun A m p s st => by
  refine MethodCall_ (pl := pl) (wpAny_mono (ho _ _ _ _ st) (fun v s1 x1 => ?_) fun _ _ q => q) hev
  obtain ⟨k1, hv⟩ := x1
  refine method_wp (st.keeps k1).g hv hg hf ht hn ?_
  refine callWith_K (h₀ := s1.heap) (e := e) (rest := rest) (st.keeps k1).g.k hc ?_ he hr
  exact wpAny_mono (hargs A m p s1 pos (st.keeps k1)) (fun vs s2 x2 => ⟨((st.keeps k1).keeps x2.1).g.k, up (keeps_trans k1 x2.1) (hfn A p s2 _ st.a ((st.keeps k1).keeps x2.1).g ((st.keeps k1).keeps x2.1).pin ⟨T.mono _ (sub_vw (keeps_hs x2.1)) hv, x2.2⟩)⟩) fun _ _ q => q
theorem ev_method0 {o : Expr} {name : Str} {apos pos : Pos} {cls f : Addr} {fs : List (Str × T)} {t : T} {pl : Sem Bool} (ho : Ev C n env ρ o (OB cls fs)) (hfn : Fn C n (.ref f) [OB cls fs] t)
    (hg : plainGet C.K cls name = true) (hf : findIn C.K (.ref cls) name = some (some (.ref f))) (ht : isFn C.K (.ref f) = true) (hn : fs.lookup name = none) (hc : keepIn C.K (.ref f) = true)
    (hev : eval (.Call (.Attribute o name apos) [] [] pos) env = (do
      let ov ← eval o env
      standAt apos.atName
      let (f, first) ← holding [ov] (getMethod ov name pl)
      callWith pos f first (backTo pos (starEach [] env)) [])) : Ev C n env ρ (.Call (.Attribute o name apos) [] [] pos) t := fun A m p s st => by
  refine MethodCall_ (pl := pl) (wpAny_mono (ho _ _ _ _ st) (fun v s1 x1 => ?_) fun _ _ q => q) hev
  obtain ⟨k1, hv⟩ := x1
  refine method_wp (st.keeps k1).g hv hg hf ht hn ?_
  exact callWith_K0 (st.keeps k1).g.k hc (up k1 (hfn A p s1 _ st.a (st.keeps k1).g (st.keeps k1).pin ⟨hv, trivial⟩))
end
end Mine

end
/-! Fw17 -/
section
open PySem PySem.W PyProof.Rows PySem.Calls
set_option maxRecDepth 100000
set_option linter.all false
namespace Mine
section
variable {C : Cx} {n : Nat} {env : Env} {ρ ρr : Rho} {ow : Str → Prop} {Pre : Assn} {R : Po} {L : T → Prop} {F : Owns}

def FnI (C : Cx) (n : Nat) (f cls : Addr) (ts : List T) (fs : List (Str × T)) : Prop := ∀ A p s vs x dx, AOk n A → GOk C s.heap → Pin p s.heap → Fa (vw (fun d => p d ∨ d = dx) s.heap) ts vs → s.heap.get? x = some (instObj cls dx) → ¬ p x → x ≠ dx →
  s.heap.get? dx = some emptyDict → ¬ p dx → C.top.get? dx = none →
  codeAny (model C.prog C.w) A (.call (.ref f) ⟨.ref x :: vs, []⟩) (fun r s' => r = .ok (.ret .none) ∧ (∃ h t, s' = { s with heap := h, toks := t }) ∧ (∀ b o, b ≠ dx → s.heap.get? b = some o → s'.heap.get? b = some o) ∧
    ∃ es k, s'.heap.get? dx = some (dictOf es k) ∧ Att (vw (fun d => p d ∨ d = dx) s'.heap) fs es) s

def FI (dx : Addr) (fs : List (Str × T)) : Assn := ⟨fun m q pc h => q dx ∧ ∃ o, h.get? dx = some o ∧ (SD fs).P (vw (pa q pc) h) o, fun k kq ⟨h1, o, h2, h3⟩ => ⟨h1, o, kq _ _ h1 h2, (SD fs).mono k h3⟩⟩
theorem imp_fi {dx : Addr} {fs : List (Str × T)} (h : (dx, SD fs) ∈ F) : Imp (Ow env ρ F) (FI dx fs) := fun m q pc hh z => let ⟨h1, h2, _⟩ := z.o _ _ h; ⟨h1, h2⟩

theorem fni_plain {a : Addr} {fd : FuncData} {oc : Value} {od : Option Addr} {sl : Array (Option Value)} {body : List Stmt} {cls : Addr} {ts : List T} {fs : List (Str × T)} {names : List Str}
    (ho : C.K.lookup a = some ⟨oc, od, .func fd, sl⟩) (hcd : codeIn C.K fd.code fd.qualname = true) (hbody : fd.body = .stmts body)
    (hbind : ∀ (x : Value) (vs : List Value), vs.length = ts.length → bindArgs fd ⟨x :: vs, []⟩ = pure (((("self" : Str) :: names).zip (x :: vs)))) (hlen : names.length = ts.length) (hnd : (("self" : Str) :: names).Nodup)
    (hcell : ∀ x ∈ fd.scope.names, x.2 ≠ .cell) (hfree : ∀ x ∈ fd.scope.names, x.2 ≠ .free) (hloc : ∀ x ∈ (("self" : Str) :: names), fd.scope.names.lookup x = some .local)
    (hco : fd.scope.isCoroutine = false) (hgen : fd.scope.isGenerator = false) (hk : fd.scope.kind = .function) (hgl : fd.globals = mainGlobals) (hbu : fd.builtins = builtinsNs) (hclo : fd.closure = [])
    (h : ∀ L x dx, Xs C n (callEnv fd L a) (fun _ => True) (Ow (callEnv fd L a) (("self", IN x cls dx) :: names.zip ts) [(dx, SD [])]) body { nx := FI dx fs }) : FnI C (n + 1) a cls ts fs := by
  intro A p s vs x dx hA hG hp hf hx hpx hxd hdx hpd htop
  have hvl := hf.length
  refine codeAny_call_def (fd := fd) (body := body) (binds := (("self" : Str) :: names).zip (.ref x :: vs)) hA.room (hG.k _ _ ho) rfl hG.nolimit (codeRec_of hG.k hcd) hbody (BindsTo.of_eq (hbind _ vs hvl)) hcell (fun y hy => hloc _ (List.of_mem_zip hy).1) (fun h0 hns hk0 => ?_) hco hgen hk
  have hL : s.heap.get? s.heap.objs.size = none := get_none (Nat.le_refl _)
  have hkx : ∀ x, (callEnv fd s.heap.objs.size a).kindOf x ≠ some .cell ∧ (callEnv fd s.heap.objs.size a).kindOf x ≠ some .free := fun x =>
    ⟨fun e => hcell _ (lookup_mem (show fd.scope.names.lookup x = some .cell from e)) rfl, fun e => hfree _ (lookup_mem (show fd.scope.names.lookup x = some .free from e)) rfl⟩
  have hdL : dx ≠ s.heap.objs.size := by rintro rfl; rw [hL] at hdx; cases hdx
  have hxL : x ≠ s.heap.objs.size := by rintro rfl; rw [hL] at hx; cases hx
  have base : Base C n (callEnv fd s.heap.objs.size a) (A.deeper (callEnv fd s.heap.objs.size a)) (fun _ => True) (fun y => ((("self" : Str) :: names).zip (.ref x :: vs)).reverse.lookup y) (fun b => b = s.heap.objs.size ∨ b = dx) p { s with heap := h0, toks := s.toks + ((("self" : Str) :: names).zip (.ref x :: vs)).length } := by
    refine ⟨hA.deeper _, ⟨hk, hgl, hbu, ⟨_, hns, fun _ _ => rfl⟩, fun x hx => hx.elim (fun e => absurd e (hkx x).1) fun e => absurd e (hkx x).2⟩, ⟨.inl rfl, fun x y c e => ?_, fun x c _ e => ?_⟩, hG.keeps hk0, fun b hb => ?_, fun b hb z => ?_, fun b hb => ?_⟩
    · have e' : fd.closure.lookup x = some c := e
      rw [hclo] at e'; cases e'
    · have e' : fd.closure.lookup x = some c := e
      rw [hclo] at e'; cases e'
    · rcases hb with hb | rfl | rfl
      · exact (hp.keeps hk0) b hb
      · obtain ⟨o, _, _, e, _⟩ := hns; exact ⟨o, e⟩
      · exact ⟨_, hk0 _ _ hdx⟩
    · rcases hb with rfl | rfl
      · exact hp.size z
      · exact hpd z
    · rcases hb with rfl | rfl
      · cases e : C.top.get? s.heap.objs.size with
        | none => rfl
        | some o => rw [hG.sub _ _ e] at hL; cases hL
      · exact htop
  have sub : Sub (vw (fun d => p d ∨ d = dx) s.heap) (vw (pa (fun b => b = s.heap.objs.size ∨ b = dx) p) h0) := vw_sub fun b o q e => ⟨fun z => by
    rcases z with z | rfl | rfl
    · exact q (.inl z)
    · rw [hL] at e; cases e
    · exact q (.inr rfl), hk0 b o e⟩
  have hvars : Vars (fun y => ((("self" : Str) :: names).zip (.ref x :: vs)).reverse.lookup y) (vw (pa (fun b => b = s.heap.objs.size ∨ b = dx) p) h0) (("self", IN x cls dx) :: names.zip ts) := by
    refine fnc_plain.vars_zip (names := ("self" : Str) :: names) (ts := IN x cls dx :: ts) (vs := .ref x :: vs) hnd ⟨⟨rfl, ⟨fun z => ?_, hk0 _ _ hx⟩⟩, hf.mono sub⟩
    rcases z with z | z | z
    · exact hpx z
    · exact hxL z
    · exact hxd z
  have hpre : (Ow (callEnv fd s.heap.objs.size a) (("self", IN x cls dx) :: names.zip ts) [(dx, SD [])]).P (fun y => ((("self" : Str) :: names).zip (.ref x :: vs)).reverse.lookup y) (fun b => b = s.heap.objs.size ∨ b = dx) p h0 := by
    refine ⟨hvars, fun b sp hb => ?_, by simp⟩
    rw [List.mem_singleton] at hb
    cases hb
    refine ⟨.inr rfl, ⟨_, hk0 _ _ hdx, [], 0, rfl, trivial⟩, ⟨hdL, fun y c e => ?_, fun y hy e => ?_⟩⟩
    · have e' : fd.closure.lookup y = some c := e
      rw [hclo] at e'; cases e'
    · unfold tgt at e
      unfold canPut at hy
      by_cases q : (callEnv fd s.heap.objs.size a).kindOf y = some .local
      · rw [if_pos q] at e; exact hdL e
      · have q2 : (callEnv fd s.heap.objs.size a).kindOf y = some .cell := by simpa [q] using hy
        exact (hkx y).1 q2
  refine wpAny_mono (h s.heap.objs.size x dx _ _ _ _ _ base hpre) (fun f s' ⟨m', q', b', st', hpost⟩ => ?_) fun _ _ q => q.elim
  cases f with
  | next =>
    obtain ⟨h1, o, h2, es, k, rfl, h3⟩ := hpost
    refine ⟨rfl, ?_, fun b o hb e => st'.keep b o (by rintro (rfl | rfl); (· rw [hL] at e; cases e); exact hb rfl) (hk0 b o e), es, k, h2, h3.mono (vw_less fun d hd => hd.elim .inl fun z => .inr (z ▸ h1))⟩
    obtain ⟨h2, t2, e2⟩ := st'.rest
    exact ⟨s'.heap, s'.toks, by rw [e2]⟩
  | ret v => exact hpost.elim
  | brk => exact hpost.elim
  | cont => exact hpost.elim

theorem AOk.tc {A : Around} {cls : Addr} {vs : List Value} (x : AOk (n + 1) A) : AOk n (A.under (.builtin "type.__call__" ⟨.ref cls :: vs, []⟩)) := by
  have e1 : (A.under (.builtin "type.__call__" ⟨.ref cls :: vs, []⟩)).depth = A.depth + 1 := rfl
  have e2 : (A.under (.builtin "type.__call__" ⟨.ref cls :: vs, []⟩)).units = A.units + 1 := rfl
  exact ⟨x.h, by rw [e1]; have := x.d; omega, by rw [e2]; have := x.u; omega⟩
theorem fn_new {cls f : Addr} {ts : List T} {fs : List (Str × T)} (h : FnI C n f cls ts fs) (hm : makesIn C.K cls = true) (hi : findIn C.K (.ref cls) "__init__" = some (some (.ref f))) (hf : typeIn C.K (.ref f) = some (.type "function")) : Fn C (n + 1) (.ref cls) ts (OB cls fs) := by
  intro A p s vs hA hG hp hfa
  obtain ⟨hh, g, d, t, os⟩ := s
  refine wpAny_call (make_core (makes_of hG.k hm) (looks_findIn hG.k hi) (fun self => bind_fn hG.k self hf) (.inl rfl) ?_)
  have ek : Hs hh ((hh.push emptyDict).push (instObj cls hh.objs.size)) := fun _ _ e => Heap.get?_push_of_some _ (Heap.get?_push_of_some _ e)
  have hsz : (hh.push emptyDict).objs.size = hh.objs.size + 1 := Heap.size_push ..
  have hx : ((hh.push emptyDict).push (instObj cls hh.objs.size)).get? (hh.objs.size + 1) = some (instObj cls hh.objs.size) := by rw [← hsz]; exact Heap.get?_push_size _ rfl
  have hdx : ((hh.push emptyDict).push (instObj cls hh.objs.size)).get? hh.objs.size = some emptyDict := Heap.get?_push_of_some _ (Heap.get?_push_size _ rfl)
  have n0 : hh.get? hh.objs.size = none := get_none (Nat.le_refl _)
  have n1 : hh.get? (hh.objs.size + 1) = none := get_none (Nat.le_succ _)
  have npx : ¬ p (hh.objs.size + 1) := hp.fresh n1
  have npd : ¬ p hh.objs.size := hp.fresh n0
  refine codeAny_mono (h _ p _ vs (hh.objs.size + 1) hh.objs.size hA.tc (hG.keeps ek) (hp.keeps ek) (hfa.mono (vw_sub fun b o q e => ⟨fun z => z.elim q (fun z => by rw [z, n0] at e; cases e), ek _ _ e⟩)) hx npx (Nat.succ_ne_self _) hdx npd ?_) fun r s' z => ?_
  · cases e : C.top.get? hh.objs.size with
    | none => rfl
    | some o => rw [hG.sub _ _ e] at n0; cases n0
  · obtain ⟨rfl, ⟨h2, t2, rfl⟩, hk, es, k, he, ha⟩ := z
    refine ⟨rfl, ⟨h2, t2, rfl, fun b o e => hk b o (by rintro rfl; rw [n0] at e; cases e) (ek _ _ e)⟩, hh.objs.size + 1, hh.objs.size, es, k, rfl, ⟨npx, hk _ _ (Nat.succ_ne_self _) hx⟩, ⟨npd, he⟩, ha.mono (vw_less fun d hd => .inl hd)⟩
end
end Mine

end
/-! Fw18 -/
section
open PySem PySem.W PyProof.Rows PySem.Calls
set_option maxRecDepth 100000
set_option linter.all false
namespace Mine
section
variable {C : Cx} {n : Nat} {env : Env} {ρ ρr : Rho} {ow : Str → Prop} {Pre : Assn} {R : Po} {L : T → Prop} {F : Owns}

/-- a source and a target, turn by turn -/
def ItG (C : Cx) (A : Around) (target : Expr) (ts : List T) (p0 : Addr → Prop) (h1 h2 : Heap) (Ia : Addr) : Prop := ∃ (fp wr : List Addr) (St : Nat → Heap → Prop),
  (∀ b ∈ wr, b ∈ fp) ∧ (∀ i h h', St i h → (∀ b ∈ fp, ∀ o, h.get? b = some o → h'.get? b = some o) → St i h') ∧ St 0 h2 ∧ (∀ b ∈ wr, h1.get? b = none) ∧ (∀ i h, St i h → ∀ b ∈ fp, ∃ o, h.get? b = some o) ∧ (∀ b ∈ fp, ¬ p0 b) ∧
  (∀ i t (s : Shared) (p : Addr → Prop) (N : Shared → Prop) (K : Value → Shared → Prop) (E : Value → Shared → Prop), ts[i]? = some t → St i s.heap → Pin p s.heap → (∀ b ∈ wr, p b) → Sub (vw p0 h1) (vw p s.heap) →
    (∀ v h' tk, t.P (vw p h') v → St (i + 1) h' → (∀ b o, b ∉ wr → s.heap.get? b = some o → h'.get? b = some o) → K v { s with heap := h', toks := tk }) →
    wpAny (model C.prog C.w) A (pyNext (.ref Ia)) (fun r s1 => match r with | none => N s1 | some v => wpAny (model C.prog C.w) A (letOwnedTupleGo target (.ref Ia) v) (fun _ s2 => K v s2) E s1) E s) ∧
  (∀ (s : Shared) (N : Shared → Prop) (K : Value → Shared → Prop) (E : Value → Shared → Prop), St ts.length s.heap → (∀ h' tk, (∀ b o, b ∉ wr → s.heap.get? b = some o → h'.get? b = some o) → N { s with heap := h', toks := tk }) →
    wpAny (model C.prog C.w) A (pyNext (.ref Ia)) (fun r s1 => match r with | none => N s1 | some v => wpAny (model C.prog C.w) A (letOwnedTupleGo target (.ref Ia) v) (fun _ s2 => K v s2) E s1) E s)
def IoP (C : Cx) (n : Nat) (env : Env) (ow : Str → Prop) (Pre : Assn) (target iter : Expr) (ts : List T) : Prop := ∀ A m q pc s, Base C n env A ow m q pc s → Pre.P m q pc s.heap →
  wpAny (model C.prog C.w) A (eval iter env) (fun x s1 => Keeps s s1 ∧ wpAny (model C.prog C.w) A (pyIter x) (fun it s2 => Keeps s1 s2 ∧ ∃ Ia, it = .ref Ia ∧ ItG C A target ts (pa q pc) s1.heap s2.heap Ia) noE s1) noE s
def Asg (C : Cx) (n : Nat) (env : Env) (ow : Str → Prop) (target : Expr) (P : Assn) (t : T) (Q : Assn) : Prop := ∀ A m q pc s v, Base C n env A ow m q pc s → P.P m q pc s.heap → t.P (vw (pa q pc) s.heap) v →
  wpAny (model C.prog C.w) A (assign target env v) (fun _ s' => ∃ m', Base C n env A ow m' q pc s' ∧ Step q s s' q ∧ Q.P m' q pc s'.heap) noE s
theorem asg_name {x : Str} {px : Pos} {t : T} {P Q : Assn} (hx : canPut env x = true) (ho : env.kindOf x = some .cell → ow x) (h : Puts env ow P x t Q) : Asg C n env ow (.Name x px) P t Q := fun A m q pc s v b hP ht =>
  wpAny_assign_Name (store_base b hx ho fun h' tk b' hs hq => ⟨_, b', ⟨⟨_, _, rfl⟩, fun d o hd e => hs.extBut d o (by rintro rfl; exact hd hq) e, fun _ z => z, fun _ z => .inl z⟩, h _ _ _ _ _ _ b.w hq hP ht fun d o hd e => hs.extBut d o hd e⟩)
theorem itg_of {A : Around} {x : Str} {px : Pos} {ts : List T} {p0 : Addr → Prop} {h1 h2 : Heap} {Ia : Addr} (h : Itr C A ts p0 h1 h2 Ia) : ItG C A (.Name x px) ts p0 h1 h2 Ia := by
  obtain ⟨fp, wr, P, St, W, hst, hty, hwf, hfs, hwe, hfp, hfc⟩ := h
  refine ⟨fp, wr, St, W.sub, W.frame, hst, hwf, hwe, hfp, ?_, ?_⟩
  · intro i t s p N K E ht hSt hpin hwp hsub hK
    have hlt : i < ts.length := by
      rcases Nat.lt_or_ge i ts.length with z | z
      · exact z
      · rw [List.getElem?_eq_none z] at ht; cases ht
    refine W.item i _ _ _ hlt hSt fun v h₁ tk₁ hPv hSt₁ hk₁ => wpAny_pure (a := ()) (hK v h₁ tk₁ (t.mono (fun b o z => ?_) (hty i v t hPv ht)) hSt₁ hk₁)
    have z' := hsub b o z
    exact ⟨z'.1, hk₁ b o (fun q => z'.1 (hwp b q)) z'.2⟩
  · intro s N K E hSt hN
    exact W.done _ _ _ hSt fun h₁ tk₁ hk₁ => hN h₁ tk₁ hk₁
theorem iop_of {x : Str} {px : Pos} {iter : Expr} {ts : List T} (hρ : Imp Pre (LV ρ)) (hio : Io C n env ρ iter ts) : IoP C n env ow Pre (.Name x px) iter ts := fun A m q pc s b hP =>
  wpAny_mono (hio _ _ _ _ (b.sit (hρ _ _ _ _ hP))) (fun v s1 x1 => ⟨x1.1, wpAny_mono x1.2 (fun it s2 ⟨k2, Ia, e, h⟩ => ⟨k2, Ia, e, itg_of h⟩) fun _ _ z => z⟩) fun _ _ z => z

theorem x_forG {target : Expr} {pos : Pos} {iter : Expr} {body : List Stmt} {ts : List T} {Inv Bod : Nat → Assn}
    (hio : IoP C n env ow Pre target iter ts) (h0 : Imp Pre (Inv 0))
    (hput : ∀ i t, ts[i]? = some t → Asg C n env ow target (Inv i) t (Bod i))
    (hb : ∀ i t, ts[i]? = some t → Xs C n env ow (Bod i) body { nx := Inv (i + 1), cn := Inv (i + 1), bk := R.nx, rt := R.rt })
    (hN : Imp (Inv ts.length) R.nx) (hs : ∀ v, foldedSetIterable iter env v = pure v) : X1 C n env ow Pre (.For target iter body [] pos) R := fun A m q pc s b hP => by
  refine wpAny_For (wpAny_mono (hio _ _ _ _ _ b hP) (fun v s1 x1 => ?_) fun _ _ z => z) hs
  obtain ⟨k1, x1⟩ := x1
  refine wpAny_mono x1 (fun it s2 x2 => ?_) fun _ _ z => z
  obtain ⟨k2, Ia, rfl, fp, wr, St, Wsub, Wframe, hst, hwf, hwe, hfp, Wturn, Wdone⟩ := x2
  have b1 := b.keeps k1
  let pc' : Addr → Prop := fun b => pc b ∨ b ∈ wr
  have k2s := keeps_hs k2
  have b2 : Base C n env A ow m q pc' s2 := by
    have b2 := b1.keeps k2
    refine ⟨b2.a, b2.f, b2.w, b2.g, ?_, ?_, b2.top⟩
    · rintro d ((hd | hd) | hd)
      · exact b2.pin d (.inl hd)
      · exact hwe _ _ hst d (Wsub _ hd)
      · exact b2.pin d (.inr hd)
    · rintro d hd (hd' | hd')
      · exact b2.dis d hd hd'
      · exact hfp d (Wsub _ hd') (.inr hd)
  have hsub : ∀ {q' : Addr → Prop} {h : Heap}, (∀ b, q' b → q b ∨ s1.heap.get? b = none) → (∀ b o, ¬ q b → s1.heap.get? b = some o → h.get? b = some o) → Sub (vw (pa q pc) s1.heap) (vw (pa q' pc') h) := by
    intro q' h h1 h2
    refine vw_sub fun d o hd e => ⟨?_, h2 d o (fun z => hd (.inr z)) e⟩
    rintro ((z | z) | z)
    · exact hd (.inl z)
    · rw [hwf d z] at e; cases e
    · rcases h1 d z with z | z
      · exact hd (.inr z)
      · rw [z] at e; cases e
  have hP1 : (Inv 0).P m q pc s1.heap := h0 _ _ _ _ (Pre.mono (keeps_hs k1) hP)
  have hcx : ∀ y c, env.cells.lookup y = some c → (env.kindOf y = some .cell ∨ env.kindOf y = some .free) → ∃ o, s1.heap.get? c = some o := fun y c e hk => by
    obtain ⟨c', e1, o, e2, _⟩ := b1.f.cel y hk
    rw [e] at e1; cases e1; exact ⟨o, e2⟩
  refine codeAny_forLoop_any (fun k s' => ∃ m' q' i, i ≤ ts.length ∧ k = ts.length + 1 - i ∧ Base C n env A ow m' q' pc' s' ∧ Step q s1 s' q' ∧ St i s'.heap ∧ (Inv i).P m' q' pc' s'.heap ∧ ∀ b ∈ fp, ¬ q' b) ?_ (ts.length + 1)
    ⟨m, q, 0, Nat.zero_le _, rfl, b2, .of_keeps k2, hst, (Inv 0).mo (hsub (fun _ h => .inl h) fun d o _ e => k2s d o e) (fun d o _ e => k2s d o e) hP1, fun d hd hq => hfp d hd (.inr hq)⟩
  rintro k s' ⟨m', q', i, hi, rfl, B, S1, hSt, hI, hfq⟩
  by_cases hlt : i < ts.length
  · obtain ⟨t, ht⟩ : ∃ t, ts[i]? = some t := ⟨_, List.getElem?_eq_getElem hlt⟩
    refine Wturn i t _ (pa q' pc') _ _ _ ht hSt B.pin (fun d hd => .inl (.inr hd)) (hsub S1.fresh S1.keep) fun v h₁ tk₁ hPv hSt₁ hk₁ => ?_
    have B₁ : Base C n env A ow m' q' pc' { s' with heap := h₁, toks := tk₁ } := by
      have B₁ : Base C n env A ow m' q' pc { s' with heap := h₁, toks := tk₁ } := B.turn ⟨_, _, rfl⟩ hk₁ hwf (fun d hd z => by obtain ⟨o, e⟩ := b1.pin d (.inl z); rw [hwf d hd] at e; cases e) hcx b1.g.sub
      exact ⟨B₁.a, B₁.f, B₁.w, B₁.g, fun d hd => hd.elim (fun z => z.elim (fun z => B₁.pin d (.inl z)) fun z => hwe _ _ hSt₁ d (Wsub _ z)) fun z => B₁.pin d (.inr z), B.dis, B₁.top⟩
    have keep₁ : ∀ d o, ¬ q d → s1.heap.get? d = some o → h₁.get? d = some o := fun d o hd e => hk₁ d o (fun z => by rw [hwf d z] at e; cases e) (S1.keep d o hd e)
    have hI₁ : (Inv i).P m' q' pc' h₁ := (Inv i).mo (vw_sub fun d o hd e => ⟨hd, hk₁ d o (fun z => hd (.inl (.inr z))) e⟩) (fun d o hd e => hk₁ d o (fun z => B.dis d hd (.inr z)) e) hI
    refine wpAny_mono (hput i t ht _ _ _ _ _ _ B₁ hI₁ hPv) (fun _ s3 x3 => ?_) fun _ _ z => z.elim
    obtain ⟨m3, B₂, S3, hB₂⟩ := x3
    have S₂ : Step q s1 s3 q' := by
      refine ⟨?_, fun d o hd e => S3.keep d o ?_ (keep₁ d o hd e), S1.grow, S1.fresh⟩
      · obtain ⟨h, t, e⟩ := S1.rest
        obtain ⟨h3, t3, e3⟩ := S3.rest
        exact ⟨h3, t3, by rw [e3, e]⟩
      · intro hq
        rcases S1.fresh _ hq with z | z
        · exact hd z
        · rw [z] at e; cases e
    have St₂ : St (i + 1) s3.heap := Wframe _ _ _ hSt₁ fun d hd o e => S3.keep d o (hfq d hd) e
    refine wpAny_mono (hb i t ht _ _ _ _ _ B₂ hB₂) (fun f s4 x4 => ?_) fun _ _ z => z.elim
    obtain ⟨m4, q4, B4, S4, hp4⟩ := x4
    have hfq4 : ∀ b ∈ fp, ¬ q4 b := fun d hd z => by
      rcases S4.fresh d z with z | z
      · exact hfq d hd z
      · obtain ⟨o, e⟩ := hwe _ _ St₂ d hd
        rw [z] at e; cases e
    have nxt : (Inv (i + 1)).P m4 q4 pc' s4.heap → ∃ k', k' < ts.length + 1 - i ∧ ∃ m' q' j, j ≤ ts.length ∧ k' = ts.length + 1 - j ∧ Base C n env A ow m' q' pc' s4 ∧ Step q s1 s4 q' ∧ St j s4.heap ∧ (Inv j).P m' q' pc' s4.heap ∧ ∀ b ∈ fp, ¬ q' b := fun z =>
      ⟨ts.length + 1 - (i + 1), by omega, m4, q4, i + 1, hlt, rfl, B4, S₂.trans S4, Wframe _ _ _ St₂ fun d hd o e => S4.keep d o (hfq d hd) e, z, hfq4⟩
    have back : Base C n env A ow m4 q4 pc s4 := ⟨B4.a, B4.f, B4.w, B4.g, fun d hd => B4.pin d (hd.elim (fun z => .inl (.inl z)) .inr), fun d hd z => B4.dis d hd (.inl z), B4.top⟩
    cases f with
    | next => exact nxt hp4
    | cont => exact nxt hp4
    | brk => exact ⟨m4, q4, back, (Step.of_keeps k1).trans (S₂.trans S4), R.nx.mo (vw_less fun d hd => hd.elim (fun z => .inl (.inl z)) .inr) (fun _ _ _ e => e) hp4⟩
    | ret v => exact ⟨m4, q4, back, (Step.of_keeps k1).trans (S₂.trans S4), R.rt.mono (vw_less fun d hd => .inl hd) hp4⟩
  · have hie : i = ts.length := by omega
    subst hie
    refine Wdone _ _ _ _ hSt fun h₁ tk₁ hk₁ => ?_
    have back : Base C n env A ow m' q' pc { s' with heap := h₁, toks := tk₁ } := B.turn ⟨_, _, rfl⟩ hk₁ hwf (fun d hd z => by obtain ⟨o, e⟩ := b1.pin d (.inl z); rw [hwf d hd] at e; cases e) hcx b1.g.sub
    refine wpAny_execs_nil ⟨m', q', back, (Step.of_keeps k1).trans ⟨?_, fun d o hd e => hk₁ d o (fun z => by rw [hwf d z] at e; cases e) (S1.keep d o hd e), S1.grow, S1.fresh⟩, hN _ _ _ _ ((Inv ts.length).mo (vw_sub fun d o hd e => ⟨?_, hk₁ d o (fun z => hd (.inl (.inr z))) e⟩) (fun d o hd e => hk₁ d o (fun z => B.dis d hd (.inr z)) e) hI)⟩
    · obtain ⟨h, t, e⟩ := S1.rest
      exact ⟨h₁, tk₁, by rw [e]⟩
    · exact fun z => hd (z.elim (fun z => .inl (.inl z)) .inr)

end
end Mine

end
/-! Fw19 -/
section
open PySem PySem.W PyProof.Rows PySem.Calls
set_option maxRecDepth 100000
set_option linter.all false
namespace Mine
section
variable {C : Cx} {n : Nat} {env : Env} {ρ ρr : Rho} {ow : Str → Prop} {Pre : Assn} {R : Po} {L : T → Prop} {F : Owns}

theorem asg_pair {x y : Str} {px py pt : Pos} {k : Nat} {t0 t1 : T} {P Q W : Assn} (hx : canPut env x = true) (hox : env.kindOf x = some .cell → ow x) (hy : canPut env y = true) (hoy : env.kindOf y = some .cell → ow y)
    (h1 : Puts env ow P x t0 Q) (h2 : Puts env ow Q y t1 W) : Asg C n env ow (.Tuple [.Name x px, .Name y py] k pt) P (TU [t0, t1]) W := fun A m q pc s v b hP ht => by
  obtain ⟨a, vs, j, rfl, hg, hf⟩ := ht
  match vs, hf with
  | [v0, v1], hf =>
    refine wpAny_assign_Tuple b.a.h (isTuple_of hg) rfl rfl fun h₃ hx₃ => ?_
    have hk3 : Hs s.heap h₃ := fun d o e => hx₃ d o (Nat.ne_of_lt (Heap.lt_size e)) e
    have K3 : Keeps s { s with heap := h₃ } := keeps_mk hk3
    have b3 := b.keeps K3
    show wpAny _ _ (do holding [v1] (assign (.Name x px) env v0); do holding [] (assign (.Name y py) env v1); pure ()) _ _ _
    refine wpAny_bind (wpAny_holding (wpAny_assign_Name (store_base b3 hx hox fun h' tk b' hs hq => ?_)))
    refine wpAny_bind (wpAny_holding (wpAny_assign_Name (store_base b' hy hoy fun h'' tk' b'' hs' hq' => wpAny_pure ?_)))
    have e0 : t0.P (vw (pa q pc) h₃) v0 := t0.mono (sub_vw hk3) hf.1
    have e1 : t1.P (vw (pa q pc) h') v1 := t1.mono (vw_sub fun d o hd e => ⟨hd, hs.extBut d o (by rintro rfl; exact hd (.inr hq)) (hk3 _ _ e)⟩) hf.2.1
    have q1 := h1 _ _ _ _ _ _ b3.w hq (P.mono hk3 hP) e0 fun d o hd e => hs.extBut d o hd e
    have q2 := h2 _ _ _ _ _ _ b'.w hq' q1 e1 fun d o hd e => hs'.extBut d o hd e
    exact ⟨_, b'', (Step.of_keeps K3).trans (Step.trans (q1 := q) ⟨⟨_, _, rfl⟩, fun d o hd e => hs.extBut d o (by rintro rfl; exact hd hq) e, fun _ z => z, fun _ z => .inl z⟩ ⟨⟨_, _, rfl⟩, fun d o hd e => hs'.extBut d o (by rintro rfl; exact hd hq') e, fun _ z => z, fun _ z => .inl z⟩), q2⟩

/-- the turns over a list of tuples -/
theorem itg_tups {A : Around} {p : Addr → Prop} {s : Shared} {ts : List T} {a : Addr} {vs : List Value} {k : Nat} {elts : List Expr} {x1 : Nat} {pt : Pos} (hA : A.handled = none) (hp : Pin p s.heap) (hg : vw p s.heap a (lst vs k)) (hf : Fa (vw p s.heap) ts vs)
    (hr : ∀ t ∈ ts, ∀ g v, t.P g v → ∃ T, v = .ref T) :
    wpAny (model C.prog C.w) A (pyIter (.ref a)) (fun it s2 => Keeps s s2 ∧ ∃ Ia, it = .ref Ia ∧ ItG C A (.Tuple elts x1 pt) ts p s.heap s2.heap Ia) noE s := by
  have hl := isList_of hg
  have hlt := Heap.lt_size hg.2
  have hlen := hf.length
  have n0 : s.heap.get? s.heap.objs.size = none := get_none (Nat.le_refl _)
  have W := Walks.list (prog := C.prog) (w := C.w) (A := A) hA s.heap.objs.size a (Nat.ne_of_lt hlt) vs.toArray
  have hsz : vs.toArray.size = ts.length := by simp [hlen]
  refine wpAny_pyIter_list hl ⟨⟨_, _, rfl, fun _ _ e => Heap.get?_push_of_some _ e⟩, _, rfl, [s.heap.objs.size, a], [s.heap.objs.size], fun i h => h.IsListIter s.heap.objs.size a i ∧ h.IsList a vs.toArray, fun b hb => ?_, W.frame, ⟨⟨_, Heap.get?_push_size _ rfl, rfl, rfl⟩, hl.push _⟩, ?_, ?_, ?_, ?_, ?_⟩
  · rw [List.mem_singleton.mp hb]; exact .head _
  · intro b hb
    rw [List.mem_singleton.mp hb]; exact n0
  · intro i h st b hb
    obtain ⟨⟨o, e, _⟩, o2, e2, _⟩ := st
    rcases List.mem_cons.mp hb with rfl | hb
    · exact ⟨o, e⟩
    · rw [List.mem_singleton.mp hb]; exact ⟨o2, e2⟩
  · intro b hb
    rcases List.mem_cons.mp hb with rfl | hb
    · exact hp.size
    · rw [List.mem_singleton.mp hb]; exact hg.1
  · intro i t s' p' N K E ht hSt hpin hwp hsub hK
    have hlt' : i < ts.length := by
      rcases Nat.lt_or_ge i ts.length with z | z
      · exact z
      · rw [List.getElem?_eq_none z] at ht; cases ht
    refine W.item i _ _ _ (by rw [hsz]; exact hlt') hSt fun v h₁ tk₁ hPv hSt₁ hk₁ => ?_
    obtain ⟨v', e, hpv⟩ := hf.get ht
    have hv' : vs[i]? = some v := by simpa using hPv
    rw [hv'] at e; cases e
    obtain ⟨T, rfl⟩ := hr t (List.mem_of_getElem? ht) _ _ hpv
    refine wpAny_letOwnedTupleGo_listiter hSt₁.1 (hK _ h₁ tk₁ (t.mono (fun b o z => ?_) hpv) hSt₁ hk₁)
    have z' := hsub b o z
    exact ⟨z'.1, hk₁ b o (fun q => z'.1 (hwp b q)) z'.2⟩
  · intro s' N K E hSt hN
    exact W.done _ _ _ (hsz ▸ hSt) fun h₁ tk₁ hk₁ => hN h₁ tk₁ hk₁
theorem iop_tups {iter : Expr} {ts : List T} {elts : List Expr} {x1 : Nat} {pt : Pos} (hρ : Imp Pre (LV ρ)) (he : Ev C n env ρ iter (LL ts)) (hr : ∀ t ∈ ts, ∀ g v, t.P g v → ∃ T, v = .ref T) : IoP C n env ow Pre (.Tuple elts x1 pt) iter ts := fun A m q pc s b hP =>
  wpAny_mono (he _ _ _ _ (b.sit (hρ _ _ _ _ hP))) (fun v s1 x1 => by
    obtain ⟨k1, a, vs, k, rfl, hg, hf⟩ := x1
    exact ⟨k1, itg_tups b.a.h (b.keeps k1).pin hg hf hr⟩) fun _ _ z => z
end
end Mine

end
/-! Fw20 -/
section
open PySem PySem.W PyProof.Rows PySem.Calls
set_option maxRecDepth 100000
set_option linter.all false
namespace Mine
section
variable {C : Cx} {n : Nat} {env : Env} {ρ ρr : Rho} {ow : Str → Prop} {Pre : Assn} {R : Po} {L : T → Prop} {F : Owns}

def comb (k : Str → Option NameKind) (mL cm : Str → Option Value) : Str → Option Value := fun y => if k y = some .local then mL y else cm y
theorem vars_bind {k : Str → Option NameKind} {g : View} : ∀ {names : List Str} {ts : List T} {vs : List Value} {mL cm : Str → Option Value} {ρ : Rho}, Fa g ts vs → names.length = ts.length → Vars (comb k mL cm) g ρ →
    Vars (comb k (bindL k (names.zip vs) mL) (bindC k (names.zip vs) cm)) g ((names.zip ts).reverse ++ ρ)
  | [], _, _, _, _, _, _, _, h => h
  | x :: names, t :: ts, v :: vs, mL, cm, ρ, hf, hl, h => by
    have step : Vars (comb k (if k x = some .local then fun y => if y = x then some v else mL y else mL) (if k x = some .local then cm else fun y => if y = x then some v else cm y)) g ((x, t) :: ρ) := by
      have e : comb k (if k x = some .local then fun y => if y = x then some v else mL y else mL) (if k x = some .local then cm else fun y => if y = x then some v else cm y) = upd (comb k mL cm) x v := by
        funext y
        unfold comb upd
        by_cases hy : y = x
        · subst hy
          by_cases hk : k y = some .local <;> simp [hk]
        · by_cases hk : k x = some .local <;> simp [hk, hy]
      rw [e]; exact h.put hf.1
    have := vars_bind (names := names) (k := k) hf.2 (by simpa using hl) step
    rw [List.zip_cons_cons, List.zip_cons_cons, List.reverse_cons, List.append_assoc]
    exact this
  | _ :: _, [], [], _, _, _, _, hl, _ => by simp at hl
  | _ :: _, t :: ts, [], _, _, _, hf, _, _ => hf.elim
  | _ :: _, [], _ :: _, _, _, _, hf, _, _ => hf.elim

theorem fnc_cells {a : Addr} {fd : FuncData} {oc : Value} {od : Option Addr} {sl : Array (Option Value)} {body : List Stmt} {ts : List T} {t : T} {names : List Str}
    (ho : C.K.lookup a = some ⟨oc, od, .func fd, sl⟩) (hcd : codeIn C.K fd.code fd.qualname = true) (hbody : fd.body = .stmts body)
    (hbind : ∀ vs : List Value, vs.length = ts.length → bindArgs fd ⟨vs, []⟩ = pure (names.zip vs)) (hlen : names.length = ts.length)
    (hfree : ∀ x ∈ fd.scope.names, x.2 ≠ .free) (hloc : ∀ x ∈ names, fd.scope.names.lookup x = some .local ∨ fd.scope.names.lookup x = some .cell)
    (hco : fd.scope.isCoroutine = false) (hgen : fd.scope.isGenerator = false) (hk : fd.scope.kind = .function) (hgl : fd.globals = mainGlobals) (hbu : fd.builtins = builtinsNs) (hclo : fd.closure = [])
    (h : ∀ L, Xs C n (callEnvC fd L a) (fun _ => True) (LV (names.zip ts).reverse) body { rt := t }) : FnC C (n + 1) (.ref a) ts t := by
  intro A p s vs hA hG hp hf
  have hvl := hf.length
  have hL : s.heap.get? s.heap.objs.size = none := get_none (Nat.le_refl _)
  have cell_yes : ∀ x, fd.scope.names.lookup x = some .cell → ∃ c, (cellsFrom (s.heap.objs.size + 1) fd.scope.names []).lookup x = some c := fun x hx => by
    have := cellsFrom_yes (x := x) (l := fd.scope.names) (h := s.heap.push { cls := .type "dict", data := .dict #[] }) (acc := []) (lookup_mem hx)
    rw [Heap.size_push] at this
    obtain ⟨c, h1, _⟩ := this
    exact ⟨c, h1⟩
  refine codeAny_call_cells (fd := fd) (body := body) (vals := vs) (binds := names.zip vs) hA.room (hG.k _ _ ho) rfl hG.nolimit (codeRec_of hG.k hcd) hbody (hbind vs hvl) hclo (fun x hx => ?_) (fun s1 ic => ?_) hco hgen hk
  · rcases hloc _ (List.of_mem_zip hx).1 with e | e
    · exact .inl e
    · obtain ⟨c, hc⟩ := cell_yes _ e
      exact .inr ⟨e, by rw [hc]; rfl⟩
  have hLe : (callEnvC fd s.heap.objs.size a).locals = s.heap.objs.size := rfl
  have k1 := ic.toInCall.keep
  obtain ⟨hh, tt, e1, _⟩ := ic.done
  have K1 : Keeps s s1 := ⟨hh, tt, e1, by rw [e1] at k1; exact k1⟩
  let E := callEnvC fd s.heap.objs.size a
  have hnofree : ∀ x, E.kindOf x ≠ some .free := fun x e => hfree _ (lookup_mem (show fd.scope.names.lookup x = some .free from e)) rfl
  have nonew : ∀ x c, (x, c) ∈ E.cells → s.heap.get? c = none := fun x c hc => get_none (Nat.le_of_lt (show s.heap.objs.size < c from ic.above x c hc))
  let q : Addr → Prop := fun b => b = s.heap.objs.size ∨ ∃ x, E.cells.lookup x = some b
  have qn : ∀ b, q b → s.heap.get? b = none := by
    rintro b (rfl | ⟨x, hx⟩)
    · exact hL
    · exact nonew x b (mem_of_lookup hx)
  have base : Base C n E (A.deeper E) (fun _ => True) (comb E.kindOf (bindL E.kindOf (names.zip vs) fun _ => none) (bindC E.kindOf (names.zip vs) fun _ => none)) q p s1 := by
    refine ⟨hA.deeper _, ⟨hk, hgl, hbu, ⟨_, ic.toInCall.ns, fun x hx => ?_⟩, fun x hx => ?_⟩, ⟨.inl rfl, fun x y c h1 h2 => name_of_addr ic.apart (mem_of_lookup h1) (mem_of_lookup h2), fun x c _ e => .inr ⟨x, e⟩⟩, hG.keeps k1, fun b hb => ?_, fun b hb z => ?_, fun b hb => ?_⟩
    · unfold comb; rw [if_pos hx]
    · rcases hx with hx | hx
      · obtain ⟨c, hc⟩ := cell_yes x hx
        refine ⟨c, hc, ?_⟩
        have := ic.cell x c hc
        unfold comb
        rw [if_neg (by rw [hx]; decide)]
        exact this
      · exact absurd hx (hnofree x)
    · rcases hb with hb | rfl | ⟨x, hx⟩
      · exact (hp.keeps k1) b hb
      · obtain ⟨o, _, _, e, _⟩ := ic.toInCall.ns; exact ⟨o, e⟩
      · obtain ⟨o, e, _⟩ := ic.cell x b hx; exact ⟨o, e⟩
    · exact hp.fresh (qn b hb) z
    · cases e : C.top.get? b with
      | none => rfl
      | some o => have := hG.sub _ _ e; rw [qn b hb] at this; cases this
  have sub : Sub (vw p s.heap) (vw (pa q p) s1.heap) := vw_sub fun b o hd e => ⟨fun z => z.elim hd (fun z => by rw [qn b z] at e; cases e), k1 b o e⟩
  have hvars := vars_bind (k := E.kindOf) (mL := fun _ => none) (cm := fun _ => none) (ρ := []) (hf.mono sub) hlen Vars.nil
  rw [List.append_nil] at hvars
  refine wpAny_mono (h s.heap.objs.size _ _ _ _ _ base hvars) (fun f s' ⟨m', q', b', st', hpost⟩ => ?_) fun _ _ q => q.elim
  cases f with
  | ret v =>
    refine ⟨v, rfl, ?_, hpost⟩
    obtain ⟨h2, t2, e2⟩ := st'.rest
    refine ⟨s'.heap, s'.toks, by rw [e2, e1], fun b o e => st'.keep b o (fun z => by rw [qn b z] at e; cases e) (k1 b o e)⟩
  | next => exact hpost.elim
  | brk => exact hpost.elim
  | cont => exact hpost.elim
end
end Mine

end
/-! Fw21 -/
section
open PySem PySem.W PyProof.Rows PySem.Calls
set_option maxRecDepth 100000
set_option linter.all false
namespace Mine
section
variable {C : Cx} {n : Nat} {env : Env} {ρ ρr : Rho} {ow : Str → Prop} {Pre : Assn} {R : Po} {L : T → Prop} {F : Owns}

theorem ev_weak {e : Expr} {t u : T} (h : Ev C n env ρ e t) (k : ∀ g v, t.P g v → u.P g v) : Ev C n env ρ e u := fun A m p s st => wpAny_mono (h A m p s st) (fun v s' x => ⟨x.1, k _ _ x.2⟩) fun _ _ z => z
def AND (t u : T) : T := ⟨fun g v => t.P g v ∧ u.P g v, fun k h => ⟨t.mono k h.1, u.mono k h.2⟩⟩

/-- a heap with one address let go -/
theorem drop_addr (h : Heap) (a : Addr) : ∃ h' : Heap, h'.get? a = none ∧ ∀ b, b ≠ a → h'.get? b = h.get? b := by
  refine ⟨h.update a fun o => { o with data := .freed }, ?_, fun b hb => Heap.get?_update_other h _ (fun z => hb z.symm)⟩
  unfold Heap.get? Heap.update
  obtain ⟨objs, l⟩ := h
  simp only [Array.getElem?_modify, if_true]
  cases objs[a]? <;> rfl

/-- what may be taken out of the sight of lists of one's own -/
def L2 (t : T) : Prop := Pu t ∨ ∃ us, t = TU us ∧ ∀ u ∈ us, Pu u
def Lists (F : Owns) : Prop := ∀ a sp, (a, sp) ∈ F → ∃ ts, sp = SL ts
theorem rd_ow2 (hF : Lists F) (hx : ∀ m g, Vars m g ρ → (∀ a sp, (a, sp) ∈ F → ∃ o, g a o ∧ sp.P g o) → Vars m g ρr) : Rd C n env ow (Ow env ρ F) ρr L2 := by
  intro A m q pc s b hP
  have hd : ∀ a sp, (a, sp) ∈ F → ¬ pc a := fun a sp ha => b.dis a (hP.o a sp ha).1
  have sub : Sub (vw (pa q pc) s.heap) (vw (fun d => pa q pc d ∧ ∀ sp, (d, sp) ∉ F) s.heap) := vw_less fun d hd => hd.1
  refine ⟨fun d => pa q pc d ∧ ∀ sp, (d, sp) ∉ F, fun d z => ⟨.inl z, fun sp e => hd d sp e z⟩, ⟨b.a, b.f, ?_, b.g, fun d hd => b.pin d hd.1⟩, ?_⟩
  · refine hx _ _ (hP.v.mono sub) fun a sp ha => ?_
    obtain ⟨_, ⟨o, h4, h5⟩, _⟩ := hP.o a _ ha
    exact ⟨o, ⟨fun z => z.2 sp ha, h4⟩, sp.mono sub h5⟩
  · rintro t (ht | ⟨us, rfl, hu⟩) s' v r kk z
    · exact ht _ _ v z
    · obtain ⟨a, vs, k, rfl, hg, hf⟩ := z
      refine ⟨a, vs, k, rfl, ⟨fun y => hg.1 (y.elim (fun y => .inl ⟨y, fun sp hsp => ?_⟩) .inr), hg.2⟩, fa_pu hu hf⟩
      obtain ⟨ts, rfl⟩ := hF a sp hsp
      obtain ⟨_, ⟨o, h4, ws, j, rfl, _⟩, _⟩ := hP.o a _ hsp
      have := keeps_hs kk _ _ h4
      rw [hg.2] at this
      have hc : (tpl vs k).cls = (lst ws j).cls := by rw [Option.some.inj this]
      exact absurd hc (by simp)
theorem l2_pu {t : T} (h : Pu t) : L2 t := .inl h

theorem Base.but {A : Around} {m : Str → Option Value} {q pc : Addr → Prop} {s : Shared} {a : Addr} {h' : Heap} (b : Base C n env A ow m q pc s) (ha : ¬ pa q pc a) (ht : C.top.get? a = none) (hl : a ≠ env.locals) (hc : ∀ y c, env.cells.lookup y = some c → (env.kindOf y = some .cell ∨ env.kindOf y = some .free) → c ≠ a) (hs : Heap.SameBut a s.heap h') :
    Base C n env A ow m q pc { s with heap := h' } := by
  refine ⟨b.a, b.f.butL (wr := [a]) (fun z => hl (List.mem_singleton.mp z).symm) (fun y c h1 h2 h3 => hc y c h2 h1 (List.mem_singleton.mp h3)) (fun d o hd e => hs.extBut d o (by simpa using hd) e), b.w, { b.g with sub := fun d o e => hs.extBut d o (by rintro rfl; rw [ht] at e; cases e) (b.g.sub d o e) }, fun d hd => ?_, b.dis, b.top⟩
  obtain ⟨o, e⟩ := b.pin d hd
  exact ⟨o, hs.extBut d o (by rintro rfl; exact ha hd) e⟩

/-- y = [.. for .. in ..], y a local: the list goes to y ahead of the frame's end -/
theorem x_comp {y x : Str} {py px : Pos} {scope : Scope} {iter elt : Expr} {ifs : List Expr} {cpos pos : Pos} {ts us : List T} (hr : Rd C n env ow Pre ρr L) (hL : ∀ u ∈ us, L u)
    (hio : Io C n env ρr iter ts) (ok : scopeOK env scope x = true) (hρ : ρr.lookup (".0" : Str) = none) (hifs : ifs.length ≤ 1) (hcr : CR C n env ρr scope x ifs elt ts us) (hsz : ts.length ≤ 4096)
    (hs : ∀ v, foldedSetIterable iter env v = pure v) (hy : canPut env y = true) (ho : env.kindOf y = some .cell → ow y)
    (hsw : swapsWith (.ListComp elt [⟨.Name x px, iter, ifs, 0⟩] scope cpos) (some (.Name y py)) pos.line env = pure true)
    (hp : Puts env ow Pre y (LL us) R.nx) : X1 C n env ow Pre (.Assign [.Name y py] (.ListComp elt [⟨.Name x px, iter, ifs, 0⟩] scope cpos) pos) R := fun A m q pc s b hP => by
  obtain ⟨p', hpc, sit, lift⟩ := hr _ _ _ _ _ b hP
  rw [exec_Assign_Name_used _ _ _ _ hsw]
  refine wpAny_bind (wpAny_standAt (wpAny_bind ?_))
  show wpAny _ A (do let _ ← comprehension (.ListComp elt [⟨.Name x px, iter, ifs, 0⟩] scope cpos) scope env _ (newList []) false (eval iter env) (some (assign (.Name y py) env))) _ _ s
  refine wpAny_bind (wpAny_mono (comp_core (use := some (assign (.Name y py) env)) (Q := fun _ s' => Leaves C n env A ow q pc s R .next s') sit hio ok hρ hifs hcr hsz hs fun D L0 s' ml vs k kk hns fL fD hD hq => ?_) (fun _ s' hq => wpAny_pure (wpAny_pure hq)) fun _ _ z => z)
  have b' := b.keeps kk
  obtain ⟨hd, hd1, hd2⟩ := drop_addr s'.heap L0
  have nL : ¬ pa q pc L0 := b.pin.fresh fL
  have nD : ¬ pa q pc D := b.pin.fresh fD
  have ktop : C.top.get? L0 = none := by
    cases e : C.top.get? L0 with
    | none => rfl
    | some o => rw [b.g.sub _ _ e] at fL; cases fL
  have khs := keeps_hs kk
  obtain ⟨hh, tt, es, _⟩ := kk
  have kd : Keeps s { s' with heap := hd } := by
    subst es
    refine ⟨hd, tt, rfl, fun c o e => ?_⟩
    have hcL : c ≠ L0 := by rintro rfl; rw [fL] at e; cases e
    rw [hd2 c hcL]; exact khs c o e
  have tP : (LL us).P (vw (pa q pc) hd) (.ref D) := by
    obtain ⟨a, ws, j, e, hg, hf⟩ := hq hd fun c o _ q e => by rw [hd2 c q]; exact e
    cases e
    refine ⟨D, ws, j, rfl, ⟨nD, hg.2⟩, ?_⟩
    have hf' : Fa (vw (fun d => p' d ∨ False) hd) us ws := hf.mono (vw_less fun d z => z.elim id False.elim)
    have := lifts (p := pa q pc) (r := fun _ => False) (fun t ht v z => lift t (hL t ht) _ v _ kd z) hf'
    exact this.mono (vw_less fun d z => .inl z)
  have hPd : Pre.P m q pc hd := Pre.mono (keeps_hs kd) hP
  refine wpAny_assign_Name (store_base b' hy ho fun h' tk b'' hs' hqt => ?_)
  have hLt : L0 ≠ tgt env y := fun z => nL (.inr (z ▸ hqt))
  obtain ⟨ol, el, ep, e1, e2, e3⟩ := hns
  refine ⟨ml, ⟨ol, el, ep, hs'.extBut _ _ hLt e1, e2, e3⟩, fun h3 hs3 => ?_⟩
  have hcl : ∀ z c, env.cells.lookup z = some c → (env.kindOf z = some .cell ∨ env.kindOf z = some .free) → c ≠ L0 := fun z c e hk => by
    rintro rfl
    obtain ⟨c', g1, o, g2, _⟩ := b.f.cel z hk
    rw [e] at g1; cases g1; rw [fL] at g2; cases g2
  have hll : L0 ≠ env.locals := by
    rintro rfl
    obtain ⟨_, ⟨o, _, _, g1, _⟩, _⟩ := b.f.loc
    rw [fL] at g1; cases g1
  have b3 := b''.but nL ktop hll hcl hs3
  refine ⟨_, q, b3, ⟨?_, fun d o hdq e => ?_, fun _ z => z, fun _ z => .inl z⟩, ?_⟩
  · subst es; exact ⟨_, _, rfl⟩
  · have hdL : d ≠ L0 := by rintro rfl; rw [fL] at e; cases e
    exact hs3.extBut d o hdL (hs'.extBut d o (by rintro rfl; exact hdq hqt) (khs d o e))
  · refine hp _ _ _ hd h3 (.ref D) b.w hqt hPd tP fun d o hdt e => ?_
    have hdL : d ≠ L0 := by rintro rfl; rw [hd1] at e; cases e
    rw [hd2 d hdL] at e
    exact hs3.extBut d o hdL (hs'.extBut d o hdt e)

theorem cr_filter {α : Type} {f g : α → T} {c elt : Expr} {scope : Scope} {x0 : Str} (p : α → Bool) : ∀ {xs : List α}, (∀ x ∈ xs, InTr C n env ρ scope x0 (f x) c (p x)) → (∀ x ∈ xs, p x = true → InEv C n env ρ scope x0 (f x) elt (g x)) → CR C n env ρ scope x0 [c] elt (xs.map f) ((xs.filter p).map g)
  | [], _, _ => .nil
  | x :: xs, h, he => by
    have ih := cr_filter p (xs := xs) (fun y hy => h y (.tail _ hy)) (fun y hy => he y (.tail _ hy))
    have hx := h x (.head _)
    cases hp : p x with
    | true =>
      rw [List.filter_cons, if_pos hp]
      rw [hp] at hx
      exact .yes (fun c' hc => by rw [List.mem_singleton] at hc; subst hc; exact hx) (he x (.head _) hp) ih
    | false =>
      rw [List.filter_cons, if_neg (by rw [hp]; decide)]
      rw [hp] at hx
      exact .no rfl hx ih
theorem cr_map {α : Type} {f g : α → T} {elt : Expr} {scope : Scope} {x0 : Str} : ∀ {xs : List α}, (∀ x ∈ xs, InEv C n env ρ scope x0 (f x) elt (g x)) → CR C n env ρ scope x0 [] elt (xs.map f) (xs.map g)
  | [], _ => .nil
  | x :: xs, he => .yes (fun c' hc => by cases hc) (he x (.head _)) (cr_map fun y hy => he y (.tail _ hy))
/-! equality -/
def RT (t : T) (d : PyData) : Prop := ∀ p h v, t.P (vw p h) v → ∃ as, Reads h v d as
theorem rt_i {i : Int} : RT (I i) (.int i) := by rintro p h v ⟨t, rfl⟩; exact ⟨_, .int i t⟩
theorem rt_s {x : Str} : RT (S x) (.str x) := by rintro p h v ⟨t, rfl⟩; exact ⟨_, .str x t⟩
theorem rt_all : ∀ {ts : List T} {ds : List PyData} {p : Addr → Prop} {h : Heap} {vs : List Value}, ts.length = ds.length → (∀ (i : Nat) t d, ts[i]? = some t → ds[i]? = some d → RT t d) → Fa (vw p h) ts vs → ∃ as, ReadsAll h vs ds as
  | [], [], _, _, [], _, _, _ => ⟨_, .nil⟩
  | t :: ts, d :: ds, p, h, v :: vs, hl, hr, hf => by
    obtain ⟨as, h1⟩ := hr 0 t d rfl rfl p h v hf.1
    obtain ⟨bs, h2⟩ := rt_all (ts := ts) (ds := ds) (by simpa using hl) (fun i t d e1 e2 => hr (i + 1) t d (by simpa using e1) (by simpa using e2)) hf.2
    exact ⟨_, .cons h1 h2⟩
  | [], _ :: _, _, _, _, hl, _, _ => by simp at hl
  | _ :: _, [], _, _, _, hl, _, _ => by simp at hl
  | [], [], _, _, _ :: _, _, _, hf => hf.elim
  | _ :: _, _ :: _, _, _, [], _, _, hf => hf.elim
theorem rt_map {α : Type} {f : α → T} {d : α → PyData} (h : ∀ a, RT (f a) (d a)) (xs : List α) : ∀ (i : Nat) t e, (xs.map f)[i]? = some t → (xs.map d)[i]? = some e → RT t e := by
  intro i t e h1 h2
  rw [List.getElem?_map] at h1 h2
  cases hx : xs[i]? with
  | none => rw [hx] at h1; cases h1
  | some x => rw [hx] at h1 h2; cases h1; cases h2; exact h x
theorem rt_list {α : Type} {f : α → T} {d : α → PyData} (h : ∀ a, RT (f a) (d a)) (xs : List α) : RT (LL (xs.map f)) (.list (xs.map d)) := by
  rintro p hh v ⟨a, vs, n, rfl, hg, hf⟩
  obtain ⟨as, hr⟩ := rt_all (by simp) (rt_map h xs) hf
  exact ⟨_, .list hg.2 rfl rfl (by simpa using hr)⟩
theorem rt_tup {α : Type} {f : α → T} {d : α → PyData} (h : ∀ a, RT (f a) (d a)) (xs : List α) : RT (TU (xs.map f)) (.tuple (xs.map d)) := by
  rintro p hh v ⟨a, vs, n, rfl, hg, hf⟩
  obtain ⟨as, hr⟩ := rt_all (by simp) (rt_map h xs) hf
  exact ⟨_, .tuple hg.2 rfl rfl (by simpa using hr)⟩
theorem cm_eqR {t u : T} {da db : PyData} (ht : RT t da) (hu : RT u db) (ha : SeqAt.shaped da = true) (hb : SeqAt.shaped db = true) : Cm2 C n .Eq t u (B (PyData.eqv da db)) := by
  intro A p s v w hA hG _ hv hw
  obtain ⟨as, ra⟩ := ht _ _ _ hv
  obtain ⟨bs, rb⟩ := hu _ _ _ hw
  exact SeqAt.compareEq_shaped ra rb ha hb hA.units ⟨keeps_refl _, rfl⟩
theorem cm_neR {t u : T} {da db : PyData} (ht : RT t da) (hu : RT u db) (ha : SeqAt.shaped da = true) (hb : SeqAt.shaped db = true) : Cm2 C n .NotEq t u (B (!PyData.eqv da db)) := by
  intro A p s v w hA hG _ hv hw
  obtain ⟨as, ra⟩ := ht _ _ _ hv
  obtain ⟨bs, rb⟩ := hu _ _ _ hw
  exact SeqAt.compareNe_shaped ra rb ha hb hA.units ⟨keeps_refl _, rfl⟩

/-! index over told values that a look at the heap tells apart -/
structure KeyH {α : Type} (f : α → T) (dec : Heap → Value → Option α) (d : α → PyData) : Prop where
  k : ∀ {p h a v}, (f a).P (vw p h) v → dec h v = some a
  r : ∀ a, RT (f a) (d a)
theorem ev_indexH {α : Type} {f : α → T} {dec : Heap → Value → Option α} {d : α → PyData} (K : KeyH f dec d) {o e : Expr} {apos pos : Pos} {xs : List α} {x : α} {j : Nat} (hsz : xs.length ≤ 4096) (ho : Ev C n env ρ o (LL (xs.map f))) (he : Ev C n env ρ e (f x))
    (hlay : ∀ a, (a ∈ xs ∨ a = x) → (d a).canLay0 = true ∧ (d a).depth ≤ 8) (hj : xs.findIdx? (fun a => PyData.eqv (d a) (d x)) = some j)
    (hbase : attributeBase o "index" env (eval o env) = eval o env) (hs : starEach [e] env = [(false, eval e env)]) (hline : (apos.endLine == pos.line) = true) : Ev C n env ρ (.Call (.Attribute o "index" apos) [e] [] pos) (I j) := fun A m p s st =>
  Call_method1 hbase hs hline (wpAny_mono (ho _ _ _ _ st) (fun v s1 x1 => by
    obtain ⟨k1, a, vs, k, rfl, hg, hf⟩ := x1
    refine ⟨"list", "list.index", F.plainAttrs_list, F.slot_list_index, F.type_list_index, ⟨_, hg.2, rfl⟩, fun b hb => by cases hb; exact ⟨_, hg.2, rfl⟩, ?_⟩
    refine seqMethod1_meets F.slot_list_index F.entry_list_index (wpAny_mono (he _ _ _ _ (st.keeps k1)) (fun w s2 x2 => ?_) fun _ _ z => z)
    obtain ⟨k2, hw⟩ := x2
    have hg2 := keeps_hs k2 _ _ hg.2
    have hf2 := hf.mono (sub_vw (keeps_hs k2))
    have hl : vs.length = xs.length := by simpa using hf2.length
    rw [List.findIdx?_eq_some_iff_getElem] at hj
    obtain ⟨hjl, hj1, hj2⟩ := hj
    let ee : Value → Bool := fun y => match dec s2.heap y with | some a => PyData.eqv (d a) (d x) | none => false
    have at_ : ∀ i (hi : i < vs.length) (hi' : i < xs.length), (f xs[i]).P (vw p s2.heap) vs[i] := fun i hi hi' => by
      obtain ⟨v, e, hp⟩ := hf2.get (i := i) (t := f xs[i]) (by simp [hi'])
      rw [List.getElem?_eq_getElem hi] at e
      cases e; exact hp
    have ae : ∀ i (hi : i < vs.length) (hi' : i < xs.length), ee vs[i] = PyData.eqv (d xs[i]) (d x) := fun i hi hi' => by
      show (match dec s2.heap vs[i] with | some a => PyData.eqv (d a) (d x) | none => false) = _
      rw [K.k (at_ i hi hi')]
    refine ⟨⟨_, hg2, rfl⟩, F.args_list_index_2 _ _, _, SeqAt.list_indexAt a vs.toArray k none #[] w ee j (by simpa [hl] using hjl) (by omega) ?_ fun i hi hij => ?_, hg2, fun y hy => ?_, keeps_trans (keeps_trans k1 k2) (keeps_tok _ _), _, rfl⟩
    · simpa [ae j (by omega) hjl] using hj1
    · have := hj2 i hij
      have hi' : i < vs.length := by simpa using hi
      simpa [ae i hi' (by omega)] using this
    · obtain ⟨i, hi, rfl⟩ := List.mem_iff_getElem.mp (show y ∈ vs by simpa using hy)
      rw [ae i hi (by omega)]
      obtain ⟨as, ra⟩ := K.r _ _ _ _ (at_ i hi (by omega))
      obtain ⟨bs, rb⟩ := K.r _ _ _ _ hw
      have l1 := hlay xs[i] (.inl (List.getElem_mem _))
      have l2 := hlay x (.inr rfl)
      refine SeqAt.eqAt_reads _ _ _ _ _ _ as bs ra rb l1.1 l2.1 ?_
      have := st.a.u
      rw [Around.in1_units]
      have : cLine = 9900 := by rfl
      omega) fun _ _ z => z)
end
end Mine

end
/-! Fw22 -/
section
open PySem PySem.W PyProof.Rows PySem.Calls
set_option maxRecDepth 100000
set_option linter.all false
namespace Mine
abbrev KV := List (Int × Int)
def DV : KV → List (Int × Value) → Prop
  | [], [] => True
  | (k, i) :: r, (k', v) :: r' => k' = k ∧ (∃ t, v = .int i t) ∧ DV r r'
  | _, _ => False
theorem dv_len : ∀ {kvs : KV} {vs : List (Int × Value)}, DV kvs vs → vs.length = kvs.length
  | [], [], _ => rfl
  | _ :: _, _ :: _, h => by simp [dv_len h.2.2]
  | [], _ :: _, h => h.elim
  | _ :: _, [], h => h.elim
theorem dv_at : ∀ {kvs : KV} {vs : List (Int × Value)} {j : Nat} {k i : Int}, DV kvs vs → kvs[j]? = some (k, i) → ∃ t, vs[j]? = some (k, .int i t)
  | [], _, _, _, _, _, e => by simp at e
  | (k, i) :: r, (k', v) :: r', 0, _, _, h, e => by
    simp at e; obtain ⟨rfl, rfl⟩ := e
    obtain ⟨rfl, ⟨t, rfl⟩, _⟩ := h
    exact ⟨t, rfl⟩
  | _ :: r, _ :: r', j + 1, k, i, h, e => by
    obtain ⟨t, e'⟩ := dv_at (j := j) h.2.2 (by simpa using e)
    exact ⟨t, by simpa using e'⟩
  | _ :: _, [], _, _, _, h, _ => h.elim
def kfind (kvs : KV) (k : Int) : Option Int := (kvs.find? fun kv => kv.1 = k).map (·.2)
def kstore (kvs : KV) (k i : Int) : KV := if kvs.any (fun kv => kv.1 = k) then kvs.map (fun kv => if kv.1 = k then (kv.1, i) else kv) else kvs ++ [(k, i)]
theorem dv_find : ∀ {kvs : KV} {vs : List (Int × Value)} {k : Int}, DV kvs vs → match kfind kvs k with | some i => ∃ t, valueAt vs k = some (.int i t) | none => valueAt vs k = none
  | [], [], _, _ => rfl
  | (k0, i) :: r, (k', v) :: r', k, h => by
    obtain ⟨rfl, ⟨t, rfl⟩, h3⟩ := h
    have ih := dv_find (k := k) h3
    unfold kfind valueAt at ih ⊢
    simp only [List.find?_cons]
    by_cases hk : k' = k
    · simp [hk]
    · simp only [hk, decide_false]
      exact ih
  | [], _ :: _, _, h => h.elim
  | _ :: _, [], _, h => h.elim
theorem dv_any : ∀ {kvs : KV} {vs : List (Int × Value)} {k : Int}, DV kvs vs → vs.any (fun kv => kv.1 = k) = kvs.any (fun kv => kv.1 = k)
  | [], [], _, _ => rfl
  | (k0, i) :: r, (k', v) :: r', k, h => by
    obtain ⟨rfl, _, h3⟩ := h
    simp only [List.any_cons, dv_any h3]
  | [], _ :: _, _, h => h.elim
  | _ :: _, [], _, h => h.elim
theorem dv_map {k i : Int} {t : Tok} : ∀ {kvs : KV} {vs : List (Int × Value)}, DV kvs vs → DV (kvs.map (fun kv => if kv.1 = k then (kv.1, i) else kv)) (vs.map (fun kv => if kv.1 = k then (kv.1, .int i t) else kv))
  | [], [], _ => trivial
  | (k0, j) :: r, (k', v) :: r', h => by
    obtain ⟨rfl, h2, h3⟩ := h
    have ih := dv_map (k := k) (i := i) (t := t) h3
    simp only [List.map_cons]
    by_cases hk : k' = k
    · rw [if_pos hk, if_pos hk]; exact ⟨rfl, ⟨t, rfl⟩, ih⟩
    · rw [if_neg hk, if_neg hk]; exact ⟨rfl, h2, ih⟩
  | [], _ :: _, h => h.elim
  | _ :: _, [], h => h.elim
theorem dv_snoc {k i : Int} {t : Tok} : ∀ {kvs : KV} {vs : List (Int × Value)}, DV kvs vs → DV (kvs ++ [(k, i)]) (vs ++ [(k, .int i t)])
  | [], [], _ => ⟨rfl, ⟨t, rfl⟩, trivial⟩
  | _ :: _, _ :: _, h => ⟨h.1, h.2.1, dv_snoc h.2.2⟩
  | [], _ :: _, h => h.elim
  | _ :: _, [], h => h.elim
theorem dv_store {kvs : KV} {vs : List (Int × Value)} {k i : Int} {t : Tok} (h : DV kvs vs) : DV (kstore kvs k i) (stored vs k (.int i t)) := by
  unfold kstore stored
  rw [dv_any h]
  by_cases hk : kvs.any (fun kv => decide (kv.1 = k)) = true
  · rw [if_pos hk, if_pos hk]; exact dv_map h
  · rw [if_neg hk, if_neg hk]; exact dv_snoc h

def DIo (C : Cx) (kvs : KV) (o : Obj) : Prop := ∃ vs, o.IsDictOf (intKind C.prog C.w) vs ∧ DV kvs vs
def DI (C : Cx) (kvs : KV) : T := ⟨fun g v => ∃ (a : Addr) (o : Obj), v = .ref a ∧ g a o ∧ DIo C kvs o ∧ a ≠ sysModules, fun {g g' v} k ⟨a, o, h1, h2, h3⟩ => ⟨a, o, h1, k _ _ h2, h3⟩⟩
def SI (C : Cx) (kvs : KV) : Sp := ⟨fun _ o => DIo C kvs o, fun _ h => h⟩
section
variable {C : Cx} {n : Nat} {env : Env} {ρ ρr : Rho} {ow : Str → Prop} {Pre : Assn} {R : Po} {L : T → Prop} {F : Owns}
theorem si_pu {kvs : KV} : SpPu (SI C kvs) := fun _ _ _ h => h
theorem dio_of {h : Heap} {a : Addr} {o : Obj} {kvs : KV} (ho : h.get? a = some o) (x : DIo C kvs o) : ∃ vs, h.DictOf (intKind C.prog C.w) a vs ∧ DV kvs vs := let ⟨vs, h1, h2⟩ := x; ⟨vs, Heap.dictOf_iff.mpr ⟨o, ho, h1⟩, h2⟩
theorem dio_to {h : Heap} {a : Addr} {kvs : KV} {vs : List (Int × Value)} (x : h.DictOf (intKind C.prog C.w) a vs) (d : DV kvs vs) : ∃ o, h.get? a = some o ∧ DIo C kvs o := let ⟨o, h1, h2⟩ := Heap.dictOf_iff.mp x; ⟨o, h1, vs, h2, d⟩
theorem not_sys {h : Heap} (g : GOk C h) : h.objs.size ≠ sysModules := by
  have := g.g.lt
  exact Nat.ne_of_gt (Nat.lt_trans (show (1 : Nat) < mainGlobals by decide) this)
theorem en_dict {pos : Pos} : EvN C n env ρ (.Dict [] [] pos) (SI C []) (fun a => a ≠ sysModules) := fun A m p s st =>
  wpAny_Dict_empty ⟨⟨_, _, rfl, fun _ _ e => Heap.get?_push_of_some _ e⟩, _, _, rfl, get_none (Nat.le_refl _), Heap.get?_push_size _ rfl, ⟨[], ⟨#[], 0, ⟨rfl, rfl, rfl⟩, rfl, by intro i hi; simp at hi, .nil, by simp⟩, trivial⟩, not_sys st.g⟩

theorem isInt_of (k : Int) (t : Tok) : (intKind C.prog C.w).is k (.int k t) = true := by
  show Value.isInt k (.int k t) = true
  simp [Value.isInt]
theorem cm_in_dict {kvs : KV} {k : Int} : Cm2 C n .In (I k) (DI C kvs) (B (kfind kvs k).isSome) := by
  rintro A p s _ _ hA hG _ ⟨t, rfl⟩ ⟨a, o, rfl, hg, hd, hs⟩
  obtain ⟨vs, h1, h2⟩ := dio_of hg.2 hd
  refine wpAny_in_of (isInt_of k t) (by simpa using hs) h1.mapOf ⟨keeps_tok _ _, ?_⟩
  have := dv_find (k := k) h2
  show Value.bool _ = Value.bool _
  cases e : kfind kvs k with
  | none => rw [e] at this; rw [this]; rfl
  | some i => rw [e] at this; obtain ⟨t, ht⟩ := this; rw [ht]; rfl

/-- own dicts -/
theorem x_setdict {o e ie : Expr} {p2 pos : Pos} {kvs : KV} {k i : Int} {a : Addr} {j : Nat} (hl : kvs.length ≤ 4096) (hr : Rd C n env ow (Ow env ρ F) ρr L) (hj : F[j]? = some (a, SI C kvs)) (ho : Ev C n env ρr o (V (.ref a))) (he : Ev C n env ρr e (I i)) (hie : Ev C n env ρr ie (I k))
    (hsw : swapsWith e (some (.Subscript o ie p2)) pos.line env = pure false) (hpost : Imp (Ow env ρ (F.set j (a, SI C (kstore kvs k i)))) R.nx) :
    X1 C n env ow (Ow env ρ F) (.Assign [.Subscript o ie p2] e pos) R := fun A m q pc s b hP => by
  obtain ⟨p', hpc, sit, lift⟩ := hr _ _ _ _ _ b hP
  refine wpAny_Assign_Subscript (wpAny_mono (he _ _ _ _ sit) (fun v s1 x1 => ?_) fun _ _ z => z) hsw
  obtain ⟨k1, u0, rfl⟩ := x1
  refine wpAny_mono (ho _ _ _ _ (sit.keeps k1)) (fun ov s2 x2 => ?_) fun _ _ z => z
  obtain ⟨k2, rfl⟩ := x2
  have k12 := keeps_trans k1 k2
  refine wpAny_mono (hie _ _ _ _ (sit.keeps k12)) (fun iv s3 x3 => ?_) fun _ _ z => z
  obtain ⟨k3, u, rfl⟩ := x3
  have k13 := keeps_trans k12 k3
  have hP3 := ow_keeps (A := A) k13 hP
  obtain ⟨_, ⟨o1, h2, h3⟩, _⟩ := hP3.o a _ (List.mem_of_getElem? hj)
  obtain ⟨vs, h4, h5⟩ := dio_of h2 h3
  refine wpAny_setItem_pairs (hsz := by rw [dv_len h5, sizeLine_eq]; omega) (isInt_of k u) h4 fun h' hd' hs' => ?_
  obtain ⟨o', g1, g2⟩ := dio_to (C := C) hd' (dv_store h5)
  have hno : ∀ v, o1.data ≠ .cell v := fun v z => by
    obtain ⟨_, ⟨es, ep, _, e2, _⟩, _⟩ := h3
    rw [e2] at z; cases z
  obtain ⟨B, S2, O⟩ := ow_change (tk := s3.toks + 1) (sp' := SI C (kstore kvs k i)) (b.keeps k13) hP3 hj h2 hs' g1 g2 hno
  exact ⟨m, q, B, (Step.of_keeps k13).trans S2, hpost _ _ _ _ O⟩
theorem x_augdict {o e ie : Expr} {p2 pos : Pos} {kvs : KV} {k i0 d : Int} {a : Addr} {j : Nat} (hl : kvs.length ≤ 4096) (hr : Rd C n env ow (Ow env ρ F) ρr L) (hj : F[j]? = some (a, SI C kvs)) (ho : Ev C n env ρr o (V (.ref a))) (he : Ev C n env ρr e (I d)) (hie : Ev C n env ρr ie (I k)) (hk : kfind kvs k = some i0)
    (hau : ∀ ov iv new, augStore ie ov iv new = (do holding [new, ov, iv] (setItem ov iv new); release [new, ov, iv] []; pure .next)) (hpost : Imp (Ow env ρ (F.set j (a, SI C (kstore kvs k (i0 + d))))) R.nx) :
    X1 C n env ow (Ow env ρ F) (.AugAssign (.Subscript o ie p2) .Add e pos) R := fun A m q pc s b hP => by
  obtain ⟨p', hpc, sit, lift⟩ := hr _ _ _ _ _ b hP
  refine wpAny_AugAssign_SubscriptAny (wpAny_mono (ho _ _ _ _ sit) (fun v s1 x1 => ?_) fun _ _ z => z) hau
  obtain ⟨k1, rfl⟩ := x1
  refine wpAny_mono (hie _ _ _ _ (sit.keeps k1)) (fun iv s2 x2 => ?_) fun _ _ z => z
  obtain ⟨k2, u, rfl⟩ := x2
  have k12 := keeps_trans k1 k2
  obtain ⟨_, ⟨o1, h2, h3⟩, _⟩ := (ow_keeps (A := A) k12 hP).o a _ (List.mem_of_getElem? hj)
  obtain ⟨vs, h4, h5⟩ := dio_of h2 h3
  have hf := dv_find (k := k) h5
  rw [hk] at hf
  obtain ⟨t, hf⟩ := hf
  refine wpAny_getItem_of (isInt_of k u) h4.mapOf hf ?_
  refine wpAny_mono (he _ _ _ _ (sit.keeps (keeps_trans k12 (keeps_tok _ _)))) (fun dv s3 x3 => ?_) fun _ _ z => z
  obtain ⟨k3, u2, rfl⟩ := x3
  refine P.iadd_int ?_
  have k13 := keeps_trans (keeps_trans (keeps_trans k12 (keeps_tok _ _)) k3) (keeps_tok s3 (s3.toks + 1))
  have hP3 := ow_keeps (A := A) k13 hP
  obtain ⟨_, ⟨o1, h2, h3⟩, _⟩ := hP3.o a _ (List.mem_of_getElem? hj)
  obtain ⟨vs, h4, h5⟩ := dio_of h2 h3
  refine wpAny_setItem_pairs (hsz := by rw [dv_len h5, sizeLine_eq]; omega) (isInt_of k u) h4 fun h' hd' hs' => ?_
  obtain ⟨o', g1, g2⟩ := dio_to (C := C) hd' (dv_store (t := s3.toks) h5)
  have hno : ∀ v, o1.data ≠ .cell v := fun v z => by
    obtain ⟨_, ⟨es, ep, _, e2, _⟩, _⟩ := h3
    rw [e2] at z; cases z
  obtain ⟨B, S2, O⟩ := ow_change (tk := s3.toks + 1 + 1) (sp' := SI C (kstore kvs k (i0 + d))) (b.keeps k13) hP3 hj h2 hs' g1 g2 hno
  exact ⟨m, q, B, (Step.of_keeps k13).trans S2, hpost _ _ _ _ O⟩
/-- the own dict open -/
theorem rd_dict {x : Str} {a : Addr} {kvs : KV} (hx : ρ.lookup x = some (V (.ref a))) (hF : (a, SI C kvs) ∈ F) (ha : a ≠ sysModules) : Rd C n env ow (Ow env ρ F) ((x, DI C kvs) :: ρ) Pu := by
  intro A m q pc s b hP
  have hd : ∀ a sp, (a, sp) ∈ F → ¬ pc a := fun a sp ha => b.dis a (hP.o a sp ha).1
  have sub : Sub (vw (pa q pc) s.heap) (vw (fun d => pa q pc d ∧ ∀ sp, (d, sp) ∉ F) s.heap) := vw_less fun d hd => hd.1
  refine ⟨fun d => pa q pc d ∧ ∀ sp, (d, sp) ∉ F, fun d z => ⟨.inl z, fun sp e => hd d sp e z⟩, ⟨b.a, b.f, ?_, b.g, fun d hd => b.pin d hd.1⟩, fun t ht _ v _ _ z => ht _ _ v z⟩
  obtain ⟨v, h1, h2⟩ := hP.v x _ hx
  have h2 : v = .ref a := h2
  subst h2
  obtain ⟨_, ⟨o, h4, h5⟩, _⟩ := hP.o a _ hF
  intro y t e
  rw [List.lookup_cons] at e
  by_cases hy : y = x
  · subst hy
    simp at e
    subst e
    exact ⟨_, h1, a, o, rfl, ⟨fun z => z.2 _ hF, h4⟩, h5, ha⟩
  · have hb : (y == x) = false := by simpa using hy
    rw [hb] at e
    exact (hP.v.mono sub) y t e
end
end Mine

end
/-! Fw23 -/
section
open PySem PySem.W PyProof.Rows PySem.Calls
set_option maxRecDepth 100000
set_option linter.all false
namespace Mine
section
variable {C : Cx} {n : Nat} {env : Env} {ρ ρr : Rho} {ow : Str → Prop} {Pre : Assn} {R : Po} {L : T → Prop} {F : Owns}

theorem dictAt_of {h : Heap} {a : Addr} {o : Obj} {kvs : KV} (ho : h.get? a = some o) (x : DIo C kvs o) : ∃ vs ep, h.DictAt (intKind C.prog C.w) a vs ep ∧ DV kvs vs := let ⟨vs, ⟨es, ep, h1, h2, h3, h4, h5⟩, h6⟩ := x; ⟨vs, ep, ⟨o, es, ho, h1, h2, h3, h4, h5⟩, h6⟩
theorem dictAt_keep {h h' : Heap} {a : Addr} {vs : List (Int × Value)} {ep : Nat} (x : h.DictAt (intKind C.prog C.w) a vs ep) (k : ∀ o, h.get? a = some o → h'.get? a = some o) : h'.DictAt (intKind C.prog C.w) a vs ep := let ⟨o, es, h1, h2⟩ := x; ⟨o, es, k o h1, h2⟩

/-- for .. in x.items() -/
theorem iop_items {x : Str} {np apos cpos : Pos} {kvs : KV} {elts : List Expr} {x1 : Nat} {pt : Pos} (hρ : Imp Pre (LV ρ)) (hx : ρ.lookup x = some (DI C kvs)) (hk : isLocalish env x = true)
    (hbase : attributeBase (.Name x np) "items" env (eval (.Name x np) env) = eval (.Name x np) env) (hline : (apos.endLine == cpos.line) = true) :
    IoP C n env ow Pre (.Tuple elts x1 pt) (.Call (.Attribute (.Name x np) "items" apos) [] [] cpos) (kvs.map fun p => TU [I p.1, I p.2]) := fun A m q pc s b hP => by
  obtain ⟨v, hm, a, o, rfl, hg, hd, hs⟩ := hρ _ _ _ _ hP x _ hx
  obtain ⟨vs, ep, hat, hdv⟩ := dictAt_of hg.2 hd
  obtain ⟨vs2, hdo, _⟩ := dio_of hg.2 hd
  have sit : Sit C n env [(x, V (.ref a))] A m (pa q pc) s := b.sit fun y t e => by
    rw [List.lookup_cons] at e
    by_cases hy : y = x
    · subst hy; simp at e; subst e; exact ⟨_, hm, rfl⟩
    · have hb : (y == x) = false := by simpa using hy
      rw [hb] at e; cases e
  refine wpAny_Call_items (by simpa using hs) hdo hbase hline (fun Q' hq => wpAny_Name (load_wp sit (t := V (.ref a)) (by simp) (localish hk).1 (localish hk).2.1 fun v hv => by have hv : v = .ref a := hv; subst hv; exact hq) (localish hk).2.2) ?_
  generalize hH1 : s.heap.push { cls := .type "dict_items", data := .fields #[.ref a] } = H1
  have k1 : Hs s.heap H1 := fun _ _ e => by rw [← hH1]; exact Heap.get?_push_of_some _ e
  have hsz1 : H1.objs.size = s.heap.objs.size + 1 := by rw [← hH1, Heap.size_push]
  have hv1 : H1.IsItemsView s.heap.objs.size a := by rw [← hH1]; exact ⟨_, Heap.get?_push_size _ rfl, rfl, rfl⟩
  have hat1 := dictAt_keep hat (h' := H1) fun o e => k1 _ _ e
  refine ⟨⟨H1, s.toks, rfl, k1⟩, ?_⟩
  refine wpAny_pyIter_items (s := { s with heap := H1 }) (knd := intKind C.prog C.w) hv1 hat1 ?_
  have nI : H1.get? H1.objs.size = none := get_none (Nat.le_refl _)
  have haI : a ≠ H1.objs.size := by rintro rfl; obtain ⟨o, _, e, _⟩ := hat1; rw [nI] at e; cases e
  have pin1 : Pin (pa q pc) H1 := b.pin.keeps k1
  have hlen := dv_len hdv
  refine ⟨⟨_, _, rfl, fun _ _ e => Heap.get?_push_of_some _ e⟩, H1.objs.size, rfl, [H1.objs.size, a], [H1.objs.size], fun i h => (∃ ok ov, IsItemIter h H1.objs.size a i vs.length ep ok ov) ∧ h.DictAt (intKind C.prog C.w) a vs ep, ?_, ?_, ?_, ?_, ?_, ?_, ?_, ?_⟩
  · intro d hd; rw [List.mem_singleton.mp hd]; exact .head _
  · rintro i h h' ⟨⟨ok, ov, h1⟩, h2⟩ hk
    exact ⟨⟨ok, ov, hk _ (.head _) _ h1⟩, dictAt_keep h2 fun o e => hk a (by simp) o e⟩
  · exact ⟨⟨.none, .none, Heap.get?_push_size _ rfl⟩, dictAt_keep hat1 fun o e => Heap.get?_push_of_some _ e⟩
  · intro d hd; rw [List.mem_singleton.mp hd]; exact nI
  · rintro i h ⟨⟨ok, ov, h1⟩, o, es, h2, _⟩ d hd
    rcases List.mem_cons.mp hd with rfl | hd
    · exact ⟨_, h1⟩
    · rw [List.mem_singleton.mp hd]; exact ⟨o, h2⟩
  · intro d hd
    rcases List.mem_cons.mp hd with rfl | hd
    · exact pin1.size
    · rw [List.mem_singleton.mp hd]; exact hg.1
  · rintro i t s' p N K E ht ⟨⟨ok, ov, h1⟩, h2⟩ hpin hwp hsub hK
    obtain ⟨⟨k, j⟩, hj, rfl⟩ := of_at ht
    obtain ⟨tk, hvi⟩ := dv_at hdv hj
    refine wpAny_pyNext_items_item h1 h2 hvi fun key h₁ hkey heo ht₁ hz₁ hk₁ => ?_
    refine wpAny_letOwnedTupleGo_items heo fun h₂ he₂ hs₂ => ?_
    have hsT : s'.heap.objs.size ≠ H1.objs.size := Nat.ne_of_gt (Heap.lt_size h1)
    have keep : ∀ d o, d ∉ [H1.objs.size] → s'.heap.get? d = some o → h₂.get? d = some o := fun d o hd e => by
      have hd' : d ≠ H1.objs.size := by simpa using hd
      exact hs₂.extBut d o hd' (hk₁ d o hd' e)
    refine hK _ h₂ s'.toks ?_ ⟨⟨_, _, he₂⟩, dictAt_keep h2 fun o e => keep a o (by simpa using haI) e⟩ keep
    refine ⟨s'.heap.objs.size, [key, .int j tk], 0, rfl, ⟨hpin.size, hs₂.extBut _ _ hsT ht₁⟩, ?_, ⟨_, rfl⟩, trivial⟩
    obtain ⟨tt, rfl⟩ := Value.isInt_shape hkey
    exact ⟨tt, rfl⟩
  · rintro s' N K E ⟨⟨ok, ov, h1⟩, h2⟩ hN
    refine wpAny_pyNext_items_end b.a.h h1 h2 (by rw [List.length_map, ← hlen]; simp) fun h₁ he₁ => ?_
    exact hN h₁ s'.toks fun d o hd e => he₁ d o (by simpa using hd) e

theorem iop_values {x y : Str} {np apos cpos py : Pos} {kvs : KV} (hρ : Imp Pre (LV ρ)) (hx : ρ.lookup x = some (DI C kvs)) (hk : isLocalish env x = true)
    (hbase : attributeBase (.Name x np) "values" env (eval (.Name x np) env) = eval (.Name x np) env) (hline : (apos.endLine == cpos.line) = true) :
    IoP C n env ow Pre (.Name y py) (.Call (.Attribute (.Name x np) "values" apos) [] [] cpos) (kvs.map fun p => I p.2) := fun A m q pc s b hP => by
  obtain ⟨v, hm, a, o, rfl, hg, hd, hs⟩ := hρ _ _ _ _ hP x _ hx
  obtain ⟨vs, ep, hat, hdv⟩ := dictAt_of hg.2 hd
  obtain ⟨vs2, hdo, _⟩ := dio_of hg.2 hd
  have sit : Sit C n env [(x, V (.ref a))] A m (pa q pc) s := b.sit fun y t e => by
    rw [List.lookup_cons] at e
    by_cases hy : y = x
    · subst hy; simp at e; subst e; exact ⟨_, hm, rfl⟩
    · have hb : (y == x) = false := by simpa using hy
      rw [hb] at e; cases e
  refine wpAny_Call_method (T := "dict") (id := "dict.values") hbase rfl hline F.plainAttrs_dict F.slot_dict_values F.type_dict_values ?_
  refine wpAny_Name (load_wp sit (t := V (.ref a)) (by simp) (localish hk).1 (localish hk).2.1 fun v hv => ?_) (localish hk).2.2
  have hv : v = .ref a := hv
  subst hv
  refine ⟨hdo.typeIs, hdo.mapOf.noDict, ?_⟩
  show wpAny _ _ (callWith cpos (.builtin "dict.values") [.ref a] [] []) _ _ s
  refine method_meetsIn F.slot_dict_values F.entry_dict_values rfl (PySem.evalArgs_none ⟨rfl, hdo.typeIs, F.args_dict_values_1 _, _, meets_dict_values (intKind C.prog C.w) a (by simpa using hs), ⟨_, hdo⟩, ?_⟩)
  generalize hH1 : s.heap.push { cls := .type "dict_values", data := .fields #[.ref a] } = H1
  have k1 : Hs s.heap H1 := fun _ _ e => by rw [← hH1]; exact Heap.get?_push_of_some _ e
  have hv1 : H1.IsValuesView s.heap.objs.size a := by rw [← hH1]; exact ⟨_, Heap.get?_push_size _ rfl, rfl, rfl⟩
  have hat1 := dictAt_keep hat (h' := H1) fun o e => k1 _ _ e
  show Keeps s { s with heap := H1 } ∧ _
  refine ⟨⟨H1, s.toks, rfl, k1⟩, ?_⟩
  refine wpAny_pyIter_values (s := { s with heap := H1 }) (knd := intKind C.prog C.w) hv1 hat1 ?_
  have nI : H1.get? H1.objs.size = none := get_none (Nat.le_refl _)
  have haI : a ≠ H1.objs.size := by rintro rfl; obtain ⟨o, _, e, _⟩ := hat1; rw [nI] at e; cases e
  have pin1 : Pin (pa q pc) H1 := b.pin.keeps k1
  have hlen := dv_len hdv
  refine ⟨⟨_, _, rfl, fun _ _ e => Heap.get?_push_of_some _ e⟩, H1.objs.size, rfl, itg_of ⟨[H1.objs.size, a], [H1.objs.size], fun i v => ∃ k, vs[i]? = some (k, v), fun i h => h.IsValIter H1.objs.size a i vs.length ep ∧ h.DictAt (intKind C.prog C.w) a vs ep, ?_, ?_, ?_, ?_, ?_, ?_, ?_, ?_⟩⟩
  · have := Walks.dictValues (prog := C.prog) (w := C.w) (knd := intKind C.prog C.w) (A := A) b.a.h H1.objs.size a haI vs ep
    rwa [show (kvs.map fun p => I p.2).length = vs.length by rw [List.length_map, hlen]]
  · exact ⟨⟨_, Heap.get?_push_size _ rfl, rfl, rfl⟩, dictAt_keep hat1 fun o e => Heap.get?_push_of_some _ e⟩
  · rintro i v t ⟨k, hv⟩ ht
    obtain ⟨⟨k', j⟩, hj, rfl⟩ := of_at ht
    obtain ⟨tk, hvi⟩ := dv_at hdv hj
    rw [hvi] at hv; cases hv
    exact ⟨tk, rfl⟩
  · intro d hd; rw [List.mem_singleton.mp hd]; exact nI
  · intro d hd
    rw [show ({ s with heap := H1.push { cls := .type "dict_valueiterator", data := .fields #[.ref a, .int 0 0, .int vs.length 0, .int ep 0] } } : Shared).heap.objs.size = H1.objs.size + 1 from Heap.size_push ..]
    rcases List.mem_cons.mp hd with rfl | hd
    · exact Nat.lt_succ_self _
    · rw [List.mem_singleton.mp hd]; obtain ⟨o, _, e, _⟩ := hat1; exact Nat.lt_succ_of_lt (Heap.lt_size e)
  · rintro i h ⟨⟨o1, h1, _⟩, o, es, h2, _⟩ d hd
    rcases List.mem_cons.mp hd with rfl | hd
    · exact ⟨_, h1⟩
    · rw [List.mem_singleton.mp hd]; exact ⟨o, h2⟩
  · intro d hd
    rcases List.mem_cons.mp hd with rfl | hd
    · exact pin1.size
    · rw [List.mem_singleton.mp hd]; exact hg.1
  · intro d hd o e v hdv
    rcases List.mem_cons.mp hd with rfl | hd
    · have e' := Heap.get?_push_size H1 (o := { cls := .type "dict_valueiterator", data := .fields #[.ref a, .int 0 0, .int vs.length 0, .int ep 0] }) rfl
      have e2 := e'.symm.trans e
      cases e2; cases hdv
    · rw [List.mem_singleton.mp hd] at e
      obtain ⟨o', es, e3, _, e4, _⟩ := hat1
      have e5 := (Heap.get?_push_of_some { cls := .type "dict_valueiterator", data := .fields #[.ref a, .int 0 0, .int vs.length 0, .int ep 0] } e3).symm.trans e
      cases e5; rw [e4] at hdv; cases hdv
end
end Mine

end
/-! Fw24 -/
section
open PySem PySem.W PyProof.Rows PySem.Calls
set_option maxRecDepth 100000
set_option linter.all false
namespace Mine
section
variable {C : Cx} {n : Nat} {env : Env} {ρ ρr : Rho} {ow : Str → Prop} {Pre : Assn} {R : Po} {L : T → Prop} {F : Owns}

theorem step_put {q : Addr → Prop} {s : Shared} {h' : Heap} {tk : Nat} {x : Str} (hs : Heap.SameBut (tgt env x) s.heap h') (hq : q (tgt env x)) : Step q s { s with heap := h', toks := tk } q :=
  ⟨⟨_, _, rfl⟩, fun d o hd e => hs.extBut d o (by rintro rfl; exact hd hq) e, fun _ z => z, fun _ z => .inl z⟩
theorem unp {A : Around} {E : Value → Shared → Prop} {s : Shared} {a : Addr} {items : Array Value} {k : Nat} {Q : List Value → Shared → Prop} (hh : A.handled = none) (ht : s.heap.IsTuple a items) (hn : k = items.size)
    (hQ : ∀ h', Heap.ExtBut s.heap.objs.size s.heap h' → Q items.toList { s with heap := h' }) : wpAny (model C.prog C.w) A (unpackItems (.ref a) k none) Q E s := by
  subst hn; exact PySem.wpAny_unpackItems_tuple hh ht hQ
/-- x, y = (e1, e2) on two locals: y is bound ahead of x -/
theorem x_swap {x y : Str} {px py pt pos vp : Pos} {k vk : Nat} {es : List Expr} {t0 t1 : T} {Q : Assn} (hr : Rd C n env ow Pre ρr L) (h0 : L (TU [t0, t1])) (he : Ev C n env ρr (.Tuple es vk vp) (TU [t0, t1])) (hx : canPut env x = true) (hox : env.kindOf x = some .cell → ow x) (hy : canPut env y = true) (hoy : env.kindOf y = some .cell → ow y)
    (h1 : Puts env ow Pre y t1 Q) (h2 : Puts env ow Q x t0 R.nx)
    (hs : swapsWithSole [.Tuple [.Name x px, .Name y py] k pt] (.Tuple es vk vp) pos.line env = pure false)
    (hw : swappedStores [.Tuple [.Name x px, .Name y py] k pt] (.Tuple es vk vp) env = pure (some [x, y])) :
    X1 C n env ow Pre (.Assign [.Tuple [.Name x px, .Name y py] k pt] (.Tuple es vk vp) pos) R := fun A m q pc s b hP => by
  obtain ⟨p', hpc, sit, lift⟩ := hr _ _ _ _ _ b hP
  refine Assign_Tuple_swapped (wpAny_mono (he _ _ _ _ sit) (fun v s1 x1 => ?_) fun _ _ z => z) hs hw
  obtain ⟨k1, hv⟩ := x1
  obtain ⟨a, vs, j, rfl, hg, hf⟩ := lift0 (fun r => lift _ h0 _ _ r k1) hv
  match vs, hf with
  | [v0, v1], hf =>
    refine unp (items := #[v0, v1]) b.a.h (isTuple_of hg) rfl fun h₃ hx₃ => ?_
    have hk3 : Hs s1.heap h₃ := fun d o e => hx₃ d o (Nat.ne_of_lt (Heap.lt_size e)) e
    have K3 : Keeps s { s1 with heap := h₃ } := keeps_trans k1 (keeps_mk hk3)
    have b3 := b.keeps K3
    show wpAny _ _ (do holding [v0] (bindName env y v1); do holding [] (bindName env x v0); pure ()) _ _ _
    refine wpAny_bind (wpAny_holding (wpAny_bindName (store_base b3 hy hoy fun h' tk b' hs hq => ?_)))
    refine wpAny_bind (wpAny_holding (wpAny_bindName (store_base b' hx hox fun h'' tk' b'' hs' hq' => wpAny_pure ?_)))
    have e1 : t1.P (vw (pa q pc) h₃) v1 := t1.mono (sub_vw hk3) hf.2.1
    have e0 : t0.P (vw (pa q pc) h') v0 := t0.mono (vw_sub fun d o hd e => ⟨hd, hs.extBut d o (by rintro rfl; exact hd (.inr hq)) (hk3 _ _ e)⟩) hf.1
    have q1 := h1 _ _ _ _ _ _ b3.w hq (Pre.mono (keeps_hs K3) hP) e1 fun d o hd e => hs.extBut d o hd e
    have q2 := h2 _ _ _ _ _ _ b'.w hq' q1 e0 fun d o hd e => hs'.extBut d o hd e
    exact ⟨_, q, b'', (Step.of_keeps K3).trans ((step_put (s := { s1 with heap := h₃ }) hs hq).trans (step_put (s := { s1 with heap := h', toks := tk }) hs' hq')), q2⟩
/-- x, y = e, e a tuple from elsewhere -/
theorem x_unpack {target e : Expr} {elts : List Expr} {k : Nat} {pt pos : Pos} {t : T} (ht : target = .Tuple elts k pt) (hr : Rd C n env ow Pre ρr L) (hL : L t) (he : Ev C n env ρr e t) (ha : Asg C n env ow target Pre t R.nx)
    (hs : swapsWithSole [target] e pos.line env = pure false) (hw : swappedStores [target] e env = pure none) : X1 C n env ow Pre (.Assign [target] e pos) R := fun A m q pc s b hP => by
  subst ht
  obtain ⟨p', hpc, sit, lift⟩ := hr _ _ _ _ _ b hP
  refine Assign_Tuple (wpAny_mono (he _ _ _ _ sit) (fun v s1 x1 => ?_) fun _ _ z => z) hs hw
  obtain ⟨k1, hv⟩ := x1
  refine wpAny_mono (ha _ _ _ _ _ _ (b.keeps k1) (Pre.mono (keeps_hs k1) hP) (lift0 (fun r => lift _ hL _ _ r k1) hv)) (fun _ s2 x2 => ?_) fun _ _ z => z
  obtain ⟨m', b', S', hq⟩ := x2
  exact ⟨m', q, b', (Step.of_keeps k1).trans S', hq⟩
/-- x = y = z = e -/
theorem x_assign3 {x y z : Str} {px py pz pos : Pos} {e : Expr} {t : T} {Q W : Assn} (hr : Rd C n env ow Pre ρr L) (hL : L t) (he : Ev C n env ρr e t) (hx : canPut env x = true) (hox : env.kindOf x = some .cell → ow x) (hy : canPut env y = true) (hoy : env.kindOf y = some .cell → ow y) (hz : canPut env z = true) (hoz : env.kindOf z = some .cell → ow z)
    (h1 : Puts env ow Pre x t Q) (h2 : Puts env ow Q y t W) (h3 : Puts env ow W z t R.nx) (hw : swappedStores [.Name x px, .Name y py, .Name z pz] e env = pure none) : X1 C n env ow Pre (.Assign [.Name x px, .Name y py, .Name z pz] e pos) R := fun A m q pc s b hP => by
  obtain ⟨p', hpc, sit, lift⟩ := hr _ _ _ _ _ b hP
  refine wpAny_Assign_three (wpAny_mono (he _ _ _ _ sit) (fun v s1 x1 => ?_) fun _ _ z => z) rfl hw
  obtain ⟨k1, hv⟩ := x1
  have b1 := b.keeps k1
  have tv : t.P (vw (pa q pc) s1.heap) v := lift0 (fun r => lift _ hL _ _ r k1) hv
  refine wpAny_assign_Name (store_base b1 hx hox fun h' tk b' hs hq => ?_)
  refine wpAny_assign_Name (store_base b' hy hoy fun h'' tk' b'' hs' hq' => ?_)
  refine wpAny_assign_Name (store_base b'' hz hoz fun h''' tk'' b''' hs'' hq'' => ?_)
  have sub1 : Sub (vw (pa q pc) s1.heap) (vw (pa q pc) h') := vw_sub fun d o hd e => ⟨hd, hs.extBut d o (by rintro rfl; exact hd (.inr hq)) e⟩
  have sub2 : Sub (vw (pa q pc) h') (vw (pa q pc) h'') := vw_sub fun d o hd e => ⟨hd, hs'.extBut d o (by rintro rfl; exact hd (.inr hq')) e⟩
  have q1 := h1 _ _ _ _ _ _ b1.w hq (Pre.mono (keeps_hs k1) hP) tv fun d o hd e => hs.extBut d o hd e
  have q2 := h2 _ _ _ _ _ _ b'.w hq' q1 (t.mono sub1 tv) fun d o hd e => hs'.extBut d o hd e
  have q3 := h3 _ _ _ _ _ _ b''.w hq'' q2 (t.mono sub2 (t.mono sub1 tv)) fun d o hd e => hs''.extBut d o hd e
  exact ⟨_, q, b''', (Step.of_keeps k1).trans ((step_put hs hq).trans ((step_put (s := { s1 with heap := h', toks := tk }) hs' hq').trans (step_put (s := { s1 with heap := h'', toks := tk' }) hs'' hq''))), q3⟩

theorem ow_drop {F' : Owns} (h : F'.Sublist F) : Imp (Ow env ρ F) (Ow env ρ F') := fun _ _ _ _ z => ⟨z.v, fun a sp ha => z.o a sp (h.subset ha), z.d.sublist (h.map _)⟩

/-- a class's own value -/
theorem ev_clsattr {x attr : Str} {np pos : Pos} {cls : Addr} {y : Str} {tk : Tok} {mc : Value} (hx : Ev C n env ρ (.Name x np) (V (.ref cls))) (hm : typeIn C.K (.ref cls) = some mc) (hr : readsIn C.K cls mc = true) (hf : findCls C.K (.ref cls) mc attr = some (.val (.str y tk))) : Ev C n env ρ (.Attribute (.Name x np) attr pos) (S y) := fun A m p s st =>
  Attribute_name (wpAny_mono (hx _ _ _ _ st) (fun v s1 x1 => by
    obtain ⟨k1, rfl⟩ := x1
    exact cls_value (st.keeps k1).g.k hr hf rfl ⟨keeps_trans k1 (keeps_tok _ _), tk, rfl⟩) fun _ _ z => z)

/-- the signs of a str -/
theorem iop_str {e : Expr} {c : Str} {pc0 : Pos} {x : Str} (hr : Rd C n env ow Pre ρr L) (he : Ev C n env ρr e (S x)) (ha : strIterType x = "str_ascii_iterator") : IoP C n env ow Pre (.Name c pc0) e (x.cps.toList.map fun d => S ⟨#[d]⟩) := fun A m q pc s b hP => by
  obtain ⟨p', hpc, sit, lift⟩ := hr _ _ _ _ _ b hP
  refine wpAny_mono (he _ _ _ _ sit) (fun v s1 x1 => ?_) fun _ _ z => z
  obtain ⟨k1, t, rfl⟩ := x1
  have pin1 := b.pin.keeps (keeps_hs k1)
  refine ⟨k1, wpAny_pyIter_strU ⟨⟨_, _, rfl, fun _ _ e => Heap.get?_push_of_some _ e⟩, s1.heap.objs.size, rfl, itg_of ⟨[s1.heap.objs.size], [s1.heap.objs.size], SignAt x, fun i h => h.IsStrIter s1.heap.objs.size "str_ascii_iterator" x t i, ?_, ?_, ?_, ?_, ?_, ?_, ?_, ?_⟩⟩⟩
  · have := Walks.strAscii (prog := C.prog) (w := C.w) (A := A) b.a.h s1.heap.objs.size x t
    rwa [show (x.cps.toList.map fun d => S ⟨#[d]⟩).length = x.cps.size by simp]
  · exact ⟨_, Heap.get?_push_size _ rfl, by rw [ha], rfl⟩
  · rintro i v tt ⟨c, u, hc, rfl⟩ hi
    obtain ⟨d, hd, rfl⟩ := of_at hi
    have : c = d := by
      have h2 : x.cps.toList[i]? = some c := by simpa using hc
      rw [h2] at hd; exact Option.some.inj hd
    subst this
    exact ⟨u, rfl⟩
  · intro d hd; rw [List.mem_singleton.mp hd]; exact get_none (Nat.le_refl _)
  · intro d hd
    rw [List.mem_singleton.mp hd]
    show _ < (Heap.push _ _).objs.size
    rw [Heap.size_push]; exact Nat.lt_succ_self _
  · rintro i h ⟨o, h1, _⟩ d hd
    rw [List.mem_singleton.mp hd]; exact ⟨_, h1⟩
  · intro d hd; rw [List.mem_singleton.mp hd]; exact pin1.size
  · intro d hd o e v hdv
    rw [List.mem_singleton.mp hd] at e
    have e' := Heap.get?_push_size s1.heap (o := { cls := .type (strIterType x), data := .fields #[.str x t, .int 0 0] }) rfl
    have e2 := e'.symm.trans e
    cases e2; cases hdv

theorem fn_tuple_list {ts : List T} (hl : ts.length ≤ 4096) : Fn C n (.type "tuple") [LL ts] (TU ts) := by
  rintro A p s vs hA g q hf
  match vs, hf with
  | [_], ⟨⟨a, ws, k, rfl, hg, hf⟩, _⟩ =>
    have h2 := hf.length
    refine call_tuple_list (isList_of hg) (fun h' hk => ?_) (by rw [List.size_toArray, sizeLine_eq]; omega)
    have kk : Hs s.heap (h'.push { cls := .type "tuple", data := .seq ws.toArray }) := fun _ _ e => Heap.get?_push_of_some _ (hk _ _ e)
    exact ⟨⟨_, _, rfl, kk⟩, _, ws, 0, rfl, ⟨(q.keeps hk).size, Heap.get?_push_size _ rfl⟩, hf.mono (sub_vw kk)⟩
end
end Mine

end
/-! Fw25 -/
section
open PySem PySem.W PyProof.Rows PySem.Calls
set_option maxRecDepth 100000
set_option linter.all false
namespace Mine
section
variable {C : Cx} {n : Nat} {env : Env} {ρ ρr : Rho} {ow : Str → Prop}

theorem fa_rev {g : View} : ∀ {ts : List T} {vs : List Value}, Fa g ts vs → Fa g ts.reverse vs.reverse
  | [], [], _ => trivial
  | t :: ts, v :: vs, h => by
    rw [List.reverse_cons, List.reverse_cons]
    exact (fa_rev h.2).append ⟨h.1, trivial⟩
  | [], _ :: _, h => h.elim
  | _ :: _, [], h => h.elim
theorem fa_of {g : View} : ∀ {ts : List T} {vs : List Value}, vs.length = ts.length → (∀ (i : Nat) (t : T) (v : Value), ts[i]? = some t → vs[i]? = some v → t.P g v) → Fa g ts vs
  | [], [], _, _ => trivial
  | t :: ts, v :: vs, hl, h => ⟨h 0 t v rfl rfl, fa_of (by simpa using hl) fun i t v e1 e2 => h (i + 1) t v (by simpa using e1) (by simpa using e2)⟩
  | [], _ :: _, hl, _ => by simp at hl
  | _ :: _, [], hl, _ => by simp at hl
def repS (c k : Nat) : Str := ⟨(List.replicate k c).toArray⟩
theorem mulOk_1 {c : Nat} : ∀ k : Nat, k ≤ 200 → MulOk ⟨#[c]⟩ (k : Int) := by
  intro k hk
  refine ⟨by simp; omega, fun h1 h2 => ?_, fun h1 h2 => ?_⟩
  · simp only [Str.length, List.size_toArray, List.length_singleton]
    rw [Int.not_gt_eq, Int.le_ediv_iff_mul_le (by omega)]
    show (1 : Int) * (k : Int) ≤ 2 ^ 63 - 1
    omega
  · simp only [Str.length, List.size_toArray, List.length_singleton, Builtin.Str.tooLong]
    simp only [Nat.one_mul, Int.toNat_natCast, decide_eq_false_iff_not, Nat.not_lt]
    rw [sizeLine_eq]; omega
theorem ev_revs {value : Expr} {p0 p1 p2 pos : Pos} {ts : List T} {x1 : Nat} (hv : Ev C n env ρ value (LL ts)) (hl : ts.length ≤ 4096) (ht : ∀ o r, letTemporaryGo value o r = pure ()) :
    Ev C n env ρ (.Subscript value (.Slice none none (some (.UnaryOp .USub (.Constant (.int 1) x1 p2) p1)) p0) pos) (LL ts.reverse) := fun A m p s st => by
  refine wpAny_Subscript_Slice_step (T := "list") slot_list_getitem.lookup (wpAny_mono (hv _ _ _ _ st) (fun v s1 x1 => ?_) fun _ _ z => z) ht
  obtain ⟨k1, a, vs, k, rfl, hg, hf⟩ := x1
  have hl2 := hf.length
  have hmin : Ev C n env ρ (.UnaryOp .USub (.Constant (.int 1) x1 p2) p1) (I (-1)) := ev_un ev_int un_neg
  rw [arm_eval_Slice]
  refine wpAny_bind (wpAny_pure (a := Value.none) (wpAny_bind (wpAny_holding (wpAny_pure (a := Value.none) (wpAny_bind (wpAny_holding ?_))))))
  refine wpAny_mono (hmin _ _ _ _ (st.keeps k1)) (fun v2 s2 x2 => ?_) fun _ _ z => z
  obtain ⟨k2, u, rfl⟩ := x2
  refine wpAny_newObj_type ?_
  have k12 := keeps_trans k1 k2
  have kp : Hs s2.heap (s2.heap.push { cls := .type "slice", data := .fields #[.none, .none, .int (-1) u] }) := fun _ _ e => Heap.get?_push_of_some _ e
  have hg2 := keeps_hs k2 _ _ hg.2
  refine ⟨⟨_, kp _ _ hg2, rfl⟩, ?_⟩
  refine wpAny_getItem_list_slice (items := vs.toArray) (lo := none) (hi := none) (st := some (-1)) ⟨_, kp _ _ hg2, rfl, _, rfl⟩ (Heap.IsSliceOf.new ..) .none .none (.int _ _) (by decide) ?_ (by rw [List.size_toArray, sizeLine_eq]; omega)
  rw [krv_pick]
  have k3 : Keeps s1 { s2 with heap := (s2.heap.push { cls := .type "slice", data := .fields #[.none, .none, .int (-1) u] }).push { cls := .type "list", data := .seq (vs.toArray.toList.reverse.toArray) } } := keeps_trans k2 ⟨_, _, rfl, fun _ _ e => Heap.get?_push_of_some _ (kp _ _ e)⟩
  refine ⟨keeps_trans k1 k3, _, vs.reverse, 0, rfl, ⟨((st.keeps k12).pin.keeps kp).size, by simpa using Heap.get?_push_size (s2.heap.push { cls := .type "slice", data := .fields #[.none, .none, .int (-1) u] }) (o := { cls := .type "list", data := .seq (vs.toArray.toList.reverse.toArray) }) rfl⟩, ?_⟩
  exact (fa_rev hf).mono (sub_vw (keeps_hs k3))
theorem fn_tuple_str {x : Str} (hx : x.cps.size ≤ 4096) : Fn C n (.type "tuple") [S x] (TU (x.cps.toList.map fun c => S ⟨#[c]⟩)) := by
  rintro A p s vs hA g q hf
  match vs, hf with
  | [_], ⟨⟨t, rfl⟩, _⟩ =>
    refine call_tuple_str hA.h x t (fun h' tk acc hk ha => ?_) (by rw [sizeLine_eq]; omega)
    have kk : Hs s.heap (h'.push { cls := .type "tuple", data := .seq acc }) := fun _ _ e => Heap.get?_push_of_some _ (hk _ _ e)
    refine ⟨⟨_, _, rfl, kk⟩, h'.objs.size, acc.toList, 0, rfl, ⟨(q.keeps hk).size, by simpa using Heap.get?_push_size h' (o := { cls := .type "tuple", data := .seq acc }) rfl⟩, ?_⟩
    refine fa_of (by simp [ha.1]) fun i tt v h1 h2 => ?_
    obtain ⟨d, hd, rfl⟩ := of_at h1
    obtain ⟨c, u, hc, rfl⟩ := ha.2 i v (by simpa using h2)
    have : c = d := by
      have h3 : x.cps.toList[i]? = some c := by simpa using hc
      rw [h3] at hd; exact Option.some.inj hd
    subst this
    exact ⟨u, rfl⟩
theorem fn_list_range {b : Int} {N : Nat} (hs : Builtin.Range.small 0 b 1 = true) (hN : Builtin.Range.rangeSize 0 b 1 = N) (hl : N ≤ 4096) : Fn C n (.type "list") [RG 0 b 1] (LL ((List.range N).map fun (i : Nat) => I (0 + (i : Int) * 1))) := by
  rintro A p s vs hA g q hf
  match vs, hf with
  | [_], ⟨⟨r, t, u, v, rfl, hg⟩, _⟩ =>
    refine call_list_range hA.h hg.2 hs hN (by omega) fun h' tk acc' c' hk hd hi => ?_
    refine ⟨⟨_, _, rfl, hk⟩, s.heap.objs.size, acc'.toList, c', rfl, ⟨q.size, by simpa using hd⟩, ?_⟩
    refine fa_of (by simp [hi.1]) fun i tt v h1 h2 => ?_
    obtain ⟨_, rfl⟩ := of_range h1
    exact hi.2 i v (by simpa using h2)
theorem perm_eq : ∀ {a b : List Int}, a.Perm b → a.Pairwise (· ≤ ·) → b.Pairwise (· ≤ ·) → a = b
  | [], b, h, _, _ => (List.nil_perm.mp h).symm
  | x :: a, [], h, _, _ => absurd h.symm (by intro h; have := h.length_eq; simp at this)
  | x :: a, y :: b, h, ha, hb => by
    obtain ⟨h1, h2⟩ := List.pairwise_cons.mp ha
    obtain ⟨h3, h4⟩ := List.pairwise_cons.mp hb
    have e : x = y := by
      have hx : x ∈ y :: b := h.mem_iff.mp (.head _)
      have hy : y ∈ x :: a := h.mem_iff.mpr (.head _)
      rcases List.mem_cons.mp hx with e | hx
      · exact e
      · rcases List.mem_cons.mp hy with e | hy
        · exact e.symm
        · exact Int.le_antisymm (h1 y hy) (h3 x hx)
    subst e
    rw [perm_eq h.cons_inv h2 h4]
theorem ints_are {g : View} : ∀ {is : List Int} {vs : List Value}, Fa g (is.map I) vs → IntsAre vs is
  | [], [], _ => .nil
  | [], _ :: _, h => h.elim
  | _ :: _, [], h => h.elim
  | x :: r, v :: vs, h => by
    obtain ⟨⟨t, rfl⟩, h2⟩ := h
    exact .cons x t (ints_are h2)
theorem fn_sorted_ints {is is' : List Int} (hl : is.length < 64) (hp : is'.Perm is) (hs : is'.Pairwise (· ≤ ·)) : Fn C n (.builtin "sorted") [LL (is.map I)] (LL (is'.map I)) := by
  rintro A p s vs hA g q hf
  match vs, hf with
  | [_], ⟨⟨a, ws, k, rfl, hg, hf⟩, _⟩ =>
    have hI : IntsAre ws is := ints_are hf
    have hlen := hf.length
    refine sorted_ints (isList_of hg) hI (by rw [hlen, List.length_map]; exact hl) fun out ns' hi' hp' hs' => ?_
    have e : ns' = is' := perm_eq (hp'.trans hp.symm) hs' hs
    subst e
    obtain ⟨ee, he⟩ := sortedAll_at s.heap ws out
    refine ⟨⟨_, _, rfl, fun b o e => sortedAll_old e⟩, s.heap.objs.size + 1, out.toList, ee, rfl, ⟨fun z => ?_, by simpa using he⟩, fa_ints hi'⟩
    obtain ⟨o, e⟩ := q _ z
    rw [get_none (Nat.le_succ _)] at e; cases e
end
end Mine

end
/-! Fw26 -/
section
open PySem PySem.W PyProof.Rows PySem.Calls
set_option maxRecDepth 100000
set_option linter.all false
set_option maxHeartbeats 4000000
namespace Mine
section
variable {C : Cx} {A : Around} {E : Value → Shared → Prop} {s : Shared} {a kS : Addr} {vs : List Value} {ss : List Str} {e1 : Nat} {P : PySem.Fin → Shared → Prop} {f : Value}

theorem srt_tail {st : SortSt} {e : Nat} {keys : Array Value} (nk : s.heap.get? kS = some (seqObj "list" keys e)) (na : s.heap.get? a = some (seqObj "list" #[] e1)) (hka : kS ≠ a) (hks : keys.size ≤ 100) (hos : (arrOf st).size ≤ 100) (hfl : failedOf st = none)
    (h : ∀ h' tk c, h'.get? a = some (seqObj "list" ((arrOf st).map (·.2)) c) → (∀ b o, b ≠ kS → b ≠ a → s.heap.get? b = some o → h'.get? b = some o) → P (.done (.ret .none)) { s with heap := h', toks := tk }) :
    wpAny (model C.prog C.w) A (ksk_tail a false e1 (.ref kS) st) P E s := by
  have s1 := Heap.SameBut.update s.heap kS (Obj.mapSeq fun _ => (#[] : Array Value))
  have na1 : (s.heap.update kS (Obj.mapSeq fun _ => (#[] : Array Value))).get? a = some (seqObj "list" #[] e1) := (s1.2 a hka.symm).trans na
  have s2 := Heap.SameBut.update (s.heap.update kS (Obj.mapSeq fun _ => (#[] : Array Value))) a (Obj.mapSeq fun _ => (arrOf st).map (·.2))
  obtain ⟨c2, hc2⟩ : ∃ c2, ((s.heap.update kS (Obj.mapSeq fun _ => (#[] : Array Value))).update a (Obj.mapSeq fun _ => (arrOf st).map (·.2))).get? a = some (seqObj "list" ((arrOf st).map (·.2)) c2) :=
    ⟨_, get?_update_seq na1 fun _ => (arrOf st).map (·.2)⟩
  unfold ksk_tail
  try dsimp only
  refine wpAny_bind (listUpdate_at nk rfl ?_ (by rw [sizeLine_eq]; omega) (Nat.zero_le _))
  refine wpAny_bind (wpAny_letGo ?_)
  refine wpAny_bind (seqEpoch_at na1 rfl ?_)
  refine wpAny_bind (listUpdate_at na1 rfl ?_ (Nat.zero_le _) (by simp; rw [sizeLine_eq]; omega))
  rw [hfl]
  simp only [bne_self_eq_false, Bool.false_eq_true, if_false]
  exact wpAny_pure (h _ _ c2 hc2 fun b o q1 q2 e => s2.extBut b o q2 (s1.extBut b o q1 e))

def Ends (a kS : Addr) (ss : List Str) (s : Shared) (P : PySem.Fin → Shared → Prop) : Prop := ∀ h' tk out c ss', h'.get? a = some (seqObj "list" out c) → (∀ b o, b ≠ kS → b ≠ a → s.heap.get? b = some o → h'.get? b = some o) → StrsAre out.toList ss' → ss'.Perm ss → sortedS ss' = true → P (.done (.ret .none)) { s with heap := h', toks := tk }
theorem srt_end {e : Nat} (nk : s.heap.get? kS = some (seqObj "list" vs.toArray e)) (na : s.heap.get? a = some (seqObj "list" #[] e1)) (hka : kS ≠ a) (hS : StrsAre vs ss) (h64 : vs.length < 64) (h : Ends a kS ss s P) :
    wpAny (model C.prog C.w) A (ksk_end a false vs.toArray e1 (.ref kS) vs.toArray) P E s := by
  unfold ksk_end
  try dsimp only
  simp only [Bool.false_eq_true, if_false]
  by_cases h2 : vs.toArray.size < 2
  · rw [if_pos h2, if_pos h2]
    refine wpAny_bind (wpAny_pure ?_)
    rw [StateT.run_pure]
    refine wpAny_bind (wpAny_pure ?_)
    try dsimp only
    have hsz : vs.toArray.size = vs.length := by simp
    obtain ⟨ss', a1, a2, a3⟩ := sorted_out_str hS (xs := vs.toArray.zip vs.toArray) (Array.Perm.refl _) (by
      intro i j hij hj
      have : i = j := by rw [pairsOf_size] at hj; omega
      subst this; exact KeyOrd.kle_refl _)
    exact srt_tail (C := C) (st := SortSt.mk' general' (vs.toArray.zip vs.toArray) #[] 7 none) nk na hka (by simp; omega) (by show (pairsOf vs).size ≤ 100; rw [pairsOf_size]; omega) rfl fun h' tk c hc hk => h h' tk _ c ss' hc hk a1 a2 a3
  · rw [if_neg h2, if_neg h2]
    have hsz : vs.toArray.size = vs.length := by simp
    obtain ⟨v₁, v₂, rest, rfl⟩ : ∃ v₁ v₂ rest, vs = v₁ :: v₂ :: rest := by
      match vs, hsz, h2 with
      | [], _, h2 => simp at h2
      | [_], _, h2 => simp at h2
      | v₁ :: v₂ :: rest, _, _ => exact ⟨v₁, v₂, rest, rfl⟩
    rw [keyKind_strs hS]
    refine wpAny_bind (wpAny_pure ?_)
    refine wpAny_bind (wpAny_mono (wpS_sortRunsK (κ := strKind) strKind_oneLt (a₀ := pairsOf (v₁ :: v₂ :: rest)) (st := SortSt.mk' oneType' ((v₁ :: v₂ :: rest).toArray.zip (v₁ :: v₂ :: rest).toArray) #[] 7 none)
      (Q := fun _ st' => (arrOf st').Perm (pairsOf (v₁ :: v₂ :: rest)) ∧ failedOf st' = none ∧ SortedToK strKind (arrOf st') (pairsOf (v₁ :: v₂ :: rest)).size)
      hS.keysOf ⟨Array.Perm.refl _, rfl, rfl, rfl⟩ (by rw [pairsOf_size]; simp) (by rw [pairsOf_size]; exact h64) fun st' a1 a2 a3 => ⟨a1, a2, a3⟩) ?_ fun _ _ e => e)
    rintro ⟨⟨⟩, st'⟩ s' ⟨rfl, hp, hf, hs⟩
    try dsimp only
    obtain ⟨ss', a1, a2, a3⟩ := sorted_out_str hS hp hs
    exact srt_tail (C := C) nk na hka (by rw [List.size_toArray]; omega) (by rw [hp.size_eq, pairsOf_size]; omega) hf fun h' tk c hc hk => h h' tk _ c ss' hc hk a1 a2 a3

theorem srt_rest (nk : s.heap.get? kS = some (seqObj "list" #[] 0)) (na : s.heap.get? a = some (seqObj "list" #[] e1)) (hka : kS ≠ a) (hS : StrsAre vs ss) (h64 : vs.length < 64) (hG : GOk C s.heap) (htk : C.top.get? kS = none)
    (turn : ∀ v ∈ vs, ∀ s', GOk C s'.heap → wpAny (model C.prog C.w) A (call f [v]) (fun r s'' => r = v ∧ Keeps s' s'') noE s') (h : Ends a kS ss s P) :
    wpAny (model C.prog C.w) A (ksk_rest a f false vs.toArray e1 (.ref kS)) P E s := by
  unfold ksk_rest
  refine wpAny_bind (wpAny_rule ?_)
  first
    | rw [List.forIn_toArray]
    | (rw [← Array.forIn_toList]; simp only [List.toList_toArray])
    | rw [← Array.forIn_toList]
  refine wpAny_bind (ksk_fold (fun i s' => ∃ h' tk kA e, s' = { s with heap := h', toks := tk } ∧ (∀ b o, b ≠ kS → s.heap.get? b = some o → h'.get? b = some o) ∧ h'.get? kS = some (seqObj "list" kA e) ∧ kA.toList = vs.take i) vs 0 s
    ⟨s.heap, s.toks, #[], 0, rfl, fun _ _ _ e => e, nk, by simp⟩ ?step ?done)
  case step =>
    rintro j x s' hx ⟨h', tk, kA, e, rfl, hk, hkS, hl⟩
    simp only [Nat.zero_add] at hl ⊢
    have hG' : GOk C h' := { hG with sub := fun b o e => hk b o (by rintro rfl; rw [htk] at e; cases e) (hG.sub b o e) }
    have hj : j < vs.length := (List.getElem?_eq_some_iff.mp hx).1
    have hz : kA.size ≤ 64 := by
      have := congrArg List.length hl
      simp at this; omega
    refine wpAny_bind (wpAny_attempt (wpAny_mono (turn x (List.mem_of_getElem? hx) _ hG') (fun v s'' he => ?_) fun _ _ hF => hF.elim))
    obtain ⟨rfl, g, tk2, rfl, kg⟩ := he
    try dsimp only
    have s1 := Heap.SameBut.update g kS (Obj.mapSeq (·.push v))
    obtain ⟨c2, hc2⟩ : ∃ c2, (g.update kS (Obj.mapSeq (·.push v))).get? kS = some (seqObj "list" (kA.push v) c2) := ⟨_, get?_update_seq (kg _ _ hkS) (·.push v)⟩
    refine wpAny_bind (listUpdate_at (kg _ _ hkS) rfl ?_ (by rw [sizeLine_eq]; omega) (Nat.le_trans (Nat.le_of_eq (Array.size_push ..)) (by rw [sizeLine_eq]; omega)))
    refine wpAny_pure ⟨rfl, _, _, kA.push v, c2, rfl, fun b o hb e => s1.extBut b o hb (kg b o (hk b o hb e)), hc2, ?_⟩
    rw [Array.toList_push, hl, List.take_add_one, hx]; rfl
  case done =>
    rintro s' ⟨h', tk, kA, e, rfl, hk, hkS, hl⟩
    have ek : kA = vs.toArray := by
      have : kA.toList = vs := by rw [hl, Nat.zero_add, List.take_length]
      rw [← this]
    subst ek
    try dsimp only
    refine wpAny_bind (listItems_at hkS rfl ?_)
    exact srt_end (C := C) (s := { s with heap := h', toks := tk }) hkS (hk _ _ hka.symm na) hka hS h64 fun h3 tk3 out c ss' b1 b2 b3 b4 b5 => h h3 tk3 out c ss' b1 (fun b o q1 q2 e => b2 b o q1 q2 (hk b o q1 e)) b3 b4 b5

theorem srt_sort {n : Nat} (ho : s.heap.get? a = some (seqObj "list" vs.toArray n)) (hS : StrsAre vs ss) (h64 : vs.length < 64) (hG : GOk C s.heap) (hta : C.top.get? a = none)
    (turn : ∀ v ∈ vs, ∀ s', GOk C s'.heap → wpAny (model C.prog C.w) A (call f [v]) (fun r s'' => r = v ∧ Keeps s' s'') noE s')
    (h : ∀ h' tk out c ss', h'.get? a = some (seqObj "list" out c) → (∀ b o, b ≠ a → s.heap.get? b = some o → h'.get? b = some o) → StrsAre out.toList ss' → ss'.Perm ss → sortedS ss' = true → P (.done (.ret .none)) { s with heap := h', toks := tk }) :
    wpAny (model C.prog C.w) A (ksk_tree a f false) P E s := by
  have ha : a < s.heap.objs.size := Heap.lt_size ho
  have s1 := Heap.SameBut.update s.heap a (Obj.mapSeq fun _ => (#[] : Array Value))
  obtain ⟨e1, ho1⟩ : ∃ e1, (s.heap.update a (Obj.mapSeq fun _ => (#[] : Array Value))).get? a = some (seqObj "list" #[] e1) := ⟨_, get?_update_seq ho fun _ => #[]⟩
  unfold ksk_tree
  refine wpAny_bind (listItems_at ho rfl ?_)
  refine wpAny_bind (listUpdate_at ho rfl ?_ (by rw [List.size_toArray, sizeLine_eq]; omega) (Nat.zero_le _))
  refine wpAny_bind (seqEpoch_at ho1 rfl ?_)
  refine wpAny_bind (wpAny_newTuple ?_ (by show vs.length ≤ _; rw [sizeLine_eq]; omega))
  refine wpAny_bind (wpAny_newList ?_ (Nat.zero_le _))
  refine wpAny_holding ?_
  generalize hH : (s.heap.update a (Obj.mapSeq fun _ => (#[] : Array Value))).push (seqObj "tuple" vs.toArray 0) = H
  have k1 : ∀ b o, b ≠ a → s.heap.get? b = some o → H.get? b = some o := fun b o hb e => by rw [← hH]; exact Heap.get?_push_of_some _ (s1.extBut b o hb e)
  have kS0 : s.heap.get? H.objs.size = none := get_none (by rw [← hH, size_push', Heap.size_update]; exact Nat.le_succ _)
  have hne : H.objs.size ≠ a := Nat.ne_of_gt (by rw [← hH, size_push', Heap.size_update]; exact Nat.lt_succ_of_lt ha)
  have ht0 : C.top.get? H.objs.size = none := by
    cases e : C.top.get? H.objs.size with
    | none => rfl
    | some o => rw [hG.sub _ _ e] at kS0; cases kS0
  refine srt_rest (C := C) (s := { s with heap := H.push (seqObj "list" #[] 0) }) (kS := H.objs.size) (Heap.get?_push_size _ rfl) (Heap.get?_push_of_some _ (by rw [← hH]; exact Heap.get?_push_of_some _ ho1)) hne hS h64 { hG with sub := fun b o e => Heap.get?_push_of_some _ (k1 b o (by rintro rfl; rw [hta] at e; cases e) (hG.sub b o e)) } ht0 turn ?_
  intro h' tk out c ss' b1 b2 b3 b4 b5
  exact h h' tk out c ss' b1 (fun b o hb e => b2 b o (by rintro rfl; rw [kS0] at e; cases e) hb (Heap.get?_push_of_some _ (k1 b o hb e))) b3 b4 b5
end
end Mine

end
/-! Fw27 -/
section
open PySem PySem.W PyProof.Rows PySem.Calls
set_option maxRecDepth 100000
set_option linter.all false
set_option maxHeartbeats 4000000
namespace Mine
section
variable {C : Cx} {n : Nat} {env : Env} {ρ ρr : Rho} {ow : Str → Prop}
theorem strs_are {g : View} : ∀ {ss : List Str} {vs : List Value}, Fa g (ss.map S) vs → StrsAre vs ss
  | [], [], _ => .nil
  | [], _ :: _, h => h.elim
  | _ :: _, [], h => h.elim
  | x :: r, v :: vs, h => by
    obtain ⟨⟨t, rfl⟩, h2⟩ := h
    exact .cons x t (strs_are h2)
theorem fa_strs {g : View} : ∀ {ss : List Str} {vs : List Value}, StrsAre vs ss → Fa g (ss.map S) vs := by
  intro ss vs h
  induction h with
  | nil => trivial
  | cons k t h2 ih => exact ⟨⟨t, rfl⟩, ih⟩

theorem sorted_key_wp {A : Around} {p : Addr → Prop} {s : Shared} {ss out : List Str} {q : Addr} {v : Value} (hA : AOk (n + 2) A) (hG : GOk C s.heap) (hp : Pin p s.heap) (hv : (LL (ss.map S)).P (vw p s.heap) v) (h64 : ss.length < 64)
    (hf : ∀ v, Fn C n (.ref q) [V v] (V v)) (hu : ∀ ss', ss'.Perm ss → sortedS ss' = true → ss' = out) :
    wpAny (model C.prog C.w) A (call (.builtin "sorted") [v] [("key", .ref q)]) (Gives p (LL (out.map S)) s) noE s := by
  obtain ⟨l, vs, k, rfl, hg, hfa⟩ := hv
  have hS := strs_are hfa
  have hlen : vs.length = ss.length := by simpa using hfa.length
  have hl := isList_of hg
  refine call_function_entry_kw kind_sorted plain_sorted entry_sorted (ksk_s1 _ _) ?_
  unfold Builtin.«sorted»
  refine wpAny_bind (m := checkCount "sorted" 1 1 _) (wpAny_pure ?_)
  refine wpAny_bind (collect_list hl ?_ (by rw [sizeLine_eq]; omega))
  refine wpAny_bind (wpAny_newList ?_ (by rw [sizeLine_eq]; omega))
  have hsz : ((s.heap.push (seqObj "list" #[] 0)).update s.heap.objs.size (Obj.mapSeq (· ++ vs.toArray))).objs.size = s.heap.objs.size + 1 := by
    rw [Heap.size_update, size_push']
  have hoL : (((s.heap.push (seqObj "list" #[] 0)).update s.heap.objs.size (Obj.mapSeq (· ++ vs.toArray))).push (seqObj "list" vs.toArray 0)).get? (s.heap.objs.size + 1) = some (seqObj "list" vs.toArray 0) := by
    rw [← hsz]; exact Heap.get?_push_size _ rfl
  have keep : Hs s.heap (((s.heap.push (seqObj "list" #[] 0)).update s.heap.objs.size (Obj.mapSeq (· ++ vs.toArray))).push (seqObj "list" vs.toArray 0)) := fun b o q => by
    have hlt : b < s.heap.objs.size := Heap.lt_size q
    rw [Heap.get?_push_ne _ _ _ (by rw [hsz]; exact Nat.ne_of_lt (Nat.lt_succ_of_lt hlt)), Heap.get?_update_ne _ _ _ _ (Nat.ne_of_lt hlt), Heap.get?_push_ne _ _ _ (Nat.ne_of_lt hlt)]
    exact q
  show wpAny _ _ _ _ _ { s with heap := ((s.heap.push (seqObj "list" #[] 0)).update s.heap.objs.size (Obj.mapSeq (· ++ vs.toArray))).push (seqObj "list" vs.toArray 0) }
  rw [hsz]
  have n1 : s.heap.get? (s.heap.objs.size + 1) = none := get_none (Nat.le_succ _)
  have ht1 : C.top.get? (s.heap.objs.size + 1) = none := by
    cases e : C.top.get? (s.heap.objs.size + 1) with
    | none => rfl
    | some o => rw [hG.sub _ _ e] at n1; cases n1
  refine wpAny_bind (wpAny_holding (wpAny_call_entry_kw slot_list_sort ⟨_, hoL, rfl⟩ entry_list_sort ?body (ksk_l1 _ _)))
  case body =>
    have ht' := ksk_t1 q (s.heap.objs.size + 1)
    show wpAny (model C.prog C.w) A.in1.in1 (Builtin.«list.sort» ⟨[.ref (s.heap.objs.size + 1)], [(Str.ofString "key", .ref q)]⟩) _ _ _
    rw [ht']
    refine srt_sort (C := C) (s := { s with heap := ((s.heap.push (seqObj "list" #[] 0)).update s.heap.objs.size (Obj.mapSeq (· ++ vs.toArray))).push (seqObj "list" vs.toArray 0) }) hoL hS (by omega) (hG.keeps keep) ht1 (fun v hv s' hG' => ?_) fun h' tk o c ss' b1 b2 b3 b4 b5 => ⟨_, rfl, ?_⟩
    · refine wpAny_mono (hf v A.in1.in1 (fun _ => False) s' [v] hA.in1.in1 hG' (fun b hb => hb.elim) ⟨rfl, trivial⟩) (fun r s'' x => ⟨x.2, x.1⟩) fun _ _ z => z
    · refine wpAny_pure ⟨_, rfl, ?_⟩
      have e := hu ss' b4 b5
      subst e
      have kk : Hs s.heap h' := fun b o e => b2 b o (by rintro rfl; rw [n1] at e; cases e) (keep b o e)
      refine ⟨⟨h', tk, rfl, kk⟩, s.heap.objs.size + 1, o.toList, c, rfl, ⟨hp.fresh n1, by simpa using b1⟩, fa_strs b3⟩

theorem ev_sorted_key {m : Nat} {x : Str} {np pos : Pos} {e ke : Expr} {kws : List Keyword} {ss out : List Str} {q : Addr} (hn : n = m + 2) (hx : Ev C n env ρ (.Name x np) (V (.builtin "sorted"))) (he : Ev C n env ρ e (LL (ss.map S))) (hk : Ev C n env ρ ke (V (.ref q))) (h64 : ss.length < 64)
    (hf : ∀ v, Fn C m (.ref q) [V v] (V v)) (hu : ∀ ss', ss'.Perm ss → sortedS ss' = true → ss' = out)
    (hs : starEach [e] env = [(false, eval e env)]) (hkw : backToKw pos (keywordEach kws env) = [(some (Str.ofString "key"), do let v ← eval ke env; standAt pos; pure v)]) : Ev C n env ρ (.Call (.Name x np) [e] kws pos) (LL (out.map S)) := fun A mm p s st => by
  subst hn
  refine wpAny_Call_Name_kw (wpAny_mono (hx _ _ _ _ st) (fun v s1 x1 => ?_) fun _ _ q => q)
  obtain ⟨k1, rfl⟩ := x1
  rw [hs, hkw]
  refine callWith_builtin_kwB rfl rfl (evalArgs_kwB rfl (spliced_cons (wpAny_mono (he _ _ _ _ (st.keeps k1)) (fun v s2 x2 => spliced_nil ?_) fun _ _ z => z)))
  obtain ⟨k2, hv⟩ := x2
  have k12 := keeps_trans k1 k2
  show wpAny _ A (evalAll [do let v ← eval ke env; standAt pos; pure v]) _ _ _
  refine evalAll_cons (wpAny_bind (wpAny_mono (hk _ _ _ _ (st.keeps k12)) (fun q' s3 x3 => wpAny_bind (wpAny_standAt (wpAny_pure (evalAll_nil ?_)))) fun _ _ z => z))
  obtain ⟨k3, rfl⟩ := x3
  have k13 := keeps_trans k12 k3
  exact up k13 (sorted_key_wp st.a (st.keeps k13).g (st.keeps k13).pin (T.mono _ (sub_vw (keeps_hs k3)) hv) h64 hf hu)
end
end Mine

end
/-! Fw28 -/
section
open PySem PySem.W PyProof.Rows PySem.Calls
set_option maxRecDepth 100000
set_option linter.all false
namespace Mine
section
variable {C : Cx} {n : Nat} {env : Env} {ρ : Rho}
/-- what a dict comprehension's turns give -/
inductive CRD (C : Cx) (n : Nat) (env : Env) (ρ : Rho) (scope : Scope) (x : Str) (kx vx : Expr) : List T → KV → Prop
  | nil : CRD C n env ρ scope x kx vx [] []
  | cons {t : T} {k i : Int} {ts : List T} {us : KV} : InEv C n env ρ scope x t kx (I k) → InEv C n env ρ scope x t vx (I i) → CRD C n env ρ scope x kx vx ts us → CRD C n env ρ scope x kx vx (t :: ts) ((k, i) :: us)
def putsD (acc us : KV) : KV := us.foldl (fun a p => kstore a p.1 p.2) acc
theorem crd_len {scope : Scope} {x : Str} {kx vx : Expr} : ∀ {ts : List T} {us : KV}, CRD C n env ρ scope x kx vx ts us → us.length = ts.length
  | _, _, .nil => rfl
  | _, _, .cons _ _ h => by simp [crd_len h]
theorem kstore_len' (kvs : KV) (k i : Int) : (kstore kvs k i).length ≤ kvs.length + 1 := by
  unfold kstore; split
  · rw [List.length_map]; omega
  · simp

theorem comp_loopD {A : Around} {s1 s : Shared} {m mm : Str → Option Value} {p : Addr → Prop} {ce : Env} {scope : Scope} {x : Str} {px : Pos} {iter kx vx : Expr} {pos : Pos} {ts : List T} {us : KV} {Ia D : Addr}
    {fp wr : List Addr} {P : Nat → Value → Prop} {St : Nat → Heap → Prop} {cs : List (Str × Addr)} {L0 : Addr}
    (hce : ce = cenv scope cs L0 env)
    (hA : AOk n A) (hG : GOk C s1.heap) (hpin : Pin p s1.heap) (hv : Vars m (vw p s1.heap) ρ) (hρ : ρ.lookup (".0" : Str) = none)
    (hk1 : Hs s1.heap s.heap) (F : FrR ce mm s.heap) (hmm : ∀ y, y ≠ x → y ≠ (".0" : Str) → mm y = m y)
    (W : Walks C.prog C.w A Ia fp wr ts.length P St) (hst : St 0 s.heap) (hty : ∀ (i : Nat) v t, P i v → ts[i]? = some t → t.P (vw p s1.heap) v)
    (hwe : ∀ i h, St i h → ∀ b ∈ wr, ∃ o, h.get? b = some o) {oD : Obj}
    (hD : s.heap.get? D = some oD) (hDo : DIo C [] oD) (hDf : D ∉ fp) (hLf : ce.locals ∉ fp) (hcf : ∀ y c, (ce.kindOf y = some .cell ∨ ce.kindOf y = some .free) → ce.cells.lookup y = some c → c ∉ fp)
    (hDl : ce.locals ≠ D) (hDc : ∀ y c, (ce.kindOf y = some .cell ∨ ce.kindOf y = some .free) → ce.cells.lookup y = some c → c ≠ D)
    (hx : ce.kindOf x = some .local ∨ ce.kindOf x = some .cell)
    (hi : ∀ y c, y ≠ x → (ce.kindOf y = some .cell ∨ ce.kindOf y = some .free) → ce.cells.lookup y = some c → ce.kindOf x = some .cell → ce.cells.lookup x ≠ some c)
    (fD : s1.heap.get? D = none) (fT : s1.heap.get? (tgt ce x) = none) (fL : s1.heap.get? ce.locals = none) (fW : ∀ b ∈ wr, s1.heap.get? b = none)
    (hcr : CRD C n env ρ scope x kx vx ts us) (hsz : ts.length ≤ 4096)
    {R : Result → Shared → Prop}
    (hR : ∀ h' tk o ml, Hs s1.heap h' → h'.Ns ce.locals ml → h'.get? D = some o → DIo C (putsD [] us) o → R (.ok .next) { s with heap := h', toks := tk }) :
    codeAny (model C.prog C.w) A (.compLoop (.DictComp kx vx [⟨.Name x px, iter, [], 0⟩] scope pos) 0 (.ref Ia) (.ref D) ce) R s := by
  let p1 : Addr → Prop := fun b => p b ∨ b = D ∨ b = tgt ce x ∨ b = ce.locals ∨ b ∈ wr
  have fr : ∀ b, (b = D ∨ b = tgt ce x ∨ b = ce.locals ∨ b ∈ wr) → s1.heap.get? b = none := by
    rintro b (rfl | rfl | rfl | q)
    · exact fD
    · exact fT
    · exact fL
    · exact fW b q
  have hwf : ∀ b ∈ wr, b ∈ fp := W.sub
  have tex : ∀ {m' h}, FrR ce m' h → ∃ o, h.get? (tgt ce x) = some o := by
    intro m' h F
    unfold tgt
    rcases hx with q | q
    · rw [if_pos q]
      obtain ⟨ml, ⟨o, es, ep, e1, e2, _⟩, _⟩ := F.loc
      exact ⟨o, e1⟩
    · rw [if_neg (by rw [q]; decide)]
      obtain ⟨c, e1, o, e2, e3⟩ := F.cel x (.inl q)
      rw [e1]
      exact ⟨o, e2⟩
  have tDne : tgt ce x ≠ D := by
    unfold tgt
    rcases hx with q | q
    · rw [if_pos q]; exact hDl
    · rw [if_neg (by rw [q]; decide)]
      obtain ⟨c, e1, _⟩ := F.cel x (.inl q)
      rw [e1]; exact hDc x c (.inl q) e1
  have tfp : tgt ce x ∉ fp := by
    unfold tgt
    rcases hx with q | q
    · rw [if_pos q]; exact hLf
    · rw [if_neg (by rw [q]; decide)]
      obtain ⟨c, e1, _⟩ := F.cel x (.inl q)
      rw [e1]; exact hcf x c (.inl q) e1
  refine codeAny_compLoop_testsD
    (fun k s' => ∃ h tk m' o acc us2 i, s' = { s with heap := h, toks := tk } ∧ i ≤ ts.length ∧ k = ts.length + 1 - i ∧ St i h ∧ h.get? D = some o ∧ DIo C acc o ∧ acc.length ≤ i ∧ FrR ce m' h ∧ (∀ y, y ≠ x → m' y = mm y) ∧
      CRD C n env ρ scope x kx vx (ts.drop i) us2 ∧ putsD [] us = putsD acc us2 ∧ (∀ b o, b ≠ D → b ≠ tgt ce x → b ∉ wr → s.heap.get? b = some o → h.get? b = some o)) ?_ (ts.length + 1)
    ⟨s.heap, s.toks, mm, oD, [], us, 0, rfl, Nat.zero_le _, rfl, hst, hD, hDo, Nat.le_refl _, F, fun _ _ => rfl, by simpa using hcr, rfl, fun _ _ _ _ _ e => e⟩
  rintro k s' ⟨h, tk, m', o, acc, us2, i, rfl, hile, rfl, hSt, hDh, hacc, hal, hF, hm', hcr', hput, hkp⟩
  have hs1 : Hs s1.heap h := fun b o e => by
    refine hkp b o ?_ ?_ ?_ (hk1 b o e)
    · rintro rfl; rw [fD] at e; cases e
    · rintro rfl; rw [fT] at e; cases e
    · intro q; rw [fW b q] at e; cases e
  by_cases hlt : i < ts.length
  · obtain ⟨t, ht⟩ : ∃ t, ts[i]? = some t := ⟨_, List.getElem?_eq_getElem hlt⟩
    have hdrop : ts.drop i = t :: ts.drop (i + 1) := by
      rw [List.getElem?_eq_getElem hlt] at ht
      rw [← Option.some.inj ht]; exact List.drop_eq_getElem_cons hlt
    refine W.item i _ _ _ hlt hSt fun v h₁ tk₁ hPv hSt₁ hk₁ => ?_
    have F₁ : FrR ce m' h₁ := hF.butL (fun q => hLf (hwf _ q)) (fun y c q1 q2 q3 => hcf y c q1 q2 (hwf _ q3)) hk₁
    have hD₁ : h₁.get? D = some o := hk₁ _ _ (fun q => hDf (hwf _ q)) hDh
    refine wpAny_assign_Name (store_wp (s := { s with heap := h₁, toks := tk₁ }) F₁ hx hi fun h₂ tk₂ F₂ hs₂ => ?_)
    have hD₂ : h₂.get? D = some o := hs₂.extBut _ _ (Ne.symm tDne) hD₁
    have hSt₂ : St (i + 1) h₂ := W.frame _ _ _ hSt₁ fun b hb o e => hs₂.extBut b o (fun q => tfp (q ▸ hb)) e
    have up₂ : ∀ b o, b ≠ tgt ce x → b ∉ wr → h.get? b = some o → h₂.get? b = some o := fun b o q1 q2 e => hs₂.extBut b o q1 (hk₁ b o q2 e)
    have hs1₂ : Hs s1.heap h₂ := fun b o e => up₂ b o (by rintro rfl; rw [fT] at e; cases e) (fun q => by rw [fW b q] at e; cases e) (hs1 b o e)
    have tP : t.P (vw p s1.heap) v := hty i v t hPv ht
    have sub1 : ∀ {h'}, Hs s1.heap h' → Sub (vw p s1.heap) (vw p1 h') := fun hh => vw_sub fun b o q e => ⟨fun q' => q'.elim q (fun q' => by rw [fr b q'] at e; cases e), hh b o e⟩
    have pin1 : ∀ {h' m''}, Hs s1.heap h' → FrR ce m'' h' → (∃ o, h'.get? D = some o) → St (i + 1) h' → Pin p1 h' := by
      intro h' m'' hh FF hd hst'
      rintro b (q | rfl | rfl | rfl | q)
      · exact (hpin.keeps hh) b q
      · exact hd
      · exact tex FF
      · obtain ⟨ml, ⟨o, _, _, e, _⟩, _⟩ := FF.loc; exact ⟨o, e⟩
      · exact hwe _ _ hst' b q
    have sit₂ : Sit C n ce ((x, t) :: ρ) A (upd m' x v) p1 { s with heap := h₂, toks := tk₂ } := by
      refine ⟨hA, F₂, ?_, hG.keeps hs1₂, pin1 hs1₂ F₂ ⟨_, hD₂⟩ hSt₂⟩
      refine Vars.put' (fun y u hyx e' => ?_) (t.mono (sub1 hs1₂) tP)
      obtain ⟨w', h1, h2⟩ := hv y u e'
      refine ⟨w', ?_, u.mono (sub1 hs1₂) h2⟩
      rw [hm' y hyx, hmm y hyx (by rintro rfl; rw [hρ] at e'; cases e'), h1]
    subst hce
    rw [hdrop] at hcr'
    cases hcr' with
    | cons h1 h2 h3 =>
      rename_i kk ii us2
      refine wpAny_tests_nil ?_
      simp only [if_true]
      refine wpAny_mono (h1 cs L0 _ _ _ _ sit₂) (fun kv s4 x4 => ?_) fun _ _ q => q.elim
      obtain ⟨⟨h4, tk4, rfl, k4⟩, tk5, rfl⟩ := x4
      have sit₄ := sit₂.keeps (s' := { s with heap := h4, toks := tk4 }) ⟨h4, tk4, rfl, k4⟩
      refine wpAny_mono (h2 cs L0 _ _ _ _ sit₄) (fun vv s5 x5 => ?_) fun _ _ q => q.elim
      obtain ⟨⟨h5, tk6, rfl, k5⟩, tk7, rfl⟩ := x5
      have k25 : Hs h₂ h5 := fun b o e => k5 b o (k4 b o e)
      have hD₅ : h5.get? D = some o := k25 _ _ hD₂
      obtain ⟨vs, hdo, hdv⟩ := dio_of hD₅ hacc
      refine wpAny_dictSet_pairs (knd := intKind C.prog C.w) (hsz := by rw [dv_len hdv, sizeLine_eq]; omega) (isInt_of kk tk5) hdo fun h6 hl6 hs6 => ?_
      obtain ⟨o', g1, g2⟩ := dio_to (C := C) hl6 (dv_store (t := tk7) hdv)
      refine ⟨ts.length + 1 - (i + 1), by omega, h6, _, upd m' x v, o', kstore acc kk ii, us2, i + 1, rfl, hlt, rfl, ?_, g1, g2, Nat.le_trans (kstore_len' _ _ _) (by omega), ?_, fun z hz => by rw [upd_ne hz]; exact hm' z hz, h3, hput, ?_⟩
      · exact W.frame _ _ _ hSt₂ fun b hb o e => hs6.extBut b o (fun q => hDf (q ▸ hb)) (k25 b o e)
      · exact (F₂.keeps k25).butL (wr := [D]) (fun q => hDl (List.mem_singleton.mp q)) (fun y c q1 q2 q3 => hDc y c q1 q2 (List.mem_singleton.mp q3)) (fun b o q e => hs6.extBut b o (by simpa using q) e)
      · exact fun b o q1 q2 q3 e => hs6.extBut b o q1 (k25 b o (up₂ b o q2 q3 (hkp b o q1 q2 q3 e)))
  · have hie : i = ts.length := by omega
    subst hie
    rw [List.drop_length] at hcr'
    cases hcr'
    refine W.done _ _ _ hSt fun h₁ tk₁ hk₁ => ?_
    have F₁ : FrR ce m' h₁ := hF.butL (fun q => hLf (hwf _ q)) (fun y c q1 q2 q3 => hcf y c q1 q2 (hwf _ q3)) hk₁
    obtain ⟨ml, hn, _⟩ := F₁.loc
    exact hR h₁ tk₁ o ml (fun b o e => hk₁ b o (fun q => by rw [fW b q] at e; cases e) (hs1 b o e)) hn (hk₁ _ _ (fun q => hDf (hwf _ q)) hDh) (by rw [hput]; exact hacc)


theorem ev_dictcomp {scope : Scope} {x : Str} {px : Pos} {iter kx vx : Expr} {pos : Pos} {ts : List T} {us : KV}
    (hio : Io C n env ρ iter ts) (ok0 : scopeOK env scope x = true) (hρ : ρ.lookup (".0" : Str) = none) (hcr : CRD C n env ρ scope x kx vx ts us) (hsz : ts.length ≤ 4096)
    (hs : ∀ v, foldedSetIterable iter env v = pure v) : Ev C n env ρ (.DictComp kx vx [⟨.Name x px, iter, [], 0⟩] scope pos) (DI C (putsD [] us)) := fun A m p s st => by
  rw [arm_eval_DictComp]
  have ok := scopeOK_is ok0
  refine wpAny_comprehension_free (use := none) (g := ⟨.Name x px, iter, [], 0⟩) (gs := []) rfl hs (closure_is fun y hy => ?_) ok.kind (fun y hy e => (ok.loc y.1 (by rw [← e]; exact hy)).1) ?_
  · obtain ⟨c, h1, _⟩ := st.f.cel y (ok.free y hy).1
    exact ⟨c, h1⟩
  refine wpAny_mono (hio _ _ _ _ st) (fun xv s1 x1 => ?_) fun _ _ q => q
  obtain ⟨k1, x1⟩ := x1
  refine wpAny_mono x1 (fun it s2 x2 => ?_) fun _ _ q => q
  obtain ⟨k2, Ia, rfl, fp, wr, P, St, W, hst, hty, hwf, hfs, hwe, hfp, hfc⟩ := x2
  have st1 := st.keeps k1
  have st2 := st1.keeps k2
  refine wpAny_newObj_type (nfe ?_)
  dsimp only
  have hnewD : (s2.heap.push { cls := .type "dict", dict := none, data := .dict #[] }).DictOf (intKind C.prog C.w) s2.heap.objs.size [] := Heap.DictOf.new s2.heap
  generalize hH : s2.heap.push { cls := .type "dict", dict := none, data := .dict #[] } = H at hnewD
  obtain ⟨oD, hHD, hDo⟩ := dio_to (C := C) (kvs := []) hnewD trivial
  have hDdata : ∀ v, oD.data ≠ .cell v := fun v z => by obtain ⟨_, ⟨es, ep, _, e2, _⟩, _⟩ := hDo; rw [e2] at z; cases z
  have hHk : Hs s2.heap H := fun b o e => by rw [← hH]; exact Heap.get?_push_of_some _ e
  have hHs : H.objs.size = s2.heap.objs.size + 1 := by rw [← hH, Heap.size_push]
  obtain ⟨F, hs4, hsz4, hown, hcl⟩ := frr_comp (st2.f.keeps hHk) ok (h' := pushCells (H.push { cls := .type "dict", data := .dict #[] }) scope.names) rfl
  generalize hH4 : pushCells (H.push { cls := .type "dict", data := .dict #[] }) scope.names = H4 at F hs4 hsz4
  generalize hcs : cellsFrom (H.objs.size + 1) scope.names (clo env scope.names []) = cs at F hown hcl
  have k12 := keeps_hs k2
  have k1H : Hs s1.heap H := fun b o e => hHk b o (k12 b o e)
  have k14 : Hs s1.heap H4 := fun b o e => hs4 b o (k1H b o e)
  have n1 : ∀ b, s2.heap.objs.size ≤ b → s1.heap.get? b = none := fun b hb => by
    cases e : s1.heap.get? b with
    | none => rfl
    | some o => exact absurd (Heap.lt_size (k12 b o e)) (Nat.not_lt.mpr hb)
  have ns : ∀ b, s1.heap.get? b = none → s.heap.get? b = none := fun b e => by
    cases e' : s.heap.get? b with
    | none => rfl
    | some o => rw [keeps_hs k1 b o e'] at e; cases e
  have hxk : (cenv scope cs H.objs.size env).kindOf x = some .local ∨ (cenv scope cs H.objs.size env).kindOf x = some .cell := by
    rcases ok.own with q | q
    · exact .inl (lookup_relabel_local q)
    · exact .inr (lookup_relabel_cell q)
  have htgt : s2.heap.objs.size ≤ tgt (cenv scope cs H.objs.size env) x ∧ tgt (cenv scope cs H.objs.size env) x ∉ fp := by
    unfold tgt
    rcases hxk with q | q
    · rw [if_pos q]
      exact ⟨by show _ ≤ H.objs.size; omega, fun hm => by have := hfs _ hm; have : H.objs.size < s2.heap.objs.size := this; omega⟩
    · rw [if_neg (by rw [q]; decide)]
      have : scope.names.lookup x = some .cell := by
        rcases ok.own with q' | q'
        · have := lookup_relabel_local (env := env) q'
          have q2 : (relabel scope env).names.lookup x = some .cell := q
          unfold relabel at q2
          rw [this] at q2; cases q2
        · exact q'
      obtain ⟨c, e1, e2⟩ := hown this
      have e3 : (cenv scope cs H.objs.size env).cells.lookup x = some c := e1
      rw [e3]
      have e4 : s2.heap.objs.size ≤ c := Nat.le_trans (Nat.le_succ _) (Nat.le_trans (Nat.le_of_eq hHs.symm) (Nat.le_of_lt e2))
      exact ⟨e4, fun hm => Nat.lt_irrefl _ (Nat.lt_of_lt_of_le (hfs _ hm) e4)⟩
  have loop : ∀ s4 : Shared, s4 = { s2 with heap := H4 } →
      codeAny (model C.prog C.w) A (.compLoop (.DictComp kx vx [⟨.Name x px, iter, [], 0⟩] scope pos) 0 (.ref Ia) (.ref s2.heap.objs.size) (cenv scope cs H.objs.size env))
        (compPost (model C.prog C.w) A noE none (Gives p (DI C (putsD [] us)) s) (.ref s2.heap.objs.size) H.objs.size) s4 := by
    rintro s4 rfl
    refine comp_loopD (s1 := s1) (ρ := ρ) (us := us) (p := p) (oD := oD) rfl st.a st1.g st1.pin st1.v hρ k14 F (fun y q1 q2 => by unfold m0; rw [if_neg (fun q => q.elim q1 q2)]) W ?_ hty (fun i h st b hb => hwe i h st b (W.sub b hb)) (hs4 _ _ hHD) hDo
      (fun hm => Nat.lt_irrefl _ (hfs _ hm)) (fun hm => ?_) (fun y c hy e hm => ?_) (by show H.objs.size ≠ s2.heap.objs.size; omega) (fun y c hy e hm => ?_) hxk (fun y c hyx hy e hx e' => ?_) (n1 _ (Nat.le_refl _)) (n1 _ htgt.1) (n1 _ (by show _ ≤ H.objs.size; omega)) hwf hcr hsz ?_
    · exact W.frame _ _ _ hst fun b _ o e => hs4 b o (hHk b o e)
    · have : H.objs.size < s2.heap.objs.size := hfs _ hm
      omega
    · by_cases hyx : y = x
      · subst hyx
        have : c = tgt (cenv scope cs H.objs.size env) y := by
          unfold tgt
          rcases hxk with q | q
          · rcases hy with q' | q' <;> (rw [q] at q'; cases q')
          · rw [if_neg (by rw [q]; decide), e]; rfl
        exact htgt.2 (this ▸ hm)
      · obtain ⟨o, e1, e2⟩ := hcl y c hyx hy e
        have hlt := hfs _ hm
        have e1' : s2.heap.get? c = some o := by
          rw [← hH] at e1
          rwa [push_lt hlt] at e1
        exact hfc c hm o e1' _ e2
    · by_cases hyx : y = x
      · subst hyx
        have hxc : scope.names.lookup y = some .cell := by
          rcases ok.own with q' | q'
          · have := lookup_relabel_local (env := env) q'
            have q2 : (relabel scope env).names.lookup y = some .local := this
            have hy' : (relabel scope env).names.lookup y = some .cell ∨ (relabel scope env).names.lookup y = some .free := hy
            rw [q2] at hy'; rcases hy' with q' | q' <;> cases q'
          · exact q'
        obtain ⟨d, e3, e4⟩ := hown hxc
        have e5 : cs.lookup y = some c := e
        rw [e3] at e5; cases e5
        rw [hm] at e4
        omega
      · obtain ⟨o, e1, e2⟩ := hcl y c hyx hy e
        rw [hm, hHD] at e1
        cases e1
        exact hDdata _ e2
    · obtain ⟨o, e1, e2⟩ := hcl y c hyx hy e
      have hlt := Heap.lt_size e1
      have hxc : scope.names.lookup x = some .cell := by
        rcases ok.own with q' | q'
        · have := lookup_relabel_local (env := env) q'
          have q2 : (relabel scope env).names.lookup x = some .cell := hx
          unfold relabel at q2
          rw [this] at q2; cases q2
        · exact q'
      obtain ⟨d, e3, e4⟩ := hown hxc
      have e5 : cs.lookup x = some c := e'
      rw [e3] at e5; cases e5
      exact Nat.lt_irrefl _ (Nat.lt_trans e4 hlt)
    · intro h' tk o ml hk hns hD hDI
      have kk : Keeps s { s2 with heap := h', toks := tk } := by
        have k1' := keeps_hs k1
        obtain ⟨ha, ta, rfl, _⟩ := k1
        obtain ⟨hb, tb, rfl, _⟩ := k2
        exact ⟨h', tk, rfl, fun b o e => hk b o (k1' b o e)⟩
      have pD : ¬ p s2.heap.objs.size := fun q => by
        obtain ⟨o, e⟩ := st1.pin _ q
        rw [n1 _ (Nat.le_refl _)] at e; cases e
      have fL : s.heap.get? H.objs.size = none := ns _ (n1 _ (by omega))
      refine ⟨ml, hns, fun h'' hs'' => ⟨?_, s2.heap.objs.size, o, rfl, ⟨pD, hs''.extBut _ _ (by show s2.heap.objs.size ≠ H.objs.size; omega) hD⟩, hDI, not_sys st2.g⟩⟩
      have kk' := keeps_hs kk
      obtain ⟨ha, ta, e, _⟩ := kk
      refine ⟨h'', tk, ?_, fun b o e => hs''.extBut b o (by rintro rfl; rw [fL] at e; cases e) (kk' b o e)⟩
      obtain ⟨_, _, rfl, _⟩ := k1
      obtain ⟨_, _, rfl, _⟩ := k2
      rfl
  exact codeAny_compStart_dict (loop _ rfl) (W.self 0 _ _ _ (W.frame _ _ _ hst fun b _ o e => hs4 b o (hHk b o e)) (loop _ rfl))
end
end Mine

end
/-! Fw29 -/
section
open PySem PySem.W PyProof.Rows PySem.Calls
set_option maxRecDepth 100000
set_option linter.all false
namespace Mine
section
variable {C : Cx} {n : Nat} {env : Env} {ρ : Rho}
def hitsD (kb : KV) : KV → Bool
  | [] => true
  | (k, i) :: r => match kfind kb k with | none => false | some j => (i == j) && hitsD kb r
def eqD (ka kb : KV) : Bool := ka.length == kb.length && hitsD kb ka
theorem hits_of {A : Around} {s : Shared} {kb : KV} {vb : List (Int × Value)} (hb : DV kb vb) : ∀ {ka : KV} {va : List (Int × Value)}, DV ka va → KeqHits A s vb va (hitsD kb ka)
  | [], [], _ => .nil
  | (k, i) :: r, (k', v) :: r', h => by
    obtain ⟨rfl, ⟨t, rfl⟩, h3⟩ := h
    have hf := dv_find (k := k') hb
    unfold hitsD
    cases e : kfind kb k' with
    | none => rw [e] at hf; exact .miss hf
    | some j =>
      rw [e] at hf
      obtain ⟨u, hf⟩ := hf
      exact .hit hf (SeqAt.EqAt.int_int i t j u) (hits_of hb h3)
  | [], _ :: _, h => h.elim
  | _ :: _, [], h => h.elim
theorem cm_eqD {ka kb : KV} : Cm2 C n .Eq (DI C ka) (DI C kb) (B (eqD ka kb)) := by
  rintro A p s v w hA hG _ ⟨a, oa, rfl, ga, da, sa⟩ ⟨b, ob, rfl, gb, db, sb⟩
  obtain ⟨va, ha, hda⟩ := dio_of ga.2 da
  obtain ⟨vb, hb, hdb⟩ := dio_of gb.2 db
  refine keq_eq (by simpa using sa) (by simpa using sb) ha hb (Nat.lt_of_le_of_lt (Nat.le_add_right _ _) hA.units) (fun _ => hits_of hdb hda) ⟨keeps_refl _, ?_⟩
  rw [dv_len hda, dv_len hdb]; rfl
theorem cm_neD {ka kb : KV} : Cm2 C n .NotEq (DI C ka) (DI C kb) (B (!eqD ka kb)) := by
  rintro A p s v w hA hG _ ⟨a, oa, rfl, ga, da, sa⟩ ⟨b, ob, rfl, gb, db, sb⟩
  obtain ⟨va, ha, hda⟩ := dio_of ga.2 da
  obtain ⟨vb, hb, hdb⟩ := dio_of gb.2 db
  refine keq_ne (by simpa using sa) (by simpa using sb) ha hb (Nat.lt_of_le_of_lt (Nat.le_add_right _ _) hA.units) (fun _ => hits_of hdb hda) ⟨keeps_refl _, ?_⟩
  rw [dv_len hda, dv_len hdb]; rfl
theorem cm_isnotB {a b : Bool} : Cm2 C n .IsNot (B a) (B b) (B (!(a == b))) := by
  rintro A p s v w hA hG _ hv hw
  have hv : v = .bool a := hv
  have hw : w = .bool b := hw
  subst hv hw
  refine wpAny_isNot_plain rfl ⟨keeps_refl _, ?_⟩
  cases a <;> cases b <;> rfl
/-- x and y, on truth values; y is looked at where x is true -/
theorem ev_and2 {x y : Expr} {pos : Pos} {a b : Bool} (hx : Ev C n env ρ x (B a)) (hy : a = true → Ev C n env ρ y (B b)) : Ev C n env ρ (.BoolOp .And [x, y] pos) (B (a && b)) := fun A m p s st =>
  wpAny_And2 (wpAny_mono (hx _ _ _ _ st) (fun v s1 x1 => by
    obtain ⟨k1, rfl⟩ := x1
    refine wpAny_truthy_bool ?_
    cases a with
    | false => exact ⟨k1, rfl⟩
    | true => exact up k1 (wpAny_mono (hy rfl _ _ _ _ (st.keeps k1)) (fun v s2 x2 => ⟨x2.1, by simpa using x2.2⟩) fun _ _ z => z)) fun _ _ z => z)
end
end Mine

end
/-! F1 -/
section
open PySem PySem.W PyProof.Rows PySem.Calls
set_option maxRecDepth 100000
set_option linter.all false
namespace Mine
noncomputable def mkC (w : World) (mg mb : Str → Option Value) (top : Heap) : Cx := ⟨PySem.Challenge.pw_xp0033_01, w, hd.heap_39 w.params, mg, mb, top⟩
variable {w : World} {mg mb : Str → Option Value} {top : Heap}

def ltS (x y : Str) : Bool := decide (x.cps.toList < y.cps.toList)
def strcoll (x y : Str) : Int := b2i (ltS y x) - b2i (ltS x y)

set_option maxHeartbeats 2000000 in
theorem fn_strcoll {n : Nat} {x y : Str} : FnC (mkC w mg mb top) (n + 1) (.ref 64) [S x, S y] (I (strcoll x y)) := by
  refine fnc_plain (names := ["a", "b"]) (ho := by rfl) (hcd := by rfl) (hbody := by rfl) (hbind := ?_) (hlen := rfl) (hnd := by decide) (hcell := by decide) (hfree := by decide) (hloc := by decide) (hco := rfl) (hgen := rfl) (hk := rfl) (hgl := rfl) (hbu := rfl) (hclo := rfl) (h := ?_)
  · intro vs hv
    match vs, hv with
    | [_, _], _ => rfl
  · intro L
    refine xs_one (x_ret (rd (Imp.refl _)) ?_)
    refine ev_bin (ev_cmp (ev_name rfl rfl) (ev_name rfl rfl) cm_gts rfl) (ev_cmp (ev_name rfl rfl) (ev_name rfl rfl) cm_lts rfl) op_subb
end Mine

end
/-! F2 -/
section
open PySem PySem.W PyProof.Rows PySem.Calls
set_option maxRecDepth 100000
set_option linter.all false
namespace Mine
theorem Tr.eq {C : Cx} {n : Nat} {env : Env} {ρ : Rho} {e : Expr} {c d : Bool} (h : Tr C n env ρ e c) (q : c = d) : Tr C n env ρ e d := q ▸ h
theorem TrA.eq {C : Cx} {n : Nat} {env : Env} {ρ : Rho} {op : BoolOp} {e : List Expr} {c d : Bool} (h : TrA C n env ρ op e c) (q : c = d) : TrA C n env ρ op e d := q ▸ h
variable {w : World} {mg mb : Str → Option Value} {top : Heap}

structure Hdn (x : Str) : Prop where
  f : noFig x.cps
  l : x.cps.size ≤ 4096
  e : x.cps.size ≠ 0
  a : ∀ c, x.cps[0]? = some c → c ≠ 46
  z : ∀ c, x.cps[x.cps.size - 1]? = some c → c ≠ 46

theorem strc_ne {c : Nat} (h : c ≠ 46) : ((⟨#[c]⟩ : Str) == (".": Str)) = false := by
  rw [beq_eq_false_iff_ne]
  intro e
  have := congrArg (fun s : Str => s.cps[0]?) e
  have h2 : ((".": Str)).cps[0]? = some 46 := by decide
  simp only [h2] at this
  simp at this
  exact h this

set_option maxHeartbeats 4000000 in
theorem fn_is_hdn {n : Nat} {x : Str} (hx : Hdn x) : FnC (mkC w mg mb top) (n + 1) (.ref 50) [S x] (B true) := by
  obtain ⟨c0, hc0⟩ : ∃ c, x.cps[0]? = some c := ⟨_, Array.getElem?_eq_getElem (by have := hx.e; omega)⟩
  obtain ⟨c1, hc1⟩ : ∃ c, x.cps[x.cps.size - 1]? = some c := ⟨_, Array.getElem?_eq_getElem (by have := hx.e; omega)⟩
  have hl := hx.l
  have he := hx.e
  refine fnc_plain (names := ["text"]) (ho := by rfl) (hcd := by rfl) (hbody := by rfl) (hbind := ?_) (hlen := rfl) (hnd := by decide) (hcell := by decide) (hfree := by decide) (hloc := by decide) (hco := rfl) (hgen := rfl) (hk := rfl) (hgl := rfl) (hbu := rfl) (hclo := rfl) (h := ?_)
  · intro vs hv
    match vs, hv with
    | [_], _ => rfl
  · intro L
    refine xs_cons (Mid := LV _) (x_if (rd (Imp.refl _)) (tr_val (ev_search (a := 43) (b := 42) (ob := lst [] 0) (sl := #[]) (ev_global (v := .ref 43) rfl rfl rfl) (ev_name rfl rfl) (by rfl) (by rfl) (by rfl) (by rfl) (by rfl) (by simp [Builtin.Re.reRawOf, reCode]) hx.f (by omega) rfl rfl rfl) truly_none (fun _ => rfl)) (fun h => by cases h) fun _ => xs_nil (Imp.refl _)) ?_
    refine xs_cons (Mid := LV _) (x_if (rd (Imp.refl _)) (Tr.eq (d := false) (tr_cmp (ev_name rfl rfl) ev_str cm_eqs rfl) ?_) (fun h => by cases h) fun _ => xs_nil (Imp.refl _)) ?_
    · rw [beq_eq_false_iff_ne]; rintro rfl; exact hx.e rfl
    refine xs_cons (Mid := LV _) (x_if (rd (Imp.refl _)) (tr_bool (tra_or (c := false) (Tr.eq (tr_cmp (ev_sub (ev_name rfl rfl) ev_int (it_str (c := c0) (by decide) ?_) fun _ _ => rfl) ev_str cm_eqs rfl) (strc_ne (hx.a _ hc0))) fun _ => tra_or (c := false) (Tr.eq (tr_cmp (ev_sub (ev_name rfl rfl) (ev_un ev_int un_neg) (it_str (c := c1) (by decide) ?_) fun _ _ => rfl) ev_str cm_eqs rfl) (strc_ne (hx.z _ hc1))) fun _ => tra_or_nil)) (fun h => by cases h) fun _ => xs_nil (Imp.refl _)) ?_
    · simp [seqIndex?, Str.length]
      rw [if_pos (by omega)]; simpa using hc0
    · simp [seqIndex?, Str.length]
      rw [if_pos (by omega)]
      simp
      rw [← hc1]; congr 1; omega
    · exact xs_one (x_ret (rd (Imp.refl _)) ev_bool)
end Mine

end
/-! H1 -/
section
open PySem PySem.W PyProof.Rows PySem.Calls
set_option maxRecDepth 100000
set_option linter.all false
namespace Mine

def lcl : List Nat := [108, 111, 99, 97, 108]
def hst : List Nat → List Nat
  | [] => lcl
  | c :: w => c :: 46 :: hst w
def hs (w : List Nat) : Str := ⟨(hst w).toArray⟩
def Lets (w : List Nat) : Prop := ∀ c ∈ w, 97 ≤ c ∧ c ≤ 103
theorem at_dot {x : Str} {i : Nat} : StrLaws.At x ("." : Str) x.length i ↔ x.cps.toList[i]? = some 46 := by
  unfold StrLaws.At
  rw [StrLaws.subAt_eq, show ("." : Str) = ⟨#[46]⟩ from rfl]
  have hl : x.length = x.cps.toList.length := by simp [Str.length]
  rw [hl]
  generalize x.cps.toList = l
  show i + 1 ≤ l.length ∧ ((l.drop i).take 1 == [46]) = true ↔ l[i]? = some 46
  constructor
  · rintro ⟨h1, h2⟩
    have hi : i < l.length := by omega
    rw [show (l.drop i).take 1 = [l[i]] by rw [List.drop_eq_getElem_cons hi]; rfl] at h2
    rw [List.getElem?_eq_getElem hi]
    simpa using h2
  · intro h
    have hi : i < l.length := by
      rcases Nat.lt_or_ge i l.length with q | q
      · exact q
      · rw [List.getElem?_eq_none q] at h; cases h
    rw [List.getElem?_eq_getElem hi] at h
    refine ⟨hi, ?_⟩
    rw [show (l.drop i).take 1 = [l[i]] by rw [List.drop_eq_getElem_cons hi]; rfl]
    simpa using h
theorem hs_list (w : List Nat) : (hs w).cps.toList = hst w := by simp [hs]
theorem find_dot {c : Nat} {w : List Nat} (hc : c ≠ 46) : Txt.find (hs (c :: w)) ("." : Str) = 1 := by
  have h1 : StrLaws.At (hs (c :: w)) ("." : Str) (hs (c :: w)).length 1 := at_dot.mpr (by rw [hs_list]; rfl)
  rcases find_whole (hs (c :: w)) ("." : Str) with ⟨_, h⟩ | ⟨i, e, hi, hk⟩
  · exact absurd h1 (h 1)
  · rw [e]
    match i with
    | 0 =>
      have := at_dot.mp hi
      rw [hs_list] at this
      have q : c = 46 := by simpa [hst] using this
      exact absurd q hc
    | 1 => rfl
    | i + 2 => exact absurd h1 (hk 1 (by omega))
theorem find_nodot : Txt.find (hs []) ("." : Str) = -1 := by
  rcases find_whole (hs []) ("." : Str) with ⟨e, _⟩ | ⟨i, e, hi, hk⟩
  · exact e
  · have := at_dot.mp hi
    rw [hs_list] at this
    have hm : (46 : Nat) ∈ hst [] := List.mem_of_getElem? this
    simp [hst, lcl] at hm
theorem hst_len : ∀ w : List Nat, (hst w).length = 2 * w.length + 5
  | [] => rfl
  | c :: w => by simp only [hst, List.length_cons, hst_len w]; omega
theorem hs_len (w : List Nat) : (hs w).length = 2 * w.length + 5 := by
  have : (hs w).length = (hst w).length := by simp [hs, Str.length]
  rw [this, hst_len]
theorem hst_cut (c : Nat) (w : List Nat) : cutS (hs (c :: w)) 2 = hs w := by
  unfold cutS; rw [hs_list]; rfl
theorem hst_last : ∀ w : List Nat, (hst w)[(hst w).length - 1]? = some 108
  | [] => rfl
  | c :: w => by
    have h := hst_last w
    have hl := hst_len w
    show (c :: 46 :: hst w)[(hst w).length + 2 - 1]? = some 108
    rw [show (hst w).length + 2 - 1 = ((hst w).length - 1) + 1 + 1 by omega]
    simpa using h
theorem hst_head {w : List Nat} (h : Lets w) : ∃ c r, hst w = c :: r ∧ 97 ≤ c := by
  cases w with
  | nil => exact ⟨108, _, rfl, by decide⟩
  | cons c w => exact ⟨c, _, rfl, (h c (.head _)).1⟩
theorem hst_nf : ∀ {w : List Nat}, Lets w → ∀ i, (hst w).getD i 0 = 46 → Sre.isDigit ((hst w).getD (i + 1) 0) = false
  | [], _, i, h => by
    rcases i with _ | _ | _ | _ | _ | i <;> simp [hst, lcl] at h
  | c :: w, hw, 0, h => by
    have := hw c (.head _)
    simp [hst] at h; omega
  | c :: w, hw, 1, h => by
    obtain ⟨d, r, e, hd⟩ := hst_head (w := w) fun c hc => hw c (.tail _ hc)
    show Sre.isDigit ((c :: 46 :: hst w).getD 2 0) = false
    rw [e]
    show Sre.isDigit d = false
    unfold Sre.isDigit
    simp; omega
  | c :: w, hw, i + 2, h => hst_nf (w := w) (fun c hc => hw c (.tail _ hc)) i (by simpa [hst] using h)
theorem hdn_hs {c : Nat} {w : List Nat} (hw : Lets (c :: w)) (hl : w.length ≤ 100) : Hdn (hs (c :: w)) where
  f := fun i h => by
    have := hst_nf hw i
    simp only [hs, Array.getD_eq_getD_getElem?, List.getElem?_toArray, ← List.getD_eq_getElem?_getD] at h ⊢
    exact this h
  l := by have := hs_len (c :: w); simp only [Str.length, List.length_cons] at this; omega
  e := by have := hs_len (c :: w); simp only [Str.length, List.length_cons] at this; omega
  a := fun d h => by
    have := hw c (.head _)
    simp [hs, hst] at h; omega
  z := fun d h => by
    have := hst_last (c :: w)
    simp only [hs, List.getElem?_toArray, List.size_toArray] at h
    rw [this] at h
    cases h; decide

variable {w : World} {mg mb : Str → Option Value} {top : Heap}
theorem hs_nil : hs [] = ("local" : Str) := by decide
theorem ev_eq {C : Cx} {n : Nat} {env : Env} {ρ : Rho} {e : Expr} {t u : T} (h : Ev C n env ρ e t) (q : t = u) : Ev C n env ρ e u := q ▸ h
set_option maxHeartbeats 4000000 in
theorem fn_reach {n : Nat} {c : Nat} {l : List Nat} (hw : Lets (c :: l)) (hl : l.length ≤ 100) : FnC (mkC w mg mb top) (n + 2) (.ref 57) [S (hs (c :: l))] (S (("." : Str) ++ hs l)) := by
  have hc : c ≠ 46 := by have := hw c (.head _); omega
  refine fnc_plain (names := ["h"]) (ho := by rfl) (hcd := by rfl) (hbody := by rfl) (hbind := ?_) (hlen := rfl) (hnd := by decide) (hcell := by decide) (hfree := by decide) (hloc := by decide) (hco := rfl) (hgen := rfl) (hk := rfl) (hgl := rfl) (hbu := rfl) (hclo := rfl) (h := ?_)
  · intro vs hv
    match vs, hv with
    | [_], _ => rfl
  · intro L
    have hlen := hs_len (c :: l)
    have hlen2 := hs_len l
    simp only [List.length_cons] at hlen
    refine xs_cons (Mid := LV _) (x_assign (rd (Imp.refl _)) trivial (ev_eq (ev_find (ev_name rfl rfl) ev_str rfl rfl rfl) (by rw [find_dot hc])) rfl (fun h => by cases h) rfl puts_lv) ?_
    refine xs_cons (Mid := FF) (x_if (c := true) (rd (Imp.refl _)) (Tr.eq (tr_cmp (ev_name rfl rfl) ev_int cm_ge rfl) ?_) (fun _ => ?_) (fun h => by cases h)) (xs_false fun _ _ _ _ h => h)
    · rfl
    refine xs_cons (Mid := LV _) (x_assign (rd (Imp.refl _)) trivial (ev_eq (ev_strFrom (ev_name rfl rfl) (ev_bin (ev_name rfl rfl) ev_int op_add) (by omega) (by rw [hlen]; omega) (by rw [hlen, sizeLine_eq]; omega) (fun _ _ => rfl)) (by rw [show (1 + 1 : Int).toNat = 2 from rfl, hst_cut])) rfl (fun h => by cases h) rfl puts_lv) ?_
    refine xs_cons (Mid := LV _) (x_assign (rd (Imp.refl _)) trivial (ev_find (ev_name rfl rfl) ev_str rfl rfl rfl) rfl (fun h => by cases h) rfl puts_lv) ?_
    refine xs_one (x_if (c := true) (rd (Imp.refl _)) (tr_bool (TrA.eq (tra_and (tr_val (ev_call (ev_global (v := .ref 50) rfl rfl rfl) (evs_cons (ev_name rfl rfl) evs_nil rfl) (fn_is_hdn (hdn_hs hw hl)).fn rfl rfl rfl) truly_bool (fun _ => rfl)) fun _ => tra_and (c := true) (tr_bool (TrA.eq (tra_or (tr_cmp (ev_name rfl rfl) ev_int cm_ge rfl) fun _ => tra_or (tr_cmp (ev_name rfl rfl) ev_str cm_eqs rfl) fun _ => tra_or_nil) ?_)) fun _ => tra_and_nil) rfl)) (fun _ => ?_) (fun h => by cases h))
    · cases l with
      | nil => rw [find_nodot, hs_nil]; decide
      | cons d l => rw [find_dot (by have := hw d (.tail _ (.head _)); omega)]; rfl
    · exact xs_one (x_ret (rd (Imp.refl _)) (ev_bin ev_str (ev_name rfl rfl) (op_adds (by rw [hlen2, sizeLine_eq]; show 1 + _ ≤ _; omega))))
end Mine

end
/-! H2 -/
section
open PySem PySem.W PyProof.Rows PySem.Calls
set_option maxRecDepth 100000
set_option linter.all false
namespace Mine
variable {w : World} {mg mb : Str → Option Value} {top : Heap}

def rungs (l : List Nat) : List T := (List.range l.length).map fun i => S (hs (l.drop i))
def rungsTo (l : List Nat) (i : Nat) : List T := (List.range i).map fun i => S (hs (l.drop i))
theorem hs_eq_local {l : List Nat} : ((("." : Str) ++ hs l) == (".local" : Str)) = l.isEmpty := by
  cases l with
  | nil => rw [hs_nil]; decide
  | cons c l =>
    rw [List.isEmpty_cons, beq_eq_false_iff_ne]
    intro e
    have e1 := congrArg (fun s : Str => s.cps.toList[2]?) e
    have e2 : (".local" : Str).cps.toList[2]? = some 111 := rfl
    simp only [e2] at e1
    have e3 : ((("." : Str) ++ hs (c :: l)).cps.toList)[2]? = some 46 := by
      show ((⟨("." : Str).cps ++ (hs (c :: l)).cps⟩ : Str).cps.toList)[2]? = _
      rw [Array.toList_append, hs_list]; rfl
    rw [e3] at e1; cases e1
theorem dot_cut {l : List Nat} : cutS (("." : Str) ++ hs l) 1 = hs l := by
  unfold cutS
  show (⟨((⟨("." : Str).cps ++ (hs l).cps⟩ : Str).cps.toList.drop 1).toArray⟩ : Str) = _
  rw [Array.toList_append, hs_list]; rfl
theorem dot_len {l : List Nat} : (("." : Str) ++ hs l).length = 2 * l.length + 6 := by
  have := hs_len l
  have e : (("." : Str) ++ hs l).length = 1 + (hs l).length := by
    show (⟨("." : Str).cps ++ (hs l).cps⟩ : Str).length = _
    simp [Str.length]; rfl
  rw [e, this]; omega

set_option maxHeartbeats 4000000 in
theorem fn_ladder {n : Nat} {l : List Nat} (hw : Lets l) (h0 : l ≠ []) (hl : l.length ≤ 8) : FnC (mkC w mg mb top) (n + 3) (.ref 200) [S (hs l)] (LL (rungs l)) := by
  refine fnc_plain (names := ["host"]) (ho := by rfl) (hcd := by rfl) (hbody := by rfl) (hbind := ?_) (hlen := rfl) (hnd := by decide) (hcell := by decide) (hfree := by decide) (hloc := by decide) (hco := rfl) (hgen := rfl) (hk := rfl) (hgl := rfl) (hbu := rfl) (hclo := rfl) (h := ?_)
  · intro vs hv
    match vs, hv with
    | [_], _ => rfl
  · intro L
    show Xs _ _ ?E _ _ _ _
    let E : Env := ?E
    have hp : 0 < l.length := List.length_pos_iff.mpr h0
    refine xs_cons (Mid := OL E "rungs" (rungsTo l 1) []) (x_own (ts := [S (hs l)]) (rd (Imp.refl _)) (fun _ _ => trivial) (fun _ _ _ _ _ => Vars.nil) rfl (ef_list (evs_cons (ev_name rfl rfl) evs_nil rfl) (by rw [sizeLine_eq]; show 1 ≤ _; omega)) rfl (fun h => by cases h) rfl (Imp.refl _)) ?_
    let Inv : Env → Nat → Assn := fun env i => if i < l.length then OL env "rungs" (rungsTo l (i + 1)) [] else FF
    refine xs_cons (Mid := OL E "rungs" (rungs l) []) (x_for (Inv := Inv E) (Bod := Inv E) (ρ := []) (fun _ _ _ _ _ => Vars.nil) (io_range (N := 8) (ev_call (ev_builtin (v := .type "range") rfl rfl rfl rfl (by decide)) (evs_cons ev_int evs_nil rfl) fn_range1 rfl rfl rfl) rfl rfl) rfl (fun h => by cases h) ?_ ?_ ?_ ?_ (fun _ => rfl)) ?_
    · simp only [Inv, if_pos hp]; exact Imp.refl _
    · intro i t ht
      by_cases hi : i < l.length
      · simp only [Inv, if_pos hi]; exact puts_post (puts_ol (by decide) rfl) ol_nil
      · simp only [Inv, if_neg hi]; exact puts_ff fun _ _ _ _ h => h
    · intro i t ht
      by_cases hi : i < l.length
      · simp only [Inv, if_pos hi]
        obtain ⟨c, r, hd⟩ : ∃ c r, l.drop i = c :: r := ⟨_, _, List.drop_eq_getElem_cons hi⟩
        have hr : l.drop (i + 1) = r := by rw [← List.tail_drop, hd]; rfl
        have hlw : Lets (c :: r) := fun d h => hw d (List.mem_of_mem_drop (hd ▸ h))
        have hrl : r.length + 1 = l.length - i := by have := congrArg List.length hd; simpa using this.symm
        refine xs_cons (Mid := OL E "rungs" (rungsTo l (i + 1)) [("above", S (("." : Str) ++ hs r))]) (x_assign rd_ol pu_s (ev_call (ev_global (v := .ref 57) rfl rfl rfl) (evs_cons (ev_sub (ev_name rfl rfl) (ev_un ev_int un_neg) (it_list_neg (t := S (hs (c :: r))) (by decide) (by decide) ?_ ?_) fun _ _ => rfl) evs_nil rfl) (fn_reach hlw (by omega)).fn rfl rfl rfl) rfl (fun h => by cases h) rfl (puts_ol (by decide) rfl)) ?_
        · simp [rungsTo]; omega
        · have : ((-1 : Int) + ((rungsTo l (i + 1)).length : Nat)).toNat = i := by simp [rungsTo]; omega
          rw [this]
          simp [rungsTo, hd]
        by_cases hrn : r = []
        · have : i + 1 = l.length := by rw [hrn] at hrl; simp at hrl; omega
          refine xs_cons (Mid := FF) (x_if (c := true) rd_ol (Tr.eq (tr_cmp (ev_name rfl rfl) ev_str cm_eqs rfl) (by rw [hs_eq_local, hrn]; rfl)) (fun h => ?_) (fun h => by cases h)) (xs_false fun _ _ _ _ h => h)
          exact xs_one (x_brk (by rw [this]; exact ol_nil))
        · have hlt : i + 1 < l.length := by
            have : 0 < r.length := List.length_pos_iff.mpr hrn
            omega
          refine xs_cons (Mid := OL E "rungs" (rungsTo l (i + 1)) [("above", S (("." : Str) ++ hs r))]) (x_if (c := false) rd_ol (Tr.eq (tr_cmp (ev_name rfl rfl) ev_str cm_eqs rfl) (by rw [hs_eq_local]; simpa using hrn)) (fun h => by cases h) (fun h => xs_nil (Imp.refl _))) ?_
          refine xs_one (x_append (ρr := ("rungs", LL (rungsTo l (i + 1))) :: [("above", S (("." : Str) ++ hs r))]) (t := S (hs r)) pu_s rd_ol rfl (ev_eq (ev_strFrom (x := ("." : Str) ++ hs r) (i := 1) (ev_name rfl rfl) ev_int (by decide) (by rw [dot_len]; omega) (by rw [dot_len, sizeLine_eq]; omega) (fun _ _ => rfl)) (by rw [show (1 : Int).toNat = 1 from rfl, dot_cut])) (by simp [rungsTo]; omega) rfl rfl rfl rfl rfl ?_)
          rw [if_pos hlt]
          have : rungsTo l (i + 1 + 1) = rungsTo l (i + 1) ++ [S (hs r)] := by
            unfold rungsTo; rw [List.range_succ (n := i + 1), List.map_append, ← hr]; rfl
          rw [this]; exact ol_nil
      · simp only [Inv, if_neg hi]; exact xs_false fun _ _ _ _ h => h
    · simp only [Inv, List.length_map, List.length_range]; rw [if_neg (by omega)]; exact fun _ _ _ _ h => h.elim
    · exact xs_one (x_ret rd_ol (ev_name rfl rfl))
end Mine

end
/-! F3 -/
section
open PySem PySem.W PyProof.Rows PySem.Calls
set_option maxRecDepth 100000
set_option linter.all false
namespace Mine
variable {w : World} {mg mb : Str → Option Value} {top : Heap}

/-! the script from outside -/
def LX (ns : List Int) : T := ⟨fun g v => ∃ (a : Addr) (o : Obj) (vs : List Value) (n : Nat), v = .ref a ∧ g a o ∧ o.cls = .type "list" ∧ o.data = .seq vs.toArray n ∧ IntsAre vs ns, fun {g g' v} k ⟨a, o, vs, n, h1, h2, h3, h4, h5⟩ => ⟨a, o, vs, n, h1, k _ _ h2, h3, h4, h5⟩⟩
theorem fn_len_lx {C : Cx} {n : Nat} {ns : List Int} (hl : ns.length ≤ 4096) : Fn C n (.builtin "len") [LX ns] (I ns.length) := by
  intro A p s vs a g q hf
  cases vs with
  | nil => exact hf.elim
  | cons v vs =>
    cases vs with
    | cons _ _ => exact hf.2.elim
    | nil =>
      obtain ⟨b, o, ws, k, rfl, hg, hc, hd, hi⟩ := hf.1
      have h2 : ws.length = ns.length := by
        have := (fa_ints (g := vw p s.heap) hi).length
        rwa [List.length_map] at this
      have hl' : s.heap.IsList b ws.toArray := ⟨o, hg.2, hc, k, hd⟩
      have hsz : ((ws.toArray.size : Nat) : Int) < 2 ^ 63 := by rw [List.size_toArray]; omega
      refine PyProof.Rows.len_list hl' hsz ⟨keeps_tok _ _, s.toks + 1, ?_⟩
      rw [List.size_toArray, h2]
theorem it_lx {C : Cx} {n : Nat} {ns : List Int} {i : Int} {x : Int} (h0 : 0 ≤ i) (h1 : i < 2 ^ 63) (ht : ns[i.toNat]? = some x) : It2 C n (LX ns) (I i) (I x) := by
  rintro A p s _ _ hA hG _ ⟨a, o, vs, k, rfl, hg, hc, hd, hi⟩ ⟨u, rfl⟩
  obtain ⟨v, hv, hp⟩ := (fa_ints (g := vw p s.heap) hi).get (i := i.toNat) (t := I x) (by simp [ht])
  have hl : s.heap.IsList a vs.toArray := ⟨_, hg.2, hc, _, hd⟩
  exact ⟨⟨_, _, hl.typeIs, slot_list_getitem.lookup⟩, wpAny_getItem_list hl h0 h1 (by simpa using hv) ⟨keeps_refl _, hp⟩⟩

theorem small_of : ∀ k : Nat, k < 64 → Builtin.Range.small 0 k 1 = true := by decide
def tot (ns : List Int) : Nat → List Int
  | 0 => [11, 0, 2, 4, 5, 8, 8]
  | i + 1 => (tot ns i).set (i % 7) ((tot ns i).getD (i % 7) 0 + ns.getD i 0)
theorem tot_len (ns : List Int) : ∀ i, (tot ns i).length = 7
  | 0 => rfl
  | i + 1 => by simp [tot, tot_len ns i]

set_option maxHeartbeats 4000000 in
theorem fn_totals {n : Nat} {ns : List Int} (hl : ns.length ≤ 63) : FnC (mkC w mg mb top) (n + 1) (.ref 186) [LX ns] (LL ((tot ns ns.length).map I)) := by
  refine fnc_plain (names := ["script"]) (ho := by rfl) (hcd := by rfl) (hbody := by rfl) (hbind := ?_) (hlen := rfl) (hnd := by decide) (hcell := by decide) (hfree := by decide) (hloc := by decide) (hco := rfl) (hgen := rfl) (hk := rfl) (hgl := rfl) (hbu := rfl) (hclo := rfl) (h := ?_)
  · intro vs hv
    match vs, hv with
    | [_], _ => rfl
  · intro L
    show Xs _ _ ?E _ _ _ _
    let E : Env := ?E
    let Inv : Nat → Assn := fun i => OL E "totals" ((tot ns i).map I) [("script", LX ns)]
    refine xs_cons (Mid := Inv 0) (x_own (ts := (tot ns 0).map I) (rd (Imp.refl _)) (fun _ _ => trivial) (Imp.refl _) rfl (ef_list (evs_cons ev_int (evs_cons ev_int (evs_cons ev_int (evs_cons ev_int (evs_cons ev_int (evs_cons ev_int (evs_cons ev_int evs_nil rfl) rfl) rfl) rfl) rfl) rfl) rfl) (by rw [sizeLine_eq]; show 7 ≤ _; omega)) rfl (fun h => by cases h) rfl (Imp.refl _)) ?_
    refine xs_cons (Mid := Inv ns.length) (x_for (Inv := Inv) (Bod := fun i => OL E "totals" ((tot ns i).map I) [("place", I (0 + (i : Int) * 1)), ("script", LX ns)]) (ρ := [("script", LX ns)]) ol_lv
      (io_range (b := ns.length) (N := ns.length) (ev_call (ev_builtin (v := .type "range") rfl rfl rfl rfl (by decide)) (evs_cons (ev_eq (ev_call (ev_builtin (v := .builtin "min") rfl rfl rfl rfl (by decide)) (evs_cons (ev_call (ev_builtin (v := .builtin "len") rfl rfl rfl rfl (by decide)) (evs_cons (ev_name rfl rfl) evs_nil rfl) (fn_len_lx (by omega)) rfl rfl rfl) (evs_cons ev_int evs_nil rfl) rfl) fn_min2 rfl rfl rfl) ?_) evs_nil rfl) fn_range1 rfl rfl rfl) ?_ ?_) rfl (fun h => by cases h) (Imp.refl _) ?_ ?_ ?_ (fun _ => rfl)) ?_
    · congr 1; omega
    · exact small_of ns.length (by omega)
    · rw [rangeSize_one]; split <;> omega
    · intro i t ht
      obtain ⟨hi, rfl⟩ := of_range ht
      exact puts_ol (by decide) rfl
    · intro i t ht
      obtain ⟨hi, rfl⟩ := of_range ht
      refine xs_one (x_augitem (i := ((i % 7 : Nat) : Int)) (a0 := (tot ns i).getD (i % 7) 0) (d := ns.getD i 0) rd_ol rfl (ev_sub (ev_name rfl rfl) (ev_name rfl rfl) (it_lx (by omega) (by omega) ?_) fun _ _ => rfl) (ev_eq (ev_bin (ev_name rfl rfl) ev_int (op_mod (by decide))) ?_) (by omega) ?_ (by simp [tot_len]) (fun _ _ _ => rfl) ?_)
      · have : (0 + (i : Int) * 1).toNat = i := by omega
        rw [this]; simp [hi]
      · congr 1
        rw [Int.fmod_eq_emod_of_nonneg _ (by decide)]; omega
      · have h7 : i % 7 < (tot ns i).length := by rw [tot_len]; omega
        rw [Int.toNat_natCast]
        simp [h7]
      · have : ((tot ns i).map I).set ((i % 7 : Nat) : Int).toNat (I ((tot ns i).getD (i % 7) 0 + ns.getD i 0)) = (tot ns (i + 1)).map I := by
          rw [Int.toNat_natCast]; simp [tot]
        rw [this]
        exact ol_drop rfl
    · simp only [List.length_map, List.length_range]; exact Imp.refl _
    · exact xs_one (x_ret rd_ol (ev_name rfl rfl))

/-! ways -/
def waysTo (ps : List Nat) : Nat → List (List Nat)
  | 0 => [[0]]
  | i + 1 => waysTo ps i ++ [(i + 1) :: (waysTo ps i).getD (ps.getD (i + 1) 0) []]
theorem waysTo_len (ps : List Nat) : ∀ i, (waysTo ps i).length = i + 1
  | 0 => rfl
  | i + 1 => by simp [waysTo, waysTo_len ps i]
theorem map_getD {α : Type} {f : α → T} {l : List α} {i : Nat} {d : α} (h : i < l.length) : (l.map f)[i]? = some (f (l.getD i d)) := by simp [h]
theorem getD_mem {α : Type} {l : List α} {i : Nat} {d : α} (h : i < l.length) : l.getD i d ∈ l := by
  rw [List.getD_eq_getElem?_getD, List.getElem?_eq_getElem h]; exact List.getElem_mem h
theorem waysTo_each (ps : List Nat) : ∀ i, ∀ w ∈ waysTo ps i, w.length ≤ i + 1
  | 0, w, h => by simp [waysTo] at h; subst h; simp
  | i + 1, w, h => by
    rw [waysTo, List.mem_append] at h
    rcases h with h | h
    · have := waysTo_each ps i w h; omega
    · simp only [List.mem_singleton] at h
      subst h
      by_cases hl : ps.getD (i + 1) 0 < (waysTo ps i).length
      · have := waysTo_each ps i _ (getD_mem (d := []) hl)
        simp only [List.length_cons]; omega
      · rw [List.getD_eq_getElem?_getD, List.getElem?_eq_none (by omega)]; simp
def nat (i : Nat) : T := I (i : Int)
def NL (l : List Nat) : T := LL (l.map nat)
theorem NL_nth {l : List Nat} {i : Nat} (h : i < l.length) : (l.map nat)[i]? = some (nat (l.getD i 0)) := by simp [h]
/-- a list of lists may be read and one of its kind be made beside it -/
theorem rd_oll {C : Cx} {n : Nat} {env : Env} {ow : Str → Prop} {x : Str} {ts : List T} {ρ : Rho} (hts : ts ≠ []) (hrf : ∀ t ∈ ts, ∀ g v, t.P g v → ∃ a, v = .ref a) :
    Rd C n env ow (OL env x ts ρ) ((x, LL ts) :: ρ) (fun t => ∃ us, t = LL us ∧ us ≠ [] ∧ ∀ u ∈ us, Pu u ∧ ∀ g v, u.P g v → ∀ a, v ≠ .ref a) := by
  intro A m q pc s b hP
  obtain ⟨p', h1, h2, h3⟩ := rd_ol (C := C) (n := n) (ow := ow) A m q pc s b hP
  obtain ⟨a, vs, k, e1, e2, e3, e4, e5, e6⟩ := hP
  have na : ¬ pc a := b.dis a e2
  refine ⟨fun d => pa q pc d ∧ d ≠ a, fun d z => ⟨.inl z, fun e => na (e ▸ z)⟩, ⟨b.a, b.f, ?_, b.g, fun d hd => b.pin d hd.1⟩, ?_⟩
  · have sub : Sub (vw (pa q pc) s.heap) (vw (fun d => pa q pc d ∧ d ≠ a) s.heap) := vw_less fun d hd => hd.1
    intro y t e
    rw [List.lookup_cons] at e
    by_cases hy : y = x
    · subst hy
      simp at e
      subst e
      exact ⟨_, e1, a, vs, k, rfl, ⟨fun z => z.2 rfl, e3⟩, e4.mono sub⟩
    · have hb : (y == x) = false := by simpa using hy
      rw [hb] at e
      obtain ⟨v, e1, e2⟩ := e5 y t e
      exact ⟨v, e1, t.mono sub e2⟩
  · rintro t ⟨us, rfl, hus, hu⟩ s' v r kk ⟨c, ws, j, rfl, hg, hf⟩
    have hca : c ≠ a := by
      rintro rfl
      have := keeps_hs kk _ _ e3
      rw [hg.2] at this
      have hw : ws.toArray = vs.toArray := by cases this; rfl
      have hw' : ws = vs := by simpa using congrArg Array.toList hw
      subst hw'
      match ts, us, ws, e4, hf with
      | t :: _, u :: _, v :: _, e4, hf =>
        obtain ⟨d, hd⟩ := hrf t (.head _) _ _ e4.1
        exact (hu u (.head _)).2 _ _ hf.1 d hd
      | [], _, _, _, _ => exact hts rfl
      | _, [], _, _, _ => exact hus rfl
      | _ :: _, _ :: _, [], e4, _ => exact e4.elim
    exact ⟨c, ws, j, rfl, ⟨fun z => hg.1 (z.elim (fun z => .inl ⟨z, hca⟩) .inr), hg.2⟩, pures (fun u h => (hu u h).1) hf⟩
where
  pures {g g' : View} : ∀ {us : List T} {ws : List Value}, (∀ u ∈ us, Pu u) → Fa g us ws → Fa g' us ws
    | [], [], _, _ => trivial
    | _ :: _, _ :: _, k, h => ⟨k _ (.head _) _ _ _ h.1, pures (fun u h => k u (.tail _ h)) h.2⟩
    | [], _ :: _, _, h => h.elim
    | _ :: _, [], _, h => h.elim

set_option maxHeartbeats 4000000 in
theorem fn_ways {n : Nat} {ps : List Nat} (hl : ps.length = 7) (hp : ∀ k, k < 7 → ps.getD k 0 ≤ k - 1) : FnC (mkC w mg mb top) (n + 1) (.ref 193) [NL ps] (LL ((waysTo ps 6).map NL)) := by
  refine fnc_plain (names := ["parents"]) (ho := by rfl) (hcd := by rfl) (hbody := by rfl) (hbind := ?_) (hlen := rfl) (hnd := by decide) (hcell := by decide) (hfree := by decide) (hloc := by decide) (hco := rfl) (hgen := rfl) (hk := rfl) (hgl := rfl) (hbu := rfl) (hclo := rfl) (h := ?_)
  · intro vs hv
    match vs, hv with
    | [_], _ => rfl
  · intro L
    show Xs _ _ ?E _ _ _ _
    let E : Env := ?E
    let Inv : Nat → Assn := fun i => OL E "ways" ((waysTo ps i).map NL) [("parents", NL ps)]
    refine xs_cons (Mid := Inv 0) (x_own (ts := (waysTo ps 0).map NL) (rd (Imp.refl _)) (fun _ _ => trivial) (Imp.refl _) rfl (ef_list (evs_cons (EvF.ev (ef_list (evs_cons ev_int evs_nil rfl) (by rw [sizeLine_eq]; show 1 ≤ _; omega))) evs_nil rfl) (by rw [sizeLine_eq]; show 1 ≤ _; omega)) rfl (fun h => by cases h) rfl (Imp.refl _)) ?_
    refine xs_cons (Mid := Inv 6) (x_for (Inv := Inv) (Bod := fun i => OL E "ways" ((waysTo ps i).map NL) [("k", I (1 + (i : Int) * 1)), ("parents", NL ps)]) (ρ := [("parents", NL ps)]) ol_lv
      (io_range (N := 6) (ev_call (ev_builtin (v := .type "range") rfl rfl rfl rfl (by decide)) (evs_cons ev_int (evs_cons ev_int evs_nil rfl) rfl) fn_range2 rfl rfl rfl) rfl rfl) rfl (fun h => by cases h) (Imp.refl _) ?_ ?_ ?_ (fun _ => rfl)) ?_
    · intro i t ht
      obtain ⟨hi, rfl⟩ := of_range ht
      exact puts_ol (by decide) rfl
    · intro i t ht
      obtain ⟨hi, rfl⟩ := of_range ht
      have hpk := hp (i + 1) (by omega)
      have hwl := waysTo_len ps i
      refine xs_one (x_append (t := NL ((i + 1) :: (waysTo ps i).getD (ps.getD (i + 1) 0) [])) (L := fun t => ∃ us, t = LL us ∧ us ≠ [] ∧ ∀ u ∈ us, Pu u ∧ ∀ g v, u.P g v → ∀ a, v ≠ .ref a) ⟨_, rfl, by simp, ?_⟩ (rd_oll ?_ ?_) rfl
        (ev_eq (ef_add (ts := [nat (i + 1)]) (us := ((waysTo ps i).getD (ps.getD (i + 1) 0) []).map nat) (EvF.ev (ef_list (evs_cons (ev_eq (ev_name rfl rfl) ?_) evs_nil rfl) (by rw [sizeLine_eq]; show 1 ≤ _; omega)))
          (ev_sub (ev_name rfl rfl) (ev_sub (b := nat (i + 1)) (ev_name rfl rfl) (ev_eq (ev_name rfl rfl) ?_) (it_list (t := nat (ps.getD (i + 1) 0)) (by omega) (by omega) ?_) fun _ _ => rfl) (it_list (t := NL ((waysTo ps i).getD (ps.getD (i + 1) 0) [])) (by omega) (by omega) ?_) fun _ _ => rfl) ?_).ev rfl) (by simp [hwl]; omega) rfl rfl rfl rfl rfl ?_)
      · intro u hu
        obtain ⟨j, _, rfl⟩ := List.mem_map.mp hu
        exact ⟨fun _ _ _ h => h, by rintro g v ⟨t, rfl⟩ a h; cases h⟩
      · intro h; have := congrArg List.length h; simp [hwl] at this
      · rintro t ht g v h
        obtain ⟨l, _, rfl⟩ := List.mem_map.mp ht
        obtain ⟨a, _, _, rfl, _⟩ := h
        exact ⟨a, rfl⟩
      · unfold nat; congr 1; omega
      · unfold nat; congr 1; omega
      · rw [Int.toNat_natCast, NL_nth (by omega)]
      · rw [Int.toNat_natCast, map_getD (d := []) (by omega)]
      · have := waysTo_each ps i _ (getD_mem (l := waysTo ps i) (i := ps.getD (i + 1) 0) (d := []) (by omega))
        simp; simp at this; omega
      · have : (waysTo ps i).map NL ++ [NL ((i + 1) :: (waysTo ps i).getD (ps.getD (i + 1) 0) [])] = (waysTo ps (i + 1)).map NL := by simp [waysTo]
        rw [this]; exact ol_drop rfl
    · simp only [List.length_map, List.length_range]; exact Imp.refl _
    · exact xs_one (x_ret rd_ol (ev_name rfl rfl))

/-! heights -/
def hgtTo (ps : List Nat) : Nat → List Int
  | 0 => List.replicate 7 1
  | i + 1 => (hgtTo ps i).set (ps.getD (6 - i) 0) (max ((hgtTo ps i).getD (ps.getD (6 - i) 0) 0) ((hgtTo ps i).getD (6 - i) 0 + 1))
theorem hgtTo_len (ps : List Nat) : ∀ i, (hgtTo ps i).length = 7
  | 0 => rfl
  | i + 1 => by simp [hgtTo, hgtTo_len ps i]

set_option maxHeartbeats 4000000 in
theorem fn_heights {n : Nat} {ps : List Nat} (hl : ps.length = 7) (hp : ∀ k, k < 7 → ps.getD k 0 ≤ k - 1) : FnC (mkC w mg mb top) (n + 1) (.ref 207) [NL ps] (LL ((hgtTo ps 6).map I)) := by
  refine fnc_plain (names := ["parents"]) (ho := by rfl) (hcd := by rfl) (hbody := by rfl) (hbind := ?_) (hlen := rfl) (hnd := by decide) (hcell := by decide) (hfree := by decide) (hloc := by decide) (hco := rfl) (hgen := rfl) (hk := rfl) (hgl := rfl) (hbu := rfl) (hclo := rfl) (h := ?_)
  · intro vs hv
    match vs, hv with
    | [_], _ => rfl
  · intro L
    show Xs _ _ ?E _ _ _ _
    let E : Env := ?E
    let Inv : Nat → Assn := fun i => OL E "heights" ((hgtTo ps i).map I) [("parents", NL ps)]
    refine xs_cons (Mid := Inv 0) (x_own (ts := (hgtTo ps 0).map I) (rd (Imp.refl _)) (fun _ _ => trivial) (Imp.refl _) rfl (ef_mul1 (k := 7) (EvF.ev (ef_list (evs_cons ev_int evs_nil rfl) (by rw [sizeLine_eq]; show 1 ≤ _; omega))) ev_int (by omega)) rfl (fun h => by cases h) rfl (Imp.refl _)) ?_
    refine xs_cons (Mid := Inv 6) (x_for (Inv := Inv) (Bod := fun i => OL E "heights" ((hgtTo ps i).map I) [("k", I (6 + (i : Int) * (-1))), ("parents", NL ps)]) (ρ := [("parents", NL ps)]) ol_lv
      (io_range (N := 6) (ev_call (ev_builtin (v := .type "range") rfl rfl rfl rfl (by decide)) (evs_cons ev_int (evs_cons ev_int (evs_cons (ev_un ev_int un_neg) evs_nil rfl) rfl) rfl) (fn_range3 (by decide) rfl) rfl rfl rfl) rfl rfl) rfl (fun h => by cases h) (Imp.refl _) ?_ ?_ ?_ (fun _ => rfl)) ?_
    · intro i t ht
      obtain ⟨hi, rfl⟩ := of_range ht
      exact puts_ol (by decide) rfl
    · intro i t ht
      obtain ⟨hi, rfl⟩ := of_range ht
      have hpk := hp (6 - i) (by omega)
      have hwl := hgtTo_len ps i
      have hk : Ev (mkC w mg mb top) n E (("heights", LL ((hgtTo ps i).map I)) :: [("k", I (6 + (i : Int) * (-1))), ("parents", NL ps)]) (.Name "k" ⟨0, 0, 0, 0⟩) (nat (6 - i)) := ev_eq (ev_name rfl rfl) (by unfold nat; congr 1; omega)
      refine xs_one (x_setitem (i := (ps.getD (6 - i) 0 : Nat)) (t := I (max ((hgtTo ps i).getD (ps.getD (6 - i) 0) 0) ((hgtTo ps i).getD (6 - i) 0 + 1))) pu_i rd_ol rfl (ev_name rfl rfl)
        (ev_call (ev_builtin (v := .builtin "max") rfl rfl rfl rfl (by decide)) (evs_cons (ev_sub (b := nat (ps.getD (6 - i) 0)) (ev_name rfl rfl) (ev_sub (b := nat (6 - i)) (ev_name rfl rfl) (ev_eq (ev_name rfl rfl) ?_) (it_list (t := nat (ps.getD (6 - i) 0)) (by omega) (by omega) ?_) fun _ _ => rfl) (it_list (by omega) (by omega) ?_) fun _ _ => rfl)
          (evs_cons (ev_bin (ev_sub (b := nat (6 - i)) (ev_name rfl rfl) (ev_eq (ev_name rfl rfl) ?_) (it_list (by omega) (by omega) ?_) fun _ _ => rfl) ev_int op_add) evs_nil rfl) rfl) fn_max2 rfl rfl rfl)
        (ev_sub (b := nat (6 - i)) (ev_name rfl rfl) (ev_eq (ev_name rfl rfl) ?_) (it_list (t := nat (ps.getD (6 - i) 0)) (by omega) (by omega) ?_) fun _ _ => rfl) (by omega) ?_ (by simp [hwl]) rfl ?_)
      · unfold nat; congr 1; omega
      · rw [Int.toNat_natCast, NL_nth (by omega)]
      · rw [Int.toNat_natCast, map_getD (d := 0) (by omega)]
      · unfold nat; congr 1; omega
      · rw [Int.toNat_natCast, map_getD (d := 0) (by omega)]
      · unfold nat; congr 1; omega
      · rw [Int.toNat_natCast, NL_nth (by omega)]
      · rw [List.length_map, hwl]; omega
      · rw [Int.toNat_natCast, ← List.map_set]; exact ol_drop rfl
    · simp only [List.length_map, List.length_range]; exact Imp.refl _
    · exact xs_one (x_ret rd_ol (ev_name rfl rfl))
end Mine

end
/-! F4 -/
section
open PySem PySem.W PyProof.Rows PySem.Calls
set_option maxRecDepth 100000
set_option linter.all false
namespace Mine
variable {w : World} {mg mb : Str → Option Value} {top : Heap}

def TCO (sel : T) : T := OB 95 [("comp_select_list", sel)]
set_option maxHeartbeats 4000000 in
theorem fn_tc_init {n : Nat} {t : T} : FnI (mkC w mg mb top) (n + 1) 85 95 [t] [("comp_select_list", t)] := by
  refine fni_plain (names := ["comp_select_list"]) (ho := by rfl) (hcd := by rfl) (hbody := by rfl) (hbind := ?_) (hlen := rfl) (hnd := by decide) (hcell := by decide) (hfree := by decide) (hloc := by decide) (hco := rfl) (hgen := rfl) (hk := rfl) (hgl := rfl) (hbu := rfl) (hclo := rfl) (h := ?_)
  · intro x vs hv
    match vs, hv with
    | [_], _ => rfl
  · intro L x dx
    refine xs_one (x_setattr (i := 0) (L := LAll) trivial (rd ow_lv) rfl rfl rfl (ev_name rfl rfl) rfl (by decide) (by rfl) (by rfl) (by rfl) (by rfl) rfl (imp_fi (.head _)))
theorem fn_tc_new {n : Nat} {t : T} : Fn (mkC w mg mb top) (n + 2) (.ref 95) [t] (TCO t) := fn_new fn_tc_init (by rfl) (by rfl) (by rfl)

def sg (c : Nat) : T := S ⟨#[c]⟩
def TC (cs : List Nat) : T := TU (cs.map sg)
def sel6 : List T := (List.range 6).map fun i => TU [nat (i + 1), I (-1)]
def cmpT (l r : List Nat) : Nat → Nat → Int
  | 0, _ => 0
  | n + 1, k => if l.getD k 0 < r.getD k 0 then 1 else if r.getD k 0 < l.getD k 0 then -1 else cmpT l r n (k + 1)
def cmpR (l r : List Nat) : Int := cmpT l r 6 1
theorem sg_lt (c d : Nat) : decide ((⟨#[c]⟩ : Str).cps.toList < (⟨#[d]⟩ : Str).cps.toList) = decide (c < d) := by
  have : ([c] < [d]) ↔ c < d := by simp [List.cons_lt_cons_iff]
  simp only [decide_eq_decide]; exact this

set_option maxHeartbeats 4000000 in
theorem fn_compare {n : Nat} {l r : List Nat} (hl : l.length = 7) (hr : r.length = 7) : FnC (mkC w mg mb top) (n + 1) (.ref 92) [TCO (LL sel6), TC l, TC r] (I (cmpR l r)) := by
  refine fnc_plain (names := ["self", "left", "right"]) (ho := by rfl) (hcd := by rfl) (hbody := by rfl) (hbind := ?_) (hlen := rfl) (hnd := by decide) (hcell := by decide) (hfree := by decide) (hloc := by decide) (hco := rfl) (hgen := rfl) (hk := rfl) (hgl := rfl) (hbu := rfl) (hclo := rfl) (h := ?_)
  · intro vs hv
    match vs, hv with
    | [_, _, _], _ => rfl
  · intro L
    let ρ0 : Rho := [("self", TCO (LL sel6)), ("left", TC l), ("right", TC r)]
    let Inv : Nat → Assn := fun i => if cmpR l r = cmpT l r (6 - i) (i + 1) then LV ρ0 else FF
    let Bod : Nat → Assn := fun i => if cmpR l r = cmpT l r (6 - i) (i + 1) then LV (("direction", I (-1)) :: ("index", nat (i + 1)) :: ρ0) else FF
    refine xs_cons (Mid := Inv 6) (x_forG (Inv := Inv) (Bod := Bod) (ts := sel6) (iop_tups (Imp.refl _) (ev_attr (cls := 95) (at_ := none) (ev_name rfl rfl) rfl hd_ll (by rfl) (by rfl) (by rfl) (by rfl) (by rfl)) ?_) ?_ ?_ ?_ ?_ (fun _ => rfl)) ?_
    · intro t ht g v hv
      obtain ⟨i, _, rfl⟩ := List.mem_map.mp ht
      obtain ⟨a, _, _, rfl, _⟩ := hv
      exact ⟨a, rfl⟩
    · simp only [Inv, cmpR, if_true]; exact Imp.refl _
    · intro i t ht
      obtain ⟨hi, rfl⟩ := of_range ht
      by_cases hc : cmpR l r = cmpT l r (6 - i) (i + 1)
      · simp only [Inv, Bod, if_pos hc]
        exact asg_pair rfl (fun h => by cases h) rfl (fun h => by cases h) puts_lv puts_lv
      · simp only [Inv, Bod, if_neg hc]
        exact fun _ _ _ _ _ _ _ h => h.elim
    · intro i t ht
      obtain ⟨hi, rfl⟩ := of_range ht
      by_cases hc : cmpR l r = cmpT l r (6 - i) (i + 1)
      · simp only [Bod, if_pos hc]
        have e6 : 6 - i = (6 - (i + 1)) + 1 := by omega
        rw [e6, cmpT] at hc
        have itl : It2 (mkC w mg mb top) n (TC l) (nat (i + 1)) (sg (l.getD (i + 1) 0)) := it_tup (by omega) (by omega) (by rw [Int.toNat_natCast]; exact map_getD (by omega))
        have itr : It2 (mkC w mg mb top) n (TC r) (nat (i + 1)) (sg (r.getD (i + 1) 0)) := it_tup (by omega) (by omega) (by rw [Int.toNat_natCast]; exact map_getD (by omega))
        refine xs_cons (Mid := LV _) (x_assign (rd (Imp.refl _)) trivial (ev_sub (ev_name rfl rfl) (ev_name rfl rfl) itl fun _ _ => rfl) rfl (fun h => by cases h) rfl puts_lv) ?_
        refine xs_cons (Mid := LV _) (x_assign (rd (Imp.refl _)) trivial (ev_sub (ev_name rfl rfl) (ev_name rfl rfl) itr fun _ _ => rfl) rfl (fun h => by cases h) rfl puts_lv) ?_
        by_cases h1 : l.getD (i + 1) 0 < r.getD (i + 1) 0
        · refine xs_cons (Mid := FF) (x_if (c := true) (rd (Imp.refl _)) (Tr.eq (tr_cmp (ev_name rfl rfl) (ev_name rfl rfl) cm_lts rfl) ?_) (fun _ => ?_) (fun h => by cases h)) (xs_false fun _ _ _ _ h => h)
          · rw [sg_lt]; simpa using h1
          · rw [if_pos h1] at hc
            exact xs_one (x_ret (rd (Imp.refl _)) (ev_eq (ev_un (ev_name rfl rfl) un_neg) (by rw [hc]; rfl)))
        · rw [if_neg h1] at hc
          refine xs_cons (Mid := LV _) (x_if (c := false) (rd (Imp.refl _)) (Tr.eq (tr_cmp (ev_name rfl rfl) (ev_name rfl rfl) cm_lts rfl) ?_) (fun h => by cases h) (fun _ => xs_nil (Imp.refl _))) ?_
          · rw [sg_lt]; simpa using h1
          by_cases h2 : r.getD (i + 1) 0 < l.getD (i + 1) 0
          · refine xs_one (x_if (c := true) (rd (Imp.refl _)) (Tr.eq (tr_cmp (ev_name rfl rfl) (ev_name rfl rfl) cm_gts rfl) ?_) (fun _ => ?_) (fun h => by cases h))
            · rw [sg_lt]; simpa using h2
            · rw [if_pos h2] at hc
              exact xs_one (x_ret (rd (Imp.refl _)) (ev_eq (ev_name rfl rfl) (by rw [hc])))
          · rw [if_neg h2] at hc
            refine xs_one (x_if (c := false) (rd (Imp.refl _)) (Tr.eq (tr_cmp (ev_name rfl rfl) (ev_name rfl rfl) cm_gts rfl) ?_) (fun h => by cases h) (fun _ => xs_nil ?_))
            · rw [sg_lt]; simpa using h2
            · simp only [Inv, if_pos hc]
              exact (lv_drop rfl).trans ((lv_drop rfl).trans ((lv_drop rfl).trans (lv_drop rfl)))
      · simp only [Bod, if_neg hc]; exact xs_false fun _ _ _ _ h => h
    · exact Imp.refl _
    · by_cases hc : cmpR l r = cmpT l r (6 - 6) (6 + 1)
      · simp only [Inv, if_pos hc]
        exact xs_one (x_ret (rd (Imp.refl _)) (ev_eq ev_int (by rw [hc]; rfl)))
      · simp only [Inv, if_neg hc]; exact xs_false fun _ _ _ _ h => h
end Mine

end
/-! F5a -/
section
open PySem PySem.W PyProof.Rows PySem.Calls
set_option maxRecDepth 100000
set_option linter.all false
namespace Mine

abbrev Rec := List Nat
def tcd (r : Rec) : PyData := .tuple (r.map fun c => .str ⟨#[c]⟩)
def dTC (h : Heap) (v : Value) : Option Rec := match v with
  | .ref a => (h.get? a).bind fun o => match o.data with | .seq vs _ => vs.toList.mapM fun v => (dStr v).bind fun x => x.cps[0]? | _ => none
  | _ => none
theorem mapM_tc {g : View} : ∀ {cs : Rec} {vs : List Value}, Fa g (cs.map sg) vs → vs.mapM (fun v => (dStr v).bind fun x => x.cps[0]?) = some cs
  | [], [], _ => rfl
  | c :: cs, v :: vs, h => by
    obtain ⟨⟨t, rfl⟩, h2⟩ := h
    rw [List.mapM_cons, mapM_tc h2]; rfl
  | [], _ :: _, h => h.elim
  | _ :: _, [], h => h.elim
theorem rt_tc (r : Rec) : RT (TC r) (tcd r) := rt_tup (f := sg) (d := fun c => .str ⟨#[c]⟩) (fun c => rt_s) r
theorem key_tc : KeyH TC dTC tcd where
  k := by
    rintro p h r v ⟨a, vs, n, rfl, hg, hf⟩
    show ((h.get? a).bind fun o => match o.data with | .seq vs _ => vs.toList.mapM fun v => (dStr v).bind fun x => x.cps[0]? | _ => none) = some r
    rw [hg.2]
    exact mapM_tc hf
  r := rt_tc
theorem eqv_tc : ∀ a b : Rec, PyData.eqv (tcd a) (tcd b) = (a == b) := by
  have key : ∀ a b : Rec, PyData.eqvAll (a.map fun c => .str ⟨#[c]⟩) (b.map fun c => .str ⟨#[c]⟩) = (a == b) := by
    intro a
    induction a with
    | nil => intro b; cases b <;> simp [PyData.eqvAll]
    | cons x a ih =>
      intro b
      cases b with
      | nil => simp [PyData.eqvAll]
      | cons y b =>
        simp only [List.map_cons, PyData.eqvAll, ih]
        have : PyData.eqv (.str ⟨#[x]⟩) (.str ⟨#[y]⟩) = (x == y) := by
          simp only [PyData.eqv]
          rw [Bool.eq_iff_iff]; simp
        rw [this]; rfl
  intro a b
  unfold tcd
  simp only [PyData.eqv]
  exact key a b
def Good (r : Rec) : Prop := r.length = 7 ∧ ∀ c ∈ r, c < 128
theorem good_lay {r : Rec} (h : Good r) : (tcd r).canLay0 = true ∧ (tcd r).depth ≤ 8 := by
  have k1 : ∀ l : Rec, (∀ c ∈ l, c < 128) → PyData.canLayAll0 (l.map fun c => .str ⟨#[c]⟩) = true := by
    intro l
    induction l with
    | nil => intro _; rfl
    | cons c l ih =>
      intro hl
      simp only [List.map_cons, PyData.canLayAll0, PyData.canLay0, ih (fun c hc => hl c (.tail _ hc)), Bool.and_true]
      have := hl c (.head _)
      unfold PyData.strOk; simp; omega
  have k2 : ∀ l : Rec, PyData.depthAll (l.map fun c => .str ⟨#[c]⟩) ≤ 1 := by
    intro l
    induction l with
    | nil => simp [PyData.depthAll]
    | cons c l ih => simp only [List.map_cons, PyData.depthAll, PyData.depth]; omega
  refine ⟨k1 r h.2, ?_⟩
  have := k2 r
  unfold tcd; simp only [PyData.depth]; omega

/-! rows, in plain lists -/
abbrev RowL := List (List Rec)
def stepR (rows : RowL) (k : Nat) (p : Rec) : RowL × Option Rec :=
  let rows1 := if k = rows.length then rows ++ [[]] else rows
  let row := rows1.getD k []
  match row.filter (fun one => cmpR one p == 1) with
  | [] => (rows1.set k (row ++ [p]), none)
  | b :: _ => (rows1.set k (row.set ((row.findIdx? (fun a => a == b)).getD 0) p), some b)
def rst (rows : RowL) (p : Rec) : Nat → RowL × Option Rec
  | 0 => (rows, some p)
  | k + 1 => match rst rows p k with
    | (r, some q) => stepR r k q
    | x => x
def layR : List Rec → RowL → RowL
  | [], rows => rows
  | r :: rs, rows => layR rs (rst rows r (rows.length + 1)).1
def RowsOk (m : Nat) (rows : RowL) : Prop := ∀ row ∈ rows, row.length ≤ m ∧ ∀ r ∈ row, Good r
structure Mid (m : Nat) (rows : RowL) (k : Nat) (st : RowL × Option Rec) : Prop where
  s : ∀ q, st.2 = some q → st.1.length = rows.length ∧ k ≤ rows.length ∧ Good q ∧ RowsOk m st.1
  n : st.2 = none → st.1.length ≤ rows.length + 1 ∧ RowsOk (m + 1) st.1
theorem rowsOk_set {m : Nat} {rows : RowL} {k : Nat} {row : List Rec} (h : RowsOk m rows) (h1 : row.length ≤ m) (h2 : ∀ r ∈ row, Good r) : RowsOk m (rows.set k row) := fun x hx => by
  rcases List.mem_or_eq_of_mem_set hx with z | rfl
  · exact h x z
  · exact ⟨h1, h2⟩
theorem rowsOk_le {m : Nat} {rows : RowL} (h : RowsOk m rows) : RowsOk (m + 1) rows := fun x hx => ⟨Nat.le_succ_of_le (h x hx).1, (h x hx).2⟩
theorem row_at {m : Nat} {rows : RowL} (h : RowsOk m rows) (k : Nat) : (rows.getD k []).length ≤ m ∧ ∀ r ∈ rows.getD k [], Good r := by
  rw [List.getD_eq_getElem?_getD]
  cases e : rows[k]? with
  | none => simp
  | some row => exact h row (List.mem_of_getElem? e)
theorem mid_step {m : Nat} {rows : RowL} {k : Nat} {r : RowL} {q : Rec} (h : Mid m rows k (r, some q)) : Mid m rows (k + 1) (stepR r k q) := by
  obtain ⟨hl, hk, hq, ho⟩ := h.s q rfl
  simp only at hl ho
  by_cases hkl : k = r.length
  · have : stepR r k q = ((r ++ [[]]).set k ([] ++ [q]), none) := by
      unfold stepR
      simp only [if_pos hkl]
      have : (r ++ [[]]).getD k [] = [] := by subst hkl; simp
      rw [this]; rfl
    rw [this]
    refine ⟨fun q' e => (by cases e), fun _ => ⟨by simp; omega, ?_⟩⟩
    refine rowsOk_set (fun x hx => ?_) (by simp) (by simp; exact hq)
    rcases List.mem_append.mp hx with z | z
    · exact rowsOk_le ho x z
    · rw [List.mem_singleton] at z; subst z; simp
  · obtain ⟨h1, h2⟩ := row_at ho k
    have e : stepR r k q = (match (r.getD k []).filter (fun one => cmpR one q == 1) with
        | [] => (r.set k (r.getD k [] ++ [q]), none)
        | b :: _ => (r.set k ((r.getD k []).set (((r.getD k []).findIdx? (fun a => a == b)).getD 0) q), some b)) := by
      unfold stepR; simp only [if_neg hkl]
    rw [e]
    generalize hf : (r.getD k []).filter (fun one => cmpR one q == 1) = fl
    cases fl with
    | nil =>
      refine ⟨fun q' e => (by cases e), fun _ => ⟨by simp; omega, rowsOk_set (rowsOk_le ho) (by simp; simpa using h1) ?_⟩⟩
      intro x hx
      rcases List.mem_append.mp hx with z | z
      · exact h2 x z
      · rw [List.mem_singleton] at z; subst z; exact hq
    | cons b fl =>
      have hb : b ∈ r.getD k [] := (List.mem_filter.mp (hf ▸ List.mem_cons_self : b ∈ (r.getD k []).filter _)).1
      refine ⟨fun q' e => ?_, fun e => (by cases e)⟩
      cases e
      refine ⟨by simp; exact hl, by omega, h2 b hb, rowsOk_set ho (by simpa using h1) ?_⟩
      intro x hx
      rcases List.mem_or_eq_of_mem_set hx with z | rfl
      · exact h2 x z
      · exact hq
theorem mid_rst {m : Nat} {rows : RowL} {p : Rec} (ho : RowsOk m rows) (hp : Good p) : ∀ k, Mid m rows k (rst rows p k)
  | 0 => ⟨fun q e => by cases e; exact ⟨rfl, Nat.zero_le _, hp, ho⟩, fun e => (by cases e)⟩
  | k + 1 => by
    have ih := mid_rst ho hp k
    unfold rst
    generalize hs : rst rows p k = st at ih
    obtain ⟨r, o⟩ := st
    cases o with
    | none => exact ⟨fun q e => (by cases e), fun _ => ih.n rfl⟩
    | some q => exact mid_step ih
theorem rst_end {m : Nat} {rows : RowL} {p : Rec} (ho : RowsOk m rows) (hp : Good p) : (rst rows p (rows.length + 1)).2 = none := by
  cases e : (rst rows p (rows.length + 1)).2 with
  | none => rfl
  | some q => have := ((mid_rst ho hp _).s q e).2.1; omega
theorem rows_next {m : Nat} {rows : RowL} {p : Rec} (ho : RowsOk m rows) (hp : Good p) : RowsOk (m + 1) (rst rows p (rows.length + 1)).1 ∧ (rst rows p (rows.length + 1)).1.length ≤ rows.length + 1 :=
  let h := (mid_rst ho hp (rows.length + 1)).n (rst_end ho hp); ⟨h.2, h.1⟩
end Mine

end
/-! F5 -/
section
open PySem PySem.W PyProof.Rows PySem.Calls
set_option maxRecDepth 100000
set_option linter.all false
namespace Mine
variable {w : World} {mg mb : Str → Option Value} {top : Heap}

def rowT (row : List Rec) : T := LL (row.map TC)
def VR (b : Addr) : T := V (.ref b)
def Fz (bs : List Addr) (rows : RowL) : Owns := List.zipWith (fun b row => (b, SL (row.map TC))) bs rows
def FR (a : Addr) (bs : List Addr) (rows : RowL) : Owns := (a, SL (bs.map VR)) :: Fz bs rows
def RowsT (bs : List Addr) (rows : RowL) : T := LL (List.zipWith (fun b row => AND (VR b) (rowT row)) bs rows)
def A0 (E : Env) (a : Addr) (rows : RowL) (ρ : Rho) : Assn := EX fun bs : {bs : List Addr // bs.length = rows.length} => Ow E ρ (FR a bs.1 rows)

theorem fz_lists : ∀ (bs : List Addr) (rows : RowL), Lists (Fz bs rows)
  | [], _, a, sp, h => by cases h
  | _ :: _, [], a, sp, h => by cases h
  | b :: bs, r :: rows, a, sp, h => by
    rcases List.mem_cons.mp h with e | h
    · cases e; exact ⟨_, rfl⟩
    · exact fz_lists bs rows a sp h
theorem fr_lists {a : Addr} {bs : List Addr} {rows : RowL} : Lists (FR a bs rows) := fun c sp h => by
  rcases List.mem_cons.mp h with e | h
  · cases e; exact ⟨_, rfl⟩
  · exact fz_lists bs rows c sp h
theorem fz_set : ∀ {bs : List Addr} {rows : RowL} {k : Nat} {b : Addr} {row : List Rec}, bs.length = rows.length → bs[k]? = some b → (Fz bs rows).set k (b, SL (row.map TC)) = Fz bs (rows.set k row)
  | b' :: bs, r :: rows, 0, b, row, _, h => by simp at h; subst h; rfl
  | b' :: bs, r :: rows, k + 1, b, row, hl, h => by
    show (b', _) :: (Fz bs rows).set k _ = _ :: Fz bs (rows.set k row)
    rw [fz_set (by simpa using hl) (by simpa using h)]
  | [], _, _, _, _, _, h => by simp at h
  | _ :: _, [], _, _, _, hl, _ => by simp at hl
theorem fz_at : ∀ {bs : List Addr} {rows : RowL} {k : Nat} {b : Addr}, bs.length = rows.length → bs[k]? = some b → (Fz bs rows)[k]? = some (b, SL ((rows.getD k []).map TC))
  | b' :: bs, r :: rows, 0, b, _, h => by simp at h; subst h; rfl
  | b' :: bs, r :: rows, k + 1, b, hl, h => fz_at (bs := bs) (rows := rows) (k := k) (by simpa using hl) (by simpa using h)
  | [], _, _, _, _, h => by simp at h
  | _ :: _, [], _, _, hl, _ => by simp at hl
theorem fz_snoc : ∀ {bs : List Addr} {rows : RowL} {c : Addr}, bs.length = rows.length → Fz (bs ++ [c]) (rows ++ [[]]) = Fz bs rows ++ [(c, SL [])]
  | [], [], c, _ => rfl
  | b :: bs, r :: rows, c, hl => by
    show _ :: Fz (bs ++ [c]) (rows ++ [[]]) = _ :: (Fz bs rows ++ [(c, SL [])])
    rw [fz_snoc (by simpa using hl)]
  | [], _ :: _, _, hl => by simp at hl
  | _ :: _, [], _, hl => by simp at hl
theorem ow_perm {env : Env} {ρ : Rho} {F F' : Owns} (h : F.Perm F') : Imp (Ow env ρ F) (Ow env ρ F') := fun _ _ _ _ z => ⟨z.v, fun a sp ha => z.o a sp (h.mem_iff.mpr ha), ((h.map (·.1)).nodup_iff).mp z.d⟩
theorem rowsT_fa {g : View} : ∀ {bs : List Addr} {rows : RowL} {vs : List Value}, bs.length = rows.length → (∀ a sp, (a, sp) ∈ Fz bs rows → ∃ o, g a o ∧ sp.P g o) → Fa g (bs.map VR) vs → Fa g (List.zipWith (fun b row => AND (VR b) (rowT row)) bs rows) vs
  | [], [], [], _, _, _ => trivial
  | b :: bs, r :: rows, v :: vs, hl, h, hf => by
    obtain ⟨e, hf⟩ := hf
    have e : v = .ref b := e
    subst e
    obtain ⟨o, h1, ws, n, rfl, h2⟩ := h b _ (.head _)
    exact ⟨⟨rfl, b, ws, n, rfl, h1, h2⟩, rowsT_fa (by simpa using hl) (fun a sp ha => h a sp (.tail _ ha)) hf⟩
  | [], _ :: _, _, hl, _, _ => by simp at hl
  | _ :: _, [], _, hl, _, _ => by simp at hl
  | [], [], _ :: _, _, _, hf => hf.elim
  | _ :: _, _ :: _, [], _, _, hf => hf.elim
theorem rowsT_of {a : Addr} {bs : List Addr} {rows : RowL} {ρ : Rho} (hl : bs.length = rows.length) (ha : ρ.lookup ("rows" : Str) = some (VR a)) : ∀ m g, Vars m g ρ → (∀ c sp, (c, sp) ∈ FR a bs rows → ∃ o, g c o ∧ sp.P g o) → Vars m g (("rows", RowsT bs rows) :: ρ) := by
  intro m g hv hF y t e
  rw [List.lookup_cons] at e
  by_cases hy : y = "rows"
  · subst hy
    simp at e
    subst e
    obtain ⟨v, h1, h2⟩ := hv _ _ ha
    have h2 : v = .ref a := h2
    subst h2
    obtain ⟨o, h3, ws, n, rfl, h4⟩ := hF a _ (.head _)
    exact ⟨_, h1, a, ws, n, rfl, h3, rowsT_fa hl (fun c sp hc => hF c sp (.tail _ hc)) h4⟩
  · have hb : (y == ("rows" : Str)) = false := by simpa using hy
    rw [hb] at e
    exact hv y t e
theorem rd_rows {C : Cx} {n : Nat} {env : Env} {ow : Str → Prop} {a : Addr} {bs : List Addr} {rows : RowL} {ρ : Rho} (hl : bs.length = rows.length) (ha : ρ.lookup ("rows" : Str) = some (VR a)) : Rd C n env ow (Ow env ρ (FR a bs rows)) (("rows", RowsT bs rows) :: ρ) L2 :=
  rd_ow2 fr_lists (rowsT_of hl ha)
theorem rowsT_at {bs : List Addr} {rows : RowL} {k : Nat} (hl : bs.length = rows.length) (hk : k < rows.length) : ∃ b, bs[k]? = some b ∧ (List.zipWith (fun b row => AND (VR b) (rowT row)) bs rows)[k]? = some (AND (VR b) (rowT (rows.getD k []))) :=
  ⟨bs[k]'(by omega), List.getElem?_eq_getElem (by omega), by rw [List.getElem?_zipWith, List.getElem?_eq_getElem (by omega), List.getElem?_eq_getElem hk]; simp [hk]⟩

def ρB (a : Addr) (recs : List Rec) : Rho := [("rows", VR a), ("order", TCO (LL sel6)), ("records", LL (recs.map TC))]
def pT : Option Rec → T | some q => TC q | none => NO
def atT (k : Nat) : Option Rec → T | some _ => nat k | none => nat (k - 1)
def ρW (a : Addr) (recs : List Rec) (k : Nat) (p : Option Rec) : Rho := ("pushed", pT p) :: ("at", atT k p) :: ρB a recs
theorem vars_sub {m : Str → Option Value} {g : View} {ρ ρ' : Rho} (h : ∀ x ∈ ρ', ρ.lookup x.1 = some x.2) (v : Vars m g ρ) : Vars m g ρ' := fun x t e => v x t (h (x, t) (lookup_mem e))

def layTo (recs : List Rec) (i : Nat) : RowL := layR (recs.take i) []
theorem layR_snoc : ∀ (xs : List Rec) (r : Rec) (rows : RowL), layR (xs ++ [r]) rows = (rst (layR xs rows) r ((layR xs rows).length + 1)).1
  | [], _, _ => rfl
  | x :: xs, r, rows => layR_snoc xs r _
theorem layTo_succ {recs : List Rec} {i : Nat} {r : Rec} (h : recs[i]? = some r) : layTo recs (i + 1) = (rst (layTo recs i) r ((layTo recs i).length + 1)).1 := by
  unfold layTo
  rw [List.take_add_one, h, Option.toList_some, layR_snoc]
theorem layTo_ok {recs : List Rec} (hg : ∀ r ∈ recs, Good r) : ∀ i, RowsOk i (layTo recs i) ∧ (layTo recs i).length ≤ i
  | 0 => ⟨fun x h => by simp [layTo, layR] at h, by simp [layTo, layR]⟩
  | i + 1 => by
    obtain ⟨h1, h2⟩ := layTo_ok hg i
    cases e : recs[i]? with
    | none =>
      have : layTo recs (i + 1) = layTo recs i := by
        unfold layTo; rw [List.take_add_one, e]; simp
      rw [this]; exact ⟨rowsOk_le h1, Nat.le_succ_of_le h2⟩
    | some r =>
      rw [layTo_succ e]
      have := rows_next h1 (hg r (List.mem_of_getElem? e))
      exact ⟨this.1, by omega⟩

theorem rowsT_map {g : View} : ∀ {bs : List Addr} {rows : RowL} {vs : List Value}, bs.length = rows.length → Fa g (List.zipWith (fun b row => AND (VR b) (rowT row)) bs rows) vs → Fa g (rows.map rowT) vs
  | [], [], [], _, _ => trivial
  | b :: bs, r :: rows, v :: vs, hl, hf => ⟨hf.1.2, rowsT_map (by simpa using hl) hf.2⟩
  | [], _ :: _, _, hl, _ => by simp at hl
  | _ :: _, [], _, hl, _ => by simp at hl
  | [], [], _ :: _, _, hf => hf.elim
  | _ :: _, _ :: _, [], _, hf => hf.elim
theorem rst_stay {rows : RowL} {p : Rec} {k : Nat} (h : (rst rows p k).2 = none) : ∀ d, rst rows p (k + d) = rst rows p k
  | 0 => rfl
  | d + 1 => by
    have ih := rst_stay h d
    show (match rst rows p (k + d) with | (r, some q) => stepR r (k + d) q | x => x) = _
    rw [ih]
    generalize rst rows p k = st at h
    obtain ⟨a, b⟩ := st
    cases b with
    | none => rfl
    | some q => cases h
theorem rst_same {rows : RowL} {p : Rec} {k j : Nat} (h : (rst rows p k).2 = none) (h' : (rst rows p j).2 = none) : rst rows p j = rst rows p k := by
  rcases Nat.le_total k j with z | z
  · obtain ⟨d, rfl⟩ := Nat.exists_eq_add_of_le z; exact rst_stay h d
  · obtain ⟨d, rfl⟩ := Nat.exists_eq_add_of_le z; exact (rst_stay h' d).symm
theorem cm_isnot {C : Cx} {n : Nat} {p : Option Rec} : Cm2 C n .IsNot (pT p) NO (B p.isSome) := by
  rintro A q s v1 v2 hA hG _ h1 h2
  have h2 : v2 = .none := h2
  subst h2
  cases p with
  | none =>
    have h1 : v1 = .none := h1
    subst h1
    exact wpAny_isNot_self rfl ⟨keeps_refl _, rfl⟩
  | some r =>
    obtain ⟨a, _, _, rfl, _⟩ := h1
    exact wpAny_isNot_other rfl (by intro h; cases h) ⟨keeps_refl _, rfl⟩

theorem shaped_recs {l : List Rec} (h : ∀ x ∈ l, Good x) : SeqAt.shaped (.list (l.map tcd)) = true := by
  have k1 : PyData.canLayAll0 (l.map tcd) = true := by
    induction l with
    | nil => rfl
    | cons x l ih =>
      simp only [List.map_cons, PyData.canLayAll0, ih (fun y hy => h y (.tail _ hy)), Bool.and_true]
      exact (good_lay (h x (.head _))).1
  have k2 : PyData.depthAll (l.map tcd) ≤ 8 := by
    clear k1
    induction l with
    | nil => simp [PyData.depthAll]
    | cons x l ih =>
      have a1 := ih (fun y hy => h y (.tail _ hy))
      have a2 := (good_lay (h x (.head _))).2
      simp only [List.map_cons, PyData.depthAll]; omega
  have k3 : (PyData.list (l.map tcd)).depth ≤ 9 := by simp only [PyData.depth]; omega
  unfold SeqAt.shaped
  simp only [PyData.canLay0, k1, Bool.true_and, decide_eq_true_eq]
  exact Nat.le_trans k3 (by decide)

set_option maxHeartbeats 8000000 in
theorem fn_rows {n : Nat} {recs : List Rec} (hg : ∀ r ∈ recs, Good r) (hl : recs.length ≤ 100) : FnC (mkC w mg mb top) (n + 3) (.ref 217) [LL (recs.map TC), TCO (LL sel6)] (LL ((layR recs []).map rowT)) := by
  refine fnc_cells (names := ["records", "order"]) (ho := by rfl) (hcd := by rfl) (hbody := by rfl) (hbind := ?_) (hlen := rfl) (hfree := by decide) (hloc := by decide) (hco := rfl) (hgen := rfl) (hk := rfl) (hgl := rfl) (hbu := rfl) (hclo := rfl) (h := ?_)
  · intro vs hv
    match vs, hv with
    | [_, _], _ => rfl
  · intro L
    show Xs _ _ ?E _ _ _ _
    let E : Env := ?E
    refine xs_pre ow_of_lv (xs_cons (Mid := EX fun a => Ow E (ρB a recs) (FR a [] [])) (x_new (sp := SL []) (rd ow_lv) (sp_list (fun _ h => by cases h)) (EvF.evn (ef_list evs_nil (by rw [sizeLine_eq]; show 0 ≤ _; omega))) rfl (fun _ => trivial) (fun _ => trivial) rfl (fun a _ => imp_ex (P := fun a => Ow E (ρB a recs) (FR a [] [])) a)) ?_)
    refine xs_ex fun a => ?_
    let Inv : Nat → Assn := fun i => A0 E a (layTo recs i) (ρB a recs)
    have a0lv : ∀ rows ρ, Imp (A0 E a rows ρ) (LV ρ) := fun rows ρ m q pc h ⟨_, z⟩ => z.v
    refine xs_cons (Mid := Inv recs.length) (x_forG (Inv := Inv) (Bod := fun i => A0 E a (layTo recs i) (("record", TC (recs.getD i [])) :: ρB a recs)) (ts := recs.map TC) (iop_of (ρ := [("records", LL (recs.map TC))]) (fun m q pc h z => vars_sub (by intro x hx; rw [List.mem_singleton] at hx; subst hx; rfl) z.v) (io_list (ev_name rfl rfl))) (imp_ex (P := fun bs : {bs : List Addr // bs.length = ([] : RowL).length} => Ow E (ρB a recs) (FR a bs.1 [])) ⟨[], rfl⟩) ?_ ?_ ?_ (fun _ => rfl)) ?_
    · intro i t ht
      obtain ⟨r, hr, rfl⟩ := of_at ht
      refine asg_name rfl (fun h => by cases h) (fun m q pc h h' v w hq ⟨bs, hP⟩ ht hk => ⟨bs, ?_⟩)
      have : recs.getD i [] = r := by rw [List.getD_eq_getElem?_getD, hr]; rfl
      rw [this]
      exact puts_ow rfl m q pc h h' v w hq hP ht hk
    · intro i t ht
      obtain ⟨r, hr, rfl⟩ := of_at ht
      have hri : recs.getD i [] = r := by rw [List.getD_eq_getElem?_getD, hr]; rfl
      have hgr : Good r := hg r (List.mem_of_getElem? hr)
      have hil : i < recs.length := by
        rcases Nat.lt_or_ge i recs.length with z | z
        · exact z
        · rw [List.getElem?_eq_none z] at hr; cases hr
      obtain ⟨hro, hrl⟩ := layTo_ok hg i
      generalize hrows : layTo recs i = rows at hro hrl
      have hnext : layTo recs (i + 1) = (rst rows r (rows.length + 1)).1 := by rw [layTo_succ hr, hrows]
      simp only [hri]
      refine xs_cons (Mid := A0 E a rows (("pushed", TC r) :: ("record", TC r) :: ρB a recs)) (x1_ex fun bs => x_assign (rd ow_lv) trivial (ev_name rfl rfl) rfl (fun _ => trivial) rfl (puts_post (puts_ow rfl) (imp_ex (P := fun bs : {bs : List Addr // bs.length = rows.length} => Ow E _ (FR a bs.1 rows)) bs))) ?_
      refine xs_cons (Mid := A0 E a rows (("at", I 0) :: ("pushed", TC r) :: ("record", TC r) :: ρB a recs)) (x1_ex fun bs => x_assign (rd ow_lv) trivial ev_int rfl (fun _ => trivial) rfl (puts_post (puts_ow rfl) (imp_ex (P := fun bs : {bs : List Addr // bs.length = rows.length} => Ow E _ (FR a bs.1 rows)) bs))) ?_
      refine xs_one (x_while (Inv := fun k => A0 E a (rst rows r k).1 (ρW a recs k (rst rows r k).2)) (ρs := fun k => [("pushed", pT (rst rows r k).2)]) (c := fun k => (rst rows r k).2.isSome) (L := LAll) (rows.length + 1) ?_ (fun k => rd ?_) (fun k _ => ?_) ?_ (by rw [rst_end hro hgr]; rfl) ?_)
      · exact fun m q pc h ⟨bs, z⟩ => ⟨bs, vars_sub (by (intro x hx; simp only [ρW, ρB, List.mem_cons, or_false, List.not_mem_nil] at hx; first | (rcases hx with rfl | rfl | rfl | rfl | rfl; all_goals rfl) | (rcases hx with rfl | rfl | rfl; all_goals rfl) | (subst hx; rfl))) z.v, z.o, z.d⟩
      · exact fun m q pc h ⟨bs, z⟩ => vars_sub (by (intro x hx; simp only [ρW, ρB, List.mem_cons, or_false, List.not_mem_nil] at hx; first | (rcases hx with rfl | rfl | rfl | rfl | rfl; all_goals rfl) | (rcases hx with rfl | rfl | rfl; all_goals rfl) | (subst hx; rfl))) z.v
      · exact tr_cmp (ev_name rfl rfl) ev_none cm_isnot rfl
      · intro k hk hc
        obtain ⟨rk, po, hst⟩ : ∃ rk po, rst rows r k = (rk, po) := ⟨_, _, rfl⟩
        simp only [hst] at hc ⊢
        cases po with
        | none => cases hc
        | some q =>
        have hm := mid_rst hro hgr k
        rw [hst] at hm
        obtain ⟨hrk, hkl, hgq, hrok⟩ := hm.s q rfl
        simp only at hrk hrok
        have hnx : rst rows r (k + 1) = stepR rk k q := by show (match rst rows r k with | (r, some q) => stepR r k q | x => x) = _; rw [hst]
        have hfew : rows.length ≤ 100 := by omega
        let rows1 : RowL := if k = rk.length then rk ++ [[]] else rk
        have hk1 : k < rows1.length := by
          show k < (if k = rk.length then rk ++ [[]] else rk).length
          by_cases h : k = rk.length
          · rw [if_pos h]; simp; omega
          · rw [if_neg h]; omega
        have hr1 : RowsOk i rows1 := by
          show RowsOk i (if k = rk.length then rk ++ [[]] else rk)
          by_cases h : k = rk.length
          · rw [if_pos h]
            intro x hx
            rcases List.mem_append.mp hx with z | z
            · exact hrok x z
            · rw [List.mem_singleton] at z; subst z; simp
          · rw [if_neg h]; exact hrok
        have hlen1 : rows1.length ≤ 101 := by
          show (if k = rk.length then rk ++ [[]] else rk).length ≤ 101
          by_cases h : k = rk.length
          · rw [if_pos h]; simp; omega
          · rw [if_neg h]; omega
        have hstep : stepR rk k q = (match (rows1.getD k []).filter (fun one => cmpR one q == 1) with
            | [] => (rows1.set k (rows1.getD k [] ++ [q]), none)
            | b :: _ => (rows1.set k ((rows1.getD k []).set (((rows1.getD k []).findIdx? (fun a => a == b)).getD 0) q), some b)) := rfl
        refine xs_cons (Mid := A0 E a rows1 (ρW a recs k (some q))) (x1_ex fun bs => ?_) ?_
        · obtain ⟨bs, hbl⟩ := bs
          simp only
          refine x_if (c := k == rk.length) (rd_rows hbl rfl) (Tr.eq (tr_cmp (ev_name rfl rfl) (ev_call (ev_builtin (v := .builtin "len") rfl rfl rfl rfl (by decide)) (evs_cons (ev_name rfl rfl) evs_nil rfl) (fn_len_list (by rw [List.length_zipWith]; omega)) rfl rfl rfl) cm_eq rfl) ?_) (fun h => ?_) (fun h => xs_nil ?_)
          · rw [List.length_zipWith, hbl, Nat.min_self, Bool.eq_iff_iff]; simp; omega
          · have hke : k = rk.length := by simpa using h
            have hr1e : rows1 = rk ++ [[]] := if_pos hke
            refine xs_one (x_append_new (i := 0) (ts := bs.map VR) (sp := SL []) (rd ow_lv) (sp_list (fun _ h => by cases h)) rfl (ev_name rfl rfl) (EvF.evn (ef_list evs_nil (by rw [sizeLine_eq]; show 0 ≤ _; omega))) (by rw [List.length_map]; omega) (fun _ => trivial) rfl rfl rfl rfl rfl fun c => ?_)
            refine Imp.trans (ow_perm (F' := FR a (bs ++ [c]) rows1) ?_) (imp_ex (P := fun bs : {bs : List Addr // bs.length = rows1.length} => Ow E _ (FR a bs.1 rows1)) ⟨bs ++ [c], by rw [hr1e]; simp [hbl]⟩)
            rw [hr1e]
            unfold FR
            rw [fz_snoc hbl, List.map_append]
            show (_ :: _ :: Fz bs rk : Owns).Perm _
            exact (List.Perm.swap _ _ _).trans (List.Perm.cons _ (List.perm_append_singleton _ _).symm)
          · have hke : ¬ k = rk.length := by simpa using h
            have hr1e : rows1 = rk := if_neg hke
            rw [hr1e]
            exact imp_ex (P := fun bs : {bs : List Addr // bs.length = rk.length} => Ow E _ (FR a bs.1 rk)) ⟨bs, hbl⟩
        · refine xs_ex fun bs => ?_
          obtain ⟨bs, hbl⟩ := bs
          simp only
          obtain ⟨b, hb, hbt⟩ := rowsT_at hbl hk1
          obtain ⟨hrow1, hrow2⟩ := row_at hr1 k
          generalize hrow : rows1.getD k [] = row at hbt hrow1 hrow2 hstep
          have hlayq : ∀ x ∈ row, Good x := hrow2
          have hpl : ∀ x : Rec, L2 (TC x) := fun x => .inr ⟨_, rfl, fun u hu => by obtain ⟨c, _, rfl⟩ := List.mem_map.mp hu; exact pu_s⟩
          have hrr : Rd (mkC w mg mb top) (n + 2) E (fun _ => True) (Ow E (ρW a recs k (some q)) (FR a bs rows1)) (("rows", RowsT bs rows1) :: ρW a recs k (some q)) L2 := rd_rows hbl rfl
          generalize hfl : row.filter (fun one => cmpR one q == 1) = fl at hstep
          refine xs_cons (Mid := Ow E (("behind", LL (fl.map TC)) :: ρW a recs k (some q)) (FR a bs rows1)) (x_comp (us := fl.map TC) (ts := row.map TC) hrr (fun u hu => by obtain ⟨x, _, rfl⟩ := List.mem_map.mp hu; exact hpl x)
            (io_list (ev_weak (t := AND (VR b) (rowT row)) (ev_sub (ev_name rfl rfl) (ev_name rfl rfl) (it_list (by omega) (by omega) (by rw [Int.toNat_natCast]; exact hbt)) fun _ _ => rfl) (fun g v h => h.2))) (by rfl) rfl (by decide) ?_ (by rw [List.length_map]; omega) (fun _ => rfl) rfl (fun _ => trivial) rfl (puts_ow rfl)) ?_
          · rw [← hfl]
            refine cr_filter _ (fun x hx cs L0 => ?_) (fun x hx _ cs L0 => ev_name rfl rfl)
            refine tr_cmp (ev_method (cls := 95) (f := 92) (ev_name rfl rfl) (evs_cons (ev_name rfl rfl) (evs_cons (ev_name rfl rfl) evs_nil rfl) rfl) (fn_compare (hrow2 x hx).1 hgq.1).fn (by rfl) (by rfl) (by rfl) rfl (by rfl) rfl rfl (by rfl)) ev_int cm_eq rfl
          · have hrr2 : Rd (mkC w mg mb top) (n + 2) E (fun _ => True) (Ow E (("behind", LL (fl.map TC)) :: ρW a recs k (some q)) (FR a bs rows1)) (("rows", RowsT bs rows1) :: ("behind", LL (fl.map TC)) :: ρW a recs k (some q)) L2 := rd_rows hbl rfl
            have hat : It2 (mkC w mg mb top) (n + 2) (RowsT bs rows1) (nat k) (AND (VR b) (rowT row)) := it_list (by omega) (by omega) (by rw [Int.toNat_natCast]; exact hbt)
            have hFk : (FR a bs rows1)[k + 1]? = some (b, SL (row.map TC)) := by
              show (Fz bs rows1)[k]? = _
              rw [fz_at hbl hb, hrow]
            have hset : ∀ row', (FR a bs rows1).set (k + 1) (b, SL (row'.map TC)) = FR a bs (rows1.set k row') := fun row' => by
              show _ :: (Fz bs rows1).set k _ = _
              rw [fz_set hbl hb]; rfl
            rcases fl with _ | ⟨c0, fl⟩
            · refine xs_one (x_if (c := true) (rd ow_lv) (Tr.eq (tr_cmp (ev_name rfl rfl) (EvF.ev (ef_list evs_nil (by rw [sizeLine_eq]; show 0 ≤ _; omega))) (cm_eqR (rt_list rt_tc []) (rt_list rt_tc []) (by rfl) (by rfl)) rfl) (by rfl)) (fun _ => ?_) (fun h => by cases h))
              refine xs_cons (Mid := Ow E (("behind", LL (([] : List Rec).map TC)) :: ρW a recs k (some q)) (FR a bs (rows1.set k (row ++ [q])))) (x_append_ow (i := k + 1) (ts := row.map TC) (t := TC q) (a := b) (hpl q) hrr2 hFk (ev_weak (t := AND (VR b) (rowT row)) (ev_sub (ev_name rfl rfl) (ev_name rfl rfl) hat fun _ _ => rfl) (fun g v h => h.1)) (ev_name rfl rfl) (by rw [List.length_map]; omega) rfl rfl rfl rfl rfl ?_) ?_
              · rw [← hset, List.map_append]; exact Imp.refl _
              · refine xs_one (x_assign (rd ow_lv) trivial ev_none rfl (fun _ => trivial) rfl (puts_post (puts_ow rfl) ?_))
                rw [hnx, hstep]
                exact fun m q pc h z => ⟨⟨bs, by simp [hbl]⟩, vars_sub (by (intro x hx; simp only [ρW, ρB, List.mem_cons, or_false, List.not_mem_nil] at hx; first | (rcases hx with rfl | rfl | rfl | rfl | rfl; all_goals rfl) | (rcases hx with rfl | rfl | rfl; all_goals rfl) | (subst hx; rfl))) z.v, z.o, z.d⟩
            · have hc0 : c0 ∈ row.filter (fun one => cmpR one q == 1) := hfl ▸ List.mem_cons_self
              have hc0r : c0 ∈ row := (List.mem_filter.mp hc0).1
              have hgfl : ∀ x ∈ c0 :: fl, Good x := fun x hx => hrow2 x (List.mem_filter.mp (hfl ▸ hx)).1
              have hflen : (c0 :: fl).length ≤ 4096 := by rw [← hfl]; exact Nat.le_trans (List.length_filter_le _ _) (by omega)
              obtain ⟨jx, hjx⟩ : ∃ j, row.findIdx? (fun a => a == c0) = some j := by
                rw [← Option.isSome_iff_exists, List.findIdx?_isSome, List.any_eq_true]
                exact ⟨c0, hc0r, by simp⟩
              have hjl : jx < row.length := (List.findIdx?_eq_some_iff_getElem.mp hjx).1
              have hstep : stepR rk k q = (rows1.set k (row.set jx q), some c0) := by rw [hstep]; simp only [hjx, Option.getD_some]
              refine xs_one (x_if (c := false) (rd ow_lv) (Tr.eq (tr_cmp (ev_name rfl rfl) (EvF.ev (ef_list evs_nil (by rw [sizeLine_eq]; show 0 ≤ _; omega))) (cm_eqR (rt_list rt_tc (c0 :: fl)) (rt_list rt_tc []) (shaped_recs hgfl) (by rfl)) rfl) (by rfl)) (fun h => by cases h) (fun _ => ?_))
              refine xs_cons (Mid := Ow E (("behind", LL ((c0 :: fl).map TC)) :: ρW a recs k (some q)) (FR a bs (rows1.set k (row.set jx q)))) (x_setitem_ow (i := (jx : Int)) (j := k + 1) (ts := row.map TC) (t := TC q) (a := b) (hpl q) hrr2 hFk (ev_weak (t := AND (VR b) (rowT row)) (ev_sub (ev_name rfl rfl) (ev_name rfl rfl) hat fun _ _ => rfl) (fun g v h => h.1)) (ev_name rfl rfl)
                (ev_indexH key_tc (by omega) (ev_weak (t := AND (VR b) (rowT row)) (ev_sub (ev_name rfl rfl) (ev_name rfl rfl) hat fun _ _ => rfl) (fun g v h => h.2)) (ev_sub (t := TC c0) (ev_name rfl rfl) ev_int (it_list (by decide) (by decide) rfl) fun _ _ => rfl) (fun x hx => good_lay (hx.elim (hrow2 x) (fun e => e ▸ hrow2 c0 hc0r))) (by simpa only [eqv_tc] using hjx) rfl rfl rfl) (by omega) (by rw [List.length_map]; omega) (by rw [List.length_map]; omega) rfl ?_) ?_
              · rw [← hset, Int.toNat_natCast, List.map_set]; exact Imp.refl _
              refine xs_cons (Mid := Ow E (("pushed", TC c0) :: ("behind", LL ((c0 :: fl).map TC)) :: ρW a recs k (some q)) (FR a bs (rows1.set k (row.set jx q)))) (x_assign (rd ow_lv) trivial (ev_sub (t := TC c0) (ev_name rfl rfl) ev_int (it_list (by decide) (by decide) rfl) fun _ _ => rfl) rfl (fun _ => trivial) rfl (puts_ow rfl)) ?_
              refine xs_one (x_aug (a := (k : Int)) (d := 1) (rd ow_lv) trivial rfl rfl ev_int rfl (fun _ => trivial) (puts_post (puts_ow rfl) ?_))
              rw [hnx, hstep]
              exact fun m q pc h z => ⟨⟨bs, by simp [hbl]⟩, vars_sub (by (intro x hx; simp only [ρW, ρB, List.mem_cons, or_false, List.not_mem_nil] at hx; first | (rcases hx with rfl | rfl | rfl | rfl | rfl; all_goals rfl) | (rcases hx with rfl | rfl | rfl; all_goals rfl) | (subst hx; rfl))) z.v, z.o, z.d⟩
      · intro k hc
        have hc' : (rst rows r k).2 = none := by cases h : (rst rows r k).2 with | none => rfl | some q => rw [h] at hc; cases hc
        rw [show Inv (i + 1) = A0 E a (layTo recs (i + 1)) (ρB a recs) from rfl, hnext, rst_same hc' (rst_end hro hgr)]
        exact fun m q pc h ⟨bs, z⟩ => ⟨bs, vars_sub (by (intro x hx; simp only [ρW, ρB, List.mem_cons, or_false, List.not_mem_nil] at hx; first | (rcases hx with rfl | rfl | rfl | rfl | rfl; all_goals rfl) | (rcases hx with rfl | rfl | rfl; all_goals rfl) | (subst hx; rfl))) z.v, z.o, z.d⟩
    · simp only [List.length_map]; exact Imp.refl _
    · refine xs_ex fun bs => ?_
      obtain ⟨bs, hbl⟩ := bs
      refine xs_one (x_ret (rd_rows hbl rfl) (ev_weak (ev_name rfl rfl) ?_))
      rintro g v ⟨a, vs, n, rfl, h1, h2⟩
      refine ⟨a, vs, n, rfl, h1, ?_⟩
      have := rowsT_map hbl h2
      rwa [show layTo recs recs.length = layR recs [] by unfold layTo; rw [List.take_length]] at this
end Mine

end
/-! F6 -/
section
open PySem PySem.W PyProof.Rows PySem.Calls
set_option maxRecDepth 100000
set_option linter.all false
namespace Mine
variable {w : World} {mg mb : Str → Option Value} {top : Heap}

def addI (acc : KV) (p : Int × Int) : KV := match kfind acc p.1 with | some j => kstore acc p.1 (j + p.2) | none => kstore acc p.1 p.2
def cpy (t : KV) : KV := t.foldl (fun acc p => kstore acc p.1 p.2) []
def addC (t s : KV) : KV := s.foldl addI (cpy t)
theorem kstore_len (kvs : KV) (k i : Int) : (kstore kvs k i).length ≤ kvs.length + 1 := by
  unfold kstore; split
  · rw [List.length_map]; omega
  · simp
theorem addI_len (kvs : KV) (p : Int × Int) : (addI kvs p).length ≤ kvs.length + 1 := by
  unfold addI; split <;> exact kstore_len ..
theorem fold_len {f : KV → (Int × Int) → KV} (h : ∀ a p, (f a p).length ≤ a.length + 1) : ∀ (l : KV) (acc : KV), (l.foldl f acc).length ≤ acc.length + l.length
  | [], acc => by simp
  | p :: l, acc => by
    have h1 := fold_len h l (f acc p)
    have h2 := h acc p
    simp only [List.foldl_cons, List.length_cons]; omega
theorem fold_take {f : KV → (Int × Int) → KV} {l : KV} {acc : KV} {i : Nat} {p : Int × Int} (h : l[i]? = some p) : (l.take (i + 1)).foldl f acc = f ((l.take i).foldl f acc) p := by
  rw [List.take_add_one, h, Option.toList_some, List.foldl_append]; rfl
theorem fn_isi_tuple {C : Cx} {n : Nat} {i : Int} : Fn C n (.builtin "isinstance") [I i, V (.type "tuple")] (B false) := by
  rintro A p s vs hA g q hf
  match vs, hf with
  | [_, _], ⟨⟨t, rfl⟩, h, _⟩ =>
    have h : _ = Value.type "tuple" := h
    subst h
    exact PySem.IsiPair.int_tuple ⟨keeps_tok _ _, rfl⟩

set_option maxHeartbeats 8000000 in
theorem fn_add_callers {n : Nat} {t s : KV} (ht : t.length ≤ 100) (hs : s.length ≤ 100) : FnC (mkC w mg mb top) (n + 1) (.ref 106) [DI (mkC w mg mb top) t, DI (mkC w mg mb top) s] (DI (mkC w mg mb top) (addC t s)) := by
  refine fnc_plain (names := ["target", "source"]) (ho := by rfl) (hcd := by rfl) (hbody := by rfl) (hbind := ?_) (hlen := rfl) (hnd := by decide) (hcell := by decide) (hfree := by decide) (hloc := by decide) (hco := rfl) (hgen := rfl) (hk := rfl) (hgl := rfl) (hbu := rfl) (hclo := rfl) (h := ?_)
  · intro vs hv
    match vs, hv with
    | [_, _], _ => rfl
  · intro L
    show Xs _ _ ?E _ _ _ _
    let E : Env := ?E
    let C := mkC w mg mb top
    let ρ0 : Rho := [("target", DI C t), ("source", DI C s)]
    refine xs_pre ow_of_lv (xs_cons (Mid := EX fun a : {a : Addr // a ≠ sysModules} => Ow E (("new_callers", V (.ref a.1)) :: ρ0) [(a.1, SI C [])]) (x_new (sp := SI C []) (Kp := fun a => a ≠ sysModules) (rd ow_lv) si_pu en_dict rfl (fun h => by cases h) (fun _ => trivial) rfl (fun a ha => imp_ex (P := fun a : {a : Addr // a ≠ sysModules} => Ow E (("new_callers", V (.ref a.1)) :: ρ0) [(a.1, SI C [])]) ⟨a, ha⟩)) ?_)
    refine xs_ex fun a => ?_
    obtain ⟨a, has⟩ := a
    let ρ1 : Rho := ("new_callers", V (.ref a)) :: ρ0
    let c1 : Nat → KV := fun i => (t.take i).foldl (fun acc p => kstore acc p.1 p.2) []
    let c2 : Nat → KV := fun i => (s.take i).foldl addI (cpy t)
    have l1 : ∀ i, (c1 i).length ≤ 100 := fun i => Nat.le_trans (fold_len (fun a p => kstore_len a _ _) _ _) (by simp; omega)
    have lc : (cpy t).length ≤ 100 := Nat.le_trans (fold_len (fun a p => kstore_len a _ _) _ _) (by simp; omega)
    have l2 : ∀ i, (c2 i).length ≤ 300 := fun i => Nat.le_trans (fold_len addI_len _ _) (by simp; omega)
    have e1 : c1 t.length = cpy t := by show (t.take t.length).foldl _ [] = _; rw [List.take_length]; rfl
    have e2 : c2 s.length = addC t s := by show (s.take s.length).foldl _ _ = _; rw [List.take_length]; rfl
    refine xs_cons (Mid := Ow E ρ1 [(a, SI C (c1 t.length))]) (x_forG (Inv := fun i => Ow E ρ1 [(a, SI C (c1 i))]) (Bod := fun i => Ow E (("caller", I (t.getD i (0, 0)).2) :: ("func", I (t.getD i (0, 0)).1) :: ρ1) [(a, SI C (c1 i))]) (ts := t.map fun p => TU [I p.1, I p.2]) (iop_items (ρ := ρ1) ow_lv rfl rfl rfl rfl) (Imp.refl _) ?_ ?_ ?_ (fun _ => rfl)) ?_
    · intro i tt hi
      obtain ⟨p, hp, rfl⟩ := of_at hi
      have : t.getD i (0, 0) = p := by rw [List.getD_eq_getElem?_getD, hp]; rfl
      simp only [this]
      exact asg_pair rfl (fun h => by cases h) rfl (fun h => by cases h) (puts_ow rfl) (puts_ow rfl)
    · intro i tt hi
      obtain ⟨p, hp, rfl⟩ := of_at hi
      have : t.getD i (0, 0) = p := by rw [List.getD_eq_getElem?_getD, hp]; rfl
      simp only [this]
      refine xs_one (x_setdict (j := 0) (kvs := c1 i) (k := p.1) (i := p.2) (Nat.le_trans (l1 i) (by omega)) (rd ow_lv) rfl (ev_name rfl rfl) (ev_name rfl rfl) (ev_name rfl rfl) rfl ?_)
      have e : c1 (i + 1) = kstore (c1 i) p.1 p.2 := fold_take hp
      rw [e]
      exact ow_weak fun m g v => vars_drop rfl (vars_drop rfl v)
    · simp only [List.length_map]; exact Imp.refl _
    rw [e1]
    refine xs_cons (Mid := Ow E ρ1 [(a, SI C (c2 s.length))]) (x_forG (Inv := fun i => Ow E ρ1 [(a, SI C (c2 i))]) (Bod := fun i => Ow E (("caller", I (s.getD i (0, 0)).2) :: ("func", I (s.getD i (0, 0)).1) :: ρ1) [(a, SI C (c2 i))]) (ts := s.map fun p => TU [I p.1, I p.2]) (iop_items (ρ := ρ1) ow_lv rfl rfl rfl rfl) (Imp.refl _) ?_ ?_ ?_ (fun _ => rfl)) ?_
    · intro i tt hi
      obtain ⟨p, hp, rfl⟩ := of_at hi
      have : s.getD i (0, 0) = p := by rw [List.getD_eq_getElem?_getD, hp]; rfl
      simp only [this]
      exact asg_pair rfl (fun h => by cases h) rfl (fun h => by cases h) (puts_ow rfl) (puts_ow rfl)
    · intro i tt hi
      obtain ⟨p, hp, rfl⟩ := of_at hi
      have : s.getD i (0, 0) = p := by rw [List.getD_eq_getElem?_getD, hp]; rfl
      simp only [this]
      have e : c2 (i + 1) = addI (c2 i) p := fold_take hp
      have hfind : (kfind (c2 i) p.1).isSome = true ∨ (kfind (c2 i) p.1).isSome = false := by cases (kfind (c2 i) p.1).isSome <;> simp
      let ρ2 : Rho := ("caller", I p.2) :: ("func", I p.1) :: ρ1
      have wk : ∀ F, Imp (Ow E ρ2 F) (Ow E ρ1 F) := fun F => ow_weak fun m g v => vars_drop rfl (vars_drop rfl v)
      refine xs_one (x_if (c := (kfind (c2 i) p.1).isSome) (rd_dict (x := "new_callers") (kvs := c2 i) rfl (.head _) has) (tr_cmp (ev_name rfl rfl) (ev_name rfl rfl) cm_in_dict rfl) (fun h => ?_) (fun h => ?_))
      · obtain ⟨j, hj⟩ := Option.isSome_iff_exists.mp h
        refine xs_one (x_if (c := false) (rd ow_lv) (tr_val (ev_call (ev_builtin (v := .builtin "isinstance") rfl rfl rfl rfl (by decide)) (evs_cons (ev_name rfl rfl) (evs_cons (ev_builtin (v := .type "tuple") rfl rfl rfl rfl (by decide)) evs_nil rfl) rfl) fn_isi_tuple rfl rfl rfl) truly_bool (fun _ => rfl)) (fun h => by cases h) (fun _ => ?_))
        refine xs_one (x_augdict (j := 0) (kvs := c2 i) (k := p.1) (i0 := j) (d := p.2) (Nat.le_trans (l2 i) (by omega)) (rd ow_lv) rfl (ev_name rfl rfl) (ev_name rfl rfl) (ev_name rfl rfl) hj (fun _ _ _ => rfl) ?_)
        rw [e, show addI (c2 i) p = kstore (c2 i) p.1 (j + p.2) by unfold addI; rw [hj]]
        exact wk _
      · have hj : kfind (c2 i) p.1 = none := by simpa using h
        refine xs_one (x_setdict (j := 0) (kvs := c2 i) (k := p.1) (i := p.2) (Nat.le_trans (l2 i) (by omega)) (rd ow_lv) rfl (ev_name rfl rfl) (ev_name rfl rfl) (ev_name rfl rfl) rfl ?_)
        rw [e, show addI (c2 i) p = kstore (c2 i) p.1 p.2 by unfold addI; rw [hj]]
        exact wk _
    · simp only [List.length_map]; exact Imp.refl _
    rw [e2]
    exact xs_one (x_ret (rd_dict (x := "new_callers") (kvs := addC t s) rfl (.head _) has) (ev_name rfl rfl))

def sumV (t : KV) : Int := t.foldl (fun a p => a + p.2) 0
set_option maxHeartbeats 8000000 in
theorem fn_count_calls {n : Nat} {t : KV} : FnC (mkC w mg mb top) (n + 1) (.ref 113) [DI (mkC w mg mb top) t] (I (sumV t)) := by
  refine fnc_plain (names := ["callers"]) (ho := by rfl) (hcd := by rfl) (hbody := by rfl) (hbind := ?_) (hlen := rfl) (hnd := by decide) (hcell := by decide) (hfree := by decide) (hloc := by decide) (hco := rfl) (hgen := rfl) (hk := rfl) (hgl := rfl) (hbu := rfl) (hclo := rfl) (h := ?_)
  · intro vs hv
    match vs, hv with
    | [_], _ => rfl
  · intro L
    show Xs _ _ ?E _ _ _ _
    let E : Env := ?E
    let C := mkC w mg mb top
    let ρ0 : Rho := [("callers", DI C t)]
    let sm : Nat → Int := fun i => (t.take i).foldl (fun a p => a + p.2) 0
    have e1 : sm t.length = sumV t := by show (t.take t.length).foldl _ 0 = _; rw [List.take_length]; rfl
    refine xs_cons (Mid := LV (("nc", I 0) :: ρ0)) (x_assign (rd (Imp.refl _)) trivial ev_int rfl (fun h => by cases h) rfl puts_lv) ?_
    refine xs_cons (Mid := LV (("nc", I (sm t.length)) :: ρ0)) (x_forG (Inv := fun i => LV (("nc", I (sm i)) :: ρ0)) (Bod := fun i => LV (("calls", I (t.getD i (0, 0)).2) :: ("nc", I (sm i)) :: ρ0)) (ts := t.map fun p => I p.2) (iop_values (ρ := ("nc", I 0) :: ρ0) (Imp.refl _) rfl rfl rfl rfl) (Imp.refl _) ?_ ?_ ?_ (fun _ => rfl)) ?_
    · intro i tt hi
      obtain ⟨p, hp, rfl⟩ := of_at hi
      have : t.getD i (0, 0) = p := by rw [List.getD_eq_getElem?_getD, hp]; rfl
      simp only [this]
      exact asg_name rfl (fun h => by cases h) puts_lv
    · intro i tt hi
      obtain ⟨p, hp, rfl⟩ := of_at hi
      have : t.getD i (0, 0) = p := by rw [List.getD_eq_getElem?_getD, hp]; rfl
      simp only [this]
      have e : sm (i + 1) = sm i + p.2 := by show (t.take (i + 1)).foldl _ 0 = _; rw [List.take_add_one, hp, Option.toList_some, List.foldl_append]; rfl
      refine xs_one (x_aug (a := sm i) (d := p.2) (rd (Imp.refl _)) trivial rfl rfl (ev_name rfl rfl) rfl (fun h => by cases h) (puts_post puts_lv ?_))
      rw [e]
      exact fun m q pc h v => vars_sub (by intro x hx; simp only [List.mem_cons, or_false, List.not_mem_nil, ρ0] at hx; rcases hx with rfl | rfl; all_goals rfl) v
    · simp only [List.length_map]; exact Imp.refl _
    · rw [e1]; exact xs_one (x_ret (rd (Imp.refl _)) (ev_name rfl rfl))
end Mine

end
/-! F7 -/
section
open PySem PySem.W PyProof.Rows PySem.Calls
set_option maxRecDepth 100000
set_option linter.all false
namespace Mine
inductive Lt : T → Prop
  | pu {t : T} : Pu t → Lt t
  | tu {us : List T} : (∀ u ∈ us, Lt u) → Lt (TU us)
def NoTup (F : Owns) : Prop := ∀ a sp, (a, sp) ∈ F → ∀ g o, sp.P g o → o.cls ≠ .type "tuple"
theorem rd_ow3 {C : Cx} {n : Nat} {env : Env} {ρ ρr : Rho} {ow : Str → Prop} {F : Owns} (hF : NoTup F) (hx : ∀ m g, Vars m g ρ → (∀ a sp, (a, sp) ∈ F → ∃ o, g a o ∧ sp.P g o) → Vars m g ρr) : Rd C n env ow (Ow env ρ F) ρr Lt := by
  intro A m q pc s b hP
  have hd : ∀ a sp, (a, sp) ∈ F → ¬ pc a := fun a sp ha => b.dis a (hP.o a sp ha).1
  have sub : Sub (vw (pa q pc) s.heap) (vw (fun d => pa q pc d ∧ ∀ sp, (d, sp) ∉ F) s.heap) := vw_less fun d hd => hd.1
  refine ⟨fun d => pa q pc d ∧ ∀ sp, (d, sp) ∉ F, fun d z => ⟨.inl z, fun sp e => hd d sp e z⟩, ⟨b.a, b.f, ?_, b.g, fun d hd => b.pin d hd.1⟩, ?_⟩
  · refine hx _ _ (hP.v.mono sub) fun a sp ha => ?_
    obtain ⟨_, ⟨o, h4, h5⟩, _⟩ := hP.o a _ ha
    exact ⟨o, ⟨fun z => z.2 sp ha, h4⟩, sp.mono sub h5⟩
  · intro t ht s' v r kk z
    induction ht generalizing v with
    | pu h => exact h _ _ v z
    | @tu us hu ih =>
      obtain ⟨a, vs, k, rfl, hg, hf⟩ := z
      refine ⟨a, vs, k, rfl, ⟨fun y => hg.1 (y.elim (fun y => .inl ⟨y, fun sp hsp => ?_⟩) .inr), hg.2⟩, ?_⟩
      · obtain ⟨_, ⟨o, h4, h5⟩, _⟩ := hP.o a _ hsp
        have := keeps_hs kk _ _ h4
        rw [hg.2] at this
        cases this
        exact hF a sp hsp _ _ h5 rfl
      · clear hg hu
        induction us generalizing vs with
        | nil => cases vs with | nil => trivial | cons _ _ => exact hf.elim
        | cons u us ihu =>
          cases vs with
          | nil => exact hf.elim
          | cons v vs => exact ⟨ih u (.head _) v hf.1, ihu (fun u h => ih u (.tail _ h)) vs hf.2⟩

variable {w : World} {mg mb : Str → Option Value} {top : Heap}
def wsL (a b : Nat) : List Nat := List.replicate a 9 ++ (List.replicate b 32 ++ [120])
def wsS (a b : Nat) : Str := ⟨(wsL a b).toArray⟩
theorem wsL_len (a b : Nat) : (wsL a b).length = a + b + 1 := by simp [wsL]; omega
theorem wsL_at (a b i : Nat) (h : i < a + b + 1) : (wsL a b)[i]? = some (if i < a then 9 else if i < a + b then 32 else 120) := by
  unfold wsL
  by_cases h1 : i < a
  · rw [List.getElem?_append_left (by simpa using h1)]; simp [h1]
  · rw [List.getElem?_append_right (by simp; omega), List.length_replicate]
    by_cases h2 : i < a + b
    · rw [List.getElem?_append_left (by simp; omega)]
      have : i - a < b := by omega
      simp [h1, h2, this]
    · rw [List.getElem?_append_right (by simp; omega), List.length_replicate]
      have : i - a - b = 0 := by omega
      simp [h1, h2, this]
theorem ws_ascii (a b : Nat) : strIterType (wsS a b) = "str_ascii_iterator" := by
  unfold strIterType
  rw [if_pos]
  rw [← Array.all_toList]
  simp only [wsS, wsL, List.all_eq_true, List.mem_append, List.mem_replicate, List.mem_singleton]
  rintro x ((⟨_, rfl⟩ | ⟨_, rfl⟩ | rfl)) <;> rfl
def cI (m : Nat) : List Int := if m = 0 then [] else [(m : Int)]
def ini (a b : Nat) : List (Str × T) := [("raw", S (wsS a b)), ("n", nat (a + b)), ("nt", nat a), ("norm", TU [TU ((cI a).map I), nat b]), ("is_simple", B true)]
def WSO (a b : Nat) : T := OB 175 (ini a b)
def ρI (x dx : Addr) (a b : Nat) (c : Addr) (i : Nat) : Rho := ("b", nat (i - a)) :: ("n", nat i) :: ("nt", nat (min i a)) :: ("count", V (.ref c)) :: ("S", S " ") :: ("T", S "\t") :: ("self", IN x 175 dx) :: [("ws", S (wsS a b))]
def FI0 (dx : Addr) (a b : Nat) (c : Addr) (m : Nat) : Owns := [(c, SL ((cI m).map I)), (dx, SD [("raw", S (wsS a b))])]
theorem sp_ints (l : List Int) : SpPu (SL (l.map I)) := sp_list fun t ht => by obtain ⟨i, _, rfl⟩ := List.mem_map.mp ht; exact pu_i

theorem noTup_sl {F : Owns} {a : Addr} {ts : List T} (h : NoTup F) : NoTup ((a, SL ts) :: F) := fun c sp hc g o ho => by
  rcases List.mem_cons.mp hc with e | hc
  · cases e; obtain ⟨vs, n, rfl, _⟩ := ho; simp
  · exact h c sp hc g o ho
theorem noTup_sd {F : Owns} {a : Addr} {fs : List (Str × T)} (h : NoTup F) : NoTup ((a, SD fs) :: F) := fun c sp hc g o ho => by
  rcases List.mem_cons.mp hc with e | hc
  · cases e; obtain ⟨vs, n, rfl, _⟩ := ho; simp
  · exact h c sp hc g o ho
theorem noTup_nil : NoTup [] := fun _ _ h => by cases h
/-- the list open under its name -/
theorem rd_cnt {C : Cx} {n : Nat} {env : Env} {ρ : Rho} {ow : Str → Prop} {x : Str} {c : Addr} {ts : List T} {F : Owns} (hF : NoTup F) (hc : (c, SL ts) ∈ F) (hx : ρ.lookup x = some (V (.ref c))) : Rd C n env ow (Ow env ρ F) ((x, LL ts) :: ρ) Lt := by
  refine rd_ow3 hF fun m g hv ho => ?_
  intro y t e
  rw [List.lookup_cons] at e
  by_cases hy : y = x
  · subst hy
    simp at e
    subst e
    obtain ⟨v, h1, h2⟩ := hv _ _ hx
    have h2 : v = .ref c := h2
    subst h2
    obtain ⟨o, h3, vs, k, rfl, h4⟩ := ho c _ hc
    exact ⟨_, h1, c, vs, k, rfl, h3, h4⟩
  · have hb : (y == x) = false := by simpa using hy
    rw [hb] at e
    exact hv y t e

theorem rd_cnt2 {C : Cx} {n : Nat} {env : Env} {ρ : Rho} {ow : Str → Prop} {x : Str} {c : Addr} {ts : List T} {F : Owns} (hF : NoTup F) (hc : (c, SL ts) ∈ F) (hx : ρ.lookup x = some (V (.ref c))) : Rd C n env ow (Ow env ρ F) ((x, AND (V (.ref c)) (LL ts)) :: ρ) Lt := by
  refine rd_ow3 hF fun m g hv ho => ?_
  intro y t e
  rw [List.lookup_cons] at e
  by_cases hy : y = x
  · subst hy
    simp at e
    subst e
    obtain ⟨v, h1, h2⟩ := hv _ _ hx
    have h2 : v = .ref c := h2
    subst h2
    obtain ⟨o, h3, vs, k, rfl, h4⟩ := ho c _ hc
    exact ⟨_, h1, rfl, c, vs, k, rfl, h3, h4⟩
  · have hb : (y == x) = false := by simpa using hy
    rw [hb] at e
    exact hv y t e

set_option maxHeartbeats 8000000 in
theorem fn_ws_init {n : Nat} {a b : Nat} (hab : a + b ≤ 200) : FnI (mkC w mg mb top) (n + 2) 130 175 [S (wsS a b)] (ini a b) := by
  refine fni_plain (names := ["ws"]) (ho := by rfl) (hcd := by rfl) (hbody := by rfl) (hbind := ?_) (hlen := rfl) (hnd := by decide) (hcell := by decide) (hfree := by decide) (hloc := by decide) (hco := rfl) (hgen := rfl) (hk := rfl) (hgl := rfl) (hbu := rfl) (hclo := rfl) (h := ?_)
  · intro x vs hv
    match vs, hv with
    | [_], _ => rfl
  · intro L x dx
    show Xs _ _ ?E _ _ _ _
    let E : Env := ?E
    let raw : List (Str × T) := [("raw", S (wsS a b))]
    refine xs_cons (Mid := Ow E [("self", IN x 175 dx), ("ws", S (wsS a b))] [(dx, SD raw)]) (x_setattr (i := 0) (L := LAll) trivial (rd ow_lv) rfl rfl rfl (ev_name rfl rfl) rfl (by decide) (by rfl) (by rfl) (by rfl) (by rfl) rfl (Imp.refl _)) ?_
    refine xs_cons (Mid := Ow E (("S", S " ") :: ("T", S "\t") :: [("self", IN x 175 dx), ("ws", S (wsS a b))]) [(dx, SD raw)]) (x_swap (t0 := S " ") (t1 := S "\t") (L := LAll) (rd ow_lv) trivial (ev_tuple (evs_cons (ev_clsattr (ev_global (v := .ref 175) rfl rfl rfl) (by rfl) (by rfl) (by rfl)) (evs_cons (ev_clsattr (ev_global (v := .ref 175) rfl rfl rfl) (by rfl) (by rfl) (by rfl)) evs_nil rfl) rfl) (by rw [sizeLine_eq]; show 2 ≤ _; omega)) rfl (fun _ => trivial) rfl (fun _ => trivial) (puts_ow rfl) (puts_ow rfl) rfl rfl) ?_
    refine xs_cons (Mid := EX fun c => Ow E (("count", V (.ref c)) :: ("S", S " ") :: ("T", S "\t") :: [("self", IN x 175 dx), ("ws", S (wsS a b))]) [(c, SL []), (dx, SD raw)]) (x_new (sp := SL []) (L := LAll) (rd ow_lv) (sp_ints []) (EvF.evn (ef_list evs_nil (by rw [sizeLine_eq]; show 0 ≤ _; omega))) rfl (fun _ => trivial) (fun _ => trivial) rfl (fun c _ => imp_ex (P := fun c => Ow E (("count", V (.ref c)) :: ("S", S " ") :: ("T", S "\t") :: [("self", IN x 175 dx), ("ws", S (wsS a b))]) [(c, SL []), (dx, SD raw)]) c)) ?_
    let Inv : Nat → Assn := fun i => if i ≤ a + b then EX fun c => Ow E (ρI x dx a b c i) (FI0 dx a b c (min i a)) else FF
    let Bod : Nat → Assn := fun i => if i ≤ a + b then EX fun c => Ow E (("ch", S ⟨#[(wsL a b).getD i 0]⟩) :: ρI x dx a b c i) (FI0 dx a b c (min i a)) else FF
    refine xs_cons (Mid := Inv 0) (x1_ex fun c => x_assign3 (L := LAll) (t := I 0) (rd ow_lv) trivial ev_int rfl (fun _ => trivial) rfl (fun _ => trivial) rfl (fun _ => trivial) (puts_ow rfl) (puts_ow rfl) (puts_post (puts_ow rfl) ?_) rfl) ?_
    · simp only [Inv, if_pos (Nat.zero_le _)]
      intro m q pc h z
      have e : FI0 dx a b c (min 0 a) = [(c, SL []), (dx, SD raw)] := by simp [FI0, cI, raw]
      refine ⟨c, ?_⟩
      show (Ow E (ρI x dx a b c 0) (FI0 dx a b c (min 0 a))).P m q pc h
      rw [e]
      have e2 : min 0 a = 0 := by omega
      refine ⟨vars_sub ?_ z.v, z.o, z.d⟩
      unfold ρI
      rw [e2, Nat.zero_sub]
      (intro x hx; simp only [ρI, List.mem_cons, or_false, List.not_mem_nil] at hx; rcases hx with rfl | rfl | rfl | rfl | rfl | rfl | rfl | rfl; all_goals rfl)
    refine xs_cons (Mid := Inv (a + b)) (x_forG (Inv := Inv) (Bod := Bod) (ts := (wsL a b).map fun d => S ⟨#[d]⟩) ?_ (Imp.refl _) ?_ ?_ ?_ (fun _ => rfl)) ?_
    · intro A m q pc s bb hP
      simp only [Inv, if_pos (Nat.zero_le _)] at hP
      obtain ⟨c, z⟩ := hP
      exact iop_str (rd_ow (ρ := ρI x dx a b c 0) (F := FI0 dx a b c (min 0 a)) (ρx := [("self", OB 175 raw)]) (fun y t hy => by rw [List.mem_singleton] at hy; cases hy; exact tell_o (dx := dx) rfl (.tail _ (.head _)))) (ev_attr (cls := 175) (at_ := none) (fs := raw) (ev_name rfl rfl) rfl hd_s (by rfl) (by rfl) (by rfl) (by rfl) (by rfl)) (ws_ascii a b) A m q pc s bb z
    · intro i t ht
      obtain ⟨d, hd, rfl⟩ := of_at ht
      have hi : i < (wsL a b).length := by
        rcases Nat.lt_or_ge i (wsL a b).length with z | z
        · exact z
        · rw [List.getElem?_eq_none z] at hd; cases hd
      rw [wsL_len] at hi
      have hd' : (wsL a b).getD i 0 = d := by rw [List.getD_eq_getElem?_getD, hd]; rfl
      simp only [Inv, Bod, if_pos (show i ≤ a + b by omega), hd']
      exact asg_name rfl (fun _ => trivial) (fun m q pc h h' v w hq ⟨c, hP⟩ ht hk => ⟨c, puts_ow rfl m q pc h h' v w hq hP ht hk⟩)
    · intro i t ht
      obtain ⟨d, hd, rfl⟩ := of_at ht
      have hi : i < (wsL a b).length := by
        rcases Nat.lt_or_ge i (wsL a b).length with z | z
        · exact z
        · rw [List.getElem?_eq_none z] at hd; cases hd
      rw [wsL_len] at hi
      have hd' : (wsL a b).getD i 0 = d := by rw [List.getD_eq_getElem?_getD, hd]; rfl
      rw [wsL_at a b i hi] at hd
      have hd := Option.some.inj hd
      simp only [Bod, if_pos (show i ≤ a + b by omega), hd']
      refine xs_ex fun c => ?_
      have nt : NoTup (FI0 dx a b c (min i a)) := noTup_sl (noTup_sd noTup_nil)
      by_cases h1 : i < a
      · rw [if_pos h1] at hd
        subst hd
        have hm : min i a = i := by omega
        have hz : i - a = 0 := by omega
        refine xs_one (x_if (c := false) (rd ow_lv) (Tr.eq (tr_cmp (ev_name rfl rfl) (ev_name rfl rfl) cm_eqs rfl) (by decide)) (fun h => by cases h) (fun _ => ?_))
        refine xs_one (x_if (c := true) (rd ow_lv) (Tr.eq (tr_cmp (ev_name rfl rfl) (ev_name rfl rfl) cm_eqs rfl) (by decide)) (fun _ => ?_) (fun h => by cases h))
        have hF : FI0 dx a b c (min i a) = [(c, SL ((cI i).map I)), (dx, SD raw)] := by rw [hm]; rfl
        have hρ : ρI x dx a b c i = (("b" : Str), nat 0) :: ("n", nat i) :: ("nt", nat i) :: ("count", V (.ref c)) :: ("S", S " ") :: ("T", S "\t") :: ("self", IN x 175 dx) :: ([("ws", S (wsS a b))] : Rho) := by unfold ρI; rw [hm, hz]
        rw [hF, hρ]
        let ρM : Addr → Rho := fun c => ("b", nat 0) :: ("n", nat (i + 1)) :: ("nt", nat (i + 1)) :: ("count", V (.ref c)) :: ("S", S " ") :: ("T", S "\t") :: ("self", IN x 175 dx) :: [("ws", S (wsS a b))]
        have nt : NoTup [(c, SL ((cI i).map I)), (dx, SD raw)] := noTup_sl (noTup_sd noTup_nil)
        refine xs_cons (Mid := Ow E (("n", nat (i + 1)) :: _) [(c, SL ((cI i).map I)), (dx, SD raw)]) (x_assign (rd ow_lv) trivial (ev_eq (ev_bin (ev_name rfl rfl) ev_int op_add) (by unfold nat; congr 1)) rfl (fun _ => trivial) rfl (puts_ow rfl)) ?_
        refine xs_cons (Mid := Ow E (("nt", nat (i + 1)) :: _) [(c, SL ((cI i).map I)), (dx, SD raw)]) (x_assign (rd ow_lv) trivial (ev_eq (ev_bin (ev_name rfl rfl) ev_int op_add) (by unfold nat; congr 1)) rfl (fun _ => trivial) rfl (puts_ow rfl)) ?_
        refine xs_cons (Mid := EX fun c' => Ow E (ρM c') [(c', SL [nat i]), (dx, SD raw)]) (x_if (c := decide (i = 0)) (rd_cnt (x := "count") nt (.head _) rfl) (Tr.eq (tr_cmp (ev_name rfl rfl) (ev_call (ev_builtin (v := .builtin "len") rfl rfl rfl rfl (by decide)) (evs_cons (ev_name rfl rfl) evs_nil rfl) (fn_len_list (by unfold cI; split <;> simp)) rfl rfl rfl) cm_ge rfl) ?_) (fun h => ?_) (fun h => xs_nil ?_)) ?_
        · unfold cI; by_cases h0 : i = 0 <;> simp [h0]
        · have h0 : i = 0 := by simpa using h
          subst h0
          refine xs_one (x_new (sp := SL [I 0]) (rd_cnt (x := "count") nt (.head _) rfl) (sp_ints [0]) (EvF.evn (ef_add (ts := []) (us := List.replicate 1 (I 0)) (ev_name rfl rfl) (EvF.ev (ef_mul1 (k := 1) (EvF.ev (ef_list (evs_cons ev_int evs_nil rfl) (by rw [sizeLine_eq]; show 1 ≤ _; omega))) (ev_eq (ev_bin (ev_bin (ev_name rfl rfl) (ev_call (ev_builtin (v := .builtin "len") rfl rfl rfl rfl (by decide)) (evs_cons (ev_name rfl rfl) evs_nil rfl) (fn_len_list (by simp [cI])) rfl rfl rfl) op_sub) ev_int op_add) (by simp [cI, nat])) (by omega))) (by simp))) rfl (fun _ => trivial) (fun _ => trivial) rfl fun c' _ => ?_)
          refine Imp.trans (ow_drop (F' := [(c', SL [nat 0]), (dx, SD raw)]) (List.Sublist.cons_cons _ (List.Sublist.cons _ (List.Sublist.refl _)))) ?_
          exact fun m q pc h z => ⟨c', vars_sub (by intro x hx; simp only [ρM, List.mem_cons, or_false, List.not_mem_nil] at hx; rcases hx with rfl | rfl | rfl | rfl | rfl | rfl | rfl | rfl; all_goals rfl) z.v, z.o, z.d⟩
        · have h0 : ¬ i = 0 := by simpa using h
          have e : SL ((cI i).map I) = SL [nat i] := by unfold cI; rw [if_neg h0]; rfl
          rw [e]
          exact fun m q pc h z => ⟨c, vars_sub (by intro x hx; simp only [ρM, List.mem_cons, or_false, List.not_mem_nil] at hx; rcases hx with rfl | rfl | rfl | rfl | rfl | rfl | rfl | rfl; all_goals rfl) z.v, z.o, z.d⟩
        refine xs_ex fun c' => ?_
        have nt' : NoTup [(c', SL [nat i]), (dx, SD raw)] := noTup_sl (noTup_sd noTup_nil)
        refine xs_cons (Mid := Ow E (ρM c') [(c', SL [nat (i + 1)]), (dx, SD raw)]) (x_setitem_ow (j := 0) (i := (0 : Int)) (a := c') (ts := [nat i]) (t := nat (i + 1)) (.pu pu_i) (rd_cnt2 (x := "count") nt' (.head _) rfl) rfl (ev_weak (t := AND (V (.ref c')) (LL [nat i])) (ev_name rfl rfl) (fun g v h => h.1)) (ev_eq (ev_bin (ev_sub (b := nat 0) (t := nat i) (ev_weak (t := AND (V (.ref c')) (LL [nat i])) (ev_name rfl rfl) (fun g v h => h.2)) (ev_name rfl rfl) (it_list (by decide) (by decide) rfl) fun _ _ => rfl) ev_int op_add) (by unfold nat; congr 1)) (ev_eq (t := nat 0) (ev_name rfl rfl) rfl) (by decide) (by show (0 : Int) < 1; omega) (by show 1 ≤ 4096; omega) rfl (Imp.refl _)) ?_
        · refine xs_one (x_assign (rd ow_lv) trivial (ev_eq (u := nat 0) ev_int rfl) rfl (fun _ => trivial) rfl (puts_post (puts_ow rfl) ?_))
          simp only [Inv, if_pos (show i + 1 ≤ a + b by omega)]
          intro m q pc h z
          refine ⟨c', ?_⟩
          show (Ow E (ρI x dx a b c' (i + 1)) (FI0 dx a b c' (min (i + 1) a))).P m q pc h
          have hm' : min (i + 1) a = i + 1 := by omega
          have hz' : i + 1 - a = 0 := by omega
          have e : FI0 dx a b c' (min (i + 1) a) = [(c', SL [nat (i + 1)]), (dx, SD raw)] := by rw [hm']; unfold FI0 cI; rw [if_neg (by omega)]; rfl
          rw [e]
          refine ⟨vars_sub ?_ z.v, z.o, z.d⟩
          unfold ρI
          rw [hm', hz']
          (intro x hx; simp only [ρI, List.mem_cons, or_false, List.not_mem_nil] at hx; rcases hx with rfl | rfl | rfl | rfl | rfl | rfl | rfl | rfl; all_goals rfl)
      · rw [if_neg h1] at hd
        by_cases h2 : i < a + b
        · rw [if_pos h2] at hd
          subst hd
          refine xs_one (x_if (c := true) (rd ow_lv) (Tr.eq (tr_cmp (ev_name rfl rfl) (ev_name rfl rfl) cm_eqs rfl) (by decide)) (fun _ => ?_) (fun h => by cases h))
          refine xs_cons (Mid := Ow E (("n", nat (i + 1)) :: _) (FI0 dx a b c (min i a))) (x_assign (rd ow_lv) trivial (ev_eq (ev_bin (ev_name rfl rfl) ev_int op_add) (by unfold nat; congr 1)) rfl (fun _ => trivial) rfl (puts_ow rfl)) ?_
          refine xs_one (x_assign (rd ow_lv) trivial (ev_eq (u := nat (i + 1 - a)) (ev_bin (ev_name rfl rfl) ev_int op_add) (by unfold nat; congr 1; omega)) rfl (fun _ => trivial) rfl (puts_post (puts_ow rfl) ?_))
          simp only [Inv, if_pos (show i + 1 ≤ a + b by omega)]
          intro m q pc h z
          have hm' : min (i + 1) a = min i a := by omega
          refine ⟨c, ?_⟩
          show (Ow E (ρI x dx a b c (i + 1)) (FI0 dx a b c (min (i + 1) a))).P m q pc h
          rw [hm']
          refine ⟨vars_sub ?_ z.v, z.o, z.d⟩
          unfold ρI
          rw [hm']
          (intro x hx; simp only [ρI, List.mem_cons, or_false, List.not_mem_nil] at hx; rcases hx with rfl | rfl | rfl | rfl | rfl | rfl | rfl | rfl; all_goals rfl)
        · rw [if_neg h2] at hd
          subst hd
          have hie : i = a + b := by omega
          subst hie
          refine xs_one (x_if (c := false) (rd ow_lv) (Tr.eq (tr_cmp (ev_name rfl rfl) (ev_name rfl rfl) cm_eqs rfl) (by decide)) (fun h => by cases h) (fun _ => ?_))
          refine xs_one (x_if (c := false) (rd ow_lv) (Tr.eq (tr_cmp (ev_name rfl rfl) (ev_name rfl rfl) cm_eqs rfl) (by decide)) (fun h => by cases h) (fun _ => ?_))
          refine xs_one (x_brk ?_)
          simp only [Inv, Nat.le_refl, if_true]
          exact fun m q pc h z => ⟨c, vars_drop rfl z.v, z.o, z.d⟩
    · simp only [List.length_map, wsL_len, Inv]
      rw [if_neg (by omega)]
      exact fun _ _ _ _ h => h.elim
    · simp only [Inv, Nat.le_refl, if_true]
      refine xs_ex fun c => ?_
      have hm : min (a + b) a = a := by omega
      have hz : a + b - a = b := by omega
      have hρ : ρI x dx a b c (a + b) = (("b" : Str), nat b) :: ("n", nat (a + b)) :: ("nt", nat a) :: ("count", V (.ref c)) :: ("S", S " ") :: ("T", S "\t") :: ("self", IN x 175 dx) :: ([("ws", S (wsS a b))] : Rho) := by unfold ρI; rw [hm, hz]
      have hF : FI0 dx a b c (min (a + b) a) = [(c, SL ((cI a).map I)), (dx, SD raw)] := by rw [hm]; rfl
      rw [hρ, hF]
      let ρf : Rho := (("b" : Str), nat b) :: ("n", nat (a + b)) :: ("nt", nat a) :: ("count", V (.ref c)) :: ("S", S " ") :: ("T", S "\t") :: ("self", IN x 175 dx) :: ([("ws", S (wsS a b))] : Rho)
      have ntf : ∀ fs, NoTup [(c, SL ((cI a).map I)), (dx, SD fs)] := fun fs => noTup_sl (noTup_sd noTup_nil)
      have hlt : Lt (TU [TU ((cI a).map I), nat b]) := .tu fun u hu => by
        rcases List.mem_cons.mp hu with rfl | hu
        · exact .tu fun u hu => by obtain ⟨i, _, rfl⟩ := List.mem_map.mp hu; exact .pu pu_i
        · rw [List.mem_singleton] at hu; subst hu; exact .pu pu_i
      have hcl : ((cI a).map I).length ≤ 1 := by unfold cI; split <;> simp
      refine xs_cons (Mid := Ow E ρf [(c, SL ((cI a).map I)), (dx, SD (raw ++ [(("n" : Str), nat (a + b))]))]) (x_setattr (i := 1) (L := LAll) trivial (rd ow_lv) rfl rfl rfl (ev_name rfl rfl) rfl (by simp [raw]) (by rfl) (by rfl) (by rfl) (by rfl) rfl (Imp.refl _)) ?_
      refine xs_cons (Mid := Ow E ρf [(c, SL ((cI a).map I)), (dx, SD ((raw ++ [(("n" : Str), nat (a + b))]) ++ [(("nt" : Str), nat a)]))]) (x_setattr (i := 1) (L := LAll) trivial (rd ow_lv) rfl rfl rfl (ev_name rfl rfl) rfl (by simp [raw]) (by rfl) (by rfl) (by rfl) (by rfl) rfl (Imp.refl _)) ?_
      refine xs_cons (Mid := Ow E ρf [(c, SL ((cI a).map I)), (dx, SD (((raw ++ [(("n" : Str), nat (a + b))]) ++ [(("nt" : Str), nat a)]) ++ [(("norm" : Str), TU [TU ((cI a).map I), nat b])]))]) (x_setattr (i := 1) (t := TU [TU ((cI a).map I), nat b]) hlt (rd_cnt (x := "count") (ntf _) (.head _) rfl) rfl rfl rfl (ev_tuple (evs_cons (ev_call (ev_builtin (v := .type "tuple") rfl rfl rfl rfl (by decide)) (evs_cons (ev_name rfl rfl) evs_nil rfl) (fn_tuple_list (by omega)) rfl rfl rfl) (evs_cons (ev_name rfl rfl) evs_nil rfl) rfl) (by rw [sizeLine_eq]; show 2 ≤ _; omega)) rfl (by simp [raw]) (by rfl) (by rfl) (by rfl) (by rfl) rfl (Imp.refl _)) ?_
      refine xs_one (x_setattr (i := 1) (a := x) (cls := 175) (dx := dx) (fs := (((raw ++ [(("n" : Str), nat (a + b))]) ++ [(("nt" : Str), nat a)]) ++ [(("norm" : Str), TU [TU ((cI a).map I), nat b])])) (t := B true) (.pu pu_b) (rd_cnt (x := "count") (ntf _) (.head _) rfl) rfl rfl rfl (ev_eq (ev_cmp (ev_call (ev_builtin (v := .builtin "len") rfl rfl rfl rfl (by decide)) (evs_cons (ev_name rfl rfl) evs_nil rfl) (fn_len_list (by omega)) rfl rfl rfl) ev_int cm_le rfl) ?_) rfl (by simp [raw]) (by rfl) (by rfl) (by rfl) (by rfl) rfl (imp_fi (.tail _ (.head _))))
      congr 1
      rw [decide_eq_true_eq]; omega
end Mine

end
/-! F8 -/
section
open PySem PySem.W PyProof.Rows PySem.Calls
set_option maxRecDepth 100000
set_option linter.all false
namespace Mine
variable {w : World} {mg mb : Str → Option Value} {top : Heap}
theorem fn_ws_new {n : Nat} {a b : Nat} (hab : a + b ≤ 200) : Fn (mkC w mg mb top) (n + 3) (.ref 175) [S (wsS a b)] (WSO a b) := fn_new (fn_ws_init hab) (by rfl) (by rfl) (by rfl)

theorem fn_len_tup {C : Cx} {n : Nat} {ts : List T} (hl : ts.length ≤ 4096) : Fn C n (.builtin "len") [TU ts] (I ts.length) := by
  rintro A p s vs a g q hf
  match vs, hf with
  | [_], ⟨⟨a, ws, k, rfl, hg, hf⟩, _⟩ =>
    have h2 := hf.length
    exact P.len_tuple (n := k) hg.2 (by rw [List.size_toArray]; omega) ⟨keeps_tok _ _, _, by rw [List.size_toArray, h2]⟩
def lessW (a b a' b' : Nat) : Bool := if a + b ≥ a' + b' then false else decide (a ≤ a')
set_option maxHeartbeats 8000000 in
theorem fn_less {n : Nat} {a b a' b' : Nat} : FnC (mkC w mg mb top) (n + 1) (.ref 165) [WSO a b, WSO a' b'] (B (lessW a b a' b')) := by
  refine fnc_plain (names := ["self", "other"]) (ho := by rfl) (hcd := by rfl) (hbody := by rfl) (hbind := ?_) (hlen := rfl) (hnd := by decide) (hcell := by decide) (hfree := by decide) (hloc := by decide) (hco := rfl) (hgen := rfl) (hk := rfl) (hgl := rfl) (hbu := rfl) (hclo := rfl) (h := ?_)
  · intro vs hv
    match vs, hv with
    | [_, _], _ => rfl
  · intro L
    show Xs _ _ ?E _ _ _ _
    let E : Env := ?E
    let ρ : Rho := [("self", WSO a b), ("other", WSO a' b')]
    have hi : ∀ i : Nat, Handed (nat i) := fun i => hd_i
    by_cases h : a + b ≥ a' + b'
    · refine xs_cons (Mid := FF) (x_if (c := true) (rd (Imp.refl _)) (Tr.eq (tr_cmp (ev_attr (cls := 175) (at_ := none) (fs := ini a b) (t := nat (a + b)) (ev_name rfl rfl) rfl (hi _) (by rfl) (by rfl) (by rfl) (by rfl) (by rfl)) (ev_attr (cls := 175) (at_ := none) (fs := ini a' b') (t := nat (a' + b')) (ev_name rfl rfl) rfl (hi _) (by rfl) (by rfl) (by rfl) (by rfl) (by rfl)) cm_ge rfl) ?_) (fun _ => ?_) (fun h => by cases h)) (xs_false fun _ _ _ _ h => h)
      · simp; omega
      · exact xs_one (x_ret (rd (Imp.refl _)) (ev_eq ev_bool (by unfold lessW; rw [if_pos h])))
    · refine xs_cons (Mid := LV ρ) (x_if (c := false) (rd (Imp.refl _)) (Tr.eq (tr_cmp (ev_attr (cls := 175) (at_ := none) (fs := ini a b) (t := nat (a + b)) (ev_name rfl rfl) rfl (hi _) (by rfl) (by rfl) (by rfl) (by rfl) (by rfl)) (ev_attr (cls := 175) (at_ := none) (fs := ini a' b') (t := nat (a' + b')) (ev_name rfl rfl) rfl (hi _) (by rfl) (by rfl) (by rfl) (by rfl) (by rfl)) cm_ge rfl) ?_) (fun h => by cases h) (fun _ => xs_nil (Imp.refl _))) ?_
      · simp; omega
      refine xs_cons (Mid := FF) (x_if (c := true) (rd (Imp.refl _)) (tr_bool (TrA.eq (tra_and (c := true) (tr_val (ev_attr (cls := 175) (at_ := none) (fs := ini a b) (t := B true) (ev_name rfl rfl) rfl hd_b (by rfl) (by rfl) (by rfl) (by rfl) (by rfl)) truly_bool (fun _ => rfl)) fun _ => tra_and (c := true) (tr_val (ev_attr (cls := 175) (at_ := none) (fs := ini a' b') (t := B true) (ev_name rfl rfl) rfl hd_b (by rfl) (by rfl) (by rfl) (by rfl) (by rfl)) truly_bool (fun _ => rfl)) fun _ => tra_and_nil) rfl)) (fun _ => ?_) (fun h => by cases h)) (xs_false fun _ _ _ _ h => h)
      refine xs_one (x_ret (rd (Imp.refl _)) (ev_eq (ev_cmp (ev_attr (cls := 175) (at_ := none) (fs := ini a b) (t := nat a) (ev_name rfl rfl) rfl (hi _) (by rfl) (by rfl) (by rfl) (by rfl) (by rfl)) (ev_attr (cls := 175) (at_ := none) (fs := ini a' b') (t := nat a') (ev_name rfl rfl) rfl (hi _) (by rfl) (by rfl) (by rfl) (by rfl) (by rfl)) cm_le rfl) ?_))
      unfold lessW; rw [if_neg h]; congr 1; simp

set_option maxHeartbeats 8000000 in
theorem fn_indent {n : Nat} {a b ts : Nat} (hts : 1 ≤ ts) (hts2 : ts ≤ 100) (ha : a ≤ 200) (hb : Builtin.Int.intBits (ts : Int) ≤ 64) (hm : Builtin.Range.small ts ((cI a).length : Nat) 1 = true) : FnC (mkC w mg mb top) (n + 1) (.ref 144) [WSO a b, nat ts] (nat (b + ts * a)) := by
  refine fnc_plain (names := ["self", "tabsize"]) (ho := by rfl) (hcd := by rfl) (hbody := by rfl) (hbind := ?_) (hlen := rfl) (hnd := by decide) (hcell := by decide) (hfree := by decide) (hloc := by decide) (hco := rfl) (hgen := rfl) (hk := rfl) (hgl := rfl) (hbu := rfl) (hclo := rfl) (h := ?_)
  · intro vs hv
    match vs, hv with
    | [_, _], _ => rfl
  · intro L
    show Xs _ _ ?E _ _ _ _
    let E : Env := ?E
    have hi : ∀ i : Nat, Handed (nat i) := fun i => hd_i
    have hcl : (cI a).length ≤ 1 := by unfold cI; split <;> simp
    let ρ : Rho := ("trailing", nat b) :: ("count", TU ((cI a).map I)) :: [("self", WSO a b), ("tabsize", nat ts)]
    refine xs_cons (Mid := LV ρ) (x_unpack rfl (rd (Imp.refl _)) trivial (ev_attr (cls := 175) (at_ := none) (fs := ini a b) (t := TU [TU ((cI a).map I), nat b]) (ev_name rfl rfl) rfl hd_tu (by rfl) (by rfl) (by rfl) (by rfl) (by rfl)) (asg_pair rfl (fun h => by cases h) rfl (fun h => by cases h) puts_lv puts_lv) rfl rfl) ?_
    refine xs_cons (Mid := LV (("il", I 0) :: ρ)) (x_assign (rd (Imp.refl _)) trivial ev_int rfl (fun h => by cases h) rfl puts_lv) ?_
    refine xs_cons (Mid := LV (("il", I 0) :: ρ)) (x_for (Inv := fun _ => LV (("il", I 0) :: ρ)) (Bod := fun _ => FF) (Imp.refl _) (io_range (a := ts) (b := ((cI a).length : Nat)) (N := 0) (ev_call (ev_builtin (v := .type "range") rfl rfl rfl rfl (by decide)) (evs_cons (ev_name rfl rfl) (evs_cons (ev_call (ev_builtin (v := .builtin "len") rfl rfl rfl rfl (by decide)) (evs_cons (ev_name rfl rfl) evs_nil rfl) (fn_len_tup (ts := (cI a).map I) (by simp; omega)) rfl rfl rfl |> fun h => ev_eq h (by rw [List.length_map] : I ((((cI a).map I).length : Nat) : Int) = I (((cI a).length : Nat) : Int))) evs_nil rfl) rfl) fn_range2 rfl rfl rfl) hm ?_) rfl (fun h => by cases h) (Imp.refl _) ?_ ?_ (Imp.refl _) (fun _ => rfl)) ?_
    · rw [rangeSize_one, if_neg (by omega)]; rfl
    · intro i t ht; simp at ht
    · intro i t ht; simp at ht
    · refine xs_one (x_ret (rd (Imp.refl _)) (ev_eq (ev_bin (ev_name rfl rfl) (ev_bin (ev_name rfl rfl) (ev_bin (ev_name rfl rfl) (ev_attr (cls := 175) (at_ := none) (fs := ini a b) (t := nat a) (ev_name rfl rfl) rfl (hi _) (by rfl) (by rfl) (by rfl) (by rfl) (by rfl)) op_add) (op_mul ?_)) op_add) ?_))
      · exact IntMulOk.of_left hb
      · unfold nat; rw [Int.zero_add, Int.natCast_add, Int.natCast_mul]
end Mine

end
/-! F9 -/
section
open PySem PySem.W PyProof.Rows PySem.Calls
set_option maxRecDepth 100000
set_option linter.all false
namespace Mine
section
variable {C : Cx} {n : Nat} {env : Env} {ρ ρr : Rho}
theorem ev_dict0 {pos : Pos} : Ev C n env ρ (.Dict [] [] pos) (DI C []) := fun A m p s st =>
  wpAny_mono (en_dict A m p s st) (fun v s' ⟨k, a, o, e1, e2, e3, e4, e5⟩ => ⟨k, a, o, e1, ⟨st.pin.fresh e2, e3⟩, e4, e5⟩) fun _ _ z => z
theorem dictOf_new {h : Heap} : (h.push { cls := .type "dict", data := .dict #[] }).DictOf (intKind C.prog C.w) h.objs.size [] :=
  ⟨_, #[], 0, Heap.get?_push_size _ rfl, ⟨rfl, rfl, rfl⟩, rfl, by intro i hi; simp at hi, .nil, by simp⟩
theorem ev_dict1 {ke ve : Expr} {pos : Pos} {k i : Int} (hk : Ev C n env ρ ke (I k)) (hv : Ev C n env ρ ve (I i)) : Ev C n env ρ (.Dict [some ke] [ve] pos) (DI C [(k, i)]) := fun A m p s st => by
  have ek : Keeps s { s with heap := s.heap.push { cls := .type "dict", data := .dict #[] } } := ⟨_, _, rfl, fun _ _ e => Heap.get?_push_of_some _ e⟩
  have n0 : s.heap.get? s.heap.objs.size = none := get_none (Nat.le_refl _)
  refine wpAny_Dict_walk (knd := intKind C.prog C.w) rfl rfl (by simp) (by simp) (evalPairs_cons (wpAny_mono (hk _ _ _ _ (st.keeps ek)) (fun kv s1 x1 => ?_) fun _ _ z => z))
  obtain ⟨k1, t, rfl⟩ := x1
  refine wpAny_bind (wpAny_mono (hv _ _ _ _ ((st.keeps ek).keeps k1)) (fun vv s2 x2 => wpAny_bind (wpAny_standAt (wpAny_pure (evalPairs_nil ?_)))) fun _ _ z => z)
  obtain ⟨k2, u, rfl⟩ := x2
  have k12 := keeps_trans k1 k2
  refine ⟨[(k, .int i u)], ⟨isInt_of k t, rfl, trivial⟩, (dictOf_new (C := C)).keep (keeps_hs k12), fun h' hd hs => ?_⟩
  obtain ⟨o, h1, h2⟩ := dio_to (C := C) (kvs := [(k, i)]) (vs := [(k, .int i u)]) (by simpa [merged, stored] using hd) ⟨rfl, ⟨u, rfl⟩, trivial⟩
  have kk : Hs s.heap h' := fun b o e => hs.extBut b o (by rintro rfl; rw [n0] at e; cases e) (keeps_hs k12 b o (keeps_hs ek b o e))
  obtain ⟨hh, tt, e12, _⟩ := k12
  refine ⟨?_, s.heap.objs.size, o, rfl, ⟨st.pin.size, h1⟩, h2, not_sys st.g⟩
  subst e12
  exact ⟨h', _, rfl, kk⟩
end

/-! counted -/
def maxI : List Int → Int
  | [] => 0
  | [x] => x
  | x :: y :: r => max x (maxI (y :: r))
theorem maxI_mem : ∀ {l : List Int}, l ≠ [] → maxI l ∈ l ∧ ∀ x ∈ l, x ≤ maxI l
  | [], h => absurd rfl h
  | [x], _ => ⟨.head _, fun y hy => by rw [List.mem_singleton.mp hy]; exact Int.le_refl _⟩
  | x :: y :: r, _ => by
    obtain ⟨h1, h2⟩ := maxI_mem (l := y :: r) (by simp)
    refine ⟨?_, fun z hz => ?_⟩
    · unfold maxI
      by_cases h : x ≤ maxI (y :: r)
      · rw [show max x (maxI (y :: r)) = maxI (y :: r) by omega]; exact .tail _ h1
      · rw [show max x (maxI (y :: r)) = x by omega]; exact .head _
    · unfold maxI
      rcases List.mem_cons.mp hz with rfl | hz
      · omega
      · have := h2 z hz; omega
abbrev Wd := List Nat
def sfx (l : Wd) : List Wd := (List.range l.length).map fun i => l.drop i
def hasW (h l : Wd) : Bool := (sfx l).any fun a => a == h
def idxW (h l : Wd) : Nat := ((sfx l).findIdx? fun a => a == h).getD 0
def farW (ws : List Wd) (h : Wd) : Int := maxI ((ws.filter (hasW h)).map fun l => (idxW h l : Int) + 1)
def cntW (ws : List Wd) : KV := ws.foldl (fun acc h => addC acc [(farW ws h, 1)]) []
def hsT (l : Wd) : T := S (hs l)
theorem rungs_sfx (l : Wd) : rungs l = (sfx l).map hsT := by unfold rungs sfx hsT; rw [List.map_map]; rfl
theorem hst_inj : ∀ {a b : Wd}, Lets a → Lets b → hst a = hst b → a = b
  | [], [], _, _, _ => rfl
  | [], c :: b, _, hb, e => by
    have := hb c (.head _)
    (simp [hst, lcl] at e) <;> omega
  | c :: a, [], ha, _, e => by
    have := ha c (.head _)
    (simp [hst, lcl] at e) <;> omega
  | c :: a, d :: b, ha, hb, e => by
    simp only [hst, List.cons.injEq] at e
    rw [e.1, hst_inj (fun x h => ha x (.tail _ h)) (fun x h => hb x (.tail _ h)) e.2.2]
theorem hs_beq {a b : Wd} (ha : Lets a) (hb : Lets b) : ((hs a).cps.toList == (hs b).cps.toList) = (a == b) := by
  rw [hs_list, hs_list, Bool.eq_iff_iff]
  simp only [beq_iff_eq]
  exact ⟨hst_inj ha hb, fun e => by rw [e]⟩
def dHs : Value → Option Str := dStr
theorem sfx_lets {l : Wd} (h : Lets l) : ∀ a ∈ sfx l, Lets a := fun a ha => by
  obtain ⟨i, _, rfl⟩ := List.mem_map.mp ha
  exact fun c hc => h c (List.mem_of_mem_drop hc)
theorem sfx_map (l : Wd) : (sfx l).map hsT = ((sfx l).map hs).map S := by rw [List.map_map]; rfl
theorem any_hs {l h : Wd} (hl : Lets l) (hh : Lets h) : (((sfx l).map hs).any fun a => a.cps.toList == (hs h).cps.toList) = hasW h l := by
  unfold hasW
  have key : ∀ xs : List Wd, (∀ a ∈ xs, Lets a) → ((xs.map hs).any fun a => a.cps.toList == (hs h).cps.toList) = xs.any fun a => a == h := by
    intro xs hx
    induction xs with
    | nil => rfl
    | cons x xs ih =>
      simp only [List.map_cons, List.any_cons]
      rw [hs_beq (hx x (.head _)) hh, ih (fun a ha => hx a (.tail _ ha))]
  exact key _ (sfx_lets hl)
theorem find_hs {l h : Wd} {j : Nat} (hl : Lets l) (hh : Lets h) (hj : (sfx l).findIdx? (fun a => a == h) = some j) : ((sfx l).map hs).findIdx? (fun a => a.cps.toList == (hs h).cps.toList) = some j := by
  have key : ∀ xs : List Wd, (∀ a ∈ xs, Lets a) → (xs.map hs).findIdx? (fun a => a.cps.toList == (hs h).cps.toList) = xs.findIdx? fun a => a == h := by
    intro xs hx
    induction xs with
    | nil => rfl
    | cons x xs ih =>
      simp only [List.map_cons, List.findIdx?_cons]
      rw [hs_beq (hx x (.head _)) hh, ih (fun a ha => hx a (.tail _ ha))]
  rw [key _ (sfx_lets hl), hj]
theorem cntW_len (ws : List Wd) : ∀ l : List Wd, (l.foldl (fun acc h => addC acc [(farW ws h, 1)]) []).length ≤ l.length := by
  have key : ∀ (l : List Wd) (acc : KV), (l.foldl (fun acc h => addC acc [(farW ws h, 1)]) acc).length ≤ acc.length + l.length := by
    intro l
    induction l with
    | nil => intro acc; simp
    | cons x l ih =>
      intro acc
      have h1 := ih (addC acc [(farW ws x, 1)])
      have h2 : (addC acc [(farW ws x, 1)]).length ≤ acc.length + 1 := by
        unfold addC
        have a1 : (cpy acc).length ≤ acc.length := by
          have := fold_len (f := fun acc p => kstore acc p.1 p.2) (fun a p => kstore_len a _ _) acc []
          simpa [cpy] using this
        have a2 := addI_len (cpy acc) (farW ws x, 1)
        simp only [List.foldl_cons, List.foldl_nil]; omega
      simp only [List.foldl_cons, List.length_cons]; omega
  intro l; simpa using key l []

variable {w : World} {mg mb : Str → Option Value} {top : Heap}
set_option maxHeartbeats 8000000 in
theorem fn_counted {n : Nat} {ws : List Wd} (hl : ∀ l ∈ ws, Lets l ∧ l ≠ [] ∧ l.length ≤ 8) (hn : ws.length ≤ 50) : FnC (mkC w mg mb top) (n + 3) (.ref 212) [LL (ws.map hsT), LL (ws.map fun l => LL (rungs l))] (DI (mkC w mg mb top) (cntW ws)) := by
  refine fnc_cells (names := ["hosts", "ladders"]) (ho := by rfl) (hcd := by rfl) (hbody := by rfl) (hbind := ?_) (hlen := rfl) (hfree := by decide) (hloc := by decide) (hco := rfl) (hgen := rfl) (hk := rfl) (hgl := rfl) (hbu := rfl) (hclo := rfl) (h := ?_)
  · intro vs hv
    match vs, hv with
    | [_, _], _ => rfl
  · intro L
    show Xs _ _ ?E _ _ _ _
    let E : Env := ?E
    let C := mkC w mg mb top
    let ρ0 : Rho := [("ladders", LL (ws.map fun l => LL (rungs l))), ("hosts", LL (ws.map hsT))]
    let ct : Nat → KV := fun i => (ws.take i).foldl (fun acc h => addC acc [(farW ws h, 1)]) []
    have ctl : ∀ i, (ct i).length ≤ 100 := fun i => Nat.le_trans (cntW_len ws _) (by simp; omega)
    have e1 : ct ws.length = cntW ws := by show (ws.take ws.length).foldl _ _ = _; rw [List.take_length]; rfl
    refine xs_cons (Mid := LV (("counts", DI C []) :: ρ0)) (x_assign (rd (Imp.refl _)) trivial ev_dict0 rfl (fun _ => trivial) rfl puts_lv) ?_
    refine xs_cons (Mid := LV (("counts", DI C (ct ws.length)) :: ρ0)) (x_forG (Inv := fun i => LV (("counts", DI C (ct i)) :: ρ0)) (Bod := fun i => LV (("host", hsT (ws.getD i [])) :: ("counts", DI C (ct i)) :: ρ0)) (ts := ws.map hsT) (iop_of (ρ := ("counts", DI C []) :: ρ0) (Imp.refl _) (io_list (ev_name rfl rfl))) (Imp.refl _) ?_ ?_ ?_ (fun _ => rfl)) ?_
    · intro i t hi
      obtain ⟨h, hh, rfl⟩ := of_at hi
      have : ws.getD i [] = h := by rw [List.getD_eq_getElem?_getD, hh]; rfl
      simp only [this]
      exact asg_name rfl (fun _ => trivial) puts_lv
    · intro i t hi
      obtain ⟨h, hh, rfl⟩ := of_at hi
      have : ws.getD i [] = h := by rw [List.getD_eq_getElem?_getD, hh]; rfl
      simp only [this]
      have hhm : h ∈ ws := List.mem_of_getElem? hh
      obtain ⟨hlt, hne, _⟩ := hl h hhm
      have hself : hasW h h = true := by
        unfold hasW
        rw [List.any_eq_true]
        refine ⟨h, ?_, by simp⟩
        unfold sfx
        rw [List.mem_map]
        exact ⟨0, by simpa using List.length_pos_iff.mpr hne, by simp⟩
      have hnn : ((ws.filter (hasW h)).map fun l => (idxW h l : Int) + 1) ≠ [] := by
        intro e
        have : h ∈ ws.filter (hasW h) := List.mem_filter.mpr ⟨hhm, hself⟩
        have e' : ws.filter (hasW h) = [] := by simpa using e
        rw [e'] at this; cases this
      obtain ⟨hm1, hm2⟩ := maxI_mem hnn
      have ec : ct (i + 1) = addC (ct i) [(farW ws h, 1)] := by show (ws.take (i + 1)).foldl _ _ = _; rw [List.take_add_one, hh, Option.toList_some, List.foldl_append]; rfl
      refine xs_cons (Mid := LV (("far", I (farW ws h)) :: ("host", hsT h) :: ("counts", DI C (ct i)) :: ρ0)) (x_assign (rd (Imp.refl _)) trivial (ev_call (ev_builtin (v := .builtin "max") rfl rfl rfl rfl (by decide))
        (evs_cons (ev_comp (us := ((ws.filter (hasW h)).map fun l => (idxW h l : Int) + 1).map I) (io_list (ev_name rfl rfl)) (by rfl) rfl (by decide) ?_ (by rw [List.length_map]; omega) (fun _ => rfl)) evs_nil rfl) (fn_max_ints hm1 hm2) rfl rfl rfl) rfl (fun _ => trivial) rfl puts_lv) ?_
      · rw [List.map_map]
        refine cr_filter (hasW h) (fun l hlm cs L0 => ?_) (fun l hlm hp cs L0 => ?_)
        · obtain ⟨hll, _⟩ := hl l hlm
          rw [rungs_sfx, sfx_map]
          exact Tr.eq (tr_cmp (ev_name rfl rfl) (ev_name rfl rfl) (cm_in key_str) rfl) (any_hs hll hlt)
        · obtain ⟨hll, _⟩ := hl l hlm
          rw [rungs_sfx, sfx_map]
          obtain ⟨j, hj⟩ : ∃ j, (sfx l).findIdx? (fun a => a == h) = some j := by
            rw [← Option.isSome_iff_exists, List.findIdx?_isSome]; exact hp
          have hix : idxW h l = j := by unfold idxW; rw [hj]; rfl
          rw [show (I ∘ fun l => (idxW h l : Int) + 1) l = I ((j : Int) + 1) by show I ((idxW h l : Int) + 1) = _; rw [hix]]
          exact ev_bin (ev_index key_str (by simp [sfx]; omega) (ev_name rfl rfl) (ev_name rfl rfl) (find_hs hll hlt hj) rfl rfl rfl) ev_int op_add
      · refine xs_one (x_assign (rd (Imp.refl _)) trivial (ev_call (ev_global (v := .ref 106) rfl rfl rfl) (evs_cons (ev_name rfl rfl) (evs_cons (ev_dict1 (ev_name rfl rfl) ev_int) evs_nil rfl) rfl) (fn_add_callers (ctl i) (by simp)).fn rfl rfl rfl) rfl (fun _ => trivial) rfl (puts_post puts_lv ?_))
        rw [ec]
        exact fun m q pc h v => vars_sub (by intro x hx; simp only [List.mem_cons, or_false, List.not_mem_nil, ρ0] at hx; rcases hx with rfl | rfl | rfl; all_goals rfl) v
    · simp only [List.length_map]; exact Imp.refl _
    · rw [e1]; exact xs_one (x_ret (rd (Imp.refl _)) (ev_name rfl rfl))
end Mine

end
/-! H3 -/
section
open PySem PySem.W PyProof.Rows PySem.Calls
set_option maxRecDepth 100000
set_option linter.all false
namespace Mine

theorem str_ext {a b : Str} (h : a.cps.toList = b.cps.toList) : a = b := by
  cases a; cases b; simp at h; rw [h]
theorem app_list (a b : Str) : (a ++ b).cps.toList = a.cps.toList ++ b.cps.toList := by
  show ((⟨a.cps ++ b.cps⟩ : Str).cps.toList) = _
  simp
def one1 (c : Nat) : Str := ⟨#[c]⟩
theorem join_dot : ∀ (c : Nat) (w : Wd), (Str.join ("." : Str) ((c :: w).map one1) ++ (".local" : Str)).cps.toList = hst (c :: w)
  | c, [] => by
    rw [app_list]; rfl
  | c, d :: w => by
    have ih := join_dot d w
    show ((one1 c ++ ("." : Str) ++ Str.join ("." : Str) ((d :: w).map one1)) ++ (".local" : Str)).cps.toList = c :: 46 :: hst (d :: w)
    rw [app_list, app_list, app_list]
    rw [app_list] at ih
    rw [List.append_assoc, ih]; rfl
theorem join_hs {w : Wd} (h : w ≠ []) : Str.join ("." : Str) (w.map one1) ++ (".local" : Str) = hs w := by
  cases w with
  | nil => exact absurd rfl h
  | cons c w => exact str_ext (by rw [join_dot, hs_list])
theorem join_nil : ∀ w : Wd, (Str.join ("" : Str) (w.map one1)).cps.toList = w
  | [] => rfl
  | [c] => rfl
  | c :: d :: w => by
    have ih := join_nil (d :: w)
    show ((one1 c ++ ("" : Str)) ++ Str.join ("" : Str) ((d :: w).map one1)).cps.toList = c :: d :: w
    rw [app_list, app_list, ih]; rfl
theorem fold_one (sep : Str) : ∀ (w : Wd) (acc : Nat), (w.map one1).foldl (fun a x => a + x.length + sep.length) acc = acc + w.length * (1 + sep.length)
  | [], acc => by simp
  | c :: w, acc => by
    rw [List.map_cons, List.foldl_cons, fold_one sep w]
    have : (one1 c).length = 1 := rfl
    rw [this, List.length_cons, Nat.succ_mul]; omega
theorem joinOk_one {sep : Str} (hs : sep.length ≤ 1) {w : Wd} (hw : w.length ≤ 100) : JoinOk sep (w.map one1) = true := by
  unfold JoinOk
  have e : (w.map one1).toArray.foldl (fun a x => a + x.length + sep.length) 0 = w.length * (1 + sep.length) := by
    rw [List.foldl_toArray, fold_one]; omega
  simp only [e, Builtin.Str.tooLong]
  have : w.length * (1 + sep.length) ≤ 100 * 2 := Nat.mul_le_mul hw (by omega)
  rw [sizeLine_eq]
  simp; omega

/-! ways -/
theorem ways_ne (ps : List Nat) : ∀ i, ∀ w ∈ waysTo ps i, w ≠ []
  | 0, w, h => by simp [waysTo] at h; subst h; simp
  | i + 1, w, h => by
    rw [waysTo, List.mem_append] at h
    rcases h with h | h
    · exact ways_ne ps i w h
    · rw [List.mem_singleton] at h; subst h; simp
theorem ways_in (ps : List Nat) : ∀ i, ∀ w ∈ waysTo ps i, ∀ k ∈ w, k ≤ i
  | 0, w, h, k, hk => by simp [waysTo] at h; subst h; simp at hk; omega
  | i + 1, w, h, k, hk => by
    rw [waysTo, List.mem_append] at h
    rcases h with h | h
    · have := ways_in ps i w h k hk; omega
    · rw [List.mem_singleton] at h; subst h
      rcases List.mem_cons.mp hk with rfl | hk
      · exact Nat.le_refl _
      · by_cases hl : ps.getD (i + 1) 0 < (waysTo ps i).length
        · have := ways_in ps i _ (getD_mem (d := []) hl) k hk; omega
        · rw [List.getD_eq_getElem?_getD, List.getElem?_eq_none (by omega)] at hk; simp at hk

/-! data -/
theorem rt_hsT (a : Wd) : RT (hsT a) (.str (hs a)) := rt_s
theorem eqvAll_strs : ∀ l : List Str, PyData.eqvAll (l.map .str) (l.map .str) = true
  | [] => rfl
  | x :: l => by simp [PyData.eqvAll, PyData.eqv, eqvAll_strs l]
theorem lay_strs : ∀ {l : List Str}, (∀ x ∈ l, PyData.strOk x = true) → PyData.canLayAll0 (l.map .str) = true
  | [], _ => rfl
  | x :: l, h => by simp only [List.map_cons, PyData.canLayAll0, PyData.canLay0, h x (.head _), lay_strs (fun y hy => h y (.tail _ hy)), Bool.and_self]
theorem depth_strs : ∀ l : List Str, PyData.depthAll (l.map .str) ≤ 1
  | [] => by simp [PyData.depthAll]
  | x :: l => by have := depth_strs l; simp only [List.map_cons, PyData.depthAll, PyData.depth]; omega
def dSS (ls : List (List Str)) : PyData := .list (ls.map fun l => .list (l.map .str))
theorem eqv_dSS (ls : List (List Str)) : PyData.eqv (dSS ls) (dSS ls) = true := by
  unfold dSS
  simp only [PyData.eqv]
  induction ls with
  | nil => rfl
  | cons l ls ih => simp only [List.map_cons, PyData.eqvAll, PyData.eqv, eqvAll_strs, ih, Bool.and_self]
theorem shaped_dSS {ls : List (List Str)} (h : ∀ l ∈ ls, ∀ x ∈ l, PyData.strOk x = true) : SeqAt.shaped (dSS ls) = true := by
  have k1 : PyData.canLayAll0 (ls.map fun l => PyData.list (l.map .str)) = true := by
    induction ls with
    | nil => rfl
    | cons l ls ih => simp only [List.map_cons, PyData.canLayAll0, PyData.canLay0, lay_strs (h l (.head _)), ih (fun y hy => h y (.tail _ hy)), Bool.and_self]
  have k2 : PyData.depthAll (ls.map fun l => PyData.list (l.map .str)) ≤ 2 := by
    clear k1 h
    induction ls with
    | nil => simp [PyData.depthAll]
    | cons l ls ih =>
      have := depth_strs l
      simp only [List.map_cons, PyData.depthAll, PyData.depth]; omega
  have k3 : (dSS ls).depth ≤ 3 := by unfold dSS; simp only [PyData.depth]; omega
  unfold SeqAt.shaped
  have : (dSS ls).canLay0 = true := by unfold dSS; simp only [PyData.canLay0, k1]
  simp only [this, Bool.true_and, decide_eq_true_eq]
  omega
theorem eqv_strs (l : List Str) : PyData.eqv (.list (l.map .str)) (.list (l.map .str)) = true := by simp only [PyData.eqv, eqvAll_strs]
theorem shaped_strs {l : List Str} (h : ∀ x ∈ l, PyData.strOk x = true) : SeqAt.shaped (.list (l.map .str)) = true := by
  have k2 := depth_strs l
  have k3 : (PyData.list (l.map .str)).depth ≤ 3 := by simp only [PyData.depth]; omega
  unfold SeqAt.shaped
  simp only [PyData.canLay0, lay_strs h, Bool.true_and, decide_eq_true_eq]
  omega
theorem eqvAll_ints : ∀ l : List Int, PyData.eqvAll (l.map .int) (l.map .int) = true
  | [] => rfl
  | x :: l => by simp [PyData.eqvAll, PyData.eqv, eqvAll_ints l]
theorem shaped_ints (l : List Int) : SeqAt.shaped (.list (l.map .int)) = true := by
  have k1 : PyData.canLayAll0 (l.map .int) = true := by
    induction l with
    | nil => rfl
    | cons x l ih => simp only [List.map_cons, PyData.canLayAll0, PyData.canLay0, ih, Bool.and_self]
  have k2 : PyData.depthAll (l.map .int) ≤ 1 := by
    clear k1
    induction l with
    | nil => simp [PyData.depthAll]
    | cons x l ih => simp only [List.map_cons, PyData.depthAll, PyData.depth]; omega
  have k3 : (PyData.list (l.map .int)).depth ≤ 3 := by simp only [PyData.depth]; omega
  unfold SeqAt.shaped
  simp only [PyData.canLay0, k1, Bool.true_and, decide_eq_true_eq]
  omega
theorem strOk_small {x : Str} (h : ∀ c ∈ x.cps.toList, c < 1000) : PyData.strOk x = true := by
  unfold PyData.strOk
  rw [← Array.all_toList, List.all_eq_true]
  intro c hc
  have := h c hc
  simp; omega
theorem hst_small {w : Wd} (h : Lets w) : ∀ c ∈ hst w, c < 1000 := by
  induction w with
  | nil => intro c hc; simp [hst, lcl] at hc; omega
  | cons d w ih =>
    intro c hc
    rcases List.mem_cons.mp hc with rfl | hc
    · have := h c (.head _); omega
    · rcases List.mem_cons.mp hc with rfl | hc
      · decide
      · exact ih (fun x hx => h x (.tail _ hx)) c hc
theorem strOk_hs {w : Wd} (h : Lets w) : PyData.strOk (hs w) = true := strOk_small (by rw [hs_list]; exact hst_small h)
end Mine

end
/-! F10 -/
section
open PySem PySem.W PyProof.Rows PySem.Calls
set_option maxRecDepth 100000
set_option linter.all false
namespace Mine
variable {w : World} {mg mb : Str → Option Value} {top : Heap}

def psOf (t : List Int) : List Nat := 0 :: (List.range 6).map fun j => ((t.getD (j + 1) 0).fmod ((j : Int) + 1)).toNat
def idxOf (t0 : Int) (k : Nat) : Nat := (((k : Int) * (1 + t0.fmod 6) + t0.fdiv 6).fmod 7).toNat
def ltOf (t : List Int) : List Nat := (List.range 7).map fun k => 97 + idxOf (t.getD 0 0) k
def wrd (lt : List Nat) (way : List Nat) : Wd := way.map fun i => lt.getD i 0
def wordsOf (ps lt : List Nat) : List Wd := (waysTo ps 6).map (wrd lt)
def sgl (c : Nat) : T := S ⟨#[c]⟩
theorem psOf_le (t : List Int) : ∀ k, k < 7 → (psOf t).getD k 0 ≤ k - 1 := by
  intro k hk
  unfold psOf
  cases k with
  | zero => simp
  | succ j =>
    have : j < 6 := by omega
    simp only [List.getElem?_cons_succ, List.getD_eq_getElem?_getD, List.getElem?_map, List.getElem?_range this, Option.map_some, Option.getD_some]
    rw [Int.fmod_eq_emod_of_nonneg _ (by omega)]
    have h1 := Int.emod_lt_of_pos (t[j + 1]?.getD 0) (show (0 : Int) < (j : Int) + 1 by omega)
    omega
theorem idxOf_lt (t0 : Int) (k : Nat) : idxOf t0 k < 7 := by
  unfold idxOf
  rw [Int.fmod_eq_emod_of_nonneg _ (by decide)]
  have h1 := Int.emod_lt_of_pos ((k : Int) * (1 + t0.fmod 6) + t0.fdiv 6) (show (0 : Int) < 7 by omega)
  have h2 := Int.emod_nonneg ((k : Int) * (1 + t0.fmod 6) + t0.fdiv 6) (show (7 : Int) ≠ 0 by omega)
  omega
theorem idxOf_nat (t0 : Int) (k : Nat) : ((idxOf t0 k : Nat) : Int) = ((k : Int) * (1 + t0.fmod 6) + t0.fdiv 6).fmod 7 := by
  unfold idxOf
  rw [Int.fmod_eq_emod_of_nonneg _ (by decide)]
  have h2 := Int.emod_nonneg ((k : Int) * (1 + t0.fmod 6) + t0.fdiv 6) (show (7 : Int) ≠ 0 by omega)
  omega
theorem bits_le : ∀ k : Nat, k < 7 → Builtin.Int.intBits (k : Int) ≤ 64 := by decide
theorem abc_at : ∀ k : Nat, k < 7 → (seqIndex? (k : Int) ("abcdefg" : Str).length).bind (("abcdefg" : Str).cps[·]?) = some (97 + k) := by decide
theorem div6 (a : Int) : Builtin.divisionGoesByPylong a 6 = false := by rfl
theorem ltOf_len (t : List Int) : (ltOf t).length = 7 := by simp [ltOf]
theorem ltOf_at (t : List Int) {i : Nat} (h : i < 7) : 97 ≤ (ltOf t).getD i 0 ∧ (ltOf t).getD i 0 ≤ 103 := by
  have e : (ltOf t).getD i 0 = 97 + idxOf (t.getD 0 0) i := by
    unfold ltOf
    rw [List.getD_eq_getElem?_getD, List.getElem?_map, List.getElem?_range h]; rfl
  rw [e]
  have := idxOf_lt (t.getD 0 0) i
  omega
theorem words_ok {t : List Int} {ps : List Nat} : ∀ l ∈ wordsOf ps (ltOf t), Lets l ∧ l ≠ [] ∧ l.length ≤ 7 := by
  intro l hl
  obtain ⟨way, hw, rfl⟩ := List.mem_map.mp hl
  refine ⟨fun c hc => ?_, ?_, ?_⟩
  · obtain ⟨i, hi, rfl⟩ := List.mem_map.mp hc
    have := ways_in ps 6 way hw i hi
    exact ltOf_at t (by omega)
  · have := ways_ne ps 6 way hw
    simpa [wrd] using this
  · have := waysTo_each ps 6 way hw
    simpa [wrd] using this

def tS (l : Wd) : Str := ⟨l.reverse.toArray⟩
def tT (l : Wd) : T := S (tS l)
def ltxt (o l : Wd) : Bool := strcoll (tS o) (tS l) == -1
def firstOf (ws : List Wd) : List Nat := ws.map fun l => (ws.filter fun o => ltxt o l).length
def rcd (l : Wd) : Rec := l.reverse ++ List.replicate (7 - l.length) 122
def secondOf (ws : List Wd) : List Nat := ws.map fun l => (ws.filter fun o => cmpR (rcd o) (rcd l) == -1).length
def hgD (ps : List Nat) : KV := putsD [] ((hgtTo ps 6).map fun h => (h, ((hgtTo ps 6).countP (fun a => a == h) : Nat)))
def fixOf (fs : List Nat) (k : Nat) : Nat := (fs.findIdx? fun a => a == k).getD 0
def recsOf (ws : List Wd) : List Rec := (List.range 7).map fun k => rcd (ws.getD (fixOf (firstOf ws) k) [])
def colD (rows : RowL) : KV := putsD [] ((List.range (rows.getD 0 []).length).map fun (k : Nat) => (((k : Int) + 1), ((rows.filter fun r => decide (k < r.length)).length : Int)))
structure Chk (ps lt : List Nat) : Prop where
  lad : ∀ way ∈ waysTo ps 6, (List.range way.length).map (fun i => way.drop i) = way.map fun i => (waysTo ps 6).getD i []
  fst : ∀ i ∈ firstOf (wordsOf ps lt), i < 7
  srt : ∃ srt : List Wd, srt.length = 7 ∧ (∀ ss' : List Str, ss'.Perm ((wordsOf ps lt).map tS) → sortedS ss' = true → ss' = srt.map tS) ∧ (firstOf (wordsOf ps lt)).map (fun i => srt.getD i []) = wordsOf ps lt
  snd : (List.range 7).Perm (secondOf (wordsOf ps lt))
  les : ∀ i, i < 7 → ∀ j, j < 7 → lessW ((firstOf (wordsOf ps lt)).getD i 0) (6 + (secondOf (wordsOf ps lt)).getD i 0 - (firstOf (wordsOf ps lt)).getD i 0) ((firstOf (wordsOf ps lt)).getD j 0) (6 + (secondOf (wordsOf ps lt)).getD j 0 - (firstOf (wordsOf ps lt)).getD j 0) =
    (i != j && ((waysTo ps 6).getD j []).any fun a => a == i)
  ct1 : eqD (cntW (wordsOf ps lt)) (hgD ps) = true
  ct2 : sumV (cntW (wordsOf ps lt)) = 7
  fix : ∀ k, k < 7 → ((firstOf (wordsOf ps lt)).findIdx? fun a => a == k).isSome = true
  fin : layR (recsOf (wordsOf ps lt)) [] ≠ [] ∧ eqD (cntW (wordsOf ps lt)) (colD (layR (recsOf (wordsOf ps lt)) [])) = true
theorem sfx_head : ∀ l : Wd, (sfx l).map (fun a => a.headD 0) = l := by
  intro l
  unfold sfx
  rw [List.map_map]
  apply List.ext_getElem (by simp)
  intro i h1 h2
  simp only [List.getElem_map, List.getElem_range, Function.comp]
  rw [List.drop_eq_getElem_cons h2]; rfl
theorem sfx_ne (l : Wd) : ∀ a ∈ sfx l, a ≠ [] := by
  intro a ha
  obtain ⟨i, hi, rfl⟩ := List.mem_map.mp ha
  intro h
  have := congrArg List.length h
  simp at this hi; omega
theorem hs_first {a : Wd} (h : a ≠ []) : (seqIndex? 0 (hs a).length).bind ((hs a).cps[·]?) = some (a.headD 0) := by
  cases a with
  | nil => exact absurd rfl h
  | cons c a =>
    have hl := hs_len (c :: a)
    have hz : 0 < (hs (c :: a)).length := by rw [hl]; omega
    simp [seqIndex?, hz]
    simp [hs, hst]
theorem join_tS (l : Wd) : S (Txt.join ("" : Str) (l.reverse.map one1)) = tT l := by
  unfold tT
  congr 1
  rw [show Txt.join ("" : Str) (l.reverse.map one1) = Str.join ("" : Str) (l.reverse.map one1) by simpa using join_closes (sep := ("" : Str)) (sep' := ("" : Str)) (ys := l.reverse.map one1) rfl]
  exact str_ext (by rw [join_nil]; simp [tS])
theorem fn_strxfrm {w : World} {mg mb : Str → Option Value} {top : Heap} {n : Nat} {v : Value} : FnC (mkC w mg mb top) (n + 1) (.ref 71) [V v] (V v) := by
  refine fnc_plain (names := ["s"]) (ho := by rfl) (hcd := by rfl) (hbody := by rfl) (hbind := ?_) (hlen := rfl) (hnd := by decide) (hcell := by decide) (hfree := by decide) (hloc := by decide) (hco := rfl) (hgen := rfl) (hk := rfl) (hgl := rfl) (hbu := rfl) (hclo := rfl) (h := ?_)
  · intro vs hv
    match vs, hv with
    | [_], _ => rfl
  · intro L
    exact xs_one (x_ret (rd (Imp.refl _)) (ev_name rfl rfl))
theorem foldl_cps {c : Nat} : ∀ (k : Nat) (acc : Array Nat), (List.replicate k #[c]).foldl (fun x1 x2 => x1 ++ x2) acc = acc ++ (List.replicate k c).toArray
  | 0, acc => by simp
  | k + 1, acc => by rw [List.replicate_succ, List.foldl_cons, foldl_cps k, List.replicate_succ, Array.append_assoc]; congr 1; simp
theorem mul_one1 (c k : Nat) : Txt.mul (one1 c) (k : Int) = repS c k := by
  unfold Txt.mul repS
  by_cases h0 : (k : Int) < 1
  · rw [if_pos h0]
    have : k = 0 := by omega
    subst this; rfl
  · rw [if_neg h0]
    by_cases h1 : k = 1
    · subst h1; rfl
    · rw [if_neg (by simp [one1, Str.length]; omega)]
      simp only [Int.toNat_natCast, one1]
      rw [foldl_cps]; simp
theorem op_muls {C : Cx} {n : Nat} {c k : Nat} (hk : k ≤ 200) : Op2 C n .Mult (S (one1 c)) (nat k) (S (repS c k)) := by
  rintro A p s _ _ hA hG _ ⟨t, rfl⟩ ⟨u, rfl⟩
  refine SB.mul (mulOk_1 k hk) fun t' kk => ⟨keeps_tok _ _, t', ?_⟩
  rw [mul_one1]
theorem tS_small {l : Wd} (h : Lets l) : PyData.strOk (tS l) = true := strOk_small (by
  intro c hc
  simp only [tS, List.mem_reverse] at hc
  have := h c hc; omega)
theorem rcd_good {l : Wd} (h : Lets l) (hl : l.length ≤ 7) : Good (rcd l) := by
  unfold rcd
  refine ⟨by simp; omega, fun c hc => ?_⟩
  rcases List.mem_append.mp hc with hc | hc
  · have := h c (List.mem_reverse.mp hc); omega
  · rw [List.mem_replicate] at hc; omega
theorem small_ts : ∀ ts : Nat, (ts = 1 ∨ ts = 8) → ∀ k : Nat, k ≤ 1 → Builtin.Range.small (ts : Int) (k : Int) 1 = true := by
  rintro ts (rfl | rfl) k hk
  · have : k = 0 ∨ k = 1 := by omega
    rcases this with rfl | rfl <;> rfl
  · have : k = 0 ∨ k = 1 := by omega
    rcases this with rfl | rfl <;> rfl
theorem any_nat (l : List Nat) (i : Nat) : ((l.map fun (i : Nat) => (i : Int)).any fun a => a == (i : Int)) = l.any fun a => a == i := by
  rw [List.any_map]
  congr 1
  funext a
  show ((a : Int) == (i : Int)) = (a == i)
  rw [Bool.eq_iff_iff]; simp; omega
theorem find_nat (l : List Nat) (i : Nat) : ((l.map fun (i : Nat) => (i : Int)).findIdx? fun a => a == (i : Int)) = l.findIdx? fun a => a == i := by
  induction l with
  | nil => rfl
  | cons a l ih =>
    simp only [List.map_cons, List.findIdx?_cons, ih]
    have : ((a : Int) == (i : Int)) = (a == i) := by rw [Bool.eq_iff_iff]; simp; omega
    rw [this]
theorem ws_str (a b : Nat) : (repS 9 a ++ repS 32 b) ++ ("x" : Str) = wsS a b := str_ext (by
  rw [app_list, app_list]; simp [repS, wsS, wsL]; rfl)
theorem crd_map {α : Type} {C : Cx} {n : Nat} {env : Env} {ρ : Rho} {f : α → T} {k v : α → Int} {kx vx : Expr} {scope : Scope} {x0 : Str} : ∀ {xs : List α}, (∀ x ∈ xs, InEv C n env ρ scope x0 (f x) kx (I (k x))) → (∀ x ∈ xs, InEv C n env ρ scope x0 (f x) vx (I (v x))) → CRD C n env ρ scope x0 kx vx (xs.map f) (xs.map fun x => (k x, v x))
  | [], _, _ => .nil
  | x :: xs, h1, h2 => .cons (h1 x (.head _)) (h2 x (.head _)) (crd_map (fun y hy => h1 y (.tail _ hy)) (fun y hy => h2 y (.tail _ hy)))
theorem rt_lads (ws : List Wd) : RT (LL (ws.map fun l => LL (rungs l))) (dSS (ws.map fun l => (sfx l).map hs)) := by
  have h := rt_list (f := fun l => LL (rungs l)) (d := fun l => .list (((sfx l).map hs).map .str)) (fun l => by
    rw [rungs_sfx]
    have := rt_list (f := hsT) (d := fun a => .str (hs a)) rt_hsT (sfx l)
    rw [List.map_map]; exact this) ws
  unfold dSS
  rw [List.map_map]; exact h
theorem lads_ok {ws : List Wd} (h : ∀ l ∈ ws, Lets l) : ∀ l ∈ (ws.map fun l => (sfx l).map hs), ∀ x ∈ l, PyData.strOk x = true := by
  intro l hl x hx
  obtain ⟨l0, h0, rfl⟩ := List.mem_map.mp hl
  obtain ⟨a, ha, rfl⟩ := List.mem_map.mp hx
  exact strOk_hs (sfx_lets (h l0 h0) a ha)
theorem txt_join (sep : Str) (ys : List Str) : Txt.join sep ys = Str.join sep ys := by simpa using join_closes (sep := sep) (sep' := sep) (ys := ys) rfl
theorem app_len (a b : Str) : (a ++ b).length = a.length + b.length := by
  show (⟨a.cps ++ b.cps⟩ : Str).length = _
  simp [Str.length]

set_option maxHeartbeats 16000000 in
theorem fn_law {n : Nat} {ns : List Int} (hn : ns.length ≤ 63) (hck : Chk (psOf (tot ns ns.length)) (ltOf (tot ns ns.length))) : FnC (mkC w mg mb top) (n + 8) (.ref 222) [LX ns] (B true) := by
  refine fnc_cells (names := ["script"]) (ho := by rfl) (hcd := by rfl) (hbody := by rfl) (hbind := ?_) (hlen := rfl) (hfree := by decide) (hloc := by decide) (hco := rfl) (hgen := rfl) (hk := rfl) (hgl := rfl) (hbu := rfl) (hclo := rfl) (h := ?_)
  · intro vs hv
    match vs, hv with
    | [_], _ => rfl
  · intro L
    show Xs _ _ ?E _ _ _ _
    let E : Env := ?E
    let C := mkC w mg mb top
    generalize ht : tot ns ns.length = t at hck
    have htl : t.length = 7 := by rw [← ht]; exact tot_len ns _
    let ps := psOf t
    let lt := ltOf t
    let t0 := t.getD 0 0
    refine xs_cons (Mid := LV [("totals", LL (t.map I))]) (x_assign (rd (Imp.refl _)) trivial (ev_eq (ev_call (ev_global (v := .ref 186) rfl rfl rfl) (evs_cons (ev_name rfl rfl) evs_nil rfl) (fn_totals hn).fn rfl rfl rfl) (by rw [ht])) rfl (fun _ => trivial) rfl (puts_post puts_lv (fun m q pc h v => vars_sub (by intro x hx; simp only [List.mem_cons, or_false, List.not_mem_nil] at hx; rcases hx with rfl; rfl) v))) ?_
    have htat : ∀ k : Nat, k < 7 → It2 C (n + 7) (LL (t.map I)) (nat k) (I (t.getD k 0)) := fun k hk => it_list (by omega) (by omega) (by rw [Int.toNat_natCast]; exact map_getD (by omega))
    refine xs_cons (Mid := LV (("parents", NL ps) :: [("totals", LL (t.map I))])) (x_assign (rd (Imp.refl _)) trivial (ev_eq (EvF.ev (ef_add (ts := [nat 0]) (us := (List.range 6).map fun j => nat ((t.getD (j + 1) 0).fmod ((j : Int) + 1)).toNat) (EvF.ev (ef_list (evs_cons (ev_eq ev_int rfl) evs_nil rfl) (by rw [sizeLine_eq]; show 1 ≤ _; omega)))
      (ev_comp (io_range (a := 1) (b := 7) (c := 1) (N := 6) (ev_call (ev_builtin (v := .type "range") rfl rfl rfl rfl (by decide)) (evs_cons ev_int (evs_cons ev_int evs_nil rfl) rfl) fn_range2 rfl rfl rfl) rfl rfl) (by rfl) rfl (by decide) (cr_map fun j hj cs L0 => ?_) (by simp) (fun _ => rfl)) (by simp))) ?_) rfl (fun _ => trivial) rfl puts_lv) ?_
    · have hj' : j < 6 := by simpa using hj
      have e1 : I (1 + (j : Int) * 1) = nat (j + 1) := by unfold nat; congr 1; omega
      refine ev_eq (ev_bin (ev_sub (b := nat (j + 1)) (ev_name rfl rfl) (ev_eq (ev_name rfl rfl) e1) (htat (j + 1) (by omega)) fun _ _ => rfl) (ev_eq (u := nat (j + 1)) (ev_name rfl rfl) e1) (op_mod (by omega))) ?_
      unfold nat
      congr 1
      have hp : ((j + 1 : Nat) : Int) = (j : Int) + 1 := by omega
      rw [hp]
      have := Int.emod_nonneg (t.getD (j + 1) 0) (show ((j : Int) + 1) ≠ 0 by omega)
      rw [Int.fmod_eq_emod_of_nonneg _ (by omega)]
      omega
    · show LL (nat 0 :: _) = LL ((psOf t).map nat)
      unfold psOf
      rw [List.map_cons, List.map_map]; rfl
    let ρ2 : Rho := ("parents", NL ps) :: [("totals", LL (t.map I))]
    refine xs_cons (Mid := LV (("letters", LL (lt.map sgl)) :: ρ2)) (x_assign (rd (Imp.refl _)) trivial (ev_eq (ev_comp (us := (List.range 7).map fun k => sgl (97 + idxOf t0 k)) (io_range (a := 0) (b := 7) (c := 1) (N := 7) (ev_call (ev_builtin (v := .type "range") rfl rfl rfl rfl (by decide)) (evs_cons ev_int evs_nil rfl) fn_range1 rfl rfl rfl) rfl rfl) (by rfl) rfl (by decide) (cr_map fun k hk cs L0 => ?_) (by simp) (fun _ => rfl)) ?_) rfl (fun _ => trivial) rfl puts_lv) ?_
    · have hk' : k < 7 := by simpa using hk
      have e1 : I (0 + (k : Int) * 1) = nat k := by unfold nat; congr 1; omega
      refine ev_sub (b := nat (idxOf t0 k)) ev_str (ev_eq (ev_bin (ev_bin (ev_bin (ev_eq (u := nat k) (ev_name rfl rfl) e1) (ev_bin ev_int (ev_bin (ev_sub (b := nat 0) (ev_name rfl rfl) (ev_eq ev_int rfl) (htat 0 (by omega)) fun _ _ => rfl) ev_int (op_mod (by decide))) op_add) (op_mul (IntMulOk.of_left (bits_le k hk')))) (ev_bin (ev_sub (b := nat 0) (ev_name rfl rfl) (ev_eq ev_int rfl) (htat 0 (by omega)) fun _ _ => rfl) ev_int (op_div (by decide) (div6 _))) op_add) ev_int (op_mod (by decide))) ?_) (it_str (by have := idxOf_lt t0 k; simp; omega) (abc_at _ (idxOf_lt t0 k))) fun _ _ => rfl
      unfold nat; rw [idxOf_nat]
    · show LL _ = LL ((ltOf t).map sgl)
      unfold ltOf; rw [List.map_map]; rfl
    let wy := waysTo ps 6
    refine xs_cons (Mid := LV (("ways", LL (wy.map NL)) :: ("letters", LL (lt.map sgl)) :: ρ2)) (x_assign (rd (Imp.refl _)) trivial (ev_call (ev_global (v := .ref 193) rfl rfl rfl) (evs_cons (ev_name rfl rfl) evs_nil rfl) (fn_ways (by show (psOf t).length = 7; simp [psOf]) (psOf_le t)).fn rfl rfl rfl) rfl (fun _ => trivial) rfl puts_lv) ?_
    let ws := wordsOf ps lt
    have hws : ∀ l ∈ ws, Lets l ∧ l ≠ [] ∧ l.length ≤ 7 := words_ok
    have hwl : ws.length = 7 := by show (wordsOf ps lt).length = 7; unfold wordsOf; rw [List.length_map, waysTo_len]
    have hwyl : wy.length = 7 := waysTo_len ps 6
    have hlt7 : lt.length = 7 := ltOf_len t
    let ρ3 : Rho := ("ways", LL (wy.map NL)) :: ("letters", LL (lt.map sgl)) :: ρ2
    refine xs_cons (Mid := LV (("hosts", LL (ws.map hsT)) :: ρ3)) (x_assign (rd (Imp.refl _)) trivial (ev_eq (ev_comp (us := wy.map fun way => hsT (wrd lt way)) (io_list (ev_name rfl rfl)) (by rfl) rfl (by decide) (cr_map fun way hway cs L0 => ?_) (by rw [List.length_map, hwyl]; omega) (fun _ => rfl)) ?_) rfl (fun _ => trivial) rfl puts_lv) ?_
    · have hw1 := ways_ne ps 6 way hway
      have hw2 := waysTo_each ps 6 way hway
      have hwl1 : (wrd lt way).length = way.length := by unfold wrd; rw [List.length_map]
      have hok : JoinOk ("." : Str) ((wrd lt way).map one1) = true := joinOk_one (by decide) (by omega)
      have hne : wrd lt way ≠ [] := by intro h; rw [h] at hwl1; exact hw1 (List.eq_nil_of_length_eq_zero hwl1.symm)
      have hlen : (Str.join ("." : Str) ((wrd lt way).map one1) ++ (".local" : Str)).length = 2 * way.length + 5 := by rw [join_hs hne, hs_len, hwl1]
      refine ev_eq (ev_bin (ev_join (texts := (wrd lt way).map one1) ev_str (ev_eq (ev_comp (us := way.map fun i => S (one1 (lt.getD i 0))) (io_list (ev_name rfl rfl)) (by rfl) rfl (by decide) (cr_map fun i hi cs L0 => ev_sub (ev_name rfl rfl) (ev_name rfl rfl) (it_list (by omega) (by have := ways_in ps 6 way hway i hi; omega) (by rw [Int.toNat_natCast]; exact map_getD (by have := ways_in ps 6 way hway i hi; omega))) fun _ _ => rfl) (by rw [List.length_map]; omega) (fun _ => rfl)) (by unfold wrd; rw [List.map_map, List.map_map]; rfl)) hok rfl rfl rfl) ev_str (op_adds ?_)) ?_
      · have := app_len (Str.join ("." : Str) ((wrd lt way).map one1)) (".local" : Str)
        rw [txt_join, ← this, hlen, sizeLine_eq]; omega
      · rw [txt_join, join_hs hne]; rfl
    · show LL _ = LL ((wordsOf ps lt).map hsT)
      unfold wordsOf; rw [List.map_map]; rfl
    let ρ4 : Rho := ("hosts", LL (ws.map hsT)) :: ρ3
    refine xs_cons (Mid := LV (("ladders", LL (ws.map fun l => LL (rungs l))) :: ρ4)) (x_comp (us := ws.map fun l => LL (rungs l)) (rd (Imp.refl _)) (fun _ _ => trivial) (io_list (ev_name rfl rfl)) (by rfl) rfl (by decide) (cr_map fun l hl cs L0 => ev_call (ev_global (v := .ref 200) rfl rfl rfl) (evs_cons (ev_name rfl rfl) evs_nil rfl) (fn_ladder (hws l hl).1 (hws l hl).2.1 (by have := (hws l hl).2.2; omega)).fn rfl rfl rfl) (by rw [List.length_map, hwl]; omega) (fun _ => rfl) rfl (fun _ => trivial) rfl puts_lv) ?_
    let ρ5 : Rho := ("ladders", LL (ws.map fun l => LL (rungs l))) :: ρ4
    have hwsat : ∀ i, i < 7 → ws.getD i [] = wrd lt (wy.getD i []) := fun i hi => by
      show (wordsOf ps lt).getD i [] = _
      unfold wordsOf
      rw [List.getD_eq_getElem?_getD, List.getElem?_map, List.getD_eq_getElem?_getD, List.getElem?_eq_getElem (Nat.lt_of_lt_of_eq hi hwyl.symm : i < (waysTo ps 6).length)]
      rfl
    refine xs_cons (Mid := LV ρ5) (x_if (c := false) (rd (Imp.refl _)) (Tr.eq (tr_cmp (ev_name rfl rfl) (ev_eq (u := LL (ws.map fun l => LL (rungs l))) (ev_comp (us := wy.map fun way => LL (way.map fun i => hsT (ws.getD i []))) (io_list (ev_name rfl rfl)) (by rfl) rfl (by decide) (cr_map fun way hway cs L0 => ev_comp (us := way.map fun i => hsT (ws.getD i [])) (io_list (ev_name rfl rfl)) (by rfl) rfl (by decide) (cr_map fun i hi cs L0 => ev_sub (ev_name rfl rfl) (ev_name rfl rfl) (it_list (by omega) (by have := ways_in ps 6 way hway i hi; omega) (by rw [Int.toNat_natCast]; exact map_getD (by have := ways_in ps 6 way hway i hi; omega))) fun _ _ => rfl) (by have := waysTo_each ps 6 way hway; rw [List.length_map]; omega) (fun _ => rfl)) (by rw [List.length_map, hwyl]; omega) (fun _ => rfl)) ?_) (cm_neR (da := dSS (ws.map fun l => (sfx l).map hs)) (db := dSS (ws.map fun l => (sfx l).map hs)) ?_ ?_ ?_ ?_) rfl) ?_) (fun h => by cases h) (fun _ => xs_nil (Imp.refl _))) ?_
    · show LL ((waysTo ps 6).map _) = LL ((wordsOf ps lt).map _)
      unfold wordsOf
      rw [List.map_map]
      congr 1
      apply List.map_congr_left
      intro way hway
      show LL _ = LL (rungs (wrd lt way))
      rw [rungs_sfx]
      congr 1
      have e1 : sfx (wrd lt way) = (way.map fun i => (waysTo ps 6).getD i []).map (wrd lt) := by
        rw [← hck.lad way hway, List.map_map]
        unfold sfx wrd
        rw [List.length_map]
        apply List.map_congr_left
        intro i _
        simp
      rw [e1, List.map_map, List.map_map]
      apply List.map_congr_left
      intro i hi
      have hi7 : i < 7 := by have := ways_in ps 6 way hway i hi; omega
      show hsT (ws.getD i []) = hsT (wrd lt ((waysTo ps 6).getD i []))
      rw [hwsat i hi7]
    · exact rt_lads ws
    · exact rt_lads ws
    · exact shaped_dSS (lads_ok fun l hl => (hws l hl).1)
    · exact shaped_dSS (lads_ok fun l hl => (hws l hl).1)
    · rw [eqv_dSS]; rfl
    have hwsb : ∀ (f : Wd → Bool), (ws.filter f).length ≤ 7 := fun f => by rw [← hwl]; exact List.length_filter_le _ _
    refine xs_cons (Mid := LV (("texts", LL (ws.map tT)) :: ρ5)) (x_assign (rd (Imp.refl _)) trivial (ev_comp (us := ws.map tT) (io_list (ev_name rfl rfl)) (by rfl) rfl (by decide) (cr_map fun l hl cs L0 => ?_) (by rw [List.length_map, hwl]; omega) (fun _ => rfl)) rfl (fun _ => trivial) rfl puts_lv) ?_
    · obtain ⟨hl1, hl2, hl3⟩ := hws l hl
      rw [← join_tS]
      refine ev_join (texts := l.reverse.map one1) ev_str (ev_eq (ev_comp (ts := (sfx l).reverse.map hsT) (us := (sfx l).reverse.map fun a => S (one1 (a.headD 0))) (io_list (ev_eq (ev_revs (ev_name rfl rfl) (by rw [rungs_sfx]; simp [sfx]; omega) (fun _ _ => rfl)) (by rw [rungs_sfx, List.map_reverse]))) (by rfl) rfl (by decide) (cr_map fun a ha cs L0 => ev_sub (ev_name rfl rfl) ev_int (it_str (by decide) (hs_first (sfx_ne l a (List.mem_reverse.mp ha)))) fun _ _ => rfl) (by simp [sfx]; omega) (fun _ => rfl)) ?_) (joinOk_one (by decide) (by rw [List.length_reverse]; omega)) rfl rfl rfl
      congr 1
      rw [List.map_reverse, List.map_map, List.map_reverse]
      congr 1
      have h := congrArg (List.map fun c => S (one1 c)) (sfx_head l)
      rw [List.map_map] at h
      exact h
    let ρ6 : Rho := ("texts", LL (ws.map tT)) :: ρ5
    refine xs_cons (Mid := LV (("first", NL (firstOf ws)) :: ρ6)) (x_assign (rd (Imp.refl _)) trivial (ev_eq (ev_comp (us := ws.map fun l => nat (ws.filter fun o => ltxt o l).length) (io_list (ev_name rfl rfl)) (by rfl) rfl (by decide) (cr_map fun l hl cs L0 => ?_) (by rw [List.length_map, hwl]; omega) (fun _ => rfl)) ?_) rfl (fun _ => trivial) rfl puts_lv) ?_
    · refine ev_eq (ev_call (ev_builtin (v := .builtin "len") rfl rfl rfl rfl (by decide)) (evs_cons (ev_comp (us := (ws.filter fun o => ltxt o l).map tT) (io_list (ev_name rfl rfl)) (by rfl) rfl (by decide) (cr_filter (f := tT) (fun o => ltxt o l) (fun o ho cs L0 => tr_cmp (ev_call (ev_global (v := .ref 64) rfl rfl rfl) (evs_cons (ev_name rfl rfl) (evs_cons (ev_name rfl rfl) evs_nil rfl) rfl) fn_strcoll.fn rfl rfl rfl) (ev_un ev_int un_neg) cm_eq rfl) (fun o ho hp cs L0 => ev_name rfl rfl)) (by rw [List.length_map, hwl]; omega) (fun _ => rfl)) evs_nil rfl) (fn_len_list (by rw [List.length_map]; have := hwsb fun o => ltxt o l; omega)) rfl rfl rfl) ?_
      rw [List.length_map]; rfl
    · show LL _ = LL ((firstOf ws).map nat)
      unfold firstOf; rw [List.map_map]; rfl
    let ρ7 : Rho := ("first", NL (firstOf ws)) :: ρ6
    obtain ⟨srt, hs1, hs2, hs3⟩ := hck.srt
    have hwst : LL (ws.map tT) = LL ((ws.map tS).map S) := by rw [List.map_map]; rfl
    refine xs_cons (Mid := LV (("in_order", LL (srt.map tT)) :: ρ7)) (x_assign (rd (Imp.refl _)) trivial (ev_eq (ev_sorted_key (m := n + 5) (ss := ws.map tS) (out := srt.map tS) (q := 71) rfl (ev_builtin (v := .builtin "sorted") rfl rfl rfl rfl (by decide)) (ev_eq (ev_name rfl rfl) hwst) (ev_global (v := .ref 71) rfl rfl rfl) (by rw [List.length_map, hwl]; omega) (fun v => fn_strxfrm.fn) hs2 rfl rfl) (by rw [List.map_map]; rfl)) rfl (fun _ => trivial) rfl puts_lv) ?_
    let ρ8 : Rho := ("in_order", LL (srt.map tT)) :: ρ7
    have hfl : (firstOf ws).length = 7 := by unfold firstOf; rw [List.length_map, hwl]
    refine xs_cons (Mid := LV ρ8) (x_if (c := false) (rd (Imp.refl _)) (Tr.eq (tr_cmp (ev_eq (u := LL (ws.map tT)) (ev_comp (us := (firstOf ws).map fun i => tT (srt.getD i [])) (io_list (ev_name rfl rfl)) (by rfl) rfl (by decide) (cr_map fun i hi cs L0 => ev_sub (ev_name rfl rfl) (ev_name rfl rfl) (it_list (by omega) (by have := hck.fst i hi; omega) (by rw [Int.toNat_natCast]; exact map_getD (by have := hck.fst i hi; omega))) fun _ _ => rfl) (by rw [List.length_map, hfl]; omega) (fun _ => rfl)) ?_) (ev_name rfl rfl) (cm_neR (da := .list ((ws.map tS).map .str)) (db := .list ((ws.map tS).map .str)) ?_ ?_ ?_ ?_) rfl) ?_) (fun h => by cases h) (fun _ => xs_nil (Imp.refl _))) ?_
    · have h := congrArg (List.map tT) hs3
      rw [List.map_map] at h
      show LL _ = LL ((wordsOf ps lt).map tT)
      rw [← h]; rfl
    · rw [hwst]; exact rt_list (f := S) (d := .str) (fun x => rt_s) _
    · rw [hwst]; exact rt_list (f := S) (d := .str) (fun x => rt_s) _
    · exact shaped_strs (fun x hx => by obtain ⟨l, hl, rfl⟩ := List.mem_map.mp hx; exact tS_small (hws l hl).1)
    · exact shaped_strs (fun x hx => by obtain ⟨l, hl, rfl⟩ := List.mem_map.mp hx; exact tS_small (hws l hl).1)
    · rw [eqv_strs]; rfl
    refine xs_cons (Mid := LV (("records", LL (ws.map fun l => TC (rcd l))) :: ρ8)) (x_assign (rd (Imp.refl _)) trivial (ev_comp (us := ws.map fun l => TC (rcd l)) (io_list (ev_name rfl rfl)) (by rfl) rfl (by decide) (cr_map fun l hl cs L0 => ?_) (by rw [List.length_map, hwl]; omega) (fun _ => rfl)) rfl (fun _ => trivial) rfl puts_lv) ?_
    · obtain ⟨hl1, hl2, hl3⟩ := hws l hl
      have htl : (tS l).length = l.length := by simp [tS, Str.length]
      have hrl : (tS l ++ repS 122 (7 - l.length)).cps.toList = rcd l := by rw [app_list]; simp [tS, repS, rcd]
      refine ev_eq (ev_call (ev_builtin (v := .type "tuple") rfl rfl rfl rfl (by decide)) (evs_cons (ev_bin (ev_name rfl rfl) (ev_bin (ev_eq (u := S (one1 122)) ev_str rfl) (ev_eq (u := nat (7 - l.length)) (ev_bin ev_int (ev_call (ev_builtin (v := .builtin "len") rfl rfl rfl rfl (by decide)) (evs_cons (ev_name rfl rfl) evs_nil rfl) (fn_len_str (by rw [htl]; omega)) rfl rfl rfl) op_sub) (by rw [htl]; unfold nat; congr 1; omega)) (op_muls (by omega))) (op_adds (by rw [htl, sizeLine_eq]; simp [repS, Str.length]; omega))) evs_nil rfl) (fn_tuple_str (by have := congrArg List.length hrl; simp [rcd] at this; simp; omega)) rfl rfl rfl) ?_
      rw [hrl]; rfl
    let ρ9 : Rho := ("records", LL (ws.map fun l => TC (rcd l))) :: ρ8
    refine xs_cons (Mid := LV (("order", TCO (LL sel6)) :: ρ9)) (x_assign (rd (Imp.refl _)) trivial (ev_callK (ev_global (v := .ref 95) rfl rfl rfl) (evs_cons (ev_comp (us := sel6) (io_range (a := 1) (b := 7) (c := 1) (N := 6) (ev_call (ev_builtin (v := .type "range") rfl rfl rfl rfl (by decide)) (evs_cons ev_int (evs_cons ev_int evs_nil rfl) rfl) fn_range2 rfl rfl rfl) rfl rfl) (by rfl) rfl (by decide) (cr_map fun j hj cs L0 => ev_tuple (evs_cons (ev_eq (u := nat (j + 1)) (ev_name rfl rfl) (by unfold nat; congr 1; omega)) (evs_cons (ev_un ev_int un_neg) evs_nil rfl) rfl) (by rw [sizeLine_eq]; show 2 ≤ _; omega)) (by simp) (fun _ => rfl)) evs_nil rfl) fn_tc_new (by rfl) rfl rfl) rfl (fun _ => trivial) rfl puts_lv) ?_
    let ρa : Rho := ("order", TCO (LL sel6)) :: ρ9
    refine xs_cons (Mid := LV (("second", NL (secondOf ws)) :: ρa)) (x_assign (rd (Imp.refl _)) trivial (ev_eq (ev_comp (us := ws.map fun l => nat (ws.filter fun o => cmpR (rcd o) (rcd l) == -1).length) (io_list (ev_name rfl rfl)) (by rfl) rfl (by decide) (cr_map fun l hl cs L0 => ?_) (by rw [List.length_map, hwl]; omega) (fun _ => rfl)) ?_) rfl (fun _ => trivial) rfl puts_lv) ?_
    · have hgl := rcd_good (hws l hl).1 (hws l hl).2.2
      refine ev_eq (ev_call (ev_builtin (v := .builtin "len") rfl rfl rfl rfl (by decide)) (evs_cons (ev_comp (us := (ws.filter fun o => cmpR (rcd o) (rcd l) == -1).map fun l => TC (rcd l)) (io_list (ev_name rfl rfl)) (by rfl) rfl (by decide) (cr_filter (f := fun l => TC (rcd l)) (fun o => cmpR (rcd o) (rcd l) == -1) (fun o ho cs L0 => tr_cmp (ev_method (cls := 95) (f := 92) (ev_name rfl rfl) (evs_cons (ev_name rfl rfl) (evs_cons (ev_name rfl rfl) evs_nil rfl) rfl) (fn_compare (rcd_good (hws o ho).1 (hws o ho).2.2).1 hgl.1).fn (by rfl) (by rfl) (by rfl) rfl (by rfl) rfl rfl (by rfl)) (ev_un ev_int un_neg) cm_eq rfl) (fun o ho hp cs L0 => ev_name rfl rfl)) (by rw [List.length_map, hwl]; omega) (fun _ => rfl)) evs_nil rfl) (fn_len_list (by rw [List.length_map]; have := hwsb fun o => cmpR (rcd o) (rcd l) == -1; omega)) rfl rfl rfl) ?_
      rw [List.length_map]; rfl
    · show LL _ = LL ((secondOf ws).map nat)
      unfold secondOf; rw [List.map_map]; rfl
    let ρb : Rho := ("second", NL (secondOf ws)) :: ρa
    have hsl : (secondOf ws).length = 7 := by unfold secondOf; rw [List.length_map, hwl]
    have hnl : ∀ l : List Nat, NL l = LL ((l.map fun (i : Nat) => (i : Int)).map I) := fun l => by unfold NL; rw [List.map_map]; rfl
    refine xs_cons (Mid := LV ρb) (x_if (c := false) (rd (Imp.refl _)) (Tr.eq (tr_cmp (ev_call (ev_builtin (v := .builtin "sorted") rfl rfl rfl rfl (by decide)) (evs_cons (ev_eq (ev_name rfl rfl) (hnl _)) evs_nil rfl) (fn_sorted_ints (is' := (List.range 7).map fun (i : Nat) => (i : Int)) (by rw [List.length_map, hsl]; omega) (hck.snd.map _) (by decide)) rfl rfl rfl) (ev_eq (u := LL (((List.range 7).map fun (i : Nat) => (i : Int)).map I)) (ev_call (ev_builtin (v := .type "list") rfl rfl rfl rfl (by decide)) (evs_cons (ev_call (ev_builtin (v := .type "range") rfl rfl rfl rfl (by decide)) (evs_cons ev_int evs_nil rfl) fn_range1 rfl rfl rfl) evs_nil rfl) (fn_list_range (b := 7) (N := 7) rfl rfl (by omega)) rfl rfl rfl) ?_) (cm_neR (rt_list (f := I) (d := .int) (fun x => rt_i) _) (rt_list (f := I) (d := .int) (fun x => rt_i) _) (shaped_ints _) (shaped_ints _)) rfl) ?_) (fun h => by cases h) (fun _ => xs_nil (Imp.refl _))) ?_
    · rw [List.map_map]
      congr 1
    · simp only [PyData.eqv, eqvAll_ints]; rfl
    let fi : Nat → Nat := fun k => (firstOf ws).getD k 0
    let se : Nat → Nat := fun k => (secondOf ws).getD k 0
    have hfi : ∀ k, k < 7 → fi k < 7 := fun k hk => hck.fst _ (getD_mem (by rw [hfl]; exact hk))
    have hse : ∀ k, k < 7 → se k ≤ 7 := fun k hk => by
      have hm : se k ∈ secondOf ws := getD_mem (by rw [hsl]; exact hk)
      have := hck.snd.mem_iff.mpr hm
      rw [List.mem_range] at this
      omega
    have hf7 : ∀ k, k < 7 → It2 C (n + 7) (NL (firstOf ws)) (nat k) (nat (fi k)) := fun k hk => it_list (by omega) (by omega) (by rw [Int.toNat_natCast]; exact map_getD (by omega))
    have hs7 : ∀ k, k < 7 → It2 C (n + 7) (NL (secondOf ws)) (nat k) (nat (se k)) := fun k hk => it_list (by omega) (by omega) (by rw [Int.toNat_natCast]; exact map_getD (by omega))
    let ld : Nat → T := fun k => WSO (fi k) (6 + se k - fi k)
    refine xs_cons (Mid := LV (("leads", LL ((List.range 7).map ld)) :: ρb)) (x_comp (us := (List.range 7).map ld) (rd (Imp.refl _)) (fun _ _ => trivial) (io_range (a := 0) (b := 7) (c := 1) (N := 7) (ev_call (ev_builtin (v := .type "range") rfl rfl rfl rfl (by decide)) (evs_cons ev_int evs_nil rfl) fn_range1 rfl rfl rfl) rfl rfl) (by rfl) rfl (by decide) (cr_map fun k hk cs L0 => ?_) (by simp) (fun _ => rfl) rfl (fun _ => trivial) rfl puts_lv) ?_
    · have hk' : k < 7 := by simpa using hk
      have e1 : I (0 + (k : Int) * 1) = nat k := by unfold nat; congr 1; omega
      have h1 := hfi k hk'
      have h2 := hse k hk'
      refine ev_callK (ev_global (v := .ref 175) rfl rfl rfl) (evs_cons (ev_eq (u := S (wsS (fi k) (6 + se k - fi k))) (ev_bin (ev_bin (ev_bin (ev_eq (u := S (one1 9)) ev_str rfl) (ev_sub (b := nat k) (ev_name rfl rfl) (ev_eq (ev_name rfl rfl) e1) (hf7 k hk') fun _ _ => rfl) (op_muls (by omega))) (ev_bin (ev_eq (u := S (one1 32)) ev_str rfl) (ev_eq (u := nat (6 + se k - fi k)) (ev_bin (ev_bin ev_int (ev_sub (b := nat k) (ev_name rfl rfl) (ev_eq (ev_name rfl rfl) e1) (hs7 k hk') fun _ _ => rfl) op_add) (ev_sub (b := nat k) (ev_name rfl rfl) (ev_eq (ev_name rfl rfl) e1) (hf7 k hk') fun _ _ => rfl) op_sub) (by unfold nat; congr 1; omega)) (op_muls (by omega))) (op_adds (by simp [repS, Str.length]; rw [sizeLine_eq]; omega))) ev_str (op_adds (by rw [app_len]; simp [repS, Str.length]; rw [sizeLine_eq]; show _ + 1 ≤ _; omega))) (by rw [ws_str])) evs_nil rfl) (fn_ws_new (by omega)) (by rfl) rfl rfl
    let ρc : Rho := ("leads", LL ((List.range 7).map ld)) :: ρb
    have hl7 : ∀ k, k < 7 → It2 C (n + 7) (LL ((List.range 7).map ld)) (nat k) (ld k) := fun k hk => it_list (by omega) (by omega) (by rw [Int.toNat_natCast, List.getElem?_map, List.getElem?_range hk]; rfl)
    refine xs_cons (Mid := LV ρc) (x_for (Inv := fun _ => LV ρc) (Bod := fun i => LV (("i", nat i) :: ρc)) (ts := (List.range 7).map fun (i : Nat) => I (0 + (i : Int) * 1)) (Imp.refl _) (io_range (a := 0) (b := 7) (c := 1) (N := 7) (ev_call (ev_builtin (v := .type "range") rfl rfl rfl rfl (by decide)) (evs_cons ev_int evs_nil rfl) fn_range1 rfl rfl rfl) rfl rfl) rfl (fun _ => trivial) (Imp.refl _) ?_ ?_ (Imp.refl _) (fun _ => rfl)) ?_
    · intro i t' ht'
      obtain ⟨hi, rfl⟩ := of_range ht'
      have e1 : I (0 + (i : Int) * 1) = nat i := by unfold nat; congr 1; omega
      rw [e1]
      exact puts_lv
    · intro i t' ht'
      obtain ⟨hi, rfl⟩ := of_range ht'
      have hwi : It2 C (n + 7) (LL ((List.range 7).map ld)) (nat i) (ld i) := hl7 i hi
      let ρi : Rho := ("i", nat i) :: ρc
      refine xs_cons (Mid := LV ρi) (x_for (Inv := fun _ => LV ρi) (Bod := fun k => LV (("tab_size", nat (if k = 0 then 1 else 8)) :: ρi)) (ts := [nat 1, nat 8]) (Imp.refl _) (io_tup (ev_tuple (evs_cons (ev_eq ev_int rfl) (evs_cons (ev_eq ev_int rfl) evs_nil rfl) rfl) (by rw [sizeLine_eq]; show 2 ≤ _; omega))) rfl (fun _ => trivial) (Imp.refl _) ?_ ?_ (Imp.refl _) (fun _ => rfl)) ?_
      · intro k t2 ht2
        match k, ht2 with
        | 0, ht2 => simp at ht2; subst ht2; exact puts_lv
        | 1, ht2 => simp at ht2; subst ht2; exact puts_lv
        | k + 2, ht2 => simp at ht2
      · intro k t2 ht2
        have hts : (if k = 0 then 1 else 8) = 1 ∨ (if k = 0 then 1 else 8) = 8 := by by_cases h : k = 0 <;> simp [h]
        generalize (if k = 0 then 1 else 8) = ts at hts
        have hb1 : Builtin.Int.intBits (ts : Int) ≤ 64 := by rcases hts with rfl | rfl <;> decide
        have hb2 : Builtin.Int.intBits ((ts : Int) - 1) ≤ 64 := by rcases hts with rfl | rfl <;> decide
        have h1 := hfi i hi
        have h2 := hse i hi
        have hcl : (cI (fi i)).length ≤ 1 := by unfold cI; split <;> simp
        refine xs_one (x_if (c := false) (rd (Imp.refl _)) (Tr.eq (tr_cmp (ev_method (cls := 175) (f := 144) (ev_sub (b := nat i) (ev_name rfl rfl) (ev_name rfl rfl) hwi fun _ _ => rfl) (evs_cons (ev_name rfl rfl) evs_nil rfl) (fn_indent (by omega) (by omega) (by omega) hb1 (small_ts ts hts _ hcl)).fn (by rfl) (by rfl) (by rfl) rfl (by rfl) rfl rfl (by rfl))
          (ev_bin (ev_bin ev_int (ev_sub (b := nat i) (ev_name rfl rfl) (ev_name rfl rfl) (hs7 i hi) fun _ _ => rfl) op_add) (ev_bin (ev_bin (ev_name rfl rfl) ev_int op_sub) (ev_sub (b := nat i) (ev_name rfl rfl) (ev_name rfl rfl) (hf7 i hi) fun _ _ => rfl) (op_mul (IntMulOk.of_left hb2))) op_add) cm_ne rfl) ?_) (fun h => by cases h) (fun _ => xs_nil (lv_drop rfl)))
        have e : (((6 + se i - fi i + ts * fi i : Nat)) : Int) = 6 + (se i : Int) + ((ts : Int) - 1) * (fi i : Int) := by
          rcases hts with rfl | rfl
          · simp; omega
          · simp; omega
        rw [e]; simp
      · refine xs_one (x_for (Inv := fun _ => LV ρi) (Bod := fun j => LV (("j", nat j) :: ρi)) (ts := (List.range 7).map fun (i : Nat) => I (0 + (i : Int) * 1)) (Imp.refl _) (io_range (a := 0) (b := 7) (c := 1) (N := 7) (ev_call (ev_builtin (v := .type "range") rfl rfl rfl rfl (by decide)) (evs_cons ev_int evs_nil rfl) fn_range1 rfl rfl rfl) rfl rfl) rfl (fun _ => trivial) (Imp.refl _) ?_ ?_ (lv_drop rfl) (fun _ => rfl))
        · intro j t2 ht2
          obtain ⟨hj, rfl⟩ := of_range ht2
          have e1 : I (0 + (j : Int) * 1) = nat j := by unfold nat; congr 1; omega
          rw [e1]
          exact puts_lv
        · intro j t2 ht2
          obtain ⟨hj, rfl⟩ := of_range ht2
          refine xs_one (x_if (c := false) (rd (Imp.refl _)) (Tr.eq (tr_cmp (ev_method (cls := 175) (f := 165) (ev_sub (b := nat i) (ev_name rfl rfl) (ev_name rfl rfl) hwi fun _ _ => rfl) (evs_cons (ev_sub (b := nat j) (ev_name rfl rfl) (ev_name rfl rfl) (hl7 j hj) fun _ _ => rfl) evs_nil rfl) fn_less.fn (by rfl) (by rfl) (by rfl) rfl (by rfl) rfl rfl (by rfl))
            (ev_and2 (ev_cmp (ev_name rfl rfl) (ev_name rfl rfl) cm_ne rfl) (fun _ => ev_cmp (ev_name rfl rfl) (ev_eq (ev_sub (b := nat j) (t := NL (wy.getD j [])) (ev_name rfl rfl) (ev_name rfl rfl) (it_list (by omega) (by omega) (by rw [Int.toNat_natCast]; exact map_getD (by omega))) fun _ _ => rfl) (hnl _)) (cm_in key_int) rfl)) cm_isnotB rfl) ?_) (fun h => by cases h) (fun _ => xs_nil (lv_drop rfl)))
          have h := hck.les i hi j hj
          rw [any_nat]
          have e2 : (((i : Nat) : Int) != ((j : Nat) : Int)) = (i != j) := by rw [Bool.eq_iff_iff]; simp; omega
          rw [e2]
          have h' : lessW (fi i) (6 + se i - fi i) (fi j) (6 + se j - fi j) = (i != j && (wy.getD j []).any fun a => a == i) := h
          rw [h']; simp
    have hok8 : ∀ l ∈ ws, Lets l ∧ l ≠ [] ∧ l.length ≤ 8 := fun l hl => ⟨(hws l hl).1, (hws l hl).2.1, by have := (hws l hl).2.2; omega⟩
    refine xs_cons (Mid := LV (("counts", DI C (cntW ws)) :: ρc)) (x_assign (rd (Imp.refl _)) trivial (ev_call (ev_global (v := .ref 212) rfl rfl rfl) (evs_cons (ev_name rfl rfl) (evs_cons (ev_name rfl rfl) evs_nil rfl) rfl) (fn_counted hok8 (by omega)).fn rfl rfl rfl) rfl (fun _ => trivial) rfl puts_lv) ?_
    let ρd : Rho := ("counts", DI C (cntW ws)) :: ρc
    refine xs_cons (Mid := LV (("heights", LL ((hgtTo ps 6).map I)) :: ρd)) (x_assign (rd (Imp.refl _)) trivial (ev_call (ev_global (v := .ref 207) rfl rfl rfl) (evs_cons (ev_name rfl rfl) evs_nil rfl) (fn_heights (by show (psOf t).length = 7; simp [psOf]) (psOf_le t)).fn rfl rfl rfl) rfl (fun _ => trivial) rfl puts_lv) ?_
    let ρe : Rho := ("heights", LL ((hgtTo ps 6).map I)) :: ρd
    refine xs_cons (Mid := LV ρe) (x_if (c := false) (rd (Imp.refl _)) (tr_bool (TrA.eq (tra_or (c := false) (Tr.eq (tr_cmp (ev_name rfl rfl) (ev_dictcomp (us := (hgtTo ps 6).map fun h => (h, ((hgtTo ps 6).countP (fun a => a == h) : Nat))) (io_list (ev_name rfl rfl)) (by rfl) rfl (crd_map (k := fun h => h) (v := fun h => ((hgtTo ps 6).countP (fun a => a == h) : Nat)) (fun h hh cs L0 => ev_name rfl rfl) (fun h hh cs L0 => ev_count key_int (ev_name rfl rfl) (ev_name rfl rfl) rfl rfl rfl)) (by rw [List.length_map, hgtTo_len]; omega) (fun _ => rfl)) cm_neD rfl) ?_) fun _ => tra_or (c := false) (Tr.eq (tr_cmp (ev_call (ev_global (v := .ref 113) rfl rfl rfl) (evs_cons (ev_name rfl rfl) evs_nil rfl) fn_count_calls.fn rfl rfl rfl) ev_int cm_ne rfl) ?_) fun _ => tra_or_nil) rfl)) (fun h => by cases h) (fun _ => xs_nil (Imp.refl _))) ?_
    · have h := hck.ct1
      show (!eqD (cntW ws) (hgD ps)) = false
      rw [show eqD (cntW ws) (hgD ps) = true from h]; rfl
    · rw [show sumV (cntW ws) = 7 from hck.ct2]; rfl
    have hgr : ∀ r ∈ recsOf ws, Good r := fun r hr => by
      obtain ⟨k, hk, rfl⟩ := List.mem_map.mp hr
      have hk7 : k < 7 := by simpa using hk
      have hx : fixOf (firstOf ws) k < 7 := by
        obtain ⟨j, hj⟩ := Option.isSome_iff_exists.mp (hck.fix k hk7)
        have hj7 : j < 7 := Nat.lt_of_lt_of_eq (List.findIdx?_eq_some_iff_getElem.mp hj).1 hfl
        unfold fixOf
        rw [show (firstOf ws).findIdx? (fun a => a == k) = some j from hj, Option.getD_some]
        exact hj7
      have := hws _ (getD_mem (l := ws) (d := []) (i := fixOf (firstOf ws) k) (by omega))
      exact rcd_good this.1 this.2.2
    refine xs_cons (Mid := LV (("rows", LL ((layR (recsOf ws) []).map rowT)) :: ρe)) (x_assign (rd (Imp.refl _)) trivial (ev_call (ev_global (v := .ref 217) rfl rfl rfl) (evs_cons (ev_eq (u := LL ((recsOf ws).map TC)) (ev_comp (us := (List.range 7).map fun k => TC (rcd (ws.getD (fixOf (firstOf ws) k) []))) (io_range (a := 0) (b := 7) (c := 1) (N := 7) (ev_call (ev_builtin (v := .type "range") rfl rfl rfl rfl (by decide)) (evs_cons ev_int evs_nil rfl) fn_range1 rfl rfl rfl) rfl rfl) (by rfl) rfl (by decide) (cr_map fun k hk cs L0 => ?_) (by simp) (fun _ => rfl)) ?_) (evs_cons (ev_name rfl rfl) evs_nil rfl) rfl) (fn_rows hgr (by simp [recsOf])).fn rfl rfl rfl) rfl (fun _ => trivial) rfl puts_lv) ?_
    · have hk7 : k < 7 := by simpa using hk
      have e1 : I (0 + (k : Int) * 1) = I (k : Int) := by congr 1; omega
      obtain ⟨j, hj⟩ := Option.isSome_iff_exists.mp (hck.fix k hk7)
      have hj7 : j < 7 := Nat.lt_of_lt_of_eq (List.findIdx?_eq_some_iff_getElem.mp hj).1 hfl
      have hfx : fixOf (firstOf ws) k = j := by unfold fixOf; rw [show (firstOf ws).findIdx? (fun a => a == k) = some j from hj, Option.getD_some]
      rw [hfx]
      exact ev_sub (b := nat j) (ev_name rfl rfl) (ev_index key_int (xs := (firstOf ws).map fun (i : Nat) => (i : Int)) (x := (k : Int)) (by rw [List.length_map]; omega) (ev_eq (ev_name rfl rfl) (hnl _)) (ev_eq (ev_name rfl rfl) e1) (by rw [find_nat]; exact hj) rfl rfl rfl) (it_list (by omega) (by omega) (by rw [Int.toNat_natCast]; exact map_getD (by omega))) fun _ _ => rfl
    · unfold recsOf; rw [List.map_map]; rfl
    have hne : layR (recsOf ws) [] ≠ [] := hck.fin.1
    have heq : eqD (cntW ws) (colD (layR (recsOf ws) [])) = true := hck.fin.2
    have hlo := layTo_ok hgr (recsOf ws).length
    have hlt' : layTo (recsOf ws) (recsOf ws).length = layR (recsOf ws) [] := by unfold layTo; rw [List.take_length]
    rw [hlt'] at hlo
    have hrl : (recsOf ws).length = 7 := by simp [recsOf]
    rw [hrl] at hlo
    generalize layR (recsOf ws) [] = rows at hne heq hlo ⊢
    generalize hcw : cntW ws = cw at heq
    have hrow0 : 0 < rows.length := List.length_pos_iff.mpr hne
    have hr0 := (row_at hlo.1 0).1
    have hrn : rows.length ≤ 7 := hlo.2
    have hcol : colD rows = putsD [] ((List.range (rows.getD 0 []).length).map fun (k : Nat) => (((k : Int) + 1), ((rows.filter fun r => decide (k < r.length)).length : Int))) := rfl
    rw [hcol] at heq
    generalize hN : (rows.getD 0 []).length = N at hr0 heq
    refine xs_one (x_ret (rd (Imp.refl _)) (ev_eq (ev_cmp (ev_name rfl rfl) (ev_dictcomp (ts := (List.range N).map fun (i : Nat) => I (0 + (i : Int) * 1)) (us := (List.range N).map fun (k : Nat) => (((k : Int) + 1), ((rows.filter fun r => decide (k < r.length)).length : Int))) ?_ (by rfl) rfl ?_ ?_ (fun _ => rfl)) cm_eqD rfl) ?_))
    · refine io_range (a := 0) (b := N) (c := 1) (N := N) (ev_call (ev_builtin (v := .type "range") rfl rfl rfl rfl (by decide)) (evs_cons (ev_eq (u := I (N : Int)) (ev_call (ev_builtin (v := .builtin "len") rfl rfl rfl rfl (by decide)) (evs_cons (ev_sub (b := nat 0) (t := rowT (rows.getD 0 [])) (ev_name rfl rfl) (ev_eq ev_int rfl) (it_list (by decide) (by decide) (map_getD (f := rowT) (l := rows) (i := 0) (d := []) hrow0)) fun _ _ => rfl) evs_nil rfl) (fn_len_list ?_) rfl rfl rfl) ?_) evs_nil rfl) fn_range1 rfl rfl rfl) (small_of N (by omega)) ?_
      · rw [List.length_map, hN]; omega
      · rw [List.length_map, hN]
      · rw [rangeSize_one]; split <;> omega
    · refine crd_map (f := fun (i : Nat) => I (0 + (i : Int) * 1)) (k := fun (k : Nat) => (k : Int) + 1) (v := fun (k : Nat) => ((rows.filter fun r => decide (k < r.length)).length : Int)) (fun k hk cs L0 => ?_) (fun k hk cs L0 => ?_)
      · refine ev_eq (t := I (0 + (k : Int) * 1 + 1)) (ev_bin (a := I (0 + (k : Int) * 1)) (b := I 1) (ev_name rfl rfl) ev_int op_add) ?_
        show I (0 + (k : Int) * 1 + 1) = I ((k : Int) + 1)
        rw [Int.zero_add, Int.mul_one]
      · have e1 : I (0 + (k : Int) * 1) = I (k : Int) := by rw [Int.zero_add, Int.mul_one]
        have hfl0 : (rows.filter fun r => decide (k < r.length)).length ≤ 7 := Nat.le_trans (List.length_filter_le _ _) hrn
        refine ev_eq (t := I ((((rows.filter fun r => decide (k < r.length)).map rowT).length : Nat) : Int)) (ev_call (ev_builtin (v := .builtin "len") rfl rfl rfl rfl (by decide)) (evs_cons (ev_comp (ts := rows.map rowT) (us := (rows.filter fun r => decide (k < r.length)).map rowT) (io_list (ev_name rfl rfl)) (by rfl) rfl (by decide) (cr_filter (f := rowT) (fun r => decide (k < r.length)) (fun r hr cs L0 => ?_) (fun r hr hp cs L0 => ev_name rfl rfl)) (by rw [List.length_map]; omega) (fun _ => rfl)) evs_nil rfl) (fn_len_list (by rw [List.length_map]; omega)) rfl rfl rfl) ?_
        · have hr7 := (hlo.1 r hr).1
          have hd : decide ((k : Int) < (((r.map TC).length : Nat) : Int)) = decide (k < r.length) := by rw [List.length_map, decide_eq_decide]; omega
          exact Tr.eq (tr_cmp (ev_call (ev_builtin (v := .builtin "len") rfl rfl rfl rfl (by decide)) (evs_cons (ev_name rfl rfl) evs_nil rfl) (fn_len_list (by rw [List.length_map]; omega)) rfl rfl rfl) (ev_eq (ev_name rfl rfl) e1) cm_gt rfl) hd
        · rw [List.length_map]
    · rw [List.length_map, List.length_range]; omega
    · show B (eqD (cntW ws) _) = B true
      rw [hcw, heq]
end Mine

end
/-! P1 -/
section
set_option linter.all false
namespace Mine
/-! ranks under a strict order -/
structure Sto {α : Type} (r : α → α → Bool) : Prop where
  irr : ∀ x, r x x = false
  tr : ∀ {x y z}, r x y = true → r y z = true → r x z = true
  tot : ∀ x y, r x y = true ∨ x = y ∨ r y x = true
theorem Sto.asy {α : Type} {r : α → α → Bool} (h : Sto r) {x y : α} (a : r x y = true) : r y x = false := by
  cases b : r y x with
  | false => rfl
  | true => have := h.tr a b; rw [h.irr] at this; cases this
def rk {α : Type} (r : α → α → Bool) (ws : List α) (x : α) : Nat := (ws.filter fun o => r o x).length
abbrev Srt {α : Type} (r : α → α → Bool) (l : List α) : Prop := l.Pairwise fun a b => r a b = true
theorem rk_perm {α : Type} {r : α → α → Bool} {ws t : List α} (p : ws.Perm t) (x : α) : rk r ws x = rk r t x := (p.filter _).length_eq
theorem ins_srt {α : Type} {r : α → α → Bool} (h : Sto r) (x : α) : ∀ {t : List α}, Srt r t → x ∉ t → ∃ t', t'.Perm (x :: t) ∧ Srt r t'
  | [], _, _ => ⟨[x], .refl _, by simp⟩
  | y :: t, hs, hx => by
    obtain ⟨h1, h2⟩ := List.pairwise_cons.mp hs
    rcases h.tot x y with a | a | a
    · refine ⟨x :: y :: t, .refl _, List.pairwise_cons.mpr ⟨fun z hz => ?_, hs⟩⟩
      rcases List.mem_cons.mp hz with rfl | hz
      · exact a
      · exact h.tr a (h1 z hz)
    · exact absurd (a ▸ List.mem_cons_self) hx
    · obtain ⟨t', p, s⟩ := ins_srt h x h2 fun z => hx (.tail _ z)
      refine ⟨y :: t', (p.cons y).trans (.swap _ _ _), List.pairwise_cons.mpr ⟨fun z hz => ?_, s⟩⟩
      rcases List.mem_cons.mp (p.mem_iff.mp hz) with rfl | hz
      · exact a
      · exact h1 z hz
theorem ex_srt {α : Type} {r : α → α → Bool} (h : Sto r) : ∀ {ws : List α}, ws.Nodup → ∃ t, t.Perm ws ∧ Srt r t
  | [], _ => ⟨[], .refl _, .nil⟩
  | x :: ws, hn => by
    obtain ⟨h1, h2⟩ := List.nodup_cons.mp hn
    obtain ⟨t, p, s⟩ := ex_srt h h2
    obtain ⟨t', p', s'⟩ := ins_srt h x s fun z => h1 (p.mem_iff.mp z)
    exact ⟨t', p'.trans (p.cons x), s'⟩
theorem rk_srt {α : Type} {r : α → α → Bool} (h : Sto r) : ∀ {t : List α}, Srt r t → t.map (rk r t) = List.range t.length
  | [], _ => rfl
  | x :: t, hs => by
    obtain ⟨h1, h2⟩ := List.pairwise_cons.mp hs
    have e0 : rk r (x :: t) x = 0 := by
      unfold rk
      rw [List.length_eq_zero_iff, List.filter_eq_nil_iff]
      intro o ho
      rcases List.mem_cons.mp ho with rfl | ho
      · rw [h.irr]; simp
      · rw [h.asy (h1 o ho)]; simp
    have e1 : t.map (rk r (x :: t)) = (t.map (rk r t)).map (· + 1) := by
      rw [List.map_map]
      refine List.map_congr_left fun y hy => ?_
      show rk r (x :: t) y = rk r t y + 1
      unfold rk
      rw [List.filter_cons, if_pos (h1 y hy), List.length_cons]
    rw [List.map_cons, e0, e1, rk_srt h h2, List.length_cons, List.range_succ_eq_map]
theorem rk_at {α : Type} {r : α → α → Bool} (h : Sto r) {t : List α} (hs : Srt r t) {i : Nat} (hi : i < t.length) : rk r t t[i] = i := by
  have e := congrArg (fun l : List Nat => l[i]?) (rk_srt h hs)
  simpa [hi] using e
theorem rk_get {α : Type} {r : α → α → Bool} (h : Sto r) {t ws : List α} (p : t.Perm ws) (hs : Srt r t) {x d : α} (hx : x ∈ ws) : rk r ws x < ws.length ∧ t.getD (rk r ws x) d = x := by
  obtain ⟨i, hi, rfl⟩ := List.getElem_of_mem (p.mem_iff.mpr hx)
  rw [← rk_perm p, rk_at h hs hi, ← p.length_eq]
  exact ⟨hi, by simp [hi]⟩
theorem rk_range {α : Type} {r : α → α → Bool} (h : Sto r) {t ws : List α} (p : t.Perm ws) (hs : Srt r t) : (List.range ws.length).Perm (ws.map (rk r ws)) := by
  rw [← p.length_eq, ← rk_srt h hs, show rk r ws = rk r t from funext fun x => (rk_perm p x).symm]
  exact p.map _
theorem rk_lt {α : Type} {r : α → α → Bool} (h : Sto r) {t ws : List α} (p : t.Perm ws) (hs : Srt r t) {x y : α} (hx : x ∈ ws) (hy : y ∈ ws) : rk r ws x < rk r ws y ↔ r x y = true := by
  obtain ⟨i, hi, rfl⟩ := List.getElem_of_mem (p.mem_iff.mpr hx)
  obtain ⟨j, hj, rfl⟩ := List.getElem_of_mem (p.mem_iff.mpr hy)
  rw [← rk_perm p, ← rk_perm p, rk_at h hs hi, rk_at h hs hj]
  constructor
  · intro hij; exact List.pairwise_iff_getElem.mp hs i j hi hj hij
  · intro hr
    rcases Nat.lt_trichotomy i j with q | q | q
    · exact q
    · subst q; rw [h.irr] at hr; cases hr
    · have := List.pairwise_iff_getElem.mp hs j i hj hi q
      rw [h.asy this] at hr; cases hr
theorem rk_le {α : Type} {r : α → α → Bool} (h : Sto r) {t ws : List α} (p : t.Perm ws) (hs : Srt r t) {x y : α} (hx : x ∈ ws) (hy : y ∈ ws) : rk r ws x ≤ rk r ws y ↔ (r x y = true ∨ x = y) := by
  rw [← Nat.not_lt, rk_lt h p hs hy hx]
  rcases h.tot x y with a | a | a
  · simp [a, h.asy a]
  · subst a; simp [h.irr]
  · rw [h.asy a]
    have : x ≠ y := fun e => by subst e; rw [h.irr] at a; cases a
    simp [a, this]

/-! the order of texts -/
def lx (g : Nat → Nat → Bool) : List Nat → List Nat → Bool
  | [], [] => false
  | [], _ :: _ => true
  | _ :: _, [] => false
  | x :: a, y :: b => g x y || (x == y && lx g a b)
theorem lx_irr {g : Nat → Nat → Bool} (h : Sto g) : ∀ a, lx g a a = false
  | [] => rfl
  | x :: a => by simp [lx, h.irr, lx_irr h a]
theorem lx_tr {g : Nat → Nat → Bool} (h : Sto g) : ∀ {a b c}, lx g a b = true → lx g b c = true → lx g a c = true
  | [], [], _, h1, _ => by cases h1
  | [], _ :: _, [], _, h2 => by cases h2
  | [], _ :: _, _ :: _, _, _ => rfl
  | _ :: _, [], _, h1, _ => by cases h1
  | _ :: _, _ :: _, [], _, h2 => by cases h2
  | x :: a, y :: b, z :: c, h1, h2 => by
    simp only [lx, Bool.or_eq_true, Bool.and_eq_true, beq_iff_eq] at h1 h2 ⊢
    rcases h1 with h1 | ⟨rfl, h1⟩
    · rcases h2 with h2 | ⟨rfl, h2⟩
      · exact .inl (h.tr h1 h2)
      · exact .inl h1
    · rcases h2 with h2 | ⟨rfl, h2⟩
      · exact .inl h2
      · exact .inr ⟨rfl, lx_tr h h1 h2⟩
theorem lx_tot {g : Nat → Nat → Bool} (h : Sto g) : ∀ a b, lx g a b = true ∨ a = b ∨ lx g b a = true
  | [], [] => .inr (.inl rfl)
  | [], _ :: _ => .inl rfl
  | _ :: _, [] => .inr (.inr rfl)
  | x :: a, y :: b => by
    simp only [lx, Bool.or_eq_true, Bool.and_eq_true, beq_iff_eq]
    rcases h.tot x y with q | rfl | q
    · exact .inl (.inl q)
    · rcases lx_tot h a b with q | rfl | q
      · exact .inl (.inr ⟨rfl, q⟩)
      · exact .inr (.inl rfl)
      · exact .inr (.inr (.inr ⟨rfl, q⟩))
    · exact .inr (.inr (.inl q))
theorem lx_sto {g : Nat → Nat → Bool} (h : Sto g) : Sto (lx g) := ⟨lx_irr h, lx_tr h, lx_tot h⟩
def gUp (x y : Nat) : Bool := decide (x < y)
def gDn (x y : Nat) : Bool := decide (y < x)
theorem gUp_sto : Sto gUp := ⟨fun x => by simp [gUp], fun {x y z} => by simp only [gUp, decide_eq_true_eq]; omega, fun x y => by simp only [gUp, decide_eq_true_eq]; omega⟩
theorem gDn_sto : Sto gDn := ⟨fun x => by simp [gDn], fun {x y z} => by simp only [gDn, decide_eq_true_eq]; omega, fun x y => by simp only [gDn, decide_eq_true_eq]; omega⟩
/-- ahead on both pages: a piece of the other from its head -/
theorem lx_both : ∀ a b : List Nat, (lx gUp a b = true ∧ lx gDn a b = true) ↔ (a <+: b ∧ a ≠ b)
  | [], [] => by simp [lx]
  | [], _ :: _ => by simp [lx]
  | _ :: _, [] => by simp [lx]
  | x :: a, y :: b => by
    have ih := lx_both a b
    simp only [lx, Bool.or_eq_true, Bool.and_eq_true, beq_iff_eq, gUp, gDn, decide_eq_true_eq, List.cons_prefix_cons, ne_eq, List.cons.injEq]
    constructor
    · rintro ⟨h1 | ⟨rfl, h1⟩, h2⟩
      · omega
      · rcases h2 with h2 | ⟨_, h2⟩
        · omega
        · obtain ⟨q1, q2⟩ := ih.mp ⟨h1, h2⟩
          exact ⟨⟨rfl, q1⟩, fun e => q2 e.2⟩
    · rintro ⟨⟨rfl, q1⟩, q2⟩
      obtain ⟨h1, h2⟩ := ih.mpr ⟨q1, fun e => q2 ⟨rfl, e⟩⟩
      exact ⟨.inr ⟨rfl, h1⟩, .inr ⟨rfl, h2⟩⟩
theorem lx_pre {g : Nat → Nat → Bool} : ∀ {a b : List Nat}, a <+: b → a ≠ b → lx g a b = true
  | [], [], _, h => absurd rfl h
  | [], _ :: _, _, _ => rfl
  | _ :: _, [], h, _ => by simp at h
  | x :: a, y :: b, h, h2 => by
    rw [List.cons_prefix_cons] at h
    obtain ⟨rfl, h⟩ := h
    simp only [lx, Bool.or_eq_true, Bool.and_eq_true, beq_iff_eq]
    refine .inr ⟨?_, lx_pre h fun e => h2 (by rw [e])⟩
    first | rfl | trivial
/-- what stands between a text and one that it begins, begins with it too -/
theorem lx_btw : ∀ {a x y : List Nat}, a <+: y → (lx gUp a x = true ∨ a = x) → (lx gUp x y = true ∨ x = y) → a <+: x
  | [], _, _, _, _, _ => List.nil_prefix
  | _ :: _, _, [], h, _, _ => by simp at h
  | _ :: _, [], _ :: _, _, h, _ => by simp [lx] at h
  | u :: a, v :: x, t :: y, h, h1, h2 => by
    rw [List.cons_prefix_cons] at h ⊢
    obtain ⟨rfl, h⟩ := h
    simp only [lx, Bool.or_eq_true, Bool.and_eq_true, beq_iff_eq, gUp, decide_eq_true_eq, List.cons.injEq] at h1 h2
    have e : u = v := by omega
    subst e
    refine ⟨rfl, lx_btw h ?_ ?_⟩
    · rcases h1 with (h1 | ⟨_, h1⟩) | ⟨_, h1⟩
      · omega
      · exact .inl h1
      · exact .inr h1
    · rcases h2 with (h2 | ⟨_, h2⟩) | ⟨_, h2⟩
      · omega
      · exact .inl h2
      · exact .inr h2
theorem lx_dec : ∀ a b : List Nat, decide (a < b) = lx gUp a b
  | [], [] => by simp [lx]
  | [], _ :: _ => by simp [lx]
  | _ :: _, [] => by simp [lx]
  | x :: a, y :: b => by
    have ih := lx_dec a b
    have e : (x :: a < y :: b) ↔ (x < y ∨ x = y ∧ a < b) := List.cons_lt_cons_iff
    rw [Bool.eq_iff_iff] at ih ⊢
    simp only [decide_eq_true_eq] at ih
    simp only [lx, gUp, decide_eq_true_eq, Bool.or_eq_true, Bool.and_eq_true, beq_iff_eq, e, ih]
end Mine

end
/-! P2 -/
section
open PySem PySem.W PyProof.Rows PySem.Calls
set_option maxRecDepth 100000
set_option linter.all false
namespace Mine
def r1 (o l : Wd) : Bool := lx gUp o.reverse l.reverse
def r2 (o l : Wd) : Bool := lx gDn o.reverse l.reverse
theorem sto_rev {g : Nat → Nat → Bool} (h : Sto g) : Sto (fun o l : Wd => lx g o.reverse l.reverse) :=
  ⟨fun _ => lx_irr h _, fun {_ _ _} a b => lx_tr h a b, fun x y => by
    rcases lx_tot h x.reverse y.reverse with a | a | a
    · exact .inl a
    · exact .inr (.inl (List.reverse_inj.mp a))
    · exact .inr (.inr a)⟩
theorem r1_sto : Sto r1 := sto_rev gUp_sto
theorem r2_sto : Sto r2 := sto_rev gDn_sto
theorem ltS_lx (a b : Wd) : ltS (tS a) (tS b) = r1 a b := by
  show decide (a.reverse < b.reverse) = _
  rw [lx_dec]; rfl
theorem ltxt_eq (o l : Wd) : ltxt o l = r1 o l := by
  unfold ltxt strcoll
  rw [ltS_lx, ltS_lx]
  rcases r1_sto.tot o l with a | a | a
  · rw [a, r1_sto.asy a]; rfl
  · subst a; rw [r1_sto.irr]; rfl
  · rw [a, r1_sto.asy a]; rfl

/-! the second page -/
def v2 (a b : List Nat) : Int := if lx gDn a b then -1 else if lx gDn b a then 1 else 0
theorem cmpT_cons (x y : Nat) (l r : List Nat) : ∀ n k, cmpT (x :: l) (y :: r) n (k + 1) = cmpT l r n k
  | 0, _ => rfl
  | n + 1, k => by
    unfold cmpT
    rw [cmpT_cons x y l r n (k + 1)]
    simp only [List.getD_cons_succ]
def pad (n : Nat) (a : List Nat) : List Nat := a ++ List.replicate (n - a.length) 122
theorem v2_cons (c : Nat) (a b : List Nat) : v2 (c :: a) (c :: b) = v2 a b := by
  unfold v2; simp [lx, gDn]
theorem cmpT_pad : ∀ (n : Nat) (a b : List Nat), a.length ≤ n → b.length ≤ n → (∀ c ∈ a, c < 122) → (∀ c ∈ b, c < 122) → cmpT (pad n a) (pad n b) n 0 = v2 a b
  | 0, [], [], _, _, _, _ => rfl
  | 0, _ :: _, _, h, _, _, _ => by simp at h
  | 0, [], _ :: _, _, h, _, _ => by simp at h
  | n + 1, [], [], h1, h2, h3, h4 => by
    have e : pad (n + 1) [] = 122 :: pad n [] := rfl
    rw [e]
    unfold cmpT
    simp only [List.getD_cons_zero, Nat.lt_irrefl, if_false]
    rw [cmpT_cons, cmpT_pad n [] [] (by simp) (by simp) (by simp) (by simp)]
  | n + 1, [], y :: b, h1, h2, h3, h4 => by
    have e : pad (n + 1) [] = 122 :: pad n [] := rfl
    have e2 : pad (n + 1) (y :: b) = y :: pad n b := by simp [pad]
    have hy := h4 y (.head _)
    rw [e, e2]
    unfold cmpT
    simp only [List.getD_cons_zero]
    rw [if_neg (by omega), if_pos hy]
    rfl
  | n + 1, x :: a, [], h1, h2, h3, h4 => by
    have e : pad (n + 1) [] = 122 :: pad n [] := rfl
    have e2 : pad (n + 1) (x :: a) = x :: pad n a := by simp [pad]
    have hy := h3 x (.head _)
    rw [e, e2]
    unfold cmpT
    simp only [List.getD_cons_zero]
    rw [if_pos hy]
    rfl
  | n + 1, x :: a, y :: b, h1, h2, h3, h4 => by
    have e1 : pad (n + 1) (x :: a) = x :: pad n a := by simp [pad]
    have e2 : pad (n + 1) (y :: b) = y :: pad n b := by simp [pad]
    rw [e1, e2]
    unfold cmpT
    simp only [List.getD_cons_zero]
    rcases Nat.lt_trichotomy x y with q | q | q
    · rw [if_pos q]
      unfold v2
      have n1 : ¬ y < x := by omega
      have n2 : ¬ x = y := by omega
      simp [lx, gDn, q, n1, n2]
    · subst q
      rw [if_neg (Nat.lt_irrefl _), if_neg (Nat.lt_irrefl _), cmpT_cons, v2_cons]
      exact cmpT_pad n a b (by simpa using h1) (by simpa using h2) (fun c hc => h3 c (.tail _ hc)) (fun c hc => h4 c (.tail _ hc))
    · rw [if_neg (by omega), if_pos q]
      unfold v2
      simp [lx, gDn, q]
theorem cmpR_v2 {o l : Wd} {c : Nat} {a b : List Nat} (ho : o.reverse = c :: a) (hl : l.reverse = c :: b) (no : o.length ≤ 7) (nl : l.length ≤ 7) (lo : Lets o) (ll : Lets l) : cmpR (rcd o) (rcd l) = v2 o.reverse l.reverse := by
  have eo : o.length = a.length + 1 := by rw [← List.length_reverse, ho]; rfl
  have el : l.length = b.length + 1 := by rw [← List.length_reverse, hl]; rfl
  have e1 : rcd o = c :: pad 6 a := by unfold rcd pad; rw [ho, eo, show 7 - (a.length + 1) = 6 - a.length by omega]; rfl
  have e2 : rcd l = c :: pad 6 b := by unfold rcd pad; rw [hl, el, show 7 - (b.length + 1) = 6 - b.length by omega]; rfl
  unfold cmpR
  rw [e1, e2, cmpT_cons, cmpT_pad 6 a b (by omega) (by omega), ho, hl, v2_cons]
  · intro x hx
    have : x ∈ o := List.mem_reverse.mp (ho ▸ List.mem_cons_of_mem _ hx)
    have := lo x this; omega
  · intro x hx
    have : x ∈ l := List.mem_reverse.mp (hl ▸ List.mem_cons_of_mem _ hx)
    have := ll x this; omega
theorem v2_lt (o l : Wd) : (v2 o.reverse l.reverse == -1) = r2 o l := by
  unfold v2 r2
  split
  · rename_i h; rw [h]; rfl
  · rename_i h
    split <;> (rw [Bool.not_eq_true] at h; rw [h]; rfl)
theorem v2_gt (o l : Wd) : (v2 o.reverse l.reverse == 1) = r2 l o := by
  show _ = lx gDn l.reverse o.reverse
  unfold v2
  split
  · rename_i h
    rw [(lx_sto gDn_sto).asy h]; rfl
  · split
    · rename_i h; rw [h]; rfl
    · rename_i h; rw [Bool.not_eq_true] at h; rw [h]; rfl

/-! the words of a tree -/
structure Gd (ps lt : List Nat) : Prop where
  p : ∀ k, k < 7 → ps.getD k 0 ≤ k - 1
  l : ∀ i, i < 7 → 97 ≤ lt.getD i 0 ∧ lt.getD i 0 ≤ 103
  i : ∀ i, i < 7 → ∀ j, j < 7 → lt.getD i 0 = lt.getD j 0 → i = j
theorem ltOf_eq (t : List Int) {i : Nat} (h : i < 7) : (ltOf t).getD i 0 = 97 + idxOf (t.getD 0 0) i := by
  unfold ltOf
  rw [List.getD_eq_getElem?_getD, List.getElem?_map, List.getElem?_range h]; rfl
theorem inj7 : ∀ z, z < 6 → ∀ s, s < 7 → ∀ i, i < 7 → ∀ j, j < 7 → (i * (1 + z) + s) % 7 = (j * (1 + z) + s) % 7 → i = j := by decide +kernel
theorem gd_of (t : List Int) : Gd (psOf t) (ltOf t) where
  p := psOf_le t
  l := fun i hi => ltOf_at t hi
  i := fun i hi j hj e => by
    rw [ltOf_eq t hi, ltOf_eq t hj] at e
    have e' : idxOf (t.getD 0 0) i = idxOf (t.getD 0 0) j := by omega
    generalize t.getD 0 0 = a at e'
    have h1 := idxOf_nat a i
    have h2 := idxOf_nat a j
    rw [e'] at h1
    rw [Int.fmod_eq_emod_of_nonneg _ (by decide)] at h1 h2
    rw [Int.fmod_eq_emod_of_nonneg _ (by decide)] at h1 h2
    have hz := Int.emod_nonneg a (show (6 : Int) ≠ 0 by decide)
    have hz2 := Int.emod_lt_of_pos a (show (0 : Int) < 6 by decide)
    generalize a.fdiv 6 = s at h1 h2
    obtain ⟨z, hz'⟩ := Int.eq_ofNat_of_zero_le hz
    rw [hz'] at h1 h2
    have hs := Int.emod_nonneg s (show (7 : Int) ≠ 0 by decide)
    have hs2 := Int.emod_lt_of_pos s (show (0 : Int) < 7 by decide)
    obtain ⟨u, hu⟩ := Int.eq_ofNat_of_zero_le hs
    refine inj7 z (by omega) u (by omega) i hi j hj ?_
    have k : ∀ m : Nat, (((m * (1 + z) + u) % 7 : Nat) : Int) = ((m : Int) * (1 + (z : Int)) + s) % 7 := fun m => by
      rw [Int.natCast_emod, Int.natCast_add, Int.natCast_mul, Int.natCast_add, ← hu]
      simp
    have := k i
    have := k j
    have e3 : ((i : Int) * (1 + (z : Int)) + s) % 7 = ((j : Int) * (1 + (z : Int)) + s) % 7 := h1.symm.trans h2
    omega
theorem ways_up {ps : List Nat} (hp : ∀ k, k < 7 → ps.getD k 0 ≤ k - 1) : ∀ i, i < 7 → ∀ w ∈ waysTo ps i, w = [0] ∨ ∃ k u, w = k :: u ∧ u ∈ waysTo ps i
  | 0, _, w, h => by simp [waysTo] at h; exact .inl h
  | i + 1, hi, w, h => by
    rw [waysTo, List.mem_append] at h
    rcases h with h | h
    · rcases ways_up hp i (by omega) w h with h | ⟨k, u, h1, h2⟩
      · exact .inl h
      · exact .inr ⟨k, u, h1, by rw [waysTo]; exact List.mem_append_left _ h2⟩
    · rw [List.mem_singleton] at h
      have hl : ps.getD (i + 1) 0 < (waysTo ps i).length := by rw [waysTo_len]; have := hp (i + 1) hi; omega
      exact .inr ⟨_, _, h, by rw [waysTo]; exact List.mem_append_left _ (getD_mem hl)⟩
theorem ways_heads (ps : List Nat) : ∀ i, (waysTo ps i).map (fun w => w.headD 0) = List.range (i + 1)
  | 0 => rfl
  | i + 1 => by rw [waysTo, List.map_append, ways_heads ps i, List.range_succ (n := i + 1)]; rfl
theorem ways_end {ps : List Nat} (hp : ∀ k, k < 7 → ps.getD k 0 ≤ k - 1) : ∀ i, i < 7 → ∀ w ∈ waysTo ps i, ∃ u, w = u ++ [0]
  | 0, _, w, h => by simp [waysTo] at h; exact ⟨[], h⟩
  | i + 1, hi, w, h => by
    rw [waysTo, List.mem_append] at h
    rcases h with h | h
    · exact ways_end hp i (by omega) w h
    · rw [List.mem_singleton] at h
      have hl : ps.getD (i + 1) 0 < (waysTo ps i).length := by rw [waysTo_len]; have := hp (i + 1) hi; omega
      obtain ⟨u, hu⟩ := ways_end hp i (by omega) _ (getD_mem (d := []) hl)
      exact ⟨(i + 1) :: u, by rw [h, hu]; rfl⟩
variable {ps lt : List Nat}
theorem Gd.len (h : Gd ps lt) : (wordsOf ps lt).length = 7 := by unfold wordsOf; rw [List.length_map, waysTo_len]
theorem Gd.ok (h : Gd ps lt) : ∀ l ∈ wordsOf ps lt, Lets l ∧ l ≠ [] ∧ l.length ≤ 7 := by
  intro l hl
  obtain ⟨way, hw, rfl⟩ := List.mem_map.mp hl
  refine ⟨fun c hc => ?_, ?_, ?_⟩
  · obtain ⟨i, hi, rfl⟩ := List.mem_map.mp hc
    have := ways_in ps 6 way hw i hi
    exact h.l i (by omega)
  · have := ways_ne ps 6 way hw
    simpa [wrd] using this
  · have := waysTo_each ps 6 way hw
    simpa [wrd] using this
theorem Gd.nodup (h : Gd ps lt) : (wordsOf ps lt).Nodup := by
  have e : ((waysTo ps 6).map fun w => w.headD 0).Nodup := by rw [ways_heads]; exact List.nodup_range
  have e1 := List.pairwise_map.mp e
  refine List.pairwise_map.mpr (List.Pairwise.imp_of_mem (fun {a b} ha hb hne heq => hne ?_) e1)
  have n1 := ways_ne ps 6 a ha
  have n2 := ways_ne ps 6 b hb
  have k1 := ways_in ps 6 a ha
  have k2 := ways_in ps 6 b hb
  match a, b, n1, n2 with
  | x :: a, y :: b, _, _ =>
    have q : lt.getD x 0 = lt.getD y 0 := (List.cons.inj heq).1
    have := k1 x (.head _)
    have := k2 y (.head _)
    exact h.i x (by omega) y (by omega) q
theorem Gd.first (h : Gd ps lt) : ∀ l ∈ wordsOf ps lt, ∃ a, l.reverse = lt.getD 0 0 :: a := by
  intro l hl
  obtain ⟨way, hw, rfl⟩ := List.mem_map.mp hl
  obtain ⟨u, rfl⟩ := ways_end h.p 6 (by omega) way hw
  refine ⟨(wrd lt u).reverse, ?_⟩
  simp [wrd]
theorem Gd.above (h : Gd ps lt) : ∀ l ∈ wordsOf ps lt, l = [lt.getD 0 0] ∨ ∃ c u, l = c :: u ∧ u ∈ wordsOf ps lt := by
  intro l hl
  obtain ⟨way, hw, rfl⟩ := List.mem_map.mp hl
  rcases ways_up h.p 6 (by omega) way hw with rfl | ⟨k, u, rfl, hu⟩
  · exact .inl rfl
  · exact .inr ⟨_, _, rfl, List.mem_map_of_mem hu⟩
theorem Gd.cmp (h : Gd ps lt) {o l : Wd} (ho : o ∈ wordsOf ps lt) (hl : l ∈ wordsOf ps lt) : cmpR (rcd o) (rcd l) = v2 o.reverse l.reverse := by
  obtain ⟨a, ha⟩ := h.first o ho
  obtain ⟨b, hb⟩ := h.first l hl
  exact cmpR_v2 ha hb (h.ok o ho).2.2 (h.ok l hl).2.2 (h.ok o ho).1 (h.ok l hl).1
theorem Gd.cmp_lt (h : Gd ps lt) {o l : Wd} (ho : o ∈ wordsOf ps lt) (hl : l ∈ wordsOf ps lt) : (cmpR (rcd o) (rcd l) == -1) = r2 o l := by rw [h.cmp ho hl, v2_lt]
theorem Gd.cmp_gt (h : Gd ps lt) {o l : Wd} (ho : o ∈ wordsOf ps lt) (hl : l ∈ wordsOf ps lt) : (cmpR (rcd o) (rcd l) == 1) = r2 l o := by rw [h.cmp ho hl, v2_gt]
theorem firstOf_rk (ws : List Wd) : firstOf ws = ws.map (rk r1 ws) := by
  unfold firstOf rk
  refine List.map_congr_left fun l _ => ?_
  congr 2; funext o; exact ltxt_eq o l
theorem Gd.second (h : Gd ps lt) : secondOf (wordsOf ps lt) = (wordsOf ps lt).map (rk r2 (wordsOf ps lt)) := by
  unfold secondOf rk
  refine List.map_congr_left fun l hl => ?_
  congr 1
  exact List.filter_congr fun o ho => h.cmp_lt ho hl
end Mine

end
/-! P3 -/
section
open PySem PySem.W PyProof.Rows PySem.Calls
set_option maxRecDepth 100000
set_option linter.all false
namespace Mine
variable {ps lt : List Nat}
theorem Gd.fst (h : Gd ps lt) : (List.range 7).Perm (firstOf (wordsOf ps lt)) := by
  obtain ⟨t, p, s⟩ := ex_srt r1_sto h.nodup
  rw [firstOf_rk]
  have := rk_range r1_sto p s
  rw [h.len] at this; exact this
theorem Gd.snd (h : Gd ps lt) : (List.range 7).Perm (secondOf (wordsOf ps lt)) := by
  obtain ⟨t, p, s⟩ := ex_srt r2_sto h.nodup
  rw [h.second]
  have := rk_range r2_sto p s
  rw [h.len] at this; exact this
theorem rising_pw : ∀ (r : List Str) (p : Str), risingS p r = true → (p :: r).Pairwise fun a b => ltS b a = false
  | [], _, _ => by simp
  | x :: r, p, h => by
    simp only [risingS, Bool.and_eq_true, Bool.not_eq_true'] at h
    have hp : ltS x p = false := by unfold ltS; rw [lt_meets]; exact h.1
    have ih := rising_pw r x h.2
    obtain ⟨i1, i2⟩ := List.pairwise_cons.mp ih
    refine List.pairwise_cons.mpr ⟨fun y hy => ?_, ih⟩
    rcases List.mem_cons.mp hy with rfl | hy
    · exact hp
    · have h2 := i1 y hy
      have c : ∀ a b : Str, ltS a b = lx gUp a.cps.toList b.cps.toList := fun a b => lx_dec _ _
      rw [c] at hp h2 ⊢
      have st := lx_sto gUp_sto
      cases q : lx gUp y.cps.toList p.cps.toList with
      | false => rfl
      | true =>
        rcases st.tot p.cps.toList x.cps.toList with z | z | z
        · rw [st.tr q z] at h2; cases h2
        · rw [← z, q] at h2; cases h2
        · rw [z] at hp; cases hp
theorem sorted_pw : ∀ {l : List Str}, sortedS l = true → l.Pairwise fun a b => ltS b a = false
  | [], _ => .nil
  | x :: r, h => rising_pw r x h
theorem Gd.srt (h : Gd ps lt) : ∃ srt : List Wd, srt.Perm (wordsOf ps lt) ∧ Srt r1 srt ∧ (∀ ss' : List Str, ss'.Perm ((wordsOf ps lt).map tS) → sortedS ss' = true → ss' = srt.map tS) := by
  obtain ⟨t, p, s⟩ := ex_srt r1_sto h.nodup
  refine ⟨t, p, s, fun ss' hp hs => ?_⟩
  have hp2 : ss'.Perm (t.map tS) := hp.trans (p.map tS).symm
  refine List.Perm.eq_of_pairwise (le := fun a b => ltS b a = false) (fun a b _ _ q1 q2 => ?_) (sorted_pw hs) ?_ hp2
  · have c : ∀ a b : Str, ltS a b = lx gUp a.cps.toList b.cps.toList := fun a b => lx_dec _ _
    rw [c] at q1 q2
    rcases lx_tot gUp_sto a.cps.toList b.cps.toList with z | z | z
    · rw [z] at q2; cases q2
    · exact str_ext z
    · rw [z] at q1; cases q1
  · exact List.pairwise_map.mpr (s.imp fun {a b} q => by rw [ltS_lx]; exact r1_sto.asy q)
theorem Gd.les (h : Gd ps lt) (hw : ∀ i, i < 7 → ∀ j, j < 7 → (((wordsOf ps lt).getD i []).reverse <+: ((wordsOf ps lt).getD j []).reverse ↔ i ∈ (waysTo ps 6).getD j [])) : ∀ i, i < 7 → ∀ j, j < 7 → lessW ((firstOf (wordsOf ps lt)).getD i 0) (6 + (secondOf (wordsOf ps lt)).getD i 0 - (firstOf (wordsOf ps lt)).getD i 0) ((firstOf (wordsOf ps lt)).getD j 0) (6 + (secondOf (wordsOf ps lt)).getD j 0 - (firstOf (wordsOf ps lt)).getD j 0) =
    (i != j && ((waysTo ps 6).getD j []).any fun a => a == i) := by
  intro i hi j hj
  obtain ⟨t1, p1, s1⟩ := ex_srt r1_sto h.nodup
  obtain ⟨t2, p2, s2⟩ := ex_srt r2_sto h.nodup
  have hl := h.len
  have nd := h.nodup
  have fm : ∀ k, k < 7 → (firstOf (wordsOf ps lt)).getD k 0 < 7 := fun k hk => by
    have : (firstOf (wordsOf ps lt)).getD k 0 ∈ firstOf (wordsOf ps lt) := getD_mem (by rw [h.fst.length_eq.symm]; simpa using hk)
    simpa using h.fst.mem_iff.mpr this
  have e1 : ∀ k, k < 7 → (firstOf (wordsOf ps lt)).getD k 0 = rk r1 (wordsOf ps lt) ((wordsOf ps lt).getD k []) := fun k hk => by
    rw [firstOf_rk]
    have : k < (wordsOf ps lt).length := by omega
    simp [this]
  have e2 : ∀ k, k < 7 → (secondOf (wordsOf ps lt)).getD k 0 = rk r2 (wordsOf ps lt) ((wordsOf ps lt).getD k []) := fun k hk => by
    rw [h.second]
    have : k < (wordsOf ps lt).length := by omega
    simp [this]
  have m : ∀ k, k < 7 → (wordsOf ps lt).getD k [] ∈ wordsOf ps lt := fun k hk => getD_mem (by omega)
  have ne : (wordsOf ps lt).getD i [] = (wordsOf ps lt).getD j [] ↔ i = j := by
    constructor
    · intro e
      have hi' : i < (wordsOf ps lt).length := by omega
      have hj' : j < (wordsOf ps lt).length := by omega
      have : (wordsOf ps lt)[i] = (wordsOf ps lt)[j] := by simpa [hi', hj'] using e
      exact (List.getElem_inj nd).mp this
    · rintro rfl; rfl
  have k1 := rk_le r1_sto p1 s1 (m i hi) (m j hj)
  have k2 := rk_lt r2_sto p2 s2 (m i hi) (m j hj)
  have k3 := hw i hi j hj
  have f1 := fm i hi
  have f2 := fm j hj
  rw [← e1 i hi, ← e1 j hj] at k1
  rw [← e2 i hi, ← e2 j hj] at k2
  generalize (firstOf (wordsOf ps lt)).getD i 0 = a at *
  generalize (firstOf (wordsOf ps lt)).getD j 0 = b at *
  generalize (secondOf (wordsOf ps lt)).getD i 0 = c at *
  generalize (secondOf (wordsOf ps lt)).getD j 0 = d at *
  have main : (c < d ∧ a ≤ b) ↔ (i ≠ j ∧ i ∈ (waysTo ps 6).getD j []) := by
    rw [k1, k2, ← k3, ne_eq i j, ← not_congr ne]
    have both := lx_both ((wordsOf ps lt).getD i []).reverse ((wordsOf ps lt).getD j []).reverse
    constructor
    · rintro ⟨q1, q2⟩
      rcases q2 with q2 | q2
      · obtain ⟨z1, z2⟩ := both.mp ⟨q2, q1⟩
        exact ⟨fun e => z2 (by rw [e]), z1⟩
      · rw [q2, r2_sto.irr] at q1; cases q1
    · rintro ⟨q1, q2⟩
      obtain ⟨z1, z2⟩ := both.mpr ⟨q2, fun e => q1 (List.reverse_inj.mp e)⟩
      exact ⟨z2, .inl z1⟩
  rw [Bool.eq_iff_iff]
  simp only [Bool.and_eq_true, bne_iff_ne, ne_eq, List.any_eq_true, beq_iff_eq, exists_eq_right]
  rw [← ne_eq, ← main]
  unfold lessW
  have q1 : a + (6 + c - a) = 6 + c := by omega
  have q2 : b + (6 + d - b) = 6 + d := by omega
  rw [q1, q2]
  by_cases q : c < d
  · rw [if_neg (by omega)]; simp [q]
  · rw [if_pos (by omega)]; simp [q]
/-- the records in the order of the first page -/
theorem Gd.recs (h : Gd ps lt) {t : List Wd} (p : t.Perm (wordsOf ps lt)) (s : Srt r1 t) : (∀ k, k < 7 → ((firstOf (wordsOf ps lt)).findIdx? fun a => a == k).isSome = true) ∧ recsOf (wordsOf ps lt) = t.map rcd ∧ (firstOf (wordsOf ps lt)).map (fun i => t.getD i []) = wordsOf ps lt := by
  have hl := h.len
  have tl : t.length = 7 := by rw [p.length_eq, hl]
  have fx : ∀ k, k < 7 → ((firstOf (wordsOf ps lt)).findIdx? fun a => a == k).isSome = true := fun k hk => by
    rw [List.findIdx?_isSome, List.any_eq_true]
    exact ⟨k, h.fst.mem_iff.mp (List.mem_range.mpr hk), by simp⟩
  refine ⟨fx, ?_, ?_⟩
  · unfold recsOf
    apply List.ext_getElem (by simp [tl])
    intro k hk1 hk2
    have hk : k < 7 := by simpa using hk1
    simp only [List.getElem_map, List.getElem_range]
    congr 1
    obtain ⟨j, hj⟩ := Option.isSome_iff_exists.mp (fx k hk)
    obtain ⟨q1, q2, _⟩ := List.findIdx?_eq_some_iff_getElem.mp hj
    have ej : fixOf (firstOf (wordsOf ps lt)) k = j := by unfold fixOf; rw [hj]; rfl
    rw [ej]
    have hj7 : j < (wordsOf ps lt).length := by rw [firstOf_rk, List.length_map] at q1; exact q1
    have q3 : rk r1 (wordsOf ps lt) (wordsOf ps lt)[j] = k := by
      have : (firstOf (wordsOf ps lt))[j] = rk r1 (wordsOf ps lt) (wordsOf ps lt)[j] := by simp [firstOf_rk]
      exact this.symm.trans (eq_of_beq q2)
    have q4 := (rk_get r1_sto p s (d := []) (List.getElem_mem hj7)).2
    rw [q3] at q4
    have : (wordsOf ps lt).getD j [] = (wordsOf ps lt)[j] := by simp [hj7]
    rw [this, ← q4]
    have hkt : k < t.length := by omega
    simp [hkt]
  · rw [firstOf_rk, List.map_map]
    conv => rhs; rw [← List.map_id (wordsOf ps lt)]
    exact List.map_congr_left fun x hx => (rk_get r1_sto p s (d := []) hx).2
end Mine

end
/-! P4 -/
section
open PySem PySem.W PyProof.Rows PySem.Calls
set_option maxRecDepth 100000
set_option linter.all false
namespace Mine
variable {ps lt : List Nat}
theorem ways_get (ps : List Nat) : ∀ w ∈ waysTo ps 6, (waysTo ps 6).getD (w.headD 0) [] = w := by
  intro w hw
  obtain ⟨i, hi, rfl⟩ := List.getElem_of_mem hw
  have e := congrArg (fun l : List Nat => l[i]?) (ways_heads ps 6)
  have hi7 : i < 7 := by rw [waysTo_len] at hi; exact hi
  have e1 : ((waysTo ps 6)[i]'hi).headD 0 = i := by
    have e2 : ((waysTo ps 6).map fun w => w.headD 0)[i]? = some (((waysTo ps 6)[i]'hi).headD 0) := by simp [hi]
    have e3 : (List.range (6 + 1))[i]? = some i := by simp [hi7]
    have := e2.symm.trans (e.trans e3)
    exact Option.some.inj this
  rw [e1]; simp [hi]
theorem ways_at (ps : List Nat) {i : Nat} (hi : i < 7) : ∃ u, (waysTo ps 6).getD i [] = i :: u := by
  have hm : (waysTo ps 6).getD i [] ∈ waysTo ps 6 := getD_mem (by rw [waysTo_len]; exact hi)
  have hl : i < (waysTo ps 6).length := by rw [waysTo_len]; exact hi
  have e := congrArg (fun l : List Nat => l[i]?) (ways_heads ps 6)
  have e2 : ((waysTo ps 6).map fun w => w.headD 0)[i]? = some (((waysTo ps 6).getD i []).headD 0) := by simp [hl]
  have e3 : (List.range (6 + 1))[i]? = some i := by simp [hi]
  have e4 := Option.some.inj (e2.symm.trans (e.trans e3))
  have n := ways_ne ps 6 _ hm
  cases q : (waysTo ps 6).getD i [] with
  | nil => exact absurd q n
  | cons x u => rw [q] at e4; exact ⟨u, by rw [show x = i from e4]⟩
theorem Gd.lad (h : Gd ps lt) : ∀ way ∈ waysTo ps 6, (List.range way.length).map (fun i => way.drop i) = way.map fun i => (waysTo ps 6).getD i [] := by
  have key : ∀ n, ∀ way ∈ waysTo ps 6, way.length = n → (List.range way.length).map (fun i => way.drop i) = way.map fun i => (waysTo ps 6).getD i [] := by
    intro n
    induction n with
    | zero =>
      intro way hw e
      exact absurd (List.length_eq_zero_iff.mp e) (ways_ne ps 6 way hw)
    | succ n ih =>
      intro way hw e
      rcases ways_up h.p 6 (by omega) way hw with q | ⟨k, u, q, hu⟩
      · subst q
        have := ways_get ps _ hw
        simp only [List.headD_cons] at this
        show [[0]] = [(waysTo ps 6).getD 0 []]
        rw [this]
      · subst q
        have e1 := ways_get ps _ hw
        simp only [List.headD_cons] at e1
        have e2 := ih u hu (by simpa using e)
        rw [List.length_cons, List.range_succ_eq_map, List.map_cons, List.map_map, List.map_cons, e1, ← e2]
        rfl
  exact fun way hw => key _ way hw rfl
theorem Gd.mem_sfx (h : Gd ps lt) : ∀ n, ∀ w ∈ waysTo ps 6, w.length = n → ∀ i, i ∈ w → (waysTo ps 6).getD i [] <:+ w := by
  intro n
  induction n with
  | zero => intro w hw e i hi; rw [List.length_eq_zero_iff.mp e] at hi; cases hi
  | succ n ih =>
    intro w hw e i hi
    have e1 := ways_get ps _ hw
    rcases ways_up h.p 6 (by omega) w hw with q | ⟨k, u, q, hu⟩
    · subst q
      have : i = 0 := by simpa using hi
      subst this
      simp only [List.headD_cons] at e1
      rw [e1]; exact List.suffix_refl _
    · subst q
      simp only [List.headD_cons] at e1
      rcases List.mem_cons.mp hi with rfl | hi
      · rw [e1]; exact List.suffix_refl _
      · exact (ih u hu (by simpa using e) i hi).trans (List.suffix_cons k u)
theorem words_at {i : Nat} (hi : i < 7) : (wordsOf ps lt).getD i [] = wrd lt ((waysTo ps 6).getD i []) := by
  have hl : i < (waysTo ps 6).length := by rw [waysTo_len]; exact hi
  unfold wordsOf
  simp [hl]
theorem Gd.pre (h : Gd ps lt) : ∀ i, i < 7 → ∀ j, j < 7 → (((wordsOf ps lt).getD i []).reverse <+: ((wordsOf ps lt).getD j []).reverse ↔ i ∈ (waysTo ps 6).getD j []) := by
  intro i hi j hj
  have hm : (waysTo ps 6).getD j [] ∈ waysTo ps 6 := getD_mem (by rw [waysTo_len]; exact hj)
  rw [List.reverse_prefix, words_at hi, words_at hj]
  obtain ⟨u, hu⟩ := ways_at ps hi
  constructor
  · intro q
    rw [hu] at q
    have : lt.getD i 0 ∈ wrd lt ((waysTo ps 6).getD j []) := q.subset (.head _)
    obtain ⟨k, hk, e⟩ := List.mem_map.mp this
    have hk7 := ways_in ps 6 _ hm k hk
    have := h.i k (by omega) i hi e
    rw [← this]; exact hk
  · intro q
    have := h.mem_sfx _ _ hm rfl i q
    exact this.map _
/-- the texts in order: each has one sign more than a piece of the one before -/
structure Tx (x : Nat → List Nat) : Prop where
  s : ∀ i j, i < j → j < 7 → lx gUp (x i) (x j) = true
  z : (x 0).length = 1
  p : ∀ i, i + 1 < 7 → ∃ c u, x (i + 1) = u ++ [c] ∧ u ≠ [] ∧ u <+: x i
theorem Tx.anc {x : Nat → List Nat} (h : Tx x) {i : Nat} : ∀ d, i + 1 + d < 7 → (x i <+: x (i + 1 + d) ↔ ∀ m, m ≤ d → (x i).length < (x (i + 1 + m)).length) := by
  intro d
  induction d with
  | zero =>
    intro hd
    obtain ⟨c, u, e1, e2, e3⟩ := h.p i (by omega)
    rw [show i + 1 + 0 = i + 1 from rfl]
    constructor
    · intro q m hm
      have : m = 0 := by omega
      subst this
      have hne : x i ≠ x (i + 1) := fun e => by have := h.s i (i + 1) (by omega) (by omega); rw [e, lx_irr gUp_sto] at this; cases this
      rcases Nat.lt_or_ge (x i).length (x (i + 1)).length with z | z
      · exact z
      · exact absurd (q.eq_of_length_le z) hne
    · intro q
      have q := q 0 (Nat.le_refl _)
      rw [show i + 1 + 0 = i + 1 from rfl, e1, List.length_append, List.length_singleton] at q
      have := e3.eq_of_length_le (by omega)
      rw [e1, this]; exact List.prefix_append _ _
  | succ d ih =>
    intro hd
    have ih := ih (by omega)
    obtain ⟨c, u, e1, e2, e3⟩ := h.p (i + 1 + d) (by omega)
    have en : i + 1 + (d + 1) = i + 1 + d + 1 := by omega
    constructor
    · intro q
      have hb : x i <+: x (i + 1 + d) := lx_btw q (.inl (h.s _ _ (by omega) (by omega))) (.inl (h.s _ _ (by omega) (by omega)))
      have q1 := ih.mp hb
      intro m hm
      rcases Nat.lt_or_ge m (d + 1) with z | z
      · exact q1 m (by omega)
      · have : m = d + 1 := by omega
        subst this
        have hne : x i ≠ x (i + 1 + (d + 1)) := fun e => by have := h.s i (i + 1 + (d + 1)) (by omega) (by omega); rw [← e, lx_irr gUp_sto] at this; cases this
        rcases Nat.lt_or_ge (x i).length (x (i + 1 + (d + 1))).length with z | z
        · exact z
        · exact absurd (q.eq_of_length_le z) hne
    · intro q
      have q1 : x i <+: x (i + 1 + d) := ih.mpr fun m hm => q m (by omega)
      have q2 := q (d + 1) (Nat.le_refl _)
      rw [en, e1] at q2 ⊢
      rw [List.length_append, List.length_singleton] at q2
      exact (List.prefix_of_prefix_length_le q1 e3 (by omega)).trans (List.prefix_append _ _)
theorem Gd.tx (h : Gd ps lt) {t : List Wd} (p : t.Perm (wordsOf ps lt)) (s : Srt r1 t) : Tx fun i => (t.getD i []).reverse := by
  have tl : t.length = 7 := by rw [p.length_eq, h.len]
  have g : ∀ {i} (hi : i < 7), t.getD i [] = t[i]'(by omega) := fun {i} hi => by
    have : i < t.length := by omega
    simp [this]
  have sr : ∀ i j, i < j → j < 7 → r1 (t.getD i []) (t.getD j []) = true := fun i j hij hj => by
    rw [g (show i < 7 by omega), g hj]
    exact List.pairwise_iff_getElem.mp s i j (by omega) (by omega) hij
  have tm : ∀ i, i < 7 → t.getD i [] ∈ wordsOf ps lt := fun i hi => p.mem_iff.mp (getD_mem (by omega))
  have root : [lt.getD 0 0] ∈ t := p.mem_iff.mpr (by
    have e := words_at (ps := ps) (lt := lt) (show 0 < 7 by omega)
    have hw : (waysTo ps 6).getD 0 [] = [0] := by
      obtain ⟨u, hu⟩ := ways_at ps (show 0 < 7 by omega)
      have hm : (waysTo ps 6).getD 0 [] ∈ waysTo ps 6 := getD_mem (by rw [waysTo_len]; omega)
      have : ([0] : List Nat) ∈ waysTo ps 6 := by
        have : ∀ i, ([0] : List Nat) ∈ waysTo ps i := fun i => by
          induction i with
          | zero => simp [waysTo]
          | succ i ih => rw [waysTo]; exact List.mem_append_left _ ih
        exact this 6
      have := ways_get ps _ this
      simpa using this
    have hm : (wordsOf ps lt).getD 0 [] ∈ wordsOf ps lt := getD_mem (by rw [h.len]; omega)
    rw [e, hw] at hm
    exact hm)
  have r0 : t.getD 0 [] = [lt.getD 0 0] := by
    obtain ⟨m, hm, e⟩ := List.getElem_of_mem root
    rcases Nat.eq_zero_or_pos m with z | z
    · subst z; rw [g (by omega)]; exact e
    · have q := sr 0 m z (by omega)
      rw [g (show m < 7 by omega), e] at q
      obtain ⟨a, ha⟩ := h.first _ (tm 0 (by omega))
      unfold r1 at q
      rw [ha] at q
      have : ([lt.getD 0 0] : List Nat).reverse = [lt.getD 0 0] := rfl
      rw [this] at q
      cases a <;> simp [lx, gUp] at q
  refine ⟨sr, by simp only [r0]; rfl, fun i hi => ?_⟩
  have hm := tm (i + 1) hi
  rcases h.above _ hm with q | ⟨c, u, q, hu⟩
  · have := sr 0 (i + 1) (by omega) hi
    rw [q, r0, r1_sto.irr] at this; cases this
  · have hn := (h.ok u hu).2.1
    refine ⟨c, u.reverse, by simp only [q, List.reverse_cons], by simpa using hn, ?_⟩
    obtain ⟨m, hmt, e⟩ := List.getElem_of_mem (p.mem_iff.mpr hu)
    have hm7 : m < 7 := by omega
    have e' : t.getD m [] = u := by rw [g hm7]; exact e
    have pre : u.reverse <+: (t.getD (i + 1) []).reverse := by rw [q, List.reverse_cons]; exact List.prefix_append _ _
    have hne : u.reverse ≠ (t.getD (i + 1) []).reverse := fun z => by
      have := congrArg List.length z
      rw [q] at this; simp at this
    have hlt : r1 (t.getD m []) (t.getD (i + 1) []) = true := by rw [e']; exact lx_pre pre hne
    have hmi : m ≤ i := by
      rcases Nat.lt_or_ge i m with z | z
      · rcases Nat.lt_or_ge (i + 1) m with y | y
        · have := sr (i + 1) m y hm7
          rw [r1_sto.asy hlt] at this; cases this
        · have : m = i + 1 := by omega
          rw [this, r1_sto.irr] at hlt; cases hlt
      · exact z
    refine lx_btw pre ?_ (.inl (sr i (i + 1) (by omega) hi))
    rcases Nat.lt_or_ge m i with z | z
    · left; have := sr m i z (by omega); rw [e'] at this; exact this
    · right; have : m = i := by omega
      rw [← e', this]
end Mine

end
/-! P5 -/
section
open PySem PySem.W PyProof.Rows PySem.Calls
set_option maxRecDepth 100000
set_option linter.all false
namespace Mine
/-! rows over any signs -/
section
variable {α β : Type}
def colG (rows : List (List α)) : KV := putsD [] ((List.range (rows.getD 0 []).length).map fun (k : Nat) => (((k : Int) + 1), ((rows.filter fun r => decide (k < r.length)).length : Int)))
theorem map_getD0 {f : α → β} (l : List (List α)) (k : Nat) : (l.map (List.map f)).getD k [] = (l.getD k []).map f := by
  simp only [List.getD_eq_getElem?_getD, List.getElem?_map]
  cases l[k]? <;> rfl
end
section
variable {α β : Type} [BEq α] [BEq β]
def stepG (q : α → α → Bool) (rows : List (List α)) (k : Nat) (p : α) : List (List α) × Option α :=
  let rows1 := if k = rows.length then rows ++ [[]] else rows
  let row := rows1.getD k []
  match row.filter (fun one => q one p) with
  | [] => (rows1.set k (row ++ [p]), none)
  | b :: _ => (rows1.set k (row.set ((row.findIdx? (fun a => a == b)).getD 0) p), some b)
def rstG (q : α → α → Bool) (rows : List (List α)) (p : α) : Nat → List (List α) × Option α
  | 0 => (rows, some p)
  | k + 1 => match rstG q rows p k with
    | (r, some x) => stepG q r k x
    | x => x
def layG (q : α → α → Bool) : List α → List (List α) → List (List α)
  | [], rows => rows
  | r :: rs, rows => layG q rs (rstG q rows r (rows.length + 1)).1
variable {f : α → β} {q : α → α → Bool} {q' : β → β → Bool} (hq : ∀ a b, q' (f a) (f b) = q a b) (hb : ∀ a b, (f a == f b) = (a == b))
include hq hb
theorem stepG_map (rows : List (List α)) (k : Nat) (p : α) : stepG q' (rows.map (List.map f)) k (f p) = ((stepG q rows k p).1.map (List.map f), (stepG q rows k p).2.map f) := by
  unfold stepG
  have e1 : (if k = (rows.map (List.map f)).length then rows.map (List.map f) ++ [[]] else rows.map (List.map f)) = (if k = rows.length then rows ++ [[]] else rows).map (List.map f) := by
    rw [List.length_map]; split <;> simp
  simp only [e1, map_getD0]
  generalize (if k = rows.length then rows ++ [[]] else rows) = r1
  generalize r1.getD k [] = row
  have e2 : (row.map f).filter (fun one => q' one (f p)) = (row.filter fun one => q one p).map f := by
    rw [List.filter_map]
    congr 1
    exact List.filter_congr fun a _ => hq a p
  rw [e2]
  cases row.filter fun one => q one p with
  | nil => simp [List.map_set]
  | cons b r =>
    have e3 : (row.map f).findIdx? (fun a => a == f b) = row.findIdx? fun a => a == b := by
      rw [List.findIdx?_map]
      congr 1
      funext a; exact hb a b
    simp only [List.map_cons, e3, List.map_set, Option.map_some]
theorem rstG_map (rows : List (List α)) (p : α) : ∀ k, rstG q' (rows.map (List.map f)) (f p) k = ((rstG q rows p k).1.map (List.map f), (rstG q rows p k).2.map f)
  | 0 => rfl
  | k + 1 => by
    unfold rstG
    rw [rstG_map rows p k]
    cases e : rstG q rows p k with
    | mk a b =>
      cases b with
      | none => rfl
      | some x => simp only [Option.map_some]; exact stepG_map hq hb a k x
theorem layG_map : ∀ (l : List α) (rows : List (List α)), layG q' (l.map f) (rows.map (List.map f)) = (layG q l rows).map (List.map f)
  | [], _ => rfl
  | p :: l, rows => by
    rw [List.map_cons]
    unfold layG
    rw [rstG_map hq hb, List.length_map]
    exact layG_map l _
end
section
variable {α β : Type} {f : α → β}
theorem colG_map (rows : List (List α)) : colG (rows.map (List.map f)) = colG rows := by
  unfold colG
  have e1 : ((rows.map (List.map f)).getD 0 []).length = (rows.getD 0 []).length := by rw [map_getD0, List.length_map]
  rw [e1]
  congr 1
  refine List.map_congr_left fun k _ => ?_
  congr 2
  rw [List.filter_map, List.length_map]
  congr 1
  refine List.filter_congr fun r _ => ?_
  simp
end
def qR (a b : Rec) : Bool := cmpR a b == 1
theorem stepR_G (rows : RowL) (k : Nat) (p : Rec) : stepR rows k p = stepG qR rows k p := by
  unfold stepR stepG qR
  dsimp only
  generalize (if k = rows.length then rows ++ [[]] else rows) = r1
  generalize r1.getD k [] = row
  cases row.filter fun one => cmpR one p == 1 <;> rfl
theorem rst_G (rows : RowL) (p : Rec) : ∀ k, rst rows p k = rstG qR rows p k
  | 0 => rfl
  | k + 1 => by
    unfold rst rstG
    rw [rst_G rows p k]
    cases rstG qR rows p k with
    | mk a b =>
      cases b with
      | none => rfl
      | some x => exact stepR_G a k x
theorem layR_G : ∀ (l : List Rec) (rows : RowL), layR l rows = layG qR l rows
  | [], _ => rfl
  | p :: l, rows => by
    unfold layR layG
    rw [rst_G]
    exact layR_G l _
theorem colD_G (rows : RowL) : colD rows = colG rows := rfl

/-! the figures of a tree: how long its texts are, in order -/
def ancD (D : List Nat) (i j : Nat) : Bool := (List.range (j - i)).all fun m => decide (D.getD i 0 < D.getD (i + 1 + m) 0)
def bhD (D : List Nat) (i j : Nat) : Bool := if i < j then !ancD D i j else decide (j < i) && ancD D j i
theorem Tx.ancD {x : Nat → List Nat} (h : Tx x) {D : List Nat} (hD : ∀ i, i < 7 → D.getD i 0 = (x i).length) {i j : Nat} (hij : i < j) (hj : j < 7) : (x i <+: x j) ↔ ancD D i j = true := by
  have e := h.anc (i := i) (j - i - 1) (by omega)
  rw [show i + 1 + (j - i - 1) = j by omega] at e
  rw [e]
  unfold Mine.ancD
  simp only [List.all_eq_true, List.mem_range, decide_eq_true_eq]
  constructor
  · intro q m hm
    rw [hD i (by omega), hD _ (by omega)]
    exact q m (by omega)
  · intro q m hm
    have := q m (by omega)
    rw [hD i (by omega), hD _ (by omega)] at this
    exact this
theorem Tx.bh {x : Nat → List Nat} (h : Tx x) {D : List Nat} (hD : ∀ i, i < 7 → D.getD i 0 = (x i).length) {i j : Nat} (hi : i < 7) (hj : j < 7) : lx gDn (x j) (x i) = bhD D i j := by
  have st := lx_sto gDn_sto
  unfold bhD
  have ne : ∀ a b, a < b → b < 7 → x a ≠ x b := fun a b hab hb e => by have := h.s a b hab hb; rw [e, lx_irr gUp_sto] at this; cases this
  rcases Nat.lt_trichotomy i j with q | q | q
  · rw [if_pos q]
    have k := h.ancD hD q hj
    have b := lx_both (x i) (x j)
    rw [Bool.eq_iff_iff, Bool.not_eq_true', ← Bool.not_eq_true, ← k]
    constructor
    · intro z y
      have := (b.mpr ⟨y, ne i j q hj⟩).2
      rw [st.asy z] at this; cases this
    · intro z
      rcases st.tot (x j) (x i) with y | y | y
      · exact y
      · exact absurd y.symm (ne i j q hj)
      · exact absurd (b.mp ⟨h.s i j q hj, y⟩).1 z
  · subst q; simp [st.irr]
  · rw [if_neg (by omega), decide_eq_true q, Bool.true_and, Bool.eq_iff_iff, ← h.ancD hD q hi]
    have b := lx_both (x j) (x i)
    constructor
    · intro z; exact (b.mp ⟨h.s j i q hi, z⟩).1
    · intro z; exact (b.mpr ⟨z, ne j i q hi⟩).2
variable {ps lt : List Nat}
theorem rcd_inj {o l : Wd} (ho : Lets o ∧ o.length ≤ 7) (hl : Lets l ∧ l.length ≤ 7) (e : rcd o = rcd l) : o = l := by
  have key : ∀ (a b : List Nat) (m n : Nat), (∀ c ∈ a, c < 122) → (∀ c ∈ b, c < 122) → a ++ List.replicate m 122 = b ++ List.replicate n 122 → a = b := by
    intro a
    induction a with
    | nil =>
      intro b m n _ hb e
      cases b with
      | nil => rfl
      | cons y b =>
        have : y ∈ List.replicate m 122 := by
          have : y ∈ [] ++ List.replicate m 122 := by rw [e]; exact .head _
          simpa using this
        have := (List.mem_replicate.mp this).2
        have := hb y (.head _); omega
    | cons x a ih =>
      intro b m n ha hb e
      cases b with
      | nil =>
        have : x ∈ List.replicate n 122 := by
          have : x ∈ [] ++ List.replicate n 122 := by rw [← e]; exact .head _
          simpa using this
        have := (List.mem_replicate.mp this).2
        have := ha x (.head _); omega
      | cons y b =>
        simp only [List.cons_append, List.cons.injEq] at e
        rw [e.1, ih b m n (fun c hc => ha c (.tail _ hc)) (fun c hc => hb c (.tail _ hc)) e.2]
  unfold rcd at e
  refine List.reverse_inj.mp (key _ _ _ _ (fun c hc => ?_) (fun c hc => ?_) e)
  · have := ho.1 c (List.mem_reverse.mp hc); omega
  · have := hl.1 c (List.mem_reverse.mp hc); omega
def rowsD (D : List Nat) : List (List (Fin 7)) := layG (fun i j => bhD D i.val j.val) [0, 1, 2, 3, 4, 5, 6] []
theorem Gd.rows (h : Gd ps lt) {t : List Wd} (p : t.Perm (wordsOf ps lt)) (s : Srt r1 t) : layR (t.map rcd) [] = (rowsD (t.map List.length)).map (List.map fun i : Fin 7 => rcd (t.getD i.val [])) := by
  have tl : t.length = 7 := by rw [p.length_eq, h.len]
  have tm : ∀ i : Fin 7, t.getD i.val [] ∈ wordsOf ps lt := fun i => p.mem_iff.mp (getD_mem (by omega))
  have tx := h.tx p s
  have hD : ∀ i, i < 7 → (t.map List.length).getD i 0 = (t.getD i []).reverse.length := fun i hi => by
    have : i < t.length := by omega
    simp [this]
  have e : t.map rcd = ([0, 1, 2, 3, 4, 5, 6] : List (Fin 7)).map fun i : Fin 7 => rcd (t.getD i.val []) := by
    match t, tl with
    | [a, b, c, d, e, f, g], _ => rfl
  rw [layR_G, e]
  refine layG_map (q := fun i j : Fin 7 => bhD (t.map List.length) i.val j.val) (q' := qR) (f := fun i : Fin 7 => rcd (t.getD i.val [])) (fun i j => ?_) (fun i j => ?_) _ []
  · show (cmpR _ _ == 1) = _
    rw [h.cmp_gt (tm i) (tm j)]
    exact tx.bh hD i.isLt j.isLt
  · rw [Bool.eq_iff_iff, beq_iff_eq, beq_iff_eq]
    constructor
    · intro z
      have z := rcd_inj ⟨(h.ok _ (tm i)).1, (h.ok _ (tm i)).2.2⟩ ⟨(h.ok _ (tm j)).1, (h.ok _ (tm j)).2.2⟩ z
      have ne : ∀ a b, a < b → b < 7 → t.getD a [] ≠ t.getD b [] := fun a b hab hb e => by
        have := tx.s a b hab hb
        simp only [e] at this
        rw [lx_irr gUp_sto] at this; cases this
      apply Fin.ext
      rcases Nat.lt_trichotomy i.val j.val with q | q | q
      · exact absurd z (ne _ _ q j.isLt)
      · exact q
      · exact absurd z.symm (ne _ _ q i.isLt)
    · rintro rfl; rfl
end Mine

end
/-! P6 -/
section
open PySem PySem.W PyProof.Rows PySem.Calls
set_option maxRecDepth 100000
set_option linter.all false
namespace Mine
def histI (xs : List Int) : KV := xs.foldl (fun acc x => addC acc [(x, 1)]) []
def mxL (l : List Nat) : Nat := l.foldr Nat.max 0
def mxD (D : List Nat) (i : Nat) : Nat := mxL (((List.range 7).filter fun j => i == j || (decide (i < j) && ancD D i j)).map fun j => D.getD j 0 - D.getD i 0 + 1)
def goodD (D : List Nat) : Bool := (fun (rows : List (List (Fin 7))) (c : KV) => !rows.isEmpty && eqD c (colG rows) && sumV c == 7) (rowsD D) (histI ((List.range 7).map fun i => (mxD D i : Int)))
def enumD : Nat → Nat → List (List Nat)
  | 0, _ => [[]]
  | n + 1, d => (List.range d).flatMap fun k => (enumD n (k + 2)).map ((k + 2) :: ·)
set_option maxHeartbeats 4000000 in
theorem all_goodD : ((enumD 6 1).all fun l => goodD (1 :: l)) = true := by decide +kernel
theorem enumD_mem : ∀ (l : List Nat) (d : Nat), (∀ i, i < l.length → 2 ≤ l.getD i 0 ∧ l.getD i 0 ≤ (d :: l).getD i 0 + 1) → l ∈ enumD l.length d
  | [], _, _ => by simp [enumD]
  | x :: l, d, h => by
    have h0 := h 0 (by simp)
    simp only [List.getD_cons_zero] at h0
    rw [List.length_cons, enumD, List.mem_flatMap]
    refine ⟨x - 2, List.mem_range.mpr (by omega), List.mem_map.mpr ⟨l, ?_, by rw [show x - 2 + 2 = x by omega]⟩⟩
    rw [show x - 2 + 2 = x by omega]
    refine enumD_mem l x fun i hi => ?_
    have := h (i + 1) (by simp; omega)
    simpa using this
/-! the greatest -/
theorem maxI_cast : ∀ l : List Nat, maxI (l.map fun (n : Nat) => (n : Int)) = (mxL l : Int)
  | [] => rfl
  | [x] => by simp [maxI, mxL]
  | x :: y :: l => by
    have ih := maxI_cast (y :: l)
    simp only [List.map_cons] at ih ⊢
    unfold maxI
    rw [ih]
    show max (x : Int) (mxL (y :: l) : Int) = (Nat.max x (mxL (y :: l)) : Nat)
    generalize mxL (y :: l) = m
    show max (x : Int) (m : Int) = ((max x m : Nat) : Int)
    omega
theorem maxI_perm {a b : List Int} (p : a.Perm b) : maxI a = maxI b := by
  by_cases h : a = []
  · subst h; rw [List.nil_perm.mp p]
  · have h' : b ≠ [] := fun e => h (by subst e; exact List.perm_nil.mp p)
    obtain ⟨a1, a2⟩ := maxI_mem h
    obtain ⟨b1, b2⟩ := maxI_mem h'
    have := a2 _ (p.mem_iff.mpr b1)
    have := b2 _ (p.mem_iff.mp a1)
    omega
theorem hasW_iff {h l : Wd} (hn : h ≠ []) : hasW h l = true ↔ h <:+ l := by
  unfold hasW sfx
  rw [List.any_eq_true]
  constructor
  · rintro ⟨a, ha, e⟩
    obtain ⟨i, _, rfl⟩ := List.mem_map.mp ha
    rw [← eq_of_beq e]; exact List.drop_suffix _ _
  · rintro ⟨u, rfl⟩
    refine ⟨h, List.mem_map.mpr ⟨u.length, ?_, by simp⟩, by simp⟩
    rw [List.mem_range, List.length_append]
    have := List.length_pos_iff.mpr hn; omega
theorem idxW_eq {h l : Wd} (hn : h ≠ []) (hs : h <:+ l) : idxW h l = l.length - h.length := by
  have q := (hasW_iff hn).mpr hs
  unfold hasW at q
  rw [← List.findIdx?_isSome] at q
  obtain ⟨j, hj⟩ := Option.isSome_iff_exists.mp q
  unfold idxW
  rw [hj]
  obtain ⟨h1, h2, _⟩ := List.findIdx?_eq_some_iff_getElem.mp hj
  have h3 : j < l.length := by simpa [sfx] using h1
  have h4 : (sfx l)[j]'h1 = l.drop j := by simp [sfx]
  have h5 := eq_of_beq h2
  rw [h4] at h5
  have := congrArg List.length h5
  rw [List.length_drop] at this
  show j = _
  omega
theorem farW_eq (ws : List Wd) {h : Wd} (hn : h ≠ []) {P : Wd → Bool} (hP : ∀ l ∈ ws, P l = true ↔ h <:+ l) : farW ws h = (mxL ((ws.filter P).map fun l => l.length - h.length + 1) : Int) := by
  unfold farW
  rw [← maxI_cast, List.map_map]
  have e : ws.filter (hasW h) = ws.filter P := List.filter_congr fun l hl => by rw [Bool.eq_iff_iff, hasW_iff hn, hP l hl]
  rw [e]
  congr 1
  refine List.map_congr_left fun l hl => ?_
  obtain ⟨h1, h2⟩ := List.mem_filter.mp hl
  rw [idxW_eq hn ((hP l h1).mp h2)]
  rfl
theorem farW_perm {ws t : List Wd} (p : t.Perm ws) (h : Wd) : farW ws h = farW t h := maxI_perm ((p.symm.filter _).map _)
theorem cntW_hist (ws : List Wd) : cntW ws = histI (ws.map (farW ws)) := by
  unfold cntW histI; rw [List.foldl_map]
/-! tables of counts -/
theorem kfind_cons (p : Int × Int) (r : KV) (k : Int) : kfind (p :: r) k = if p.1 = k then some p.2 else kfind r k := by
  unfold kfind
  rw [List.find?_cons]
  by_cases h : p.1 = k
  · simp [h]
  · simp [h]
theorem kfind_none : ∀ {r : KV} {k : Int}, kfind r k = none ↔ k ∉ r.map (·.1)
  | [], _ => by simp [kfind]
  | p :: r, k => by
    have ih := kfind_none (r := r) (k := k)
    rw [kfind_cons, List.map_cons, List.mem_cons]
    by_cases h : p.1 = k
    · simp [h]
    · rw [if_neg h, ih]
      have : ¬ k = p.1 := fun e => h e.symm
      simp [this]
theorem kfind_mem : ∀ {r : KV} {k i : Int}, (r.map (·.1)).Nodup → (kfind r k = some i ↔ (k, i) ∈ r)
  | [], _, _, _ => by simp [kfind]
  | p :: r, k, i, hn => by
    obtain ⟨h1, h2⟩ := List.nodup_cons.mp (show (p.1 :: r.map (·.1)).Nodup from hn)
    rw [kfind_cons, List.mem_cons]
    by_cases h : p.1 = k
    · rw [if_pos h]
      subst h
      constructor
      · intro e; exact .inl (by rw [← Option.some.inj e])
      · rintro (e | e)
        · rw [← e]
        · exact absurd (List.mem_map.mpr ⟨_, e, rfl⟩) h1
    · rw [if_neg h, kfind_mem h2]
      constructor
      · exact .inr
      · rintro (e | e)
        · exact absurd (by rw [← e]) h
        · exact e
theorem kany (kvs : KV) (k : Int) : kvs.any (fun kv => kv.1 = k) = true ↔ k ∈ kvs.map (·.1) := by
  rw [List.any_eq_true, List.mem_map]
  simp
theorem kstore_keys (kvs : KV) (k i : Int) : (kstore kvs k i).map (·.1) = if k ∈ kvs.map (·.1) then kvs.map (·.1) else kvs.map (·.1) ++ [k] := by
  unfold kstore
  by_cases h : k ∈ kvs.map (·.1)
  · rw [if_pos ((kany kvs k).mpr h), if_pos h, List.map_map]
    refine List.map_congr_left fun p _ => ?_
    simp only [Function.comp]
    split <;> rfl
  · rw [if_neg (fun q => h ((kany kvs k).mp q)), if_neg h, List.map_append]; rfl
theorem kstore_nodup {kvs : KV} {k i : Int} (h : (kvs.map (·.1)).Nodup) : ((kstore kvs k i).map (·.1)).Nodup := by
  rw [kstore_keys]
  split
  · exact h
  · rename_i hk
    rw [List.nodup_append]
    refine ⟨h, by simp, fun a ha b hb => ?_⟩
    rw [List.mem_singleton] at hb
    subst hb
    rintro rfl; exact hk ha
theorem kfind_append (a b : KV) (k : Int) : kfind (a ++ b) k = (kfind a k).or (kfind b k) := by
  induction a with
  | nil => rfl
  | cons p a ih =>
    rw [List.cons_append, kfind_cons, kfind_cons, ih]
    split <;> rfl
theorem kstore_find (kvs : KV) (k i k' : Int) : kfind (kstore kvs k i) k' = if k' = k then some i else kfind kvs k' := by
  unfold kstore
  by_cases h : k ∈ kvs.map (·.1)
  · rw [if_pos ((kany kvs k).mpr h)]
    induction kvs with
    | nil => simp at h
    | cons p r ih =>
      rw [List.map_cons, kfind_cons, kfind_cons]
      by_cases hp : p.1 = k
      · rw [if_pos hp]
        by_cases hk : k' = k
        · subst hk; simp [hp]
        · rw [if_neg hk]
          have q : ¬ p.1 = k' := fun e => hk (by rw [← e, hp])
          rw [if_neg q, if_neg q]
          by_cases hr : k ∈ r.map (·.1)
          · rw [ih hr, if_neg hk]
          · have : r.map (fun kv => if kv.1 = k then (kv.1, i) else kv) = r := by
              conv => rhs; rw [← List.map_id r]
              refine List.map_congr_left fun x hx => ?_
              rw [if_neg (fun e => hr (List.mem_map.mpr ⟨x, hx, e⟩))]; rfl
            rw [this]
      · rw [if_neg hp]
        have hr : k ∈ r.map (·.1) := by
          rcases List.mem_cons.mp h with e | e
          · exact absurd e.symm hp
          · exact e
        rw [ih hr]
        by_cases hk : k' = k
        · subst hk; simp [hp]
        · rw [if_neg hk, if_neg hk]
  · rw [if_neg (fun q => h ((kany kvs k).mp q)), kfind_append, kfind_cons]
    have hn := kfind_none.mpr h
    by_cases hk : k' = k
    · subst hk; rw [hn]; simp
    · have q : ¬ k = k' := fun e => hk e.symm
      simp only [if_neg hk, if_neg q]
      cases kfind kvs k' <;> rfl
theorem cpy_id (t : KV) (h : (t.map (·.1)).Nodup) : cpy t = t := by
  have key : ∀ (t acc : KV), ((acc ++ t).map (·.1)).Nodup → t.foldl (fun acc p => kstore acc p.1 p.2) acc = acc ++ t := by
    intro t
    induction t with
    | nil => intro acc _; simp
    | cons p t ih =>
      intro acc h
      have e : kstore acc p.1 p.2 = acc ++ [p] := by
        unfold kstore
        rw [if_neg]
        rw [kany]
        intro q
        rw [List.map_append, List.nodup_append] at h
        exact h.2.2 _ q p.1 (by simp) rfl
      rw [List.foldl_cons, e, ih _ (by simpa using h)]
      simp
  have := key t [] (by simpa using h)
  simpa [cpy] using this
/-- a table tells how often each one stands in a list -/
structure Cts (t : KV) (xs : List Int) : Prop where
  n : (t.map (·.1)).Nodup
  f : ∀ k, kfind t k = if k ∈ xs then some (xs.count k : Int) else none
theorem cts_nil : Cts [] [] := ⟨by simp, fun k => by simp [kfind]⟩
theorem cts_add {t : KV} {xs : List Int} (h : Cts t xs) (x : Int) : Cts (addC t [(x, 1)]) (xs ++ [x]) := by
  unfold addC
  rw [cpy_id t h.n]
  simp only [List.foldl_cons, List.foldl_nil]
  unfold addI
  simp only
  have hx := h.f x
  by_cases hm : x ∈ xs
  · rw [if_pos hm] at hx
    rw [hx]
    refine ⟨kstore_nodup h.n, fun k => ?_⟩
    rw [kstore_find]
    by_cases hk : k = x
    · subst hk; simp
    · rw [if_neg hk, h.f k]
      have : ¬ x = k := fun e => hk e.symm
      simp [hk, List.count_cons, this]
  · rw [if_neg hm] at hx
    rw [hx]
    refine ⟨kstore_nodup h.n, fun k => ?_⟩
    rw [kstore_find]
    by_cases hk : k = x
    · subst hk
      have : xs.count k = 0 := List.count_eq_zero.mpr hm
      simp [this]
    · rw [if_neg hk, h.f k]
      have : ¬ x = k := fun e => hk e.symm
      simp [hk, List.count_cons, this]
theorem cts_hist (xs : List Int) : Cts (histI xs) xs := by
  have key : ∀ (ys xs : List Int) (t : KV), Cts t xs → Cts (ys.foldl (fun acc x => addC acc [(x, 1)]) t) (xs ++ ys) := by
    intro ys
    induction ys with
    | nil => intro xs t h; simpa using h
    | cons y ys ih =>
      intro xs t h
      have := ih (xs ++ [y]) _ (cts_add h y)
      simpa using this
  exact key xs [] [] cts_nil
theorem cts_puts (xs : List Int) : Cts (putsD [] (xs.map fun h => (h, (xs.countP (fun a => a == h) : Int)))) xs := by
  have key : ∀ (c : Int → Int) (us : List Int) (acc : KV), (acc.map (·.1)).Nodup → ((putsD acc (us.map fun h => (h, c h))).map (·.1)).Nodup ∧ ∀ k, kfind (putsD acc (us.map fun h => (h, c h))) k = if k ∈ us then some (c k) else kfind acc k := by
    intro c us
    induction us with
    | nil => intro acc h; exact ⟨h, fun k => by simp [putsD]⟩
    | cons u us ih =>
      intro acc h
      have := ih (kstore acc u (c u)) (kstore_nodup h)
      refine ⟨this.1, fun k => ?_⟩
      refine (this.2 k).trans ?_
      rw [kstore_find]
      by_cases hk : k = u
      · subst hk; simp
      · simp [hk]
  have := key (fun h => (xs.countP (fun a => a == h) : Int)) xs [] (by simp)
  exact ⟨this.1, fun k => (this.2 k).trans (by simp [kfind, List.count])⟩
theorem nodup_of_keys {t : KV} (h : (t.map (·.1)).Nodup) : t.Nodup := (List.pairwise_map.mp h).imp fun {a b} q e => q (by rw [e])
theorem cts_perm {t t' : KV} {xs ys : List Int} (h : Cts t xs) (h' : Cts t' ys) (p : xs.Perm ys) : t.Perm t' := by
  refine (List.perm_ext_iff_of_nodup (nodup_of_keys h.n) (nodup_of_keys h'.n)).mpr fun ⟨k, i⟩ => ?_
  rw [← kfind_mem h.n, ← kfind_mem h'.n, h.f, h'.f]
  by_cases hk : k ∈ xs
  · rw [if_pos hk, if_pos (p.mem_iff.mp hk), p.count_eq]
  · rw [if_neg hk, if_neg fun q => hk (p.mem_iff.mpr q)]
theorem hitsD_all (kb : KV) : ∀ ka : KV, hitsD kb ka = ka.all fun p => kfind kb p.1 == some p.2
  | [] => rfl
  | (k, i) :: r => by
    rw [hitsD, List.all_cons, hitsD_all kb r]
    cases kfind kb k with
    | none => rfl
    | some j =>
      simp only
      congr 1
      rw [Bool.eq_iff_iff]; simp
      exact ⟨fun e => e.symm, fun e => e.symm⟩
theorem eqD_perm {a b : KV} (p : a.Perm b) (y : KV) : eqD a y = eqD b y := by
  unfold eqD
  rw [p.length_eq, hitsD_all, hitsD_all, p.all_eq]
theorem eqD_self {t t' : KV} {xs ys : List Int} (h : Cts t xs) (h' : Cts t' ys) (p : xs.Perm ys) : eqD t t' = true := by
  have q := cts_perm h h' p
  rw [eqD_perm q]
  unfold eqD
  rw [hitsD_all]
  simp only [beq_self_eq_true, Bool.true_and, List.all_eq_true, beq_iff_eq]
  intro x hx
  exact (kfind_mem h'.n).mpr hx
theorem sumV_perm {a b : KV} (p : a.Perm b) : sumV a = sumV b := by
  unfold sumV
  exact p.foldl_eq' (fun x _ y _ z => by omega) 0
end Mine

end
/-! P7 -/
section
open PySem PySem.W PyProof.Rows PySem.Calls
set_option maxRecDepth 100000
set_option linter.all false
namespace Mine
def mxP (ws : List (List Nat)) (i : Nat) : Nat := mxL ((ws.filter fun w => w.elem i).map fun w => w.length - (ws.getD i []).length + 1)
def ckP (ps : List Nat) : Bool := (fun ws : List (List Nat) => (List.range 7).map fun i => (mxP ws i : Int)) (waysTo ps 6) == hgtTo ps 6
def ckPs (f : Nat) : Bool := (List.range 2).all fun b => (List.range 3).all fun c => (List.range 4).all fun d => (List.range 5).all fun e => ckP [0, 0, b, c, d, e, f]
theorem ckPs0 : ckPs 0 = true := by decide +kernel
theorem ckPs1 : ckPs 1 = true := by decide +kernel
theorem ckPs2 : ckPs 2 = true := by decide +kernel
theorem ckPs3 : ckPs 3 = true := by decide +kernel
theorem ckPs4 : ckPs 4 = true := by decide +kernel
theorem ckPs5 : ckPs 5 = true := by decide +kernel
variable {ps lt : List Nat}
theorem Gd.hgt (h : Gd ps lt) (hl : ps.length = 7) : ((List.range 7).map fun i => (mxP (waysTo ps 6) i : Int)) = hgtTo ps 6 := by
  have hp := h.p
  match ps, hl with
  | [a0, a1, a2, a3, a4, a5, a6], _ =>
    have h0 := hp 0 (by omega)
    have h1 := hp 1 (by omega)
    have h2 := hp 2 (by omega)
    have h3 := hp 3 (by omega)
    have h4 := hp 4 (by omega)
    have h5 := hp 5 (by omega)
    have h6 := hp 6 (by omega)
    simp only [List.getD_cons_zero, List.getD_cons_succ] at h0 h1 h2 h3 h4 h5 h6
    have e0 : a0 = 0 := by omega
    have e1 : a1 = 0 := by omega
    subst e0 e1
    have key : ckPs a6 = true := by
      have : a6 = 0 ∨ a6 = 1 ∨ a6 = 2 ∨ a6 = 3 ∨ a6 = 4 ∨ a6 = 5 := by omega
      rcases this with rfl | rfl | rfl | rfl | rfl | rfl
      · exact ckPs0
      · exact ckPs1
      · exact ckPs2
      · exact ckPs3
      · exact ckPs4
      · exact ckPs5
    have k1 := List.all_eq_true.mp key a2 (List.mem_range.mpr (by omega))
    have k2 := List.all_eq_true.mp k1 a3 (List.mem_range.mpr (by omega))
    have k3 := List.all_eq_true.mp k2 a4 (List.mem_range.mpr (by omega))
    have k4 := List.all_eq_true.mp k3 a5 (List.mem_range.mpr (by omega))
    exact eq_of_beq k4
theorem Gd.far (h : Gd ps lt) (hl : ps.length = 7) : (wordsOf ps lt).map (farW (wordsOf ps lt)) = hgtTo ps 6 := by
  rw [← h.hgt hl]
  apply List.ext_getElem (by simp [h.len])
  intro i h1 h2
  have hi : i < 7 := by simpa using h2
  have hiw : i < (wordsOf ps lt).length := by rw [h.len]; exact hi
  have ew : (wordsOf ps lt)[i]'hiw = (wordsOf ps lt).getD i [] := by simp [hiw]
  simp only [List.getElem_map, List.getElem_range]
  rw [ew]
  have hm : (wordsOf ps lt).getD i [] ∈ wordsOf ps lt := getD_mem hiw
  rw [farW_eq (wordsOf ps lt) (h.ok _ hm).2.1 (P := fun l => ((wordsOf ps lt).getD i []).isSuffixOf l) (fun l _ => by simp)]
  congr 1
  unfold mxP
  have e1 : (wordsOf ps lt).filter (fun l => ((wordsOf ps lt).getD i []).isSuffixOf l) = ((waysTo ps 6).filter fun w => w.elem i).map (wrd lt) := by
    conv => lhs; arg 2; unfold wordsOf
    rw [List.filter_map]
    congr 1
    refine List.filter_congr fun w hw => ?_
    obtain ⟨j, hj, e⟩ := List.getElem_of_mem hw
    have hj7 : j < 7 := by rw [waysTo_len] at hj; exact hj
    have ej : (waysTo ps 6).getD j [] = w := by simp [hj, e]
    have q := h.pre i hi j hj7
    rw [List.reverse_prefix, words_at hj7, ej] at q
    rw [Bool.eq_iff_iff]
    simp only [Function.comp, List.isSuffixOf_iff_suffix, List.elem_eq_mem, decide_eq_true_eq]
    exact q
  rw [e1, List.map_map, words_at hi]
  congr 1
  refine List.map_congr_left fun w _ => ?_
  simp [wrd]
theorem Gd.farT (h : Gd ps lt) {t : List Wd} (p : t.Perm (wordsOf ps lt)) (s : Srt r1 t) : t.map (farW (wordsOf ps lt)) = (List.range 7).map fun i => (mxD (t.map List.length) i : Int) := by
  have tl : t.length = 7 := by rw [p.length_eq, h.len]
  have tx := h.tx p s
  have hD : ∀ i, i < 7 → (t.map List.length).getD i 0 = (t.getD i []).length := fun i hi => by
    have : i < t.length := by omega
    simp [this]
  have hD' : ∀ i, i < 7 → (t.map List.length).getD i 0 = (t.getD i []).reverse.length := fun i hi => by rw [hD i hi, List.length_reverse]
  have et : t = (List.range 7).map fun j => t.getD j [] := by
    match t, tl with
    | [a, b, c, d, e, f, g], _ => rfl
  apply List.ext_getElem (by simp [tl])
  intro i h1 h2
  have hi : i < 7 := by simpa using h2
  have hit : i < t.length := by omega
  have ew : t[i]'hit = t.getD i [] := by simp [hit]
  simp only [List.getElem_map, List.getElem_range]
  rw [ew]
  have hm : t.getD i [] ∈ t := getD_mem hit
  rw [farW_perm p, farW_eq t (h.ok _ (p.mem_iff.mp hm)).2.1 (P := fun l => (t.getD i []).isSuffixOf l) (fun l _ => by simp)]
  congr 1
  unfold mxD
  have e1 : t.filter (fun l => (t.getD i []).isSuffixOf l) = ((List.range 7).filter fun j => i == j || (decide (i < j) && Mine.ancD (t.map List.length) i j)).map fun j => t.getD j [] := by
    conv => lhs; arg 2; rw [et]
    rw [List.filter_map]
    congr 1
    refine List.filter_congr fun j hj => ?_
    have hj7 := List.mem_range.mp hj
    rw [Bool.eq_iff_iff]
    simp only [Function.comp, List.isSuffixOf_iff_suffix, Bool.or_eq_true, beq_iff_eq, Bool.and_eq_true, decide_eq_true_eq]
    rw [← List.reverse_prefix]
    rcases Nat.lt_trichotomy i j with q | q | q
    · rw [tx.ancD hD' q hj7]
      constructor
      · intro z; exact .inr ⟨q, z⟩
      · rintro (z | z)
        · omega
        · exact z.2
    · subst q; simp
    · constructor
      · intro z
        have h3 := tx.s j i q hi
        have hne : (t.getD i []).reverse ≠ (t.getD j []).reverse := fun e => by simp only [e] at h3; rw [lx_irr gUp_sto] at h3; cases h3
        have h4 := lx_pre (g := gUp) z hne
        rw [(lx_sto gUp_sto).asy h4] at h3; cases h3
      · rintro (z | z)
        · omega
        · omega
  rw [e1, List.map_map]
  congr 1
  refine List.map_congr_left fun j hj => ?_
  have hj7 := List.mem_range.mp (List.mem_filter.mp hj).1
  simp only [Function.comp]
  rw [hD i hi, hD j hj7]
theorem Gd.good (h : Gd ps lt) {t : List Wd} (p : t.Perm (wordsOf ps lt)) (s : Srt r1 t) : goodD (t.map List.length) = true := by
  have tl : t.length = 7 := by rw [p.length_eq, h.len]
  have tx := h.tx p s
  have hD : ∀ i, i < 7 → (t.map List.length).getD i 0 = (t.getD i []).length := fun i hi => by
    have : i < t.length := by omega
    simp [this]
  have hz := tx.z
  simp only [List.length_reverse] at hz
  have e : t.map List.length = 1 :: (t.map List.length).tail := by
    match t, tl with
    | [a, b, c, d, e, f, g], _ =>
      have hz : a.length = 1 := hz
      simp [hz]
  have key := enumD_mem (t.map List.length).tail 1 fun i hi => by
    have hi6 : i < 6 := by rw [List.length_tail, List.length_map, tl] at hi; exact hi
    have k1 : (t.map List.length).tail.getD i 0 = (t.map List.length).getD (i + 1) 0 := by
      conv => rhs; rw [e]
      rw [List.getD_cons_succ]
    rw [k1, ← e, hD (i + 1) (by omega), hD i (by omega)]
    obtain ⟨c, u, e1, e2, e3⟩ := tx.p i (by omega)
    have a1 := congrArg List.length e1
    have a2 := e3.length_le
    have a3 := List.length_pos_iff.mpr e2
    simp only [List.length_reverse, List.length_append, List.length_singleton] at a1 a2
    omega
  have hl6 : (t.map List.length).tail.length = 6 := by rw [List.length_tail, List.length_map, tl]
  rw [hl6] at key
  have := List.all_eq_true.mp all_goodD _ key
  rw [← e] at this
  exact this
theorem Gd.chk (h : Gd ps lt) (hl : ps.length = 7) : Chk ps lt := by
  obtain ⟨t, p, s, u⟩ := h.srt
  obtain ⟨r1', r2', r3'⟩ := h.recs p s
  have tl : t.length = 7 := by rw [p.length_eq, h.len]
  have gd := h.good p s
  unfold goodD at gd
  simp only [Bool.and_eq_true, Bool.not_eq_true', List.isEmpty_eq_false_iff, beq_iff_eq] at gd
  obtain ⟨⟨g1, g2⟩, g3⟩ := gd
  have c0 : Cts (cntW (wordsOf ps lt)) ((wordsOf ps lt).map (farW (wordsOf ps lt))) := by rw [cntW_hist]; exact cts_hist _
  have c1 : (cntW (wordsOf ps lt)).Perm (histI ((List.range 7).map fun i => (mxD (t.map List.length) i : Int))) := by
    refine cts_perm c0 (cts_hist _) ?_
    rw [← h.farT p s]
    exact (p.map _).symm
  have er : layR (recsOf (wordsOf ps lt)) [] = (rowsD (t.map List.length)).map (List.map fun i : Fin 7 => rcd (t.getD i.val [])) := by rw [r2', h.rows p s]
  exact {
    lad := h.lad
    fst := fun i hi => by simpa using h.fst.mem_iff.mpr hi
    srt := ⟨t, tl, u, r3'⟩
    snd := h.snd
    les := h.les h.pre
    ct1 := by
      refine eqD_self c0 (cts_puts (hgtTo ps 6)) ?_
      rw [h.far hl]
    ct2 := by rw [sumV_perm c1]; exact g3
    fix := r1'
    fin := by
      rw [er]
      refine ⟨fun e => g1 (List.map_eq_nil_iff.mp e), ?_⟩
      rw [colD_G, colG_map, eqD_perm c1]
      exact g2 }
theorem chk_all (t : List Int) : Chk (psOf t) (ltOf t) := (gd_of t).chk (by simp [psOf])
end Mine

end
namespace Mine
set_option maxRecDepth 100000 in
theorem enter {w : World} {mg mb : Str → Option Value} {s₁ : Shared} {loose : List Str} {mean : ExcName → Option Value} {p : Program} {fa l : Addr} {ns : List Int} {vs : List Value} {Q E : Value → Shared → Prop}
    (T : Top p loose mean mg mb s₁.heap) (KX : (hd.heap_39 w.params).In s₁.heap) (hm : mg "law" = some (.ref fa)) (hL : s₁.heap.IsList l vs.toArray) (hI : IntsAre vs ns) (hn : ns.length ≤ 63)
    (hQ : ∀ s', Keeps s₁ s' → Q (.bool true) s') : wpAny (model PySem.Challenge.pw_xp0033_01 w) callerA (call (.ref fa) [.ref l]) Q E s₁ := by
  have hfa : fa = 222 := by
    have e : nsIn (hd.heap_39 w.params) mainGlobals "law" = some (some (.ref 222)) := rfl
    have := PySem.W.mg_of KX T.g e
    rw [hm] at this
    cases this; rfl
  subst hfa
  have hG : GOk (mkC w mg mb s₁.heap) s₁.heap := ⟨KX, T.g, T.b, T.builtins, T.nolimit, fun _ _ e => e⟩
  have hA : AOk (0 + 8) callerA := ⟨rfl, by decide +kernel, by decide +kernel⟩
  refine wpAny_mono ((fn_law (n := 0) hn (chk_all _)).fn callerA (fun _ => False) s₁ [.ref l] hA hG (fun _ h => h.elim) ⟨?_, trivial⟩) ?_ (fun _ _ h => h.elim)
  · obtain ⟨o, h1, h2, k, h3⟩ := hL
    exact ⟨l, o, vs, k, rfl, ⟨fun h => h, h1⟩, h2, h3, hI⟩
  · rintro v s' ⟨hk, hv⟩
    have hv : v = .bool true := hv
    subst hv
    exact hQ s' hk
end Mine
set_option maxRecDepth 100000 in
set_option maxHeartbeats 8000000 in
theorem PySem.Challenge.cw_xp0033_01_holds : PySem.Challenge.rw_xp0033_01.Holds := by
  refine Mine.hd ?_
  k_fill
  intro w s₀ s₁ mg mb G Y fa o pm cd doc dV kV ho hd' hcd hD hmg hg args vals as hpre hlay hrd hwl hlo
  have KX := kIn_of Y
  refine Ground.open G ?_
  intro T B D TE TW
  wrow_args hpre hlay hrd hwl hlo
  rename_i ns _ _ _ _ _ _ _ a vs _ hL _ _ _ hI _ hcond _
  refine Mine.enter T KX hmg hL hI (by omega) fun s' hk => ?_
  obtain ⟨h, t, rfl, hs⟩ := hk
  refine GoodW.toG ⟨.inl ⟨.bool true, .bool true, [], rfl, ?_, .bool true, ?_, unshared_nil⟩, hs, rfl, hg⟩
  · intro cls; rfl
  · wrow_post
#print axioms PySem.Challenge.cw_xp0033_01_holds
