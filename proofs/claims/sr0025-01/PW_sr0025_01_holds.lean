import PyProof.Rows.All
import Wide.All
import OpenK.AllK
import Wide.FinOn
import PySem.Challenge.RW_sr0025_01
open PySem PySem.W PyProof.Rows PySem.Calls
set_option Elab.async false
set_option linter.unusedVariables false
set_option linter.unusedSimpArgs false
set_option maxRecDepth 100000
set_option maxHeartbeats 16000000
open_top hd for PySem.Challenge.rw_sr0025_01
namespace Mine

/-! ## what stays -/
def IsTab (o : Obj) : Prop := ∃ ps, o = tabObj ps ∧ ∀ q t, ps[1]? ≠ some (.str q t)
def IsFld (o : Obj) : Prop := (∃ ps, o = tabObj ps) ∨ ∃ vs q t, o.data = .fields vs ∧ vs[1]? = some (.str q t)
def IsVal (o : Obj) : Prop := (∃ n, o.cls = .type n) ∧ ((∃ xs k, o.data = .seq xs k) ∨ (o.cls = .type "range" ∧ ∃ vs, o.data = .fields vs))
theorem IsFld.fields {o : Obj} (h : IsFld o) : ∃ vs, o.data = .fields vs := by
  rcases h with ⟨ps, rfl⟩ | ⟨vs, _, _, e, _⟩
  · exact ⟨_, rfl⟩
  · exact ⟨_, e⟩
def Lasting (o : Obj) : Prop := (match o.data with | .dict .. => False | .cell _ => False | _ => True) ∧ ¬ IsTab o
theorem IsVal.notTab {o : Obj} (h : IsVal o) : ¬ IsTab o := fun ⟨_, e, _⟩ => by
  obtain ⟨⟨n, hn⟩, _⟩ := h
  subst e; cases hn
def Sv (h h' : Heap) : Prop := ∀ b o, h.get? b = some o → IsVal o → h'.get? b = some o
def Kn (t : Bool) (h h' : Heap) : Prop := ∀ b o, h.get? b = some o → (t = true → ¬ IsTab o) → h'.get? b = some o
theorem Kn.refl (t : Bool) (h : Heap) : Kn t h h := fun _ _ e _ => e
theorem Kn.trans {t : Bool} {h h' h'' : Heap} (x : Kn t h h') (y : Kn t h' h'') : Kn t h h'' := fun b o e n => y b o (x b o e n) n
theorem Kn.up {t : Bool} {h h' : Heap} (x : Kn t h h') : Kn true h h' := fun b o e n => x b o e fun _ => n rfl
theorem Kn.of {t : Bool} {h h' : Heap} (x : ∀ b o, h.get? b = some o → h'.get? b = some o) : Kn t h h' := fun b o e _ => x b o e
theorem Kn.all {h h' : Heap} (x : Kn false h h') : ∀ b o, h.get? b = some o → h'.get? b = some o := fun b o e => x b o e (fun z => nomatch z)
theorem Kn.sv {t : Bool} {h h' : Heap} (x : Kn t h h') : Sv h h' := fun b o e v => x b o e fun _ => v.notTab
theorem Sv.refl (h : Heap) : Sv h h := fun _ _ e _ => e
theorem Sv.trans {h h' h'' : Heap} (x : Sv h h') (y : Sv h' h'') : Sv h h'' := fun b o e v => y b o (x b o e v) v
theorem Kn.ns {t : Bool} {h h' : Heap} {a : Addr} {m : Str → Option Value} (x : Kn t h h') (n : h.Ns a m) : h'.Ns a m := by
  obtain ⟨o, es, ep, e, hd, r⟩ := n
  exact ⟨o, es, ep, x a o e (fun _ ⟨_, q, _⟩ => by rw [q] at hd; cases hd), hd, r⟩
theorem Kn.cell {t : Bool} {h h' : Heap} {c : Addr} {v : Option Value} (x : Kn t h h') (n : h.IsCell c v) : h'.IsCell c v := by
  obtain ⟨o, e, hd⟩ := n
  exact ⟨o, x c o e (fun _ ⟨_, q, _⟩ => by rw [q] at hd; cases hd), hd⟩

structure Wd where
  prog : Program
  w : World
  mg : Str → Option Value
  mb : Str → Option Value
  G : Heap → Prop
  tb : Heap → Prop
  hG : ∀ h h', Kn true h h' → G h → G h'
  hT : ∀ h h', (∀ b o, h.get? b = some o → IsFld o → h'.get? b = some o) → tb h → tb h'
  hg : ∀ h, G h → h.Ns mainGlobals mg
  hb : ∀ h, G h → h.Ns builtinsNs mb
  hl : ∀ h, G h → h.NoLimit

abbrev Wd.M (X : Wd) : Model := model X.prog X.w
def Wd.K (X : Wd) (t : Bool) (s s' : Shared) : Prop := ∃ h' tk, s' = { s with heap := h', toks := tk } ∧ Kn t s.heap h' ∧ (X.tb s.heap → X.tb h')
section
variable {X : Wd} {t : Bool} {s s' s'' : Shared}
theorem Wd.K.refl : X.K t s s := ⟨s.heap, s.toks, rfl, Kn.refl _ _, id⟩
theorem Wd.K.trans (x : X.K t s s') (y : X.K t s' s'') : X.K t s s'' := by
  obtain ⟨h', tk, rfl, k, b⟩ := x
  obtain ⟨h'', tk', rfl, k', b'⟩ := y
  exact ⟨h'', tk', rfl, k.trans k', fun z => b' (b z)⟩
theorem Wd.K.of (x : Keeps s s') : X.K t s s' := by
  obtain ⟨h', tk, rfl, k⟩ := x
  exact ⟨h', tk, rfl, .of k, X.hT _ _ fun b o e _ => k b o e⟩
theorem Wd.K.keeps (x : X.K false s s') : Keeps s s' := by
  obtain ⟨h', tk, rfl, k, _⟩ := x
  exact ⟨h', tk, rfl, k.all⟩
theorem Wd.K.kn (x : X.K t s s') : Kn t s.heap s'.heap := by
  obtain ⟨h', tk, rfl, k, _⟩ := x; exact k
theorem Wd.K.g (x : X.K t s s') (g : X.G s.heap) : X.G s'.heap := X.hG _ _ x.kn.up g
theorem Wd.K.tb (x : X.K t s s') (g : X.tb s.heap) : X.tb s'.heap := by
  obtain ⟨h', tk, rfl, _, b⟩ := x; exact b g
theorem Wd.K.tok {n : Nat} : X.K t s { s with toks := n } := ⟨s.heap, n, rfl, Kn.refl _ _, id⟩
theorem Wd.K.push {o : Obj} {n : Nat} : X.K t s { s with heap := s.heap.push o, toks := n } :=
  Wd.K.of ⟨_, n, rfl, fun _ _ e => Heap.get?_push_of_some _ e⟩
theorem Wd.K.heap {h' : Heap} {n : Nat} (k : ∀ b o, s.heap.get? b = some o → h'.get? b = some o) : X.K t s { s with heap := h', toks := n } := Wd.K.of ⟨_, n, rfl, k⟩
theorem Wd.K.lift (x : X.K false s s') : X.K t s s' := Wd.K.of x.keeps
end
theorem Keeps.refl {s : Shared} : Keeps s s := ⟨s.heap, s.toks, rfl, fun _ _ e => e⟩
theorem Keeps.trans {s s' s'' : Shared} (x : Keeps s s') (y : Keeps s' s'') : Keeps s s'' := by
  obtain ⟨h', tk, rfl, k⟩ := x
  obtain ⟨h'', tk', rfl, k'⟩ := y
  exact ⟨h'', tk', rfl, fun b o e => k' b o (k b o e)⟩

/-! ## what a value is -/
abbrev Rp := Heap → Value → Prop
def Stab (P : Rp) : Prop := ∀ h h' v, Sv h h' → P h v → P h' v
def RIs (v : Value) : Rp := fun _ x => x = v
def RInt (i : Int) : Rp := fun _ v => ∃ t, v = .int i t
def RBool (b : Bool) : Rp := fun _ v => v = .bool b
def RStr (x : Str) : Rp := fun _ v => ∃ t, v = .str x t
def RBytes (b : Array UInt8) : Rp := fun _ v => ∃ t, v = .bytes b t
def RList {α : Type} (R : α → Rp) (l : List α) : Rp := fun h v => ∃ a vs, v = .ref a ∧ h.PlainList a vs ∧ Paired (fun x u => R x h u) l vs.toList
def RTup {α : Type} (R : α → Rp) (l : List α) : Rp := fun h v => ∃ a vs, v = .ref a ∧ h.get? a = some { cls := .type "tuple", data := .seq vs } ∧ Paired (fun x u => R x h u) l vs.toList
def RRange (a b c : Int) : Rp := fun h v => ∃ r t u w, v = .ref r ∧ IsRange h r a b c t u w
theorem stab_is {v : Value} : Stab (RIs v) := fun _ _ _ _ h => h
theorem stab_int {i : Int} : Stab (RInt i) := fun _ _ _ _ h => h
theorem stab_bool {i : Bool} : Stab (RBool i) := fun _ _ _ _ h => h
theorem stab_str {i : Str} : Stab (RStr i) := fun _ _ _ _ h => h
theorem stab_bytes {i : Array UInt8} : Stab (RBytes i) := fun _ _ _ _ h => h
theorem paired_map {α β γ : Type} {F : α → β → Prop} {G : γ → β → Prop} {f : α → γ} (h : ∀ a b, F a b → G (f a) b) : ∀ {l : List α} {m : List β}, Paired F l m → Paired G (l.map f) m
  | _, _, .nil => .nil
  | _, _, .cons x r => .cons (h _ _ x) (paired_map h r)
theorem paired_imp {α β : Type} {F G : α → β → Prop} (h : ∀ a b, F a b → G a b) : ∀ {l : List α} {m : List β}, Paired F l m → Paired G l m
  | _, _, .nil => .nil
  | _, _, .cons x r => .cons (h _ _ x) (paired_imp h r)
theorem val_list {vs : Array Value} {n : Nat} : IsVal { cls := .type "list", data := .seq vs n } := ⟨⟨_, rfl⟩, .inl ⟨_, _, rfl⟩⟩
theorem val_tuple {vs : Array Value} {n : Nat} : IsVal { cls := .type "tuple", data := .seq vs n } := ⟨⟨_, rfl⟩, .inl ⟨_, _, rfl⟩⟩
theorem stab_list {α : Type} {R : α → Rp} (hR : ∀ x, Stab (R x)) {l : List α} : Stab (RList R l) := fun h h' v k ⟨a, vs, e, ⟨n, hl⟩, p⟩ =>
  ⟨a, vs, e, ⟨n, k _ _ hl val_list⟩, paired_imp (fun x u r => hR x h h' u k r) p⟩
theorem stab_tup {α : Type} {R : α → Rp} (hR : ∀ x, Stab (R x)) {l : List α} : Stab (RTup R l) := fun h h' v k ⟨a, vs, e, hl, p⟩ =>
  ⟨a, vs, e, k _ _ hl val_tuple, paired_imp (fun x u r => hR x h h' u k r) p⟩
theorem stab_range {a b c : Int} : Stab (RRange a b c) := fun _ _ _ k ⟨r, t, u, w, e, hr⟩ => ⟨r, t, u, w, e, k _ _ hr ⟨⟨_, rfl⟩, .inr ⟨rfl, _, rfl⟩⟩⟩

/-! ## names -/
abbrev Vars := List (Str × Rp)
def VarIs (env : Env) (h : Heap) (x : Str) (v : Value) : Prop :=
  (env.kindOf x = some .local ∧ ∃ m, h.Ns env.locals m ∧ m x = some v) ∨
  ((env.kindOf x = some .cell ∨ (env.kindOf x = some .free ∧ (x == ("__classdict__" : Str)) = false)) ∧ ∃ c, env.cells.lookup x = some c ∧ h.IsCell c (some v))
def Vs (env : Env) (ρ : Vars) (h : Heap) : Prop := ∀ x P, ρ.lookup x = some P → Stab P ∧ ∃ v, VarIs env h x v ∧ P h v
theorem VarIs.kn {t : Bool} {env : Env} {h h' : Heap} {x : Str} {v : Value} (k : Kn t h h') (y : VarIs env h x v) : VarIs env h' x v := by
  rcases y with ⟨a, m, n, e⟩ | ⟨a, c, n, e⟩
  · exact .inl ⟨a, m, k.ns n, e⟩
  · exact .inr ⟨a, c, n, k.cell e⟩
theorem Vs.kn {t : Bool} {env : Env} {ρ : Vars} {h h' : Heap} (k : Kn t h h') (y : Vs env ρ h) : Vs env ρ h' := fun x P e => by
  obtain ⟨sp, v, hv, hp⟩ := y x P e
  exact ⟨sp, v, hv.kn k, sp _ _ _ k.sv hp⟩

def Ok (n : Nat) (A : Around) : Prop := A.handled = none ∧ A.depth + n < recursionLimit ∧ A.units + 16 * n + 64 < cLine
theorem Ok.le {n m : Nat} {A : Around} (h : Ok n A) (l : m ≤ n) : Ok m A := ⟨h.1, by have := h.2.1; omega, by have := h.2.2; omega⟩
theorem Ok.deeper {n : Nat} {A : Around} (h : Ok (n + 1) A) (env : Env) : Ok n (A.deeper env) := ⟨h.1, by have := h.2.1; show A.depth + 1 + n < _; omega, by have := h.2.2; show A.units + 3 + _ + _ < _; omega⟩
theorem Ok.units {n : Nat} {A : Around} (h : Ok n A) : A.units < cLine := by have := h.2.2; omega

/-! ## an expression's value -/
def Ev (X : Wd) (t : Bool) (A : Around) (env : Env) (ρ : Vars) (e : Expr) (P : Rp) : Prop :=
  ∀ s E, X.G s.heap → X.tb s.heap → Vs env ρ s.heap → wpAny X.M A (eval e env) (fun v s' => P s'.heap v ∧ X.K t s s') E s
def Tv (X : Wd) (t : Bool) (A : Around) (env : Env) (ρ : Vars) (e : Expr) (b : Bool) : Prop :=
  ∀ s E, X.G s.heap → X.tb s.heap → Vs env ρ s.heap → wpAny X.M A (isTrue e env (eval e env)) (fun r s' => r = b ∧ X.K t s s') E s
/-- a value tree, from any state -/
def Op (X : Wd) (t : Bool) (A : Around) (s : Shared) (m : Sem Value) (P : Rp) : Prop := ∀ E, wpAny X.M A m (fun v s' => P s'.heap v ∧ X.K t s s') E s
section
variable {X : Wd} {t : Bool} {A : Around} {env : Env} {ρ : Vars} {P P1 P2 P3 : Rp} {pos : Pos}
theorem Ev.mono {e : Expr} {P' : Rp} (h : Ev X t A env ρ e P) (hp : ∀ h v, P h v → P' h v) : Ev X t A env ρ e P' := fun s E g b v =>
  wpAny_mono (h s E g b v) (fun _ _ ⟨p, k⟩ => ⟨hp _ _ p, k⟩) fun _ _ x => x
theorem Ev.lift {e : Expr} (h : Ev X false A env ρ e P) : Ev X t A env ρ e P := fun s E g b v =>
  wpAny_mono (h s E g b v) (fun _ _ ⟨p, k⟩ => ⟨p, k.lift⟩) fun _ _ x => x
theorem Tv.lift {e : Expr} {b : Bool} (h : Tv X false A env ρ e b) : Tv X t A env ρ e b := fun s E g b v =>
  wpAny_mono (h s E g b v) (fun _ _ ⟨p, k⟩ => ⟨p, k.lift⟩) fun _ _ x => x
theorem Ev.int {i : Int} {k : Nat} : Ev X t A env ρ (.Constant (.int i) k pos) (RInt i) := fun _ _ _ _ _ => wpAny_Constant_int ⟨⟨_, rfl⟩, Wd.K.tok⟩
theorem Ev.str {x : Str} {k : Nat} : Ev X t A env ρ (.Constant (.str x) k pos) (RStr x) := fun _ _ _ _ _ => Constant_str ⟨⟨_, rfl⟩, Wd.K.tok⟩
theorem Ev.bytes {b : List UInt8} {k : Nat} : Ev X t A env ρ (.Constant (.bytes b) k pos) (RBytes b.toArray) := fun s E _ _ _ => by
  rw [eval_Constant]
  intro Γ p _
  show RBytes b.toArray _ (.bytes b.toArray s.toks) ∧ X.K t s { s with toks := s.toks + 1 }
  exact ⟨⟨_, rfl⟩, Wd.K.tok⟩
theorem Ev.boolc {b : Bool} {k : Nat} : Ev X t A env ρ (.Constant (.bool b) k pos) (RBool b) := fun _ _ _ _ _ => by
  rw [eval_Constant]
  exact wpAny_pure ⟨rfl, Wd.K.refl⟩
theorem Ev.name {x : Str} (hx : ρ.lookup x = some P) (hk : env.scope.kind = .function) (hd : (x == ("__debug__" : Str)) = false) : Ev X t A env ρ (.Name x pos) P := fun s E _ _ v => by
  obtain ⟨_, u, hv, hp⟩ := v x P hx
  refine wpAny_Name ?_ hd
  rcases hv with ⟨a, m, n, e⟩ | ⟨a, c, n, e⟩
  · exact wpAny_loadName_local hk a n e ⟨hp, Wd.K.refl⟩
  · rcases a with a | ⟨a, h0⟩
    · exact wpAny_loadName_cell hk a n e ⟨hp, Wd.K.refl⟩
    · exact wpAny_loadName_free hk a n e ⟨hp, Wd.K.refl⟩ h0
theorem Ev.global {x : Str} {v : Value} (hv : X.mg x = some v) (hk : env.scope.kind = .function) (hx : env.kindOf x = some .globalImplicit) (hg : env.globals = mainGlobals)
    (hd : (x == ("__debug__" : Str)) = false) : Ev X t A env ρ (.Name x pos) (RIs v) := fun s E g _ _ =>
  Name_function_global hk hx (loadGlobal_global (env := env) (by rw [hg]; exact X.hg _ g) hv ⟨rfl, Wd.K.refl⟩) hd
theorem Ev.builtin {x : Str} {v : Value} (hm : X.mg x = none) (hv : X.mb x = some v) (hk : env.scope.kind = .function) (hx : env.kindOf x = some .globalImplicit) (hg : env.globals = mainGlobals) (hb : env.builtins = builtinsNs)
    (hd : (x == ("__debug__" : Str)) = false) : Ev X t A env ρ (.Name x pos) (RIs v) := fun s E g _ _ =>
  Name_function_global hk hx (loadGlobal_builtin (env := env) (by rw [hg]; exact X.hg _ g) hm (by rw [hb]; exact X.hb _ g) hv ⟨rfl, Wd.K.refl⟩) hd

theorem Ev.bin {l r : Expr} {op : Operator} (sp : Stab P1) (h1 : Ev X t A env ρ l P1) (h2 : Ev X t A env ρ r P2)
    (hop : ∀ s a b, X.G s.heap → X.tb s.heap → P1 s.heap a → P2 s.heap b → Op X t A s (binaryOp op a b) P) : Ev X t A env ρ (.BinOp l op r pos) P := fun s E g b v =>
  wpAny_BinOp (wpAny_mono (h1 s E g b v) (fun a s1 ⟨p1, k1⟩ => wpAny_mono (h2 s1 E (k1.g g) (k1.tb b) (v.kn k1.kn)) (fun c s2 ⟨p2, k2⟩ =>
    wpAny_mono (hop s2 a c (k2.g (k1.g g)) (k2.tb (k1.tb b)) (sp _ _ _ k2.kn.sv p1) p2 E) (fun _ _ ⟨p, k⟩ => ⟨p, k1.trans (k2.trans k)⟩) fun _ _ x => x) fun _ _ x => x) fun _ _ x => x)
theorem Ev.cmp {l r : Expr} {op : CmpOp} (sp : Stab P1) (h1 : Ev X t A env ρ l P1) (h2 : Ev X t A env ρ r P2)
    (hop : ∀ s a b, X.G s.heap → X.tb s.heap → P1 s.heap a → P2 s.heap b → Op X t A s (compareOp op a b) P) (hm : behindInMarks op r = false) : Ev X t A env ρ (.Compare l [op] [r] pos) P := fun s E g b v =>
  wpAny_Compare1 (wpAny_mono (h1 s E g b v) (fun a s1 ⟨p1, k1⟩ => wpAny_mono (h2 s1 E (k1.g g) (k1.tb b) (v.kn k1.kn)) (fun c s2 ⟨p2, k2⟩ =>
    wpAny_mono (hop s2 a c (k2.g (k1.g g)) (k2.tb (k1.tb b)) (sp _ _ _ k2.kn.sv p1) p2 E) (fun _ _ ⟨p, k⟩ => ⟨p, k1.trans (k2.trans k)⟩) fun _ _ x => x) fun _ _ x => x) fun _ _ x => x) hm
theorem Tv.cmp {l r : Expr} {op : CmpOp} {q : Bool} (sp : Stab P1) (h1 : Ev X t A env ρ l P1) (h2 : Ev X t A env ρ r P2)
    (hop : ∀ s a b, X.G s.heap → X.tb s.heap → P1 s.heap a → P2 s.heap b → Op X t A s (compareOp op a b) (RBool q)) (hm : behindInMarks op r = false) : Tv X t A env ρ (.Compare l [op] [r] pos) q := fun s E g b v =>
  wpAny_isTrue_Compare1 (wpAny_mono (h1 s E g b v) (fun a s1 ⟨p1, k1⟩ => wpAny_mono (h2 s1 E (k1.g g) (k1.tb b) (v.kn k1.kn)) (fun c s2 ⟨p2, k2⟩ =>
    wpAny_mono (hop s2 a c (k2.g (k1.g g)) (k2.tb (k1.tb b)) (sp _ _ _ k2.kn.sv p1) p2 E) (fun r s3 ⟨p, k⟩ => by
      rw [show r = .bool q from p]
      exact wpAny_truthy_bool ⟨rfl, k1.trans (k2.trans k)⟩) fun _ _ x => x) fun _ _ x => x) fun _ _ x => x) hm
theorem arm_IfExp {M : Model} {E : Value → Shared → Prop} {s : Shared} {c a b : Expr} {Q : Value → Shared → Prop}
    (h : wpAny M A (isTrue c env (eval c env)) (fun r s' => if r = true then wpAny M A (eval a env) Q E s' else wpAny M A (eval b env) Q E s') E s) : wpAny M A (eval (.IfExp c a b pos) env) Q E s := by
  show wpAny M A (do if ← isTrue c env (eval c env) then eval a env else eval b env) Q E s
  exact wpAny_bind (wpAny_mono h (fun r s' h' => by cases r <;> exact h') fun _ _ x => x)
theorem Ev.ite {c a b : Expr} {q : Bool} (hc : Tv X t A env ρ c q) (ha : q = true → Ev X t A env ρ a P) (hb : q = false → Ev X t A env ρ b P) : Ev X t A env ρ (.IfExp c a b pos) P := fun s E g bb v => by
  refine arm_IfExp (wpAny_mono (hc s E g bb v) (fun r s1 ⟨e, k⟩ => ?_) fun _ _ x => x)
  subst e
  cases r with
  | true => exact wpAny_mono (ha rfl s1 E (k.g g) (k.tb bb) (v.kn k.kn)) (fun _ _ ⟨p, k'⟩ => ⟨p, k.trans k'⟩) fun _ _ x => x
  | false => exact wpAny_mono (hb rfl s1 E (k.g g) (k.tb bb) (v.kn k.kn)) (fun _ _ ⟨p, k'⟩ => ⟨p, k.trans k'⟩) fun _ _ x => x
end

/-! ## ints -/
section
variable {X : Wd} {t : Bool} {A : Around} {s : Shared} {a b : Value} {i j : Int}
theorem op_add (ha : RInt i s.heap a) (hb : RInt j s.heap b) : Op X t A s (binaryOp .Add a b) (RInt (i + j)) := fun E => by
  obtain ⟨_, rfl⟩ := ha; obtain ⟨_, rfl⟩ := hb
  exact wpAny_add_int ⟨⟨_, rfl⟩, Wd.K.tok⟩
theorem op_sub (ha : RInt i s.heap a) (hb : RInt j s.heap b) : Op X t A s (binaryOp .Sub a b) (RInt (i - j)) := fun E => by
  obtain ⟨_, rfl⟩ := ha; obtain ⟨_, rfl⟩ := hb
  exact sub_int ⟨⟨_, rfl⟩, Wd.K.tok⟩
theorem op_mul (hm : IntMulOk i j) (ha : RInt i s.heap a) (hb : RInt j s.heap b) : Op X t A s (binaryOp .Mult a b) (RInt (i * j)) := fun E => by
  obtain ⟨_, rfl⟩ := ha; obtain ⟨_, rfl⟩ := hb
  exact mul_int ⟨⟨_, rfl⟩, Wd.K.tok⟩ hm
end
end Mine
namespace Mine

/-! ## what is walked -/
def Itb {α : Type} (X : Wd) (P : Rp) (R : α → Rp) (l : List α) : Prop :=
  ∀ (A : Around) (s : Shared) (E : Value → Shared → Prop) (Q : Value → Shared → Prop) (v : Value), P s.heap v →
    (∀ (o : Obj) (fp : List Addr) (Pi : Nat → Value → Prop) (St : Nat → Heap → Prop),
      (∀ A' : Around, A'.handled = none → Walks X.prog X.w A' s.heap.objs.size fp [s.heap.objs.size] l.length Pi St) → (∀ i u, Pi i u → ∃ x, l[i]? = some x ∧ R x s.heap u) →
      St 0 (s.heap.push o) → (∀ b : Nat, b ∈ fp → b ≤ s.heap.objs.size) → (∀ i h, St i h → (∀ b : Nat, b ∈ fp → ∃ o, h.get? b = some o ∧ Lasting o) ∧ ∃ o vs, h.get? s.heap.objs.size = some o ∧ o.data = .fields vs ∧ ¬ IsVal o ∧ ¬ IsFld o) → Q (.ref s.heap.objs.size) { s with heap := s.heap.push o }) → wpAny X.M A (pyIter v) Q E s
theorem paired_get {α β : Type} {F : α → β → Prop} : ∀ {l : List α} {m : List β} {i : Nat} {u : β}, Paired F l m → m[i]? = some u → ∃ x, l[i]? = some x ∧ F x u
  | _, _, 0, u, .cons h _, e => ⟨_, rfl, by cases e; exact h⟩
  | _, _, i + 1, u, .cons _ r, e => paired_get (i := i) r e
theorem paired_len {α β : Type} {F : α → β → Prop} {l : List α} {m : List β} (h : Paired F l m) : l.length = m.length := h.length
theorem iter_ok {o : Obj} {ty : String} {vs : Array Value} {i : Int} {t : Tok} (hc : o.cls = .type ty) (hty : ty ≠ "range") (hd : o.data = .fields vs) (h1 : vs[1]? = some (.int i t)) : Lasting o ∧ ¬ IsVal o ∧ ¬ IsFld o := by
  have nt' : ∀ ps, o ≠ tabObj ps := fun ps q => by rw [q] at hc; cases hc
  have nt : ¬ IsTab o := fun ⟨ps, q, _⟩ => nt' ps q
  refine ⟨⟨by rw [hd]; trivial, nt⟩, fun ⟨_, q⟩ => ?_, fun q => ?_⟩
  · rcases q with ⟨_, _, q⟩ | ⟨q, _⟩
    · rw [hd] at q; cases q
    · rw [hc] at q; cases q; exact hty rfl
  · rcases q with ⟨ps, q⟩ | ⟨vs', _, _, q, r⟩
    · exact nt' ps q
    · rw [hd] at q; cases q
      rw [h1] at r; cases r
theorem iter_one {h : Heap} {I : Nat} {o : Obj} {ty : String} {vs : Array Value} {i : Int} {t : Tok} (e : h.get? I = some o) (hc : o.cls = .type ty) (hty : ty ≠ "range") (hd : o.data = .fields vs) (h1 : vs[1]? = some (.int i t)) :
    (∀ b : Nat, b ∈ [I] → ∃ o, h.get? b = some o ∧ Lasting o) ∧ ∃ o vs, h.get? I = some o ∧ o.data = .fields vs ∧ ¬ IsVal o ∧ ¬ IsFld o :=
  let K := iter_ok hc hty hd h1
  ⟨fun b hb => by rw [List.mem_singleton.mp hb]; exact ⟨o, e, K.1⟩, o, vs, e, hd, K.2⟩
theorem itb_list {α : Type} {X : Wd} {R : α → Rp} {l : List α} : Itb X (RList R l) R l := fun A s E Q v ⟨a, vs, e, ⟨n, hl⟩, p⟩ k => by
  subst e
  have hL : s.heap.IsList a vs := ⟨_, hl, rfl, n, rfl⟩
  have hlen : l.length = vs.size := by rw [p.length]; simp
  refine wpAny_pyIter_list hL (k _ [s.heap.objs.size, a] _ _ (fun A' hA => hlen ▸ Walks.list hA s.heap.objs.size a (Nat.ne_of_lt (Heap.lt_size hl)) vs) (fun i u hu => ?_) ⟨⟨_, Heap.get?_push_size _ rfl, rfl, rfl⟩, hL.push _⟩ ?_ fun i h st => ?_)
  rotate_left 2
  · obtain ⟨⟨o, e, hc, hd⟩, o', e', hc', n', hd'⟩ := st
    have K := iter_ok hc (by decide) hd rfl
    refine ⟨fun b hb => ?_, o, _, e, hd, K.2⟩
    rcases List.mem_cons.mp hb with rfl | hb
    · exact ⟨o, e, K.1⟩
    · rw [List.mem_singleton.mp hb]
      exact ⟨o', e', by rw [hd']; trivial, fun ⟨ps, q, _⟩ => by rw [q] at hc'; cases hc'⟩
  · exact paired_get p (by simpa using hu)
  · intro b hb
    rcases List.mem_cons.mp hb with rfl | hb
    · exact Nat.le_refl _
    · rw [List.mem_singleton.mp hb]; exact Nat.le_of_lt (Heap.lt_size hl)
theorem itb_str {X : Wd} {x : Str} : Itb X (RStr x) (fun c : Nat => RStr ⟨#[c]⟩) x.cps.toList := fun A s E Q v ⟨t, e⟩ k => by
  subst e
  have sg : ∀ i u, SignAt x i u → ∃ c : Nat, x.cps.toList[i]? = some c ∧ RStr ⟨#[c]⟩ s.heap u := fun i u ⟨c, t', hc, hu⟩ => ⟨c, by simpa using hc, t', hu⟩
  cases ha : x.cps.all (· < 128)
  · exact wpAny_pyIter_wide ha (k _ [s.heap.objs.size] (SignAt x) (fun i h => h.IsStrIter s.heap.objs.size "str_iterator" x t i) (fun A' hA => by simpa using Walks.strWide hA _ x t) sg ⟨_, Heap.get?_push_size _ rfl, rfl, rfl⟩ (fun b hb => by rw [List.mem_singleton.mp hb]; exact Nat.le_refl _) fun i h st => let ⟨o, e, hc, hd⟩ := st; iter_one e hc (by decide) hd rfl)
  · exact wpAny_pyIter_ascii ha (k _ [s.heap.objs.size] (SignAt x) (fun i h => h.IsStrIter s.heap.objs.size "str_ascii_iterator" x t i) (fun A' hA => by simpa using Walks.strAscii hA _ x t) sg ⟨_, Heap.get?_push_size _ rfl, rfl, rfl⟩ (fun b hb => by rw [List.mem_singleton.mp hb]; exact Nat.le_refl _) fun i h st => let ⟨o, e, hc, hd⟩ := st; iter_one e hc (by decide) hd rfl)
def irange (a b : Int) : List Int := (List.range (b - a).toNat).map fun i => a + (i : Nat)
theorem itb_range {X : Wd} {a b : Int} (ha : -(2 ^ 62) ≤ a) (ha' : a < 2 ^ 62) (hb : -(2 ^ 62) ≤ b) (hb' : b < 2 ^ 62) : Itb X (RRange a b 1) RInt (irange a b) := fun A s E Q v ⟨r, t, u, w, e, hr⟩ k => by
  subst e
  refine wpAny_pyIter_range hr (small_one ha ha' hb hb') (k _ [s.heap.objs.size] (fun i v => i < (irange a b).length ∧ ∃ t, v = .int (a + (i : Nat) * 1) t) (fun i h => IsRangeIter h s.heap.objs.size (a + (i : Nat) * 1) (((irange a b).length : Int) - (i : Nat)) 1)
    (fun A' hA => (Walks.range hA s.heap.objs.size a 1 (irange a b).length).bound) (fun i u ⟨hi, t, hu⟩ => ⟨a + (i : Nat), ?_, t, by rw [hu]; simp⟩) ?_ ?_ fun i h st => iter_one (t := 0) st rfl (by decide) rfl rfl)
  · have : i < (b - a).toNat := by simpa [irange] using hi
    simp [irange, this]
  · have hsz : Builtin.Range.rangeSize a b 1 = ((irange a b).length : Int) := by
      rw [rangeSize_one]
      simp only [irange, List.length_map, List.length_range]
      split <;> omega
    rw [hsz]
    show IsRangeIter _ _ _ _ _
    simpa [IsRangeIter] using Heap.get?_push_size _ rfl
  · intro b hb; rw [List.mem_singleton.mp hb]; exact Nat.le_refl _

/-! ## a comprehension -/
def EvN (X : Wd) (t : Bool) (A : Around) (env : Env) (ρ : Vars) (e : Expr) (P : Rp) : Prop :=
  ∀ s E, X.G s.heap → X.tb s.heap → Vs env ρ s.heap → wpAny X.M A (eval e env) (fun v s' => (P s'.heap v ∧ ∀ a, v = .ref a → s.heap.get? a = none) ∧ X.K t s s') E s
def Scal (P : Rp) : Prop := ∀ h v, P h v → ∀ a, v ≠ .ref a
theorem scal_int {i : Int} : Scal (RInt i) := fun _ _ ⟨_, e⟩ _ q => by subst e; cases q
theorem scal_str {i : Str} : Scal (RStr i) := fun _ _ ⟨_, e⟩ _ q => by subst e; cases q
theorem Ev.new {X : Wd} {t : Bool} {A : Around} {env : Env} {ρ : Vars} {e : Expr} {P : Rp} (sc : Scal P) (h : Ev X t A env ρ e P) : EvN X t A env ρ e P := fun s E g b v =>
  wpAny_mono (h s E g b v) (fun u _ ⟨p, k⟩ => ⟨⟨p, fun a q => absurd q (sc _ _ p a)⟩, k⟩) fun _ _ x => x
theorem EvN.ev {X : Wd} {t : Bool} {A : Around} {env : Env} {ρ : Vars} {e : Expr} {P : Rp} (h : EvN X t A env ρ e P) : Ev X t A env ρ e P := fun s E g b v =>
  wpAny_mono (h s E g b v) (fun u _ ⟨p, k⟩ => ⟨p.1, k⟩) fun _ _ x => x
def Shal (P : Rp) : Prop := ∀ h h' v, P h v → (∀ a o, v = .ref a → h.get? a = some o → h'.get? a = some o) → P h' v
theorem shal_int {i : Int} : Shal (RInt i) := fun _ _ _ h _ => h
theorem shal_str {i : Str} : Shal (RStr i) := fun _ _ _ h _ => h
theorem shal_list {α : Type} {R : α → Rp} (hR : ∀ x h h' v, R x h v → R x h' v) {l : List α} : Shal (RList R l) := fun h h' v ⟨a, vs, e, ⟨n, hl⟩, p⟩ k =>
  ⟨a, vs, e, ⟨n, k a _ e hl⟩, paired_imp (fun x u r => hR x h h' u r) p⟩

def cEnv (scope : Scope) (cl : List (Str × Addr)) (C : Addr) (env : Env) : Env :=
  { scope := relabel scope env, locals := C, globals := env.globals, cells := cellsFrom (C + 1) scope.names cl, qual := env.qual, func := none, code := env.code, frame := env.frame, builtins := env.builtins }
theorem newEnv_comp {M : Model} {A : Around} {E : Value → Shared → Prop} {s : Shared} {scope : Scope} {cl : List (Str × Addr)} {env : Env} {Q : Env → Shared → Prop}
    (h : Q { cEnv scope cl s.heap.objs.size env with scope := scope } { s with heap := pushCells (s.heap.push { cls := .type "dict", data := .dict #[] }) scope.names }) :
    wpAny M A (newFunctionEnv scope env.globals cl [] env.qual none .none (some env)) Q E s := by
  simp only [newFunctionEnv, Option.isSome_some, if_true]
  refine wpAny_bind (wpAny_alloc ?_)
  refine wpAny_bind (wpAny_layCells _ (fun name kind cells => by cases hkc : kind == NameKind.cell <;> simp) _ _ _ _ ?_)
  rw [List.forIn_nil]
  refine wpAny_bind (wpAny_pure (wpAny_pure ?_))
  have e : ({ s with heap := s.heap.push { cls := .type "dict", data := .dict #[] } } : Shared).heap.objs.size = s.heap.objs.size + 1 := Heap.size_push ..
  rw [e]
  exact h

/-- the loop's name: a plain one, or one that a block within keeps in a cell -/
inductive XKind (scope : Scope) (env : Env) (cl : List (Str × Addr)) (x : Str) : Bool → Prop
  | loc : (relabel scope env).names.lookup x = some .local → (∀ n, cellsFrom n scope.names cl = cl) → (∀ h, pushCells h scope.names = h) → XKind scope env cl x false
  | cel : (relabel scope env).names.lookup x = some .cell → (∀ n, cellsFrom n scope.names cl = (x, n) :: cl) → (∀ h, pushCells h scope.names = h.push { cls := .type "cell", data := .cell none }) → XKind scope env cl x true
structure Cf (own : Bool) (C : Addr) (h : Heap) : Prop where
  ns : ∃ m, h.Ns C m
  cell : own = true → ∃ v, h.IsCell (C + 1) v
theorem Cf.keeps {own : Bool} {C : Addr} {h h' : Heap} (x : Cf own C h) (k : ∀ (b : Nat) (o : Obj), LE.le (α := Nat) C b → h.get? b = some o → h'.get? b = some o) : Cf own C h' :=
  ⟨let ⟨m, o, es, ep, e, r⟩ := x.ns; ⟨m, o, es, ep, k _ _ (Nat.le_refl _) e, r⟩, fun q => let ⟨v, o, e, r⟩ := x.cell q; ⟨v, o, k _ _ (Nat.le_succ _) e, r⟩⟩
theorem store_x {X : Wd} {A : Around} {E : Value → Shared → Prop} {s : Shared} {scope : Scope} {env : Env} {cl : List (Str × Addr)} {C : Addr} {x : Str} {own : Bool} {v : Value} {Q : Unit → Shared → Prop}
    (hk : scope.kind = .function) (hx : XKind scope env cl x own) (hc : Cf own C s.heap)
    (h : ∀ h' tk, (∀ (b : Nat) (o : Obj), LT.lt (α := Nat) b C → s.heap.get? b = some o → h'.get? b = some o) → Sv s.heap h' → Cf own C h' → VarIs (cEnv scope cl C env) h' x v → Q () { s with heap := h', toks := tk }) :
    wpAny X.M A (storeName (cEnv scope cl C env) x v) Q E s := by
  obtain ⟨m, hn⟩ := hc.ns
  cases hx with
  | loc hl _ _ =>
    refine wpAny_storeName_local (env := cEnv scope cl C env) hl hn (fun h' hn' hs => h h' _ (fun b o hb e => (hs.2 b (Nat.ne_of_lt hb)).trans e) (fun b o e hv => ?_) ⟨⟨_, hn'⟩, fun q => nomatch q⟩ (.inl ⟨hl, _, hn', by simp⟩))
      (by show (scope.kind == .class || (scope.kind == .module && C != env.globals)) = false; rw [hk]; rfl)
    refine (hs.2 b fun q => ?_).trans e
    obtain ⟨o', es, ep, e', hd, _⟩ := hn
    have q : b = C := q
    subst q
    rw [e] at e'; cases e'
    rcases hv.2 with ⟨_, _, z⟩ | ⟨_, _, z⟩ <;> (rw [hd] at z; cases z)
  | cel hl hcf _ =>
    obtain ⟨v₀, hv₀⟩ := hc.cell rfl
    have hlk : (cEnv scope cl C env).cells.lookup x = some (C + 1) := by
      show (cellsFrom (C + 1) scope.names cl).lookup x = _
      rw [hcf]; simp
    refine wpAny_storeName_cell (env := cEnv scope cl C env) hk hl hlk hv₀ fun h' hc' hs => h h' s.toks (fun b o hb e => (hs.2 b (Nat.ne_of_lt (Nat.lt_succ_of_lt hb))).trans e) (fun b o e hv => ?_) ⟨⟨m, ?_⟩, fun _ => ⟨_, hc'⟩⟩ (.inr ⟨.inl hl, C + 1, hlk, hc'⟩)
    · refine (hs.2 b fun q => ?_).trans e
      obtain ⟨o', e', hd⟩ := hv₀
      have q : b = C + 1 := q
      subst q
      rw [e] at e'; cases e'
      rcases hv.2 with ⟨_, _, z⟩ | ⟨_, _, z⟩ <;> (rw [hd] at z; cases z)
    · obtain ⟨o', es, ep, e', r⟩ := hn
      exact ⟨o', es, ep, (hs.2 C (Nat.ne_of_lt (Nat.lt_succ_self C))).trans e', r⟩

theorem nm {b I : Nat} (h : I < b ∨ b < I) : b ∉ [I] := by
  rw [List.mem_singleton]; omega
theorem nq {b I : Nat} (h : I < b ∨ b < I) : b ≠ I := by omega
def capV (ρ : Vars) (caps : List Str) : Vars := caps.filterMap fun y => (ρ.lookup y).map fun P => (y, P)
inductive CapsOk (scope : Scope) (env : Env) (cl : List (Str × Addr)) : List Str → Prop
  | nil : CapsOk scope env cl []
  | cons {y : Str} {r : List Str} {c : Addr} : env.cells.lookup y = some c → (∀ C, (cEnv scope cl C env).cells.lookup y = some c) → (∀ C, (cEnv scope cl C env).kindOf y = some .cell ∨ ((cEnv scope cl C env).kindOf y = some .free ∧ (y == ("__classdict__" : Str)) = false)) →
      env.kindOf y ≠ some .local → CapsOk scope env cl r → CapsOk scope env cl (y :: r)
theorem caps_vs {scope : Scope} {env : Env} {cl : List (Str × Addr)} {C : Addr} {ρ : Vars} {h : Heap} (V : Vs env ρ h) : ∀ {caps : List Str}, CapsOk scope env cl caps → Vs (cEnv scope cl C env) (capV ρ caps) h
  | [], _ => fun x P e => by cases e
  | y :: r, .cons (c := c) h1 h2 h3 h4 hr => fun x P e => by
    unfold capV at e
    rw [List.filterMap_cons] at e
    cases hy : ρ.lookup y with
    | none => rw [hy] at e; exact caps_vs V hr x P e
    | some P₀ =>
      rw [hy] at e
      simp only [Option.map_some] at e
      rw [List.lookup_cons] at e
      cases hb : x == y with
      | false => rw [hb] at e; exact caps_vs V hr x P e
      | true =>
        rw [hb] at e
        cases e
        have hxy : x = y := eq_of_beq hb
        subst hxy
        obtain ⟨sp, v, hv, hp⟩ := V _ _ hy
        refine ⟨sp, v, .inr ⟨h3 C, c, h2 C, ?_⟩, hp⟩
        rcases hv with ⟨a, _⟩ | ⟨_, c', e1, e2⟩
        · exact absurd a h4
        · rw [h1] at e1; cases e1; exact e2
theorem vs_cons {env : Env} {ρ : Vars} {h : Heap} {x : Str} {P : Rp} {v : Value} (sp : Stab P) (hv : VarIs env h x v) (hp : P h v) (V : Vs env ρ h) : Vs env ((x, P) :: ρ) h := fun y Q e => by
  rw [List.lookup_cons] at e
  cases hb : y == x with
  | true => rw [hb] at e; cases e; rw [eq_of_beq hb]; exact ⟨sp, v, hv, hp⟩
  | false => rw [hb] at e; exact V y Q e

def Tests (X : Wd) (A : Around) (env : Env) (ρ : Vars) (ifs : List Expr) (b : Bool) : Prop :=
  ∀ s E, X.G s.heap → X.tb s.heap → Vs env ρ s.heap →
    wpAny X.M A (forIn ifs true fun c r => if r = true then do let ok ← isTrue c env (eval c env); pure (ForInStep.yield ok) else pure (ForInStep.yield r)) (fun ok s' => ok = b ∧ X.K false s s') E s
theorem Tests.nil {X : Wd} {A : Around} {env : Env} {ρ : Vars} : Tests X A env ρ [] true := fun s E _ _ _ => wpAny_tests_nil ⟨rfl, Wd.K.refl⟩
theorem Tests.one {X : Wd} {A : Around} {env : Env} {ρ : Vars} {c : Expr} {b : Bool} (h : Tv X false A env ρ c b) : Tests X A env ρ [c] b := fun s E g t v => wpAny_tests_one (h s E g t v)

section
variable {α β : Type} {X : Wd} {A : Around} {env : Env} {ρ : Vars} {scope : Scope} {cl : List (Str × Addr)} {x : Str} {px pos : Pos} {elt iter : Expr} {ifs : List Expr} {own : Bool} {caps : List Str}
  {l : List α} {R : α → Rp} {p : α → Bool} {g : α → β} {R' : β → Rp}

theorem take_filter_map {i : Nat} {a : α} (h : l[i]? = some a) : ((l.take (i + 1)).filter p).map g = ((l.take i).filter p).map g ++ (if p a then [g a] else []) := by
  rw [List.take_add_one, h, List.filter_append, List.map_append]
  cases hp : p a <;> simp [hp]

theorem paired_mem {γ δ : Type} {F G : γ → δ → Prop} : ∀ {l : List γ} {m : List δ}, (∀ a b, b ∈ m → F a b → G a b) → Paired F l m → Paired G l m
  | _, _, _, .nil => .nil
  | _, _, h, .cons x r => .cons (h _ _ (.head _) x) (paired_mem (fun a b hb => h a b (.tail _ hb)) r)
theorem comp_core {s₂ : Shared} {h₁ : Heap} {I : Addr} {fp : List Addr} {Pi : Nat → Value → Prop} {St : Nat → Heap → Prop} {E : Value → Shared → Prop} {RR : Value → Addr → Result → Shared → Prop}
    (hA : A.handled = none) (hlen : l.length ≤ sizeLine) (hkind : scope.kind = .function) (hx : XKind scope env cl x own) (hcaps : CapsOk scope env cl caps)
    (hI : I = h₁.objs.size) (hs₂ : s₂.heap.objs.size = h₁.objs.size + 1) (hk₂ : ∀ b o, h₁.get? b = some o → s₂.heap.get? b = some o)
    (W : Walks X.prog X.w A I fp [I] l.length Pi St) (hP : ∀ i u, Pi i u → ∃ a, l[i]? = some a ∧ R a h₁ u) (hst : St 0 s₂.heap) (hIx : ∀ i h, St i h → (∀ b : Nat, b ∈ fp → ∃ o, h.get? b = some o ∧ Lasting o) ∧ ∃ o vs, h.get? I = some o ∧ o.data = .fields vs ∧ ¬ IsVal o ∧ ¬ IsFld o) (hfp : ∀ b : Nat, b ∈ fp → b ≤ h₁.objs.size)
    (G₁ : X.G h₁) (T₁ : X.tb h₁) (V₁ : Vs env ρ h₁) (hRs : ∀ a, Stab (R a)) (hRs' : ∀ b, Stab (R' b)) (hRl : ∀ b, Shal (R' b))
    (ht : ∀ C a, a ∈ l → Tests X A (cEnv scope cl C env) ((x, R a) :: capV ρ caps) ifs (p a))
    (he : ∀ C a, a ∈ l → p a = true → EvN X false A (cEnv scope cl C env) ((x, R a) :: capV ρ caps) elt (R' (g a)))
    (hRR : ∀ h' tk ys m', h'.Ns (h₁.objs.size + 2) m' → h'.PlainList (h₁.objs.size + 1) ys → Paired (fun b y => R' b h' y) ((l.filter p).map g) ys.toList → (∀ y ∈ ys.toList, ∀ a : Nat, y = .ref a → Ne (α := Nat) a h₁.objs.size ∧ Ne (α := Nat) a (h₁.objs.size + 1)) → (∀ b o, h₁.get? b = some o → h'.get? b = some o) →
      RR (.ref (h₁.objs.size + 1)) (h₁.objs.size + 2) (.ok .next) { s₂ with heap := h', toks := tk }) :
    wpAny X.M A (newList []) (fun acc s₃ => wpAny X.M A (newFunctionEnv scope env.globals cl [] env.qual none .none (some env)) (fun cenv s₄ =>
      codeAny X.M A (.compStart (.ListComp elt [⟨.Name x px, iter, ifs, 0⟩] scope pos) 0 (.ref I) acc { cenv with scope := relabel scope env }) (RR acc cenv.locals) s₄) E s₃) E s₂ := by
  subst hI
  refine wpAny_newObj_type (newEnv_comp ?_)
  rw [hs₂]
  have e3 : ({ s₂ with heap := s₂.heap.push { cls := .type "list", data := .seq ([] : List Value).toArray } } : Shared).heap.objs.size = h₁.objs.size + 2 := by
    show (s₂.heap.push _).objs.size = _
    rw [Heap.size_push, hs₂]
  rw [e3]
  show codeAny X.M A (.compStart (.ListComp elt [⟨.Name x px, iter, ifs, 0⟩] scope pos) 0 (.ref h₁.objs.size) (.ref (h₁.objs.size + 1)) (cEnv scope cl (h₁.objs.size + 2) env)) (RR (.ref (h₁.objs.size + 1)) (h₁.objs.size + 2)) _
  generalize hh3 : s₂.heap.push { cls := .type "list", data := .seq ([] : List Value).toArray } = h₃ at e3
  have e3 : h₃.objs.size = h₁.objs.size + 2 := e3
  have k3 : ∀ b o, s₂.heap.get? b = some o → h₃.get? b = some o := fun b o e => hh3 ▸ Heap.get?_push_of_some _ e
  have l3 : h₃.PlainList (h₁.objs.size + 1) #[] := ⟨0, by rw [← hs₂, ← hh3]; exact Heap.get?_push_size _ rfl⟩
  dsimp only
  generalize hh4 : pushCells (h₃.push { cls := .type "dict", data := .dict #[] }) scope.names = h₄
  have k4 : ∀ b o, h₃.get? b = some o → h₄.get? b = some o := fun b o e => hh4 ▸ pushCells_keeps _ _ _ _ (Heap.get?_push_of_some _ e)
  have c4 : Cf own (h₁.objs.size + 2) h₄ := by
    have n0 : (h₃.push { cls := .type "dict", data := .dict #[] }).Ns (h₁.objs.size + 2) (fun _ => none) := e3 ▸ Heap.Ns.new h₃ (.type "dict")
    cases hx with
    | loc _ _ hp =>
      rw [hp] at hh4; subst hh4
      exact ⟨⟨_, n0⟩, fun q => nomatch q⟩
    | cel _ _ hp =>
      rw [hp] at hh4; subst hh4
      refine ⟨⟨_, n0.push _⟩, fun _ => ⟨none, { cls := .type "cell", data := .cell none }, ?_, rfl⟩⟩
      have : h₁.objs.size + 2 + 1 = (h₃.push { cls := .type "dict", data := .dict #[] }).objs.size := by rw [Heap.size_push, e3]
      rw [this]
      exact Heap.get?_push_size _ rfl
  have loop : codeAny X.M A (.compLoop (.ListComp elt [⟨.Name x px, iter, ifs, 0⟩] scope pos) 0 (.ref h₁.objs.size) (.ref (h₁.objs.size + 1)) (cEnv scope cl (h₁.objs.size + 2) env)) (RR (.ref (h₁.objs.size + 1)) (h₁.objs.size + 2)) { s₂ with heap := h₄ } := by
    refine codeAny_compLoop_tests
      (fun k s' => ∃ h' tk ys i, s' = { s₂ with heap := h', toks := tk } ∧ i ≤ l.length ∧ k = l.length + 1 - i ∧ St i h' ∧ h'.PlainList (h₁.objs.size + 1) ys ∧ Cf own (h₁.objs.size + 2) h' ∧
        Paired (fun b y => R' b h' y) (((l.take i).filter p).map g) ys.toList ∧ (∀ y ∈ ys.toList, ∀ a : Nat, y = .ref a → Ne (α := Nat) a h₁.objs.size ∧ Ne (α := Nat) a (h₁.objs.size + 1)) ∧ (∀ b o, h₁.get? b = some o → h'.get? b = some o) ∧ h₁.objs.size + 2 < h'.objs.size) ?_ (l.length + 1)
      ⟨h₄, s₂.toks, #[], 0, rfl, Nat.zero_le _, rfl, W.frame _ _ _ hst fun b _ o e => k4 _ _ (k3 _ _ e), l3.imp fun _ e => k4 _ _ e, c4, by simpa using Paired.nil, by simp, fun b o e => k4 _ _ (k3 _ _ (hk₂ _ _ e)), c4.ns.elim fun _ n => n.lt⟩
    rintro k s' ⟨H, tk, ys, i, rfl, hi, rfl, hst', hys, hc, hF, hfr, hk, hsz⟩
    have old : ∀ (b : Nat) (o : Obj), h₁.get? b = some o → LT.lt (α := Nat) b h₁.objs.size := fun b o e => Heap.lt_size e
    by_cases hlt : i < l.length
    · refine W.item i _ _ _ hlt hst' fun v H₁ tk₁ hPv hst₁ hk₁ => ?_
      obtain ⟨a, hla, hRa⟩ := hP i v hPv
      have ha : a ∈ l := List.mem_of_getElem? hla
      have hk₁' : ∀ (b : Nat) (o : Obj), LT.lt (α := Nat) h₁.objs.size b → H.get? b = some o → H₁.get? b = some o := fun b o hb e => hk₁ b o (nm (by omega)) e
      have hk₁o : ∀ b o, h₁.get? b = some o → H₁.get? b = some o := fun b o e => hk₁ b o (nm (by have := old b o e; omega)) (hk b o e)
      have hc₁ : Cf own (h₁.objs.size + 2) H₁ := hc.keeps fun b o hb e => hk₁' b o (by omega) e
      refine wpAny_assign_Name (store_x hkind hx hc₁ fun H₂ tk₂ hk₂ hv₂ hc₂ hxv => ?_)
      have hk₂o : ∀ b o, h₁.get? b = some o → H₂.get? b = some o := fun b o e => hk₂ b o (by have := old b o e; omega) (hk₁o b o e)
      have V₂ : Vs (cEnv scope cl (h₁.objs.size + 2) env) ((x, R a) :: capV ρ caps) H₂ := vs_cons (hRs a) hxv (hRs a _ _ _ (fun b o e _ => hk₂o b o e) hRa) (caps_vs (V₁.kn (t := false) (.of hk₂o)) hcaps)
      have G₂ : X.G H₂ := X.hG _ _ (.of hk₂o) G₁
      have T₂ : X.tb H₂ := X.hT _ _ (fun b o e _ => hk₂o b o e) T₁
      have st₂ : St (i + 1) H₂ := W.frame _ _ _ hst₁ fun b hb o e => hk₂ b o (by have := hfp b hb; omega) e
      have ys₂ : H₂.PlainList (h₁.objs.size + 1) ys := hys.imp fun _ e => hk₂ _ _ (by omega) (hk₁' _ _ (by omega) e)
      have hF₂ : Paired (fun b y => R' b H₂ y) (((l.take i).filter p).map g) ys.toList := by
        have : Paired (fun b y => R' b H₂ y ∧ True) (((l.take i).filter p).map g) ys.toList :=
          paired_mem (fun b y hy r => ⟨hRs' b _ _ _ hv₂ (hRl b _ _ _ r fun a o q e => hk₁ a o (by rw [List.mem_singleton]; exact (hfr y hy a q).1) e), trivial⟩) hF
        exact paired_imp (fun _ _ z => z.1) this
      refine wpAny_mono (ht _ a ha { s₂ with heap := H₂, toks := tk₂ } _ G₂ T₂ V₂) (fun ok s₃ ⟨eok, k₃⟩ => ?_) fun _ _ e => e
      subst eok
      obtain ⟨H₃, tk₃, rfl, hk₃, _⟩ := id k₃
      have hk₃ := hk₃.all
      have V₃ := V₂.kn k₃.kn
      have G₃ : X.G H₃ := X.hG _ _ (.of hk₃) G₂
      have T₃ : X.tb H₃ := X.hT _ _ (fun b o e _ => hk₃ b o e) T₂
      have st₃ : St (i + 1) H₃ := W.frame _ _ _ st₂ fun b _ o e => hk₃ b o e
      have hF₃ : Paired (fun b y => R' b H₃ y) (((l.take i).filter p).map g) ys.toList := paired_imp (fun b y r => hRl b _ _ _ r fun a o _ e => hk₃ a o e) hF₂
      have sz₃ : h₁.objs.size + 2 < H₃.objs.size := (hc₂.keeps fun b o _ e => hk₃ b o e).ns.elim fun _ n => n.lt
      cases hpa : p a with
      | false =>
        simp only [Bool.false_eq_true, if_false]
        refine ⟨l.length + 1 - (i + 1), by omega, H₃, tk₃, ys, i + 1, rfl, hlt, rfl, st₃, ys₂.imp fun _ e => hk₃ _ _ e, hc₂.keeps fun b o _ e => hk₃ b o e, ?_, hfr, fun b o e => hk₃ _ _ (hk₂o _ _ e), sz₃⟩
        rw [take_filter_map hla, hpa]; simpa using hF₃
      | true =>
        simp only [if_true]
        refine wpAny_mono (he _ a ha hpa { s₂ with heap := H₃, toks := tk₃ } _ G₃ T₃ V₃) (fun y s₄ ⟨⟨hy, hfy⟩, k₄⟩ => ?_) fun _ _ e => e
        obtain ⟨H₄, tk₄, rfl, hk₄, _⟩ := id k₄
        have hk₄ := hk₄.all
        have hF₄ : Paired (fun b y => R' b H₄ y) (((l.take i).filter p).map g) ys.toList := paired_imp (fun b y r => hRl b _ _ _ r fun a o _ e => hk₄ a o e) hF₃
        have hysz : ys.size ≤ sizeLine := by
          have e1 := hF.length
          have e2 : ((l.take i).filter p).length ≤ (l.take i).length := List.length_filter_le _ _
          have e3 : (l.take i).length ≤ i := List.length_take_le _ _
          have e4 : ys.toList.length = ys.size := by simp
          rw [List.length_map] at e1
          omega
        refine wpAny_list_append_plain (hsz := hysz) (ys₂.imp fun _ e => hk₄ _ _ (hk₃ _ _ e)) fun H₅ hl₅ hs₅ => ?_
        have hk₅ : ∀ (b : Nat) (o : Obj), Ne (α := Nat) b (h₁.objs.size + 1) → H₄.get? b = some o → H₅.get? b = some o := fun b o hb e => (hs₅.2 b hb).trans e
        have hnew : ∀ a : Nat, y = .ref a → Ne (α := Nat) a h₁.objs.size ∧ Ne (α := Nat) a (h₁.objs.size + 1) := fun a q => by
          have h9 : H₃.get? a = none := hfy a q
          refine ⟨fun z => ?_, fun z => ?_⟩
          · obtain ⟨_, o, _, ho, _⟩ := hIx _ _ st₃
            rw [← z, h9] at ho; cases ho
          · obtain ⟨n, ho⟩ := ys₂
            have := hk₃ _ _ ho
            rw [← z, h9] at this; cases this
        refine ⟨l.length + 1 - (i + 1), by omega, H₅, tk₄, ys.push y, i + 1, rfl, hlt, rfl, W.frame _ _ _ st₃ fun b hb o e => hk₅ b o (nq (by have := hfp b hb; omega)) (hk₄ b o e), hl₅,
          hc₂.keeps fun b o hb e => hk₅ b o (nq (by omega)) (hk₄ b o (hk₃ b o e)), ?_, ?_, fun b o e => hk₅ b o (nq (by have := old b o e; omega)) (hk₄ _ _ (hk₃ _ _ (hk₂o _ _ e))), ?_⟩
        · rw [take_filter_map hla, hpa]
          have z : Paired (fun b y => R' b H₅ y) (((l.take i).filter p).map g ++ [g a]) (ys.toList ++ [y]) := Paired.snoc
            (paired_imp (fun _ _ z => z.1) (paired_mem (G := fun b y => R' b H₅ y ∧ True) (fun b y hy r => ⟨hRl b _ _ _ r fun a o q e => hk₅ a o (hfr y hy a q).2 e, trivial⟩) hF₄))
            (hRl _ _ _ _ hy fun a o q e => hk₅ a o (hnew a q).2 e)
          simpa using z
        · intro z hz a q
          rw [Array.toList_push] at hz
          rcases List.mem_append.mp hz with hz | hz
          · exact hfr z hz a q
          · rw [List.mem_singleton.mp hz] at q; exact hnew a q
        · have : Cf own (h₁.objs.size + 2) H₅ := hc₂.keeps fun b o hb e => hk₅ b o (nq (by omega)) (hk₄ b o (hk₃ b o e))
          exact this.ns.elim fun _ n => n.lt
    · have hin : i = l.length := by omega
      subst hin
      refine W.done _ _ _ hst' fun H₁ tk₁ hk₁ => ?_
      have hk₁' : ∀ (b : Nat) (o : Obj), LT.lt (α := Nat) h₁.objs.size b → H.get? b = some o → H₁.get? b = some o := fun b o hb e => hk₁ b o (nm (by omega)) e
      obtain ⟨m', hn'⟩ := (hc.keeps fun b o hb e => hk₁' b o (by omega) e).ns
      refine hRR H₁ tk₁ ys m' hn' (hys.imp fun _ e => hk₁' _ _ (by omega) e) ?_ hfr fun b o e => hk₁ b o (nm (by have := old b o e; omega)) (hk b o e)
      rw [List.take_length] at hF
      exact paired_imp (fun _ _ z => z.1) (paired_mem (G := fun b y => R' b H₁ y ∧ True) (fun b y hy r => ⟨hRl b _ _ _ r fun a o q e => hk₁ a o (by rw [List.mem_singleton]; exact (hfr y hy a q).1) e, trivial⟩) hF)
  exact codeAny_compStart_list loop (W.self 0 _ _ _ (W.frame _ _ _ hst fun b _ o e => k4 _ _ (k3 _ _ e)) loop)

theorem Ev.comp {t : Bool} {P : Rp} (hA : A.handled = none) (hlen : l.length ≤ sizeLine) (hit : Ev X t A env ρ iter P) (hI : Itb X P R l)
    (hclos : closureFor scope env = pure cl) (hkind : scope.kind = .function) (hnames : ∀ y ∈ scope.names, y.2 = .local → scope.names.lookup y.1 = some .local)
    (hx : XKind scope env cl x own) (hcaps : CapsOk scope env cl caps) (hRs : ∀ a, Stab (R a)) (hRs' : ∀ b, Stab (R' b)) (hRl : ∀ b, Shal (R' b))
    (ht : ∀ C a, a ∈ l → Tests X A (cEnv scope cl C env) ((x, R a) :: capV ρ caps) ifs (p a))
    (he : ∀ C a, a ∈ l → p a = true → EvN X false A (cEnv scope cl C env) ((x, R a) :: capV ρ caps) elt (R' (g a)))
    (hs : ∀ x, foldedSetIterable iter env x = pure x := by intro _; rfl) :
    Ev X t A env ρ (.ListComp elt [⟨.Name x px, iter, ifs, 0⟩] scope pos) (RList R' ((l.filter p).map g)) := fun s E G T V => by
  rw [eval_ListComp]
  refine wpAny_comprehension_free (use := none) rfl hs hclos hkind hnames (wpAny_mono (hit s E G T V) (fun xv s₁ ⟨pv, k₁⟩ => ?_) fun _ _ e => e)
  refine hI A s₁ E _ xv pv fun o fp Pi St W hP hst hfp hIx => ?_
  refine comp_core (s₂ := { s₁ with heap := s₁.heap.push o }) (h₁ := s₁.heap) (RR := fun acc C => compPost X.M A E none _ acc C) hA hlen hkind hx hcaps rfl (Heap.size_push ..) (fun b o e => Heap.get?_push_of_some _ e)
    (W A hA) hP hst hIx hfp (k₁.g G) (k₁.tb T) (V.kn k₁.kn) hRs hRs' hRl ht he fun h' tk ys m' hn hl hF hfr hk => ?_
  refine ⟨m', hn, fun h'' hs'' => ⟨⟨_, ys, rfl, hl.imp fun _ e => (hs''.2 _ (nq (Or.inr (Nat.lt_succ_self _)))).trans e, ?_⟩, k₁.trans (Wd.K.heap fun b o e => (hs''.2 b (nq (Or.inr ?_))).trans (hk b o e))⟩⟩
  · refine paired_imp (fun b y r => hRs' b _ _ _ (fun c o e hv => (hs''.2 c fun q => ?_).trans e) r) hF
    obtain ⟨o', es, ep, e', hd, _⟩ := hn
    have q : c = s₁.heap.objs.size + 2 := q
    subst q
    rw [e] at e'; cases e'
    rcases hv.2 with ⟨_, _, z⟩ | ⟨_, _, z⟩ <;> (rw [hd] at z; cases z)
  · have : LT.lt (α := Nat) b s₁.heap.objs.size := Heap.lt_size e
    omega
theorem EvN.comp {P : Rp} (hA : A.handled = none) (hlen : l.length ≤ sizeLine) (hit : Ev X false A env ρ iter P) (hI : Itb X P R l)
    (hclos : closureFor scope env = pure cl) (hkind : scope.kind = .function) (hnames : ∀ y ∈ scope.names, y.2 = .local → scope.names.lookup y.1 = some .local)
    (hx : XKind scope env cl x own) (hcaps : CapsOk scope env cl caps) (hRs : ∀ a, Stab (R a)) (hRs' : ∀ b, Stab (R' b)) (hRl : ∀ b, Shal (R' b))
    (ht : ∀ C a, a ∈ l → Tests X A (cEnv scope cl C env) ((x, R a) :: capV ρ caps) ifs (p a))
    (he : ∀ C a, a ∈ l → p a = true → EvN X false A (cEnv scope cl C env) ((x, R a) :: capV ρ caps) elt (R' (g a)))
    (hs : ∀ x, foldedSetIterable iter env x = pure x := by intro _; rfl) :
    EvN X false A env ρ (.ListComp elt [⟨.Name x px, iter, ifs, 0⟩] scope pos) (RList R' ((l.filter p).map g)) := fun s E G T V => by
  rw [eval_ListComp]
  refine wpAny_comprehension_free (use := none) rfl hs hclos hkind hnames (wpAny_mono (hit s E G T V) (fun xv s₁ ⟨pv, k₁⟩ => ?_) fun _ _ e => e)
  refine hI A s₁ E _ xv pv fun o fp Pi St W hP hst hfp hIx => ?_
  refine comp_core (s₂ := { s₁ with heap := s₁.heap.push o }) (h₁ := s₁.heap) (RR := fun acc C => compPost X.M A E none _ acc C) hA hlen hkind hx hcaps rfl (Heap.size_push ..) (fun b o e => Heap.get?_push_of_some _ e)
    (W A hA) hP hst hIx hfp (k₁.g G) (k₁.tb T) (V.kn k₁.kn) hRs hRs' hRl ht he fun h' tk ys m' hn hl hF hfr hk => ?_
  refine ⟨m', hn, fun h'' hs'' => ⟨⟨⟨_, ys, rfl, hl.imp fun _ e => (hs''.2 _ (nq (Or.inr (Nat.lt_succ_self _)))).trans e, ?_⟩, ?_⟩, k₁.trans (Wd.K.heap fun b o e => (hs''.2 b (nq (Or.inr ?_))).trans (hk b o e))⟩⟩
  · refine paired_imp (fun b y r => hRs' b _ _ _ (fun c o e hv => (hs''.2 c fun q => ?_).trans e) r) hF
    obtain ⟨o', es, ep, e', hd, _⟩ := hn
    have q : c = s₁.heap.objs.size + 2 := q
    subst q
    rw [e] at e'; cases e'
    rcases hv.2 with ⟨_, _, z⟩ | ⟨_, _, z⟩ <;> (rw [hd] at z; cases z)
  · intro a q
    cases q
    cases z : s.heap.get? (s₁.heap.objs.size + 1) with
    | none => rfl
    | some o' =>
      have := Heap.lt_size (k₁.kn.all _ _ z)
      have : LT.lt (α := Nat) (s₁.heap.objs.size + 1) s₁.heap.objs.size := this
      omega
  · have : LT.lt (α := Nat) b s₁.heap.objs.size := Heap.lt_size e
    omega
end
end Mine
namespace Mine

theorem ns_unique {h : Heap} {a : Addr} {m m' : Str → Option Value} (x : h.Ns a m) (y : h.Ns a m') : m = m' := by
  obtain ⟨o, es, ep, e, hd, _, hf⟩ := x
  obtain ⟨o', es', ep', e', hd', _, hf'⟩ := y
  rw [e] at e'; cases e'
  rw [hd] at hd'; cases hd'
  funext z
  rw [← hf, ← hf']

structure Fm (X : Wd) (t : Bool) (env : Env) (s₀ : Shared) (m cm : Str → Option Value) (s : Shared) : Prop where
  k : X.K t s₀ s
  ns : s.heap.Ns env.locals m
  new : LE.le (α := Nat) s₀.heap.objs.size env.locals
  cell : ∀ n c, env.cells.lookup n = some c → s.heap.IsCell c (cm n)
  apart : env.cells.Pairwise fun x y => x.2 ≠ y.2
  above : ∀ n c, (n, c) ∈ env.cells → Ne (α := Nat) env.locals c ∧ (env.kindOf n = some .cell → LE.le (α := Nat) s₀.heap.objs.size c)
/-- what else is known of the objects that last -/
structure Inv where
  p : Heap → Prop
  ok : ∀ h h', (∀ b o, h.get? b = some o → Lasting o → h'.get? b = some o) → p h → p h'
def Inv.top : Inv := ⟨fun _ => True, fun _ _ _ _ => trivial⟩
theorem Kn.last {t : Bool} {h h' : Heap} (k : Kn t h h') : ∀ b o, h.get? b = some o → Lasting o → h'.get? b = some o := fun b o e l => k b o e fun _ => l.2
def St (X : Wd) (t : Bool) (env : Env) (s₀ : Shared) (N : Inv) (ρ : Vars) (s : Shared) : Prop := (∃ m cm, Fm X t env s₀ m cm s) ∧ Vs env ρ s.heap ∧ X.G s.heap ∧ X.tb s.heap ∧ N.p s.heap
section
variable {X : Wd} {t : Bool} {env : Env} {s₀ s s' : Shared} {ρ : Vars} {m cm : Str → Option Value} {N : Inv}
theorem Fm.go (F : Fm X t env s₀ m cm s) (k : X.K t s s') : Fm X t env s₀ m cm s' := ⟨F.k.trans k, k.kn.ns F.ns, F.new, fun n c e => k.kn.cell (F.cell n c e), F.apart, F.above⟩
theorem St.go (F : St X t env s₀ N ρ s) (k : X.K t s s') : St X t env s₀ N ρ s' := ⟨let ⟨m, cm, f⟩ := F.1; ⟨m, cm, f.go k⟩, F.2.1.kn k.kn, k.g F.2.2.1, k.tb F.2.2.2.1, N.ok _ _ k.kn.last F.2.2.2.2⟩
theorem St.k (F : St X t env s₀ N ρ s) : X.K t s₀ s := let ⟨_, _, f⟩ := F.1; f.k

/-- a write at an address that is new since s₀, and neither a table nor fields -/
theorem kAt {h' : Heap} {n : Nat} {a : Addr} (k : X.K t s₀ s) (hn : LE.le (α := Nat) s₀.heap.objs.size a) (hs : Heap.SameBut a s.heap h') (ho : ∀ o, s.heap.get? a = some o → ¬ IsFld o) : X.K t s₀ { s with heap := h', toks := n } := by
  obtain ⟨h₁, tk, rfl, kn, b⟩ := k
  refine ⟨h', n, rfl, fun c o e z => (hs.2 c ?_).trans (kn c o e z), fun q => X.hT _ _ (fun c o e f => (hs.2 c fun q => ?_).trans e) (b q)⟩
  · have : LT.lt (α := Nat) c s₀.heap.objs.size := Heap.lt_size e
    exact nq (Or.inr (by omega))
  · subst q; exact ho o e f
theorem gAt {h' : Heap} {a : Addr} (hs : Heap.SameBut a s.heap h') (h₀ : X.G s₀.heap) (k : X.K t s₀ s) (hn : LE.le (α := Nat) s₀.heap.objs.size a) : X.G h' :=
  X.hG _ _ (fun c o e z => (hs.2 c (nq (Or.inr (by have : LT.lt (α := Nat) c s₀.heap.objs.size := Heap.lt_size e; omega)))).trans (k.kn.up c o e z)) h₀

inductive StoreOk (env : Env) (x : Str) : Prop
  | loc : env.kindOf x = some .local → StoreOk env x
  | cel (c : Addr) : env.kindOf x = some .cell → env.cells.lookup x = some c → StoreOk env x
theorem store_f {A : Around} {E : Value → Shared → Prop} {x : Str} {v : Value} {P : Rp} {Q : Unit → Shared → Prop} (G₀ : X.G s₀.heap) (hk : env.scope.kind = .function) (hx : StoreOk env x) (F : St X t env s₀ N ρ s) (sp : Stab P) (hp : P s.heap v)
    (h : ∀ s', St X t env s₀ N ((x, P) :: ρ) s' → (env.kindOf x = some .local → Heap.SameBut env.locals s.heap s'.heap) → Q () s') : wpAny X.M A (storeName env x v) Q E s := by
  obtain ⟨⟨m, cm, f⟩, V, G, T, J⟩ := F
  have key : ∀ (a : Addr) (h' : Heap) (n : Nat), Heap.SameBut a s.heap h' → (∀ o, s.heap.get? a = some o → ¬ IsFld o ∧ ¬ IsVal o ∧ ¬ Lasting o) → LE.le (α := Nat) s₀.heap.objs.size a → (∃ m cm, Fm X t env s₀ m cm { s with heap := h', toks := n }) →
      VarIs env h' x v → (∀ y u, y ≠ x → VarIs env s.heap y u → VarIs env h' y u) → St X t env s₀ N ((x, P) :: ρ) { s with heap := h', toks := n } := by
    intro a h' n hs ho hn hF hxv hy
    have sv : Sv s.heap h' := fun c o e w => (hs.2 c fun q => by subst q; exact (ho o e).2.1 w).trans e
    refine ⟨hF, fun y Q e => ?_, gAt hs G₀ f.k hn, ?_, N.ok _ _ (fun c o e fl => (hs.2 c fun q => by subst q; exact (ho o e).2.2 fl).trans e) J⟩
    · rw [List.lookup_cons] at e
      cases hb : y == x with
      | true => rw [hb] at e; cases e; rw [eq_of_beq hb]; exact ⟨sp, v, hxv, sp _ _ _ sv hp⟩
      | false =>
        rw [hb] at e
        obtain ⟨sq, u, hu, hq⟩ := V y Q e
        exact ⟨sq, u, hy y u (fun q => by rw [q] at hb; simp at hb) hu, sq _ _ _ sv hq⟩
    · exact X.hT _ _ (fun c o e fl => (hs.2 c fun q => by subst q; exact (ho o e).1 fl).trans e) T
  have dictNo : ∀ o, s.heap.get? env.locals = some o → ¬ IsFld o ∧ ¬ IsVal o ∧ ¬ Lasting o := fun o e => by
    obtain ⟨o', es, ep, e', hd, _⟩ := f.ns
    rw [e] at e'; cases e'
    refine ⟨fun q => (by obtain ⟨_, q⟩ := q.fields; rw [q] at hd; cases hd), fun q => ?_, fun q => (by have := q.1; rw [hd] at this; exact this)⟩
    rcases q.2 with ⟨_, _, z⟩ | ⟨_, _, z⟩ <;> (rw [hd] at z; cases z)
  cases hx with
  | loc hl =>
    refine wpAny_storeName_local hl f.ns (fun h' hn hs => h _ (key env.locals h' _ hs dictNo f.new ⟨_, cm, f.k |> fun k => kAt k f.new hs fun o e => (dictNo o e).1, hn, f.new, fun n c e => ?_, f.apart, f.above⟩ (.inl ⟨hl, _, hn, by simp⟩) fun y u hy hu => ?_) fun _ => hs)
      (by show (env.scope.kind == .class || (env.scope.kind == .module && env.locals != env.globals)) = false; rw [hk]; rfl)
    · exact (f.cell n c e).sameBut hs (Ne.symm (f.above n c (mem_of_lookup e)).1)
    · rcases hu with ⟨a, m', n', e⟩ | ⟨a, c, n', e⟩
      · have := ns_unique f.ns n'
        subst this
        exact .inl ⟨a, _, hn, by simp [hy, e]⟩
      · exact .inr ⟨a, c, n', e.sameBut hs (Ne.symm (f.above y c (mem_of_lookup n')).1)⟩
  | cel c hl hc =>
    have hLc := f.above x c (mem_of_lookup hc)
    have cellNo : ∀ o, s.heap.get? c = some o → ¬ IsFld o ∧ ¬ IsVal o ∧ ¬ Lasting o := fun o e => by
      obtain ⟨o', e', hd⟩ := f.cell x c hc
      rw [e] at e'; cases e'
      refine ⟨fun q => (by obtain ⟨_, q⟩ := q.fields; rw [q] at hd; cases hd), fun q => ?_, fun q => (by have := q.1; rw [hd] at this; exact this)⟩
      rcases q.2 with ⟨_, _, z⟩ | ⟨_, _, z⟩ <;> (rw [hd] at z; cases z)
    have hnc : LE.le (α := Nat) s₀.heap.objs.size c := hLc.2 hl
    refine wpAny_storeName_cell hk hl hc (f.cell x c hc) fun h' hc' hs => h _ (key c h' s.toks hs cellNo hnc ⟨m, fun y => if y = x then some v else cm y, kAt f.k hnc hs fun o e => (cellNo o e).1, ?_, f.new, fun n c' e => ?_, f.apart, f.above⟩ (.inr ⟨.inl hl, c, hc, hc'⟩) fun y u hy hu => ?_) fun q => by rw [hl] at q; cases q
    · exact f.ns.sameBut hs hLc.1
    · by_cases hnx : n = x
      · subst hnx; rw [hc] at e; cases e; simpa using hc'
      · rw [if_neg hnx]
        exact (f.cell n c' e).sameBut hs fun q => hnx (name_of_addr f.apart (mem_of_lookup e) (q ▸ mem_of_lookup hc))
    · rcases hu with ⟨a, m', n', e⟩ | ⟨a, c', n', e⟩
      · exact .inl ⟨a, m', n'.sameBut hs hLc.1, e⟩
      · exact .inr ⟨a, c', n', e.sameBut hs fun q => hy (name_of_addr f.apart (mem_of_lookup n') (q ▸ mem_of_lookup hc))⟩
end

/-! ## a block -/
def Bd (X : Wd) (t : Bool) (A : Around) (env : Env) (s₀ : Shared) (N : Inv) (ρ : Vars) (ss : List Stmt) (Q : Flow → Shared → Prop) : Prop :=
  ∀ s E, St X t env s₀ N ρ s → wpAny X.M A (execs ss env) Q E s
def thenQ (X : Wd) (t : Bool) (env : Env) (s₀ : Shared) (N : Inv) (ρ : Vars) (Q : Flow → Shared → Prop) : Flow → Shared → Prop := fun f s' => match f with
  | .next => St X t env s₀ N ρ s'
  | f => Q f s'
section
variable {N : Inv} {X : Wd} {t : Bool} {A : Around} {env : Env} {s₀ : Shared} {ρ ρ' : Vars} {P : Rp} {pos px : Pos} {x : Str} {e : Expr} {rest : List Stmt} {Q : Flow → Shared → Prop}
theorem Bd.ret (he : Ev X t A env ρ e P) (h : ∀ v s', X.K t s₀ s' → P s'.heap v → Q (.ret v) s') : Bd X t A env s₀ N ρ (.Return (some e) pos :: rest) Q := fun s E F =>
  wpAny_execs_cons (wpAny_Return_some (wpAny_mono (he s E F.2.2.1 F.2.2.2.1 F.2.1) (fun v s' ⟨p, k⟩ => h v s' (F.k.trans k) p) fun _ _ x => x))
theorem Bd.nil (h : ∀ s', St X t env s₀ N ρ s' → Q .next s') : Bd X t A env s₀ N ρ [] Q := fun s E F => wpAny_execs_nil (h s F)
theorem Bd.assign (G₀ : X.G s₀.heap) (hk : env.scope.kind = .function) (hx : StoreOk env x) (he : Ev X t A env ρ e P) (sp : Stab P) (hsw : swapsWith e (some (.Name x px)) pos.line env = pure false)
    (h : Bd X t A env s₀ N ((x, P) :: ρ) rest Q) : Bd X t A env s₀ N ρ (.Assign [.Name x px] e pos :: rest) Q := fun s E F =>
  wpAny_execs_cons (wpAny_Assign_Name (wpAny_mono (he s E F.2.2.1 F.2.2.2.1 F.2.1) (fun v s' ⟨p, k⟩ => store_f G₀ hk hx (F.go k) sp p fun s'' F' _ => h s'' E F') fun _ _ x => x) hsw)
theorem Bd.iteT {c : Expr} {body orelse : List Stmt} (hc : Tv X t A env ρ c true) (hb : Bd X t A env s₀ N ρ body (thenQ X t env s₀ N ρ' Q)) (hr : Bd X t A env s₀ N ρ' rest Q) : Bd X t A env s₀ N ρ (.If c body orelse pos :: rest) Q := fun s E F =>
  wpAny_execs_cons (wpAny_If (wpAny_mono (hc s E F.2.2.1 F.2.2.2.1 F.2.1) (fun b s' ⟨q, k⟩ => by
    subst q
    show wpAny X.M A (execs body env) _ E s'
    exact wpAny_mono (hb s' E (F.go k)) (fun f s'' z => by cases f <;> first | exact hr s'' E z | exact z) fun _ _ x => x) fun _ _ x => x))
theorem Bd.iteF {c : Expr} {body orelse : List Stmt} (hc : Tv X t A env ρ c false) (hb : Bd X t A env s₀ N ρ orelse (thenQ X t env s₀ N ρ' Q)) (hr : Bd X t A env s₀ N ρ' rest Q) : Bd X t A env s₀ N ρ (.If c body orelse pos :: rest) Q := fun s E F =>
  wpAny_execs_cons (wpAny_If (wpAny_mono (hc s E F.2.2.1 F.2.2.2.1 F.2.1) (fun b s' ⟨q, k⟩ => by
    subst q
    show wpAny X.M A (execs orelse env) _ E s'
    exact wpAny_mono (hb s' E (F.go k)) (fun f s'' z => by cases f <;> first | exact hr s'' E z | exact z) fun _ _ x => x) fun _ _ x => x))
theorem Bd.skip (h : Bd X t A env s₀ N ρ rest Q) {c : Expr} {body : List Stmt} (hc : Tv X t A env ρ c false) : Bd X t A env s₀ N ρ (.If c body [] pos :: rest) Q :=
  Bd.iteF hc (Bd.nil fun _ F => F) h
end

/-! ## a def of the text's top -/
def Fn (X : Wd) (t : Bool) (n : Nat) (f : Addr) (Ps : List Rp) (P : Rp) : Prop :=
  ∀ A s E vs, Ok n A → X.G s.heap → X.tb s.heap → Paired (fun (Q : Rp) v => Q s.heap v) Ps vs → wpAny X.M A (call (.ref f) vs) (fun v s' => P s'.heap v ∧ X.K t s s') E s

theorem bindL_miss {kindOf : Str → Option NameKind} {x : Str} : ∀ {binds : List (Str × Value)} {m : Str → Option Value}, (∀ y ∈ binds, y.1 ≠ x) → bindL kindOf binds m x = m x
  | [], m, _ => rfl
  | (n, v) :: r, m, h => by
    unfold bindL
    rw [bindL_miss fun y hy => h y (.tail _ hy)]
    have : x ≠ n := fun q => h (n, v) (.head _) q.symm
    split <;> simp [this]
theorem bindC_miss {kindOf : Str → Option NameKind} {x : Str} : ∀ {binds : List (Str × Value)} {m : Str → Option Value}, (∀ y ∈ binds, y.1 ≠ x) → bindC kindOf binds m x = m x
  | [], m, _ => rfl
  | (n, v) :: r, m, h => by
    unfold bindC
    rw [bindC_miss fun y hy => h y (.tail _ hy)]
    have : x ≠ n := fun q => h (n, v) (.head _) q.symm
    split <;> simp [this]
theorem bindL_hit {kindOf : Str → Option NameKind} {x : Str} {v : Value} : ∀ {binds : List (Str × Value)} {m : Str → Option Value}, (binds.map (·.1)).Nodup → (x, v) ∈ binds → kindOf x = some .local → bindL kindOf binds m x = some v
  | (n, u) :: r, m, hn, hm, hk => by
    obtain ⟨h1, h2⟩ := List.nodup_cons.mp hn
    unfold bindL
    rcases List.mem_cons.mp hm with e | hm
    · cases e
      rw [bindL_miss fun y hy q => h1 (List.mem_map.mpr ⟨y, hy, q⟩), if_pos hk]; simp
    · exact bindL_hit h2 hm hk
theorem bindC_hit {kindOf : Str → Option NameKind} {x : Str} {v : Value} : ∀ {binds : List (Str × Value)} {m : Str → Option Value}, (binds.map (·.1)).Nodup → (x, v) ∈ binds → kindOf x ≠ some .local → bindC kindOf binds m x = some v
  | (n, u) :: r, m, hn, hm, hk => by
    obtain ⟨h1, h2⟩ := List.nodup_cons.mp hn
    unfold bindC
    rcases List.mem_cons.mp hm with e | hm
    · cases e
      rw [bindC_miss fun y hy q => h1 (List.mem_map.mpr ⟨y, hy, q⟩), if_neg hk]; simp
    · exact bindC_hit h2 hm hk
theorem zip_lookup {h : Heap} {x : Str} {P : Rp} : ∀ {names : List Str} {Ps : List Rp} {vs : List Value}, Paired (fun (Q : Rp) v => Q h v) Ps vs → (names.zip Ps).lookup x = some P → ∃ v, (x, v) ∈ names.zip vs ∧ P h v
  | [], _, _, _, e => by simp at e
  | n :: ns, _, _, .nil, e => by simp at e
  | n :: ns, _, _, .cons (b := b) p r, e => by
    rw [List.zip_cons_cons, List.lookup_cons] at e
    cases hb : x == n with
    | true => rw [hb] at e; cases e; rw [eq_of_beq hb]; exact ⟨b, .head _, p⟩
    | false =>
      rw [hb] at e
      obtain ⟨v, h1, h2⟩ := zip_lookup r e
      exact ⟨v, .tail _ h1, h2⟩

theorem Fn.intro {X : Wd} {t : Bool} {n : Nat} {f : Addr} {Ps : List Rp} {P : Rp} {fd : FuncData} {body : List Stmt} {names : List Str}
    (hfd : ∀ h, X.G h → (∃ o, h.get? f = some o ∧ o.data = .func fd) ∧ h.CodeRec fd.code fd.qualname) (hbody : fd.body = .stmts body) (hclo : fd.closure = [])
    (hbind : ∀ vs, vs.length = names.length → bindArgs fd ⟨vs, []⟩ = pure (names.zip vs)) (hlen : Ps.length = names.length) (hnd : names.Nodup) (hst : ∀ P ∈ Ps, Stab P)
    (hkind : ∀ L, ∀ x ∈ names, fd.scope.names.lookup x = some .local ∨ (fd.scope.names.lookup x = some .cell ∧ ((cellsFrom L fd.scope.names []).lookup x).isSome = true))
    (hco : fd.scope.isCoroutine = false) (hgen : fd.scope.isGenerator = false) (hk : fd.scope.kind = .function)
    (h : ∀ A s₀, Ok n A → X.G s₀.heap → X.tb s₀.heap → Bd X t A (callEnvC fd s₀.heap.objs.size f) s₀ Inv.top (names.zip Ps) body (fun fl s' => ∃ v, fl = .ret v ∧ P s'.heap v ∧ X.K t s₀ s')) :
    Fn X t (n + 1) f Ps P := fun A s E vs ok G T hp => by
  obtain ⟨⟨o, ho, hd⟩, hcd⟩ := hfd _ G
  have hvl : vs.length = names.length := by rw [← hp.length, hlen]
  have hz : (names.zip vs).map (·.1) = names := List.map_fst_zip (by omega)
  refine wpAny_call (codeAny_call_cells (binds := names.zip vs) (by have := ok.2.1; omega) ho hd (X.hl _ G) hcd hbody (hbind vs hvl) hclo (fun x hx => hkind _ x.1 (hz ▸ List.mem_map_of_mem hx)) (fun s₁ I => ?_) hco hgen hk)
  have k : X.K t s s₁ := Wd.K.of (by
    obtain ⟨h', tk, e, kk⟩ := I.toInCall.done
    exact ⟨h', tk, e, kk⟩)
  have F : Fm X t (callEnvC fd s.heap.objs.size f) s _ _ s₁ := ⟨k, I.toInCall.ns, I.toInCall.fresh, I.cell, I.apart, fun n c hm => ⟨Nat.ne_of_lt (I.above n c hm), fun _ => Nat.le_of_lt (Nat.lt_of_le_of_lt I.toInCall.fresh (I.above n c hm))⟩⟩
  have V : Vs (callEnvC fd s.heap.objs.size f) (names.zip Ps) s₁.heap := fun x P e => by
    obtain ⟨v, hm, hv⟩ := zip_lookup hp e
    have sp : Stab P := hst P (by
      have := mem_of_lookup e
      exact (List.of_mem_zip this).2)
    refine ⟨sp, v, ?_, sp _ _ _ k.kn.sv hv⟩
    have hxn : x ∈ names := (List.of_mem_zip hm).1
    rcases hkind (s.heap.objs.size + 1) x hxn with hl | ⟨hl, hc⟩
    · exact .inl ⟨hl, _, I.toInCall.ns, bindL_hit (by rw [hz]; exact hnd) hm hl⟩
    · obtain ⟨c, hc⟩ := Option.isSome_iff_exists.mp hc
      have hc' : (callEnvC fd s.heap.objs.size f).cells.lookup x = some c := hc
      refine .inr ⟨.inl hl, c, hc', ?_⟩
      have := I.cell x c hc'
      rwa [bindC_hit (by rw [hz]; exact hnd) hm (by show fd.scope.names.lookup x ≠ _; rw [hl]; decide)] at this
  refine wpAny_mono (h _ s (ok.deeper _) G T s₁ _ ⟨⟨_, _, F⟩, V, k.g G, k.tb T, trivial⟩) (fun fl s' ⟨v, e, p, k'⟩ => ?_) fun _ _ x => x
  subst e
  exact ⟨p, k'⟩
end Mine
namespace Mine

abbrev Are (h : Heap) (Ps : List Rp) (vs : List Value) : Prop := Paired (fun (Q : Rp) v => Q h v) Ps vs
def EvL (X : Wd) (t : Bool) (A : Around) (env : Env) (ρ : Vars) (es : List Expr) (Ps : List Rp) : Prop :=
  ∀ s E pos, X.G s.heap → X.tb s.heap → Vs env ρ s.heap → wpAny X.M A (spliced (backTo pos (starEach es env))) (fun vs s' => Are s'.heap Ps vs ∧ X.K t s s') E s
section
variable {X : Wd} {t : Bool} {A : Around} {env : Env} {ρ : Vars} {P P0 P1 P2 : Rp} {Ps : List Rp} {pos np apos : Pos} {e o : Expr} {rest args : List Expr} {x name : Str}
theorem EvL.nil : EvL X t A env ρ [] [] := fun s E pos _ _ _ => args_nil ⟨.nil, Wd.K.refl⟩
theorem EvL.cons (sp : Stab P) (he : Ev X t A env ρ e P) (hr : EvL X t A env ρ rest Ps) (hs : starEach (e :: rest) env = (false, eval e env) :: starEach rest env) : EvL X t A env ρ (e :: rest) (P :: Ps) := fun s E pos G T V =>
  args_cons (wpAny_mono (he s E G T V) (fun v s1 ⟨p, k⟩ => wpAny_mono (hr s1 E pos (k.g G) (k.tb T) (V.kn k.kn)) (fun vs s2 ⟨ps, k2⟩ => ⟨.cons (sp _ _ _ k2.kn.sv p) ps, k.trans k2⟩) fun _ _ x => x) fun _ _ x => x) hs
theorem EvL.one (sp : Stab P) (he : Ev X t A env ρ e P) (hs : starEach [e] env = [(false, eval e env)]) : EvL X t A env ρ [e] [P] := EvL.cons sp he EvL.nil hs

theorem Ev.fn {n : Nat} {f : Addr} (hv : X.mg x = some (.ref f)) (hk : env.scope.kind = .function) (hx : env.kindOf x = some .globalImplicit) (hg : env.globals = mainGlobals) (hd : (x == ("__debug__" : Str)) = false)
    (hF : Fn X t n f Ps P) (ok : Ok n A) (hfo : ∀ h, X.G h → ∃ o fd, h.get? f = some o ∧ o.data = .func fd) (ha : EvL X t A env ρ (e :: rest) Ps) (hs : starEach (e :: rest) env = (false, eval e env) :: starEach rest env) :
    Ev X t A env ρ (.Call (.Name x np) (e :: rest) [] pos) P := fun s E G T V => by
  obtain ⟨o, fd, ho, hdat⟩ := hfo _ G
  refine Call_ (wpAny_mono ((Ev.global (t := t) (pos := np) hv hk hx hg hd) s E G T V) (fun v s1 ⟨p, k⟩ => ?_) fun _ _ x => x)
  have p : v = .ref f := p
  subst p
  refine callWith_def hdat (wpAny_mono (ha s1 E pos (k.g G) (k.tb T) (V.kn k.kn)) (fun vs s2 ⟨ps, k2⟩ => ⟨(k.trans k2).kn _ _ ho fun _ ⟨_, q, _⟩ => (by rw [q] at hdat; cases hdat), ?_⟩) fun _ _ x => x) hs
  exact wpAny_mono (hF A s2 E vs ok (k2.g (k.g G)) (k2.tb (k.tb T)) ps) (fun _ _ ⟨p, k3⟩ => ⟨p, k.trans (k2.trans k3)⟩) fun _ _ x => x
theorem EvN.fn {n : Nat} {f : Addr} (hN : ∀ A s E vs, Ok n A → X.G s.heap → X.tb s.heap → Are s.heap Ps vs → wpAny X.M A (call (.ref f) vs) (fun v s' => (P s'.heap v ∧ ∀ a, v = .ref a → s.heap.get? a = none) ∧ X.K false s s') E s)
    (hv : X.mg x = some (.ref f)) (hk : env.scope.kind = .function) (hx : env.kindOf x = some .globalImplicit) (hg : env.globals = mainGlobals) (hd : (x == ("__debug__" : Str)) = false)
    (ok : Ok n A) (hfo : ∀ h, X.G h → ∃ o fd, h.get? f = some o ∧ o.data = .func fd) (ha : EvL X false A env ρ (e :: rest) Ps) (hs : starEach (e :: rest) env = (false, eval e env) :: starEach rest env) :
    EvN X false A env ρ (.Call (.Name x np) (e :: rest) [] pos) P := fun s E G T V => by
  obtain ⟨o, fd, ho, hdat⟩ := hfo _ G
  refine Call_ (wpAny_mono ((Ev.global (t := false) (pos := np) hv hk hx hg hd) s E G T V) (fun v s1 ⟨p, k⟩ => ?_) fun _ _ x => x)
  have p : v = .ref f := p
  subst p
  refine callWith_def hdat (wpAny_mono (ha s1 E pos (k.g G) (k.tb T) (V.kn k.kn)) (fun vs s2 ⟨ps, k2⟩ => ⟨(k.trans k2).kn _ _ ho fun _ ⟨_, q, _⟩ => (by rw [q] at hdat; cases hdat), ?_⟩) fun _ _ x => x) hs
  refine wpAny_mono (hN A s2 E vs ok (k2.g (k.g G)) (k2.tb (k.tb T)) ps) (fun v _ ⟨p, k3⟩ => ⟨⟨p.1, fun a q => ?_⟩, k.trans (k2.trans k3)⟩) fun _ _ x => x
  cases z : s.heap.get? a with
  | none => rfl
  | some o' => have := (k.trans k2).kn.all _ _ z; rw [p.2 a q] at this; cases this
theorem Ev.b1 {id : String} (hm : X.mg x = none) (hv : X.mb x = some (.builtin id)) (hk : env.scope.kind = .function) (hx : env.kindOf x = some .globalImplicit) (hg : env.globals = mainGlobals) (hb : env.builtins = builtinsNs) (hd : (x == ("__debug__" : Str)) = false)
    (ha : EvL X t A env ρ (e :: rest) Ps) (hop : ∀ s vs, X.G s.heap → X.tb s.heap → Are s.heap Ps vs → Op X t A s (call (.builtin id) vs) P) (hs : starEach (e :: rest) env = (false, eval e env) :: starEach rest env)
    (hpl : (backTo pos (starEach rest env)).any (·.1) = false) : Ev X t A env ρ (.Call (.Name x np) (e :: rest) [] pos) P := fun s E G T V => by
  refine Call_ (wpAny_mono ((Ev.builtin (t := t) (pos := np) hm hv hk hx hg hb hd) s E G T V) (fun v s1 ⟨p, k⟩ => ?_) fun _ _ x => x)
  have p : v = .builtin id := p
  subst p
  refine callWith_builtin1 (wpAny_mono (ha s1 E pos (k.g G) (k.tb T) (V.kn k.kn)) (fun vs s2 ⟨ps, k2⟩ => ?_) fun _ _ x => x) hs hpl
  exact wpAny_mono (hop s2 vs (k2.g (k.g G)) (k2.tb (k.tb T)) ps E) (fun _ _ ⟨p, k3⟩ => ⟨p, k.trans (k2.trans k3)⟩) fun _ _ x => x
theorem Ev.t1 {id : String} (hm : X.mg x = none) (hv : X.mb x = some (.type id)) (hk : env.scope.kind = .function) (hx : env.kindOf x = some .globalImplicit) (hg : env.globals = mainGlobals) (hb : env.builtins = builtinsNs) (hd : (x == ("__debug__" : Str)) = false)
    (ha : EvL X t A env ρ (e :: rest) Ps) (hop : ∀ s vs, X.G s.heap → X.tb s.heap → Are s.heap Ps vs → Op X t A s (call (.type id) vs) P) (hs : starEach (e :: rest) env = (false, eval e env) :: starEach rest env)
    (hpl : (backTo pos (starEach rest env)).any (·.1) = false) : Ev X t A env ρ (.Call (.Name x np) (e :: rest) [] pos) P := fun s E G T V => by
  refine Call_ (wpAny_mono ((Ev.builtin (t := t) (pos := np) hm hv hk hx hg hb hd) s E G T V) (fun v s1 ⟨p, k⟩ => ?_) fun _ _ x => x)
  have p : v = .type id := p
  subst p
  refine PyProof.Rows.callWith_type1 (wpAny_mono (ha s1 E pos (k.g G) (k.tb T) (V.kn k.kn)) (fun vs s2 ⟨ps, k2⟩ => ?_) fun _ _ x => x) hs hpl
  exact wpAny_mono (hop s2 vs (k2.g (k.g G)) (k2.tb (k.tb T)) ps E) (fun _ _ ⟨p, k3⟩ => ⟨p, k.trans (k2.trans k3)⟩) fun _ _ x => x

/-- a method of a built-in type -/
theorem Ev.meth {T id : String} (pa : PlainAttrs T) (slot : Slot T name id) (hty : typeOf (.builtin id) = pure (.type "method_descriptor"))
    (hbase : attributeBase o name env (eval o env) = eval o env) (hline : (apos.endLine == pos.line) = true)
    (hfew : ((backTo pos (starEach (e :: rest) env)).all (fun x => !x.1) && (backToKw pos (keywordEach [] env)).all (fun x => x.1.isSome)
      && decide ((e :: rest).length + ([] : List Keyword).length + (if ([] : List Keyword).isEmpty then 0 else 1) < 30)) = true)
    (ho : Ev X t A env ρ o P0) (sp : Stab P0) (hT : ∀ (s : Shared) (v : Value), P0 s.heap v → s.TypeIs v T ∧ (∀ a, v = .ref a → ∃ ob, s.heap.get? a = some ob ∧ ob.dict = none))
    (ha : EvL X t A env ρ (e :: rest) Ps) (hop : ∀ s v vs, X.G s.heap → X.tb s.heap → P0 s.heap v → Are s.heap Ps vs → Op X t A s (call (.builtin id) (v :: vs)) P)
    (hs : starEach (e :: rest) env = (false, eval e env) :: starEach rest env) (hpl : (backTo pos (starEach (e :: rest) env)).any (·.1) = false) :
    Ev X t A env ρ (.Call (.Attribute o name apos) (e :: rest) [] pos) P := fun s E G Tb V => by
  refine wpAny_Call_method_lateS hbase hfew hline (wpAny_mono (ho s E G Tb V) (fun v s1 ⟨p, k⟩ => ?_) fun _ _ x => x)
  refine ⟨T, id, pa, slot, hty, (hT s1 v p).1, (hT s1 v p).2, ?_⟩
  refine callWith_builtin hpl ?_
  rw [hs]
  refine evalArgs_plain ?_
  have := ha s1 E pos (k.g G) (k.tb Tb) (V.kn k.kn)
  rw [hs] at this
  refine wpAny_mono this (fun vs s2 ⟨ps, k2⟩ => ?_) fun _ _ x => x
  exact wpAny_mono (hop s2 v vs (k2.g (k.g G)) (k2.tb (k.tb Tb)) (sp _ _ _ k2.kn.sv p) ps E) (fun _ _ ⟨p, k3⟩ => ⟨p, k.trans (k2.trans k3)⟩) fun _ _ x => x
theorem Ev.meth0 {T id : String} (pa : PlainAttrs T) (slot : Slot T name id) (hty : typeOf (.builtin id) = pure (.type "method_descriptor"))
    (hbase : attributeBase o name env (eval o env) = eval o env) (hline : (apos.endLine == pos.line) = true)
    (ho : Ev X t A env ρ o P0) (hT : ∀ (s : Shared) (v : Value), P0 s.heap v → s.TypeIs v T ∧ (∀ a, v = .ref a → ∃ ob, s.heap.get? a = some ob ∧ ob.dict = none))
    (hop : ∀ s v, X.G s.heap → X.tb s.heap → P0 s.heap v → Op X t A s (call (.builtin id) [v]) P) :
    Ev X t A env ρ (.Call (.Attribute o name apos) [] [] pos) P := fun s E G Tb V => by
  refine wpAny_Call_method_lateS hbase rfl hline (wpAny_mono (ho s E G Tb V) (fun v s1 ⟨p, k⟩ => ?_) fun _ _ x => x)
  refine ⟨T, id, pa, slot, hty, (hT s1 v p).1, (hT s1 v p).2, ?_⟩
  refine callWith_builtin rfl (PySem.evalArgs_none ?_)
  exact wpAny_mono (hop s1 v (k.g G) (k.tb Tb) p E) (fun _ _ ⟨p, k3⟩ => ⟨p, k.trans k3⟩) fun _ _ x => x

/-! ## items and slices -/
theorem Ev.sub {value slice : Expr} {T id : String} (hl : typeLookup (.type T) "__getitem__" = pure (some (.builtin id))) (h1 : Ev X t A env ρ value P1) (sp : Stab P1) (h2 : Ev X t A env ρ slice P2)
    (hT : ∀ (s : Shared) (v : Value), P1 s.heap v → s.TypeIs v T) (hop : ∀ s a b, X.G s.heap → X.tb s.heap → P1 s.heap a → P2 s.heap b → Op X t A s (getItem a b) P)
    (hsub : ∀ o i, ∃ ops, subscripted slice false o i = operate ops (getItem o i)) : Ev X t A env ρ (.Subscript value slice pos) P := fun s E G T V =>
  Subscript_ (wpAny_mono (h1 s E G T V) (fun a s1 ⟨p1, k1⟩ => wpAny_mono (h2 s1 E (k1.g G) (k1.tb T) (V.kn k1.kn)) (fun b s2 ⟨p2, k2⟩ => by
    have q1 := sp _ _ _ k2.kn.sv p1
    obtain ⟨ops, ho⟩ := hsub a b
    exact tail_any (hT s2 a q1) hl (wpAny_mono (hop s2 a b (k2.g (k1.g G)) (k2.tb (k1.tb T)) q1 p2 E) (fun _ _ ⟨p, k⟩ => ⟨p, k1.trans (k2.trans k)⟩) fun _ _ x => x) ho) fun _ _ x => x) fun _ _ x => x)
def RSlice (lo hi st : Option Int) : Rp := fun h v => ∃ a vl vu vs, v = .ref a ∧ h.get? a = some { cls := .type "slice", data := .fields #[vl, vu, vs] } ∧ IsPart vl lo ∧ IsPart vu hi ∧ IsPart vs st
inductive EvP (X : Wd) (t : Bool) (A : Around) (env : Env) (ρ : Vars) : Option Expr → Option Int → Prop
  | none : EvP X t A env ρ none none
  | some {e : Expr} {i : Int} : Ev X t A env ρ e (RInt i) → EvP X t A env ρ (some e) (some i)
theorem EvP.go {eo : Option Expr} {k : Option Int} (h : EvP X t A env ρ eo k) (s : Shared) (E : Value → Shared → Prop) (G : X.G s.heap) (T : X.tb s.heap) (V : Vs env ρ s.heap) :
    wpAny X.M A (evalPart eo env) (fun v s' => IsPart v k ∧ X.K t s s') E s := by
  cases h with
  | none => rw [evalPart_none]; exact wpAny_pure ⟨.none, Wd.K.refl⟩
  | some he => rw [evalPart_some]; exact wpAny_mono (he s E G T V) (fun v s' ⟨⟨_, e⟩, k⟩ => ⟨by subst e; exact .int _ _, k⟩) fun _ _ x => x
theorem Ev.slice {l u st : Option Expr} {lo hi sk : Option Int} (h1 : EvP X t A env ρ l lo) (h2 : EvP X t A env ρ u hi) (h3 : EvP X t A env ρ st sk) : Ev X t A env ρ (.Slice l u st pos) (RSlice lo hi sk) := fun s E G T V =>
  wpAny_Slice (wpAny_mono (h1.go s E G T V) (fun a s1 ⟨p1, k1⟩ => wpAny_mono (h2.go s1 E (k1.g G) (k1.tb T) (V.kn k1.kn)) (fun b s2 ⟨p2, k2⟩ =>
    wpAny_mono (h3.go s2 E (k2.g (k1.g G)) (k2.tb (k1.tb T)) (V.kn (k1.trans k2).kn)) (fun c s3 ⟨p3, k3⟩ =>
      ⟨⟨_, a, b, c, rfl, Heap.get?_push_size _ rfl, p1, p2, p3⟩, k1.trans (k2.trans (k3.trans Wd.K.push))⟩) fun _ _ x => x) fun _ _ x => x) fun _ _ x => x)
theorem Ev.neg {i : Int} (h : Ev X t A env ρ e (RInt i)) : Ev X t A env ρ (.UnaryOp .USub e pos) (RInt (-i)) := fun s E G T V =>
  wpAny_UnaryOp (wpAny_mono (h s E G T V) (fun v s1 ⟨⟨_, q⟩, k⟩ => by
    subst q
    exact PySem.P.neg_int ⟨⟨_, rfl⟩, k.trans Wd.K.tok⟩) fun _ _ x => x)
theorem hsub_slice2 {l u : Option Expr} {p : Pos} : ∀ o i, ∃ ops, subscripted (.Slice l u none p) false o i = operate ops (getItem o i) := fun o i => ⟨[i, o], rfl⟩
theorem hsub_slice3 {l u : Option Expr} {st : Expr} {p : Pos} : ∀ o i, ∃ ops, subscripted (.Slice l u (some st) p) false o i = operate ops (getItem o i) := fun o i => ⟨[o, i], rfl⟩
theorem hsub_name {x : Str} {p : Pos} : ∀ o i, ∃ ops, subscripted (.Name x p) false o i = operate ops (getItem o i) := fun o i => ⟨[o, i], rfl⟩
theorem hsub_const {c : Const} {k : Nat} {p : Pos} : ∀ o i, ∃ ops, subscripted (.Constant c k p) false o i = operate ops (getItem o i) := fun o i => ⟨[o, i], rfl⟩
theorem hsub_bin {l r : Expr} {op : Operator} {p : Pos} : ∀ o i, ∃ ops, subscripted (.BinOp l op r p) false o i = operate ops (getItem o i) := fun o i => ⟨[o, i], rfl⟩
end

section
variable {α : Type} {X : Wd} {t : Bool} {A : Around} {s : Shared} {a b v : Value} {R : α → Rp} {l : List α} {i : Int}
theorem list_type {s : Shared} {v : Value} (h : RList R l s.heap v) : s.TypeIs v "list" := by
  obtain ⟨a, vs, rfl, ⟨n, hl⟩, _⟩ := h
  exact ⟨_, hl, rfl⟩
theorem list_type' {s : Shared} {v : Value} (h : RList R l s.heap v) : s.TypeIs v "list" ∧ (∀ a, v = .ref a → ∃ ob, s.heap.get? a = some ob ∧ ob.dict = none) := by
  refine ⟨list_type h, fun c q => ?_⟩
  obtain ⟨a, vs, rfl, ⟨n, hl⟩, _⟩ := h
  cases q
  exact ⟨_, hl, rfl⟩
theorem paired_at {β : Type} {F : α → β → Prop} : ∀ {l : List α} {m : List β} {i : Nat} {x : α}, Paired F l m → l[i]? = some x → ∃ u, m[i]? = some u ∧ F x u
  | _, _, 0, u, .cons h _, e => ⟨_, rfl, by cases e; exact h⟩
  | _, _, i + 1, u, .cons _ r, e => paired_at (i := i) r e
theorem op_item {k : Nat} {x : α} (hk : i = (k : Int)) (hs : k < 1000000) (hx : l[k]? = some x) (ha : RList R l s.heap a) (hb : RInt i s.heap b) : Op X t A s (getItem a b) (R x) := fun E => by
  obtain ⟨c, vs, rfl, ⟨n, hl⟩, p⟩ := ha
  obtain ⟨_, rfl⟩ := hb
  obtain ⟨u, hu, hr⟩ := paired_at p hx
  subst hk
  exact wpAny_getItem_list (x := u) ⟨_, hl, rfl, n, rfl⟩ (by omega) (by omega) (by simpa using hu) ⟨hr, Wd.K.refl⟩
theorem op_len (hfit : l.length < 1000000) (ha : RList R l s.heap a) : Op X t A s (call (.builtin "len") [a]) (RInt l.length) := fun E => by
  obtain ⟨c, vs, rfl, ⟨n, hl⟩, p⟩ := ha
  have hz : l.length = vs.size := by rw [p.length]; simp
  refine call_len_list (items := vs) ⟨_, hl, rfl, n, rfl⟩ ?_ ⟨⟨_, by rw [hz]⟩, Wd.K.tok⟩
  omega
/-- what a slice takes, of any list -/
def pick (l : List α) (lo hi st : Option Int) : List α :=
  (sliceRange (sliceBounds lo hi st l.length).1 (sliceBounds lo hi st l.length).2.1 (sliceBounds lo hi st l.length).2.2).filterMap (l[·]?)
theorem paired_pick {β : Type} {F : α → β → Prop} {l : List α} {m : List β} (p : Paired F l m) : ∀ (ks : List Nat), Paired F (ks.filterMap (l[·]?)) (ks.filterMap (m[·]?))
  | [] => .nil
  | k :: ks => by
    rw [List.filterMap_cons, List.filterMap_cons]
    cases hk : l[k]? with
    | none =>
      have : m[k]? = none := by rw [List.getElem?_eq_none_iff] at hk ⊢; rw [← p.length]; exact hk
      rw [this]; exact paired_pick p ks
    | some x =>
      obtain ⟨u, hu, hr⟩ := paired_at p hk
      rw [hu]; exact .cons hr (paired_pick p ks)
theorem op_slice {lo hi st : Option Int} (h0 : st ≠ some 0) (hsz : l.length ≤ sizeLine) (hR : ∀ x, Stab (R x)) (ha : RList R l s.heap a) (hb : RSlice lo hi st s.heap b) :
    ∀ E, wpAny X.M A (getItem a b) (fun v s' => (RList R (pick l lo hi st) s'.heap v ∧ ∀ a, v = .ref a → s.heap.get? a = none) ∧ X.K t s s') E s := fun E => by
  obtain ⟨c, vs, rfl, ⟨n, hl⟩, p⟩ := ha
  obtain ⟨d, vl, vu, vst, rfl, hd, pl, pu, ps⟩ := hb
  have hz : l.length = vs.size := by rw [p.length]; simp
  refine wpAny_getItem_list_slice (items := vs) ⟨_, hl, rfl, n, rfl⟩ ⟨_, hd, rfl, rfl⟩ pl pu ps h0 ⟨⟨⟨_, _, rfl, ⟨0, Heap.get?_push_size _ rfl⟩, ?_⟩, fun a q => ?_⟩, Wd.K.push⟩ (by rw [← hz]; exact hsz)
  · have := paired_pick p (sliceRange (sliceBounds lo hi st l.length).1 (sliceBounds lo hi st l.length).2.1 (sliceBounds lo hi st l.length).2.2)
    have e : (slicePick vs lo hi st).toList = (sliceRange (sliceBounds lo hi st l.length).1 (sliceBounds lo hi st l.length).2.1 (sliceBounds lo hi st l.length).2.2).filterMap (vs.toList[·]?) := by
      unfold slicePick
      rw [hz]
      simp
    rw [e]
    exact paired_imp (fun x u r => hR x _ _ _ (fun b o e _ => Heap.get?_push_of_some _ e) r) this
  · cases q
    cases z : s.heap.get? s.heap.objs.size with
    | none => rfl
    | some o' => exact absurd (Heap.lt_size z) (Nat.lt_irrefl _)
end
end Mine
namespace Mine

section
variable {X : Wd} {t : Bool} {A : Around} {s : Shared} {a b v : Value} {i j : Int}
theorem op_mod (h0 : j ≠ 0) (ha : RInt i s.heap a) (hb : RInt j s.heap b) : Op X t A s (binaryOp .Mod a b) (RInt (i.fmod j)) := fun E => by
  obtain ⟨_, rfl⟩ := ha; obtain ⟨_, rfl⟩ := hb
  exact mod_int' h0 ⟨⟨_, rfl⟩, Wd.K.tok⟩
theorem op_fdiv (h0 : j ≠ 0) (hp : Builtin.divisionGoesByPylong i j = false) (ha : RInt i s.heap a) (hb : RInt j s.heap b) : Op X t A s (binaryOp .FloorDiv a b) (RInt (i.fdiv j)) := fun E => by
  obtain ⟨_, rfl⟩ := ha; obtain ⟨_, rfl⟩ := hb
  exact floordiv_int h0 ⟨⟨_, rfl⟩, Wd.K.tok⟩ (.inl hp)
theorem op_shl {n : Nat} (hn : j = (n : Int)) (hsz : (Builtin.Int.intBits i : Int) + n ≤ 2 ^ 27) (ha : RInt i s.heap a) (hb : RInt j s.heap b) : Op X t A s (binaryOp .LShift a b) (RInt (i * 2 ^ n)) := fun E => by
  obtain ⟨_, rfl⟩ := ha; obtain ⟨_, rfl⟩ := hb
  subst hn
  exact lshift_int (by omega) hsz ⟨⟨s.toks, by rw [Int.toNat_natCast]⟩, Wd.K.tok⟩
theorem op_shr {n : Nat} (hn : j = (n : Int)) (ha : RInt i s.heap a) (hb : RInt j s.heap b) : Op X t A s (binaryOp .RShift a b) (RInt (i.fdiv (2 ^ n))) := fun E => by
  obtain ⟨_, rfl⟩ := ha; obtain ⟨_, rfl⟩ := hb
  subst hn
  exact rshift_int (by omega) ⟨⟨s.toks, by rw [Int.toNat_natCast]⟩, Wd.K.tok⟩
theorem op_xor (ha : RInt i s.heap a) (hb : RInt j s.heap b) : Op X t A s (binaryOp .BitXor a b) (RInt (Builtin.bitXor i j)) := fun E => by
  obtain ⟨_, rfl⟩ := ha; obtain ⟨_, rfl⟩ := hb
  exact xor_int ⟨⟨_, rfl⟩, Wd.K.tok⟩
theorem op_eqI (ha : RInt i s.heap a) (hb : RInt j s.heap b) : Op X t A s (compareOp .Eq a b) (RBool (i == j)) := fun E => by
  obtain ⟨_, rfl⟩ := ha; obtain ⟨_, rfl⟩ := hb
  exact PySem.P.eq_int ⟨rfl, Wd.K.refl⟩
theorem op_neI (ha : RInt i s.heap a) (hb : RInt j s.heap b) : Op X t A s (compareOp .NotEq a b) (RBool (i != j)) := fun E => by
  obtain ⟨_, rfl⟩ := ha; obtain ⟨_, rfl⟩ := hb
  exact PySem.P.ne_int ⟨rfl, Wd.K.refl⟩
theorem op_ltI (ha : RInt i s.heap a) (hb : RInt j s.heap b) : Op X t A s (compareOp .Lt a b) (RBool (decide (i < j))) := fun E => by
  obtain ⟨_, rfl⟩ := ha; obtain ⟨_, rfl⟩ := hb
  exact PySem.P.lt_int ⟨rfl, Wd.K.refl⟩
theorem op_leI (ha : RInt i s.heap a) (hb : RInt j s.heap b) : Op X t A s (compareOp .LtE a b) (RBool (decide (i ≤ j))) := fun E => by
  obtain ⟨_, rfl⟩ := ha; obtain ⟨_, rfl⟩ := hb
  exact PySem.P.le_int ⟨rfl, Wd.K.refl⟩
theorem op_bitlen (ha : RInt i s.heap a) : Op X t A s (call (.builtin "int.bit_length") [a]) (RInt (Builtin.Int.intBits i)) := fun E => by
  obtain ⟨_, rfl⟩ := ha
  exact call_int_bit_length ⟨⟨_, rfl⟩, Wd.K.tok⟩
theorem op_range1 (ha : RInt i s.heap a) : Op X t A s (call (.type "range") [a]) (RRange 0 i 1) := fun E => by
  obtain ⟨_, rfl⟩ := ha
  exact call_range_1 ⟨⟨_, _, _, _, rfl, IsRange.new _ _ _ _ _ _ _⟩, Wd.K.push⟩
theorem op_range2 (ha : RInt i s.heap a) (hb : RInt j s.heap b) : Op X t A s (call (.type "range") [a, b]) (RRange i j 1) := fun E => by
  obtain ⟨_, rfl⟩ := ha; obtain ⟨_, rfl⟩ := hb
  exact call_range_2 ⟨⟨_, _, _, _, rfl, IsRange.new _ _ _ _ _ _ _⟩, Wd.K.push⟩
theorem op_divmod (h0 : j ≠ 0) (hp : Builtin.divisionGoesByPylong i j = false) (ha : RInt i s.heap a) (hb : RInt j s.heap b) : Op X t A s (call (.builtin "divmod") [a, b]) (RTup RInt [i.fdiv j, i.fmod j]) := fun E => by
  obtain ⟨_, rfl⟩ := ha; obtain ⟨_, rfl⟩ := hb
  exact divmod_int h0 ⟨⟨_, _, rfl, Heap.get?_push_size _ rfl, .cons ⟨_, rfl⟩ (.cons ⟨_, rfl⟩ .nil)⟩, Wd.K.push⟩ (.inl hp)
theorem op_abs (ha : RInt i s.heap a) : Op X t A s (call (.builtin "abs") [a]) (RInt (if i < 0 then -i else i)) := fun E => by
  obtain ⟨_, rfl⟩ := ha
  exact call_abs_int fun u tk => ⟨⟨_, rfl⟩, Wd.K.tok⟩
/-! strs -/
theorem op_addS {x y : Str} (hsz : x.length + y.length ≤ sizeLine) (ha : RStr x s.heap a) (hb : RStr y s.heap b) : Op X t A s (binaryOp .Add a b) (RStr (x ++ y)) := fun E => by
  obtain ⟨_, rfl⟩ := ha; obtain ⟨_, rfl⟩ := hb
  refine PySem.P.add_str ?_
  by_cases h1 : (x.length == 0) = true
  · rw [if_pos h1]
    exact ⟨⟨_, by rw [Str.append_left_empty h1]⟩, Wd.K.refl⟩
  · rw [if_neg h1]
    by_cases h2 : (y.length == 0) = true
    · rw [if_pos h2]
      exact ⟨⟨_, by rw [Str.append_right_empty h2]⟩, Wd.K.refl⟩
    · rw [if_neg h2]
      exact ⟨by rw [Str.length_append]; exact hsz, ⟨_, rfl⟩, Wd.K.tok⟩
theorem op_eqS {x y : Str} (ha : RStr x s.heap a) (hb : RStr y s.heap b) : Op X t A s (compareOp .Eq a b) (RBool (x.cps.toList == y.cps.toList)) := fun E => by
  obtain ⟨_, rfl⟩ := ha; obtain ⟨_, rfl⟩ := hb
  exact PySem.P.eq_str ⟨rfl, Wd.K.refl⟩
theorem op_lenS {x : Str} (hf : x.length < 1000000) (ha : RStr x s.heap a) : Op X t A s (call (.builtin "len") [a]) (RInt x.length) := fun E => by
  obtain ⟨_, rfl⟩ := ha
  exact PySem.P.len_str (by omega) ⟨⟨_, rfl⟩, Wd.K.tok⟩
theorem op_itemS {x : Str} {k c : Nat} (hk : i = (k : Int)) (hs : k < 1000000) (hx : x.cps.toList[k]? = some c) (ha : RStr x s.heap a) (hb : RInt i s.heap b) : Op X t A s (getItem a b) (RStr ⟨#[c]⟩) := fun E => by
  obtain ⟨_, rfl⟩ := ha; obtain ⟨_, rfl⟩ := hb
  subst hk
  have hl : k < x.length := by
    obtain ⟨h, _⟩ := List.getElem?_eq_some_iff.mp hx
    simpa [Str.length] using h
  refine PySem.P.getItem_str (c := c) ?_ ?_ ⟨⟨_, rfl⟩, Wd.K.tok⟩
  · rw [Bool.or_eq_false_iff]
    exact ⟨decide_eq_false (by omega), decide_eq_false (by omega)⟩
  · have : seqIndex? (k : Int) x.length = some k := by
      unfold seqIndex?
      simp
      omega
    rw [this]
    simpa using hx
/-! bytes -/
theorem op_addB {x y : Array UInt8} (hsz : x.size + y.size ≤ 16777216) (ha : RBytes x s.heap a) (hb : RBytes y s.heap b) : Op X t A s (binaryOp .Add a b) (RBytes (x ++ y)) := fun E => by
  obtain ⟨_, rfl⟩ := ha; obtain ⟨_, rfl⟩ := hb
  exact KBy.add_bytes hsz fun t' k => ⟨⟨_, rfl⟩, Wd.K.tok⟩
theorem op_eqB {x y : Array UInt8} (ha : RBytes x s.heap a) (hb : RBytes y s.heap b) : Op X t A s (compareOp .Eq a b) (RBool (x.toList == y.toList)) := fun E => by
  obtain ⟨_, rfl⟩ := ha; obtain ⟨_, rfl⟩ := hb
  exact eq_bytes ⟨rfl, Wd.K.refl⟩
theorem itb_bytes {x : Array UInt8} : Itb X (RBytes x) RInt (KBw.bInts x) := fun A s E Q v ⟨t, e⟩ k => by
  subst e
  refine KBw.pyIter_bytes (k _ [s.heap.objs.size] (fun i v => ∃ c u, x[i]? = some c ∧ v = .int (c.toNat : Int) u) (fun i h => KBw.IsBytesIter h s.heap.objs.size x t i) (fun A' hA => by rw [KBw.ints_length]; exact KBw.walks hA _ x t)
    (fun i u ⟨c, t', hc, hu⟩ => ⟨_, KBw.ints_get hc, _, hu⟩) ⟨_, Heap.get?_push_size _ rfl, rfl, rfl⟩ (fun b hb => by rw [List.mem_singleton.mp hb]; exact Nat.le_refl _) fun i h st => let ⟨o, e, hc, hd⟩ := st; iter_one e hc (by decide) hd rfl)
theorem ints_are {h : Heap} : ∀ {ns : List Int} {vs : List Value}, Paired (fun i v => RInt i h v) ns vs → IntsAre vs ns
  | _, _, .nil => .nil
  | _, _, .cons ⟨_, e⟩ r => by subst e; exact .cons _ _ (ints_are r)
theorem op_bytes {ns : List Int} (hA : A.handled = none) (hr : ∀ n ∈ ns, 0 ≤ n ∧ n < 256) (hz : ns.length ≤ sizeLine) (ha : RList RInt ns s.heap a) : Op X t A s (call (.type "bytes") [a]) (RBytes (byteArr ns)) := fun E => by
  obtain ⟨c, vs, rfl, ⟨n, hl⟩, p⟩ := ha
  have hL : s.heap.IsList c vs.toList.toArray := ⟨_, hl, rfl, n, by simp⟩
  exact call_bytes_ints hL (ints_are p) hr (by rw [← p.length]; exact hz) hA fun h' t' k hk => ⟨⟨_, rfl⟩, Wd.K.heap hk⟩
/-! lists -/
theorem op_addL {α : Type} {R : α → Rp} {l m : List α} (hR : ∀ x, Stab (R x)) (hsz : l.length + m.length ≤ sizeLine) (ha : RList R l s.heap a) (hb : RList R m s.heap b) :
    ∀ E, wpAny X.M A (binaryOp .Add a b) (fun v s' => (RList R (l ++ m) s'.heap v ∧ ∀ c, v = .ref c → s.heap.get? c = none) ∧ X.K t s s') E s := fun E => by
  obtain ⟨c, vs, rfl, ⟨n, hl⟩, p⟩ := ha
  obtain ⟨d, us, rfl, ⟨n', hm⟩, q⟩ := hb
  have e1 : l.length = vs.size := by rw [p.length]; simp
  have e2 : m.length = us.size := by rw [q.length]; simp
  refine PySem.P.add_list hl hm ⟨⟨⟨_, _, rfl, ⟨0, Heap.get?_push_size _ rfl⟩, ?_⟩, fun c q => ?_⟩, Wd.K.push⟩ (by omega)
  · have app : ∀ {l : List α} {vs : List Value} {m : List α} {us : List Value}, Paired (fun x u => R x s.heap u) l vs → Paired (fun x u => R x s.heap u) m us → Paired (fun x u => R x s.heap u) (l ++ m) (vs ++ us) := by
      intro l vs m us p q
      induction p with
      | nil => exact q
      | cons x _ ih => exact .cons x ih
    rw [Array.toList_append]
    exact paired_imp (fun x u r => hR x _ _ _ (fun b o e _ => Heap.get?_push_of_some _ e) r) (app p q)
  · cases q
    cases z : s.heap.get? s.heap.objs.size with
    | none => rfl
    | some o' => exact absurd (Heap.lt_size z) (Nat.lt_irrefl _)
theorem strs_are {h : Heap} : ∀ {ys : List Str} {vs : List Value}, Paired (fun x v => RStr x h v) ys vs → StrsAre vs ys
  | _, _, .nil => .nil
  | _, _, .cons ⟨_, e⟩ r => by subst e; exact .cons _ _ (strs_are r)
theorem op_join {x : Str} {ys : List Str} (hok : (ys.map (·.length)).sum + ys.length * x.length ≤ 16777216) (ha : RStr x s.heap a) (hb : RList RStr ys s.heap b) : Op X t A s (call (.builtin "str.join") [a, b]) (RStr (Txt.join x ys)) := fun E => by
  obtain ⟨_, rfl⟩ := ha
  obtain ⟨c, vs, rfl, ⟨n, hl⟩, p⟩ := hb
  exact join_list (items := vs) ⟨_, hl, rfl, n, rfl⟩ (strs_are p) hok fun t' k => ⟨⟨_, rfl⟩, Wd.K.tok⟩
end
end Mine
namespace Mine

theorem are_map {α : Type} {R : α → Rp} {h : Heap} : ∀ {l : List α} {vs : List Value}, Are h (l.map R) vs → Paired (fun x u => R x h u) l vs
  | [], _, .nil => .nil
  | _ :: _, _, .cons p r => .cons p (are_map r)
theorem no_size {h : Heap} : h.get? h.objs.size = none := by
  cases z : h.get? h.objs.size with
  | none => rfl
  | some o' => exact absurd (Heap.lt_size z) (Nat.lt_irrefl _)
section
variable {α : Type} {X : Wd} {t : Bool} {A : Around} {s : Shared} {a b v : Value} {i j : Int} {R : α → Rp} {l m : List α} {env : Env} {ρ : Vars} {es : List Expr} {pos : Pos}
theorem Ev.list (hR : ∀ x, Stab (R x)) (hz : l.length ≤ sizeLine) (ha : EvL X t A env ρ es (l.map R)) : Ev X t A env ρ (.List es pos) (RList R l) := fun s E G T V =>
  PyProof.Rows.List_ (wpAny_mono (ha s E pos G T V) (fun vs s1 ⟨ps, k⟩ => by
    have p := are_map ps
    exact wpAny_newObj_type ⟨⟨_, _, rfl, ⟨0, Heap.get?_push_size _ rfl⟩, by
      rw [List.toList_toArray]
      exact paired_imp (fun x u r => hR x _ _ _ (fun b o e _ => Heap.get?_push_of_some _ e) r) p⟩, k.trans Wd.K.push⟩ (by show vs.toArray.size ≤ sizeLine; rw [List.size_toArray, ← p.length]; exact hz)) fun _ _ x => x)
theorem EvN.list (hR : ∀ x, Stab (R x)) (hz : l.length ≤ sizeLine) (ha : EvL X false A env ρ es (l.map R)) : EvN X false A env ρ (.List es pos) (RList R l) := fun s E G T V =>
  PyProof.Rows.List_ (wpAny_mono (ha s E pos G T V) (fun vs s1 ⟨ps, k⟩ => by
    have p := are_map ps
    exact wpAny_newObj_type ⟨⟨⟨_, _, rfl, ⟨0, Heap.get?_push_size _ rfl⟩, by
      rw [List.toList_toArray]
      exact paired_imp (fun x u r => hR x _ _ _ (fun b o e _ => Heap.get?_push_of_some _ e) r) p⟩, fun a q => by
        cases q
        cases z : s.heap.get? s1.heap.objs.size with
        | none => rfl
        | some o' => exact absurd (Heap.lt_size (k.kn.all _ _ z)) (Nat.lt_irrefl _)⟩, k.trans Wd.K.push⟩ (by show vs.toArray.size ≤ sizeLine; rw [List.size_toArray, ← p.length]; exact hz)) fun _ _ x => x)
theorem Ev.tuple (hR : ∀ x, Stab (R x)) (hz : l.length ≤ sizeLine) (ha : EvL X t A env ρ es (l.map R)) {k : Nat} : Ev X t A env ρ (.Tuple es k pos) (RTup R l) := fun s E G T V =>
  PyProof.Rows.Tuple_ (wpAny_mono (ha s E pos G T V) (fun vs s1 ⟨ps, k⟩ => by
    have p := are_map ps
    exact wpAny_newObj_type ⟨⟨_, _, rfl, Heap.get?_push_size _ rfl, by
      rw [List.toList_toArray]
      exact paired_imp (fun x u r => hR x _ _ _ (fun b o e _ => Heap.get?_push_of_some _ e) r) p⟩, k.trans Wd.K.push⟩ (by show vs.toArray.size ≤ sizeLine; rw [List.size_toArray, ← p.length]; exact hz)) fun _ _ x => x)
theorem EvN.addL {e1 e2 : Expr} (hR : ∀ x, Stab (R x)) (hsz : l.length + m.length ≤ sizeLine) (h1 : Ev X false A env ρ e1 (RList R l)) (h2 : Ev X false A env ρ e2 (RList R m)) : EvN X false A env ρ (.BinOp e1 .Add e2 pos) (RList R (l ++ m)) := fun s E g b v =>
  wpAny_BinOp (wpAny_mono (h1 s E g b v) (fun a s1 ⟨p1, k1⟩ => wpAny_mono (h2 s1 E (k1.g g) (k1.tb b) (v.kn k1.kn)) (fun c s2 ⟨p2, k2⟩ =>
    wpAny_mono (op_addL (X := X) (t := false) hR hsz (stab_list hR _ _ _ k2.kn.sv p1) p2 E) (fun u _ ⟨p, k⟩ => ⟨⟨p.1, fun a q => by
      cases z : s.heap.get? a with
      | none => rfl
      | some o' => have := (k1.trans k2).kn.all _ _ z; rw [p.2 a q] at this; cases this⟩, k1.trans (k2.trans k)⟩) fun _ _ x => x) fun _ _ x => x) fun _ _ x => x)
theorem Ev.addL {e1 e2 : Expr} (hR : ∀ x, Stab (R x)) (hsz : l.length + m.length ≤ sizeLine) (h1 : Ev X t A env ρ e1 (RList R l)) (h2 : Ev X t A env ρ e2 (RList R m)) : Ev X t A env ρ (.BinOp e1 .Add e2 pos) (RList R (l ++ m)) :=
  Ev.bin (stab_list hR) h1 h2 fun s a b _ _ p q E => wpAny_mono (op_addL hR hsz p q E) (fun _ _ ⟨p, k⟩ => ⟨p.1, k⟩) fun _ _ x => x
theorem op_tupItem {k : Nat} {x : α} (hk : i = (k : Int)) (hs : k < 1000000) (hx : l[k]? = some x) (ha : RTup R l s.heap a) (hb : RInt i s.heap b) : Op X t A s (getItem a b) (R x) := fun E => by
  obtain ⟨c, vs, rfl, hl, p⟩ := ha
  obtain ⟨_, rfl⟩ := hb
  obtain ⟨u, hu, hr⟩ := paired_at p hx
  subst hk
  have hlt : k < vs.size := by
    obtain ⟨h, _⟩ := List.getElem?_eq_some_iff.mp hu
    simpa using h
  refine PyProof.Rows.getItem_tuple (j := k) (x := u) ⟨_, hl, rfl, 0, rfl⟩ (by omega) (by omega) ?_ (by simpa using hu) ⟨hr, Wd.K.refl⟩
  unfold seqIndex?
  simp
  omega
theorem tup_type {s : Shared} {v : Value} (h : RTup R l s.heap v) : s.TypeIs v "tuple" := by
  obtain ⟨a, vs, rfl, hl, _⟩ := h
  exact ⟨_, hl, rfl⟩
theorem paired_app {β : Type} {F : α → β → Prop} {l m : List α} {vs us : List β} (p : Paired F l vs) (q : Paired F m us) : Paired F (l ++ m) (vs ++ us) := by
  induction p with
  | nil => exact q
  | cons x _ ih => exact .cons x ih
theorem paired_rep {β : Type} {F : α → β → Prop} {l : List α} {vs : List β} (p : Paired F l vs) : ∀ n : Nat, Paired F (List.replicate n l).flatten (List.replicate n vs).flatten
  | 0 => .nil
  | n + 1 => by
    rw [List.replicate_succ, List.replicate_succ, List.flatten_cons, List.flatten_cons]
    exact paired_app p (paired_rep p n)
theorem mulL_base {prog : Program} {w : World} {E : Value → Shared → Prop} {c : Addr} {vs : Array Value} {k : Nat} {x : Int} {u : Tok} {Q : Value → Shared → Prop}
    (hl : s.heap.get? c = some { cls := .type "list", dict := none, data := .seq vs k, slots := #[] })
    (hlo : -(2 ^ 63 : Int) ≤ x) (hhi : x < 2 ^ 63) (hsz : vs.size * x.toNat ≤ 2 ^ 24)
    (h : Q (.ref s.heap.objs.size) { s with heap := s.heap.push { cls := .type "list", data := .seq (List.foldl (fun x1 x2 => x1 ++ x2) #[] (List.replicate (if vs.isEmpty = true then 0 else x.toNat) vs)) } }) :
    wpAny (model prog w) A (binaryOp .Mult (.ref c) (.int x u)) Q E s :=
  wpAny_binaryOp_repeat_ref (T := "list") (U := "int") (by decide) ⟨_, hl, rfl⟩ (fun s' => PySem.typeIs_int s' x u) noFill_list_mul F.fills_int_mul F.slot_int_rmul repeat_list F.slot_int_index.lookup
    (call_meets F.slot_int_rmul (PySem.typeIs_int s x u) F.entry_int_rmul (F.args_int_rmul_2 _ _) (int___rmul___int_list x u c vs k)
      ⟨hl, rfl, ⟨_, hl, rfl⟩, call_meets F.slot_list_mul ⟨_, hl, rfl⟩ F.entry_list_mul (F.args_list_mul_2 _ _)
        (AutoListH.list___mul___list_int_3 c vs k x u (by simp [Builtin.List.listFitsIndex]; omega) (by omega) (by simp [Builtin.List.listTooLong, sizeLine]; omega))
        ⟨hl, h⟩⟩)
theorem op_mulL {n : Nat} (hR : ∀ x, Stab (R x)) (hn : i = (n : Int)) (hs : n < 1000000) (hz : l.length * n ≤ 2 ^ 24) (ha : RList R l s.heap a) (hb : RInt i s.heap b) : Op X t A s (binaryOp .Mult a b) (RList R (List.replicate n l).flatten) := fun E => by
  obtain ⟨c, vs, rfl, ⟨k, hl⟩, p⟩ := ha
  obtain ⟨u, rfl⟩ := hb
  subst hn
  have e1 : l.length = vs.size := by rw [p.length]; simp
  have e2 : ((n : Nat) : Int).toNat = n := Int.toNat_natCast n
  have key : RList R (List.replicate n l).flatten (s.heap.push { cls := .type "list", data := .seq (List.foldl (fun x1 x2 => x1 ++ x2) #[] (List.replicate (if vs.isEmpty = true then 0 else ((n : Nat) : Int).toNat) vs)) }) (.ref s.heap.objs.size) := by
    refine ⟨_, _, rfl, ⟨0, Heap.get?_push_size _ rfl⟩, ?_⟩
    rw [listMul_foldl_if, e2, List.toList_toArray]
    exact paired_imp (fun x u r => hR x _ _ _ (fun b o e _ => Heap.get?_push_of_some _ e) r) (paired_rep p n)
  exact mulL_base hl (by omega) (by omega) (by rw [e2, ← e1]; exact hz) ⟨key, Wd.K.push⟩
end

/-! ## equal lists, however deep -/
def EqR {α : Type} (d : Nat) (R : α → Rp) (q : α → α → Bool) : Prop := ∀ (A : Around) (s : Shared) (x y : α) (u v : Value), A.units + d < cLine → R x s.heap u → R y s.heap v → SeqAt.EqAt A s u v (q x y)
theorem eqR_int {d : Nat} : EqR d RInt (fun x y => x == y) := fun A s x y u v _ ⟨_, hx⟩ ⟨_, hy⟩ => by subst hx hy; exact SeqAt.EqAt.int_int _ _ _ _
theorem eqR_str {d : Nat} : EqR d RStr (fun x y => x == y) := fun A s x y u v _ ⟨_, hx⟩ ⟨_, hy⟩ => by subst hx hy; exact SeqAt.EqAt.str_str _ _ _ _
def eqL {α : Type} (q : α → α → Bool) : List α → List α → Bool
  | [], [] => true
  | x :: l, y :: m => q x y && eqL q l m
  | _, _ => false
theorem eqL_len {α : Type} {q : α → α → Bool} : ∀ {l m : List α}, l.length ≠ m.length → eqL q l m = false
  | [], [], h => absurd rfl h
  | [], _ :: _, _ => rfl
  | _ :: _, [], _ => rfl
  | x :: l, y :: m, h => by
    unfold eqL
    rw [eqL_len fun e => h (by simp [e]), Bool.and_false]
theorem eqL_range {α : Type} {q : α → α → Bool} : ∀ {l m : List α}, l.length = m.length → ∀ e : Nat → Bool, (∀ j x y, l[j]? = some x → m[j]? = some y → e j = q x y) → (List.range l.length).all e = eqL q l m
  | [], [], _, e, _ => rfl
  | [], _ :: _, h, _, _ => by simp at h
  | _ :: _, [], h, _, _ => by simp at h
  | x :: l, y :: m, h, e, he => by
    rw [List.length_cons, List.range_succ_eq_map, List.all_cons, List.all_map]
    unfold eqL
    rw [he 0 x y rfl rfl, ← eqL_range (l := l) (m := m) (by simpa using h) (fun j => e (j + 1)) fun j x y hx hy => he (j + 1) x y hx hy]
    rfl
theorem eqL_refl {α : Type} {q : α → α → Bool} (hq : ∀ x, q x x = true) : ∀ l : List α, eqL q l l = true
  | [] => rfl
  | x :: l => by unfold eqL; rw [hq, eqL_refl hq l]; rfl
def Fun1 {α : Type} (R : α → Rp) : Prop := ∀ h x y v, R x h v → R y h v → x = y
theorem fun_int : Fun1 RInt := fun _ _ _ _ ⟨_, e⟩ ⟨_, e'⟩ => by subst e; cases e'; rfl
theorem fun_str : Fun1 RStr := fun _ _ _ _ ⟨_, e⟩ ⟨_, e'⟩ => by subst e; cases e'; rfl
theorem paired_fun {α : Type} {R : α → Rp} {h : Heap} (f : Fun1 R) : ∀ {l m : List α} {vs : List Value}, Paired (fun x u => R x h u) l vs → Paired (fun x u => R x h u) m vs → l = m
  | _, _, _, .nil, .nil => rfl
  | _, _, _, .cons p r, .cons p' r' => by rw [f _ _ _ _ p p', paired_fun f r r']
theorem fun_list {α : Type} {R : α → Rp} (f : Fun1 R) : Fun1 (RList R) := fun h x y v ⟨a, vs, e, ⟨n, hl⟩, p⟩ ⟨a', vs', e', ⟨n', hl'⟩, p'⟩ => by
  subst e; cases e'
  rw [hl] at hl'; cases hl'
  exact paired_fun f p p'
section
variable {α : Type} {R : α → Rp} {q : α → α → Bool} {d : Nat}
theorem eq_parts {A : Around} {s : Shared} {l m : List α} {vs us : Array Value} {a b : Addr} {n n' : Nat} (hE : EqR d R q) (hu : A.units + (d + 1) < cLine) (p : Paired (fun x u => R x s.heap u) l vs.toList) (p' : Paired (fun x u => R x s.heap u) m us.toList) (hz : vs.size = us.size) :
    ∃ e : Nat → Bool, (∀ j (h1 : j < vs.size) (h2 : j < us.size), SeqAt.EqAt A.in1 s vs[j] us[j] (e j)) ∧ (List.range vs.size).all e = eqL q l m := by
  have e1 : l.length = vs.size := by rw [p.length]; simp
  have e2 : m.length = us.size := by rw [p'.length]; simp
  refine ⟨fun j => match l[j]?, m[j]? with | some x, some y => q x y | _, _ => false, fun j h1 h2 => ?_, ?_⟩
  · obtain ⟨x, hx, rx⟩ := paired_get p (i := j) (u := vs[j]) (by simp [h1])
    obtain ⟨y, hy, ry⟩ := paired_get p' (i := j) (u := us[j]) (by simp [h2])
    simp only [hx, hy]
    exact hE A.in1 s x y _ _ (by show A.units + 1 + d < cLine; omega) rx ry
  · rw [← e1]
    exact eqL_range (by omega) _ fun j x y hx hy => by simp only [hx, hy]
theorem eqR_list (hE : EqR d R q) (hq : ∀ x, q x x = true) (f : Fun1 R) : EqR (d + 1) (RList R) (eqL q) := fun A s l m u v hu ⟨a, vs, e, ⟨n, hl⟩, p⟩ ⟨b, us, e', ⟨n', hm⟩, p'⟩ => by
  subst e e'
  by_cases hab : a = b
  · subst hab
    rw [hl] at hm; cases hm
    have := paired_fun f p p'
    subst this
    rw [eqL_refl hq]
    exact SeqAt.EqAt.same _
  · refine SeqAt.EqAt.of_refs hab ?_
    have hL : s.heap.IsList a vs := ⟨_, hl, rfl, n, rfl⟩
    have hM : s.heap.IsList b us := ⟨_, hm, rfl, n', rfl⟩
    by_cases hz : vs.size = us.size
    · obtain ⟨e, he, ha⟩ := eq_parts (a := a) (b := b) (n := n) (n' := n') hE hu p p' hz
      rw [← ha]
      exact SeqAt.RcAt.lists hL hM hz (by omega) he
    · rw [eqL_len (by have e1 : l.length = vs.size := by rw [p.length]; simp
                      have e2 : m.length = us.size := by rw [p'.length]; simp
                      omega)]
      exact SeqAt.RcAt.lists_lengths hL hM (by simpa using hz) (by omega)
variable {X : Wd} {t : Bool} {A : Around} {s : Shared} {a b : Value} {l m : List α}
theorem op_eqL (hE : EqR d R q) (hu : A.units + (d + 1) < cLine) (ha : RList R l s.heap a) (hb : RList R m s.heap b) : Op X t A s (compareOp .Eq a b) (RBool (eqL q l m)) := fun E => by
  obtain ⟨a, vs, rfl, ⟨n, hl⟩, p⟩ := ha
  obtain ⟨b, us, rfl, ⟨n', hm⟩, p'⟩ := hb
  have hL : s.heap.IsList a vs := ⟨_, hl, rfl, n, rfl⟩
  have hM : s.heap.IsList b us := ⟨_, hm, rfl, n', rfl⟩
  by_cases hz : vs.size = us.size
  · obtain ⟨e, he, ha⟩ := eq_parts (a := a) (b := b) (n := n) (n' := n') hE hu p p' hz
    exact SeqAt.RcAt.lists hL hM hz (by omega) he _ _ _ _ ⟨by rw [ha]; rfl, Wd.K.refl⟩
  · refine SeqAt.RcAt.lists_lengths hL hM (by simpa using hz) (by omega) _ _ _ _ ⟨?_, Wd.K.refl⟩
    rw [eqL_len (by have e1 : l.length = vs.size := by rw [p.length]; simp
                    have e2 : m.length = us.size := by rw [p'.length]; simp
                    omega)]
    rfl
theorem op_neL (hE : EqR d R q) (hu : A.units + (d + 1) < cLine) (ha : RList R l s.heap a) (hb : RList R m s.heap b) : Op X t A s (compareOp .NotEq a b) (RBool (!eqL q l m)) := fun E => by
  obtain ⟨a, vs, rfl, ⟨n, hl⟩, p⟩ := ha
  obtain ⟨b, us, rfl, ⟨n', hm⟩, p'⟩ := hb
  have hL : s.heap.IsList a vs := ⟨_, hl, rfl, n, rfl⟩
  have hM : s.heap.IsList b us := ⟨_, hm, rfl, n', rfl⟩
  by_cases hz : vs.size = us.size
  · obtain ⟨e, he, ha⟩ := eq_parts (a := a) (b := b) (n := n) (n' := n') hE hu p p' hz
    exact SeqAt.RcNeAt.lists hL hM hz (by omega) he _ _ _ _ ⟨by rw [ha]; rfl, Wd.K.refl⟩
  · refine SeqAt.RcNeAt.lists_lengths hL hM (by simpa using hz) (by omega) _ _ _ _ ⟨?_, Wd.K.refl⟩
    rw [eqL_len (by have e1 : l.length = vs.size := by rw [p.length]; simp
                    have e2 : m.length = us.size := by rw [p'.length]; simp
                    omega)]
    rfl
/-- list.count -/
theorem op_count {x : α} (hE : EqR (d + 1) R q) (hf : Fun1 R) (hu : A.units + (d + 3) < cLine) (ha : RList R l s.heap a) (hb : R x s.heap b) : Op X t A s (call (.builtin "list.count") [a, b]) (RInt (l.countP fun y => q y x)) := fun E => by
  obtain ⟨a, vs, rfl, ⟨n, hl⟩, p⟩ := ha
  classical
  let e : Value → Bool := fun u => decide (∃ y, R y s.heap u ∧ q y x = true)
  have he : ∀ u y, R y s.heap u → e u = q y x := fun u y hy => by
    show decide _ = _
    cases hq : q y x with
    | true => exact decide_eq_true ⟨y, hy, hq⟩
    | false => exact decide_eq_false fun ⟨z, hz, hq'⟩ => by rw [hf _ _ _ _ hz hy, hq] at hq'; cases hq'
  have hc : vs.toList.countP e = l.countP fun y => q y x := by
    have : ∀ {l : List α} {us : List Value}, Paired (fun x u => R x s.heap u) l us → us.countP e = l.countP fun y => q y x := by
      intro l us p
      induction p with
      | nil => rfl
      | cons h _ ih => rw [List.countP_cons, List.countP_cons, ih, he _ _ h]
    exact this p
  refine call_meets F.slot_list_count ⟨_, hl, rfl⟩ F.entry_list_count (F.args_list_count_2 _ _) (SeqAt.list_countAt a vs n none #[] b e) ⟨hl, fun y hy => ?_, ⟨_, by rw [hc]⟩, Wd.K.tok⟩
  obtain ⟨i, hi, hy'⟩ := List.getElem_of_mem (Array.mem_toList_iff.mpr hy)
  obtain ⟨z, hz, hr⟩ := paired_get p (i := i) (u := y) (by rw [← hy']; simp [List.getElem?_eq_getElem hi])
  rw [he _ _ hr]
  exact hE _ s z x _ _ (by show A.units + 1 + (d + 1) < cLine; omega) hr hb
end
end Mine
namespace Mine

theorem pick_run' {α : Type} (l : List α) (a k : Nat) : ((List.range k).map (a + ·)).filterMap (l[·]?) = (l.drop a).take k := by
  have := pick_run l.toArray a k
  simpa using this
theorem pick_from {α : Type} (l : List α) (k : Nat) : pick l (some (k : Int)) none none = l.drop k := by
  unfold pick
  rw [sliceBounds_plain]
  simp only [Option.elim]
  rw [sliceRange_one, clipAt_nat, pick_run']
  rw [List.take_of_length_le (by rw [List.length_drop]; omega)]
  by_cases h : k ≤ l.length
  · rw [Nat.min_eq_left h]
  · rw [Nat.min_eq_right (by omega), List.drop_length, List.drop_eq_nil_of_le (by omega)]
theorem pick_to {α : Type} (l : List α) (k : Nat) : pick l none (some (k : Int)) none = l.take k := by
  unfold pick
  rw [sliceBounds_plain]
  simp only [Option.elim]
  rw [sliceRange_one, clipAt_nat, pick_run']
  rw [Nat.sub_zero, List.drop_zero]
  by_cases h : k ≤ l.length
  · rw [Nat.min_eq_left h]
  · rw [Nat.min_eq_right (by omega), List.take_of_length_le (by omega), List.take_of_length_le (by omega)]
theorem pick_butLast {α : Type} (l : List α) : pick l none (some (-1)) none = l.take (l.length - 1) := by
  unfold pick
  rw [sliceBounds_plain]
  simp only [Option.elim]
  rw [sliceRange_one, show ((-1 : Int)) = -((1 : Nat) : Int) from rfl, clipAt_neg _ _ (Nat.le_refl 1), pick_run']
  rw [Nat.sub_zero, List.drop_zero]

section
variable {X : Wd} {t : Bool} {A : Around} {s : Shared} {a b v : Value} {i j : Int}
/-! sum, min -/
theorem preSum_list (l : List Int) : ∀ n, n ≤ l.length → preSum (fun i => l.getD i 0) n = (l.take n).sum
  | 0, _ => by simp [preSum]
  | n + 1, h => by
    rw [preSum, preSum_list l n (by omega), List.take_add_one, List.sum_append]
    have : l[n]? = some (l.getD n 0) := by rw [List.getD_eq_getElem?_getD, List.getElem?_eq_getElem (by omega)]; rfl
    rw [this]; simp
theorem op_sum {l : List Int} {P : Rp} (hI : Itb X P RInt l) (hA : A.handled = none) (ha : P s.heap a) : Op X t A s (call (.builtin "sum") [a]) (RInt l.sum) := fun E => by
  refine call_sum_walkAnyS (hI A.in1 s E _ a ha fun o fp Pi St W hP hst hfp hIx => ?_)
  refine ⟨_, fp, _, _, _, Pi, _, fun i => l.getD i 0, rfl, (W A.in1 hA).toS, hst, fun b hb => ?_, fun i v hv => ?_, fun s' t' mv => ?_⟩
  · have := hfp b hb
    show LT.lt (α := Nat) b (s.heap.push o).objs.size
    rw [Heap.size_push]; omega
  · obtain ⟨x, hx, u, hu⟩ := hP i v hv
    refine ⟨u, ?_⟩
    show v = Value.int (l.getD i 0) u
    rw [hu, List.getD_eq_getElem?_getD, hx]; rfl
  · rw [preSum_list l _ (Nat.le_refl _), List.take_length]
    refine ⟨⟨_, rfl⟩, ?_⟩
    have e : s' = { s with heap := s'.heap, toks := s'.toks } := by
      obtain ⟨h1, h2, h3, h4, h5⟩ := mv
      cases s'
      simp only at h2 h3 h4
      subst h2 h3 h4
      rfl
    rw [e]
    exact Wd.K.heap fun b o e => mv.heap b o (nm (Or.inr (Heap.lt_size e))) (Heap.get?_push_of_some _ e)
def ltS (x y : Str) : Bool := decide (x.cps.toList < y.cps.toList)
def best : List Str → Str → Str
  | [], b => b
  | x :: r, b => best r (if ltS x b then x else b)
theorem best_snoc (x : Str) : ∀ (r : List Str) (b : Str), best (r ++ [x]) b = if ltS x (best r b) then x else best r b
  | [], b => rfl
  | y :: r, b => by
    rw [List.cons_append]
    unfold best
    exact best_snoc x r _
theorem argBest_lt (bt : Nat → Nat → Bool) : ∀ k, argBest bt k ≤ k
  | 0 => Nat.le_refl _
  | k + 1 => by
    unfold argBest
    split
    · exact Nat.le_refl _
    · exact Nat.le_succ_of_le (argBest_lt bt k)
theorem argBest_succ (bt : Nat → Nat → Bool) (k : Nat) : argBest bt (k + 1) = if bt (k + 1) (argBest bt k) then k + 1 else argBest bt k := rfl
theorem argBest_best (x : Str) (r : List Str) : ∀ k, k ≤ r.length → (x :: r).getD (argBest (fun i j => ltS ((x :: r).getD i x) ((x :: r).getD j x)) k) x = best (r.take k) x
  | 0, _ => by simp [argBest, best]
  | k + 1, h => by
    have ih := argBest_best x r k (by omega)
    have hk : r[k]? = some (r.getD k x) := by rw [List.getD_eq_getElem?_getD, List.getElem?_eq_getElem (by omega)]; rfl
    have e : (x :: r).getD (k + 1) x = r.getD k x := by simp [List.getD_eq_getElem?_getD]
    rw [List.take_add_one, hk]
    show _ = best (r.take k ++ [r.getD k x]) x
    rw [best_snoc, ← ih, argBest_succ]
    generalize argBest (fun i j => ltS ((x :: r).getD i x) ((x :: r).getD j x)) k = c
    rw [e]
    by_cases hc : ltS (r.getD k x) ((x :: r).getD c x) = true
    · rw [if_pos hc, if_pos hc, e]
    · rw [if_neg hc, if_neg hc]
theorem op_min {x : Str} {r : List Str} (hA : A.handled = none) (ha : RList RStr (x :: r) s.heap a) : Op X t A s (call (.builtin "min") [a]) (RStr (best r x)) := fun E => by
  refine call_min_walk (itb_list A.in1 s E _ a ha fun o fp Pi St W hP hst hfp hIx => ?_)
  refine ⟨_, fp, _, _, Pi, St, fun i j => ltS ((x :: r).getD i x) ((x :: r).getD j x), rfl, W A.in1 hA, hst, fun b hb => ?_, by simp, ?_, ?_⟩
  · have := hfp b hb
    show LT.lt (α := Nat) b (s.heap.push o).objs.size
    rw [Heap.size_push]; omega
  · intro i j vi vj s' Q E hi hj hQ
    obtain ⟨y, hy, ty, rfl⟩ := hP i vi hi
    obtain ⟨z, hz, tz, rfl⟩ := hP j vj hj
    refine PySem.P.lt_str ?_
    have e1 : (x :: r).getD i x = y := by rw [List.getD_eq_getElem?_getD, hy]; rfl
    have e2 : (x :: r).getD j x = z := by rw [List.getD_eq_getElem?_getD, hz]; rfl
    simp only [e1, e2, ltS] at hQ
    exact hQ
  · intro v h' tk hv hk
    refine ⟨?_, Wd.K.heap fun b o e => hk b o (nm (Or.inr (Heap.lt_size e))) (Heap.get?_push_of_some _ e)⟩
    obtain ⟨y, hy, ty, rfl⟩ := hP _ v hv
    refine ⟨ty, ?_⟩
    have := argBest_best x r r.length (Nat.le_refl _)
    rw [List.take_length] at this
    have hy' : (x :: r)[argBest (fun i j => ltS ((x :: r).getD i x) ((x :: r).getD j x)) r.length]? = some y := hy
    rw [List.getD_eq_getElem?_getD, hy'] at this
    rw [← this]; rfl
/-! split -/
theorem numbered_rep {h : Heap} : ∀ (n : Nat) (l : List Str), Paired (fun x u => RStr x h u) l (strValues (numbered n l))
  | n, [] => .nil
  | n, x :: l => .cons ⟨_, rfl⟩ (numbered_rep _ l)
theorem op_split {x y : Str} (hy : (y.length == 0) = false) (hsz : x.length ≤ sizeLine) (hsz2 : (Builtin.Str.partsBetween x (Builtin.Str.occurrences x y 0 x.length (x.length + 1)) y.length).length ≤ sizeLine) (ha : RStr x s.heap a) (hb : RStr y s.heap b) :
    ∀ E, wpAny X.M A (call (.builtin "str.split") [a, b]) (fun v s' => (RList RStr (Txt.split x y) s'.heap v ∧ ∀ c, v = .ref c → s.heap.get? c = none) ∧ X.K t s s') E s := fun E => by
  obtain ⟨tx, rfl⟩ := ha
  obtain ⟨u, rfl⟩ := hb
  have fr : ∀ c : Addr, Value.ref s.heap.objs.size = .ref c → s.heap.get? c = none := fun c q => by cases q; exact no_size
  cases h1 : (decide (x.length < y.length) || decide (Builtin.Str.strKind x < Builtin.Str.strKind y))
  · cases hf : (Builtin.Str.occurrences x y 0 x.length (x.length + 1)).isEmpty
    · have e : Txt.split x y = Builtin.Str.partsBetween x (Builtin.Str.occurrences x y 0 x.length (x.length + 1)) y.length := (if_neg (ne_true_of_eq_false h1)).trans (if_neg (ne_true_of_eq_false hf))
      refine call_meets F.slot_str_split (typeIs_str _ _ _) F.entry_str_split (F.args_str_split_2 _ _) (meets_str_split_sep x y tx u h1 hy hf hsz hsz2) ?_
      show wants _ E _ { s with toks := _, heap := s.heap.push { cls := .type "list", data := .seq (strsFrom s.toks (Builtin.Str.partsBetween x (Builtin.Str.occurrences x y 0 x.length (x.length + 1)) y.length)).toArray } }
      rw [strsFrom_eq]
      refine ⟨⟨⟨_, _, rfl, ⟨0, Heap.get?_push_size _ rfl⟩, ?_⟩, fr⟩, Wd.K.push⟩
      rw [List.toList_toArray, e]
      exact numbered_rep _ _
    · have e : Txt.split x y = [x] := (if_neg (ne_true_of_eq_false h1)).trans (if_pos hf)
      exact call_meets F.slot_str_split (typeIs_str _ _ _) F.entry_str_split (F.args_str_split_2 _ _) (meets_str_split_not_found x y tx u h1 hy hf)
        ⟨⟨⟨_, _, rfl, ⟨0, Heap.get?_push_size _ rfl⟩, by rw [e]; exact .cons ⟨_, rfl⟩ .nil⟩, fr⟩, Wd.K.push⟩
  · have e : Txt.split x y = [x] := if_pos h1
    exact call_meets F.slot_str_split (typeIs_str _ _ _) F.entry_str_split (F.args_str_split_2 _ _) (meets_str_split_cannot_occur x y tx u h1)
      ⟨⟨⟨_, _, rfl, ⟨0, Heap.get?_push_size _ rfl⟩, by rw [e]; exact .cons ⟨_, rfl⟩ .nil⟩, fr⟩, Wd.K.push⟩
/-! slices of texts -/
theorem part_of {v : Value} {k : Option Int} (h : IsPart v k) : ∃ l : Option (Int × Tok), v = partValue l ∧ l.map (·.1) = k := by
  cases h with
  | none => exact ⟨none, rfl, rfl⟩
  | int i t => exact ⟨some (i, t), rfl, rfl⟩
theorem op_sliceS {x : Str} {lo hi : Option Int} (hsz : x.length ≤ sizeLine) (ha : RStr x s.heap a) (hb : RSlice lo hi none s.heap b) : Op X t A s (getItem a b) (RStr (Txt.slice x lo hi)) := fun E => by
  obtain ⟨tx, rfl⟩ := ha
  obtain ⟨d, vl, vu, vst, rfl, hd, pl, pu, ps⟩ := hb
  obtain ⟨l, rfl, el⟩ := part_of pl
  obtain ⟨u, rfl, eu⟩ := part_of pu
  cases ps
  refine wpAny_getItem_str_slice (l := l) (u := u) (st := none) ⟨_, hd, rfl, rfl⟩ rfl ?_
  have e : Txt.slice x lo hi = if ((1 : Int) == 1 && (slicePicked x l u none).length == x.length) = true then x else ⟨((slicePicked x l u none).filterMap (x.cps[·]?)).toArray⟩ := by
    unfold Txt.slice slicePicked
    rw [el, eu]; rfl
  have hle := Txt.slice_le x lo hi
  rw [e] at hle ⊢
  unfold sliceMade
  show (if ((1 : Int) == 1 && (slicePicked x l u none).length == x.length) = true then _ else _ : Made).post _ s
  by_cases hc : ((1 : Int) == 1 && (slicePicked x l u none).length == x.length) = true
  · rw [if_pos hc]
    rw [if_pos hc]
    exact ⟨⟨_, rfl⟩, Wd.K.refl⟩
  · rw [if_neg hc] at hle
    rw [if_neg hc, if_neg hc]
    exact ⟨Nat.le_trans hle hsz, ⟨_, rfl⟩, Wd.K.tok⟩
theorem slice_from {x : Str} {k : Nat} : Txt.slice x (some (k : Int)) none = ⟨(x.cps.toList.drop k).toArray⟩ := by
  by_cases h : k ≤ x.length
  · rw [slice_from_eq (b := x.length) (by omega) (by omega) rfl]
    rw [Int.toNat_natCast, List.take_of_length_le]
    rw [List.length_drop]
    have : x.cps.toList.length = x.length := by simp [Str.length]
    omega
  · rw [slice_beyond (by omega), List.drop_eq_nil_of_le]
    · rfl
    · have : x.cps.toList.length = x.length := by simp [Str.length]
      omega
theorem slice_to {x : Str} {k : Nat} (h : k ≤ x.cps.toList.length) : Txt.slice x none (some (k : Int)) = ⟨(x.cps.toList.take k).toArray⟩ := by
  have := slice_closes_to (x := x) (j := (k : Int)) ⟨by omega, by omega⟩
  have := eq_of_beq this
  rw [this]
  simp
end
end Mine
namespace Mine

section
variable {N N' : Inv} {X : Wd} {t : Bool} {env : Env} {s₀ s s' : Shared} {ρ : Vars} {m cm : Str → Option Value}
theorem VarIs.ext {I : Nat} {h h' : Heap} {x : Str} {v : Value} (hs : ∀ b o, Ne (α := Nat) b I → h.get? b = some o → h'.get? b = some o) (hL : Ne (α := Nat) env.locals I) (hC : ∀ n c, env.cells.lookup n = some c → Ne (α := Nat) c I) (y : VarIs env h x v) : VarIs env h' x v := by
  rcases y with ⟨a, m, ⟨o, es, ep, e, r⟩, e'⟩ | ⟨a, c, n, ⟨o, e, r⟩⟩
  · exact .inl ⟨a, m, ⟨o, es, ep, hs _ _ hL e, r⟩, e'⟩
  · exact .inr ⟨a, c, n, ⟨o, hs _ _ (hC _ _ n) e, r⟩⟩
theorem St.at {I : Nat} {h' : Heap} {n : Nat} (G₀ : X.G s₀.heap) (F : St X t env s₀ N ρ s) (hn : LE.le (α := Nat) s₀.heap.objs.size I) (hs : ∀ b o, Ne (α := Nat) b I → s.heap.get? b = some o → h'.get? b = some o)
    (ho : ∀ o, s.heap.get? I = some o → ¬ IsVal o ∧ ¬ IsFld o) (hL : Ne (α := Nat) env.locals I) (hC : ∀ n c, env.cells.lookup n = some c → Ne (α := Nat) c I) (hN : N'.p h') : St X t env s₀ N' ρ { s with heap := h', toks := n } := by
  obtain ⟨⟨m, cm, f⟩, V, G, T, J⟩ := F
  have old : ∀ (b : Nat) (o : Obj), s₀.heap.get? b = some o → Ne (α := Nat) b I := fun b o e => by
    have : LT.lt (α := Nat) b s₀.heap.objs.size := Heap.lt_size e
    omega
  have k : X.K t s₀ { s with heap := h', toks := n } := by
    obtain ⟨h₁, tk, rfl, kn, b⟩ := f.k
    exact ⟨h', n, rfl, fun c o e z => hs c o (old c o e) (kn c o e z), fun q => X.hT _ _ (fun c o e fl => hs c o (fun q => by subst q; exact (ho o e).2 fl) e) (b q)⟩
  have sv : Sv s.heap h' := fun c o e w => hs c o (fun q => by subst q; exact (ho o e).1 w) e
  refine ⟨⟨m, cm, k, ?_, f.new, fun n c e => ?_, f.apart, f.above⟩, fun x P e => ?_, X.hG _ _ (fun c o e z => hs c o (old c o e) (f.k.kn.up c o e z)) G₀, X.hT _ _ (fun c o e fl => hs c o (fun q => by subst q; exact (ho o e).2 fl) e) T, hN⟩
  · obtain ⟨o, es, ep, e, r⟩ := f.ns
    exact ⟨o, es, ep, hs _ _ hL e, r⟩
  · obtain ⟨o, e', r⟩ := f.cell n c e
    exact ⟨o, hs _ _ (hC _ _ e) e', r⟩
  · obtain ⟨sp, v, hv, hp⟩ := V x P e
    exact ⟨sp, v, hv.ext hs hL hC, sp _ _ _ sv hp⟩
theorem St.n (F : St X t env s₀ N ρ s) (h : N'.p s.heap) : St X t env s₀ N' ρ s := ⟨F.1, F.2.1, F.2.2.1, F.2.2.2.1, h⟩
theorem St.vars {ρ' : Vars} (F : St X t env s₀ N ρ s) (h : ∀ x P, ρ'.lookup x = some P → ρ.lookup x = some P) : St X t env s₀ N ρ' s := ⟨F.1, fun x P e => F.2.1 x P (h x P e), F.2.2.1, F.2.2.2.1, F.2.2.2.2⟩
theorem St.imp {ρ' : Vars} (F : St X t env s₀ N ρ s) (h : ∀ x P, ρ'.lookup x = some P → ∃ P', ρ.lookup x = some P' ∧ Stab P ∧ ∀ hp v, P' hp v → P hp v) : St X t env s₀ N ρ' s := ⟨F.1, fun x P e => by
  obtain ⟨P', e', sp, i⟩ := h x P e
  obtain ⟨_, v, hv, hp⟩ := F.2.1 x P' e'
  exact ⟨sp, v, hv, i _ _ hp⟩, F.2.2.1, F.2.2.2.1, F.2.2.2.2⟩
theorem Fm.notLoc (f : Fm X t env s₀ m cm s) {I : Nat} {o : Obj} (e : s.heap.get? I = some o) (l : Lasting o) : Ne (α := Nat) env.locals I ∧ ∀ n c, env.cells.lookup n = some c → Ne (α := Nat) c I := by
  constructor
  · intro q
    obtain ⟨o', es, ep, e', hd, _⟩ := f.ns
    have q : env.locals = I := q
    rw [q, e] at e'; cases e'
    have := l.1; rw [hd] at this; exact this
  · intro n c hc q
    obtain ⟨o', e', hd⟩ := f.cell n c hc
    have q : c = I := q
    rw [q, e] at e'; cases e'
    have := l.1; rw [hd] at this; exact this
end

/-! ## a comprehension that is stored at once -/
section
variable {α β : Type} {N : Inv} {X : Wd} {t : Bool} {A : Around} {env : Env} {s₀ : Shared} {ρ : Vars} {scope : Scope} {cl : List (Str × Addr)} {x y : Str} {px py pos spos : Pos} {elt iter : Expr} {ifs : List Expr} {own : Bool} {caps : List Str}
  {l : List α} {R : α → Rp} {p : α → Bool} {g : α → β} {R' : β → Rp} {rest : List Stmt} {Q : Flow → Shared → Prop}
theorem Bd.comp {P : Rp} (G₀ : X.G s₀.heap) (hA : A.handled = none) (hy : env.kindOf y = some .local) (hk : env.scope.kind = .function)
    (hsw : swapsWith (.ListComp elt [⟨.Name x px, iter, ifs, 0⟩] scope pos) (some (.Name y py)) spos.line env = pure true) (hlen : l.length ≤ sizeLine) (hit : Ev X t A env ρ iter P) (hI : Itb X P R l)
    (hclos : closureFor scope env = pure cl) (hkind : scope.kind = .function) (hnames : ∀ y ∈ scope.names, y.2 = .local → scope.names.lookup y.1 = some .local)
    (hx : XKind scope env cl x own) (hcaps : CapsOk scope env cl caps) (hRs : ∀ a, Stab (R a)) (hRs' : ∀ b, Stab (R' b)) (hRl : ∀ b, Shal (R' b))
    (ht : ∀ C a, a ∈ l → Tests X A (cEnv scope cl C env) ((x, R a) :: capV ρ caps) ifs (p a))
    (he : ∀ C a, a ∈ l → p a = true → EvN X false A (cEnv scope cl C env) ((x, R a) :: capV ρ caps) elt (R' (g a)))
    (h : Bd X t A env s₀ N ((y, RList R' ((l.filter p).map g)) :: ρ) rest Q)
    (hs : ∀ x, foldedSetIterable iter env x = pure x := by intro _; rfl) :
    Bd X t A env s₀ N ρ (.Assign [.Name y py] (.ListComp elt [⟨.Name x px, iter, ifs, 0⟩] scope pos) spos :: rest) Q := fun s E F => by
  refine wpAny_execs_cons ?_
  rw [exec_Assign_Name_used _ _ _ _ hsw]
  refine wpAny_bind (wpAny_standAt (wpAny_bind ?_))
  show wpAny _ A (do let _ ← comprehension (.ListComp elt [⟨.Name x px, iter, ifs, 0⟩] scope pos) scope env _ (newList []) false (eval iter env) (some (PySem.assign (.Name y py) env))) _ _ s
  refine wpAny_bind (wpAny_mono (wpAny_comprehension_free (use := some (PySem.assign (.Name y py) env)) (Q := fun _ s' => wpAny X.M A (execs rest env) Q E s') rfl hs hclos hkind hnames
    (wpAny_mono (hit s E F.2.2.1 F.2.2.2.1 F.2.1) (fun xv s₁ ⟨pv, k₁⟩ => ?_) fun _ _ e => e)) (fun _ s' hq => wpAny_pure (wpAny_pure hq)) fun _ _ e => e)
  have F₁ := F.go k₁
  refine hI A s₁ E _ xv pv fun o fp Pi St' W hP hst hfp hIx => ?_
  refine comp_core (s₂ := { s₁ with heap := s₁.heap.push o }) (h₁ := s₁.heap) (RR := fun acc C => compPost X.M A E (some (PySem.assign (.Name y py) env)) (fun _ s' => wpAny X.M A (execs rest env) Q E s') acc C) hA hlen hkind hx hcaps rfl (Heap.size_push ..) (fun b o e => Heap.get?_push_of_some _ e)
    (W A hA) hP hst hIx hfp F₁.2.2.1 F₁.2.2.2.1 F₁.2.1 hRs hRs' hRl ht he fun h' tk ys m' hn hl hF hfr hk' => ?_
  show wpAny X.M A (PySem.assign (.Name y py) env (.ref (s₁.heap.objs.size + 1))) _ _ _
  have k₂ : X.K t s₁ { s₁ with heap := h', toks := tk } := Wd.K.heap hk'
  have hLlt : LT.lt (α := Nat) env.locals s₁.heap.objs.size := let ⟨_, _, f⟩ := F₁.1; f.ns.lt
  have hs₀ : LE.le (α := Nat) s₀.heap.objs.size s₁.heap.objs.size := by
    obtain ⟨_, _, f⟩ := F₁.1
    have := f.new
    omega
  refine wpAny_assign_Name (store_f G₀ hk (.loc hy) (F₁.go k₂) (stab_list hRs') (P := RList R' ((l.filter p).map g)) ⟨_, ys, rfl, hl, hF⟩ fun s'' F'' hsb => ?_)
  have hsb := hsb hy
  have hCL : s₁.heap.objs.size + 2 ≠ env.locals := nq (Or.inl (by omega))
  have hn'' : s''.heap.Ns (s₁.heap.objs.size + 2) m' := hn.sameBut hsb hCL
  refine ⟨m', hn'', fun h₃ hs₃ => ?_⟩
  have hdict : ∀ o, s''.heap.get? (s₁.heap.objs.size + 2) = some o → ∃ es ep, o.data = .dict es ep := fun o e => by
    obtain ⟨o', es, ep, e', hd, _⟩ := hn''
    rw [e] at e'; cases e'; exact ⟨es, ep, hd⟩
  refine h _ E (F''.at (n := s''.toks) G₀ (I := s₁.heap.objs.size + 2) (by omega) (fun b o hb e => (hs₃.2 b hb).trans e) (fun o e => ?_) (nq (Or.inr (by omega))) (fun n c hc q => ?_) ?_)
  · obtain ⟨es, ep, hd⟩ := hdict o e
    refine ⟨fun q => ?_, fun q => (by obtain ⟨_, q⟩ := q.fields; rw [q] at hd; cases hd)⟩
    rcases q.2 with ⟨_, _, z⟩ | ⟨_, _, z⟩ <;> (rw [hd] at z; cases z)
  · obtain ⟨_, cm, f⟩ := F''.1
    obtain ⟨o, e, hd⟩ := f.cell n c hc
    have q : c = s₁.heap.objs.size + 2 := q
    rw [q] at e
    obtain ⟨es, ep, hd'⟩ := hdict o e
    rw [hd] at hd'; cases hd'
  · refine N.ok _ _ (fun b o e l => (hs₃.2 b fun q => ?_).trans e) F''.2.2.2.2
    subst q
    obtain ⟨es, ep, hd⟩ := hdict o e
    have := l.1; rw [hd] at this; exact this
end

/-! ## a for over what is walked -/
section
variable {α : Type} {N : Inv} {X : Wd} {t : Bool} {A : Around} {env : Env} {s₀ : Shared} {ρ : Vars} {x : Str} {px pos : Pos} {iter : Expr} {l : List α} {R : α → Rp} {body rest : List Stmt} {Q : Flow → Shared → Prop}
theorem Bd.forI {P : Rp} (G₀ : X.G s₀.heap) (hA : A.handled = none) (hk : env.scope.kind = .function) (hx : StoreOk env x) (hit : Ev X t A env ρ iter P) (hI : Itb X P R l) (hRs : ∀ a, Stab (R a)) (hscal : ∀ a h h' v, R a h v → R a h' v)
    (J : Nat → Vars) (h0 : ∀ s, St X t env s₀ Inv.top ρ s → St X t env s₀ Inv.top (J 0) s)
    (step : ∀ i a (N' : Inv), l[i]? = some a → Bd X t A env s₀ N' ((x, R a) :: J i) body (fun f s' => f = .next ∧ St X t env s₀ N' (J (i + 1)) s'))
    (hr : Bd X t A env s₀ Inv.top (J l.length) rest Q)
    (hs : ∀ x, foldedSetIterable iter env x = pure x := by intro _; rfl) : Bd X t A env s₀ Inv.top ρ (.For (.Name x px) iter body [] pos :: rest) Q := fun s E F => by
  refine wpAny_execs_cons (wpAny_For (wpAny_mono (hit s E F.2.2.1 F.2.2.2.1 F.2.1) (fun xv s₁ ⟨pv, k₁⟩ => ?_) fun _ _ e => e) hs)
  have F₁ := F.go k₁
  refine hI A s₁ E _ xv pv fun o fp Pi St' W hP hst hfp hIx => ?_
  have hnI : LE.le (α := Nat) s₀.heap.objs.size s₁.heap.objs.size := by
    obtain ⟨_, _, f⟩ := F₁.1
    have h1 := f.new
    have h2 : LT.lt (α := Nat) env.locals s₁.heap.objs.size := f.ns.lt
    omega
  have F₂ := h0 _ (F₁.go (s' := { s₁ with heap := s₁.heap.push o, toks := s₁.toks }) Wd.K.push)
  let NI : Nat → Inv := fun i => ⟨fun h => (St' i h ∧ (∀ b : Nat, b ∈ fp → ∃ o, h.get? b = some o ∧ Lasting o)), fun h h' k ⟨a, b⟩ => ⟨(W A hA).frame i h h' a fun c hc o e => by
    obtain ⟨o', e', l'⟩ := b c hc
    rw [e] at e'; cases e'; exact k _ _ e l', fun c hc => let ⟨o', e', l'⟩ := b c hc; ⟨o', k _ _ e' l', l'⟩⟩⟩
  refine codeAny_forLoop (fun k s' => ∃ i, i ≤ l.length ∧ k = l.length + 1 - i ∧ St X t env s₀ Inv.top (J i) s' ∧ St' i s'.heap) ?_ (l.length + 1) ⟨0, Nat.zero_le _, rfl, F₂, hst⟩
  rintro k s' ⟨i, hi, rfl, F', st⟩
  have hat : ∀ {h' : Heap} {n : Nat} {M' : Inv}, (∀ b o, b ∉ [s₁.heap.objs.size] → s'.heap.get? b = some o → h'.get? b = some o) → M'.p h' → St X t env s₀ M' (J i) { s' with heap := h', toks := n } := fun hk' hM => by
    obtain ⟨_, o', vs, e', hd', n1, n2⟩ := hIx _ _ st
    obtain ⟨_, _, f⟩ := F'.1
    have lo : Lasting o' := ⟨by rw [hd']; trivial, fun ⟨ps, q, _⟩ => n2 (.inl ⟨ps, q⟩)⟩
    refine F'.at G₀ (I := s₁.heap.objs.size) hnI (fun b o hb e => hk' b o (by rw [List.mem_singleton]; exact hb) e) (fun o e => ?_) (f.notLoc e' lo).1 (f.notLoc e' lo).2 hM
    rw [e'] at e; cases e; exact ⟨n1, n2⟩
  by_cases hlt : i < l.length
  · refine (W A hA).item i _ _ _ hlt st fun v h' tk hv st' hk' => ?_
    obtain ⟨a, hla, hRa⟩ := hP i v hv
    refine wpAny_assign_Name (store_f (N := NI (i + 1)) (ρ := J i) G₀ hk hx (hat hk' ⟨st', (hIx _ _ st').1⟩) (hRs a) (hscal a _ _ _ hRa) fun s₃ F₃ _ => ?_)
    refine wpAny_mono (step i a (NI (i + 1)) hla s₃ _ F₃) (fun f s₄ ⟨ef, F₄⟩ => ?_) fun _ _ e => e
    subst ef
    exact ⟨l.length + 1 - (i + 1), by omega, i + 1, hlt, rfl, F₄.n trivial, F₄.2.2.2.2.1⟩
  · have hin : i = l.length := by omega
    subst hin
    refine (W A hA).done _ _ _ st fun h' tk hk' => ?_
    refine wpAny_execs_nil ?_
    exact hr _ E (hat hk' trivial)
end
end Mine
namespace Mine

/-! ## this text's world -/
noncomputable abbrev KF (w : World) : Frag := hd.heap_39 w.params
def theNames : List Str := ["len", "sum", "range", "min", "divmod", "reversed", "bytes", "int", "abs"]
def BmAt (mg : Str → Option Value) (h : Heap) : Prop := ∃ bm ob, mg "__builtins__" = some (.ref bm) ∧ bm ≠ builtinsNs ∧ h.get? bm = some ob ∧ ob.cls = .type "module" ∧ ob.dict = some builtinsNs ∧ ob.data = .plain
structure Gs (w : World) (mg mb : Str → Option Value) (h : Heap) : Prop where
  k : (KF w).In h
  g : h.Ns mainGlobals mg
  b : h.Ns builtinsNs mb
  l : h.NoLimit
  bm : BmAt mg h
def TabSt (P : Addr) (pos : Pos) (qual : Str) (h : Heap) : Prop := h.get? P = some (tabObj #[]) ∨ ∃ c', h.get? P = some (tabObj #[rawInt pos.line, rawInt pos.col, .ref c']) ∧ h.CodeRec (.ref c') qual
def posI : Pos := ⟨33, 4, 42, 28⟩
def posD : Pos := ⟨48, 4, 53, 55⟩
def Oth (hO h : Heap) : Prop := ∀ (b : Nat) (o : Obj), hO.get? b = some o → IsTab o → Ne (α := Nat) b 47 → Ne (α := Nat) b 54 → h.get? b = some o
theorem Oth.keep {hO h h' : Heap} {P : Nat} (x : Oth hO h) (hP : P = 47 ∨ P = 54) (k : ∀ b o, Ne (α := Nat) b P → h.get? b = some o → IsFld o → h'.get? b = some o) : Oth hO h' := fun b o e i n1 n2 =>
  k b o (fun q => by rcases hP with rfl | rfl <;> contradiction) (x b o e i n1 n2) (let ⟨ps, q, _⟩ := i; .inl ⟨ps, q⟩)
def Tbs (hO h : Heap) : Prop := TabSt 47 posI "_int2digits.<locals>.inner" h ∧ TabSt 54 posD "_digits2int.<locals>.inner" h ∧ Oth hO h
theorem Kn.not {h h' : Heap} (k : Kn true h h') {a : Addr} {o : Obj} (e : h.get? a = some o) (n : o.cls ≠ .none) : h'.get? a = some o := k a o e fun _ ⟨ps, q, _⟩ => n (by rw [q])
theorem fr_noTabs (w : World) : noTabs (KF w) = true := by kernel_rfl
theorem Gs.kn {w : World} {mg mb : Str → Option Value} {h h' : Heap} (x : Gs w mg mb h) (k : Kn true h h') : Gs w mg mb h' where
  k := fun a o e => k a o (x.k a o e) fun _ ⟨ps, q, _⟩ => by
    have h2 := List.all_eq_true.mp (fr_noTabs w) (a, o) (mem_of_lookupK e)
    subst q
    exact absurd (show false = true from h2) Bool.false_ne_true
  g := k.ns x.g
  b := k.ns x.b
  l := let ⟨mc, p, q⟩ := x.l; ⟨mc, k.ns p, q⟩
  bm := let ⟨bm, ob, a, b, c, d, r⟩ := x.bm; ⟨bm, ob, a, b, k.not c (by rw [d]; nofun), d, r⟩
theorem TabSt.keep {P : Addr} {pos : Pos} {qual : Str} {h h' : Heap} (k : ∀ b o, h.get? b = some o → IsFld o → h'.get? b = some o) (x : TabSt P pos qual h) : TabSt P pos qual h' := by
  rcases x with x | ⟨c', x, c, o, vs, t, e, ho, hd, r⟩
  · exact .inl (k _ _ x (.inl ⟨_, rfl⟩))
  · exact .inr ⟨c', k _ _ x (.inl ⟨_, rfl⟩), c, o, vs, t, e, k _ _ ho (.inr ⟨vs, _, _, hd, r⟩), hd, r⟩
def WX (prog : Program) (w : World) (mg mb : Str → Option Value) (hO : Heap) : Wd where
  prog := prog
  w := w
  mg := mg
  mb := mb
  G := Gs w mg mb
  tb := Tbs hO
  hG := fun _ _ k g => g.kn k
  hT := fun _ _ k t => ⟨t.1.keep k, t.2.1.keep k, fun b o e i n1 n2 => k b o (t.2.2 b o e i n1 n2) (let ⟨ps, q, _⟩ := i; .inl ⟨ps, q⟩)⟩
  hg := fun _ g => g.g
  hb := fun _ g => g.b
  hl := fun _ g => g.l
structure Pf (w : World) (mg mb : Str → Option Value) : Prop where
  built : ∀ x : Str, x ≠ "__name__" → mb x = bootBuiltins x
  free : ∀ x : Str, x ∈ theNames → mg x = none
  own : ∀ (x : Str) v, nsIn (KF w) mainGlobals x = some (some v) → mg x = some v
end Mine
namespace Mine
theorem codeRec {w : World} {mg mb : Str → Option Value} {h : Heap} {c : Nat} {fd : FuncData} {vs : Array Value} {t : Tok} (g : Gs w mg mb h) (hc : fd.code = .ref c) {oc : Obj} (h1 : (KF w).lookup c = some oc) (h2 : oc.data = .fields vs) (h3 : vs[1]? = some (.str fd.qualname t)) : h.CodeRec fd.code fd.qualname :=
  ⟨c, oc, vs, t, hc, g.k _ _ h1, h2, h3⟩
theorem CapsOk.c {scope : Scope} {env : Env} {cl : List (Str × Addr)} {y : Str} {r : List Str} {c : Addr} {k : NameKind} (hr : CapsOk scope env cl r) (h1 : env.cells.lookup y = some c := by rfl) (h2 : ∀ C, (cEnv scope cl C env).cells.lookup y = some c := by intro _; rfl)
    (h3 : ∀ C, (cEnv scope cl C env).kindOf y = some .cell ∨ ((cEnv scope cl C env).kindOf y = some .free ∧ (y == ("__classdict__" : Str)) = false) := by first | exact fun _ => .inr ⟨rfl, rfl⟩ | exact fun _ => .inl rfl) (h4 : env.kindOf y = some k := by rfl) (h5 : k ≠ .local := by decide) : CapsOk scope env cl (y :: r) :=
  .cons h1 h2 h3 (by rw [h4]; intro q; cases q; exact h5 rfl) hr
theorem XKind.l {scope : Scope} {env : Env} {cl : List (Str × Addr)} {x : Str} (h1 : (relabel scope env).names.lookup x = some .local := by rfl) (h2 : ∀ n, cellsFrom n scope.names cl = cl := by intro _; rfl) (h3 : ∀ h, pushCells h scope.names = h := by intro _; rfl) : XKind scope env cl x false := .loc h1 h2 h3
theorem XKind.c {scope : Scope} {env : Env} {cl : List (Str × Addr)} {x : Str} (h1 : (relabel scope env).names.lookup x = some .cell := by rfl) (h2 : ∀ n, cellsFrom n scope.names cl = (x, n) :: cl := by intro _; rfl) (h3 : ∀ h, pushCells h scope.names = h.push { cls := .type "cell", data := .cell none } := by intro _; rfl) : XKind scope env cl x true := .cel h1 h2 h3
theorem Fn.lift {X : Wd} {t : Bool} {n : Nat} {f : Addr} {Ps : List Rp} {P : Rp} (h : Fn X false n f Ps P) : Fn X t n f Ps P := fun A s E vs ok G T a => wpAny_mono (h A s E vs ok G T a) (fun _ _ ⟨p, k⟩ => ⟨p, k.lift⟩) fun _ _ x => x
theorem Fn.le {X : Wd} {t : Bool} {n m : Nat} {f : Addr} {Ps : List Rp} {P : Rp} (h : Fn X t n f Ps P) (l : n ≤ m) : Fn X t m f Ps P := fun A s E vs ok => h A s E vs (ok.le l)
theorem mem_irange {a : Int} {n : Nat} {i : Int} (h : i ∈ irange a (a + n)) : ∃ k : Nat, i = a + k ∧ k < n := by
  simp only [irange, List.mem_map, List.mem_range] at h
  obtain ⟨k, hk, e⟩ := h
  exact ⟨k, e.symm, by omega⟩
theorem mem_irange0 {n : Nat} {i : Int} (h : i ∈ irange 0 (n : Int)) : ∃ k : Nat, i = k ∧ k < n := by
  have e : (0 : Int) + (n : Nat) = (n : Int) := by omega
  obtain ⟨k, e, l⟩ := mem_irange (a := 0) (n := n) (by rw [e]; exact h)
  exact ⟨k, by omega, l⟩
theorem irange_len (a b : Int) : (irange a b).length = (b - a).toNat := by simp [irange]
theorem sizeLine_ge : 1000000 ≤ sizeLine := by rw [sizeLine_eq]; decide
theorem pick_le {α : Type} (l : List α) (k : Nat) : (pick l none (some (k : Int)) none).length ≤ l.length := by
  rw [pick_to, List.length_take]; omega
section
variable {α β : Type} {X : Wd} {t : Bool} {A : Around} {env : Env} {ρ : Vars} {P P1 P2 : Rp} {R : α → Rp} {R' : β → Rp} {l m : List α} {pos p1 p2 : Pos} {value e : Expr} {lo hi sk : Option Int} {el eu es : Option Expr} {i : Int}
theorem Ev.lslice (h1 : Ev X t A env ρ value (RList R l)) (a : EvP X t A env ρ el lo) (b : EvP X t A env ρ eu hi) (c : EvP X t A env ρ es sk) (h0 : sk ≠ some 0) (hz : l.length ≤ sizeLine) (hR : ∀ x, Stab (R x))
    (hsub : ∀ o i, ∃ ops, subscripted (.Slice el eu es p1) false o i = operate ops (getItem o i) := by first | exact hsub_slice2 | exact hsub_slice3) : Ev X t A env ρ (.Subscript value (.Slice el eu es p1) pos) (RList R (pick l lo hi sk)) :=
  Ev.sub list_getitem_lookup h1 (stab_list hR) (Ev.slice a b c) (fun s v p => list_type p) (fun s u v _ _ p q E => wpAny_mono (op_slice h0 hz hR p q E) (fun _ _ ⟨p, k⟩ => ⟨p.1, k⟩) fun _ _ x => x) hsub
theorem Ev.sslice {x : Str} (h1 : Ev X t A env ρ value (RStr x)) (a : EvP X t A env ρ el lo) (b : EvP X t A env ρ eu hi) (hz : x.length ≤ sizeLine) : Ev X t A env ρ (.Subscript value (.Slice el eu none p1) pos) (RStr (Txt.slice x lo hi)) :=
  Ev.sub F.slot_str_getitem.lookup h1 stab_str (Ev.slice a b .none) (fun s v ⟨_, p⟩ => by subst p; exact typeIs_str _ _ _) (fun s u v _ _ p q => op_sliceS hz p q) hsub_slice2
theorem Ev.litem {k : Nat} {x : α} (h1 : Ev X t A env ρ value (RList R l)) (h2 : Ev X t A env ρ e (RInt i)) (hk : i = (k : Int)) (hx : l[k]? = some x) (hs : k < 1000000) (hR : ∀ x, Stab (R x))
    (hsub : ∀ o i, ∃ ops, subscripted e false o i = operate ops (getItem o i) := by first | exact hsub_name | exact hsub_const | exact hsub_bin) : Ev X t A env ρ (.Subscript value e pos) (R x) :=
  Ev.sub list_getitem_lookup h1 (stab_list hR) h2 (fun s v p => list_type p) (fun s u v _ _ p q => op_item hk hs hx p q) hsub
theorem Ev.titem {k : Nat} {x : α} (h1 : Ev X t A env ρ value (RTup R l)) (h2 : Ev X t A env ρ e (RInt i)) (hk : i = (k : Int)) (hx : l[k]? = some x) (hs : k < 1000000) (hR : ∀ x, Stab (R x))
    (hsub : ∀ o i, ∃ ops, subscripted e false o i = operate ops (getItem o i) := by first | exact hsub_name | exact hsub_const | exact hsub_bin) : Ev X t A env ρ (.Subscript value e pos) (R x) :=
  Ev.sub F.slot_tuple_getitem.lookup h1 (stab_tup hR) h2 (fun s v p => tup_type p) (fun s u v _ _ p q => op_tupItem hk hs hx p q) hsub
theorem Ev.sitem {x : Str} {k c : Nat} (h1 : Ev X t A env ρ value (RStr x)) (h2 : Ev X t A env ρ e (RInt i)) (hk : i = (k : Int)) (hx : x.cps.toList[k]? = some c) (hs : k < 1000000)
    (hsub : ∀ o i, ∃ ops, subscripted e false o i = operate ops (getItem o i) := by first | exact hsub_name | exact hsub_const | exact hsub_bin) : Ev X t A env ρ (.Subscript value e pos) (RStr ⟨#[c]⟩) :=
  Ev.sub F.slot_str_getitem.lookup h1 stab_str h2 (fun s v ⟨_, p⟩ => by subst p; exact typeIs_str _ _ _) (fun s u v _ _ p q => op_itemS hk hs hx p q) hsub
theorem Ev.nm {x : Str} (hx : ρ.lookup x = some P) (hk : env.scope.kind = .function := by rfl) (hd : (x == ("__debug__" : Str)) = false := by rfl) : Ev X t A env ρ (.Name x pos) P := Ev.name hx hk hd
theorem Ev.addI {l r : Expr} {i j : Int} (h1 : Ev X t A env ρ l (RInt i)) (h2 : Ev X t A env ρ r (RInt j)) : Ev X t A env ρ (.BinOp l .Add r pos) (RInt (i + j)) := Ev.bin stab_int h1 h2 fun _ _ _ _ _ p q => op_add p q
theorem Ev.subI {l r : Expr} {i j : Int} (h1 : Ev X t A env ρ l (RInt i)) (h2 : Ev X t A env ρ r (RInt j)) : Ev X t A env ρ (.BinOp l .Sub r pos) (RInt (i - j)) := Ev.bin stab_int h1 h2 fun _ _ _ _ _ p q => op_sub p q
theorem Ev.mulI {l r : Expr} {i j : Int} (hm : IntMulOk i j) (h1 : Ev X t A env ρ l (RInt i)) (h2 : Ev X t A env ρ r (RInt j)) : Ev X t A env ρ (.BinOp l .Mult r pos) (RInt (i * j)) := Ev.bin stab_int h1 h2 fun _ _ _ _ _ p q => op_mul hm p q
theorem Ev.modI {l r : Expr} {i j : Int} (h0 : j ≠ 0) (h1 : Ev X t A env ρ l (RInt i)) (h2 : Ev X t A env ρ r (RInt j)) : Ev X t A env ρ (.BinOp l .Mod r pos) (RInt (i.fmod j)) := Ev.bin stab_int h1 h2 fun _ _ _ _ _ p q => op_mod h0 p q
theorem Ev.fdivI {l r : Expr} {i j : Int} (h0 : j ≠ 0) (hp : Builtin.divisionGoesByPylong i j = false) (h1 : Ev X t A env ρ l (RInt i)) (h2 : Ev X t A env ρ r (RInt j)) : Ev X t A env ρ (.BinOp l .FloorDiv r pos) (RInt (i.fdiv j)) := Ev.bin stab_int h1 h2 fun _ _ _ _ _ p q => op_fdiv h0 hp p q
theorem Ev.xorI {l r : Expr} {i j : Int} (h1 : Ev X t A env ρ l (RInt i)) (h2 : Ev X t A env ρ r (RInt j)) : Ev X t A env ρ (.BinOp l .BitXor r pos) (RInt (Builtin.bitXor i j)) := Ev.bin stab_int h1 h2 fun _ _ _ _ _ p q => op_xor p q
theorem Ev.shlI {l r : Expr} {i j : Int} {n : Nat} (hn : j = (n : Int)) (hsz : (Builtin.Int.intBits i : Int) + n ≤ 2 ^ 27) (h1 : Ev X t A env ρ l (RInt i)) (h2 : Ev X t A env ρ r (RInt j)) : Ev X t A env ρ (.BinOp l .LShift r pos) (RInt (i * 2 ^ n)) := Ev.bin stab_int h1 h2 fun _ _ _ _ _ p q => op_shl hn hsz p q
theorem Ev.shrI {l r : Expr} {i j : Int} {n : Nat} (hn : j = (n : Int)) (h1 : Ev X t A env ρ l (RInt i)) (h2 : Ev X t A env ρ r (RInt j)) : Ev X t A env ρ (.BinOp l .RShift r pos) (RInt (i.fdiv (2 ^ n))) := Ev.bin stab_int h1 h2 fun _ _ _ _ _ p q => op_shr hn p q
theorem Ev.addS {l r : Expr} {x y : Str} (hz : x.length + y.length ≤ sizeLine) (h1 : Ev X t A env ρ l (RStr x)) (h2 : Ev X t A env ρ r (RStr y)) : Ev X t A env ρ (.BinOp l .Add r pos) (RStr (x ++ y)) := Ev.bin stab_str h1 h2 fun _ _ _ _ _ p q => op_addS hz p q
theorem Ev.mulL {l r : Expr} {m : List α} {i : Int} {n : Nat} (hR : ∀ x, Stab (R x)) (hn : i = (n : Int)) (hs : n < 1000000) (hz : m.length * n ≤ 2 ^ 24) (h1 : Ev X t A env ρ l (RList R m)) (h2 : Ev X t A env ρ r (RInt i)) : Ev X t A env ρ (.BinOp l .Mult r pos) (RList R (List.replicate n m).flatten) :=
  Ev.bin (stab_list hR) h1 h2 fun _ _ _ _ _ p q => op_mulL hR hn hs hz p q
theorem Tv.eqI {l r : Expr} {i j : Int} (h1 : Ev X t A env ρ l (RInt i)) (h2 : Ev X t A env ρ r (RInt j)) (hm : behindInMarks .Eq r = false := by rfl) : Tv X t A env ρ (.Compare l [.Eq] [r] pos) (i == j) := Tv.cmp stab_int h1 h2 (fun _ _ _ _ _ p q => op_eqI p q) hm
theorem Tv.neI {l r : Expr} {i j : Int} (h1 : Ev X t A env ρ l (RInt i)) (h2 : Ev X t A env ρ r (RInt j)) (hm : behindInMarks .NotEq r = false := by rfl) : Tv X t A env ρ (.Compare l [.NotEq] [r] pos) (i != j) := Tv.cmp stab_int h1 h2 (fun _ _ _ _ _ p q => op_neI p q) hm
theorem Tv.ltI {l r : Expr} {i j : Int} (h1 : Ev X t A env ρ l (RInt i)) (h2 : Ev X t A env ρ r (RInt j)) (hm : behindInMarks .Lt r = false := by rfl) : Tv X t A env ρ (.Compare l [.Lt] [r] pos) (decide (i < j)) := Tv.cmp stab_int h1 h2 (fun _ _ _ _ _ p q => op_ltI p q) hm
theorem Tv.leI {l r : Expr} {i j : Int} (h1 : Ev X t A env ρ l (RInt i)) (h2 : Ev X t A env ρ r (RInt j)) (hm : behindInMarks .LtE r = false := by rfl) : Tv X t A env ρ (.Compare l [.LtE] [r] pos) (decide (i ≤ j)) := Tv.cmp stab_int h1 h2 (fun _ _ _ _ _ p q => op_leI p q) hm
theorem Tv.eqS {l r : Expr} {x y : Str} (h1 : Ev X t A env ρ l (RStr x)) (h2 : Ev X t A env ρ r (RStr y)) (hm : behindInMarks .Eq r = false := by rfl) : Tv X t A env ρ (.Compare l [.Eq] [r] pos) (x.cps.toList == y.cps.toList) := Tv.cmp stab_str h1 h2 (fun _ _ _ _ _ p q => op_eqS p q) hm
theorem Tv.neL {q : α → α → Bool} {d : Nat} {l r : Expr} {x y : List α} (hR : ∀ x, Stab (R x)) (hE : EqR d R q) (hu : A.units + (d + 1) < cLine) (h1 : Ev X t A env ρ l (RList R x)) (h2 : Ev X t A env ρ r (RList R y)) (hm : behindInMarks .NotEq r = false := by rfl) : Tv X t A env ρ (.Compare l [.NotEq] [r] pos) (!eqL q x y) := Tv.cmp (stab_list hR) h1 h2 (fun _ _ _ _ _ p q => op_neL hE hu p q) hm
theorem EvL.c1 (sp : Stab P) (he : Ev X t A env ρ e P) (hs : starEach [e] env = [(false, eval e env)] := by rfl) : EvL X t A env ρ [e] [P] := EvL.one sp he hs
theorem EvL.c {rest : List Expr} {Ps : List Rp} (sp : Stab P) (he : Ev X t A env ρ e P) (hr : EvL X t A env ρ rest Ps) (hs : starEach (e :: rest) env = (false, eval e env) :: starEach rest env := by rfl) : EvL X t A env ρ (e :: rest) (P :: Ps) := EvL.cons sp he hr hs
theorem Ev.comp0 {scope : Scope} {cl : List (Str × Addr)} {x : Str} {px : Pos} {elt iter : Expr} {own : Bool} {caps : List Str} {g : α → β} (hA : A.handled = none) (hlen : l.length ≤ sizeLine) (hit : Ev X t A env ρ iter P) (hI : Itb X P R l) (hclos : closureFor scope env = pure cl)
    (hx : XKind scope env cl x own) (hcaps : CapsOk scope env cl caps) (hRs : ∀ a, Stab (R a)) (hRs' : ∀ b, Stab (R' b)) (hRl : ∀ b, Shal (R' b))
    (he : ∀ C a, a ∈ l → EvN X false A (cEnv scope cl C env) ((x, R a) :: capV ρ caps) elt (R' (g a)))
    (hkind : scope.kind = .function := by rfl) (hnames : ∀ y ∈ scope.names, y.2 = .local → scope.names.lookup y.1 = some .local := by decide)
    (hs : ∀ x, foldedSetIterable iter env x = pure x := by intro _; rfl) :
    Ev X t A env ρ (.ListComp elt [⟨.Name x px, iter, [], 0⟩] scope pos) (RList R' (l.map g)) := by
  have := Ev.comp (pos := pos) (px := px) (p := fun _ => true) (g := g) hA hlen hit hI hclos hkind hnames hx hcaps hRs hRs' hRl (fun _ _ _ => Tests.nil) (fun C a ha _ => he C a ha) hs
  rwa [List.filter_eq_self.mpr (by simp)] at this
theorem EvN.comp0 {scope : Scope} {cl : List (Str × Addr)} {x : Str} {px : Pos} {elt iter : Expr} {own : Bool} {caps : List Str} {g : α → β} (hA : A.handled = none) (hlen : l.length ≤ sizeLine) (hit : Ev X false A env ρ iter P) (hI : Itb X P R l) (hclos : closureFor scope env = pure cl)
    (hx : XKind scope env cl x own) (hcaps : CapsOk scope env cl caps) (hRs : ∀ a, Stab (R a)) (hRs' : ∀ b, Stab (R' b)) (hRl : ∀ b, Shal (R' b))
    (he : ∀ C a, a ∈ l → EvN X false A (cEnv scope cl C env) ((x, R a) :: capV ρ caps) elt (R' (g a)))
    (hkind : scope.kind = .function := by rfl) (hnames : ∀ y ∈ scope.names, y.2 = .local → scope.names.lookup y.1 = some .local := by decide)
    (hs : ∀ x, foldedSetIterable iter env x = pure x := by intro _; rfl) :
    EvN X false A env ρ (.ListComp elt [⟨.Name x px, iter, [], 0⟩] scope pos) (RList R' (l.map g)) := by
  have := EvN.comp (pos := pos) (px := px) (p := fun _ => true) (g := g) hA hlen hit hI hclos hkind hnames hx hcaps hRs hRs' hRl (fun _ _ _ => Tests.nil) (fun C a ha _ => he C a ha) hs
  rwa [List.filter_eq_self.mpr (by simp)] at this
theorem Bd.comp0 {N : Inv} {s₀ : Shared} {rest : List Stmt} {Q : Flow → Shared → Prop} {py spos : Pos} {y : Str} {scope : Scope} {cl : List (Str × Addr)} {x : Str} {px : Pos} {elt iter : Expr} {own : Bool} {caps : List Str} {g : α → β} (G₀ : X.G s₀.heap) (hA : A.handled = none) (hlen : l.length ≤ sizeLine) (hit : Ev X t A env ρ iter P) (hI : Itb X P R l) (hclos : closureFor scope env = pure cl)
    (hx : XKind scope env cl x own) (hcaps : CapsOk scope env cl caps) (hRs : ∀ a, Stab (R a)) (hRs' : ∀ b, Stab (R' b)) (hRl : ∀ b, Shal (R' b))
    (he : ∀ C a, a ∈ l → EvN X false A (cEnv scope cl C env) ((x, R a) :: capV ρ caps) elt (R' (g a)))
    (h : Bd X t A env s₀ N ((y, RList R' (l.map g)) :: ρ) rest Q)
    (hy : env.kindOf y = some .local := by rfl) (hk : env.scope.kind = .function := by rfl)
    (hsw : swapsWith (.ListComp elt [⟨.Name x px, iter, [], 0⟩] scope pos) (some (.Name y py)) spos.line env = pure true := by rfl)
    (hkind : scope.kind = .function := by rfl) (hnames : ∀ y ∈ scope.names, y.2 = .local → scope.names.lookup y.1 = some .local := by decide)
    (hs : ∀ x, foldedSetIterable iter env x = pure x := by intro _; rfl) :
    Bd X t A env s₀ N ρ (.Assign [.Name y py] (.ListComp elt [⟨.Name x px, iter, [], 0⟩] scope pos) spos :: rest) Q := by
  refine Bd.comp (pos := pos) (px := px) (p := fun _ => true) (g := g) G₀ hA hy hk hsw hlen hit hI hclos hkind hnames hx hcaps hRs hRs' hRl (fun _ _ _ => Tests.nil) (fun C a ha _ => he C a ha) ?_ hs
  rwa [List.filter_eq_self.mpr (by simp)]
end
section
variable {α : Type} {R : α → Rp} {l : List α} {prog : Program} {w : World} {mg mb : Str → Option Value} {hO : Heap} {t : Bool} {A : Around} {env : Env} {ρ : Vars} {P : Rp} {np pos : Pos} {e e2 : Expr} {i j : Int}
theorem Ev.bf {x : Str} {id : String} {Ps : List Rp} {rest : List Expr} (H : Pf w mg mb) (hx : x ∈ theNames) (hv : bootBuiltins x = some (.builtin id)) (h0 : x ≠ "__name__") (ha : EvL (WX prog w mg mb hO) t A env ρ (e :: rest) Ps)
    (hop : ∀ s vs, Are s.heap Ps vs → Op (WX prog w mg mb hO) t A s (call (.builtin id) vs) P)
    (hk : env.scope.kind = .function := by rfl) (hx' : env.kindOf x = some .globalImplicit := by rfl) (hg : env.globals = mainGlobals := by rfl) (hb : env.builtins = builtinsNs := by rfl) (hd : (x == ("__debug__" : Str)) = false := by rfl)
    (hs : starEach (e :: rest) env = (false, eval e env) :: starEach rest env := by rfl) (hpl : (backTo pos (starEach rest env)).any (·.1) = false := by rfl) : Ev (WX prog w mg mb hO) t A env ρ (.Call (.Name x np) (e :: rest) [] pos) P :=
  Ev.b1 (X := WX prog w mg mb hO) (H.free x hx) ((H.built x h0).trans hv) hk hx' hg hb hd ha (fun s vs _ _ => hop s vs) hs hpl
theorem Ev.tf {x : Str} {id : String} {Ps : List Rp} {rest : List Expr} (H : Pf w mg mb) (hx : x ∈ theNames) (hv : bootBuiltins x = some (.type id)) (h0 : x ≠ "__name__") (ha : EvL (WX prog w mg mb hO) t A env ρ (e :: rest) Ps)
    (hop : ∀ s vs, Are s.heap Ps vs → Op (WX prog w mg mb hO) t A s (call (.type id) vs) P)
    (hk : env.scope.kind = .function := by rfl) (hx' : env.kindOf x = some .globalImplicit := by rfl) (hg : env.globals = mainGlobals := by rfl) (hb : env.builtins = builtinsNs := by rfl) (hd : (x == ("__debug__" : Str)) = false := by rfl)
    (hs : starEach (e :: rest) env = (false, eval e env) :: starEach rest env := by rfl) (hpl : (backTo pos (starEach rest env)).any (·.1) = false := by rfl) : Ev (WX prog w mg mb hO) t A env ρ (.Call (.Name x np) (e :: rest) [] pos) P :=
  Ev.t1 (X := WX prog w mg mb hO) (H.free x hx) ((H.built x h0).trans hv) hk hx' hg hb hd ha (fun s vs _ _ => hop s vs) hs hpl
theorem bi_len : bootBuiltins "len" = some (.builtin "len") := by kernel_rfl
theorem bi_sum : bootBuiltins "sum" = some (.builtin "sum") := by kernel_rfl
theorem bi_min : bootBuiltins "min" = some (.builtin "min") := by kernel_rfl
theorem bi_divmod : bootBuiltins "divmod" = some (.builtin "divmod") := by kernel_rfl
theorem bi_abs : bootBuiltins "abs" = some (.builtin "abs") := by kernel_rfl
theorem bi_range : bootBuiltins "range" = some (.type "range") := by kernel_rfl
theorem bi_bytes : bootBuiltins "bytes" = some (.type "bytes") := by kernel_rfl
theorem bi_int : bootBuiltins "int" = some (.type "int") := by kernel_rfl
theorem bi_reversed : bootBuiltins "reversed" = some (.type "reversed") := by kernel_rfl
theorem are1 {h : Heap} {P : Rp} {vs : List Value} (a : Are h [P] vs) : ∃ v, vs = [v] ∧ P h v := by
  cases a with
  | cons p r => cases r; exact ⟨_, rfl, p⟩
theorem are2 {h : Heap} {P Q : Rp} {vs : List Value} (a : Are h [P, Q] vs) : ∃ u v, vs = [u, v] ∧ P h u ∧ Q h v := by
  cases a with
  | cons p r => obtain ⟨v, rfl, q⟩ := are1 r; exact ⟨_, v, rfl, p, q⟩
theorem Ev.lenL (H : Pf w mg mb) (hR : ∀ x, Stab (R x)) (hfit : l.length < 1000000) (h : Ev (WX prog w mg mb hO) t A env ρ e (RList R l))
    (hk : env.scope.kind = .function := by rfl) (hx' : env.kindOf "len" = some .globalImplicit := by rfl) (hg : env.globals = mainGlobals := by rfl) (hb : env.builtins = builtinsNs := by rfl)
    (hs : starEach [e] env = [(false, eval e env)] := by rfl) : Ev (WX prog w mg mb hO) t A env ρ (.Call (.Name "len" np) [e] [] pos) (RInt l.length) :=
  Ev.bf H (by decide) bi_len (by decide) (EvL.c1 (stab_list hR) h hs) (fun s vs a => by obtain ⟨v, rfl, p⟩ := are1 a; exact op_len hfit p) hk hx' hg hb rfl hs rfl
theorem Ev.lenS {x : Str} (H : Pf w mg mb) (hfit : x.length < 1000000) (h : Ev (WX prog w mg mb hO) t A env ρ e (RStr x))
    (hk : env.scope.kind = .function := by rfl) (hx' : env.kindOf "len" = some .globalImplicit := by rfl) (hg : env.globals = mainGlobals := by rfl) (hb : env.builtins = builtinsNs := by rfl)
    (hs : starEach [e] env = [(false, eval e env)] := by rfl) : Ev (WX prog w mg mb hO) t A env ρ (.Call (.Name "len" np) [e] [] pos) (RInt x.length) :=
  Ev.bf H (by decide) bi_len (by decide) (EvL.c1 stab_str h hs) (fun s vs a => by obtain ⟨v, rfl, p⟩ := are1 a; exact op_lenS hfit p) hk hx' hg hb rfl hs rfl
theorem Ev.sum (H : Pf w mg mb) (hA : A.handled = none) (hI : Itb (WX prog w mg mb hO) P RInt m) (sp : Stab P) (h : Ev (WX prog w mg mb hO) t A env ρ e P)
    (hk : env.scope.kind = .function := by rfl) (hx' : env.kindOf "sum" = some .globalImplicit := by rfl) (hg : env.globals = mainGlobals := by rfl) (hb : env.builtins = builtinsNs := by rfl)
    (hs : starEach [e] env = [(false, eval e env)] := by rfl) : Ev (WX prog w mg mb hO) t A env ρ (.Call (.Name "sum" np) [e] [] pos) (RInt m.sum) :=
  Ev.bf H (by decide) bi_sum (by decide) (EvL.c1 sp h hs) (fun s vs a => by obtain ⟨v, rfl, p⟩ := are1 a; exact op_sum hI hA p) hk hx' hg hb rfl hs rfl
theorem Ev.min {x : Str} {r : List Str} (H : Pf w mg mb) (hA : A.handled = none) (h : Ev (WX prog w mg mb hO) t A env ρ e (RList RStr (x :: r)))
    (hk : env.scope.kind = .function := by rfl) (hx' : env.kindOf "min" = some .globalImplicit := by rfl) (hg : env.globals = mainGlobals := by rfl) (hb : env.builtins = builtinsNs := by rfl)
    (hs : starEach [e] env = [(false, eval e env)] := by rfl) : Ev (WX prog w mg mb hO) t A env ρ (.Call (.Name "min" np) [e] [] pos) (RStr (best r x)) :=
  Ev.bf H (by decide) bi_min (by decide) (EvL.c1 (stab_list fun _ => stab_str) h hs) (fun s vs a => by obtain ⟨v, rfl, p⟩ := are1 a; exact op_min hA p) hk hx' hg hb rfl hs rfl
theorem Ev.range1 (H : Pf w mg mb) (h : Ev (WX prog w mg mb hO) t A env ρ e (RInt i))
    (hk : env.scope.kind = .function := by rfl) (hx' : env.kindOf "range" = some .globalImplicit := by rfl) (hg : env.globals = mainGlobals := by rfl) (hb : env.builtins = builtinsNs := by rfl)
    (hs : starEach [e] env = [(false, eval e env)] := by rfl) : Ev (WX prog w mg mb hO) t A env ρ (.Call (.Name "range" np) [e] [] pos) (RRange 0 i 1) :=
  Ev.tf H (by decide) bi_range (by decide) (EvL.c1 stab_int h hs) (fun s vs a => by obtain ⟨v, rfl, p⟩ := are1 a; exact op_range1 p) hk hx' hg hb rfl hs rfl
theorem Ev.range2 (H : Pf w mg mb) (h : Ev (WX prog w mg mb hO) t A env ρ e (RInt i)) (h2 : Ev (WX prog w mg mb hO) t A env ρ e2 (RInt j))
    (hk : env.scope.kind = .function := by rfl) (hx' : env.kindOf "range" = some .globalImplicit := by rfl) (hg : env.globals = mainGlobals := by rfl) (hb : env.builtins = builtinsNs := by rfl)
    (hs : starEach [e, e2] env = (false, eval e env) :: starEach [e2] env := by rfl) (hs2 : starEach [e2] env = [(false, eval e2 env)] := by rfl) (hpl : (backTo pos (starEach [e2] env)).any (·.1) = false := by rfl) : Ev (WX prog w mg mb hO) t A env ρ (.Call (.Name "range" np) [e, e2] [] pos) (RRange i j 1) :=
  Ev.tf H (by decide) bi_range (by decide) (EvL.c stab_int h (EvL.c1 stab_int h2 hs2) hs) (fun s vs a => by obtain ⟨u, v, rfl, p, q⟩ := are2 a; exact op_range2 p q) hk hx' hg hb rfl hs hpl
theorem Ev.divmod (H : Pf w mg mb) (h0 : j ≠ 0) (hp : Builtin.divisionGoesByPylong i j = false) (h : Ev (WX prog w mg mb hO) t A env ρ e (RInt i)) (h2 : Ev (WX prog w mg mb hO) t A env ρ e2 (RInt j))
    (hk : env.scope.kind = .function := by rfl) (hx' : env.kindOf "divmod" = some .globalImplicit := by rfl) (hg : env.globals = mainGlobals := by rfl) (hb : env.builtins = builtinsNs := by rfl)
    (hs : starEach [e, e2] env = (false, eval e env) :: starEach [e2] env := by rfl) (hs2 : starEach [e2] env = [(false, eval e2 env)] := by rfl) (hpl : (backTo pos (starEach [e2] env)).any (·.1) = false := by rfl) : Ev (WX prog w mg mb hO) t A env ρ (.Call (.Name "divmod" np) [e, e2] [] pos) (RTup RInt [i.fdiv j, i.fmod j]) :=
  Ev.bf H (by decide) bi_divmod (by decide) (EvL.c stab_int h (EvL.c1 stab_int h2 hs2) hs) (fun s vs a => by obtain ⟨u, v, rfl, p, q⟩ := are2 a; exact op_divmod h0 hp p q) hk hx' hg hb rfl hs hpl
theorem Ev.abs (H : Pf w mg mb) (h : Ev (WX prog w mg mb hO) t A env ρ e (RInt i))
    (hk : env.scope.kind = .function := by rfl) (hx' : env.kindOf "abs" = some .globalImplicit := by rfl) (hg : env.globals = mainGlobals := by rfl) (hb : env.builtins = builtinsNs := by rfl)
    (hs : starEach [e] env = [(false, eval e env)] := by rfl) : Ev (WX prog w mg mb hO) t A env ρ (.Call (.Name "abs" np) [e] [] pos) (RInt (if i < 0 then -i else i)) :=
  Ev.bf H (by decide) bi_abs (by decide) (EvL.c1 stab_int h hs) (fun s vs a => by obtain ⟨v, rfl, p⟩ := are1 a; exact op_abs p) hk hx' hg hb rfl hs rfl
theorem Ev.bytesL {ns : List Int} (H : Pf w mg mb) (hA : A.handled = none) (hr : ∀ n ∈ ns, 0 ≤ n ∧ n < 256) (hz : ns.length ≤ sizeLine) (h : Ev (WX prog w mg mb hO) t A env ρ e (RList RInt ns))
    (hk : env.scope.kind = .function := by rfl) (hx' : env.kindOf "bytes" = some .globalImplicit := by rfl) (hg : env.globals = mainGlobals := by rfl) (hb : env.builtins = builtinsNs := by rfl)
    (hs : starEach [e] env = [(false, eval e env)] := by rfl) : Ev (WX prog w mg mb hO) t A env ρ (.Call (.Name "bytes" np) [e] [] pos) (RBytes (byteArr ns)) :=
  Ev.tf H (by decide) bi_bytes (by decide) (EvL.c1 (stab_list fun _ => stab_int) h hs) (fun s vs a => by obtain ⟨v, rfl, p⟩ := are1 a; exact op_bytes hA hr hz p) hk hx' hg hb rfl hs rfl
theorem Ev.fnG {x : Str} {n : Nat} {f : Addr} {Ps : List Rp} {rest : List Expr} (H : Pf w mg mb) (hv : nsIn (KF w) mainGlobals x = some (some (.ref f))) {fd : FuncData} {o : Obj} (ho : (KF w).lookup f = some o) (hd : o.data = .func fd)
    (hF : Fn (WX prog w mg mb hO) t n f Ps P) (ok : Ok n A) (ha : EvL (WX prog w mg mb hO) t A env ρ (e :: rest) Ps)
    (hk : env.scope.kind = .function := by rfl) (hx : env.kindOf x = some .globalImplicit := by rfl) (hg : env.globals = mainGlobals := by rfl) (hd' : (x == ("__debug__" : Str)) = false := by rfl)
    (hs : starEach (e :: rest) env = (false, eval e env) :: starEach rest env := by rfl) : Ev (WX prog w mg mb hO) t A env ρ (.Call (.Name x np) (e :: rest) [] pos) P :=
  Ev.fn (X := WX prog w mg mb hO) (H.own x _ hv) hk hx hg hd' hF ok (fun h g => ⟨o, fd, g.k _ _ ho, hd⟩) ha hs
end
end Mine
namespace Mine
def drawnOf (ns : List Int) : List Int := (pick ns none (some 18) none).map fun x => x.fmod 1000
def firstOf : List Int := [2, 5, 1, 0, 3, 4, 1, 2, 2]
def cellsOf (ns : List Int) : List Int := (irange 0 9).map fun j => firstOf.getD j.toNat 0 + (pick (drawnOf ns) (some j) none (some 9)).sum
abbrev ch (c : Nat) : Str := ⟨#[c]⟩
def endsOf : List Str := [⟨#[10]⟩, ⟨#[13]⟩, ⟨#[13, 10]⟩]
def rowOf (c : Nat) (e : Int) : Str := (if ([c] == [49]) = true then ch 46 else ch 97) ++ endsOf.getD ((e.fdiv 2).fmod 3).toNat ⟨#[]⟩
def mailOf (ms : List Nat) (cs : List Int) : Str := Txt.join ⟨#[]⟩ ((irange 0 ms.length).map fun j => rowOf (ms.getD j.toNat 0) (cs.getD j.toNat 0))
def turnsS (x : Str) : List Str := (irange 0 x.length).map fun j => Txt.slice x (some j) none ++ Txt.slice x none (some j)
def turnsL (l : List Str) : List (List Str) := (irange 0 l.length).map fun j => pick l (some j) none none ++ pick l none (some j) none
structure Seq1 (X : Wd) (P : Rp) (ms : List Nat) : Prop where
  st : Stab P
  len : ∀ {A : Around} {env : Env} {ρ : Vars} {e : Expr} {np pos : Pos}, Ev X false A env ρ e P → env.scope.kind = .function → env.kindOf "len" = some .globalImplicit → env.globals = mainGlobals → env.builtins = builtinsNs → starEach [e] env = [(false, eval e env)] → Ev X false A env ρ (.Call (.Name "len" np) [e] [] pos) (RInt ms.length)
  item : ∀ {A : Around} {env : Env} {ρ : Vars} {value e : Expr} {pos : Pos} {k c : Nat}, Ev X false A env ρ value P → Ev X false A env ρ e (RInt (k : Int)) → ms[k]? = some c → k < 1000000 → (∀ o i, ∃ ops, subscripted e false o i = operate ops (getItem o i)) → Ev X false A env ρ (.Subscript value e pos) (RStr (ch c))
section
variable {prog : Program} {w : World} {mg mb : Str → Option Value} {hO : Heap} {t : Bool} {A : Around}
theorem seq1_str (H : Pf w mg mb) {x : Str} (h : x.length < 1000000) : Seq1 (WX prog w mg mb hO) (RStr x) x.cps.toList where
  st := stab_str
  len := fun h1 h2 h3 h4 h5 h6 => by
    have e : x.cps.toList.length = x.length := by simp [Str.length]
    rw [e]
    exact Ev.lenS H h h1 h2 h3 h4 h5 h6
  item := fun h1 h2 h3 h4 h5 => Ev.sitem h1 h2 rfl h3 h4 h5
theorem seq1_list (H : Pf w mg mb) {ms : List Nat} (h : ms.length < 1000000) : Seq1 (WX prog w mg mb hO) (RList RStr (ms.map ch)) ms where
  st := stab_list fun _ => stab_str
  len := fun h1 h2 h3 h4 h5 h6 => by
    have hl : (ms.map ch).length = ms.length := List.length_map ..
    rw [← hl]
    exact Ev.lenL (l := ms.map ch) H (fun _ => stab_str) (by rw [hl]; exact h) h1 h2 h3 h4 h5 h6
  item := fun h1 h2 h3 h4 h5 => Ev.litem h1 h2 rfl (by rw [List.getElem?_map, h3]; rfl) h4 (fun _ => stab_str) h5
theorem sum_le (c : Nat) : ∀ l : List Str, (∀ x ∈ l, x.length ≤ c) → (l.map (·.length)).sum ≤ c * l.length
  | [], _ => by simp
  | x :: l, h => by
    have h1 := h x (.head _)
    have h2 := sum_le c l fun y hy => h y (.tail _ hy)
    rw [List.map_cons, List.sum_cons, List.length_cons, Nat.mul_add]
    omega
theorem row_len (c : Nat) (e : Int) : (rowOf c e).length ≤ 3 := by
  unfold rowOf
  rw [Str.length_append]
  have : ∀ i, (endsOf.getD i ⟨#[]⟩).length ≤ 2 := fun i => by
    match i with
    | 0 => decide
    | 1 => decide
    | 2 => decide
    | n + 3 => show (0 : Nat) ≤ 2; omega
  have h1 : (if ([c] == [49]) = true then ch 46 else ch 97).length = 1 := by split <;> rfl
  have := this ((e.fdiv 2).fmod 3).toNat
  omega
theorem fmod3 (e : Int) : 0 ≤ e.fmod 3 ∧ e.fmod 3 < 3 := ⟨Int.fmod_nonneg_of_pos e (by decide), Int.fmod_lt_of_pos e (by decide)⟩
theorem fn_mail (H : Pf w mg mb) {P : Rp} {ms : List Nat} {cs : List Int} (S : Seq1 (WX prog w mg mb hO) P ms) (hm : ms.length ≤ cs.length) (hc : cs.length ≤ 63) (hdiv : ∀ c ∈ cs, Builtin.divisionGoesByPylong c 2 = false) :
    Fn (WX prog w mg mb hO) false 1 114 [P, RList RInt cs] (RStr (mailOf ms cs)) := by
  refine Fn.intro (names := ["marks", "cells"]) (fun h g => ⟨⟨_, g.k _ _ rfl, rfl⟩, codeRec g rfl rfl rfl rfl⟩) rfl rfl (fun vs hv => ?_) rfl (by decide) (fun P hP => ?_) (fun L x hx => ?_) rfl rfl rfl (fun A s₀ ok G T => ?_)
  · match vs, hv with
    | [v, u], _ => rfl
  · rcases List.mem_cons.mp hP with rfl | hP
    · exact S.st
    · rw [List.mem_singleton.mp hP]; exact stab_list fun _ => stab_int
  · right
    rcases List.mem_cons.mp hx with rfl | hx
    · exact ⟨rfl, rfl⟩
    · rw [List.mem_singleton.mp hx]; exact ⟨rfl, rfl⟩
  · have hsz := sizeLine_ge
    refine Bd.assign (P := RList RStr endsOf) G rfl (.cel _ rfl rfl) ?_ (stab_list fun _ => stab_str) rfl ?_
    · refine Ev.list (fun _ => stab_str) (by show 3 ≤ _; omega) ?_
      exact EvL.c stab_str Ev.str (EvL.c stab_str Ev.str (EvL.c1 stab_str Ev.str))
    refine Bd.ret (P := RStr (mailOf ms cs)) ?_ fun v s' k p => ⟨v, rfl, p, k⟩
    refine Ev.meth (T := "str") (P0 := RStr ⟨#[]⟩) F.plainAttrs_str F.slot_str_join rfl rfl rfl rfl Ev.str stab_str (fun s v ⟨_, p⟩ => by subst p; exact ⟨typeIs_str _ _ _, fun a q => by cases q⟩) (EvL.c1 (stab_list fun _ => stab_str) (P := RList RStr ((irange 0 ms.length).map fun j => rowOf (ms.getD j.toNat 0) (cs.getD j.toNat 0))) ?_) (fun s v vs _ _ p a => ?_) rfl rfl
    · refine Ev.comp0 (l := irange 0 ms.length) (R := RInt) (caps := ["marks", "ends", "cells"]) ok.1 (by rw [irange_len]; omega) (Ev.range1 H (S.len (Ev.nm rfl) rfl rfl rfl rfl rfl)) (itb_range (by decide) (by decide) (by omega) (by omega)) rfl .l (.c (.c (.c .nil))) (fun _ => stab_int) (fun _ => stab_str) (fun _ => shal_str) fun C a ha => ?_
      obtain ⟨k, rfl, hk⟩ := mem_irange0 ha
      have hms : ms[k]? = some (ms.getD k 0) := by rw [List.getD_eq_getElem?_getD, List.getElem?_eq_getElem hk]; rfl
      have hcs : cs[k]? = some (cs.getD k 0) := by rw [List.getD_eq_getElem?_getD, List.getElem?_eq_getElem (by omega)]; rfl
      have hmem : cs.getD k 0 ∈ cs := List.mem_of_getElem? hcs
      have h3 := fmod3 ((cs.getD k 0).fdiv 2)
      rw [Int.toNat_natCast]
      refine Ev.new scal_str (Ev.addS (y := endsOf.getD (((cs.getD k 0).fdiv 2).fmod 3).toNat ⟨#[]⟩) ?_ (Ev.ite (q := [ms.getD k 0] == [49]) (Tv.eqS (S.item (Ev.nm rfl) (Ev.nm rfl) hms (by omega) hsub_name) Ev.str) (fun q => ?_) (fun q => ?_)) (Ev.litem (k := (((cs.getD k 0).fdiv 2).fmod 3).toNat) (l := endsOf) (Ev.nm rfl) (Ev.modI (by decide) (Ev.fdivI (by decide) (hdiv _ hmem) (Ev.litem (Ev.nm rfl) (Ev.nm rfl) rfl hcs (by omega) fun _ => stab_int) Ev.int) Ev.int) (by omega) ?_ (by omega) (fun _ => stab_str)))
      · have : ∀ i, i < 3 → (endsOf.getD i ⟨#[]⟩).length ≤ 2 := by decide
        have := this _ (show (((cs.getD k 0).fdiv 2).fmod 3).toNat < 3 by omega)
        have h1 : (if ([ms.getD k 0] == [49]) = true then ch 46 else ch 97).length = 1 := by split <;> rfl
        omega
      · rw [if_pos q]; exact Ev.str
      · rw [if_neg (by rw [q]; decide)]; exact Ev.str
      · have hb : (((cs.getD k 0).fdiv 2).fmod 3).toNat < endsOf.length := by show _ < 3; omega
        generalize (((cs.getD k 0).fdiv 2).fmod 3).toNat = z at hb
        rw [List.getD_eq_getElem?_getD, List.getElem?_eq_getElem hb]; rfl
    · obtain ⟨u, rfl, q⟩ := are1 a
      refine op_join ?_ p q
      have h1 := sum_le 3 ((irange 0 ms.length).map fun j => rowOf (ms.getD j.toNat 0) (cs.getD j.toNat 0)) fun x hx => by
        obtain ⟨j, _, rfl⟩ := List.mem_map.mp hx
        exact row_len _ _
      rw [List.length_map, irange_len] at h1
      show _ + _ * 0 ≤ _
      omega
theorem slice_fromL {x : Str} {k : Nat} : (Txt.slice x (some (k : Int)) none).length ≤ x.length := Txt.slice_le ..
theorem fn_turnsS (H : Pf w mg mb) {x : Str} (hx : x.length ≤ 63) : Fn (WX prog w mg mb hO) false 1 119 [RStr x] (RList RStr (turnsS x)) := by
  refine Fn.intro (names := ["marks"]) (fun h g => ⟨⟨_, g.k _ _ rfl, rfl⟩, codeRec g rfl rfl rfl rfl⟩) rfl rfl (fun vs hv => ?_) rfl (by decide) (by simpa using stab_str) (fun L x hx => ?_) rfl rfl rfl (fun A s₀ ok G T => ?_)
  · match vs, hv with
    | [v], _ => rfl
  · right
    rw [List.mem_singleton.mp hx]; exact ⟨rfl, rfl⟩
  · have hsz := sizeLine_ge
    refine Bd.ret (P := RList RStr (turnsS x)) ?_ fun v s' k p => ⟨v, rfl, p, k⟩
    refine Ev.comp0 (l := irange 0 x.length) (R := RInt) (caps := ["marks"]) ok.1 (by rw [irange_len]; omega) (Ev.range1 H (Ev.lenS H (by omega) (Ev.nm rfl))) (itb_range (by decide) (by decide) (by omega) (by omega)) rfl .l (.c .nil) (fun _ => stab_int) (fun _ => stab_str) (fun _ => shal_str) fun C a ha => ?_
    refine Ev.new scal_str (Ev.addS ?_ (Ev.sslice (Ev.nm rfl) (.some (Ev.nm rfl)) .none (by omega)) (Ev.sslice (Ev.nm rfl) .none (.some (Ev.nm rfl)) (by omega)))
    have h1 := Txt.slice_le x (some a) none
    have h2 := Txt.slice_le x none (some a)
    omega
theorem fn_turnsL (H : Pf w mg mb) {l : List Str} (hx : l.length ≤ 63) : Fn (WX prog w mg mb hO) false 1 119 [RList RStr l] (RList (RList RStr) (turnsL l)) := by
  refine Fn.intro (names := ["marks"]) (fun h g => ⟨⟨_, g.k _ _ rfl, rfl⟩, codeRec g rfl rfl rfl rfl⟩) rfl rfl (fun vs hv => ?_) rfl (by decide) (by simpa using stab_list fun _ => stab_str) (fun L x hx => ?_) rfl rfl rfl (fun A s₀ ok G T => ?_)
  · match vs, hv with
    | [v], _ => rfl
  · right
    rw [List.mem_singleton.mp hx]; exact ⟨rfl, rfl⟩
  · have hsz := sizeLine_ge
    refine Bd.ret (P := RList (RList RStr) (turnsL l)) ?_ fun v s' k p => ⟨v, rfl, p, k⟩
    refine Ev.comp0 (l := irange 0 l.length) (R := RInt) (R' := RList RStr) (caps := ["marks"]) ok.1 (by rw [irange_len]; omega) (Ev.range1 H (Ev.lenL H (fun _ => stab_str) (by omega) (Ev.nm rfl))) (itb_range (by decide) (by decide) (by omega) (by omega)) rfl .l (.c .nil) (fun _ => stab_int) (fun _ => stab_list fun _ => stab_str) (fun _ => shal_list fun _ _ _ _ h => h) fun C a ha => ?_
    obtain ⟨k, rfl, hk⟩ := mem_irange0 ha
    refine EvN.addL (fun _ => stab_str) ?_ (Ev.lslice (Ev.nm rfl) (.some (Ev.nm rfl)) .none .none (by decide) (by omega) fun _ => stab_str) (Ev.lslice (Ev.nm rfl) .none (.some (Ev.nm rfl)) .none (by decide) (by omega) fun _ => stab_str)
    rw [pick_from, pick_to, List.length_drop, List.length_take]
    omega
end
end Mine
namespace Mine

/-- the places where the machine looks: a text known round one place -/
def goes : Nat → Sre.M → Sre.M
  | 0, m => m
  | k + 1, m => if m.outcome.isSome then m else goes k m.step
theorem goes_done : ∀ k (m : Sre.M), m.outcome.isSome = true → goes k m = m
  | 0, m, _ => rfl
  | k + 1, m, h => by unfold goes; rw [if_pos h]
theorem goes_add : ∀ a b (m : Sre.M), goes (a + b) m = goes b (goes a m)
  | 0, b, m => by rw [Nat.zero_add]; rfl
  | a + 1, b, m => by
    rw [show a + 1 + b = (a + b) + 1 by omega]
    by_cases h : m.outcome.isSome = true
    · rw [goes_done _ _ h, goes_done _ m h, goes_done _ _ h]
    · show (if m.outcome.isSome then m else goes (a + b) m.step) = goes b (if m.outcome.isSome then m else goes a m.step)
      rw [if_neg h, if_neg h, goes_add a b]
theorem runFor_goes : ∀ k (m : Sre.M), m.runFor k = goes k m
  | 0, m => rfl
  | k + 1, m => by
    unfold Sre.M.runFor goes
    split
    · rfl
    · exact runFor_goes k m.step
theorem drive_goes {M : Model} {A : Around} {E : Value → Shared → Prop} {s : Shared} {Q : Sre.M → Shared → Prop} : ∀ (k turns : Nat) (m : Sre.M), k < turns → (goes (4 * (k + 1)) m).outcome.isSome = true → Q (goes (4 * (k + 1)) m) s → wpAny M A (Builtin.Re.reDrive turns m) Q E s
  | k, 0, m, h, _, _ => absurd h (Nat.not_lt_zero _)
  | 0, turns + 1, m, h, ho, hq => by
    unfold Builtin.Re.reDrive
    simp only [Builtin.Re.reTurnSteps, runFor_goes]
    have ho : (goes 4 m).outcome.isSome = true := ho
    rw [if_pos ho]
    exact wpAny_pure hq
  | k + 1, turns + 1, m, h, ho, hq => by
    unfold Builtin.Re.reDrive
    simp only [Builtin.Re.reTurnSteps, runFor_goes]
    have e : goes (4 * (k + 1 + 1)) m = goes (4 * (k + 1)) (goes 4 m) := by rw [← goes_add]; congr 1; omega
    rw [e] at ho hq
    by_cases h1 : (goes 4 m).outcome.isSome = true
    · rw [if_pos h1]
      rw [goes_done _ _ h1] at hq
      exact wpAny_pure hq
    · rw [if_neg h1]
      exact wpAny_bind (wpAny_rule (drive_goes k turns _ (by omega) ho hq))
theorem rules_any {M : Model} {A : Around} {E : Value → Shared → Prop} {s : Shared} {Q : PUnit → Shared → Prop} (m : Sre.M) (h : Q ⟨⟩ s) : ∀ l : List Nat,
    wpAny M A (forIn l PUnit.unit fun i (r : PUnit) => if m.seen.has i = true then do rule (Sre.names.getD i ""); pure (ForInStep.yield PUnit.unit) else pure (ForInStep.yield PUnit.unit)) Q E s
  | [] => by rw [List.forIn_nil]; exact wpAny_pure h
  | i :: l => by
    rw [List.forIn_cons]
    refine wpAny_bind ?_
    split
    · exact wpAny_bind (wpAny_rule (wpAny_pure (rules_any m h l)))
    · exact wpAny_pure (rules_any m h l)
theorem run_goes {M : Model} {A : Around} {E : Value → Shared → Prop} {s : Shared} {Q : Option Sre.M → Shared → Prop} {k : Nat} {m : Sre.M} (hk : k < 100) (hq : match (goes (4 * (k + 1)) m).outcome with | some .matched => Q (some (goes (4 * (k + 1)) m)) s | some .failed => Q none s | _ => False) :
    wpAny M A (Builtin.Re.reRunToEnd m) Q E s := by
  unfold Builtin.Re.reRunToEnd
  have ho : (goes (4 * (k + 1)) m).outcome.isSome = true := by
    revert hq
    cases (goes (4 * (k + 1)) m).outcome with
    | none => exact fun h => h.elim
    | some _ => exact fun _ => rfl
  refine wpAny_bind (drive_goes k _ m (Nat.lt_trans hk (by decide)) ho ?_)
  refine wpAny_bind (rules_any _ ?_ _)
  revert hq
  generalize goes (4 * (k + 1)) m = m'
  intro hq
  cases hm : m'.outcome with
  | none => rw [hm] at hq; exact hq.elim
  | some o =>
    rw [hm] at hq
    cases o with
    | matched => exact wpAny_pure hq
    | failed => exact wpAny_pure hq
    | stuck w => exact hq.elim
end Mine
namespace Mine
def cE : Array Nat := #[14, 9, 4, 1, 2, 16, 10, 16, 13, 0, 7, 7, 16, 13, 16, 10, 15, 18, 5, 16, 10, 15, 13, 11, 16, 13, 5, 5, 0, 16, 10, 1, 15, 2, 0, 1]
def cD : Array Nat := #[14, 4, 0, 1, 1, 6, 1, 16, 46, 1]
/-- a state of the machine -/
def S (code text : Array Nat) (lim st pc pos hd : Nat) (om : Bool) (fr : List Sre.Frame) (wt : Nat) (an : Option Bool) (sn : Sre.Seen) : Sre.M :=
  { code, text, lim, start := st, lastStart := lim, pc, pos, handed := hd, outermost := om, marks := #[], frames := fr, weight := wt, answer := an, seen := sn }
section
variable {code text : Array Nat} {lim st pc pos hd wt : Nat} {om : Bool} {fr : List Sre.Frame} {sn : Sre.Seen}
theorem st_lit (hop : Sre.ops[code.getD pc 0]? = some .LITERAL) (hpc : pc < code.size) (hl : pos < lim) (hc : text.getD pos 0 = code.getD (pc + 1) 0) : (S code text lim st pc pos hd om fr wt none sn).step = S code text lim st (pc + 2) (pos + 1) hd om fr wt none (sn.add (code.getD pc 0)) := by
  have h2 : ¬ (lim ≤ pos) := by omega
  simp only [S, Sre.M.step, Sre.M.exec, Sre.M.word, Nat.add_zero, hop, Sre.accepts, Sre.itemWidth, hpc, hc, if_true, Option.isSome_none, Bool.false_eq_true, if_false, ge_iff_le, h2, beq_self_eq_true]
theorem st_litF (hop : Sre.ops[code.getD pc 0]? = some .LITERAL) (hpc : pc < code.size) (hc : pos < lim → text.getD pos 0 ≠ code.getD (pc + 1) 0) : (S code text lim st pc pos hd om fr wt none sn).step = S code text lim st pc pos hd om fr wt (some false) (sn.add (code.getD pc 0)) := by
  by_cases h2 : lim ≤ pos
  · simp only [S, Sre.M.step, Sre.M.exec, Sre.M.word, Nat.add_zero, hop, Sre.accepts, Sre.itemWidth, hpc, if_true, Option.isSome_none, Bool.false_eq_true, if_false, ge_iff_le, h2, Sre.M.say]
  · have hb : (text.getD pos 0 == code.getD (pc + 1) 0) = false := beq_eq_false_iff_ne.mpr (hc (by omega))
    simp only [S, Sre.M.step, Sre.M.exec, Sre.M.word, Nat.add_zero, hop, Sre.accepts, Sre.itemWidth, hpc, hb, if_true, Option.isSome_none, Bool.false_eq_true, if_false, ge_iff_le, h2, Sre.M.say]
theorem st_jump (hop : Sre.ops[code.getD pc 0]? = some .JUMP) (hpc : pc < code.size) : (S code text lim st pc pos hd om fr wt none sn).step = S code text lim st (pc + 1 + code.getD (pc + 1) 0) pos hd om fr wt none (sn.add (code.getD pc 0)) := by
  simp only [S, Sre.M.step, Sre.M.exec, Sre.M.word, Nat.add_zero, hop, hpc, if_true, Option.isSome_none, Bool.false_eq_true, if_false]
theorem st_succ (hop : Sre.ops[code.getD pc 0]? = some .SUCCESS) (hpc : pc < code.size) : (S code text lim st pc pos hd om fr wt none sn).step = S code text lim st pc pos pos om fr wt (some true) (sn.add (code.getD pc 0)) := by
  simp only [S, Sre.M.step, Sre.M.exec, Sre.M.word, Nat.add_zero, hop, hpc, if_true, Option.isSome_none, Bool.false_eq_true, if_false, Bool.false_and, Bool.and_false, Bool.or_false, Sre.M.say]
def fB (pc pos : Nat) (om : Bool) : Sre.Frame := { wait := .nextBranch, pc, pos, outermost := om, kept := { lastmark := -1, lastindex := -1, whole := false, marks := #[] } }
def fS (pc pos : Nat) (om : Bool) : Sre.Frame := { wait := .nextStart, pc, pos, outermost := om }
def fL (pc pos : Nat) (om : Bool) : Sre.Frame := { wait := .lookNot, pc, pos, outermost := om, kept := { lastmark := -1, lastindex := -1, whole := false, marks := #[] } }
theorem st_branch (hop : Sre.ops[code.getD pc 0]? = some .BRANCH) (hpc : pc < code.size) (h0 : (code.getD (pc + 1) 0 == 0) = false) (hw : wt < 1000) : (S code text lim st pc pos hd om fr wt none sn).step = S code text lim st (pc + 2) pos pos om (fB (pc + 1) pos om :: fr) (wt + 1) none (sn.add (code.getD pc 0)) := by
  have h3 : ¬ (wt + 1 + (#[] : Array (Option Nat)).size > 16777216) := by simp; omega
  simp only [S, Sre.M.step, Sre.M.exec, Sre.M.word, Nat.add_zero, hop, hpc, if_true, Option.isSome_none, Bool.false_eq_true, if_false, Sre.M.alternative, Sre.M.keep, h0, Sre.M.attempt, h3, Sre.M.frame, fB]
  rfl
theorem st_back (hpc : (code.getD (pos' + code.getD pos' 0) 0 == 0) = false) {q : Nat} (hw : wt < 1000) : (S code text lim st pc pos hd om (fB pos' q om' :: fr) (wt + 1) (some false) sn).step = S code text lim st (pos' + code.getD pos' 0 + 1) q q om' (fB (pos' + code.getD pos' 0) q om' :: fr) (wt + 1) none sn := by
  have h3 : ¬ (wt + 1 + (#[] : Array (Option Nat)).size > 16777216) := by simp; omega
  have h4 : wt + 1 - (1 + (#[] : Array (Option Nat)).size) = wt := by simp
  simp only [S, Sre.M.step, fB, Sre.M.resume, Sre.M.putBack, Option.isSome_none, Bool.false_eq_true, if_false, Sre.M.alternative, hpc, h4, Sre.M.attempt, h3, Sre.M.frame]
  rfl
theorem st_yesB {q : Nat} : (S code text lim st pc pos hd om (fB pos' q om' :: fr) (wt + 1) (some true) sn).step = S code text lim st pos' q hd om' fr wt (some true) sn := by
  have h4 : wt + 1 - (1 + (#[] : Array (Option Nat)).size) = wt := by simp
  simp only [S, Sre.M.step, fB, Sre.M.resume, Sre.M.putBack, Option.isSome_none, Bool.false_eq_true, if_false, if_true, h4, Sre.M.say]
theorem st_yesS {q : Nat} : (S code text lim st pc pos hd om (fS pos' q om' :: fr) (wt + 1) (some true) sn).step = S code text lim st pos' q hd om' fr wt (some true) sn := by
  have h4 : wt + 1 - (1 + (#[] : Array (Option Nat)).size) = wt := by simp
  simp only [S, Sre.M.step, fS, Sre.M.resume, Sre.M.putBack, Option.isSome_none, Bool.false_eq_true, if_false, if_true, h4, Sre.M.say]
theorem st_end : (S code text lim st pc pos hd om [] wt (some true) sn).step = { S code text lim st pc pos hd om [] wt (some true) sn with outcome := some .matched } := by
  simp only [S, Sre.M.step, Option.isSome_none, Bool.false_eq_true, if_false, if_true]
theorem st_endF : (S code text lim st pc pos hd om [] wt (some false) sn).step = { S code text lim st pc pos hd om [] wt (some false) sn with outcome := some .failed } := by
  simp only [S, Sre.M.step, Option.isSome_none, Bool.false_eq_true, if_false, if_true]
theorem st_not (hop : Sre.ops[code.getD pc 0]? = some .ASSERT_NOT) (hpc : pc < code.size) (h0 : code.getD (pc + 2) 0 = 0) (hw : wt < 1000) : (S code text lim st pc pos hd om fr wt none sn).step = S code text lim st (pc + 3) pos pos false (fL pc pos om :: fr) (wt + 1) none (sn.add (code.getD pc 0)) := by
  have h3 : ¬ (wt + 1 + (#[] : Array (Option Nat)).size > 16777216) := by simp; omega
  have h5 : ¬ (pos < 0) := by omega
  simp only [S, Sre.M.step, Sre.M.exec, Sre.M.word, Nat.add_zero, hop, hpc, h0, h5, if_true, Option.isSome_none, Bool.false_eq_true, if_false, Sre.M.alternative, Sre.M.keep, Sre.M.attempt, Bool.and_false, h3, Sre.M.frame, fL, Nat.sub_zero]
  rfl
theorem st_notY {q : Nat} : (S code text lim st pc pos hd om (fL pos' q om' :: fr) (wt + 1) (some false) sn).step = S code text lim st (pos' + 1 + code.getD (pos' + 1) 0) q hd om' fr wt none sn := by
  have h4 : wt + 1 - (1 + (#[] : Array (Option Nat)).size) = wt := by simp
  simp only [S, Sre.M.step, fL, Sre.M.resume, Sre.M.putBack, Option.isSome_none, Bool.false_eq_true, if_false, if_true, h4, Sre.M.word]
theorem st_at1 (hop : Sre.ops[code.getD pc 0]? = some .AT) (hpc : pc < code.size) (h1 : code.getD (pc + 1) 0 = 1) {y : Bool} (hy : (pos == 0 || text.getD (pos - 1) 0 == 10) = y) : (S code text lim st pc pos hd om fr wt none sn).step = if y then S code text lim st (pc + 2) pos hd om fr wt none ((sn.add (code.getD pc 0)).add (43 + code.getD (pc + 1) 0)) else S code text lim st pc pos hd om fr wt (some false) ((sn.add (code.getD pc 0)).add (43 + code.getD (pc + 1) 0)) := by
  simp only [S, Sre.M.step, Sre.M.exec, Sre.M.word, Nat.add_zero, hop, hpc, h1, if_true, Option.isSome_none, Bool.false_eq_true, if_false, Sre.M.isAt, hy, Sre.M.say]
theorem goes_S {k : Nat} {an : Option Bool} : goes (k + 1) (S code text lim st pc pos hd om fr wt an sn) = goes k (S code text lim st pc pos hd om fr wt an sn).step := rfl
/-- the run ends, with this machine -/
def Ends (N : Nat) (m : Sre.M) (P : Sre.M → Prop) : Prop := ∃ n, n ≤ N ∧ (goes n m).outcome.isSome = true ∧ P (goes n m)
theorem Ends.go {M : Model} {A : Around} {E : Value → Shared → Prop} {s : Shared} {Q : Option Sre.M → Shared → Prop} {m : Sre.M} {P : Sre.M → Prop} (h : Ends 400 m P) (hq : ∀ m', P m' → match m'.outcome with | some .matched => Q (some m') s | some .failed => Q none s | _ => False) : wpAny M A (Builtin.Re.reRunToEnd m) Q E s := by
  obtain ⟨n, hn, ho, hp⟩ := h
  have e : goes (4 * (99 + 1)) m = goes n m := by
    rw [show 4 * (99 + 1) = n + (400 - n) by omega, goes_add, goes_done _ _ ho]
  refine run_goes (k := 99) (by omega) ?_
  rw [e]
  exact hq _ hp
theorem Ends.more {N N' k : Nat} {m m' : Sre.M} {P : Sre.M → Prop} (e : goes k m = m') (h : Ends N m' P) (l : k + N ≤ N') : Ends N' m P := by
  obtain ⟨n, hn, ho, hp⟩ := h
  subst e
  exact ⟨k + n, by omega, by rw [goes_add]; exact ho, by rw [goes_add]; exact hp⟩
def Found (st e : Nat) (m : Sre.M) : Prop := m.outcome = some .matched ∧ m.start = st ∧ m.handed = e
def None' (m : Sre.M) : Prop := m.outcome = some .failed
theorem Ends.s {N : Nat} {an : Option Bool} {m' : Sre.M} {P : Sre.M → Prop} (e : (S code text lim st pc pos hd om fr wt an sn).step = m') (h : Ends N m' P) : Ends (N + 1) (S code text lim st pc pos hd om fr wt an sn) P := Ends.more (k := 1) (by rw [goes_S]; exact e) h (by omega)
theorem found_end {N : Nat} : Ends (N + 1) (S code text lim st pc pos hd om [] wt (some true) sn) (Found st hd) := by
  refine ⟨1, by omega, ?_, ?_⟩ <;> rw [goes_S, st_end]
  · rfl
  · exact ⟨rfl, rfl, rfl⟩
theorem fail_end {N : Nat} : Ends (N + 1) (S code text lim st pc pos hd om [] wt (some false) sn) None' := by
  refine ⟨1, by omega, ?_, ?_⟩ <;> rw [goes_S, st_endF]
  · rfl
  · rfl
end
section
variable {text : Array Nat} {lim q : Nat} {sn : Sre.Seen}
theorem eol_lf {N : Nat} (hl : q < lim) (h : text.getD q 0 = 10) : Ends (N + 20) (S cE text lim q 10 q q true [fS 10 q true] 1 none sn) (Found q (q + 1)) := by
  refine .s (st_branch rfl (by decide) rfl (by omega)) (.s (st_litF rfl (by decide) (fun _ => by rw [h]; decide)) (.s (st_back rfl (by omega)) (.s (st_lit rfl (by decide) hl h) (.s (st_jump rfl (by decide)) (.s (st_succ rfl (by decide)) (.s st_yesB (.s st_yesS found_end)))))))
theorem eol_crlf {N : Nat} (hl : q + 1 < lim) (h : text.getD q 0 = 13) (h2 : text.getD (q + 1) 0 = 10) : Ends (N + 20) (S cE text lim q 10 q q true [fS 10 q true] 1 none sn) (Found q (q + 2)) := by
  refine .s (st_branch rfl (by decide) rfl (by omega)) (.s (st_lit rfl (by decide) (by omega) h) (.s (st_lit rfl (by decide) hl h2) (.s (st_jump rfl (by decide)) (.s (st_succ rfl (by decide)) (.s st_yesB (.s st_yesS found_end))))))
theorem eol_cr {N : Nat} (hl : q < lim) (h : text.getD q 0 = 13) (h2 : q + 1 < lim → text.getD (q + 1) 0 ≠ 10) : Ends (N + 20) (S cE text lim q 10 q q true [fS 10 q true] 1 none sn) (Found q (q + 1)) := by
  refine .s (st_branch rfl (by decide) rfl (by omega)) (.s (st_lit rfl (by decide) hl h) (.s (st_litF rfl (by decide) h2) (.s (st_back rfl (by omega)) (.s (st_litF rfl (by decide) (fun _ => by rw [h]; decide)) (.s (st_back rfl (by omega)) (.s
    (st_lit rfl (by decide) hl h) (.s (st_not rfl (by decide) rfl (by omega)) (.s (st_litF rfl (by decide) h2) (.s st_notY (.s (st_jump rfl (by decide)) (.s (st_succ rfl (by decide)) (.s st_yesB (.s st_yesS found_end)))))))))))))
/-! the searches -/
theorem inSet_no {c : Nat} {seen : Sre.Seen} (h : c ≠ 10 ∧ c ≠ 13) : ∃ sn', Sre.inSet cE c 36 5 true seen = .ok (false, sn') := by
  have a : (c == 10) = false := beq_eq_false_iff_ne.mpr h.1
  have b : (c == 13) = false := beq_eq_false_iff_ne.mpr h.2
  have e1 : Sre.inSet cE c 36 5 true seen = if (c == 10) = true then .ok (true, seen.add 16) else Sre.inSet cE c 35 7 true (seen.add 16) := rfl
  have e2 : ∀ sn, Sre.inSet cE c 35 7 true sn = if (c == 13) = true then .ok (true, sn.add 16) else Sre.inSet cE c 34 9 true (sn.add 16) := fun _ => rfl
  have e3 : ∀ sn, Sre.inSet cE c 34 9 true sn = .ok (false, sn.add 0) := fun _ => rfl
  rw [e1, a, if_neg (by decide), e2, b, if_neg (by decide), e3]
  exact ⟨_, rfl⟩
theorem inSet_yes {c : Nat} {seen : Sre.Seen} (h : c = 10 ∨ c = 13) : ∃ sn', Sre.inSet cE c 36 5 true seen = .ok (true, sn') := by
  rcases h with rfl | rfl
  · exact ⟨_, rfl⟩
  · exact ⟨_, rfl⟩
theorem ad_no (m : Sre.M) {f s : Nat} {seen s1 : Sre.Seen} (hs : s < m.lim) (h : Sre.inSet m.code (m.text.getD s 0) m.code.size 5 true seen = .ok (false, s1)) : m.admitted (f + 1) s seen = m.admitted f (s + 1) s1 := by
  rw [Sre.M.admitted, if_neg (by omega), h]
theorem ad_yes (m : Sre.M) {f s : Nat} {seen s1 : Sre.Seen} (hs : s < m.lim) (h : Sre.inSet m.code (m.text.getD s 0) m.code.size 5 true seen = .ok (true, s1)) : m.admitted (f + 1) s seen = .ok (some s, s1) := by
  rw [Sre.M.admitted, if_neg (by omega), h]
theorem from_ok (m : Sre.M) {s q : Nat} {s2 : Sre.Seen} {f : Bool} (hf : m.hasFirstSet = true) (h : m.admitted (m.lim + 1 - s) s m.seen = .ok (some q, s2)) : m.attemptFrom s f = ({ m with mustAdvance := false, seen := s2 } : Sre.M).attemptAt q f := by
  rw [Sre.M.attemptFrom, hf, if_neg (by decide), h]
theorem eol_first {p : Nat} {N : Nat} {P : Sre.M → Prop} (hq : p + 1 < lim) (h0 : text.getD p 0 ≠ 10 ∧ text.getD p 0 ≠ 13) (h1 : text.getD (p + 1) 0 = 10 ∨ text.getD (p + 1) 0 = 13) (h : ∀ sn, Ends N (S cE text lim (p + 1) 10 (p + 1) (p + 1) true [fS 10 (p + 1) true] 1 none sn) P) :
    Ends N (Sre.forSearch cE text 0 p lim false) P := by
  have e : Sre.forSearch cE text 0 p lim false = if (decide (p > lim) || decide (lim - p < 1)) = true then ({ S cE text lim p 10 p p true [] 0 none (({} : Sre.Seen).add 14) with lastStart := 0 } : Sre.M).say false else (S cE text lim p 10 p p true [] 0 none (({} : Sre.Seen).add 14)).attemptFrom p true := rfl
  rw [e, if_neg (by simp; omega)]
  obtain ⟨s1, hs1⟩ := inSet_no (seen := ({} : Sre.Seen).add 14) h0
  obtain ⟨s2, hs2⟩ := inSet_yes (seen := s1) h1
  have ad : (S cE text lim p 10 p p true [] 0 none (({} : Sre.Seen).add 14)).admitted (lim + 1 - p) p (({} : Sre.Seen).add 14) = .ok (some (p + 1), s2) := by
    rw [show lim + 1 - p = (lim - p - 1) + 1 + 1 by omega]
    exact (ad_no (S cE text lim p 10 p p true [] 0 none (({} : Sre.Seen).add 14)) (show p < lim by omega) hs1).trans (ad_yes (S cE text lim p 10 p p true [] 0 none (({} : Sre.Seen).add 14)) hq hs2)
  rw [from_ok _ rfl ad]
  exact h s2
theorem eol_none {N : Nat} : Ends (N + 4) (Sre.forSearch cE text 0 lim lim false) None' := by
  have e : Sre.forSearch cE text 0 lim lim false = if (decide (lim > lim) || decide (lim - lim < 1)) = true then ({ S cE text lim lim 10 lim lim true [] 0 none (({} : Sre.Seen).add 14) with lastStart := 0 } : Sre.M).say false else (S cE text lim lim 10 lim lim true [] 0 none (({} : Sre.Seen).add 14)).attemptFrom lim true := rfl
  rw [e, if_pos (by simp)]
  exact ⟨1, by omega, rfl, rfl⟩
def atDot (text : Array Nat) (p : Nat) : Bool := (p == 0 || text.getD (p - 1) 0 == 10) && text.getD p 0 == 46
theorem dot_here {N p : Nat} {om : Bool} (hl : p < lim) (h : atDot text p = true) : Ends (N + 10) (S cD text lim p 5 p p om [fS 5 p om] 1 none sn) (Found p (p + 1)) := by
  obtain ⟨h1, h2⟩ := Bool.and_eq_true_iff.mp h
  have h2 := eq_of_beq h2
  refine .s (st_at1 rfl (by decide) rfl h1) ?_
  rw [if_pos rfl]
  exact .s (st_lit rfl (by decide) hl h2) (.s (st_succ rfl (by decide)) (.s st_yesS found_end))
theorem st_next {code : Array Nat} {st pc pos hd pos' q : Nat} {om om' : Bool} (hf : ∀ sn, Sre.M.hasFirstSet (S code text lim st pos' q hd om' [] 0 none sn) = false) (hq : q < lim) :
    (S code text lim st pc pos hd om [fS pos' q om'] 1 (some false) sn).step = S code text lim (q + 1) pos' (q + 1) (q + 1) false [fS pos' (q + 1) false] 1 none sn := by
  have e : (S code text lim st pc pos hd om [fS pos' q om'] 1 (some false) sn).step = if q < lim then Sre.M.attemptFrom (S code text lim st pos' q hd om' [] 0 none sn) (q + 1) false else Sre.M.say (S code text lim st pos' q hd om' [] 0 none sn) false := rfl
  rw [e, if_pos hq]
  unfold Sre.M.attemptFrom
  rw [hf, if_pos (by decide)]
  rfl
theorem st_last {code : Array Nat} {st pc pos hd pos' q : Nat} {om om' : Bool} (hq : lim ≤ q) :
    (S code text lim st pc pos hd om [fS pos' q om'] 1 (some false) sn).step = S code text lim st pos' q hd om' [] 0 (some false) sn := by
  have e : (S code text lim st pc pos hd om [fS pos' q om'] 1 (some false) sn).step = if q < lim then Sre.M.attemptFrom (S code text lim st pos' q hd om' [] 0 none sn) (q + 1) false else Sre.M.say (S code text lim st pos' q hd om' [] 0 none sn) false := rfl
  rw [e, if_neg (by omega)]
  rfl
theorem dot_miss {N p : Nat} {om : Bool} {P : Sre.M → Prop} (h : p < lim → atDot text p = false) (hn : ∀ pc pos hd om' sn', Ends N (S cD text lim p pc pos hd om' [fS 5 p om] 1 (some false) sn') P) : Ends (N + 2) (S cD text lim p 5 p p om [fS 5 p om] 1 none sn) P := by
  cases hy : (p == 0 || text.getD (p - 1) 0 == 10) with
  | false =>
    have e := st_at1 (code := cD) (text := text) (lim := lim) (st := p) (pc := 5) (pos := p) (hd := p) (wt := 1) (om := om) (fr := [fS 5 p om]) (sn := sn) rfl (by decide) rfl hy
    rw [if_neg (by decide)] at e
    exact Ends.more (k := 1) e (hn 5 p p om _) (by omega)
  | true =>
    refine .s (st_at1 rfl (by decide) rfl hy) ?_
    rw [if_pos rfl]
    refine .s (st_litF rfl (by decide) fun hl => ?_) (hn _ _ _ _ _)
    have := h hl
    unfold atDot at this
    rw [hy, Bool.true_and] at this
    exact ne_of_beq_false this
theorem dot_scan {N : Nat} {P : Sre.M → Prop} : ∀ (d p : Nat) (om : Bool) (sn : Sre.Seen), p + d ≤ lim → (∀ i, p ≤ i → i < p + d → atDot text i = false) → (∀ sn om, Ends N (S cD text lim (p + d) 5 (p + d) (p + d) om [fS 5 (p + d) om] 1 none sn) P) →
    Ends (N + 3 * d) (S cD text lim p 5 p p om [fS 5 p om] 1 none sn) P
  | 0, p, om, sn, _, _, h => h sn om
  | d + 1, p, om, sn, hl, hm, h => by
    rw [show N + 3 * (d + 1) = (N + 3 * d + 1) + 2 by omega]
    refine dot_miss (fun _ => hm p (Nat.le_refl _) (by omega)) fun pc pos hd om' sn' => ?_
    refine .s (st_next (fun _ => rfl) (by omega)) ?_
    exact dot_scan d (p + 1) false sn' (by omega) (fun i h1 h2 => hm i (by omega) (by omega)) (by rw [show p + 1 + d = p + (d + 1) by omega]; exact h)
theorem dot_search {p : Nat} {N : Nat} {P : Sre.M → Prop} (hp : p < lim) (h : ∀ sn, Ends N (S cD text lim p 5 p p true [fS 5 p true] 1 none sn) P) : Ends N (Sre.forSearch cD text 0 p lim false) P := by
  have e : Sre.forSearch cD text 0 p lim false = if (decide (p > lim) || decide (lim - p < 1)) = true then ({ S cD text lim p 5 p p true [] 0 none (({} : Sre.Seen).add 14) with lastStart := 0 } : Sre.M).say false else (S cD text lim p 5 p p true [] 0 none (({} : Sre.Seen).add 14)).attemptFrom p true := rfl
  rw [e, if_neg (by simp; omega)]
  exact h _
/-- the next dot at a row's begin, from p on: it lies d places on -/
theorem dot_found {p d : Nat} (hl : p + d < lim) (hz : lim ≤ 100) (hm : ∀ i, p ≤ i → i < p + d → atDot text i = false) (hd : atDot text (p + d) = true) : Ends 400 (Sre.forSearch cD text 0 p lim false) (Found (p + d) (p + d + 1)) :=
  dot_search (by omega) fun sn => Ends.more (k := 0) rfl (dot_scan (N := 10) d p true sn (by omega) hm fun sn om => dot_here (N := 0) (by omega) hd) (by omega)
theorem dot_none {p : Nat} (hp : p < lim) (hz : lim ≤ 100) (hm : ∀ i, p ≤ i → i < lim → atDot text i = false) : Ends 400 (Sre.forSearch cD text 0 p lim false) None' :=
  dot_search hp fun sn => by
    have e : p + (lim - p) = lim := by omega
    refine Ends.more (k := 0) rfl (dot_scan (N := 4) (lim - p) p true sn (by omega) (by rw [e]; exact hm) ?_) (by omega)
    rw [e]
    intro sn om
    refine dot_miss (N := 2) (fun h => absurd h (Nat.lt_irrefl _)) fun pc pos hd om' sn' => ?_
    exact .s (st_last (Nat.le_refl _)) fail_end
theorem dot_over {N : Nat} : Ends (N + 4) (Sre.forSearch cD text 0 lim lim false) None' := by
  have e : Sre.forSearch cD text 0 lim lim false = if (decide (lim > lim) || decide (lim - lim < 1)) = true then ({ S cD text lim lim 5 lim lim true [] 0 none (({} : Sre.Seen).add 14) with lastStart := 0 } : Sre.M).say false else (S cD text lim lim 5 lim lim true [] 0 none (({} : Sre.Seen).add 14)).attemptFrom lim true := rfl
  rw [e, if_pos (by simp)]
  exact ⟨1, by omega, rfl, rfl⟩
end
end Mine
namespace Mine
theorem plain_re : PlainAttrs "re.Pattern" :=
  ⟨⟨"object.__getattribute__", by rw [typeLookup_type, builtinLookup_eq_fast]; kernel_rfl, by decide +kernel⟩, by rw [typeLookup_type, builtinLookup_eq_fast]; kernel_rfl⟩
theorem owner_re : Manifest.owners.lookup (String.ofList ['n', 'r', 'e', 't', 't', 'a', 'P', '.', 'e', 'r'].reverse) = some Manifest.sig_re_Pattern := by kernel_rfl
theorem slot_re_sub : Slot "re.Pattern" "sub" "re.Pattern.sub" :=
  .of (owner := "re.Pattern") (n := "sub") (by rw [typeLookup_type, builtinLookup_eq_fast]; kernel_rfl) (by decide +kernel) (by decide +kernel) (by decide +kernel)
    (by first | exact .inl (by decide +kernel) | exact .inr (by decide +kernel)) (by rw [isSubtype_type]; kernel_rfl)
theorem type_re_sub : typeOf (.builtin "re.Pattern.sub") = pure (.type "method_descriptor") := by show builtinType _ = _; rw [builtinType_eq_fast]; kernel_rfl
theorem entry_re_sub : entryFor table "re.Pattern.sub" = some Builtin.«re.Pattern.sub» := entryFor_of_tree (by kernel_rfl)
theorem args_re_sub_3 (a b c : Value) : argsOk "re.Pattern.sub" ⟨[a, b, c], []⟩ := by
  unfold argsOk; rw [signature?_of (id := "re.Pattern.sub") (n := ['b', 'u', 's']) (o := ['n', 'r', 'e', 't', 't', 'a', 'P', '.', 'e', 'r']) (by kernel_rfl) owner_re]; kernel_rfl
theorem entry_re_loop : entryFor table "re.Pattern.sub.loop" = some Builtin.«re.Pattern.sub.loop» := entryFor_of_tree (by kernel_rfl)
theorem plain_re_loop : plainId "re.Pattern.sub.loop" = true := by decide +kernel
theorem str_no_call : typeLookup (.type "str") "__call__" = pure none := by rw [typeLookup_type, builtinLookup_eq_fast]; kernel_rfl
theorem slot_lstrip : Slot "bytes" "lstrip" "bytes.lstrip" :=
  .of (owner := "bytes") (n := "lstrip") (by rw [typeLookup_type, builtinLookup_eq_fast]; kernel_rfl) (by decide +kernel) (by decide +kernel) (by decide +kernel)
    (by first | exact .inl (by decide +kernel) | exact .inr (by decide +kernel)) (by rw [isSubtype_type]; kernel_rfl)
theorem type_lstrip : typeOf (.builtin "bytes.lstrip") = pure (.type "method_descriptor") := by show builtinType _ = _; rw [builtinType_eq_fast]; kernel_rfl
theorem entry_lstrip : entryFor table "bytes.lstrip" = some Builtin.«bytes.lstrip» := entryFor_of_tree (by kernel_rfl)
theorem args_lstrip_2 (a b : Value) : argsOk "bytes.lstrip" ⟨[a, b], []⟩ := by
  unfold argsOk; rw [signature?_of (id := "bytes.lstrip") (n := ['p', 'i', 'r', 't', 's', 'l']) (o := ['s', 'e', 't', 'y', 'b']) (by kernel_rfl) PySem.W.FB.owner_bytes]; kernel_rfl

def pieces (text : Array Nat) (r : Str) (lim : Nat) : Nat → List (Nat × Nat) → List Str
  | st, [] => if st < lim then [⟨text.extract st lim⟩] else []
  | st, (b, e) :: ms => (if st < b then [⟨text.extract st b⟩] else []) ++ r :: pieces text r lim e ms
def Finds (code text : Array Nat) (lim : Nat) : Nat → List (Nat × Nat) → Prop
  | st, [] => Ends 400 (Sre.forSearch code text 0 st lim false) None'
  | st, (b, e) :: ms => Ends 400 (Sre.forSearch code text 0 st lim false) (Found b e) ∧ b < e ∧ Finds code text lim e ms
/-- a pattern as it lies -/
def IsPat (h : Heap) (pa : Addr) (code : Array Nat) : Prop := ∃ o vs ca co its n, h.get? pa = some o ∧ o.cls = .type "re.Pattern" ∧ o.dict = none ∧ o.data = .fields vs ∧ vs.getD 6 .none = rawInt 0 ∧ vs.getD 2 .none = rawInt 0 ∧ vs.getD 5 .none = .ref ca ∧ h.get? ca = some co ∧ co.data = .seq its n ∧ (its.map Builtin.Re.reRawOf).map (·.toNat) = code ∧ co.cls = .type "tuple"
theorem IsPat.keeps {h h' : Heap} {pa : Addr} {code : Array Nat} (x : IsPat h pa code) (k : ∀ b o, h.get? b = some o → h'.get? b = some o) : IsPat h' pa code :=
  let ⟨o, vs, ca, co, its, n, h1, h2, h3, h4, h5, h6, h7, h8, h9⟩ := x
  ⟨o, vs, ca, co, its, n, k _ _ h1, h2, h3, h4, h5, h6, h7, k _ _ h8, h9⟩
theorem IsPat.but {h h' : Heap} {pa P : Addr} {code : Array Nat} {vs : Array Value} (x : IsPat h pa code) (hl : h.PlainList P vs) (k : ∀ b o, b ≠ P → h.get? b = some o → h'.get? b = some o) : IsPat h' pa code := by
  obtain ⟨o, vs', ca, co, its, n, h1, h2, h3, h4, h5, h6, h7, h8, h9, h10, h11⟩ := x
  obtain ⟨m, e⟩ := hl
  refine ⟨o, vs', ca, co, its, n, k _ _ (fun q => ?_) h1, h2, h3, h4, h5, h6, h7, k _ _ (fun q => ?_) h8, h9, h10, h11⟩
  · rw [← q, h1] at e; have := (Option.some.inj e); rw [this] at h2; exact absurd (Value.type.inj h2) (by decide)
  · rw [← q, h8] at e; have := (Option.some.inj e); rw [this] at h11; exact absurd (Value.type.inj h11) (by decide)
section
variable {prog : Program} {w : World} {A : Around} {E : Value → Shared → Prop} {s : Shared}
theorem target_any {M : Model} {pa : Addr} {code : Array Nat} {x : Str} {t : Tok} {Q : Builtin.Re.ReTarget → Shared → Prop} (hp : IsPat s.heap pa code)
    (h : Q { pattern := .ref pa, string := .str x t, code := code, text := x.cps, kind := 0, groups := 0, pos := 0, lim := x.cps.size } s) : wpAny M A (Builtin.Re.reWholeTarget (.ref pa) (.str x t)) Q E s := by
  obtain ⟨o, vs, ca, co, its, n, h1, h2, h3, h4, h5, h6, h7, h8, h9, h10, _⟩ := hp
  unfold Builtin.Re.reWholeTarget
  refine wpAny_bind (wpAny_fieldsOf h1 h4 ?_)
  refine wpAny_bind (wpAny_of_eq (a := (x.cps, 0)) rfl ?_)
  dsimp only
  rw [h5, h6, h7]
  refine wpAny_bind (wpAny_of_eq (a := ()) rfl ?_)
  unfold Builtin.Re.reRawItems
  refine wpAny_bind (wpAny_bind (wpAny_seqItems h8 h9 (wpAny_pure ?_)))
  refine wpAny_pure ?_
  have e : (((some its).getD #[]).map Builtin.Re.reRawOf).map (·.toNat) = code := h10
  rw [e]
  exact h
end
end Mine
namespace Mine
section
variable {prog : Program} {w : World} {A : Around} {E : Value → Shared → Prop} {s : Shared}
theorem push_any {M : Model} {P : Addr} {vs : Array Value} {v : Value} {Q : Unit → Shared → Prop} (hl : s.heap.PlainList P vs) (hz : vs.size ≤ sizeLine) (h : ∀ h', h'.PlainList P (vs.push v) → Heap.SameBut P s.heap h' → Q () { s with heap := h' }) : wpAny M A (updateSeq P fun x => x.push v) Q E s := by
  obtain ⟨n, e⟩ := hl
  exact wpAny_updateSeq e rfl (h _ ⟨_, Heap.get?_update_self _ e rfl⟩ (Heap.SameBut.update ..)) hz (by simp; omega)
def joined (l : List Str) : Str := if l.isEmpty = true then ⟨#[]⟩ else Txt.join ⟨#[]⟩ l
theorem strs_push {l : List Value} {ys : List Str} (h : StrsAre l ys) (y : Str) (t : Tok) : StrsAre (l ++ [.str y t]) (ys ++ [y]) := by
  induction h with
  | nil => exact .cons _ _ .nil
  | cons x t _ ih => exact .cons _ _ ih
theorem strs_len {l : List Value} {ys : List Str} (h : StrsAre l ys) : l.length = ys.length := by
  induction h with
  | nil => rfl
  | cons x t _ ih => simp [ih]
theorem extract_le (a : Array Nat) (i j : Nat) : (⟨a.extract i j⟩ : Str).length ≤ a.size := by
  show (a.extract i j).size ≤ _
  rw [Array.size_extract]; omega
theorem sum_le' (c : Nat) : ∀ l : List Str, (∀ x ∈ l, x.length ≤ c) → (l.map (·.length)).sum ≤ c * l.length
  | [], _ => by simp
  | x :: l, h => by
    have h1 := h x (.head _)
    have h2 := sum_le' c l fun y hy => h y (.tail _ hy)
    rw [List.map_cons, List.sum_cons, List.length_cons, Nat.mul_add]
    omega
theorem loop_any {pa P : Addr} {code : Array Nat} {x r : Str} {t u : Tok} {R : Result → Shared → Prop} (hr : r.length ≤ 100) (hx : x.cps.size ≤ 100) : ∀ (ms : List (Nat × Nat)) (st : Nat) (cnt : Int) (s : Shared) (acc : List Str) (vs : Array Value),
    IsPat s.heap pa code → s.heap.PlainList P vs → StrsAre vs.toList acc → Finds code x.cps x.cps.size st ms → acc.length + 2 * ms.length ≤ 200 → (∀ y ∈ acc, y.length ≤ 100) →
    (∀ h' tk tk', (∀ b o, b ≠ P → s.heap.get? b = some o → h'.get? b = some o) → R (.ok (.ret (.str (joined (acc ++ pieces x.cps r x.cps.size st ms)) tk))) { s with heap := h', toks := tk' }) →
    codeAny (model prog w) A (.builtin "re.Pattern.sub.loop" ⟨[.ref pa, .str x t, .str r u, rawInt 0, rawInt 0, rawInt cnt, rawInt st, rawInt st, .bool false, .ref P, .bool false], []⟩) R s
  | [], st, cnt, s, acc, vs, hp, hl, ha, hf, hn, hacc, hR => by
    refine codeAny_builtin entry_re_loop ?_
    rw [Around.under_plainId plain_re_loop]
    unfold Builtin.«re.Pattern.sub.loop»
    refine wpAny_bind (target_any hp ?_)
    dsimp only [rawInt]
    rw [if_pos (show ((0 : Int) == 0) = true by decide)]
    refine wpAny_bind (wpAny_of_eq (a := ()) rfl ?_)
    refine wpAny_bind ?_
    rw [if_neg (by simp)]
    simp only [Int.toNat_natCast]
    have hsz := sizeLine_eq
    refine Ends.go hf fun m' hm => ?_
    rw [show m'.outcome = some .failed from hm]
    have vsz : vs.size = acc.length := by rw [← strs_len ha]; simp
    have fin : ∀ (s' : Shared) (vs' : Array Value) (acc' : List Str), s'.heap.PlainList P vs' → StrsAre vs'.toList acc' → (∀ y ∈ acc', y.length ≤ 100) → acc'.length ≤ 300 → acc' = acc ++ pieces x.cps r x.cps.size st [] → (∀ tk tk', R (.ok (.ret (.str (joined acc') tk))) { s' with toks := tk' }) →
      wpAny (model prog w) A.in1 (do
        let joiner ← Builtin.Re.reSlice x.cps 0 0 0
        let text ← if ((← seqItems? (.ref P)).getD #[]).isEmpty = true then pure joiner else call (.builtin "str.join") [joiner, .ref P]
        ret text) (fun fin s' => match fin with | Fin.done f => R (.ok f) s' | Fin.again c' => c'.quiet = true ∧ codeAny (model prog w) A c' R s') (fun e s' => R (.error e) s') s' := fun s' vs' acc' hl' ha' hb hlen hacc' hR' => by
      obtain ⟨n, e⟩ := hl'
      have e0 : (⟨x.cps.extract 0 0⟩ : Str) = ⟨#[]⟩ := by simp
      refine wpAny_bind (wpAny_mkStr ?_ (by rw [e0]; exact Nat.zero_le _))
      rw [e0]
      refine wpAny_bind (wpAny_seqItems e rfl ?_)
      cases acc' with
      | nil =>
        have : vs' = #[] := by
          have := strs_len ha'
          simpa using this
        subst this
        exact wpAny_pure (hR' _ _)
      | cons y l =>
        have : ((some vs').getD #[]).isEmpty = false := by
          have := strs_len ha'
          simp only [Array.length_toList, List.length_cons] at this
          show vs'.isEmpty = false
          rw [Array.isEmpty_eq_false_iff]
          intro q
          rw [q] at this
          simp at this
        rw [this, if_neg (by decide)]
        refine wpAny_bind (join_list (items := vs') ⟨_, e, rfl, n, rfl⟩ ha' ?_ fun t' k => wpAny_pure (hR' _ _))
        have := sum_le' 100 (y :: l) hb
        show _ + _ * 0 ≤ _
        omega
    by_cases hlt : st < x.cps.size
    · have goal := fin
      show wpAny _ _ (if st < x.cps.size then _ else _) _ _ _
      rw [if_pos hlt]
      refine wpAny_bind (wpAny_mkStr ?_ (by have := extract_le x.cps st x.cps.size; omega))
      refine wpAny_bind (push_any hl (by omega) fun h' hl' hs' => ?_)
      refine fin _ _ (acc ++ [⟨x.cps.extract st x.cps.size⟩]) hl' (by rw [Array.toList_push]; exact strs_push ha _ _) (fun y hy => ?_) (by simp; omega) (by unfold pieces; rw [if_pos hlt]) fun tk tk' => ?_
      · rcases List.mem_append.mp hy with h | h
        · exact hacc y h
        · rw [List.mem_singleton.mp h]; exact Nat.le_trans (extract_le _ _ _) hx
      · have := hR h' tk tk' fun b o hb e => (hs'.2 b hb).trans e
        unfold pieces at this
        rw [if_pos hlt] at this
        exact this
    · show wpAny _ _ (if st < x.cps.size then _ else _) _ _ _
      rw [if_neg hlt]
      refine fin _ _ acc hl ha hacc (by omega) (by unfold pieces; rw [if_neg hlt, List.append_nil]) fun tk tk' => ?_
      have := hR s.heap tk tk' fun b o hb e => e
      unfold pieces at this
      rw [if_neg hlt, List.append_nil] at this
      exact this
  | (b, e) :: ms, st, cnt, s, acc, vs, hp, hl, ha, hf, hn, hacc, hR => by
    refine codeAny_builtin entry_re_loop ?_
    rw [Around.under_plainId plain_re_loop]
    unfold Builtin.«re.Pattern.sub.loop»
    refine wpAny_bind (target_any hp ?_)
    dsimp only [rawInt]
    rw [if_pos (show ((0 : Int) == 0) = true by decide)]
    refine wpAny_bind (wpAny_of_eq (a := ()) rfl ?_)
    refine wpAny_bind ?_
    rw [if_neg (by simp)]
    simp only [Int.toNat_natCast]
    have hsz := sizeLine_eq
    obtain ⟨hf1, hbe, hf2⟩ := hf
    refine Ends.go hf1 fun m' ⟨ho, hst, hhd⟩ => ?_
    rw [ho]
    have vsz : vs.size = acc.length := by rw [← strs_len ha]; simp
    simp only [List.length_cons] at hn
    have hne : (e == b) = false := beq_eq_false_iff_ne.mpr (by omega)
    have cont : ∀ (s' : Shared) (vs' : Array Value) (acc' : List Str), (∀ b o, b ≠ P → s.heap.get? b = some o → s'.heap.get? b = some o) → s'.heap.PlainList P vs' → StrsAre vs'.toList acc' → (∀ y ∈ acc', y.length ≤ 100) → acc'.length ≤ acc.length + 1 → acc' ++ r :: pieces x.cps r x.cps.size e ms = acc ++ pieces x.cps r x.cps.size st ((b, e) :: ms) → (∃ h' tk, s' = { s with heap := h', toks := tk }) →
      wpAny (model prog w) A.in1 (do
        updateSeq P fun x => x.push (.str r u)
        again (.builtin "re.Pattern.sub.loop" ⟨[.ref pa, .str x t, .str r u, .int 0 0, .int 0 0, .int (cnt + 1) 0, .int (m'.handed : Int) 0, .int (m'.handed : Int) 0, .bool (m'.handed == m'.start), .ref P, .bool false], []⟩))
        (fun fin s' => match fin with | Fin.done f => R (.ok f) s' | Fin.again c' => c'.quiet = true ∧ codeAny (model prog w) A c' R s') (fun e s' => R (.error e) s') s' := fun s' vs' acc' hk hl' ha' hb hlen hacc' hs' => by
      have vsz' : vs'.size = acc'.length := by rw [← strs_len ha']; simp
      refine wpAny_bind (push_any hl' (by omega) fun h2 hl2 hs2 => ?_)
      rw [hst, hhd, hne]
      have hk2 : ∀ b o, b ≠ P → s.heap.get? b = some o → h2.get? b = some o := fun b o hb e => (hs2.2 b hb).trans (hk b o hb e)
      refine wpAny_pure ⟨plainId_quiet plain_re_loop _, loop_any hr hx ms e (cnt + 1) _ (acc' ++ [r]) (vs'.push (.str r u)) (hp.but hl hk2) hl2 (by rw [Array.toList_push]; exact strs_push ha' _ _) hf2 (by simp; omega) (fun y hy => ?_) fun h3 tk tk' hk3 => ?_⟩
      · rcases List.mem_append.mp hy with h | h
        · exact hb y h
        · rw [List.mem_singleton.mp h]; exact hr
      · obtain ⟨h', tk0, rfl⟩ := hs'
        have := hR h3 tk tk' fun b o hb e => hk3 b o hb (hk2 b o hb e)
        rw [← hacc'] at this
        rw [List.append_assoc]
        exact this
    show wpAny _ _ (if st < m'.start then _ else _) _ _ _
    by_cases hlt : st < b
    · rw [if_pos (by rw [hst]; exact hlt)]
      refine wpAny_bind (wpAny_mkStr ?_ (by have := extract_le x.cps st m'.start; omega))
      refine wpAny_bind (push_any hl (by omega) fun h' hl' hs' => ?_)
      rw [hst] at hl'
      refine cont { s with heap := h', toks := s.toks + 1 } _ (acc ++ [⟨x.cps.extract st b⟩]) (fun b o hb e => (hs'.2 b hb).trans e) hl' (by rw [Array.toList_push]; exact strs_push ha _ _) (fun y hy => ?_) (by simp) (by rw [pieces, if_pos hlt]; simp) ⟨_, _, rfl⟩
      rcases List.mem_append.mp hy with h | h
      · exact hacc y h
      · rw [List.mem_singleton.mp h]; exact Nat.le_trans (extract_le _ _ _) hx
    · rw [if_neg (by rw [hst]; exact hlt)]
      exact cont s _ acc (fun b o hb e => e) hl ha hacc (by omega) (by rw [pieces, if_neg hlt]; simp) ⟨_, _, rfl⟩
theorem sub_any {pa : Addr} {code : Array Nat} {x r : Str} {t u : Tok} {Q : Value → Shared → Prop} {ms : List (Nat × Nat)} (hr : r.length ≤ 100) (hbs : r.cps.contains 92 = false) (hx : x.cps.size ≤ 100) (hp : IsPat s.heap pa code) (hf : Finds code x.cps x.cps.size 0 ms) (hn : 2 * ms.length ≤ 200)
    (h : ∀ h' tk tk', (∀ b o, s.heap.get? b = some o → h'.get? b = some o) → Q (.str (joined (pieces x.cps r x.cps.size 0 ms)) tk) { s with heap := h', toks := tk' }) :
    wpAny (model prog w) A (call (.builtin "re.Pattern.sub") [.ref pa, .str r u, .str x t]) Q E s := by
  have hT : s.TypeIs (.ref pa) "re.Pattern" := by
    obtain ⟨o, vs, ca, co, its, n, h1, h2, _⟩ := hp
    exact ⟨o, h1, h2⟩
  refine wpAny_call (codeAny_call_builtin slot_re_sub.plain entry_re_sub (slot_re_sub.check _ _ _ _ _ _ _ _ hT (args_re_sub_3 _ _ _) ?_))
  unfold Builtin.«re.Pattern.sub» Builtin.Re.reSubstitute
  dsimp only
  refine wpAny_bind (wpAny_of_eq (a := [some (.str r u), some (.str x t), none]) rfl ?_)
  dsimp only
  refine wpAny_bind (wpAny_pure ?_)
  refine wpAny_bind (wpAny_specialOf (typeIs_str _ _ _) str_no_call ?_)
  rw [if_neg (show ¬ (none : Option Value).isSome = true by decide)]
  refine wpAny_bind (wpAny_of_eq (a := some r) rfl ?_)
  dsimp only
  refine wpAny_bind (wpAny_pure ?_)
  rw [if_neg (show ¬ (none : Option Value).isSome = true by decide), hbs, if_pos (show (!false) = true from rfl)]
  refine wpAny_bind (wpAny_pure ?_)
  dsimp only
  refine wpAny_bind (wpAny_holding (target_any hp ?_))
  rw [if_neg (show ¬ ((0 : Int) == 1) = true by decide)]
  refine wpAny_bind (wpAny_newObj_type ?_)
  refine wpAny_pure ⟨plainId_quiet plain_re_loop _, ?_⟩
  refine loop_any hr hx ms 0 0 _ [] #[] (hp.keeps fun b o e => Heap.get?_push_of_some _ e) ⟨0, Heap.get?_push_size s.heap rfl⟩ .nil hf (by simpa using hn) (fun y hy => by cases hy) fun h' tk tk' hk => ?_
  refine h h' tk tk' fun b o e => hk b o (Nat.ne_of_lt (Heap.lt_size e)) (Heap.get?_push_of_some _ e)
/-- as an operation of the walk -/
theorem op_sub_re {X : Wd} {t : Bool} {pa : Addr} {code : Array Nat} {x r : Str} {a b c : Value} {ms : List (Nat × Nat)} (hr : r.length ≤ 100) (hbs : r.cps.contains 92 = false) (hx : x.cps.size ≤ 100) (hp : IsPat s.heap pa code) (hf : Finds code x.cps x.cps.size 0 ms) (hn : 2 * ms.length ≤ 200)
    (ha : RStr r s.heap b) (hb : RStr x s.heap c) : Op X t A s (call (.builtin "re.Pattern.sub") [.ref pa, b, c]) (RStr (joined (pieces x.cps r x.cps.size 0 ms))) := fun E => by
  obtain ⟨_, rfl⟩ := ha
  obtain ⟨_, rfl⟩ := hb
  exact sub_any hr hbs hx hp hf hn fun h' tk tk' k => ⟨⟨_, rfl⟩, Wd.K.heap k⟩
end
end Mine
namespace Mine
/-! the texts -/
def chars (l : List Str) : List Nat := l.flatMap fun x => x.cps.toList
theorem str_ext {x y : Str} (h : x.cps.toList = y.cps.toList) : x = y := by
  obtain ⟨a⟩ := x; obtain ⟨b⟩ := y
  congr 1
  exact Array.toList_inj.mp h
theorem append_chars (x y : Str) : (x ++ y).cps.toList = x.cps.toList ++ y.cps.toList := by
  show (x.cps ++ y.cps).toList = _
  simp
theorem join_chars : ∀ l : List Str, (Txt.join ⟨#[]⟩ l).cps.toList = chars l := fun l => by
  have e : Txt.join ⟨#[]⟩ l = Str.join ⟨#[]⟩ l := by
    have := join_closes (sep := ⟨#[]⟩) (sep' := ⟨#[]⟩) (ys := l) rfl
    exact eq_of_beq this
  rw [e]
  clear e
  induction l with
  | nil => rfl
  | cons x r ih => rw [join_nil_cons, append_chars, ih]; rfl
theorem joined_chars (l : List Str) : (joined l).cps.toList = chars l := by
  unfold joined
  cases l with
  | nil => rfl
  | cons x r => exact join_chars _
theorem at_text {pre post : List Nat} {c : Nat} : ((pre ++ c :: post).toArray).getD pre.length 0 = c := by
  rw [Array.getD_eq_getD_getElem?, List.getElem?_toArray, List.getElem?_append_right (Nat.le_refl _), Nat.sub_self]
  rfl
theorem at_text' {pre post : List Nat} {c : Nat} {i : Nat} (h : i = pre.length) : ((pre ++ c :: post).toArray).getD i 0 = c := by subst h; exact at_text
theorem ext_text (pre mid post : List Nat) : ((pre ++ (mid ++ post)).toArray).extract pre.length (pre.length + mid.length) = mid.toArray := by
  simp
theorem ext_text' {pre mid post : List Nat} {text : Array Nat} {i j : Nat} (ht : text = (pre ++ (mid ++ post)).toArray) (hi : i = pre.length) (hj : j = pre.length + mid.length) : text.extract i j = mid.toArray := by
  subst ht hi hj; exact ext_text _ _ _
def flat (rows : List (Nat × List Nat)) : List Nat := rows.flatMap fun q => q.1 :: q.2
def GoodRow (q : Nat × List Nat) : Prop := (q.1 = 46 ∨ q.1 = 97) ∧ (q.2 = [10] ∨ q.2 = [13] ∨ q.2 = [13, 10])
def CRLF : Str := ⟨#[13, 10]⟩
theorem eol_rows : ∀ (rows : List (Nat × List Nat)) (pre : List Nat) (text : Array Nat), (∀ q ∈ rows, GoodRow q) → text = (pre ++ flat rows).toArray →
    ∃ ms, Finds cE text text.size pre.length ms ∧ ms.length = rows.length ∧ pieces text CRLF text.size pre.length ms = rows.flatMap fun q => [⟨#[q.1]⟩, CRLF]
  | [], pre, text, _, ht => by
    have hz : text.size = pre.length := by rw [ht]; simp [flat]
    refine ⟨[], ?_, rfl, ?_⟩
    · show Ends 400 (Sre.forSearch cE text 0 pre.length text.size false) None'
      rw [hz]
      exact eol_none (N := 396)
    · rw [pieces, if_neg (by omega)]; rfl
  | (c, e) :: rows, pre, text, hg, ht => by
    obtain ⟨hc, he⟩ := hg _ (.head _)
    have hg' : ∀ q ∈ rows, GoodRow q := fun q hq => hg q (.tail _ hq)
    have ht1 : text = (pre ++ (c :: (e ++ flat rows))).toArray := by rw [ht]; simp [flat]
    have ht2 : text = ((pre ++ c :: e) ++ flat rows).toArray := by rw [ht1]; simp
    obtain ⟨ms, h1, h2, h3⟩ := eol_rows rows (pre ++ c :: e) text hg' ht2
    have hz : text.size = pre.length + 1 + e.length + (flat rows).length := by rw [ht1]; simp; omega
    have hl : (pre ++ c :: e).length = pre.length + 1 + e.length := by simp; omega
    rw [hl] at h1 h3
    have c0 : text.getD pre.length 0 = c := by rw [ht1]; exact at_text
    have hc' : text.getD pre.length 0 ≠ 10 ∧ text.getD pre.length 0 ≠ 13 := by rw [c0]; rcases hc with rfl | rfl <;> decide
    have key : Ends 400 (Sre.forSearch cE text 0 pre.length text.size false) (Found (pre.length + 1) (pre.length + 1 + e.length)) := by
      rcases he with rfl | rfl | rfl
      · have c1 : text.getD (pre.length + 1) 0 = 10 := by
          have := at_text' (pre := pre ++ [c]) (post := flat rows) (c := 10) (i := pre.length + 1) (by simp)
          rw [ht1]; simpa using this
        exact eol_first (by simp at hz; omega) hc' (.inl c1) fun sn => eol_lf (N := 380) (by simp at hz; omega) c1
      · have c1 : text.getD (pre.length + 1) 0 = 13 := by
          have := at_text' (pre := pre ++ [c]) (post := flat rows) (c := 13) (i := pre.length + 1) (by simp)
          rw [ht1]; simpa using this
        refine eol_first (by simp at hz; omega) hc' (.inr c1) fun sn => eol_cr (N := 380) (by simp at hz; omega) c1 fun hlt => ?_
        cases rows with
        | nil => simp [flat] at hz; omega
        | cons q r =>
          have c2 : text.getD (pre.length + 1 + 1) 0 = q.1 := by
            have := at_text' (pre := pre ++ [c, 13]) (post := q.2 ++ flat r) (c := q.1) (i := pre.length + 1 + 1) (by simp)
            rw [ht1]; simpa [flat] using this
          rw [c2]
          rcases (hg' q (.head _)).1 with h | h <;> rw [h] <;> decide
      · have c1 : text.getD (pre.length + 1) 0 = 13 := by
          have := at_text' (pre := pre ++ [c]) (post := 10 :: flat rows) (c := 13) (i := pre.length + 1) (by simp)
          rw [ht1]; simpa using this
        have c2 : text.getD (pre.length + 1 + 1) 0 = 10 := by
          have := at_text' (pre := pre ++ [c, 13]) (post := flat rows) (c := 10) (i := pre.length + 1 + 1) (by simp)
          rw [ht1]; simpa using this
        exact eol_first (by simp at hz; omega) hc' (.inr c1) fun sn => eol_crlf (N := 380) (by simp at hz; omega) c1 c2
    have hel : 0 < e.length := by rcases he with rfl | rfl | rfl <;> simp
    refine ⟨(pre.length + 1, pre.length + 1 + e.length) :: ms, ⟨key, by omega, h1⟩, by simp [h2], ?_⟩
    rw [pieces, if_pos (by omega), h3, ext_text' (j := pre.length + 1) (pre := pre) (mid := [c]) (post := e ++ flat rows) ht1 rfl rfl]
    rfl
def crs (cs : List Nat) : List Nat := cs.flatMap fun c => [c, 13, 10]
def dots (cs : List Nat) : List Nat := cs.flatMap fun c => (if c = 46 then [46, 46] else [c]) ++ [13, 10]
def DD : Str := ⟨#[46, 46]⟩
theorem chars_app (a b : List Str) : chars (a ++ b) = chars a ++ chars b := by simp [chars]
theorem chars_cons (a : Str) (b : List Str) : chars (a :: b) = a.cps.toList ++ chars b := by simp [chars]
theorem dot_rows : ∀ (cs : List Nat) (pre : List Nat) (st : Nat) (text : Array Nat), (∀ c ∈ cs, c = 46 ∨ c = 97) → text = (pre ++ crs cs).toArray → text.size ≤ 100 → st ≤ pre.length → (∀ i, st ≤ i → i < pre.length → atDot text i = false) → (pre.length = 0 ∨ text.getD (pre.length - 1) 0 = 10) →
    ∃ ms, Finds cD text text.size st ms ∧ ms.length ≤ cs.length ∧ chars (pieces text DD text.size st ms) = pre.drop st ++ dots cs
  | [], pre, st, text, _, ht, hs, hst, hno, _ => by
    have hz : text.size = pre.length := by rw [ht]; simp [crs]
    refine ⟨[], ?_, Nat.le_refl _, ?_⟩
    · show Ends 400 (Sre.forSearch cD text 0 st text.size false) None'
      by_cases h : st < pre.length
      · exact dot_none (by omega) hs fun i h1 h2 => hno i h1 (by omega)
      · have : st = text.size := by omega
        rw [this]
        exact dot_over (N := 396)
    · rw [pieces]
      by_cases h : st < pre.length
      · rw [if_pos (by omega), chars_cons]
        have e : (text.extract st text.size).toList = pre.drop st := by
          rw [ht]; simp [crs]
          exact List.take_of_length_le (by simp)
        show (text.extract st text.size).toList ++ _ = _
        rw [e]; rfl
      · rw [if_neg (by omega), List.drop_eq_nil_of_le (by omega)]; rfl
  | c :: cs, pre, st, text, hg, ht, hs, hst, hno, hpre => by
    have hg' : ∀ q ∈ cs, q = 46 ∨ q = 97 := fun q hq => hg q (.tail _ hq)
    have ht1 : text = (pre ++ c :: 13 :: 10 :: crs cs).toArray := by rw [ht]; simp [crs]
    have ht2 : text = ((pre ++ [c, 13, 10]) ++ crs cs).toArray := by rw [ht1]; simp
    have hl : (pre ++ [c, 13, 10]).length = pre.length + 3 := by simp
    have hz : text.size = pre.length + 3 + (crs cs).length := by rw [ht2]; simp; omega
    have c0 : text.getD pre.length 0 = c := by rw [ht1]; exact at_text
    have c1 : text.getD (pre.length + 1) 0 = 13 := by
      have := at_text' (pre := pre ++ [c]) (post := 10 :: crs cs) (c := 13) (i := pre.length + 1) (by simp)
      rw [ht1]; simpa using this
    have c2 : text.getD (pre.length + 2) 0 = 10 := by
      have := at_text' (pre := pre ++ [c, 13]) (post := crs cs) (c := 10) (i := pre.length + 2) (by simp)
      rw [ht1]; simpa using this
    have n1 : atDot text (pre.length + 1) = false := by unfold atDot; rw [c1]; simp
    have n2 : atDot text (pre.length + 2) = false := by unfold atDot; rw [c2]; simp
    have hlast : (pre ++ [c, 13, 10]).length = 0 ∨ text.getD ((pre ++ [c, 13, 10]).length - 1) 0 = 10 := by
      right; rw [hl]; exact c2
    by_cases h46 : c = 46
    · subst h46
      have hd : atDot text pre.length = true := by
        unfold atDot
        rw [c0]
        rcases hpre with h | h
        · rw [h]; rfl
        · rw [h]; simp
      have e : st + (pre.length - st) = pre.length := by omega
      have key : Ends 400 (Sre.forSearch cD text 0 st text.size false) (Found pre.length (pre.length + 1)) := by
        have := dot_found (text := text) (lim := text.size) (p := st) (d := pre.length - st) (by omega) hs (fun i h1 h2 => hno i h1 (by omega)) (by rw [e]; exact hd)
        rwa [e] at this
      obtain ⟨ms, h1, h2, h3⟩ := dot_rows cs (pre ++ [46, 13, 10]) (pre.length + 1) text hg' ht2 hs (by rw [hl]; omega) (fun i h1 h2 => by
        rw [hl] at h2
        have : i = pre.length + 1 ∨ i = pre.length + 2 := by omega
        rcases this with rfl | rfl
        · exact n1
        · exact n2) hlast
      refine ⟨(pre.length, pre.length + 1) :: ms, ⟨key, by omega, h1⟩, by simp; omega, ?_⟩
      have hdrop : (pre ++ [46, 13, 10]).drop (pre.length + 1) = [13, 10] := by
        rw [List.drop_append]; simp
      rw [pieces, chars_app, chars_cons, h3, hdrop]
      have he : chars (if st < pre.length then [⟨text.extract st pre.length⟩] else []) = pre.drop st := by
        by_cases h : st < pre.length
        · rw [if_pos h, chars_cons]
          have : (text.extract st pre.length).toList = pre.drop st := by
            rw [ht1]; simp
            rw [List.drop_append_of_le_length hst, List.take_append_of_le_length (by simp), List.take_of_length_le (by simp)]
          show (text.extract st pre.length).toList ++ [] = _
          rw [this, List.append_nil]
        · rw [if_neg h, List.drop_eq_nil_of_le (by omega)]; rfl
      rw [he]
      simp [dots, DD]
    · obtain ⟨ms, h1, h2, h3⟩ := dot_rows cs (pre ++ [c, 13, 10]) st text hg' ht2 hs (by rw [hl]; omega) (fun i h1 h2 => by
        rw [hl] at h2
        by_cases hi : i < pre.length
        · exact hno i h1 hi
        · have : i = pre.length ∨ i = pre.length + 1 ∨ i = pre.length + 2 := by omega
          rcases this with rfl | rfl | rfl
          · unfold atDot; rw [c0]; simp [h46]
          · exact n1
          · exact n2) hlast
      refine ⟨ms, h1, by simp; omega, ?_⟩
      rw [h3, List.drop_append_of_le_length hst]
      simp [dots, h46]
end Mine
namespace Mine
section
variable {X : Wd} {t : Bool} {A : Around} {env : Env} {ρ : Vars} {P P0 : Rp} {Ps : List Rp} {pos apos : Pos} {e o : Expr} {rest : List Expr} {name : Str}
theorem Ev.methG {T id : String} (pa : PlainAttrs T) (slot : Slot T name id) (hty : typeOf (.builtin id) = pure (.type "method_descriptor"))
    (hbase : attributeBase o name env (eval o env) = eval o env) (hline : (apos.endLine == pos.line) = true)
    (hfew : ((backTo pos (starEach (e :: rest) env)).all (fun x => !x.1) && (backToKw pos (keywordEach [] env)).all (fun x => x.1.isSome)
      && decide ((e :: rest).length + ([] : List Keyword).length + (if ([] : List Keyword).isEmpty then 0 else 1) < 30)) = true)
    (ho : Ev X t A env ρ o P0) (sp : Stab P0) (hT : ∀ (s : Shared) (v : Value), X.G s.heap → P0 s.heap v → s.TypeIs v T ∧ (∀ a, v = .ref a → ∃ ob, s.heap.get? a = some ob ∧ ob.dict = none))
    (ha : EvL X t A env ρ (e :: rest) Ps) (hop : ∀ s v vs, X.G s.heap → X.tb s.heap → P0 s.heap v → Are s.heap Ps vs → Op X t A s (call (.builtin id) (v :: vs)) P)
    (hs : starEach (e :: rest) env = (false, eval e env) :: starEach rest env) (hpl : (backTo pos (starEach (e :: rest) env)).any (·.1) = false) :
    Ev X t A env ρ (.Call (.Attribute o name apos) (e :: rest) [] pos) P := fun s E G Tb V => by
  refine wpAny_Call_method_lateS hbase hfew hline (wpAny_mono (ho s E G Tb V) (fun v s1 ⟨p, k⟩ => ?_) fun _ _ x => x)
  refine ⟨T, id, pa, slot, hty, (hT s1 v (k.g G) p).1, (hT s1 v (k.g G) p).2, ?_⟩
  refine callWith_builtin hpl ?_
  rw [hs]
  refine evalArgs_plain ?_
  have := ha s1 E pos (k.g G) (k.tb Tb) (V.kn k.kn)
  rw [hs] at this
  refine wpAny_mono this (fun vs s2 ⟨ps, k2⟩ => ?_) fun _ _ x => x
  exact wpAny_mono (hop s2 v vs (k2.g (k.g G)) (k2.tb (k.tb Tb)) (sp _ _ _ k2.kn.sv p) ps E) (fun _ _ ⟨p, k3⟩ => ⟨p, k.trans (k2.trans k3)⟩) fun _ _ x => x
end
def dotOf (c : Nat) : Nat := if ([c] == [49]) = true then 46 else 97
def rowsOf (ms : List Nat) (cs : List Int) : List (Nat × List Nat) := (irange 0 ms.length).map fun j => (dotOf (ms.getD j.toNat 0), (endsOf.getD (((cs.getD j.toNat 0).fdiv 2).fmod 3).toNat ⟨#[]⟩).cps.toList)
theorem row_chars (c : Nat) (e : Int) : (rowOf c e).cps.toList = dotOf c :: (endsOf.getD ((e.fdiv 2).fmod 3).toNat ⟨#[]⟩).cps.toList := by
  unfold rowOf dotOf
  rw [append_chars]
  split <;> rfl
theorem mail_flat (ms : List Nat) (cs : List Int) : (mailOf ms cs).cps.toList = flat (rowsOf ms cs) := by
  unfold mailOf rowsOf flat
  rw [join_chars, chars, List.flatMap_map, List.flatMap_map]
  congr 1
  funext j
  exact row_chars _ _
theorem rows_good (ms : List Nat) (cs : List Int) : ∀ q ∈ rowsOf ms cs, GoodRow q := fun q hq => by
  obtain ⟨j, _, rfl⟩ := List.mem_map.mp hq
  have h3 := fmod3 ((cs.getD j.toNat 0).fdiv 2)
  have : ∀ z, z < 3 → ((endsOf.getD z ⟨#[]⟩).cps.toList = [10] ∨ (endsOf.getD z ⟨#[]⟩).cps.toList = [13] ∨ (endsOf.getD z ⟨#[]⟩).cps.toList = [13, 10]) := by
    intro z hz
    match z, hz with
    | 0, _ => exact .inl rfl
    | 1, _ => exact .inr (.inl rfl)
    | 2, _ => exact .inr (.inr rfl)
  refine ⟨?_, this _ (by omega)⟩
  show dotOf _ = 46 ∨ dotOf _ = 97
  unfold dotOf
  split
  · exact .inl rfl
  · exact .inr rfl
theorem rows_fst (ms : List Nat) (cs : List Int) : (rowsOf ms cs).map (·.1) = ms.map dotOf := by
  unfold rowsOf irange
  rw [List.map_map, List.map_map]
  apply List.ext_getElem
  · simp
  · intro i h1 h2
    simp at h1 h2
    simp [h2]
theorem crs_rows (rows : List (Nat × List Nat)) : chars (rows.flatMap fun q => [⟨#[q.1]⟩, CRLF]) = crs (rows.map (·.1)) := by
  induction rows with
  | nil => rfl
  | cons q r ih => rw [List.flatMap_cons, chars_app, ih]; rfl
theorem flat_len (rows : List (Nat × List Nat)) (h : ∀ q ∈ rows, GoodRow q) : (flat rows).length ≤ 3 * rows.length := by
  induction rows with
  | nil => simp [flat]
  | cons q r ih =>
    have := ih fun x hx => h x (.tail _ hx)
    have h2 := (h q (.head _)).2
    have : (flat (q :: r)).length = 1 + q.2.length + (flat r).length := by simp [flat]; omega
    have : q.2.length ≤ 2 := by rcases h2 with h | h | h <;> rw [h] <;> simp
    simp; omega
theorem crs_len (cs : List Nat) : (crs cs).length = 3 * cs.length := by
  induction cs with
  | nil => rfl
  | cons c r ih => simp [crs] at ih ⊢; omega
def fixS (ms : List Nat) : Str := ⟨(crs (ms.map dotOf)).toArray⟩
def quoS (ms : List Nat) : Str := ⟨(dots (ms.map dotOf)).toArray⟩
theorem fix_finds (ms : List Nat) (cs : List Int) (hm : ms.length ≤ 20) : ∃ m, Finds cE (mailOf ms cs).cps (mailOf ms cs).cps.size 0 m ∧ m.length ≤ 20 ∧ joined (pieces (mailOf ms cs).cps CRLF (mailOf ms cs).cps.size 0 m) = fixS ms ∧ (mailOf ms cs).cps.size ≤ 100 := by
  have ht : (mailOf ms cs).cps = ([] ++ flat (rowsOf ms cs)).toArray := by rw [List.nil_append, ← mail_flat]
  have hlen : (rowsOf ms cs).length = ms.length := by unfold rowsOf; rw [List.length_map, irange_len]; omega
  obtain ⟨m, h1, h2, h3⟩ := eol_rows (rowsOf ms cs) [] _ (rows_good ms cs) ht
  refine ⟨m, h1, by omega, ?_, ?_⟩
  · have h3' : pieces (mailOf ms cs).cps CRLF (mailOf ms cs).cps.size 0 m = _ := h3
    rw [h3']
    apply str_ext
    rw [joined_chars, crs_rows, rows_fst]
    rfl
  · rw [ht]
    have := flat_len _ (rows_good ms cs)
    simp; omega
theorem quo_finds (ms : List Nat) (hm : ms.length ≤ 20) : ∃ m, Finds cD (fixS ms).cps (fixS ms).cps.size 0 m ∧ m.length ≤ 20 ∧ joined (pieces (fixS ms).cps DD (fixS ms).cps.size 0 m) = quoS ms ∧ (fixS ms).cps.size ≤ 100 := by
  have hz : (fixS ms).cps.size ≤ 100 := by
    show (crs (ms.map dotOf)).toArray.size ≤ _
    rw [List.size_toArray, crs_len, List.length_map]; omega
  obtain ⟨m, h1, h2, h3⟩ := dot_rows (ms.map dotOf) [] 0 (fixS ms).cps (fun c hc => by
    obtain ⟨x, _, rfl⟩ := List.mem_map.mp hc
    unfold dotOf
    split
    · exact .inl rfl
    · exact .inr rfl) rfl hz (Nat.le_refl _) (fun i _ h => absurd h (Nat.not_lt_zero _)) (.inl rfl)
  refine ⟨m, h1, by rw [List.length_map] at h2; omega, ?_, hz⟩
  apply str_ext
  rw [joined_chars, h3]
  rfl
section
variable {prog : Program} {w : World} {mg mb : Str → Option Value} {hO : Heap} {t : Bool} {A : Around}
theorem patE {h : Heap} (g : Gs w mg mb h) : IsPat h 90 cE := ⟨_, _, 89, _, _, _, g.k _ _ rfl, rfl, rfl, rfl, rfl, rfl, rfl, g.k _ _ rfl, rfl, by decide +kernel, rfl⟩
theorem patD {h : Heap} (g : Gs w mg mb h) : IsPat h 85 cD := ⟨_, _, 84, _, _, _, g.k _ _ rfl, rfl, rfl, rfl, rfl, rfl, rfl, g.k _ _ rfl, rfl, by decide +kernel, rfl⟩
theorem IsPat.type {s : Shared} {pa : Addr} {code : Array Nat} (hp : IsPat s.heap pa code) : s.TypeIs (.ref pa) "re.Pattern" ∧ (∀ a, Value.ref pa = .ref a → ∃ ob, s.heap.get? a = some ob ∧ ob.dict = none) := by
  obtain ⟨o, vs, ca, co, its, n, h1, h2, h3, _⟩ := hp
  refine ⟨⟨o, h1, h2⟩, fun a q => ?_⟩
  cases q
  exact ⟨o, h1, h3⟩
theorem ev_sub {env : Env} {ρ : Vars} {e1 e2 o : Expr} {apos pos : Pos} {pa : Addr} {code : Array Nat} {r x y : Str} (hpat : ∀ h, Gs w mg mb h → IsPat h pa code) (hr : r.length ≤ 100) (hbs : r.cps.contains 92 = false)
    (hf : ∃ m, Finds code x.cps x.cps.size 0 m ∧ m.length ≤ 20 ∧ joined (pieces x.cps r x.cps.size 0 m) = y ∧ x.cps.size ≤ 100)
    (ho : Ev (WX prog w mg mb hO) t A env ρ o (RIs (.ref pa))) (h1 : Ev (WX prog w mg mb hO) t A env ρ e1 (RStr r)) (h2 : Ev (WX prog w mg mb hO) t A env ρ e2 (RStr x))
    (hbase : attributeBase o "sub" env (eval o env) = eval o env) (hline : (apos.endLine == pos.line) = true)
    (hfew : ((backTo pos (starEach [e1, e2] env)).all (fun x => !x.1) && (backToKw pos (keywordEach [] env)).all (fun x => x.1.isSome)
      && decide ([e1, e2].length + ([] : List Keyword).length + (if ([] : List Keyword).isEmpty then 0 else 1) < 30)) = true)
    (hs : starEach [e1, e2] env = (false, eval e1 env) :: starEach [e2] env) (hs2 : starEach [e2] env = [(false, eval e2 env)]) (hpl : (backTo pos (starEach [e1, e2] env)).any (·.1) = false) :
    Ev (WX prog w mg mb hO) t A env ρ (.Call (.Attribute o "sub" apos) [e1, e2] [] pos) (RStr y) := by
  obtain ⟨m, f1, f2, f3, f4⟩ := hf
  refine Ev.methG (X := WX prog w mg mb hO) (P0 := RIs (.ref pa)) plain_re slot_re_sub type_re_sub hbase hline hfew ho stab_is (fun s v g p => ?_) (EvL.c stab_str h1 (EvL.c1 stab_str h2 hs2) hs) (fun s v vs g _ p a => ?_) hs hpl
  · have p : v = .ref pa := p
    subst p
    exact (hpat _ g).type
  · have p : v = .ref pa := p
    subst p
    obtain ⟨u, v, rfl, q1, q2⟩ := are2 a
    rw [← f3]
    exact op_sub_re (a := u) hr hbs f4 (hpat _ g) f1 (by omega) q1 q2
theorem ev_CRLF (H : Pf w mg mb) {env : Env} {ρ : Vars} {pos : Pos} (hk : env.scope.kind = .function := by rfl) (hx : env.kindOf "CRLF" = some .globalImplicit := by rfl) (hg : env.globals = mainGlobals := by rfl) : Ev (WX prog w mg mb hO) t A env ρ (.Name "CRLF" pos) (RStr CRLF) := by
  have hv : ∃ tk, nsIn (KF w) mainGlobals "CRLF" = some (some (.str CRLF tk)) := ⟨_, rfl⟩
  obtain ⟨tk, hv⟩ := hv
  exact Ev.mono (Ev.global (X := WX prog w mg mb hO) (H.own _ _ hv) hk hx hg rfl) fun h v p => ⟨tk, p⟩
theorem fn_fix (H : Pf w mg mb) (ms : List Nat) (cs : List Int) (hm : ms.length ≤ 20) : Fn (WX prog w mg mb hO) false 1 104 [RStr (mailOf ms cs)] (RStr (fixS ms)) := by
  refine Fn.intro (names := ["data"]) (fun h g => ⟨⟨_, g.k _ _ rfl, rfl⟩, codeRec g rfl rfl rfl rfl⟩) rfl rfl (fun vs hv => ?_) rfl (by decide) (by simpa using stab_str) (fun L x hx => ?_) rfl rfl rfl (fun A s₀ ok G T => ?_)
  · match vs, hv with
    | [v], _ => rfl
  · left
    rw [List.mem_singleton.mp hx]; rfl
  · refine Bd.ret (P := RStr (fixS ms)) ?_ fun v s' k p => ⟨v, rfl, p, k⟩
    exact ev_sub (fun _ => patE) (by decide) (by decide +kernel) (fix_finds ms cs hm) (Ev.global (X := WX prog w mg mb hO) (H.own _ _ (by kernel_rfl)) rfl rfl rfl rfl) (ev_CRLF H) (Ev.nm rfl) rfl rfl rfl rfl rfl rfl
theorem fn_quo (H : Pf w mg mb) (ms : List Nat) (cs : List Int) (hm : ms.length ≤ 20) : Fn (WX prog w mg mb hO) false 1 97 [RStr (mailOf ms cs)] (RStr (quoS ms)) := by
  refine Fn.intro (names := ["data"]) (fun h g => ⟨⟨_, g.k _ _ rfl, rfl⟩, codeRec g rfl rfl rfl rfl⟩) rfl rfl (fun vs hv => ?_) rfl (by decide) (by simpa using stab_str) (fun L x hx => ?_) rfl rfl rfl (fun A s₀ ok G T => ?_)
  · match vs, hv with
    | [v], _ => rfl
  · left
    rw [List.mem_singleton.mp hx]; rfl
  · refine Bd.ret (P := RStr (quoS ms)) ?_ fun v s' k p => ⟨v, rfl, p, k⟩
    exact ev_sub (fun _ => patD) (by decide) (by decide +kernel) (quo_finds ms hm) (Ev.global (X := WX prog w mg mb hO) (H.own _ _ (by kernel_rfl)) rfl rfl rfl rfl) Ev.str
      (ev_sub (fun _ => patE) (by decide) (by decide +kernel) (fix_finds ms cs hm) (Ev.global (X := WX prog w mg mb hO) (H.own _ _ (by kernel_rfl)) rfl rfl rfl rfl) (ev_CRLF H) (Ev.nm rfl) rfl rfl rfl rfl rfl rfl) rfl rfl rfl rfl rfl rfl
end
end Mine
namespace Mine
/-! a def in a def -/
def Fo (F : Addr) (name qual : Str) (params : Arguments) (body : List Stmt) (scope : Scope) (clos : List (Str × Addr)) (h : Heap) : Prop :=
  ∃ c' ctv doc pm, h.get? F = some (fnMade name qual params body scope clos doc pm c' ctv) ∧ h.CodeRec (.ref c') qual
theorem fo_last {F : Addr} {name qual : Str} {params : Arguments} {body : List Stmt} {scope : Scope} {clos : List (Str × Addr)} (h h' : Heap) (k : ∀ b o, h.get? b = some o → Lasting o → h'.get? b = some o) (x : Fo F name qual params body scope clos h) : Fo F name qual params body scope clos h' := by
  obtain ⟨c', ctv, doc, pm, e, c, o, vs, t, q, ho, hd, r⟩ := x
  refine ⟨c', ctv, doc, pm, k _ _ e ⟨trivial, fun ⟨ps, z, _⟩ => (by cases z)⟩, c, o, vs, t, q, k _ _ ho ⟨by rw [hd]; trivial, fun ⟨ps, z, n⟩ => ?_⟩, hd, r⟩
  rw [z] at hd
  cases hd
  exact n _ _ r
def Inv.also (N N' : Inv) : Inv := ⟨fun h => N.p h ∧ N'.p h, fun h h' k x => ⟨N.ok h h' k x.1, N'.ok h h' k x.2⟩⟩
def fnInv (F : Addr) (name qual : Str) (params : Arguments) (body : List Stmt) (scope : Scope) (clos : List (Str × Addr)) : Inv := ⟨Fo F name qual params body scope clos, fo_last⟩
section
variable {prog : Program} {w : World} {mg mb : Str → Option Value} {hO : Heap} {A : Around} {env : Env} {s₀ : Shared} {ρ : Vars} {name qual : Str} {params : Arguments} {body rest : List Stmt} {scope : Scope} {pos : Pos} {clos : List (Str × Addr)} {c P : Addr} {Q : Flow → Shared → Prop}
theorem Bd.defF {N : Inv} (G₀ : Gs w mg mb s₀.heap) (hk : env.scope.kind = .function) (hx : StoreOk env name) (hcode : env.code = .ref c) (C : codeHdIn (KF w) c P = true) (hge : env.globals = mainGlobals) (hcl : closureFor scope env = pure clos) (hq : qualnameIn env name name = qual)
    (hd0 : params.defaults = []) (hk0 : params.kw_defaults = []) (ha : annTrees params none env = []) (htab : ∀ h, Tbs hO h → TabSt P pos qual h)
    (hset : ∀ h h', Tbs hO h → (∀ b o, Ne (α := Nat) b P → h.get? b = some o → IsFld o → h'.get? b = some o) → TabSt P pos qual h' → Tbs hO h')
    (h : ∀ F, Bd (WX prog w mg mb hO) true A env s₀ (N.also (fnInv F name qual params body scope clos)) ((name, RIs (.ref F)) :: ρ) rest Q) :
    Bd (WX prog w mg mb hO) true A env s₀ N ρ (.FunctionDef name params body [] none [] scope none name pos :: rest) Q := fun s E F => by
  refine wpAny_execs_cons (nestDef_K hd0 hk0 ha ?_)
  rw [hq]
  have G : Gs w mg mb s.heap := F.2.2.1
  have T : Tbs hO s.heap := F.2.2.2.1
  have CH : CodeHd s.heap c P := codeHd_of_K G.k C
  have fin : ∀ (h' : Heap) (tk : Nat) (c' : Addr) (ctv doc pm : Value), (WX prog w mg mb hO).K true s { s with heap := h'.push (fnMade name qual params body scope clos doc pm c' ctv), toks := tk } → h'.CodeRec (.ref c') qual →
      wpAny (WX prog w mg mb hO).M A (storeName env name (.ref h'.objs.size)) (fun _ s'' => wpAny (WX prog w mg mb hO).M A (execs rest env) Q E s'') E { s with heap := h'.push (fnMade name qual params body scope clos doc pm c' ctv), toks := tk } := fun h' tk c' ctv doc pm k hrec => by
    have F' := (F.go k).n (N' := N.also (fnInv h'.objs.size name qual params body scope clos)) ⟨(F.go k).2.2.2.2, c', ctv, doc, pm, Heap.get?_push_size _ rfl, hrec.push _⟩
    exact store_f (X := WX prog w mg mb hO) G₀ hk hx F' stab_is (P := RIs (.ref h'.objs.size)) rfl fun s'' F'' _ => h _ s'' E F''
  have hb : ∀ ps, s.heap.get? P = some (tabObj ps) → s.heap.BuiltinsAt mg P ∧ mainGlobals ≠ P := fun ps hP => by
    obtain ⟨bm, ob, b1, b2, b3, b4, b5, b6⟩ := G.bm
    obtain ⟨o, es, ep, e, hd, _⟩ := G.g
    refine ⟨⟨bm, ob, b1, b2, fun q => ?_, fun q => ?_, b3, b4, b5, b6⟩, fun q => ?_⟩
    · rw [q, e] at b3; cases b3; rw [hd] at b6; cases b6
    · rw [q, hP] at b3; cases b3; cases b4
    · rw [q, hP] at e; cases e; cases hd
  rcases htab _ T with hP | ⟨c', hP, hrec⟩
  · refine makeFunction_K (mg := mg) hcl hge G.g hcode CH hP trivial rfl (hb _ hP).2 (hb _ hP).1 fun c' ctv doc h' tk hx hge' hlt hrec htb => fin h' tk c' ctv doc _ ?_ hrec
    have hx' : ∀ b o, Ne (α := Nat) b P → s.heap.get? b = some o → (h'.push (fnMade name qual params body scope clos doc ((mg "__name__").getD .none) c' ctv)).get? b = some o := fun b o hb e => Heap.get?_push_of_some _ (hx b o hb e)
    refine ⟨_, tk, rfl, fun b o e n => ?_, fun T' => hset _ _ T' (fun b o hb e _ => hx' b o hb e) (.inr ⟨c', Heap.get?_push_of_some _ (by simpa using htb), hrec.push _⟩)⟩
    by_cases hbP : b = P
    · subst hbP
      rw [hP] at e; cases e
      exact absurd ⟨#[], rfl, fun q t z => by simp at z⟩ (n rfl)
    · exact hx' b o hbP e
  · refine makeFunction_hit (mg := mg) (cv := .ref c') hcl hge G.g hcode CH hP ?_ ?_ (hb _ hP).1 fun ctv doc h' tk hk' hsz => fin h' tk c' ctv doc _ (Wd.K.heap fun b o e => Heap.get?_push_of_some _ (hk' b o e)) (hrec.keeps hk')
    · show TriplesOk [rawInt pos.line, rawInt pos.col, .ref c']
      exact trivial
    · show codeAmong pos [rawInt pos.line, rawInt pos.col, .ref c'] = _
      simp [codeAmong, rawInt]
theorem look_nd {x : Str} {v : Value} : ∀ {l : List (Str × Value)}, (l.map (·.1)).Nodup → (x, v) ∈ l → l.lookup x = some v
  | (y, u) :: r, hn, hm => by
    obtain ⟨h1, h2⟩ := List.nodup_cons.mp hn
    rw [List.lookup_cons]
    rcases List.mem_cons.mp hm with e | hm
    · cases e; simp
    · have : x ≠ y := fun q => h1 (List.mem_map.mpr ⟨(x, v), hm, q⟩)
      rw [beq_eq_false_iff_ne.mpr this]
      exact look_nd h2 hm
/-- a call of what a def in a def made -/
theorem call_clo {X : Wd} {t : Bool} {n : Nat} {s : Shared} {E : Value → Shared → Prop} {f : Addr} {o : Obj} {fd : FuncData} {names : List Str} {Ps : List Rp} {vs : List Value} {ρc : Vars} {R : Value → Shared → Prop} (ok : Ok (n + 1) A) (G : X.G s.heap) (T : X.tb s.heap)
    (ho : s.heap.get? f = some o) (hd : o.data = .func fd) (hcd : s.heap.CodeRec fd.code fd.qualname) (hbody : fd.body = .stmts body)
    (hbind : bindArgs fd ⟨vs, []⟩ = pure (names.zip vs)) (hp : Are s.heap Ps vs) (hlen : Ps.length = names.length) (hnd : names.Nodup) (hst : ∀ P ∈ Ps, Stab P) (hloc : ∀ x ∈ names, fd.scope.names.lookup x = some .local) (hcell : ∀ x ∈ fd.scope.names, x.2 ≠ .cell)
    (hρ : ∀ x P, ρc.lookup x = some P → Stab P ∧ ∃ c v, fd.closure.lookup x = some c ∧ s.heap.IsCell c (some v) ∧ P s.heap v ∧ fd.scope.names.lookup x = some .free ∧ (x == ("__classdict__" : Str)) = false)
    (hcells : ∀ n c, fd.closure.lookup n = some c → ∃ v, s.heap.IsCell c v) (hap : fd.closure.Pairwise fun x y => x.2 ≠ y.2) (hmem : ∀ n c, (n, c) ∈ fd.closure → ∃ v, s.heap.IsCell c v)
    (hco : fd.scope.isCoroutine = false) (hgen : fd.scope.isGenerator = false) (hk : fd.scope.kind = .function)
    (hnc : ∀ n, fd.scope.names.lookup n ≠ some .cell)
    (h : ∀ A, Ok n A → Bd X t A (callEnv fd s.heap.objs.size f) s Inv.top (names.zip Ps ++ ρc) body (fun fl s' => R (match fl with | .ret v => v | _ => .none) s')) :
    wpAny X.M A (call (.ref f) vs) R E s := by
  have hvl : vs.length = names.length := by rw [← hp.length, hlen]
  have hz : (names.zip vs).map (·.1) = names := List.map_fst_zip (by omega)
  refine wpAny_call (codeAny_call_def (by have := ok.2.1; omega) ho hd (X.hl _ G) hcd hbody (fun _ _ _ _ hq => by rw [hbind]; exact wpAny_pure hq) hcell (fun x hx => hloc x.1 (hz ▸ List.mem_map_of_mem hx)) (fun h₀ hns hk₀ => ?_) hco hgen hk)
  have k : X.K t s { s with heap := h₀, toks := s.toks + (names.zip vs).length } := Wd.K.heap hk₀
  have cellAt : ∀ n, ∃ v, ∀ c, fd.closure.lookup n = some c → h₀.IsCell c v := fun n => by
    cases hc : fd.closure.lookup n with
    | none => exact ⟨none, fun c q => by cases q⟩
    | some c =>
      obtain ⟨v, o', e, r⟩ := hcells n c hc
      exact ⟨v, fun c' q => by cases q; exact ⟨o', hk₀ _ _ e, r⟩⟩
  have hne : ∀ n c, (n, c) ∈ fd.closure → Ne (α := Nat) s.heap.objs.size c := fun n c hm q => by
    obtain ⟨v, o', e, _⟩ := hmem n c hm
    have : LT.lt (α := Nat) c s.heap.objs.size := Heap.lt_size e
    omega
  classical
  have F : Fm X t (callEnv fd s.heap.objs.size f) s _ (fun n => (cellAt n).choose) { s with heap := h₀, toks := s.toks + (names.zip vs).length } := ⟨k, hns, Nat.le_refl _, fun n c e => (cellAt n).choose_spec c e, hap, fun n c hm => ⟨hne n c hm, fun q => absurd q (hnc n)⟩⟩
  have V : Vs (callEnv fd s.heap.objs.size f) (names.zip Ps ++ ρc) h₀ := fun x P e => by
    rw [List.lookup_append] at e
    cases hx : (names.zip Ps).lookup x with
    | some P' =>
      rw [hx] at e
      cases e
      obtain ⟨v, hm, hv⟩ := zip_lookup hp hx
      have sp : Stab P := hst P (List.of_mem_zip (mem_of_lookup hx)).2
      have hxn : x ∈ names := (List.of_mem_zip hm).1
      refine ⟨sp, v, .inl ⟨hloc x hxn, _, hns, ?_⟩, sp _ _ _ k.kn.sv hv⟩
      have hnd' : ((names.zip vs).reverse.map (·.1)).Nodup := by rw [List.map_reverse, hz]; exact List.pairwise_reverse.mpr (hnd.imp Ne.symm)
      exact look_nd hnd' (List.mem_reverse.mpr hm)
    | none =>
      rw [hx] at e
      obtain ⟨sp, c, v, h1, ⟨o', e', r⟩, h3, h4, h5⟩ := hρ x P e
      exact ⟨sp, v, .inr ⟨.inr ⟨h4, h5⟩, c, h1, o', hk₀ _ _ e', r⟩, sp _ _ _ k.kn.sv h3⟩
  exact wpAny_mono (h _ (ok.deeper _) _ _ ⟨⟨_, _, F⟩, V, k.g G, k.tb T, trivial⟩) (fun _ _ z => z) fun _ _ x => x
end
end Mine
namespace Mine
def WI (X : Wd) (I : Heap → Prop) (ok : ∀ h h', Kn true h h' → I h → I h') : Wd :=
  { prog := X.prog, w := X.w, mg := X.mg, mb := X.mb, G := fun h => X.G h ∧ I h, tb := X.tb, hG := fun h h' k g => ⟨X.hG h h' k g.1, ok h h' k g.2⟩, hT := X.hT, hg := fun h g => X.hg h g.1, hb := fun h g => X.hb h g.1, hl := fun h g => X.hl h g.1 }
section
variable {X : Wd} {I : Heap → Prop} {iok : ∀ h h', Kn true h h' → I h → I h'} {t : Bool} {A : Around} {env : Env} {ρ : Vars} {P : Rp} {e : Expr}
theorem Ev.world (h : Ev X t A env ρ e P) : Ev (WI X I iok) t A env ρ e P := fun s E g b v => h s E g.1 b v
theorem Kn.isCell {t : Bool} {h h' : Heap} {c : Addr} {v : Option Value} (k : Kn t h h') (x : h.IsCell c v) : h'.IsCell c v := k.cell x
/-- a call of what a name holds -/
theorem Ev.callV {n : Nat} {f : Addr} {Ps : List Rp} {rest : List Expr} {x : Str} {np pos : Pos} (hf : Ev X t A env ρ (.Name x np) (RIs (.ref f))) (hF : Fn X t n f Ps P) (ok : Ok n A) (hfo : ∀ h, X.G h → ∃ o fd, h.get? f = some o ∧ o.data = .func fd) (ha : EvL X t A env ρ (e :: rest) Ps)
    (hs : starEach (e :: rest) env = (false, eval e env) :: starEach rest env := by rfl) : Ev X t A env ρ (.Call (.Name x np) (e :: rest) [] pos) P := fun s E G T V => by
  obtain ⟨o, fd, ho, hdat⟩ := hfo _ G
  refine Call_ (wpAny_mono (hf s E G T V) (fun v s1 ⟨p, k⟩ => ?_) fun _ _ x => x)
  have p : v = .ref f := p
  subst p
  refine callWith_def hdat (wpAny_mono (ha s1 E pos (k.g G) (k.tb T) (V.kn k.kn)) (fun vs s2 ⟨ps, k2⟩ => ⟨(k.trans k2).kn _ _ ho fun _ ⟨_, q, _⟩ => (by rw [q] at hdat; cases hdat), ?_⟩) fun _ _ x => x) hs
  exact wpAny_mono (hF A s2 E vs ok (k2.g (k.g G)) (k2.tb (k.tb T)) ps) (fun _ _ ⟨p, k3⟩ => ⟨p, k.trans (k2.trans k3)⟩) fun _ _ x => x
theorem Bd.ifRet {N : Inv} {s₀ : Shared} {c : Expr} {body orelse rest : List Stmt} {pos : Pos} {Q : Flow → Shared → Prop} (hc : Tv X t A env ρ c true) (hb : Bd X t A env s₀ N ρ body (fun f s' => ∃ v, f = .ret v ∧ Q (.ret v) s')) : Bd X t A env s₀ N ρ (.If c body orelse pos :: rest) Q := fun s E F =>
  wpAny_execs_cons (wpAny_If (wpAny_mono (hc s E F.2.2.1 F.2.2.2.1 F.2.1) (fun b s' ⟨q, k⟩ => by
    subst q
    show wpAny X.M A (execs body env) _ E s'
    exact wpAny_mono (hb s' E (F.go k)) (fun f s'' ⟨v, e, z⟩ => by subst e; exact z) fun _ _ x => x) fun _ _ x => x))
end
section
variable {X : Wd} {F : Addr} {name qual : Str} {params : Arguments} {body : List Stmt} {scope : Scope} {clos : List (Str × Addr)} {Cl : Heap → Prop}
theorem fo_kn {h h' : Heap} (k : Kn true h h') (x : Fo F name qual params body scope clos h) : Fo F name qual params body scope clos h' := fo_last h h' k.last x
theorem Fn.clo {iok : ∀ h h', Kn true h h' → (Fo F name qual params body scope clos h ∧ Cl h) → (Fo F name qual params body scope clos h' ∧ Cl h')} {n : Nat} {names : List Str} {Ps : List Rp} {ρc : Vars} {P : Rp}
    (hbind : ∀ vs doc pm c' ctv, vs.length = names.length → bindArgs (fnX name qual params body scope clos .none .none doc pm none (.ref c') ctv) ⟨vs, []⟩ = pure (names.zip vs))
    (hlen : Ps.length = names.length) (hnd : names.Nodup) (hst : ∀ P ∈ Ps, Stab P) (hloc : ∀ x ∈ names, scope.names.lookup x = some .local) (hcell : ∀ x ∈ scope.names, x.2 ≠ .cell)
    (hρ : ∀ h, Cl h → ∀ x P, ρc.lookup x = some P → Stab P ∧ ∃ c v, clos.lookup x = some c ∧ h.IsCell c (some v) ∧ P h v ∧ scope.names.lookup x = some .free ∧ (x == ("__classdict__" : Str)) = false)
    (hmem : ∀ h, Cl h → ∀ n c, (n, c) ∈ clos → ∃ v, h.IsCell c v) (hap : clos.Pairwise fun x y => x.2 ≠ y.2)
    (hco : scope.isCoroutine = false) (hgen : scope.isGenerator = false) (hk : scope.kind = .function)
    (h : ∀ A s L cv, Ok n A → (WI X (fun h => Fo F name qual params body scope clos h ∧ Cl h) iok).G s.heap → Bd (WI X (fun h => Fo F name qual params body scope clos h ∧ Cl h) iok) true A (newEnv scope L mainGlobals clos (qual ++ ".<locals>.") (some F) cv none builtinsNs) s Inv.top (names.zip Ps ++ ρc) body
      (fun fl s' => P s'.heap (match fl with | .ret v => v | _ => .none) ∧ (WI X (fun h => Fo F name qual params body scope clos h ∧ Cl h) iok).K true s s')) :
    Fn (WI X (fun h => Fo F name qual params body scope clos h ∧ Cl h) iok) true (n + 1) F Ps P := fun A s E vs ok G T hp => by
  obtain ⟨⟨c', ctv, doc, pm, e, hrec⟩, hc⟩ := G.2
  exact call_clo ok G T e rfl hrec rfl (hbind _ _ _ _ _ (by rw [← hp.length, hlen])) hp hlen hnd hst hloc hcell (hρ _ hc) (fun n c e => hmem _ hc n c (mem_of_lookup e)) hap (hmem _ hc) hco hgen hk (fun n q => hcell (n, .cell) (mem_of_lookup q) rfl)
    fun A' ok' => h A' s s.heap.objs.size (.ref c') ok' G
end
theorem TabSt.other {P P' : Addr} {pos pos' : Pos} {qual qual' : Str} {h h' : Heap} (x : TabSt P pos qual h) (y : TabSt P' pos' qual' h) (hne : P ≠ P') (k : ∀ b o, Ne (α := Nat) b P' → h.get? b = some o → IsFld o → h'.get? b = some o) : TabSt P pos qual h' := by
  rcases x with x | ⟨c', x, hr⟩
  · exact .inl (k _ _ hne x (.inl ⟨_, rfl⟩))
  · obtain ⟨c, o, vs, t, e, ho, hd, r⟩ := hr
    cases e
    refine .inr ⟨c', k _ _ hne x (.inl ⟨_, rfl⟩), c', o, vs, t, rfl, k _ _ (fun q => ?_) ho (.inr ⟨vs, _, _, hd, r⟩), hd, r⟩
    subst q
    rcases y with y | ⟨_, y, _⟩ <;> (rw [ho] at y; cases y; cases hd; simp [rawInt] at r)
/-! _digits2int -/
def d2i (n : Nat) (ds : List Int) : Nat → Nat → Nat → Int
  | 0, _, _ => 0
  | f + 1, L, R => if L + 1 = R then ds.getD L 0 else d2i n ds f ((L + R) / 2) R * 2 ^ (((L + R) / 2 - L) * n) + d2i n ds f L ((L + R) / 2)
def okD (n : Nat) (ds : List Int) : Nat → Nat → Nat → Bool
  | 0, _, _ => false
  | f + 1, L, R => if L + 1 = R then decide (L < ds.length) else
      decide (L ≤ (L + R) / 2) && decide (Builtin.Int.intBits (((L + R) / 2 - L : Nat) : Int) ≤ 64) && okD n ds f ((L + R) / 2) R && okD n ds f L ((L + R) / 2) && decide (Builtin.Int.intBits (d2i n ds f ((L + R) / 2) R) + ((L + R) / 2 - L) * n ≤ 2 ^ 27)
theorem half_eq (L R : Nat) : ((L : Int) + (R : Int)).fdiv (2 ^ 1) = (((L + R) / 2 : Nat) : Int) := by
  rw [Int.fdiv_eq_ediv_of_nonneg _ (by decide)]
  omega
end Mine
namespace Mine
section
variable {X : Wd} {t : Bool} {A : Around} {env : Env} {ρ : Vars} {α : Type} {R : α → Rp} {l : List α} {x : Str} {pos : Pos}
theorem Tv.listT (h : Ev X t A env ρ (.Name x pos) (RList R l)) (hfit : l.length < 1000000) : Tv X t A env ρ (.Name x pos) (!l.isEmpty) := fun s E G T V => by
  refine wpAny_isTrue_value (wpAny_mono (h s E G T V) (fun v s1 ⟨⟨a, vs, e, ⟨n, hl⟩, p⟩, k⟩ => ?_) fun _ _ x => x)
  subst e
  have hz : l.length = vs.size := by rw [p.length]; simp
  refine wpAny_truthy_list (items := vs) ⟨_, hl, rfl, n, rfl⟩ (by omega) ?_
  refine ⟨?_, k.trans Wd.K.tok⟩
  have e : vs.isEmpty = l.isEmpty := by
    unfold Array.isEmpty
    cases l with
    | nil => rw [← hz]; rfl
    | cons y r => rw [← hz]; rfl
  rw [e]
theorem Tv.intT {i : Int} (h : Ev X t A env ρ (.Name x pos) (RInt i)) : Tv X t A env ρ (.Name x pos) (i != 0) := fun s E G T V => by
  refine wpAny_isTrue_value (wpAny_mono (h s E G T V) (fun v s1 ⟨⟨_, e⟩, k⟩ => ?_) fun _ _ x => x)
  subst e
  exact truthy_int ⟨rfl, k⟩
theorem VarIs.cellAt {h : Heap} {v : Value} {c : Addr} (hv : VarIs env h x v) (hl : env.kindOf x = some .cell) (hc : env.cells.lookup x = some c) : h.IsCell c (some v) := by
  rcases hv with ⟨a, _⟩ | ⟨_, c', e, r⟩
  · rw [hl] at a; cases a
  · rw [hc] at e; cases e; exact r
theorem with_fo {E : Value → Shared → Prop} {s : Shared} {β : Type} {m : Sem β} {Q : β → Shared → Prop} {F : Addr} {name qual : Str} {params : Arguments} {body : List Stmt} {scope : Scope} {clos : List (Str × Addr)} {Cl : Heap → Prop}
    (hcl : ∀ h h', Kn true h h' → Cl h → Cl h') (ho : Fo F name qual params body scope clos s.heap) (hc : Cl s.heap) (G : X.G s.heap)
    (h : ∀ (iok : ∀ h h', Kn true h h' → (Fo F name qual params body scope clos h ∧ Cl h) → (Fo F name qual params body scope clos h' ∧ Cl h')), (WI X (fun h => Fo F name qual params body scope clos h ∧ Cl h) iok).G s.heap → wpAny (WI X (fun h => Fo F name qual params body scope clos h ∧ Cl h) iok).M A m Q E s) : wpAny X.M A m Q E s :=
  h (fun h h' k x => ⟨fo_kn k x.1, hcl h h' k x.2⟩) ⟨G, ho, hc⟩
theorem rho3 {x1 x2 x3 x : Str} {P1 P2 P3 P : Rp} (h : ([(x1, P1), (x2, P2), (x3, P3)] : Vars).lookup x = some P) : (x = x1 ∧ P = P1) ∨ (x = x2 ∧ P = P2) ∨ (x = x3 ∧ P = P3) := by
  simp only [List.lookup_cons, List.lookup_nil] at h
  split at h
  · rename_i q; cases h; exact .inl ⟨eq_of_beq q, rfl⟩
  · split at h
    · rename_i q; cases h; exact .inr (.inl ⟨eq_of_beq q, rfl⟩)
    · split at h
      · rename_i q; cases h; exact .inr (.inr ⟨eq_of_beq q, rfl⟩)
      · cases h
theorem Ev.use {e : Expr} {P : Rp} {s : Shared} {E : Value → Shared → Prop} {Q : Value → Shared → Prop} (G : X.G s.heap) (T : X.tb s.heap) (V : Vs env ρ s.heap) (hq : ∀ v s', P s'.heap v → X.K t s s' → Q v s') (h : Ev X t A env ρ e P) : wpAny X.M A (eval e env) Q E s := wpAny_mono (h s E G T V) (fun v s' ⟨p, k⟩ => hq v s' p k) fun _ _ x => x
theorem Tv.to {e : Expr} {q q' : Bool} (h : Tv X t A env ρ e q) (e' : q = q') : Tv X t A env ρ e q' := e' ▸ h
theorem Ev.eq {e : Expr} {P P' : Rp} (h : Ev X t A env ρ e P) (q : P = P') : Ev X t A env ρ e P' := q ▸ h
end
end Mine
namespace Mine
section
variable {prog : Program} {w : World} {mg mb : Str → Option Value} {hO : Heap} {A : Around}
theorem fn_d2i (H : Pf w mg mb) (n : Nat) (ds : List Int) (hl : ds.length ≤ 100) (fuel : Nat) (hok : ds ≠ [] → okD n ds fuel 0 ds.length = true) : Fn (WX prog w mg mb hO) true (fuel + 1) 59 [RList RInt ds, RInt n] (RInt (if ds.isEmpty = true then 0 else d2i n ds fuel 0 ds.length)) := by
  refine Fn.intro (names := ["digits", "n"]) (fun h g => ⟨⟨_, g.k _ _ rfl, rfl⟩, codeRec g rfl rfl rfl rfl⟩) rfl rfl (fun vs hv => ?_) rfl (by decide) (fun P hP => ?_) (fun L x hx => ?_) rfl rfl rfl (fun A s₀ ok G T => ?_)
  · match vs, hv with
    | [v, u], _ => rfl
  · rcases List.mem_cons.mp hP with rfl | hP
    · exact stab_list fun _ => stab_int
    · rw [List.mem_singleton.mp hP]; exact stab_int
  · right
    rcases List.mem_cons.mp hx with rfl | hx
    · exact ⟨rfl, rfl⟩
    · rw [List.mem_singleton.mp hx]; exact ⟨rfl, rfl⟩
  · refine Bd.defF (c := 58) (P := 54) (qual := "_digits2int.<locals>.inner") G rfl (.cel _ rfl rfl) rfl (by kernel_rfl) rfl rfl rfl rfl rfl rfl (fun h t => t.2.1) (fun h h' t k x => ⟨t.1.other t.2.1 (by decide) k, x, t.2.2.keep (.inr rfl) k⟩) fun F => ?_
    refine fun s E St => wpAny_execs_cons (wpAny_Return_some ?_)
    obtain ⟨_, vd, hvd, pd⟩ := St.2.1 "digits" _ rfl
    obtain ⟨_, vn, hvn, pn⟩ := St.2.1 "n" _ rfl
    obtain ⟨_, vi, hvi, pi⟩ := St.2.1 "inner" _ rfl
    have pi : vi = .ref F := pi
    subst pi
    have c1 : s.heap.IsCell (s₀.heap.objs.size + 1) (some vd) := hvd.cellAt rfl rfl
    have c2 : s.heap.IsCell (s₀.heap.objs.size + 1 + 1) (some vn) := hvn.cellAt rfl rfl
    have c3 : s.heap.IsCell (s₀.heap.objs.size + 1 + 1 + 1) (some (.ref F)) := hvi.cellAt rfl rfl
    refine with_fo (Cl := fun h => h.IsCell (s₀.heap.objs.size + 1) (some vd) ∧ RList RInt ds h vd ∧ h.IsCell (s₀.heap.objs.size + 1 + 1) (some vn) ∧ RInt (n : Int) h vn ∧ h.IsCell (s₀.heap.objs.size + 1 + 1 + 1) (some (.ref F)))
      (fun h h' k ⟨a, b, c, d, e⟩ => ⟨k.isCell a, stab_list (fun _ => stab_int) _ _ _ k.sv b, k.isCell c, d, k.isCell e⟩) St.2.2.2.2.2 ⟨c1, pd, c2, pn, c3⟩ St.2.2.1 fun iok G' => ?_
    have inner : ∀ f L R, okD n ds f L R = true → Fn (WI (WX prog w mg mb hO) _ iok) true f F [RInt (L : Nat), RInt (R : Nat)] (RInt (d2i n ds f L R)) := by
      intro f
      induction f with
      | zero => intro L R h; cases h
      | succ f ih =>
        intro L R h
        refine Fn.clo (names := ["L", "R"]) (ρc := [("digits", RList RInt ds), ("inner", RIs (.ref F)), ("n", RInt (n : Int))]) (fun vs doc pm c' ctv hv => ?_) rfl (by decide) (fun P hP => ?_) (fun x hx => ?_) (by decide) (fun h hC x P e => ?_) (fun h hC x c hm => ?_) ?_ rfl rfl rfl fun A' s' L' cv ok' G'' => ?_
        · match vs, hv with
          | [v, u], _ => rfl
        · rcases List.mem_cons.mp hP with rfl | hP
          · exact stab_int
          · rw [List.mem_singleton.mp hP]; exact stab_int
        · rcases List.mem_cons.mp hx with rfl | hx
          · rfl
          · rw [List.mem_singleton.mp hx]; rfl
        · obtain ⟨a, b, c, d, e'⟩ := hC
          rcases rho3 e with ⟨rfl, rfl⟩ | ⟨rfl, rfl⟩ | ⟨rfl, rfl⟩
          · exact ⟨stab_list fun _ => stab_int, _, vd, rfl, a, b, rfl, rfl⟩
          · exact ⟨stab_is, _, _, rfl, e', rfl, rfl, rfl⟩
          · exact ⟨stab_int, _, vn, rfl, c, d, rfl, rfl⟩
        · obtain ⟨a, b, c', d, e'⟩ := hC
          rcases List.mem_cons.mp hm with e | hm
          · cases e; exact ⟨_, c'⟩
          · rcases List.mem_cons.mp hm with e | hm
            · cases e; exact ⟨_, e'⟩
            · cases List.mem_singleton.mp hm; exact ⟨_, a⟩
        · have : List.Pairwise (fun x y : Str × Addr => Ne (α := Nat) x.2 y.2) [(("n" : Str), s₀.heap.objs.size + 1 + 1), ("inner", s₀.heap.objs.size + 1 + 1 + 1), ("digits", s₀.heap.objs.size + 1)] := by
            simp; omega
          exact this
        · have hd2 : d2i n ds (f + 1) L R = if L + 1 = R then ds.getD L 0 else d2i n ds f ((L + R) / 2) R * 2 ^ (((L + R) / 2 - L) * n) + d2i n ds f L ((L + R) / 2) := rfl
          have hok2 : (if L + 1 = R then decide (L < ds.length) else decide (L ≤ (L + R) / 2) && decide (Builtin.Int.intBits (((L + R) / 2 - L : Nat) : Int) ≤ 64) && okD n ds f ((L + R) / 2) R && okD n ds f L ((L + R) / 2) && decide (Builtin.Int.intBits (d2i n ds f ((L + R) / 2) R) + ((L + R) / 2 - L) * n ≤ 2 ^ 27)) = true := h
          rw [hd2]
          have hfo : ∀ h, (WI (WX prog w mg mb hO) _ iok).G h → ∃ o fd, h.get? F = some o ∧ o.data = .func fd := fun h g => by
            obtain ⟨c', ctv, doc, pm, e, _⟩ := g.2.1
            exact ⟨_, _, e, rfl⟩
          by_cases hb : L + 1 = R
          · rw [if_pos hb] at hok2 ⊢
            have hlt : L < ds.length := of_decide_eq_true hok2
            refine Bd.ifRet (Tv.to (Tv.eqI (Ev.addI (Ev.nm rfl) Ev.int) (Ev.nm rfl)) (q' := true) (by simp; omega)) ?_
            refine Bd.ret (P := RInt (ds.getD L 0)) ?_ fun v s' k p => ⟨v, rfl, p, k⟩
            exact Ev.litem (Ev.nm rfl) (Ev.nm rfl) rfl (by rw [List.getD_eq_getElem?_getD, List.getElem?_eq_getElem hlt]; rfl) (by omega) fun _ => stab_int
          · rw [if_neg hb] at hok2 ⊢
            simp only [Bool.and_eq_true, decide_eq_true_eq] at hok2
            obtain ⟨⟨⟨⟨k1, k2⟩, k3⟩, k4⟩, k5⟩ := hok2
            have em : ((((L + R) / 2 : Nat) : Int) - (L : Int)) = (((L + R) / 2 - L : Nat) : Int) := by omega
            refine Bd.skip ?_ (Tv.to (Tv.eqI (Ev.addI (Ev.nm rfl) Ev.int) (Ev.nm rfl)) (q' := false) (by simp; omega))
            refine Bd.assign (P := RInt (((L + R) / 2 : Nat) : Int)) G'' rfl (.loc rfl) (Ev.eq (Ev.shrI (n := 1) rfl (Ev.addI (Ev.nm rfl) (Ev.nm rfl)) Ev.int) (by rw [half_eq])) stab_int rfl ?_
            refine Bd.assign (P := RInt ((((L + R) / 2 - L) * n : Nat) : Int)) G'' rfl (.loc rfl) (Ev.eq (Ev.mulI (IntMulOk.of_left (by rw [em]; exact k2)) (Ev.subI (Ev.nm rfl) (Ev.nm rfl)) (Ev.nm rfl)) (by rw [em, Int.natCast_mul])) stab_int rfl ?_
            refine Bd.ret (P := RInt (d2i n ds f ((L + R) / 2) R * 2 ^ (((L + R) / 2 - L) * n) + d2i n ds f L ((L + R) / 2))) ?_ fun v s' k p => ⟨p, k⟩
            refine Ev.addI (Ev.shlI rfl (by exact_mod_cast k5) (Ev.callV (Ev.nm rfl) (ih _ _ k3) ok' hfo (EvL.c stab_int (Ev.nm rfl) (EvL.c1 stab_int (Ev.nm rfl)))) (Ev.nm rfl)) ?_
            exact Ev.callV (Ev.nm rfl) (ih _ _ k4) ok' hfo (EvL.c stab_int (Ev.nm rfl) (EvL.c1 stab_int (Ev.nm rfl)))
    refine Ev.use (X := WI (WX prog w mg mb hO) _ iok) (t := true) (P := RInt (if ds.isEmpty = true then 0 else d2i n ds fuel 0 ds.length)) G' St.2.2.2.1 St.2.1 (fun v s' p k => ⟨v, rfl, p, St.k.trans k⟩) ?_
    exact
      Ev.ite (q := !ds.isEmpty) (Tv.listT (Ev.nm rfl) (by omega)) (fun q => by
        have hne : ds.isEmpty = false := by simpa using q
        rw [hne, if_neg (by decide)]
        refine Ev.callV (Ev.nm rfl) (inner fuel 0 ds.length (hok fun e => by rw [e] at hne; cases hne)) ok (fun h g => by
          obtain ⟨c', ctv, doc, pm, e, _⟩ := g.2.1
          exact ⟨_, _, e, rfl⟩) (EvL.c stab_int Ev.int (EvL.c1 stab_int (Ev.world (Ev.lenL H (fun _ => stab_int) (by omega) (Ev.nm rfl))))))
        (fun q => by
          have hne : ds.isEmpty = true := by simpa using q
          rw [if_pos hne]
          exact Ev.int)
end
end Mine
namespace Mine
/-- a list, however it was written -/
def RLst (l : List Int) : Rp := fun h v => ∃ a vs, v = .ref a ∧ h.IsList a vs ∧ Paired (fun x u => RInt x h u) l vs.toList
theorem RList.lst {l : List Int} {h : Heap} {v : Value} (x : RList RInt l h v) : RLst l h v := let ⟨a, vs, e, hl, p⟩ := x; ⟨a, vs, e, hl.isList, p⟩
theorem stab_lst {l : List Int} : Stab (RLst l) := fun h h' v k ⟨a, vs, e, ⟨o, ho, hc, n, hd⟩, p⟩ => ⟨a, vs, e, ⟨o, k _ _ ho ⟨⟨_, hc⟩, .inl ⟨_, _, hd⟩⟩, hc, n, hd⟩, p⟩
theorem op_lenI {X : Wd} {t : Bool} {A : Around} {s : Shared} {a : Value} {l : List Int} (hfit : l.length < 1000000) (ha : RLst l s.heap a) : Op X t A s (call (.builtin "len") [a]) (RInt l.length) := fun E => by
  obtain ⟨c, vs, rfl, hl, p⟩ := ha
  have hz : l.length = vs.size := by rw [p.length]; simp
  refine call_len_list (items := vs) hl ?_ ⟨⟨_, by rw [hz]⟩, Wd.K.tok⟩
  omega
theorem Ev.lenI {prog : Program} {w : World} {mg mb : Str → Option Value} {hO : Heap} {t : Bool} {A : Around} {env : Env} {ρ : Vars} {np pos : Pos} {e : Expr} {l : List Int} (H : Pf w mg mb) (hfit : l.length < 1000000) (h : Ev (WX prog w mg mb hO) t A env ρ e (RLst l))
    (hk : env.scope.kind = .function := by rfl) (hx' : env.kindOf "len" = some .globalImplicit := by rfl) (hg : env.globals = mainGlobals := by rfl) (hb : env.builtins = builtinsNs := by rfl)
    (hs : starEach [e] env = [(false, eval e env)] := by rfl) : Ev (WX prog w mg mb hO) t A env ρ (.Call (.Name "len" np) [e] [] pos) (RInt l.length) :=
  Ev.bf H (by decide) bi_len (by decide) (EvL.c1 stab_lst h hs) (fun s vs a => by obtain ⟨v, rfl, p⟩ := are1 a; exact op_lenI hfit p) hk hx' hg hb rfl hs rfl
/-- all but one list is kept -/
def KD (X : Wd) (D : Addr) (s s' : Shared) : Prop := ∃ h' tk, s' = { s with heap := h', toks := tk } ∧ (∀ b o, Ne (α := Nat) b D → s.heap.get? b = some o → ¬ IsTab o → h'.get? b = some o) ∧ (X.tb s.heap → X.tb h')
section
variable {X : Wd} {D : Addr} {s s' s'' : Shared}
theorem KD.trans (x : KD X D s s') (y : KD X D s' s'') : KD X D s s'' := by
  obtain ⟨h', tk, rfl, k, b⟩ := x
  obtain ⟨h'', tk', rfl, k', b'⟩ := y
  exact ⟨h'', tk', rfl, fun c o hc e n => k' c o hc (k c o hc e n) n, fun z => b' (b z)⟩
theorem Wd.K.d (x : X.K true s s') : KD X D s s' := by
  obtain ⟨h', tk, rfl, k, b⟩ := x
  exact ⟨h', tk, rfl, fun c o _ e n => k c o e fun _ => n, b⟩
abbrev hid (D : Addr) (s : Shared) : Shared := { s with heap := hideAll s.heap [D] }
theorem hid_kn : Kn true (hideAll s.heap [D]) s.heap := fun b o e _ => of_hideAll _ e
theorem hid_K (hf : ∀ o, s.heap.get? D = some o → ¬ IsFld o) : X.K true (hid D s) s := ⟨s.heap, s.toks, rfl, hid_kn, fun t => X.hT _ _ (fun b o e _ => of_hideAll _ e) t⟩
theorem hid_of (k : X.K true (hid D s) s') : KD X D s s' ∨ True := .inr trivial
theorem hid_KD (ht : X.tb s.heap → X.tb (hideAll s.heap [D])) (k : X.K true (hid D s) s') : KD X D s s' := by
  obtain ⟨h', tk, rfl, kn, b⟩ := k
  exact ⟨h', tk, rfl, fun c o hc e n => kn c o (hideAll_get _ e (by rw [List.mem_singleton]; exact hc)) fun _ => n, fun t => b (ht t)⟩
theorem hid_tb (hf : ∀ o, s.heap.get? D = some o → ¬ IsFld o) (t : X.tb s.heap) : X.tb (hideAll s.heap [D]) := X.hT _ _ (fun b o e f => hideAll_get _ e (by
  rw [List.mem_singleton]
  intro q
  subst q
  exact hf o e f)) t
variable {N N' : Inv} {env : Env} {s₀ : Shared} {ρ : Vars}
theorem St.base {s₁ : Shared} (k : X.K true s₁ s₀) (hz : LE.le (α := Nat) s₁.heap.objs.size s₀.heap.objs.size) (F : St X true env s₀ N ρ s) : St X true env s₁ N ρ s := by
  obtain ⟨⟨m, cm, f⟩, V, G, T, J⟩ := F
  exact ⟨⟨m, cm, k.trans f.k, f.ns, by have := f.new; omega, f.cell, f.apart, fun n c hm => ⟨(f.above n c hm).1, fun q => by have := (f.above n c hm).2 q; omega⟩⟩, V, G, T, J⟩
/-- the frame lives on, when the one list is written -/
theorem St.goD (F : St X true env s₀ N ρ s) (k : KD X D s s') (h0 : s₀.heap.get? D = none) (G₀ : X.G s₀.heap) (hl : ∃ o, s.heap.get? D = some o ∧ o.cls = .type "list" ∧ ∃ vs n, o.data = .seq vs n) (hfl : ∀ x P, ρ.lookup x = some P → ∀ h h' v, P h v → P h' v) (hN : N'.p s'.heap) : St X true env s₀ N' ρ s' := by
  obtain ⟨⟨m, cm, f⟩, V, G, T, J⟩ := F
  obtain ⟨o, ho, hc, vs, nn, hd⟩ := hl
  obtain ⟨h', tk, rfl, kn, b⟩ := k
  have hne : Ne (α := Nat) env.locals D := fun q => by
    obtain ⟨o', es, ep, e', hd', _⟩ := f.ns
    have q : env.locals = D := q
    rw [q, ho] at e'; cases e'; rw [hd] at hd'; cases hd'
  have hcn : ∀ n c, env.cells.lookup n = some c → Ne (α := Nat) c D := fun n c e q => by
    obtain ⟨o', e', hd'⟩ := f.cell n c e
    have q : c = D := q
    rw [q, ho] at e'; cases e'; rw [hd] at hd'; cases hd'
  have old : ∀ (b : Nat) (o : Obj), s₀.heap.get? b = some o → Ne (α := Nat) b D := fun b o e q => by
    have q : b = D := q
    rw [q, h0] at e; cases e
  have nst : ∀ {o : Obj} {es : Array DictEntry} {ep : Nat}, o.data = .dict es ep → ¬ IsTab o := fun hd ⟨ps, q, _⟩ => by rw [q] at hd; cases hd
  have nsc : ∀ {o : Obj} {v : Option Value}, o.data = .cell v → ¬ IsTab o := fun hd ⟨ps, q, _⟩ => by rw [q] at hd; cases hd
  have k0 : X.K true s₀ { s with heap := h', toks := tk } := by
    obtain ⟨h₁, tk₁, rfl, kn₁, b₁⟩ := f.k
    exact ⟨h', tk, rfl, fun c o e z => kn c o (old c o e) (kn₁ c o e z) (z rfl), fun t => b (b₁ t)⟩
  refine ⟨⟨m, cm, k0, ?_, f.new, fun n c e => ?_, f.apart, f.above⟩, fun x P e => ?_, k0.g G₀, b T, hN⟩
  · obtain ⟨o', es, ep, e', hd', r⟩ := f.ns
    exact ⟨o', es, ep, kn _ _ hne e' (nst hd'), hd', r⟩
  · obtain ⟨o', e', r⟩ := f.cell n c e
    exact ⟨o', kn _ _ (hcn n c e) e' (nsc r), r⟩
  · obtain ⟨sp, v, hv, hp⟩ := V x P e
    refine ⟨sp, v, ?_, hfl x P e _ _ _ hp⟩
    rcases hv with ⟨a, m', ⟨o', es, ep, e', hd', r⟩, e2⟩ | ⟨a, c, e2, o', e', r⟩
    · exact .inl ⟨a, m', ⟨o', es, ep, kn _ _ hne e' (nst hd'), hd', r⟩, e2⟩
    · exact .inr ⟨a, c, e2, o', kn _ _ (hcn _ _ e2) e' (nsc r), r⟩
end
/-! _int2digits -/
def i2d (n : Nat) : Nat → Int → Nat → Nat → List Int → List Int
  | 0, _, _, _, l => l
  | f + 1, x, L, R, l => if L + 1 = R then l.set L x else
      i2d n f (x.fdiv (2 ^ (((L + R) / 2 - L) * n))) ((L + R) / 2) R (i2d n f (Builtin.bitXor x (x.fdiv (2 ^ (((L + R) / 2 - L) * n)) * 2 ^ (((L + R) / 2 - L) * n))) L ((L + R) / 2) l)
def okI (n m : Nat) : Nat → Int → Nat → Nat → Bool
  | 0, _, _, _ => false
  | f + 1, x, L, R => if L + 1 = R then decide (L < m) else
      decide (L ≤ (L + R) / 2) && decide (Builtin.Int.intBits (((L + R) / 2 - L : Nat) : Int) ≤ 64) && okI n m f (x.fdiv (2 ^ (((L + R) / 2 - L) * n))) ((L + R) / 2) R
        && okI n m f (Builtin.bitXor x (x.fdiv (2 ^ (((L + R) / 2 - L) * n)) * 2 ^ (((L + R) / 2 - L) * n))) L ((L + R) / 2) && decide (Builtin.Int.intBits (x.fdiv (2 ^ (((L + R) / 2 - L) * n))) + ((L + R) / 2 - L) * n ≤ 2 ^ 27)
theorem i2d_len (n : Nat) : ∀ f x L R (l : List Int), (i2d n f x L R l).length = l.length
  | 0, _, _, _, l => rfl
  | f + 1, x, L, R, l => by
    unfold i2d
    split
    · rw [List.length_set]
    · rw [i2d_len n f, i2d_len n f]
theorem paired_set {h : Heap} : ∀ {l : List Int} {vs : List Value} (k : Nat) {x : Int} {v : Value}, Paired (fun x u => RInt x h u) l vs → RInt x h v → Paired (fun x u => RInt x h u) (l.set k x) (vs.set k v)
  | _, _, k, x, v, .nil, _ => .nil
  | _, _, 0, x, v, .cons p r, q => .cons q r
  | _, _, k + 1, x, v, .cons p r, q => .cons p (paired_set k r q)
def WasL (D : Addr) (l : List Int) : Inv := ⟨fun h => RLst l h (.ref D), fun h h' k ⟨a, vs, e, ⟨o, ho, hc, n, hd⟩, p⟩ => ⟨a, vs, e, ⟨o, k _ _ ho ⟨by rw [hd]; trivial, fun ⟨ps, q, _⟩ => (by rw [q] at hc; cases hc)⟩, hc, n, hd⟩, p⟩⟩
end Mine
namespace Mine
def FlatP (P : Rp) : Prop := ∀ h h' v, P h v → P h' v
theorem flat_int {i : Int} : FlatP (RInt i) := fun _ _ _ h => h
theorem flat_is {v : Value} : FlatP (RIs v) := fun _ _ _ h => h
section
variable {X : Wd} {D F : Addr} {A : Around} {env : Env} {ρ : Vars} {s₀ : Shared} {l l2 : List Int} {Ps : List Rp} {e : Expr} {rest : List Expr} {stmts : List Stmt} {fn : Str} {np pos pos' : Pos} {Q : Flow → Shared → Prop}
theorem hid_G {s : Shared} (k : X.K true s₀ s) (h0 : s₀.heap.get? D = none) (G₀ : X.G s₀.heap) : X.G (hideAll s.heap [D]) :=
  X.hG _ _ (fun c o e z => hideAll_get _ (k.kn.up c o e z) (by rw [List.mem_singleton]; intro q; rw [q, h0] at e; cases e)) G₀
theorem lst_obj {h : Heap} (x : RLst l h (.ref D)) : ∃ o, h.get? D = some o ∧ o.cls = .type "list" ∧ ∃ vs n, o.data = .seq vs n := by
  obtain ⟨a, vs, e, ⟨o, ho, hc, n, hd⟩, _⟩ := x
  cases e
  exact ⟨o, ho, hc, vs, n, hd⟩
theorem Bd.callD (h0 : s₀.heap.get? D = none) (G₀ : X.G s₀.heap) (hfl : ∀ q ∈ ρ, FlatP q.2) (hf : Ev X true A env ρ (.Name fn np) (RIs (.ref F))) (ha : EvL X true A env ρ (e :: rest) Ps) (hfo : ∀ h, X.G h → ∃ o fd, h.get? F = some o ∧ o.data = .func fd)
    (hcall : ∀ s E vs, X.G s.heap → X.G (hideAll s.heap [D]) → X.tb s.heap → RLst l s.heap (.ref D) → Are s.heap Ps vs → wpAny X.M A (call (.ref F) vs) (fun v s' => v = .none ∧ RLst l2 s'.heap (.ref D) ∧ KD X D s s') E s)
    (h : Bd X true A env s₀ (WasL D l2) ρ stmts Q) (hs : starEach (e :: rest) env = (false, eval e env) :: starEach rest env := by rfl) (hi : interactive env = false := by rfl) (hsw : swapsWith (.Call (.Name fn np) (e :: rest) [] pos) none pos'.line env = pure false := by rfl) :
    Bd X true A env s₀ (WasL D l) ρ (.Expr (.Call (.Name fn np) (e :: rest) [] pos) pos' :: stmts) Q := fun s E St => by
  refine wpAny_execs_cons (wpAny_Expr ?_ hi hsw)
  obtain ⟨o, fd, ho, hdat⟩ := hfo _ St.2.2.1
  refine Call_ (wpAny_mono (hf s E St.2.2.1 St.2.2.2.1 St.2.1) (fun v s1 ⟨p, k⟩ => ?_) fun _ _ x => x)
  have p : v = .ref F := p
  subst p
  have St1 := St.go k
  refine callWith_def hdat (wpAny_mono (ha s1 E pos St1.2.2.1 St1.2.2.2.1 St1.2.1) (fun vs s2 ⟨ps, k2⟩ => ⟨(k.trans k2).kn _ _ ho fun _ ⟨_, q, _⟩ => (by rw [q] at hdat; cases hdat), ?_⟩) fun _ _ x => x) hs
  have St2 := St1.go k2
  refine wpAny_mono (hcall s2 E vs St2.2.2.1 (hid_G St2.k h0 G₀) St2.2.2.2.1 St2.2.2.2.2 ps) (fun v s3 ⟨ev, hl, kd⟩ => ?_) fun _ _ x => x
  subst ev
  exact h s3 E (St2.goD kd h0 G₀ (lst_obj St2.2.2.2.2) (fun x P e => hfl (x, P) (mem_of_lookup e)) hl)
end
section
variable {X : Wd} {D : Addr} {A : Around} {env : Env} {ρ : Vars} {s₀ : Shared} {l : List Int} {stmts : List Stmt} {xd xl xx : Str} {p1 p2 p3 p4 p5 pos : Pos} {Q : Flow → Shared → Prop} {L : Nat} {x : Int}
/-- a_digits[L] = x; return -/
theorem Bd.setD (h0 : s₀.heap.get? D = none) (hL : L < l.length) (hz : l.length < 1000000) (hx : Ev X true A env ρ (.Name xx p1) (RInt x)) (hd : Ev X true A env ρ (.Name xd p2) (RIs (.ref D))) (hl : Ev X true A env ρ (.Name xl p3) (RInt (L : Int)))
    (h : ∀ s', RLst (l.set L x) s'.heap (.ref D) → X.K true s₀ s' → ∃ v, Flow.ret .none = .ret v ∧ Q (.ret v) s') : Bd X true A env s₀ (WasL D l) ρ [.Assign [.Subscript (.Name xd p2) (.Name xl p3) p4] (.Name xx p1) p5, .Return none pos] (fun f s' => ∃ v, f = .ret v ∧ Q (.ret v) s') := fun s E St => by
  refine wpAny_execs_cons (wpAny_Assign_Subscript (wpAny_mono (hx s E St.2.2.1 St.2.2.2.1 St.2.1) (fun v s1 ⟨⟨tv, p⟩, k⟩ => ?_) fun _ _ e => e) rfl)
  have S1 := St.go k
  refine wpAny_mono (hd s1 E S1.2.2.1 S1.2.2.2.1 S1.2.1) (fun dv s2 ⟨pd, k2⟩ => ?_) fun _ _ e => e
  have S2 := S1.go k2
  refine wpAny_mono (hl s2 E S2.2.2.1 S2.2.2.2.1 S2.2.1) (fun lv s3 ⟨⟨tl, pl⟩, k3⟩ => ?_) fun _ _ e => e
  have S3 := S2.go k3
  have pd : dv = .ref D := pd
  subst p pd pl
  obtain ⟨a, vs, e, hL', hp⟩ := S3.2.2.2.2
  cases e
  have hzv : l.length = vs.size := by rw [hp.length]; simp
  refine wpAny_setItem_list hL' (by omega) (by omega) (by omega) fun h' hl' hs' => ?_
  refine wpAny_execs_cons (wpAny_Return_none (h _ ⟨D, _, rfl, hl', ?_⟩ ?_))
  · rw [Int.toNat_natCast, Array.toList_setIfInBounds]
    exact paired_imp (fun _ _ q => q) (paired_set L (hp : Paired (fun x u => RInt x h' u) l vs.toList) ⟨tv, rfl⟩)
  · obtain ⟨h₁, tk₁, e, kn, b⟩ := S3.k
    obtain ⟨o, ho, hc, n, hdd⟩ := hL'
    refine ⟨h', s3.toks, by rw [e], fun c o' e' z => (hs'.2 c fun q => ?_).trans (S3.k.kn c o' e' z), fun t => X.hT _ _ (fun c o' e' fl => (hs'.2 c fun q => ?_).trans e') S3.2.2.2.1⟩
    · subst q; rw [h0] at e'; cases e'
    · subst q
      rw [ho] at e'; cases e'
      obtain ⟨_, q⟩ := fl.fields
      rw [hdd] at q; cases q
end
section
variable {X : Wd} {t : Bool} {A : Around} {env : Env} {ρ : Vars} {N : Inv} {s₀ : Shared} {l : List Int} {x : Str} {e : Expr} {px pos : Pos} {rest : List Stmt} {Q : Flow → Shared → Prop}
/-- a list of numbers that is new -/
def EvF (X : Wd) (A : Around) (env : Env) (ρ : Vars) (e : Expr) (l : List Int) : Prop :=
  ∀ s E, X.G s.heap → X.tb s.heap → Vs env ρ s.heap → wpAny X.M A (eval e env) (fun v s' => ∃ D, v = .ref D ∧ RList RInt l s'.heap v ∧ (∃ s2, X.K false s s2 ∧ LE.le (α := Nat) s2.heap.objs.size D) ∧ X.K false s s') E s
theorem EvF.mulL {e1 e2 : Expr} {m : List Int} {i : Int} {n : Nat} (hn : i = (n : Int)) (hs : n < 1000000) (hz : m.length * n ≤ 2 ^ 24) (h1 : Ev X false A env ρ e1 (RList RInt m)) (h2 : Ev X false A env ρ e2 (RInt i)) : EvF X A env ρ (.BinOp e1 .Mult e2 pos) (List.replicate n m).flatten := fun s E g b v =>
  wpAny_BinOp (wpAny_mono (h1 s E g b v) (fun a s1 ⟨p1, k1⟩ => wpAny_mono (h2 s1 E (k1.g g) (k1.tb b) (v.kn k1.kn)) (fun c s2 ⟨p2, k2⟩ => by
    have p1 := stab_list (fun _ => stab_int) _ _ _ k2.kn.sv p1
    obtain ⟨c', vs, rfl, ⟨k, hl⟩, p⟩ := p1
    obtain ⟨u, rfl⟩ := p2
    subst hn
    have e1 : m.length = vs.size := by rw [p.length]; simp
    have e2 : ((n : Nat) : Int).toNat = n := Int.toNat_natCast n
    have key : RList RInt (List.replicate n m).flatten (s2.heap.push { cls := .type "list", data := .seq (List.foldl (fun x1 x2 => x1 ++ x2) #[] (List.replicate (if vs.isEmpty = true then 0 else ((n : Nat) : Int).toNat) vs)) }) (.ref s2.heap.objs.size) := by
      refine ⟨_, _, rfl, ⟨0, Heap.get?_push_size _ rfl⟩, ?_⟩
      rw [listMul_foldl_if, e2, List.toList_toArray]
      exact paired_imp (fun x u r => stab_int _ _ _ (fun b o e _ => Heap.get?_push_of_some _ e) r) (paired_rep p n)
    exact mulL_base hl (by omega) (by omega) (by rw [e2, ← e1]; exact hz) ⟨_, rfl, key, ⟨s2, k1.trans k2, Nat.le_refl _⟩, (k1.trans k2).trans Wd.K.push⟩) fun _ _ x => x) fun _ _ x => x)
theorem EvF.nil : EvF X A env ρ (.List [] pos) [] := fun s E g b v =>
  PyProof.Rows.List_ (wpAny_mono (EvL.nil (X := X) (t := false) s E pos g b v) (fun vs s1 ⟨ps, k⟩ => by
    cases ps
    exact wpAny_newObj_type ⟨_, rfl, ⟨_, _, rfl, ⟨0, Heap.get?_push_size _ rfl⟩, .nil⟩, ⟨s1, k, Nat.le_refl _⟩, k.trans Wd.K.push⟩ (by show (0 : Nat) ≤ _; omega)) fun _ _ x => x)
theorem Bd.assignD (G₀ : X.G s₀.heap) (hk : env.scope.kind = .function) (hx : StoreOk env x) (he : EvF X A env ρ e l) (hsw : swapsWith e (some (.Name x px)) pos.line env = pure false)
    (h : ∀ D, s₀.heap.get? D = none → Bd X t A env s₀ (N.also (WasL D l)) ((x, RIs (.ref D)) :: ρ) rest Q) : Bd X t A env s₀ N ρ (.Assign [.Name x px] e pos :: rest) Q := fun s E F =>
  wpAny_execs_cons (wpAny_Assign_Name (wpAny_mono (he s E F.2.2.1 F.2.2.2.1 F.2.1) (fun v s' ⟨D, ev, p, ⟨s2, k2, hD⟩, k⟩ => by
    subst ev
    have F2 := (F.go k.lift).n (N' := N.also (WasL D l)) ⟨(F.go k.lift).2.2.2.2, p.lst⟩
    have hfree : s₀.heap.get? D = none := by
      obtain ⟨_, _, f⟩ := F.1
      have h1 := f.new
      have h2 : LT.lt (α := Nat) env.locals s2.heap.objs.size := (k2.kn.ns f.ns).lt
      exact Heap.get?_none_of_le (by show LE.le (α := Nat) _ _; omega)
    exact store_f G₀ hk hx F2 stab_is (P := RIs (.ref D)) rfl fun s'' F' _ => h D hfree s'' E F') fun _ _ x => x) hsw)
theorem Bd.run {ss : List Stmt} {s : Shared} {E : Value → Shared → Prop} (F : St X t env s₀ N ρ s) (h : Bd X t A env s₀ N ρ ss Q) : wpAny X.M A (execs ss env) Q E s := h s E F
theorem Bd.retD {D : Addr} {x : Str} {p1 pos : Pos} (hx : ρ.lookup x = some (RIs (.ref D))) (h : ∀ v s', X.K t s₀ s' → RLst l s'.heap v → Q (.ret v) s') (hk : env.scope.kind = .function := by rfl) (hd : (x == ("__debug__" : Str)) = false := by rfl) : Bd X t A env s₀ (WasL D l) ρ (.Return (some (.Name x p1)) pos :: rest) Q := fun s E F =>
  wpAny_execs_cons (wpAny_Return_some (wpAny_mono ((Ev.nm hx hk hd : Ev X t A env ρ (.Name x p1) (RIs (.ref D))) s E F.2.2.1 F.2.2.2.1 F.2.1) (fun v s' ⟨p, k⟩ => by
    have p : v = .ref D := p
    subst p
    exact h _ s' (F.k.trans k) (stab_lst _ _ _ k.kn.sv F.2.2.2.2)) fun _ _ x => x))
theorem hid_fo {F D : Addr} {name qual : Str} {params : Arguments} {body : List Stmt} {scope : Scope} {clos : List (Str × Addr)} {h : Heap} (hl : ∃ o, h.get? D = some o ∧ o.cls = .type "list" ∧ ∃ vs n, o.data = .seq vs n) (x : Fo F name qual params body scope clos h) : Fo F name qual params body scope clos (hideAll h [D]) := by
  obtain ⟨o, ho, hc, vs, nn, hd⟩ := hl
  obtain ⟨c', ctv, doc, pm, e, c, oc, vs', t, q, hoc, hdc, r⟩ := x
  refine ⟨c', ctv, doc, pm, hideAll_get _ e (by rw [List.mem_singleton]; intro q; rw [q, ho] at e; cases e; cases hd), c, oc, vs', t, q, hideAll_get _ hoc (by rw [List.mem_singleton]; intro q; rw [q, ho] at hoc; cases hoc; rw [hd] at hdc; cases hdc), hdc, r⟩
theorem hid_cell {D c : Addr} {v : Option Value} {h : Heap} (hl : ∃ o, h.get? D = some o ∧ o.cls = .type "list" ∧ ∃ vs n, o.data = .seq vs n) (x : h.IsCell c v) : (hideAll h [D]).IsCell c v := by
  obtain ⟨o, ho, hc, vs, nn, hd⟩ := hl
  obtain ⟨oc, e, r⟩ := x
  exact ⟨oc, hideAll_get _ e (by rw [List.mem_singleton]; intro q; rw [q, ho] at e; cases e; rw [hd] at r; cases r), r⟩
end
end Mine
namespace Mine
def mOf (a : Int) (n : Nat) : Nat := (Builtin.Int.intBits a + n - 1) / n
def i2dAll (n fuel : Nat) (a : Int) : List Int := if a = 0 then List.replicate (mOf a n) 0 else i2d n fuel a 0 (mOf a n) (List.replicate (mOf a n) 0)
theorem rep_flat (k : Nat) : (List.replicate k [(0 : Int)]).flatten = List.replicate k 0 := by
  induction k with
  | zero => rfl
  | succ k ih => rw [List.replicate_succ, List.flatten_cons, ih]; rfl
theorem mOf_eq (a : Int) (n : Nat) (hn : 1 ≤ n) : ((Builtin.Int.intBits a : Int) + (n : Int) - 1).fdiv (n : Int) = ((mOf a n : Nat) : Int) := by
  have e : (Builtin.Int.intBits a : Int) + (n : Int) - 1 = ((Builtin.Int.intBits a + n - 1 : Nat) : Int) := by omega
  rw [e, Int.fdiv_eq_ediv_of_nonneg _ (by omega)]
  exact (Int.natCast_ediv _ _).symm
theorem Ev.bitlen {X : Wd} {t : Bool} {A : Around} {env : Env} {ρ : Vars} {o : Expr} {apos pos : Pos} {i : Int} (h : Ev X t A env ρ o (RInt i)) (hbase : attributeBase o "bit_length" env (eval o env) = eval o env := by rfl) (hline : (apos.endLine == pos.line) = true := by rfl) : Ev X t A env ρ (.Call (.Attribute o "bit_length" apos) [] [] pos) (RInt (Builtin.Int.intBits i)) :=
  Ev.meth0 (T := "int") F.plainAttrs_int F.slot_int_bit_length rfl hbase hline h (fun s v ⟨_, p⟩ => by subst p; exact ⟨typeIs_int _ _ _, fun a q => by cases q⟩) fun s v _ _ p => op_bitlen p
section
variable {prog : Program} {w : World} {mg mb : Str → Option Value} {hO : Heap} {A : Around}
theorem fn_i2d (H : Pf w mg mb) (n : Nat) (hn : 1 ≤ n) (hn2 : n < 1000000) (a : Int) (hm : mOf a n ≤ 1000) (hdiv : Builtin.divisionGoesByPylong ((Builtin.Int.intBits a : Int) + (n : Int) - 1) (n : Int) = false) (fuel : Nat) (hok : a ≠ 0 → okI n (mOf a n) fuel a 0 (mOf a n) = true) : Fn (WX prog w mg mb hO) true (fuel + 1) 52 [RInt a, RInt n] (RLst (i2dAll n fuel a)) := by
  refine Fn.intro (names := ["a", "n"]) (fun h g => ⟨⟨_, g.k _ _ rfl, rfl⟩, codeRec g rfl rfl rfl rfl⟩) rfl rfl (fun vs hv => ?_) rfl (by decide) (fun P hP => ?_) (fun L x hx => ?_) rfl rfl rfl (fun A s₀ ok G T => ?_)
  · match vs, hv with
    | [v, u], _ => rfl
  · rcases List.mem_cons.mp hP with rfl | hP
    · exact stab_int
    · rw [List.mem_singleton.mp hP]; exact stab_int
  · rcases List.mem_cons.mp hx with rfl | hx
    · exact .inl rfl
    · rw [List.mem_singleton.mp hx]; exact .inr ⟨rfl, rfl⟩
  · have hz := sizeLine_ge
    refine Bd.assignD (l := List.replicate (mOf a n) 0) G rfl (.cel _ rfl rfl) ?_ rfl fun D hD => ?_
    · rw [← rep_flat]
      refine EvF.mulL (n := mOf a n) rfl (by omega) (by simp; omega) (Ev.list (l := [(0 : Int)]) (fun _ => stab_int) (by show 1 ≤ _; omega) (EvL.c1 stab_int Ev.int)) ?_
      refine Ev.mono (Ev.fdivI (by omega) hdiv (Ev.subI (Ev.addI (Ev.bitlen (Ev.nm rfl)) (Ev.nm rfl)) Ev.int) (Ev.nm rfl)) fun h v p => ?_
      rw [← mOf_eq a n hn]; exact p
    refine Bd.defF (c := 51) (P := 47) (qual := "_int2digits.<locals>.inner") G rfl (.cel _ rfl rfl) rfl (by kernel_rfl) rfl rfl rfl rfl rfl rfl (fun h t => t.1) (fun h h' t k x => ⟨x, t.2.1.other t.1 (by decide) k, t.2.2.keep (.inl rfl) k⟩) fun F => ?_
    refine fun s E St => ?_
    obtain ⟨_, vn, hvn, pn⟩ := St.2.1 "n" _ rfl
    obtain ⟨_, vd, hvd, pd⟩ := St.2.1 "a_digits" _ rfl
    obtain ⟨_, vi, hvi, pi⟩ := St.2.1 "inner" _ rfl
    have pi : vi = .ref F := pi
    have pd : vd = .ref D := pd
    subst pi pd
    have c1 : s.heap.IsCell (s₀.heap.objs.size + 1) (some vn) := hvn.cellAt rfl rfl
    have c2 : s.heap.IsCell (s₀.heap.objs.size + 1 + 1) (some (.ref D)) := hvd.cellAt rfl rfl
    have c3 : s.heap.IsCell (s₀.heap.objs.size + 1 + 1 + 1) (some (.ref F)) := hvi.cellAt rfl rfl
    refine with_fo (Cl := fun h => h.IsCell (s₀.heap.objs.size + 1) (some vn) ∧ RInt (n : Int) h vn ∧ h.IsCell (s₀.heap.objs.size + 1 + 1) (some (.ref D)) ∧ h.IsCell (s₀.heap.objs.size + 1 + 1 + 1) (some (.ref F)))
      (fun h h' k ⟨a, b, c, d⟩ => ⟨k.isCell a, b, k.isCell c, k.isCell d⟩) St.2.2.2.2.2 ⟨c1, pn, c2, c3⟩ St.2.2.1 fun iok G' => ?_
    have hfo : ∀ h, (WI (WX prog w mg mb hO) _ iok).G h → ∃ o fd, h.get? F = some o ∧ o.data = .func fd := fun h g => by
      obtain ⟨c', ctv, doc, pm, e, _⟩ := g.2.1
      exact ⟨_, _, e, rfl⟩
    have inner : ∀ f (x : Int) L R, okI n (mOf a n) f x L R = true → ∀ A s E vs (l : List Int), Ok f A → (WI (WX prog w mg mb hO) _ iok).G s.heap → (WI (WX prog w mg mb hO) _ iok).G (hideAll s.heap [D]) → (WI (WX prog w mg mb hO) _ iok).tb s.heap → RLst l s.heap (.ref D) → l.length = mOf a n → Are s.heap [RInt x, RInt (L : Nat), RInt (R : Nat)] vs →
        wpAny (WI (WX prog w mg mb hO) _ iok).M A (call (.ref F) vs) (fun v s' => v = .none ∧ RLst (i2d n f x L R l) s'.heap (.ref D) ∧ KD (WI (WX prog w mg mb hO) _ iok) D s s') E s := by
      intro f
      induction f with
      | zero => intro x L R h; cases h
      | succ f ih =>
        intro x L R h A s E vs l ok Gs Gh Ts hl hlen ha
        obtain ⟨⟨c', ctv, doc, pm, e, hrec⟩, hC⟩ := Gs.2
        have hvs : ∃ u v y, vs = [u, v, y] := by
          cases ha with
          | cons p r => obtain ⟨v, y, rfl, _⟩ := are2 r; exact ⟨_, v, y, rfl⟩
        have hnf : ∀ o, s.heap.get? D = some o → ¬ IsFld o := fun o ho q => by
          obtain ⟨o', ho', hc, vs', nn, hd⟩ := lst_obj hl
          rw [ho] at ho'; cases ho'
          obtain ⟨_, q⟩ := q.fields
          rw [hd] at q; cases q
        refine call_clo (X := WI (WX prog w mg mb hO) _ iok) (t := true) (names := ["x", "L", "R"]) (ρc := [("a_digits", RIs (.ref D)), ("inner", RIs (.ref F)), ("n", RInt (n : Int))]) ok Gs Ts e rfl hrec rfl ?_ ha rfl (by decide) (fun P hP => ?_) (fun x hx => ?_) ?_ (fun x P e => ?_) (fun x c hm => ?_) ?_ (fun x c hm => ?_) rfl rfl rfl (fun x q => ?_) fun A' ok' s1 E1 St1 => ?_
        · obtain ⟨u, v, y, rfl⟩ := hvs
          rfl
        · rcases List.mem_cons.mp hP with rfl | hP
          · exact stab_int
          · rcases List.mem_cons.mp hP with rfl | hP
            · exact stab_int
            · rw [List.mem_singleton.mp hP]; exact stab_int
        · rcases List.mem_cons.mp hx with rfl | hx
          · rfl
          · rcases List.mem_cons.mp hx with rfl | hx
            · rfl
            · rw [List.mem_singleton.mp hx]; rfl
        · dsimp only [fnX]; decide
        · obtain ⟨a, b, c, d⟩ := hC
          rcases rho3 e with ⟨rfl, rfl⟩ | ⟨rfl, rfl⟩ | ⟨rfl, rfl⟩
          · exact ⟨stab_is, _, _, rfl, c, rfl, rfl, rfl⟩
          · exact ⟨stab_is, _, _, rfl, d, rfl, rfl, rfl⟩
          · exact ⟨stab_int, _, vn, rfl, a, b, rfl, rfl⟩
        · obtain ⟨a, b, c, d⟩ := hC
          rcases List.mem_cons.mp (mem_of_lookup hm) with e | hm
          · cases e; exact ⟨_, a⟩
          · rcases List.mem_cons.mp hm with e | hm
            · cases e; exact ⟨_, d⟩
            · cases List.mem_singleton.mp hm; exact ⟨_, c⟩
        · have : List.Pairwise (fun x y : Str × Addr => Ne (α := Nat) x.2 y.2) [(("n" : Str), s₀.heap.objs.size + 1), ("inner", s₀.heap.objs.size + 1 + 1 + 1), ("a_digits", s₀.heap.objs.size + 1 + 1)] := by
            simp
          exact this
        · obtain ⟨a, b, c, d⟩ := hC
          rcases List.mem_cons.mp hm with e | hm
          · cases e; exact ⟨_, a⟩
          · rcases List.mem_cons.mp hm with e | hm
            · cases e; exact ⟨_, d⟩
            · cases List.mem_singleton.mp hm; exact ⟨_, c⟩
        · have := mem_of_lookup q
          revert this
          dsimp only [fnX]
          simp
        · have kH : (WI (WX prog w mg mb hO) _ iok).K true (hid D s) s := hid_K hnf
          have hD0 : (hid D s).heap.get? D = none := hideAll_none _ (.head _)
          have St2 := St1.base (s₁ := hid D s) kH (by show LE.le (α := Nat) (hideAll s.heap [D]).objs.size _; rw [hideAll_size]; exact Nat.le_refl _)
          have St3 := St2.n (N' := WasL D l) (stab_lst _ _ _ St1.k.kn.sv hl)
          clear St1 St2
          have ri : i2d n (f + 1) x L R l = if L + 1 = R then l.set L x else i2d n f (x.fdiv (2 ^ (((L + R) / 2 - L) * n))) ((L + R) / 2) R (i2d n f (Builtin.bitXor x (x.fdiv (2 ^ (((L + R) / 2 - L) * n)) * 2 ^ (((L + R) / 2 - L) * n))) L ((L + R) / 2) l) := rfl
          have hok2 : (if L + 1 = R then decide (L < mOf a n) else decide (L ≤ (L + R) / 2) && decide (Builtin.Int.intBits (((L + R) / 2 - L : Nat) : Int) ≤ 64) && okI n (mOf a n) f (x.fdiv (2 ^ (((L + R) / 2 - L) * n))) ((L + R) / 2) R
              && okI n (mOf a n) f (Builtin.bitXor x (x.fdiv (2 ^ (((L + R) / 2 - L) * n)) * 2 ^ (((L + R) / 2 - L) * n))) L ((L + R) / 2) && decide (Builtin.Int.intBits (x.fdiv (2 ^ (((L + R) / 2 - L) * n))) + ((L + R) / 2 - L) * n ≤ 2 ^ 27)) = true := h
          have fin : ∀ (v : Value) s', v = .none → RLst (i2d n (f + 1) x L R l) s'.heap (.ref D) → (WI (WX prog w mg mb hO) _ iok).K true (hid D s) s' → v = .none ∧ RLst (i2d n (f + 1) x L R l) s'.heap (.ref D) ∧ KD (WI (WX prog w mg mb hO) _ iok) D s s' := fun v s' e p k => ⟨e, p, hid_KD (hid_tb hnf) k⟩
          refine wpAny_mono (?_ : wpAny _ _ _ (fun fl s' => (match fl with | .ret v => v | _ => .none) = Value.none ∧ RLst (i2d n (f + 1) x L R l) s'.heap (.ref D) ∧ (WI (WX prog w mg mb hO) _ iok).K true (hid D s) s') _ _) (fun fl s' ⟨e, p, k⟩ => fin _ s' e p k) fun _ _ x => x
          revert s1 E1
          show Bd (WI (WX prog w mg mb hO) _ iok) true A' _ (hid D s) (WasL D l) _ _ _
          rw [ri]
          by_cases hb : L + 1 = R
          · rw [if_pos hb] at hok2 ⊢
            have hlt : L < mOf a n := of_decide_eq_true hok2
            refine Bd.ifRet (Tv.to (Tv.eqI (Ev.addI (Ev.nm rfl) Ev.int) (Ev.nm rfl)) (q' := true) (by simp; omega)) ?_
            refine Bd.setD (L := L) (x := x) (l := l) (Q := fun fl s' => (match fl with | .ret v => v | _ => .none) = Value.none ∧ RLst (l.set L x) s'.heap (.ref D) ∧ (WI (WX prog w mg mb hO) _ iok).K true (hid D s) s') hD0 (by omega) (by omega) (Ev.nm rfl) (Ev.nm rfl) (Ev.nm rfl) fun s' p k => ⟨.none, rfl, rfl, p, k⟩
          · rw [if_neg hb] at hok2 ⊢
            simp only [Bool.and_eq_true, decide_eq_true_eq] at hok2
            obtain ⟨⟨⟨⟨k1, k2⟩, k3⟩, k4⟩, k5⟩ := hok2
            have em : ((((L + R) / 2 : Nat) : Int) - (L : Int)) = (((L + R) / 2 - L : Nat) : Int) := by omega
            refine Bd.skip ?_ (Tv.to (Tv.eqI (Ev.addI (Ev.nm rfl) Ev.int) (Ev.nm rfl)) (q' := false) (by simp; omega))
            refine Bd.assign (P := RInt (((L + R) / 2 : Nat) : Int)) Gh rfl (.loc rfl) (Ev.eq (Ev.shrI (n := 1) rfl (Ev.addI (Ev.nm rfl) (Ev.nm rfl)) Ev.int) (by rw [half_eq])) stab_int rfl ?_
            refine Bd.assign (P := RInt ((((L + R) / 2 - L) * n : Nat) : Int)) Gh rfl (.loc rfl) (Ev.eq (Ev.mulI (IntMulOk.of_left (by rw [em]; exact k2)) (Ev.subI (Ev.nm rfl) (Ev.nm rfl)) (Ev.nm rfl)) (by rw [em, Int.natCast_mul])) stab_int rfl ?_
            refine Bd.assign (P := RInt (x.fdiv (2 ^ (((L + R) / 2 - L) * n)))) Gh rfl (.loc rfl) (Ev.shrI rfl (Ev.nm rfl) (Ev.nm rfl)) stab_int rfl ?_
            refine Bd.assign (P := RInt (Builtin.bitXor x (x.fdiv (2 ^ (((L + R) / 2 - L) * n)) * 2 ^ (((L + R) / 2 - L) * n)))) Gh rfl (.loc rfl) (Ev.xorI (Ev.nm rfl) (Ev.shlI rfl (by exact_mod_cast k5) (Ev.nm rfl) (Ev.nm rfl))) stab_int rfl ?_
            have fl : ∀ q ∈ ([("lower", RInt (Builtin.bitXor x (x.fdiv (2 ^ (((L + R) / 2 - L) * n)) * 2 ^ (((L + R) / 2 - L) * n)))), ("upper", RInt (x.fdiv (2 ^ (((L + R) / 2 - L) * n)))), ("shift", RInt ((((L + R) / 2 - L) * n : Nat) : Int)), ("mid", RInt (((L + R) / 2 : Nat) : Int)), ("x", RInt x), ("L", RInt (L : Nat)), ("R", RInt (R : Nat)), ("a_digits", RIs (.ref D)), ("inner", RIs (.ref F)), ("n", RInt (n : Int))] : Vars), FlatP q.2 := by
              simp only [List.mem_cons, List.not_mem_nil, or_false]
              rintro q (rfl | rfl | rfl | rfl | rfl | rfl | rfl | rfl | rfl | rfl) <;> first | exact flat_int | exact flat_is
            refine Bd.callD (F := F) (l2 := i2d n f (Builtin.bitXor x (x.fdiv (2 ^ (((L + R) / 2 - L) * n)) * 2 ^ (((L + R) / 2 - L) * n))) L ((L + R) / 2) l) hD0 Gh fl (Ev.nm rfl) (EvL.c stab_int (Ev.nm rfl) (EvL.c stab_int (Ev.nm rfl) (EvL.c1 stab_int (Ev.nm rfl)))) hfo
              (fun s E vs g1 g2 t1 p1 a1 => ih _ _ _ k4 A' s E vs l ok' g1 g2 t1 p1 hlen a1) ?_
            refine Bd.callD (F := F) (l2 := i2d n f (x.fdiv (2 ^ (((L + R) / 2 - L) * n))) ((L + R) / 2) R (i2d n f (Builtin.bitXor x (x.fdiv (2 ^ (((L + R) / 2 - L) * n)) * 2 ^ (((L + R) / 2 - L) * n))) L ((L + R) / 2) l)) hD0 Gh fl (Ev.nm rfl) (EvL.c stab_int (Ev.nm rfl) (EvL.c stab_int (Ev.nm rfl) (EvL.c1 stab_int (Ev.nm rfl)))) hfo
              (fun s E vs g1 g2 t1 p1 a1 => ih _ _ _ k3 A' s E vs _ ok' g1 g2 t1 p1 (by rw [i2d_len]; exact hlen) a1) ?_
            exact Bd.nil fun s' F' => ⟨rfl, F'.2.2.2.2, F'.k⟩
    have fl4 : ∀ q ∈ ([("inner", RIs (.ref F)), ("a_digits", RIs (.ref D)), ("a", RInt a), ("n", RInt (n : Int))] : Vars), FlatP q.2 := by
      simp only [List.mem_cons, List.not_mem_nil, or_false]
      rintro q (rfl | rfl | rfl | rfl) <;> first | exact flat_int | exact flat_is
    refine wpAny_execs_cons (wpAny_If (wpAny_mono ((Tv.intT (X := WX prog w mg mb hO) (t := true) (i := a) (Ev.nm rfl)) s E St.2.2.1 St.2.2.2.1 St.2.1) (fun b s1 ⟨q, k⟩ => ?_) fun _ _ x => x))
    have S1 := St.go k
    by_cases ha : a = 0
    · have e0 : b = false := by rw [q, ha]; rfl
      subst e0
      refine wpAny_execs_nil ?_
      have hr : i2dAll n fuel a = List.replicate (mOf a n) 0 := if_pos ha
      rw [hr]
      exact Bd.run (X := WX prog w mg mb hO) (t := true) (S1.n S1.2.2.2.2.1.2) (Bd.retD rfl (fun v s' k p => ⟨v, rfl, p, k⟩))
    · have e1 : b = true := by rw [q]; simpa using ha
      subst e1
      have hr : i2dAll n fuel a = i2d n fuel a 0 (mOf a n) (List.replicate (mOf a n) 0) := if_neg ha
      rw [hr]
      show wpAny _ A (execs [_] _) _ _ _
      refine wpAny_execs_cons (wpAny_Expr ?_ rfl rfl)
      refine Call_ (wpAny_mono ((Ev.nm rfl : Ev (WX prog w mg mb hO) true A _ _ (.Name "inner" _) (RIs (.ref F))) s1 E S1.2.2.1 S1.2.2.2.1 S1.2.1) (fun v s2 ⟨p, k2⟩ => ?_) fun _ _ x => x)
      have p : v = .ref F := p
      subst p
      have S2 := S1.go k2
      obtain ⟨o, fd, ho, hdat⟩ : ∃ o fd, s2.heap.get? F = some o ∧ o.data = .func fd := by
        obtain ⟨c', ctv, doc, pm, ef, hrec⟩ := S2.2.2.2.2.2
        exact ⟨_, _, ef, rfl⟩
      obtain ⟨_, vd2, hvd2, pd2⟩ := S2.2.1 "a_digits" _ rfl
      have pd2 : vd2 = .ref D := pd2
      subst pd2
      have V2 := vs_cons (stab_lst (l := List.replicate (mOf a n) 0)) hvd2 S2.2.2.2.2.1.2 S2.2.1
      have hlz : (List.replicate (mOf a n) (0 : Int)).length = mOf a n := List.length_replicate ..
      refine callWith_def hdat (wpAny_mono ((EvL.c stab_int (Ev.nm rfl) (EvL.c stab_int Ev.int (EvL.c1 stab_int (Ev.lenI (t := true) (prog := prog) (w := w) H (by rw [hlz]; omega) (Ev.nm rfl))))) s2 E _ S2.2.2.1 S2.2.2.2.1 V2) (fun vs s3 ⟨ps, k3⟩ => ⟨k3.kn _ _ ho fun _ ⟨_, q, _⟩ => (by rw [q] at hdat; cases hdat), ?_⟩) fun _ _ x => x) rfl
      have S3 := S2.go k3
      have kk := (k.trans (k2.trans k3)).kn
      have lo := lst_obj S3.2.2.2.2.1.2
      have d1 := kk.isCell c1
      have d2 := kk.isCell c2
      have d3 := kk.isCell c3
      rw [hlz] at ps
      refine wpAny_mono (inner fuel a 0 (mOf a n) (hok ha) A s3 E vs (List.replicate (mOf a n) 0) ok ⟨S3.2.2.1, S3.2.2.2.2.2, d1, pn, d2, d3⟩ ⟨hid_G S3.k hD G, hid_fo lo S3.2.2.2.2.2, hid_cell lo d1, pn, hid_cell lo d2, hid_cell lo d3⟩ S3.2.2.2.1 S3.2.2.2.2.1.2 hlz ps) (fun v s4 ⟨ev, hl4, kd⟩ => ?_) fun _ _ x => x
      subst ev
      have S4 := S3.goD (N' := WasL D (i2d n fuel a 0 (mOf a n) (List.replicate (mOf a n) 0))) kd hD G lo (fun x P e => fl4 (x, P) (mem_of_lookup e)) hl4
      refine wpAny_execs_nil ?_
      exact Bd.run (X := WX prog w mg mb hO) (t := true) S4 (Bd.retD rfl (fun v s' k p => ⟨v, rfl, p, k⟩))
end
end Mine
namespace Mine
def WasP (D : Addr) (l : List Int) : Inv := ⟨fun h => RList RInt l h (.ref D), fun h h' k ⟨a, vs, e, ⟨n, hl⟩, p⟩ => ⟨a, vs, e, ⟨n, k _ _ hl ⟨trivial, fun ⟨ps, q, _⟩ => by cases q⟩⟩, p⟩⟩
section
variable {X : Wd} {t : Bool} {A : Around} {env : Env} {ρ : Vars} {N N' : Inv} {s₀ s : Shared} {l : List Int} {x y : Str} {e : Expr} {p1 p2 tp px pos : Pos} {kk : Nat} {rest : List Stmt} {Q : Flow → Shared → Prop} {D : Addr}
theorem Bd.assign2 {i j : Int} (G₀ : X.G s₀.heap) (hA : A.handled = none) (hk : env.scope.kind = .function) (hx : StoreOk env x) (hy : StoreOk env y) (he : Ev X t A env ρ e (RTup RInt [i, j]))
    (h : Bd X t A env s₀ N ((y, RInt j) :: (x, RInt i) :: ρ) rest Q)
    (hs : swapsWithSole [.Tuple [.Name x p1, .Name y p2] kk tp] e pos.line env = pure false := by rfl) (hw : swappedStores [.Tuple [.Name x p1, .Name y p2] kk tp] e env = pure none := by rfl) :
    Bd X t A env s₀ N ρ (.Assign [.Tuple [.Name x p1, .Name y p2] kk tp] e pos :: rest) Q := fun s E F => by
  refine wpAny_execs_cons (Assign_Tuple (wpAny_mono (he s E F.2.2.1 F.2.2.2.1 F.2.1) (fun v s' ⟨⟨a, vs, ev, hl, p⟩, k⟩ => ?_) fun _ _ x => x) hs hw)
  subst ev
  have F1 := F.go k
  cases hvs : vs.toList with
  | nil => rw [hvs] at p; cases p
  | cons u r =>
    rw [hvs] at p
    cases p with
    | cons pu pr =>
      cases pr with
      | cons pw pn =>
        cases pn
        rename_i wv
        have hz : vs.size = 2 := by rw [← Array.length_toList, hvs]; rfl
        refine assign_Tuple_tuple hA (items := vs) ⟨_, hl, rfl, 0, rfl⟩ (by rw [hz]; rfl) rfl fun h' hx' => ?_
        rw [hvs]
        have F2 : St X t env s₀ N ρ { s' with heap := h' } := F1.go (Wd.K.heap (n := s'.toks) fun b o e => hx' b o (Nat.ne_of_lt (Heap.lt_size e)) e)
        refine assignInOrder_cons (wpAny_assign_Name (store_f G₀ hk hx F2 stab_int (P := RInt i) pu fun s2 F3 _ => ?_))
        refine assignInOrder_cons (wpAny_assign_Name (store_f G₀ hk hy F3 stab_int (P := RInt j) pw fun s3 F4 _ => ?_))
        exact assignInOrder_nil (h s3 E F4)
theorem Bd.ifElse {c : Expr} {body orelse : List Stmt} (hc : Tv X t A env ρ c false) (hb : Bd X t A env s₀ N ρ orelse (fun f s' => ∃ v, f = .ret v ∧ Q (.ret v) s')) : Bd X t A env s₀ N ρ (.If c body orelse pos :: rest) Q := fun s E F =>
  wpAny_execs_cons (wpAny_If (wpAny_mono (hc s E F.2.2.1 F.2.2.2.1 F.2.1) (fun b s' ⟨q, k⟩ => by
    subst q
    show wpAny X.M A (execs orelse env) _ E s'
    exact wpAny_mono (hb s' E (F.go k)) (fun f s'' ⟨v, e, z⟩ => by subst e; exact z) fun _ _ x => x) fun _ _ x => x))
theorem Bd.assignI (G₀ : X.G s₀.heap) (hk : env.scope.kind = .function) (hx : StoreOk env x) (he : Ev X t A env ρ e (RLst l)) (hsw : swapsWith e (some (.Name x px)) pos.line env = pure false)
    (h : ∀ D, Bd X t A env s₀ (N.also (WasL D l)) ((x, RIs (.ref D)) :: ρ) rest Q) : Bd X t A env s₀ N ρ (.Assign [.Name x px] e pos :: rest) Q := fun s E F =>
  wpAny_execs_cons (wpAny_Assign_Name (wpAny_mono (he s E F.2.2.1 F.2.2.2.1 F.2.1) (fun v s' ⟨p, k⟩ => by
    obtain ⟨D, vs, rfl, hl, pp⟩ := p
    have F2 := (F.go k).n (N' := N.also (WasL D l)) ⟨(F.go k).2.2.2.2, D, vs, rfl, hl, pp⟩
    exact store_f G₀ hk hx F2 stab_is (P := RIs (.ref D)) rfl fun s'' F' _ => h D s'' E F') fun _ _ x => x) hsw)
theorem Bd.assignP {Da : Addr} (G₀ : X.G s₀.heap) (hk : env.scope.kind = .function) (hx : StoreOk env x) (he : EvF X A env ρ e l) (hsw : swapsWith e (some (.Name x px)) pos.line env = pure false) (hNa : ∀ h, N.p h → ∃ o, h.get? Da = some o)
    (h : ∀ D, s₀.heap.get? D = none → Ne (α := Nat) D Da → Bd X t A env s₀ (N.also (WasP D l)) ((x, RIs (.ref D)) :: ρ) rest Q) : Bd X t A env s₀ N ρ (.Assign [.Name x px] e pos :: rest) Q := fun s E F =>
  wpAny_execs_cons (wpAny_Assign_Name (wpAny_mono (he s E F.2.2.1 F.2.2.2.1 F.2.1) (fun v s' ⟨D, ev, p, ⟨s2, k2, hD⟩, k⟩ => by
    subst ev
    have F2 := (F.go k.lift).n (N' := N.also (WasP D l)) ⟨(F.go k.lift).2.2.2.2, p⟩
    have hfree : s₀.heap.get? D = none := by
      obtain ⟨_, _, f⟩ := F.1
      have h1 := f.new
      have h2 : LT.lt (α := Nat) env.locals s2.heap.objs.size := (k2.kn.ns f.ns).lt
      exact Heap.get?_none_of_le (by show LE.le (α := Nat) _ _; omega)
    have hne : Ne (α := Nat) D Da := by
      obtain ⟨o, ho⟩ := hNa _ F.2.2.2.2
      have : LT.lt (α := Nat) Da s2.heap.objs.size := Heap.lt_size (k2.kn.all _ _ ho)
      omega
    exact store_f G₀ hk hx F2 stab_is (P := RIs (.ref D)) rfl fun s'' F' _ => h D hfree hne s'' E F') fun _ _ x => x) hsw)
theorem St.updD {h' : Heap} {n : Nat} {o : Obj} (F : St X true env s₀ N ρ s) (ho : s.heap.get? D = some o) (hc : o.cls = .type "list") {vs : Array Value} {m : Nat} (hd : o.data = .seq vs m) (hs : ∀ b o, Ne (α := Nat) b D → s.heap.get? b = some o → h'.get? b = some o) (h0 : s₀.heap.get? D = none) (G₀ : X.G s₀.heap)
    (hfl : ∀ q ∈ ρ, FlatP q.2) (hN : N'.p h') : St X true env s₀ N' ρ { s with heap := h', toks := n } :=
  F.goD ⟨h', n, rfl, fun c o hc' e _ => hs c o hc' e, fun T => X.hT _ _ (fun c o' e fl => hs c o' (fun q => by
    have q : c = D := q
    subst q
    rw [ho] at e; cases e
    obtain ⟨_, q⟩ := fl.fields
    rw [hd] at q; cases q) e) T⟩ h0 G₀ ⟨o, ho, hc, vs, m, hd⟩ (fun x P e => hfl (x, P) (mem_of_lookup e)) hN
/-- x.append(e) -/
theorem Bd.appendD {i : Int} {e1 : Expr} {apos pos' : Pos} (h0 : s₀.heap.get? D = none) (G₀ : X.G s₀.heap) (hfl : ∀ q ∈ ρ, FlatP q.2) (hx : Ev X true A env ρ (.Name x p1) (RIs (.ref D))) (he : Ev X true A env ρ e1 (RInt i))
    (hN : ∀ h, N.p h → RList RInt l h (.ref D)) (hN2 : ∀ h h', N.p h → (∀ b o, Ne (α := Nat) b D → h.get? b = some o → h'.get? b = some o) → RList RInt (l ++ [i]) h' (.ref D) → N'.p h') (hz : l.length < 1000000)
    (h : Bd X true A env s₀ N' ρ rest Q) (hbase : attributeBase (.Name x p1) "append" env (eval (.Name x p1) env) = eval (.Name x p1) env := by rfl) (hline : (apos.endLine == pos.line) = true := by rfl)
    (hfew : ((backTo pos (starEach [e1] env)).all (fun x => !x.1) && (backToKw pos (keywordEach [] env)).all (fun x => x.1.isSome)
      && decide ([e1].length + ([] : List Keyword).length + (if ([] : List Keyword).isEmpty then 0 else 1) < 30)) = true := by rfl)
    (hs : starEach [e1] env = [(false, eval e1 env)] := by rfl) (hpl : (backTo pos (starEach [e1] env)).any (·.1) = false := by rfl) (hi : interactive env = false := by rfl)
    (hsw : swapsWith (.Call (.Attribute (.Name x p1) "append" apos) [e1] [] pos) none pos'.line env = pure false := by rfl) :
    Bd X true A env s₀ N ρ (.Expr (.Call (.Attribute (.Name x p1) "append" apos) [e1] [] pos) pos' :: rest) Q := fun s E F => by
  refine wpAny_execs_cons (wpAny_Expr ?_ hi hsw)
  refine wpAny_Call_method_lateS hbase hfew hline (wpAny_mono (hx s E F.2.2.1 F.2.2.2.1 F.2.1) (fun v s1 ⟨p, k⟩ => ?_) fun _ _ x => x)
  have p : v = .ref D := p
  subst p
  have F1 := F.go k
  have L1 := list_type' (s := s1) (hN _ F1.2.2.2.2)
  refine ⟨"list", "list.append", PySem.F.plainAttrs_list, slot_list_append, type_list_append, L1.1, L1.2, ?_⟩
  refine callWith_builtin hpl ?_
  rw [hs]
  refine evalArgs_plain ?_
  have := (EvL.c1 stab_int he hs) s1 E pos F1.2.2.1 F1.2.2.2.1 F1.2.1
  rw [hs] at this
  refine wpAny_mono this (fun vs s2 ⟨ps, k2⟩ => ?_) fun _ _ x => x
  obtain ⟨u, rfl, pu⟩ := are1 ps
  have F2 := F1.go k2
  obtain ⟨c, ws, ec, ⟨n, hl⟩, pp⟩ := hN _ F2.2.2.2.2
  cases ec
  have hsz := sizeLine_ge
  have hlw : l.length = ws.size := by rw [pp.length]; simp
  refine wpAny_list_append_plain ⟨n, hl⟩ (fun h' hl' hs' => ?_) (by omega)
  refine h _ E (F2.updD hl rfl rfl (fun b o hb e => (hs'.2 b hb).trans e) h0 G₀ hfl (hN2 _ _ F2.2.2.2.2 (fun b o hb e => (hs'.2 b hb).trans e) ⟨D, _, rfl, hl', ?_⟩))
  rw [Array.toList_push]
  exact paired_app (pp : Paired (fun x u => RInt x h' u) l ws.toList) (.cons pu .nil)
theorem paired_rev {F : Int → Value → Prop} : ∀ {l : List Int} {vs : List Value}, Paired F l vs → Paired F l.reverse vs.reverse
  | _, _, .nil => .nil
  | _, _, .cons p r => by rw [List.reverse_cons, List.reverse_cons]; exact paired_app (paired_rev r) (.cons p .nil)
/-- x.reverse() -/
theorem Bd.reverseD {apos pos' : Pos} (h0 : s₀.heap.get? D = none) (G₀ : X.G s₀.heap) (hfl : ∀ q ∈ ρ, FlatP q.2) (hx : Ev X true A env ρ (.Name x p1) (RIs (.ref D))) (hz : l.length < 1000000)
    (h : Bd X true A env s₀ (WasP D l.reverse) ρ rest Q) (hbase : attributeBase (.Name x p1) "reverse" env (eval (.Name x p1) env) = eval (.Name x p1) env := by rfl) (hline : (apos.endLine == pos.line) = true := by rfl)
    (hi : interactive env = false := by rfl) (hsw : swapsWith (.Call (.Attribute (.Name x p1) "reverse" apos) [] [] pos) none pos'.line env = pure false := by rfl) :
    Bd X true A env s₀ (WasP D l) ρ (.Expr (.Call (.Attribute (.Name x p1) "reverse" apos) [] [] pos) pos' :: rest) Q := fun s E F => by
  refine wpAny_execs_cons (wpAny_Expr ?_ hi hsw)
  refine wpAny_Call_method_lateS hbase rfl hline (wpAny_mono (hx s E F.2.2.1 F.2.2.2.1 F.2.1) (fun v s1 ⟨p, k⟩ => ?_) fun _ _ x => x)
  have p : v = .ref D := p
  subst p
  have F1 := F.go k
  have hp : RList RInt l s1.heap (.ref D) := F1.2.2.2.2
  have L1 := list_type' (s := s1) hp
  refine ⟨"list", "list.reverse", PySem.F.plainAttrs_list, PySem.F.slot_list_reverse, PySem.F.type_list_reverse, L1.1, L1.2, ?_⟩
  obtain ⟨c, ws, ec, ⟨n, hl⟩, pp⟩ := hp
  cases ec
  have hsz := sizeLine_ge
  have hlw : l.length = ws.size := by rw [pp.length]; simp
  refine PySem.P.reverse_list hl ?_ (by omega)
  refine h _ E (F1.updD hl rfl rfl (fun b o hb e => (Heap.get?_update_other _ _ (fun q => hb q.symm)).trans e) h0 G₀ hfl ⟨D, ws.reverse, rfl, ⟨_, Heap.get?_update_self _ hl rfl⟩, ?_⟩)
  rw [Array.toList_reverse]
  exact paired_rev pp
theorem St.rep {P : Rp} (F : St X t env s₀ N ρ s) (hx : ρ.lookup x = some (RIs (.ref D))) (sp : Stab P) (hp : P s.heap (.ref D)) : St X t env s₀ N ((x, P) :: ρ) s := by
  obtain ⟨_, v, hv, pv⟩ := F.2.1 x _ hx
  have pv : v = .ref D := pv
  subst pv
  exact ⟨F.1, vs_cons sp hv hp F.2.1, F.2.2⟩
theorem Bd.rep {P : Rp} {ss : List Stmt} (hx : ρ.lookup x = some (RIs (.ref D))) (sp : Stab P) (hp : ∀ h, N.p h → P h (.ref D)) (h : Bd X t A env s₀ N ((x, P) :: ρ) ss Q) : Bd X t A env s₀ N ρ ss Q := fun s E F => h s E (F.rep hx sp (hp _ F.2.2.2.2))
end
end Mine
namespace Mine
section
variable {prog : Program} {w : World} {mg mb : Str → Option Value} {hO : Heap} {A : Around} {env : Env} {ρ : Vars} {s₀ : Shared} {ds : List Int} {x xa : Str} {np p1 px pos pos' : Pos} {body rest : List Stmt} {Q : Flow → Shared → Prop} {D Da : Addr}
/-- for x in reversed(xa): the list D grows -/
theorem Bd.forRev (H : Pf w mg mb) (G₀ : Gs w mg mb s₀.heap) (hA : A.handled = none) (hk : env.scope.kind = .function) (hx : StoreOk env x) (acc : Nat → List Int) (J : Nat → Vars) (hne : Ne (α := Nat) D Da)
    (hxa : Ev (WX prog w mg mb hO) true A env ρ (.Name xa p1) (RIs (.ref Da)))
    (h0 : ∀ s, St (WX prog w mg mb hO) true env s₀ ((Inv.top.also (WasL Da ds)).also (WasP D (acc 0))) ρ s → St (WX prog w mg mb hO) true env s₀ ((Inv.top.also (WasL Da ds)).also (WasP D (acc 0))) (J 0) s)
    (step : ∀ i (N' : Inv), i < ds.length → (∀ h h', N'.p h → (∀ b o, Ne (α := Nat) b D → h.get? b = some o → h'.get? b = some o) → N'.p h') →
      Bd (WX prog w mg mb hO) true A env s₀ (N'.also (WasP D (acc i))) ((x, RInt (ds.getD (ds.length - 1 - i) 0)) :: J i) body (fun f s' => f = .next ∧ St (WX prog w mg mb hO) true env s₀ (N'.also (WasP D (acc (i + 1)))) (J (i + 1)) s'))
    (hr : Bd (WX prog w mg mb hO) true A env s₀ (WasP D (acc ds.length)) (J ds.length) rest Q)
    (hkk : env.scope.kind = .function := by rfl) (hx' : env.kindOf "reversed" = some .globalImplicit := by rfl) (hg : env.globals = mainGlobals := by rfl) (hb : env.builtins = builtinsNs := by rfl)
    (hs : starEach [.Name xa p1] env = [(false, eval (.Name xa p1) env)] := by rfl) (hpl : (backTo pos (starEach ([] : List Expr) env)).any (·.1) = false := by rfl)
    (hsf : ∀ v, foldedSetIterable (.Call (.Name "reversed" np) [.Name xa p1] [] pos) env v = pure v := by intro _; rfl) :
    Bd (WX prog w mg mb hO) true A env s₀ ((Inv.top.also (WasL Da ds)).also (WasP D (acc 0))) ρ (.For (.Name x px) (.Call (.Name "reversed" np) [.Name xa p1] [] pos) body [] pos' :: rest) Q := fun s E F => by
  refine wpAny_execs_cons (wpAny_For ?_ hsf)
  refine Call_ (wpAny_mono ((Ev.builtin (X := WX prog w mg mb hO) (t := true) (H.free "reversed" (by decide)) ((H.built "reversed" (by decide)).trans bi_reversed) hkk hx' hg hb rfl) s E F.2.2.1 F.2.2.2.1 F.2.1) (fun v s1 ⟨p, k⟩ => ?_) fun _ _ x => x)
  have p : v = .type "reversed" := p
  subst p
  have F1 := F.go k
  refine PyProof.Rows.callWith_type1 (wpAny_mono ((EvL.c1 stab_is hxa hs) s1 E _ F1.2.2.1 F1.2.2.2.1 F1.2.1) (fun vs s2 ⟨ps, k2⟩ => ?_) fun _ _ x => x) hs hpl
  obtain ⟨u, rfl, pu⟩ := are1 ps
  have pu : u = .ref Da := pu
  subst pu
  have F2 := F1.go k2
  obtain ⟨a', vs, ea, hl, hp⟩ := F2.2.2.2.2.1.2
  cases ea
  have hlen : ds.length = vs.size := by rw [hp.length]; simp
  refine call_reversed_list hl ?_
  generalize hI : s2.heap.objs.size = I
  have F3 : St (WX prog w mg mb hO) true env s₀ _ ρ { s2 with heap := s2.heap.push (revObj Da ((vs.size : Int) - 1)), toks := s2.toks } := F2.go Wd.K.push
  have hIat : ({ s2 with heap := s2.heap.push (revObj Da ((vs.size : Int) - 1)) } : Shared).heap.IsRevIter I Da ((vs.size : Int) - 1) := ⟨_, hI ▸ Heap.get?_push_size _ rfl, rfl, rfl⟩
  refine wpAny_pyIter_revIter hIat ?_
  have hsz0 : LE.le (α := Nat) s₀.heap.objs.size I := by
    obtain ⟨_, _, f⟩ := F2.1
    have h1 := f.new
    have h2 : LT.lt (α := Nat) env.locals s2.heap.objs.size := f.ns.lt
    omega
  have hDaI : Ne (α := Nat) Da I := by
    obtain ⟨o, ho, _⟩ := hl
    have : LT.lt (α := Nat) Da s2.heap.objs.size := Heap.lt_size ho
    omega
  have hDI : Ne (α := Nat) D I := by
    obtain ⟨c, ws, ec, ⟨n, hlD⟩, _⟩ := F2.2.2.2.2.2
    cases ec
    have : LT.lt (α := Nat) D s2.heap.objs.size := Heap.lt_size hlD
    omega
  have Wk := Walks.listRev (prog := prog) (w := w) (A := A) hA I Da hDaI vs
  let NI : Nat → Inv := fun i => ⟨fun h => i ≤ vs.size ∧ h.IsRevIter I Da ((vs.size : Int) - 1 - (i : Int)) ∧ h.IsList Da vs, fun h h' k ⟨a, b, c⟩ => ⟨a, b.at fun o e => by
    obtain ⟨o', e', hc', hd'⟩ := b
    rw [e] at e'; cases e'
    exact k _ _ e ⟨by rw [hd']; trivial, fun ⟨ps, q, _⟩ => by rw [q] at hc'; cases hc'⟩, by
    obtain ⟨o', e', hc', n', hd'⟩ := c
    exact ⟨o', k _ _ e' ⟨by rw [hd']; trivial, fun ⟨ps, q, _⟩ => by rw [q] at hc'; cases hc'⟩, hc', n', hd'⟩⟩⟩
  refine codeAny_forLoop (fun k s' => ∃ i, i ≤ vs.size ∧ k = vs.size + 1 - i ∧ St (WX prog w mg mb hO) true env s₀ ((NI i).also (WasP D (acc i))) (J i) s') ?_ (vs.size + 1) ⟨0, Nat.zero_le _, rfl, (h0 _ F3).n ⟨⟨Nat.zero_le _, by simpa using hIat, F3.2.2.2.2.1.2 |> fun ⟨a2, vs2, e2, hl2, p2⟩ => (by cases e2; exact hl.at fun o e => Heap.get?_push_of_some _ e)⟩, F3.2.2.2.2.2⟩⟩
  rintro k s' ⟨i, hi, rfl, F'⟩
  have hat : ∀ {h' : Heap} {n : Nat} {M' : Inv}, (∀ b o, b ∉ [I] → s'.heap.get? b = some o → h'.get? b = some o) → M'.p h' → St (WX prog w mg mb hO) true env s₀ M' (J i) { s' with heap := h', toks := n } := fun hk' hM => by
    obtain ⟨o', e', hc', hd'⟩ := F'.2.2.2.2.1.2.1
    have io := iter_ok hc' (by decide) hd' rfl
    obtain ⟨_, _, f⟩ := F'.1
    refine F'.at G₀ (I := I) hsz0 (fun b o hb e => hk' b o (by rw [List.mem_singleton]; exact hb) e) (fun o e => ?_) (f.notLoc e' io.1).1 (f.notLoc e' io.1).2 hM
    rw [e'] at e; cases e; exact io.2
  have hP : ∀ {h' : Heap}, (∀ b o, b ∉ [I] → s'.heap.get? b = some o → h'.get? b = some o) → (WasP D (acc i)).p h' := fun hk' => by
    obtain ⟨c, ws, ec, ⟨n, hlD⟩, pp⟩ := F'.2.2.2.2.2
    cases ec
    exact ⟨D, ws, rfl, ⟨n, hk' _ _ (by rw [List.mem_singleton]; exact hDI) hlD⟩, pp⟩
  by_cases hlt : i < vs.size
  · refine Wk.item i _ _ _ hlt F'.2.2.2.2.1 fun v h' tk hv st' hk' => ?_
    have hget : RInt (ds.getD (ds.length - 1 - i) 0) h' v := by
      obtain ⟨a, ha, hr⟩ := paired_get hp (i := vs.size - 1 - i) (u := v) (by simpa using hv)
      rw [hlen, List.getD_eq_getElem?_getD, ha]
      exact hr
    refine wpAny_assign_Name (store_f (X := WX prog w mg mb hO) (t := true) (N := (NI (i + 1)).also (WasP D (acc i))) (ρ := J i) G₀ hk hx (hat hk' ⟨st', hP hk'⟩) stab_int (P := RInt (ds.getD (ds.length - 1 - i) 0)) hget fun s₃ F₃ _ => ?_)
    refine wpAny_mono (step i (NI (i + 1)) (by omega) (fun h h' hN hk'' => ⟨hN.1, hN.2.1.at fun o e => hk'' _ _ (fun q => hDI q.symm) e, hN.2.2.at fun o e => hk'' _ _ (fun q => hne q.symm) e⟩) s₃ _ F₃) (fun f s₄ ⟨ef, F₄⟩ => ?_) fun _ _ e => e
    subst ef
    exact ⟨vs.size + 1 - (i + 1), by omega, i + 1, hlt, rfl, F₄⟩
  · have hin : i = vs.size := by omega
    subst hin
    refine Wk.done _ _ _ F'.2.2.2.2.1 fun h' tk hk' => ?_
    refine wpAny_execs_nil ?_
    rw [hlen] at hr
    exact hr _ E (hat hk' (hP hk'))
end
end Mine
namespace Mine
theorem St.sub {X : Wd} {t : Bool} {env : Env} {s₀ s : Shared} {N : Inv} {ρ ρ' : Vars} (F : St X t env s₀ N ρ s) (h : ∀ q ∈ ρ', ρ.lookup q.1 = some q.2) : St X t env s₀ N ρ' s := F.vars fun x P e => h (x, P) (mem_of_lookup e)
def dvS (b : Int) (n : Nat) (ds : List Int) : Nat → List Int × Int
  | 0 => ([], 0)
  | i + 1 => ((dvS b n ds i).1 ++ [((dvS b n ds i).2 * 2 ^ n + ds.getD (ds.length - 1 - i) 0).fdiv b], ((dvS b n ds i).2 * 2 ^ n + ds.getD (ds.length - 1 - i) 0).fmod b)
def dvOk (b : Int) (n : Nat) (ds : List Int) : Bool := (List.range ds.length).all fun i => decide (Builtin.Int.intBits (dvS b n ds i).2 + n ≤ 2 ^ 27) && decide ((Builtin.Int.intBits ((dvS b n ds i).2 * 2 ^ n + ds.getD (ds.length - 1 - i) 0) : Int) - (n : Int) ≤ 4000) && !Builtin.divisionGoesByPylong ((dvS b n ds i).2 * 2 ^ n + ds.getD (ds.length - 1 - i) 0) b
def toInt (n : Nat) (ds : List Int) : Int := if ds.isEmpty = true then 0 else d2i n ds 8 0 ds.length
def toIntOk (n : Nat) (ds : List Int) : Bool := decide (ds.length ≤ 100) && (ds.isEmpty || okD n ds 8 0 ds.length)
def toDig (n : Nat) (a : Int) : List Int := i2dAll n 8 a
def toDigOk (n : Nat) (a : Int) : Bool := decide (1 ≤ n) && decide (n < 1000000) && decide (mOf a n ≤ 1000) && !Builtin.divisionGoesByPylong ((Builtin.Int.intBits a : Int) + (n : Int) - 1) (n : Int) && (decide (a = 0) || okI n (mOf a n) 8 a 0 (mOf a n))
def dmD (a b : Int) : List Int := toDig (Builtin.Int.intBits b) a
def dmR (a b : Int) : List Int × Int := dvS b (Builtin.Int.intBits b) (dmD a b) (dmD a b).length
def dmq (a b : Int) : Int := toInt (Builtin.Int.intBits b) (dmR a b).1.reverse
def dmr (a b : Int) : Int := (dmR a b).2
def dmOk (a b : Int) : Bool := decide (0 ≤ a) && decide (0 < b) && toDigOk (Builtin.Int.intBits b) a && decide ((dmD a b).length ≤ 1000) && dvOk b (Builtin.Int.intBits b) (dmD a b) && toIntOk (Builtin.Int.intBits b) (dmR a b).1.reverse && decide ((dmR a b).1.length ≤ 1000)
section
variable {prog : Program} {w : World} {mg mb : Str → Option Value} {hO : Heap} {A : Around}
theorem fn_toInt (H : Pf w mg mb) (n : Nat) (ds : List Int) (ok : toIntOk n ds = true) : Fn (WX prog w mg mb hO) true 9 59 [RList RInt ds, RInt n] (RInt (toInt n ds)) := by
  unfold toIntOk at ok
  simp only [Bool.and_eq_true, Bool.or_eq_true, decide_eq_true_eq] at ok
  refine fn_d2i H n ds ok.1 8 fun hne => ?_
  rcases ok.2 with h | h
  · exact absurd (List.isEmpty_iff.mp h) hne
  · exact h
theorem fn_toDig (H : Pf w mg mb) (n : Nat) (a : Int) (ok : toDigOk n a = true) : Fn (WX prog w mg mb hO) true 9 52 [RInt a, RInt n] (RLst (toDig n a)) := by
  unfold toDigOk at ok
  simp only [Bool.and_eq_true, Bool.or_eq_true, decide_eq_true_eq, Bool.not_eq_true'] at ok
  obtain ⟨⟨⟨⟨h1, h2⟩, h3⟩, h4⟩, h5⟩ := ok
  exact fn_i2d H n h1 h2 a h3 h4 8 fun hne => by
    rcases h5 with h | h
    · exact absurd h hne
    · exact h
theorem fn_div (H : Pf w mg mb) (x b : Int) (n : Nat) (h0 : b ≠ 0) (hp : Builtin.divisionGoesByPylong x b = false) (hs : (Builtin.Int.intBits x : Int) - (n : Int) ≤ 4000) : Fn (WX prog w mg mb hO) true 1 38 [RInt x, RInt b, RInt n] (RTup RInt [x.fdiv b, x.fmod b]) := by
  refine Fn.intro (names := ["a", "b", "n"]) (fun h g => ⟨⟨_, g.k _ _ rfl, rfl⟩, codeRec g rfl rfl rfl rfl⟩) rfl rfl (fun vs hv => ?_) rfl (by decide) (fun P hP => ?_) (fun L x hx => ?_) rfl rfl rfl (fun A s₀ ok G T => ?_)
  · match vs, hv with
    | [v, u, y], _ => rfl
  · simp only [List.mem_cons, List.not_mem_nil, or_false] at hP
    rcases hP with rfl | rfl | rfl <;> exact stab_int
  · left
    simp only [List.mem_cons, List.not_mem_nil, or_false] at hx
    rcases hx with rfl | rfl | rfl <;> rfl
  · refine Bd.ifRet (Tv.to (Tv.leI (j := 4000) (Ev.subI (Ev.bitlen (Ev.nm rfl)) (Ev.nm rfl)) (Ev.mono (Ev.global (X := WX prog w mg mb hO) (H.own "_DIV_LIMIT" _ rfl) rfl rfl rfl rfl) fun h v p => ⟨_, p⟩)) (q' := true) (by simpa using hs)) ?_
    exact Bd.ret (Ev.divmod H h0 hp (Ev.nm rfl) (Ev.nm rfl)) fun v s' k p => ⟨v, rfl, v, rfl, p, k⟩
theorem fn_dmp (H : Pf w mg mb) (a b : Int) (hok : dmOk a b = true) : Fn (WX prog w mg mb hO) true 10 66 [RInt a, RInt b] (RTup RInt [dmq a b, dmr a b]) := by
  unfold dmOk at hok
  simp only [Bool.and_eq_true, decide_eq_true_eq] at hok
  obtain ⟨⟨⟨⟨⟨⟨ha, hb⟩, h1⟩, h2⟩, h3⟩, h4⟩, h5⟩ := hok
  refine Fn.intro (names := ["a", "b"]) (fun h g => ⟨⟨_, g.k _ _ rfl, rfl⟩, codeRec g rfl rfl rfl rfl⟩) rfl rfl (fun vs hv => ?_) rfl (by decide) (fun P hP => ?_) (fun L x hx => ?_) rfl rfl rfl (fun A s₀ ok G T => ?_)
  · match vs, hv with
    | [v, u], _ => rfl
  · simp only [List.mem_cons, List.not_mem_nil, or_false] at hP
    rcases hP with rfl | rfl <;> exact stab_int
  · left
    simp only [List.mem_cons, List.not_mem_nil, or_false] at hx
    rcases hx with rfl | rfl <;> rfl
  · refine Bd.assign (P := RInt (Builtin.Int.intBits b)) G rfl (.loc rfl) (Ev.bitlen (Ev.nm rfl)) stab_int rfl ?_
    refine Bd.assignI (l := dmD a b) G rfl (.loc rfl) (Ev.fnG H (by kernel_rfl) rfl rfl (fn_toDig H _ a h1) ok (EvL.c stab_int (Ev.nm rfl) (EvL.c1 stab_int (Ev.nm rfl)))) rfl fun Da => ?_
    refine Bd.assign (P := RInt 0) G rfl (.loc rfl) Ev.int stab_int rfl ?_
    refine Bd.assignP (Da := Da) (l := []) G rfl (.loc rfl) EvF.nil rfl (fun h hN => let ⟨o, ho, _⟩ := lst_obj hN.2; ⟨o, ho⟩) fun D hD hne => ?_
    refine Bd.forRev (ds := dmD a b) (Da := Da) (D := D) H G ok.1 rfl (.loc rfl) (fun i => (dvS b (Builtin.Int.intBits b) (dmD a b) i).1) (fun i => [("r", RInt (dvS b (Builtin.Int.intBits b) (dmD a b) i).2), ("q_digits", RIs (.ref D)), ("b", RInt b), ("n", RInt (Builtin.Int.intBits b : Nat))]) hne (Ev.nm rfl) (fun s F => F.sub ?_) (fun i N' hi hN' => ?_) ?_
    · simp only [List.mem_cons, List.not_mem_nil, or_false]
      rintro q (rfl | rfl | rfl | rfl) <;> rfl
    · have hi' := List.all_eq_true.mp h3 i (List.mem_range.mpr hi)
      simp only [Bool.and_eq_true, decide_eq_true_eq, Bool.not_eq_true'] at hi'
      obtain ⟨⟨k1, k2⟩, k3⟩ := hi'
      refine Bd.assign2 (i := ((dvS b (Builtin.Int.intBits b) (dmD a b) i).2 * 2 ^ (Builtin.Int.intBits b) + (dmD a b).getD ((dmD a b).length - 1 - i) 0).fdiv b) (j := ((dvS b (Builtin.Int.intBits b) (dmD a b) i).2 * 2 ^ (Builtin.Int.intBits b) + (dmD a b).getD ((dmD a b).length - 1 - i) 0).fmod b) G ok.1 rfl (.loc rfl) (.loc rfl) ?_ ?_
      · exact Ev.fnG H (by kernel_rfl) rfl rfl (fn_div H _ b _ (by omega) k3 k2) (ok.le (by omega)) (EvL.c stab_int (Ev.addI (Ev.shlI rfl (by exact_mod_cast k1) (Ev.nm rfl) (Ev.nm rfl)) (Ev.nm rfl)) (EvL.c stab_int (Ev.nm rfl) (EvL.c1 stab_int (Ev.nm rfl))))
      · have hlen : ∀ j, (dvS b (Builtin.Int.intBits b) (dmD a b) j).1.length = j := by
          intro j
          induction j with
          | zero => rfl
          | succ j ih => show (_ ++ [_]).length = _; rw [List.length_append, ih]; rfl
        refine Bd.appendD (N' := N'.also (WasP D (dvS b (Builtin.Int.intBits b) (dmD a b) (i + 1)).1)) (l := (dvS b (Builtin.Int.intBits b) (dmD a b) i).1) hD G ?_ (Ev.nm rfl) (Ev.nm rfl) (fun h hN => hN.2) (fun h h' hN hk hl => ⟨hN' h h' hN.1 hk, hl⟩) (by rw [hlen]; omega) ?_
        · simp only [List.mem_cons, List.not_mem_nil, or_false]
          rintro q (rfl | rfl | rfl | rfl | rfl | rfl | rfl) <;> first | exact flat_int | exact flat_is
        · refine Bd.nil fun s' F' => ⟨rfl, F'.sub ?_⟩
          simp only [List.mem_cons, List.not_mem_nil, or_false]
          rintro q (rfl | rfl | rfl | rfl) <;> rfl
    refine Bd.reverseD (l := (dmR a b).1) hD G ?_ (Ev.nm rfl) (by omega) ?_
    · simp only [List.mem_cons, List.not_mem_nil, or_false]
      rintro q (rfl | rfl | rfl | rfl) <;> first | exact flat_int | exact flat_is
    refine Bd.rep (x := "q_digits") (P := RList RInt (dmR a b).1.reverse) rfl (stab_list fun _ => stab_int) (fun h hN => hN) ?_
    refine Bd.assign (P := RInt (dmq a b)) G rfl (.loc rfl) (Ev.fnG H (by kernel_rfl) rfl rfl (fn_toInt H _ _ h4) ok (EvL.c (stab_list fun _ => stab_int) (Ev.nm rfl) (EvL.c1 stab_int (Ev.nm rfl)))) stab_int rfl ?_
    exact Bd.ret (Ev.tuple (l := [dmq a b, dmr a b]) (fun _ => stab_int) (by have := sizeLine_ge; show 2 ≤ _; omega) (EvL.c stab_int (Ev.nm rfl) (EvL.c1 stab_int (Ev.nm rfl)))) fun v s' k p => ⟨v, rfl, p, k⟩
theorem fn_idm (H : Pf w mg mb) (a b : Int) (hok : dmOk a b = true) : Fn (WX prog w mg mb hO) true 11 73 [RInt a, RInt b] (RTup RInt [dmq a b, dmr a b]) := by
  have hok2 := hok
  unfold dmOk at hok2
  simp only [Bool.and_eq_true, decide_eq_true_eq] at hok2
  obtain ⟨⟨⟨⟨⟨⟨ha, hb⟩, h1⟩, h2⟩, h3⟩, h4⟩, h5⟩ := hok2
  refine Fn.intro (names := ["a", "b"]) (fun h g => ⟨⟨_, g.k _ _ rfl, rfl⟩, codeRec g rfl rfl rfl rfl⟩) rfl rfl (fun vs hv => ?_) rfl (by decide) (fun P hP => ?_) (fun L x hx => ?_) rfl rfl rfl (fun A s₀ ok G T => ?_)
  · match vs, hv with
    | [v, u], _ => rfl
  · simp only [List.mem_cons, List.not_mem_nil, or_false] at hP
    rcases hP with rfl | rfl <;> exact stab_int
  · left
    simp only [List.mem_cons, List.not_mem_nil, or_false] at hx
    rcases hx with rfl | rfl <;> rfl
  · refine Bd.ifElse (Tv.to (Tv.eqI (Ev.nm rfl) Ev.int) (q' := false) (by simp; omega)) ?_
    refine Bd.ifElse (Tv.to (Tv.ltI (Ev.nm rfl) Ev.int) (q' := false) (by simp; omega)) ?_
    refine Bd.ifElse (Tv.to (Tv.ltI (Ev.nm rfl) Ev.int) (q' := false) (by simp; omega)) ?_
    exact Bd.ret (Ev.fnG H (by kernel_rfl) rfl rfl (fn_dmp H a b hok) ok (EvL.c stab_int (Ev.nm rfl) (EvL.c1 stab_int (Ev.nm rfl)))) fun v s' k p => ⟨v, rfl, v, rfl, v, rfl, v, rfl, p, k⟩
end
end Mine
namespace Mine
open Builtin in
def revB (b : Array UInt8) : Array UInt8 := Bytes.sliced b (sliceBounds none none (some (-1)) b.size).1 (sliceBounds none none (some (-1)) b.size).2.1 (sliceBounds none none (some (-1)) b.size).2.2
open Builtin in
theorem meets_rev (b : Array UInt8) (t : Tok) (a : Addr) (ts : Tok) :
    Meets («bytes.__getitem__» ⟨[.bytes b t, .ref a], []⟩) (fun _ R s => s.heap.IsSliceOf a .none .none (.int (-1) ts) ∧ (revB b).size ≤ sizeLine ∧ ∀ t' k, R (.ok (.ret (.bytes (revB b) t'))) { s with toks := k }) := by
  refine .of_wp fun prog w A R s hS => ?_
  obtain ⟨⟨o, ho, hc, hd⟩, hsz, h⟩ := hS
  have hT : s.TypeIs (.ref a) "slice" := ⟨o, ho, hc⟩
  show wpAny _ _ (Bytes.payload (.bytes b t) >>= fun r => _) _ _ s
  refine wpAny_bind (wpAny_of_eq (a := b) rfl ?_)
  show wpAny _ _ (Bytes.subscript? (.ref a) >>= fun r => _) _ _ s
  refine wpAny_bind ?_
  unfold Bytes.subscript?
  refine wpAny_bind (wpAny_specialOf hT slice_no_index (wpAny_pure ?_))
  refine wpAny_bind (wpAny_typeOf hT ?_)
  show wpAny _ _ (Bytes.sliceParts (.ref a) >>= fun r => _) _ _ s
  refine wpAny_bind ?_
  unfold Bytes.sliceParts
  refine wpAny_bind (wpAny_field (x := .int (-1) ts) ho hd rfl ?_)
  kby_int
  refine wpAny_ite (KBy.ite_no (show ¬ ((rawInt (-1) == rawInt 0) = true) by decide) ?_)
  refine wpAny_bind (wpAny_field (x := .none) ho hd rfl ?_)
  kby_none
  refine wpAny_bind (wpAny_field (x := .none) ho hd rfl ?_)
  kby_none
  refine wpAny_pure ?_
  have go : wpAny (model prog w) A.in1 (sliceIndices (rawPart none) (rawPart none) (rawPart (some (-1))) b.size) (fun r s' => r = sliceBounds none none (some (-1)) b.size ∧ s' = s) (fun _ _ => False) s :=
    wpAny_of_eq (sliceIndices_raw none none (some (-1)) b.size (by decide)) ⟨rfl, rfl⟩
  refine wpAny_bind (wpAny_mono go (fun r s' hr => ?_) fun _ _ e => e.elim)
  obtain ⟨hr1, hr2⟩ := hr
  subst hr1 hr2
  have hn : ¬ (((sliceBounds none none (some (-1)) b.size).1 == 0 && (sliceBounds none none (some (-1)) b.size).2.2 == 1 && (sliceBounds none none (some (-1)) b.size).2.1 == (b.size : Int) && !b.isEmpty) = true) := by
    have : (sliceBounds none none (some (-1)) b.size).2.2 = -1 := rfl
    rw [this]
    simp
  refine wpAny_ite (KBy.ite_no hn ?_)
  exact wpAny_bind (wpAny_mkBytes (wpAny_pure ⟨_, rfl, h _ _⟩) hsz)
open Builtin in
theorem lstrip_any {prog : Program} {w : World} {A : Around} {E : Value → Shared → Prop} {s : Shared} (b c : Array UInt8) (t u : Tok) {Q : Value → Shared → Prop} (hz : b.size ≤ sizeLine) (h : ∀ t' k, Q (.bytes (b.toList.dropWhile c.contains).toArray t') { s with toks := k }) :
    wpAny (model prog w) A (call (.builtin "bytes.lstrip") [.bytes b t, .bytes c u]) Q E s := by
  refine wpAny_call_entry slot_lstrip (typeIs_bytes _ b t) entry_lstrip ?_ (args_lstrip_2 _ _)
  unfold Builtin.«bytes.lstrip» Bytes.stripM
  dsimp only
  refine wpAny_bind (wpAny_of_eq (a := (Value.bytes b t, [Value.bytes c u])) rfl ?_)
  dsimp only
  refine wpAny_bind (wpAny_of_eq (PySem.W.KBd.like_eq) ?_)
  refine wpAny_bind (wpAny_pure ?_)
  refine wpAny_bind (wpAny_of_eq (a := b) rfl ?_)
  rw [if_neg (show ¬ (false = true) by decide), if_pos (show true = true from rfl)]
  by_cases hl : ((b.toList.dropWhile c.contains).length == b.size) = true
  · rw [if_pos hl]
    have e : (b.toList.dropWhile c.contains).toArray = b := by
      have h1 : (b.toList.dropWhile c.contains).length = b.toList.length := by simpa using hl
      have := (List.dropWhile_suffix (l := b.toList) c.contains).eq_of_length h1
      rw [this]
    refine wpAny_bind (wpAny_rule ?_)
    rw [e] at h
    refine wpAny_bind ?_
    exact wpAny_of_eq (a := Value.bytes b t) rfl (wpAny_pure ⟨_, rfl, h t _⟩)
  · rw [if_neg hl]
    refine wpAny_bind (wpAny_mkBytes (wpAny_pure ⟨_, rfl, h _ _⟩) ?_)
    have : (b.toList.dropWhile c.contains).length ≤ b.toList.length := (List.dropWhile_suffix _).length_le
    simp at this ⊢; omega
section
variable {X : Wd} {t : Bool} {A : Around} {s : Shared} {a b : Value} {x y : Array UInt8}
theorem op_revB (hz : (revB x).size ≤ sizeLine) (ha : RBytes x s.heap a) (hb : RSlice none none (some (-1)) s.heap b) : Op X t A s (getItem a b) (RBytes (revB x)) := fun E => by
  obtain ⟨tx, rfl⟩ := ha
  obtain ⟨d, vl, vu, vs, rfl, hd, pl, pu, ps⟩ := hb
  cases pl; cases pu; cases ps
  exact getItem_meets (typeIs_bytes _ _ _) (by decide) PySem.W.FB.slot_bytes_getitem PySem.W.FB.entry_bytes_getitem (PySem.W.FB.args_bytes_getitem_2 _ _) (meets_rev x tx d _) ⟨⟨_, hd, rfl, rfl⟩, hz, fun t' k => ⟨⟨_, rfl⟩, Wd.K.tok⟩⟩
theorem op_cutB {lo hi : Option Int} (hz : x.size ≤ sizeLine) (ha : RBytes x s.heap a) (hb : RSlice lo hi none s.heap b) : Op X t A s (getItem a b) (RBytes (KBy.picked x lo hi)) := fun E => by
  obtain ⟨tx, rfl⟩ := ha
  obtain ⟨d, vl, vu, vs, rfl, hd, pl, pu, ps⟩ := hb
  cases ps
  exact getItem_meets (typeIs_bytes _ _ _) (by decide) PySem.W.FB.slot_bytes_getitem PySem.W.FB.entry_bytes_getitem (PySem.W.FB.args_bytes_getitem_2 _ _) (PySem.W.KBc.meets_slice2 x tx d pl pu) ⟨⟨_, hd, rfl, rfl⟩, Nat.le_trans (PySem.W.KBc.size_picked_le _ _ _) hz, fun t' k => ⟨⟨_, rfl⟩, Wd.K.tok⟩⟩
theorem op_lstrip (hz : x.size ≤ sizeLine) (ha : RBytes x s.heap a) (hb : RBytes y s.heap b) : Op X t A s (call (.builtin "bytes.lstrip") [a, b]) (RBytes (x.toList.dropWhile y.contains).toArray) := fun E => by
  obtain ⟨tx, rfl⟩ := ha
  obtain ⟨ty, rfl⟩ := hb
  exact lstrip_any x y tx ty hz fun t' k => ⟨⟨_, rfl⟩, Wd.K.tok⟩
theorem op_intI {i : Int} (ha : RInt i s.heap a) : Op X t A s (call (.type "int") [a]) (RInt i) := fun E => by
  obtain ⟨_, rfl⟩ := ha
  exact call_int_int ⟨⟨_, rfl⟩, Wd.K.refl⟩
variable {env : Env} {ρ : Vars} {value : Expr} {el eu : Option Expr} {lo hi : Option Int} {p1 pos : Pos} {es : Expr}
theorem Ev.revB' (h1 : Ev X t A env ρ value (RBytes x)) (c : Ev X t A env ρ es (RInt (-1))) (hz : (revB x).size ≤ sizeLine) : Ev X t A env ρ (.Subscript value (.Slice none none (some es) p1) pos) (RBytes (revB x)) :=
  Ev.sub PySem.W.FB.slot_bytes_getitem.lookup h1 stab_bytes (Ev.slice .none .none (.some c)) (fun s v ⟨_, p⟩ => by subst p; exact typeIs_bytes _ _ _) (fun s u v _ _ p q => op_revB hz p q) hsub_slice3
theorem Ev.cutB (h1 : Ev X t A env ρ value (RBytes x)) (a : EvP X t A env ρ el lo) (b : EvP X t A env ρ eu hi) (hz : x.size ≤ sizeLine) : Ev X t A env ρ (.Subscript value (.Slice el eu none p1) pos) (RBytes (KBy.picked x lo hi)) :=
  Ev.sub PySem.W.FB.slot_bytes_getitem.lookup h1 stab_bytes (Ev.slice a b .none) (fun s v ⟨_, p⟩ => by subst p; exact typeIs_bytes _ _ _) (fun s u v _ _ p q => op_cutB hz p q) hsub_slice2
theorem Ev.addB {l r : Expr} {y : Array UInt8} (hz : x.size + y.size ≤ 16777216) (h1 : Ev X t A env ρ l (RBytes x)) (h2 : Ev X t A env ρ r (RBytes y)) : Ev X t A env ρ (.BinOp l .Add r pos) (RBytes (x ++ y)) := Ev.bin stab_bytes h1 h2 fun _ _ _ _ _ p q => op_addB hz p q
end
end Mine
namespace Mine
section
variable {X : Wd} {t : Bool} {A : Around} {env : Env} {ρ : Vars} {N : Inv} {s₀ : Shared} {test : Expr} {pos : Pos} {body rest : List Stmt} {Q : Flow → Shared → Prop}
theorem Bd.whileN (J : Nat → Vars) (n : Nat) (h0 : ∀ s, St X t env s₀ N ρ s → St X t env s₀ N (J 0) s) (hT : ∀ i, i < n → Tv X t A env (J i) test true) (hF : Tv X t A env (J n) test false)
    (step : ∀ i, i < n → Bd X t A env s₀ N (J i) body (fun f s' => f = .next ∧ St X t env s₀ N (J (i + 1)) s')) (hr : Bd X t A env s₀ N (J n) rest Q) : Bd X t A env s₀ N ρ (.While test body [] pos :: rest) Q := fun s E F => by
  refine wpAny_execs_cons (wpAny_While ?_)
  refine codeAny_whileLoop (fun k s' => ∃ i, i ≤ n ∧ k = n + 1 - i ∧ St X t env s₀ N (J i) s') ?_ (n + 1) ⟨0, Nat.zero_le _, rfl, h0 _ F⟩
  rintro k s' ⟨i, hi, rfl, F'⟩
  by_cases hlt : i < n
  · refine wpAny_mono (hT i hlt s' _ F'.2.2.1 F'.2.2.2.1 F'.2.1) (fun b s2 ⟨e, k2⟩ => ?_) fun _ _ x => x
    subst e
    refine wpAny_mono (step i hlt s2 _ (F'.go k2)) (fun f s3 ⟨ef, F3⟩ => ?_) fun _ _ x => x
    subst ef
    exact ⟨n + 1 - (i + 1), by omega, i + 1, hlt, rfl, F3⟩
  · have hin : i = n := by omega
    subst hin
    refine wpAny_mono (hF s' _ F'.2.2.1 F'.2.2.2.1 F'.2.1) (fun b s2 ⟨e, k2⟩ => ?_) fun _ _ x => x
    subst e
    refine wpAny_execs_nil ?_
    exact hr s2 E (F'.go k2)
end
/-! Int2AP -/
def apB : Array UInt8 := #[65, 66, 67, 68, 69, 70, 71, 72, 73, 74, 75, 76, 77, 78, 79, 80]
def absI (x : Int) : Int := if x < 0 then -x else x
def apS (x : Int) : Nat → Int × Array UInt8
  | 0 => (absI x, #[])
  | i + 1 => ((apS x i).1.fdiv 16, KBy.picked apB (some ((apS x i).1.fmod 16)) (some ((apS x i).1.fmod 16 + 1)) ++ (apS x i).2)
def apOk (x : Int) (n : Nat) : Bool := (List.range n).all (fun i => decide ((apS x i).1 ≠ 0) && !Builtin.divisionGoesByPylong (apS x i).1 16 && decide ((apS x i).2.size ≤ 1000)) && decide ((apS x n).1 = 0)
section
variable {prog : Program} {w : World} {mg mb : Str → Option Value} {hO : Heap} {A : Around}
theorem fn_ap (H : Pf w mg mb) (x : Int) (n : Nat) (hok : apOk x n = true) : Fn (WX prog w mg mb hO) true 1 80 [RInt x] (RBytes (apS x n).2) := by
  unfold apOk at hok
  obtain ⟨h1, h2⟩ := Bool.and_eq_true_iff.mp hok
  have h2 : (apS x n).1 = 0 := of_decide_eq_true h2
  refine Fn.intro (names := ["num"]) (fun h g => ⟨⟨_, g.k _ _ rfl, rfl⟩, codeRec g rfl rfl rfl rfl⟩) rfl rfl (fun vs hv => ?_) rfl (by decide) (by simpa using stab_int) (fun L x hx => ?_) rfl rfl rfl (fun A s₀ ok G T => ?_)
  · match vs, hv with
    | [v], _ => rfl
  · left
    rw [List.mem_singleton.mp hx]; rfl
  · have hsz := sizeLine_ge
    refine Bd.assign (P := RBytes #[]) G rfl (.loc rfl) Ev.bytes stab_bytes rfl ?_
    refine Bd.assign (P := RBytes apB) G rfl (.loc rfl) Ev.bytes stab_bytes rfl ?_
    refine Bd.assign (P := RInt (absI x)) G rfl (.loc rfl) (Ev.tf H (by decide) bi_int (by decide) (EvL.c1 stab_int (Ev.abs H (Ev.nm rfl))) (fun s vs a => by obtain ⟨v, rfl, p⟩ := are1 a; exact op_intI p)) stab_int rfl ?_
    refine Bd.whileN (fun i => [("num", RInt (apS x i).1), ("val", RBytes (apS x i).2), ("AP", RBytes apB)]) n (fun s F => F.sub ?_) (fun i hi => ?_) ?_ (fun i hi => ?_) ?_
    · simp only [List.mem_cons, List.not_mem_nil, or_false]
      rintro q (rfl | rfl | rfl) <;> rfl
    · have := List.all_eq_true.mp h1 i (List.mem_range.mpr hi)
      simp only [Bool.and_eq_true, decide_eq_true_eq] at this
      exact Tv.to (Tv.intT (Ev.nm rfl)) (by simpa using this.1.1)
    · exact Tv.to (Tv.intT (Ev.nm rfl)) (by rw [h2]; rfl)
    · have := List.all_eq_true.mp h1 i (List.mem_range.mpr hi)
      simp only [Bool.and_eq_true, decide_eq_true_eq, Bool.not_eq_true'] at this
      obtain ⟨⟨k1, k2⟩, k3⟩ := this
      refine Bd.assign2 (i := (apS x i).1.fdiv 16) (j := (apS x i).1.fmod 16) G ok.1 rfl (.loc rfl) (.loc rfl) (Ev.divmod H (by decide) k2 (Ev.nm rfl) Ev.int) ?_
      refine Bd.assign (P := RBytes (apS x (i + 1)).2) G rfl (.loc rfl) (Ev.addB ?_ (Ev.cutB (x := apB) (Ev.nm rfl) (.some (Ev.nm rfl)) (.some (Ev.addI (Ev.nm rfl) Ev.int)) (by show 16 ≤ _; omega)) (Ev.nm rfl)) stab_bytes rfl ?_
      · have := PySem.W.KBc.size_picked_le apB (some ((apS x i).1.fmod 16)) (some ((apS x i).1.fmod 16 + 1))
        have e : apB.size = 16 := rfl
        omega
      · refine Bd.nil fun s' F' => ⟨rfl, F'.sub ?_⟩
        simp only [List.mem_cons, List.not_mem_nil, or_false]
        rintro q (rfl | rfl | rfl) <;> rfl
    · exact Bd.ret (Ev.nm rfl) fun v s' k p => ⟨v, rfl, p, k⟩
end
/-! _law_ones -/
def oneOf (i : Int) : Int := toInt 4 (List.replicate i.toNat 1)
def prS (a : Int) : Nat → Int
  | 0 => 1
  | i + 1 => prS a i * oneOf (a + (i : Nat))
def onesOk (a : Int) (n : Nat) : Bool := decide (0 ≤ a) && decide (a ≤ 50) && decide (n ≤ 50) && (List.range n).all fun i => toIntOk 4 (List.replicate (a + (i : Nat)).toNat 1) && decide (Builtin.Int.intBits (prS a i) ≤ 2 ^ 20) && decide (Builtin.Int.intBits (oneOf (a + (i : Nat))) ≤ 2 ^ 20)
section
variable {prog : Program} {w : World} {mg mb : Str → Option Value} {hO : Heap} {A : Around}
theorem fn_ones (H : Pf w mg mb) (a b : Int) (n : Nat) (hb : b = a + (n : Nat)) (hok : onesOk a n = true) : Fn (WX prog w mg mb hO) true 10 131 [RRange a b 1] (RInt (prS a n)) := by
  unfold onesOk at hok
  simp only [Bool.and_eq_true, decide_eq_true_eq] at hok
  obtain ⟨⟨⟨k1, k2⟩, k3⟩, k4⟩ := hok
  refine Fn.intro (names := ["sizes"]) (fun h g => ⟨⟨_, g.k _ _ rfl, rfl⟩, codeRec g rfl rfl rfl rfl⟩) rfl rfl (fun vs hv => ?_) rfl (by decide) (by simpa using stab_range) (fun L x hx => ?_) rfl rfl rfl (fun A s₀ ok G T => ?_)
  · match vs, hv with
    | [v], _ => rfl
  · left
    rw [List.mem_singleton.mp hx]; rfl
  · have hsz := sizeLine_ge
    have hl : (irange a b).length = n := by rw [irange_len]; omega
    refine Bd.assign (P := RInt 1) G rfl (.loc rfl) Ev.int stab_int rfl ?_
    refine Bd.forI (l := irange a b) (R := RInt) G ok.1 rfl (.loc rfl) (Ev.nm rfl) (itb_range (by omega) (by omega) (by omega) (by omega)) (fun _ => stab_int) (fun _ _ _ _ h => h) (fun i => [("product", RInt (prS a i))]) (fun s F => F.sub ?_) (fun i x N' hx => ?_) ?_
    · simp only [List.mem_cons, List.not_mem_nil, or_false]
      rintro q rfl; rfl
    · have hi : i < n := by
        obtain ⟨h, _⟩ := List.getElem?_eq_some_iff.mp hx
        omega
      have hxe : x = a + (i : Nat) := by
        unfold irange at hx
        rw [List.getElem?_map, List.getElem?_range (by omega)] at hx
        simpa using hx.symm
      subst hxe
      have := List.all_eq_true.mp k4 i (List.mem_range.mpr hi)
      simp only [Bool.and_eq_true, decide_eq_true_eq] at this
      obtain ⟨⟨j1, j2⟩, j3⟩ := this
      have hrep : (List.replicate (a + (i : Nat)).toNat [(1 : Int)]).flatten = List.replicate (a + (i : Nat)).toNat 1 := by
        generalize (a + (i : Nat)).toNat = k
        induction k with
        | zero => rfl
        | succ k ih => rw [List.replicate_succ, List.flatten_cons, ih]; rfl
      refine Bd.assign (P := RInt (prS a (i + 1))) G rfl (.loc rfl) (Ev.mulI (IntMulOk.of_bits j2 j3) (Ev.nm rfl) (Ev.fnG H (by kernel_rfl) rfl rfl (fn_toInt H 4 _ j1) ok (EvL.c (stab_list fun _ => stab_int) (Ev.eq (Ev.mulL (R := RInt) (m := [(1 : Int)]) (i := a + (i : Nat)) (fun _ => stab_int) (n := (a + (i : Nat)).toNat) (by omega) (by omega) (by simp; omega) (Ev.list (R := RInt) (l := [(1 : Int)]) (fun _ => stab_int) (by show 1 ≤ _; omega) (EvL.c1 stab_int Ev.int)) (Ev.nm rfl)) (by rw [hrep])) (EvL.c1 stab_int Ev.int)))) stab_int rfl ?_
      refine Bd.nil fun s' F' => ⟨rfl, F'.sub ?_⟩
      simp only [List.mem_cons, List.not_mem_nil, or_false]
      rintro q rfl; rfl
    · rw [hl]
      exact Bd.ret (Ev.nm rfl) fun v s' k p => ⟨v, rfl, p, k⟩
end
end Mine
namespace Mine
def kp0 (k : Nat) : List (List Str) := [[⟨#[]⟩]] ++ (irange 0 k).map fun _ => []
def kPl (kept : List (List Str)) : List (List Str) := kept.map fun row => row.map fun m => ch 48 ++ m
def kMo (kept : List (List Str)) : List (List Str) := [[]] ++ (pick kept none (some (-1)) none).map fun row => row.map fun m => ch 49 ++ m
def kpS (k : Nat) (kept : List (List Str)) : List (List Str) := (irange 0 ((k : Int) + 1)).map fun j => (kPl kept).getD j.toNat [] ++ (kMo kept).getD j.toNat []
def kp (k : Nat) : Nat → List (List Str)
  | 0 => kp0 k
  | i + 1 => kpS k (kp k i)
def kpOk (k : Nat) (kept : List (List Str)) : Bool := decide (kept.length = k + 1) && kept.all (fun row => decide (row.length ≤ 1000) && row.all fun m => decide (m.length ≤ 100))
def marksOk (n k : Nat) : Bool := decide (k ≤ 50) && decide (n ≤ 50) && (List.range (n + 1)).all fun i => kpOk k (kp k i)
def marksOf (n k : Nat) : List Str := (kp k n).getD k []
theorem stab_rows : ∀ x : List Str, Stab (RList RStr x) := fun _ => stab_list fun _ => stab_str
theorem shal_rows : ∀ x : List Str, Shal (RList RStr x) := fun _ => shal_list fun _ _ _ _ h => h
theorem mo_len (kept : List (List Str)) (k : Nat) (h : kept.length = k + 1) : (kMo kept).length = k + 1 := by
  unfold kMo
  rw [pick_butLast, List.length_append, List.length_map, List.length_take, h]
  simp; omega
theorem mo_rows (kept : List (List Str)) (c : Nat) (h : ∀ r ∈ kept, r.length ≤ c) : ∀ r ∈ kMo kept, r.length ≤ c := fun r hr => by
  unfold kMo at hr
  rcases List.mem_append.mp hr with hr | hr
  · rw [List.mem_singleton.mp hr]; exact Nat.zero_le _
  · obtain ⟨q, hq, rfl⟩ := List.mem_map.mp hr
    rw [List.length_map]
    rw [pick_butLast] at hq
    exact h _ (List.mem_of_mem_take hq)
section
variable {prog : Program} {w : World} {mg mb : Str → Option Value} {hO : Heap} {A : Around}
theorem fn_marks (H : Pf w mg mb) (n k : Nat) (hok : marksOk n k = true) : Fn (WX prog w mg mb hO) false 1 124 [RInt (n : Int), RInt (k : Int)] (RList RStr (marksOf n k)) := by
  unfold marksOk at hok
  simp only [Bool.and_eq_true, decide_eq_true_eq] at hok
  obtain ⟨⟨k1, k2⟩, k3⟩ := hok
  refine Fn.intro (names := ["n", "k"]) (fun h g => ⟨⟨_, g.k _ _ rfl, rfl⟩, codeRec g rfl rfl rfl rfl⟩) rfl rfl (fun vs hv => ?_) rfl (by decide) (fun P hP => ?_) (fun L x hx => ?_) rfl rfl rfl (fun A s₀ ok G T => ?_)
  · match vs, hv with
    | [v, u], _ => rfl
  · simp only [List.mem_cons, List.not_mem_nil, or_false] at hP
    rcases hP with rfl | rfl <;> exact stab_int
  · left
    simp only [List.mem_cons, List.not_mem_nil, or_false] at hx
    rcases hx with rfl | rfl <;> rfl
  · have hsz := sizeLine_ge
    have good : ∀ i, i ≤ n → (kp k i).length = k + 1 ∧ ∀ r ∈ kp k i, r.length ≤ 1000 ∧ ∀ m ∈ r, m.length ≤ 100 := fun i hi => by
      have := List.all_eq_true.mp k3 i (List.mem_range.mpr (by omega))
      unfold kpOk at this
      simp only [Bool.and_eq_true, decide_eq_true_eq, List.all_eq_true] at this
      exact this
    refine Bd.assign (P := RList (RList RStr) (kp k 0)) G rfl (.loc rfl) ?_ (stab_list stab_rows) rfl ?_
    · refine Ev.addL (R := RList RStr) stab_rows (l := [[⟨#[]⟩]]) (m := (irange 0 k).map fun _ => ([] : List Str)) (by rw [List.length_map, irange_len]; simp; omega) (Ev.list (R := RList RStr) (l := [[⟨#[]⟩]]) stab_rows (by show 1 ≤ _; omega) (EvL.c1 (stab_rows _) (Ev.list (R := RStr) (l := [⟨#[]⟩]) (fun _ => stab_str) (by show 1 ≤ _; omega) (EvL.c1 stab_str Ev.str)))) ?_
      refine Ev.comp0 (l := irange 0 k) (R := RInt) (R' := RList RStr) (caps := []) ok.1 (by rw [irange_len]; omega) (Ev.range1 H (Ev.nm rfl)) (itb_range (by decide) (by decide) (by omega) (by omega)) rfl .l .nil (fun _ => stab_int) stab_rows shal_rows fun C a ha => ?_
      exact EvN.list (R := RStr) (l := []) (fun _ => stab_str) (Nat.zero_le _) EvL.nil
    refine Bd.forI (l := irange 0 (n : Int)) (R := RInt) G ok.1 rfl (.loc rfl) (Ev.range1 H (Ev.nm rfl)) (itb_range (by decide) (by decide) (by omega) (by omega)) (fun _ => stab_int) (fun _ _ _ _ h => h) (fun i => [("kept", RList (RList RStr) (kp k i)), ("k", RInt (k : Int))]) (fun s F => F.sub ?_) (fun i x N' hx => ?_) ?_
    · simp only [List.mem_cons, List.not_mem_nil, or_false]
      rintro q (rfl | rfl) <;> rfl
    · have hi : i < n := by
        obtain ⟨h, _⟩ := List.getElem?_eq_some_iff.mp hx
        rw [irange_len] at h; omega
      obtain ⟨g1, g2⟩ := good i (by omega)
      have lr : ∀ (c : Nat), c < 1000 → ∀ (a : List Str), a ∈ kp k i → ∀ x ∈ a, (ch c).length + x.length ≤ sizeLine := fun c _ a ha x hx => by
        have := (g2 a ha).2 x hx
        have e : (ch c).length = 1 := rfl
        omega
      refine Bd.assign (P := RList (RList RStr) (kPl (kp k i))) G rfl (.cel _ rfl rfl) ?_ (stab_list stab_rows) rfl ?_
      · refine Ev.comp0 (l := kp k i) (R := RList RStr) (R' := RList RStr) (caps := []) ok.1 (by omega) (Ev.nm rfl) itb_list rfl .l .nil stab_rows stab_rows shal_rows fun C a ha => ?_
        refine EvN.comp0 (l := a) (R := RStr) (R' := RStr) (caps := []) ok.1 (by have := (g2 a ha).1; omega) (Ev.nm rfl) itb_list rfl .l .nil (fun _ => stab_str) (fun _ => stab_str) (fun _ => shal_str) fun C' m hm => ?_
        exact Ev.new scal_str (Ev.addS (x := ch 48) (lr 48 (by omega) a ha m hm) Ev.str (Ev.nm rfl))
      refine Bd.assign (P := RList (RList RStr) (kMo (kp k i))) G rfl (.cel _ rfl rfl) ?_ (stab_list stab_rows) rfl ?_
      · have hp : (pick (kp k i) none (some (-1)) none).length ≤ k + 1 := by rw [pick_butLast, List.length_take]; omega
        refine Ev.addL (R := RList RStr) stab_rows (l := [[]]) (m := (pick (kp k i) none (some (-1)) none).map fun row => row.map fun m => ch 49 ++ m) (by rw [List.length_map]; show 1 + _ ≤ _; omega) (Ev.list (R := RList RStr) (l := [[]]) stab_rows (by show 1 ≤ _; omega) (EvL.c1 (stab_rows _) (Ev.list (R := RStr) (l := []) (fun _ => stab_str) (Nat.zero_le _) EvL.nil))) ?_
        refine Ev.comp0 (l := pick (kp k i) none (some (-1)) none) (R := RList RStr) (R' := RList RStr) (caps := []) ok.1 (by omega) (Ev.lslice (Ev.nm rfl) .none (.some (Ev.neg Ev.int)) .none (by decide) (by omega) stab_rows) itb_list rfl .l .nil stab_rows stab_rows shal_rows fun C a ha => ?_
        have ha' : a ∈ kp k i := by rw [pick_butLast] at ha; exact List.mem_of_mem_take ha
        refine EvN.comp0 (l := a) (R := RStr) (R' := RStr) (caps := []) ok.1 (by have := (g2 a ha').1; omega) (Ev.nm rfl) itb_list rfl .l .nil (fun _ => stab_str) (fun _ => stab_str) (fun _ => shal_str) fun C' m hm => ?_
        exact Ev.new scal_str (Ev.addS (x := ch 49) (lr 49 (by omega) a ha' m hm) Ev.str (Ev.nm rfl))
      refine Bd.comp0 (l := irange 0 ((k : Int) + 1)) (R := RInt) (R' := RList RStr) (g := fun j => (kPl (kp k i)).getD j.toNat [] ++ (kMo (kp k i)).getD j.toNat []) (caps := ["plain", "more"]) G ok.1 (by rw [irange_len]; omega) (Ev.range1 H (Ev.addI (Ev.nm rfl) Ev.int)) (itb_range (by decide) (by decide) (by omega) (by omega)) rfl .l (.c (.c .nil)) (fun _ => stab_int) stab_rows shal_rows (fun C a ha => ?_) ?_
      · obtain ⟨j, rfl, hj⟩ := mem_irange0 (n := k + 1) (by exact_mod_cast ha)
        have e1 : (kPl (kp k i))[j]? = some ((kPl (kp k i)).getD j []) := by rw [List.getD_eq_getElem?_getD, List.getElem?_eq_getElem (by unfold kPl; rw [List.length_map]; omega)]; rfl
        have e2 : (kMo (kp k i))[j]? = some ((kMo (kp k i)).getD j []) := by rw [List.getD_eq_getElem?_getD, List.getElem?_eq_getElem (by rw [mo_len _ k g1]; omega)]; rfl
        have l1 : ((kPl (kp k i)).getD j []).length ≤ 1000 := by
          obtain ⟨q, hq, e⟩ := List.mem_map.mp (List.mem_of_getElem? e1)
          rw [← e, List.length_map]
          exact (g2 q hq).1
        have l2 := mo_rows (kp k i) 1000 (fun r hr => (g2 r hr).1) _ (List.mem_of_getElem? e2)
        rw [Int.toNat_natCast]
        exact EvN.addL (fun _ => stab_str) (by omega) (Ev.litem (Ev.nm rfl) (Ev.nm rfl) rfl e1 (by omega) stab_rows) (Ev.litem (Ev.nm rfl) (Ev.nm rfl) rfl e2 (by omega) stab_rows)
      · refine Bd.nil fun s' F' => ⟨rfl, F'.sub ?_⟩
        simp only [List.mem_cons, List.not_mem_nil, or_false]
        rintro q (rfl | rfl) <;> rfl
    · have hl : (irange 0 (n : Int)).length = n := by rw [irange_len]; omega
      rw [hl]
      obtain ⟨g1, g2⟩ := good n (Nat.le_refl _)
      refine Bd.ret (Ev.litem (k := k) (x := marksOf n k) (Ev.nm rfl) (Ev.nm rfl) rfl ?_ (by omega) stab_rows) fun v s' k p => ⟨v, rfl, p, k⟩
      unfold marksOf
      rw [List.getD_eq_getElem?_getD, List.getElem?_eq_getElem (by omega)]; rfl
end
end Mine
namespace Mine
section
variable {X : Wd} {t : Bool} {A : Around} {s : Shared} {a b : Value} {l m : List Int}
theorem op_eqI2 (hu : A.units + 1 < cLine) (ha : RLst l s.heap a) (hb : RLst m s.heap b) : Op X t A s (compareOp .Eq a b) (RBool (eqL (fun x y => x == y) l m)) := fun E => by
  obtain ⟨a, vs, rfl, hL, p⟩ := ha
  obtain ⟨b, us, rfl, hM, p'⟩ := hb
  by_cases hz : vs.size = us.size
  · obtain ⟨e, he, ha⟩ := eq_parts (a := a) (b := b) (n := 0) (n' := 0) (eqR_int (d := 0)) hu p p' hz
    exact SeqAt.RcAt.lists hL hM hz (by omega) he _ _ _ _ ⟨by rw [ha]; rfl, Wd.K.refl⟩
  · refine SeqAt.RcAt.lists_lengths hL hM (by simpa using hz) (by omega) _ _ _ _ ⟨?_, Wd.K.refl⟩
    rw [eqL_len (by have e1 : l.length = vs.size := by rw [p.length]; simp
                    have e2 : m.length = us.size := by rw [p'.length]; simp
                    omega)]
    rfl
theorem op_neI2 (hu : A.units + 1 < cLine) (ha : RLst l s.heap a) (hb : RLst m s.heap b) : Op X t A s (compareOp .NotEq a b) (RBool (!eqL (fun x y => x == y) l m)) := fun E => by
  obtain ⟨a, vs, rfl, hL, p⟩ := ha
  obtain ⟨b, us, rfl, hM, p'⟩ := hb
  by_cases hz : vs.size = us.size
  · obtain ⟨e, he, ha⟩ := eq_parts (a := a) (b := b) (n := 0) (n' := 0) (eqR_int (d := 0)) hu p p' hz
    exact SeqAt.RcNeAt.lists hL hM hz (by omega) he _ _ _ _ ⟨by rw [ha]; rfl, Wd.K.refl⟩
  · refine SeqAt.RcNeAt.lists_lengths hL hM (by simpa using hz) (by omega) _ _ _ _ ⟨?_, Wd.K.refl⟩
    rw [eqL_len (by have e1 : l.length = vs.size := by rw [p.length]; simp
                    have e2 : m.length = us.size := by rw [p'.length]; simp
                    omega)]
    rfl
variable {env : Env} {ρ : Vars} {pos apos : Pos} {e1 e2 o : Expr}
theorem Tv.or2 (h1 : Tv X t A env ρ e1 false) (h2 : Tv X t A env ρ e2 false) : Tv X t A env ρ (.BoolOp .Or [e1, e2] pos) false := fun s E G T V => by
  refine wpAny_isTrue_BoolOp (wpAny_allTrue_Or_cons (wpAny_mono (h1 s E G T V) (fun b s1 ⟨e, k⟩ => ?_) fun _ _ x => x))
  subst e
  show wpAny _ _ (allTrue .Or [e2] env) _ _ _
  refine wpAny_allTrue_Or_cons (wpAny_mono (h2 s1 E (k.g G) (k.tb T) (V.kn k.kn)) (fun b s2 ⟨e, k2⟩ => ?_) fun _ _ x => x)
  subst e
  exact wpAny_allTrue_Or_nil ⟨rfl, k.trans k2⟩
theorem Ev.and2 {q : Bool} (h1 : Ev X t A env ρ e1 (RBool true)) (h2 : Ev X t A env ρ e2 (RBool q)) : Ev X t A env ρ (.BoolOp .And [e1, e2] pos) (RBool q) := fun s E G T V => by
  refine BoolOp_and (wpAny_mono (h1 s E G T V) (fun v s1 ⟨e, k⟩ => ?_) fun _ _ x => x)
  have e : v = .bool true := e
  subst e
  refine wpAny_truthy_bool ?_
  show wpAny _ _ (eval (.BoolOp .And [e2] pos) env) _ _ _
  exact BoolOp_one (wpAny_mono (h2 s1 E (k.g G) (k.tb T) (V.kn k.kn)) (fun v s2 ⟨p, k2⟩ => ⟨p, k.trans k2⟩) fun _ _ x => x)
/-- x.split(y), in a comprehension -/
theorem EvN.split {x y : Str} (hy : (y.length == 0) = false) (hsz : x.length ≤ sizeLine) (hsz2 : (Builtin.Str.partsBetween x (Builtin.Str.occurrences x y 0 x.length (x.length + 1)) y.length).length ≤ sizeLine)
    (ho : Ev X false A env ρ o (RStr x)) (he : Ev X false A env ρ e1 (RStr y)) (hbase : attributeBase o "split" env (eval o env) = eval o env := by rfl) (hline : (apos.endLine == pos.line) = true := by rfl)
    (hfew : ((backTo pos (starEach [e1] env)).all (fun x => !x.1) && (backToKw pos (keywordEach [] env)).all (fun x => x.1.isSome)
      && decide ([e1].length + ([] : List Keyword).length + (if ([] : List Keyword).isEmpty then 0 else 1) < 30)) = true := by rfl)
    (hs : starEach [e1] env = [(false, eval e1 env)] := by rfl) (hpl : (backTo pos (starEach [e1] env)).any (·.1) = false := by rfl) :
    EvN X false A env ρ (.Call (.Attribute o "split" apos) [e1] [] pos) (RList RStr (Txt.split x y)) := fun s E G Tb V => by
  refine wpAny_Call_method_lateS hbase hfew hline (wpAny_mono (ho s E G Tb V) (fun v s1 ⟨p, k⟩ => ?_) fun _ _ x => x)
  obtain ⟨tx, rfl⟩ := p
  refine ⟨"str", "str.split", F.plainAttrs_str, F.slot_str_split, F.type_str_split, typeIs_str _ _ _, (fun a q => by cases q), ?_⟩
  refine callWith_builtin hpl ?_
  rw [hs]
  refine evalArgs_plain ?_
  have := (EvL.c1 stab_str he hs) s1 E pos (k.g G) (k.tb Tb) (V.kn k.kn)
  rw [hs] at this
  refine wpAny_mono this (fun vs s2 ⟨ps, k2⟩ => ?_) fun _ _ x => x
  obtain ⟨u, rfl, pu⟩ := are1 ps
  refine wpAny_mono (op_split (X := X) (t := false) (s := s2) (A := A) hy hsz hsz2 ⟨tx, rfl⟩ pu E) (fun v s3 ⟨⟨p, f⟩, k3⟩ => ⟨⟨p, fun a q => ?_⟩, k.trans (k2.trans k3)⟩) fun _ _ x => x
  cases z : s.heap.get? a with
  | none => rfl
  | some o' => have := (k.trans k2).kn.all _ _ z; rw [f a q] at this; cases this
/-- x.count(y) -/
theorem Ev.countL {α : Type} {R : α → Rp} {q : α → α → Bool} {l : List α} {x : α} (hE : ∀ d, EqR (d + 1) R q) (hf : Fun1 R) (hu : A.units + 10 < cLine) (sx : ∀ x, Stab (R x)) (ho : Ev X t A env ρ o (RList R l)) (he : Ev X t A env ρ e1 (R x))
    (hbase : attributeBase o "count" env (eval o env) = eval o env := by rfl) (hline : (apos.endLine == pos.line) = true := by rfl)
    (hfew : ((backTo pos (starEach [e1] env)).all (fun x => !x.1) && (backToKw pos (keywordEach [] env)).all (fun x => x.1.isSome)
      && decide ([e1].length + ([] : List Keyword).length + (if ([] : List Keyword).isEmpty then 0 else 1) < 30)) = true := by rfl)
    (hs : starEach [e1] env = [(false, eval e1 env)] := by rfl) (hpl : (backTo pos (starEach [e1] env)).any (·.1) = false := by rfl) :
    Ev X t A env ρ (.Call (.Attribute o "count" apos) [e1] [] pos) (RInt (l.countP fun y => q y x)) :=
  Ev.meth (T := "list") F.plainAttrs_list F.slot_list_count F.type_list_count hbase hline hfew ho (stab_list sx) (fun s v p => list_type' p) (EvL.c1 (sx _) he hs) (fun s v vs _ _ p a => by
    obtain ⟨u, rfl, pu⟩ := are1 a
    exact op_count (d := 0) (hE 0) hf (by omega) p pu) hs hpl
end
theorem dots_len (cs : List Nat) : (dots cs).length = (crs cs).length + cs.countP (· == 46) := by
  induction cs with
  | nil => rfl
  | cons c r ih =>
    have e1 : dots (c :: r) = (if c = 46 then [46, 46] else [c]) ++ [13, 10] ++ dots r := by simp [dots]
    have e2 : crs (c :: r) = [c, 13, 10] ++ crs r := by simp [crs]
    rw [e1, e2, List.countP_cons, List.length_append, List.length_append, List.length_append, ih]
    by_cases h : c = 46 <;> simp [h] <;> omega
theorem quo_sub (ms : List Nat) : ((quoS ms).length : Int) - ((fixS ms).length : Int) = ((ms.countP (· == 49) : Nat) : Int) := by
  have e1 : (quoS ms).length = (dots (ms.map dotOf)).length := by simp [quoS, Str.length]
  have e2 : (fixS ms).length = (crs (ms.map dotOf)).length := by simp [fixS, Str.length]
  have e3 : (ms.map dotOf).countP (· == 46) = ms.countP (· == 49) := by
    rw [List.countP_map]
    congr 1
    funext c
    unfold dotOf
    by_cases h : c = 49 <;> simp [h]
  rw [e1, e2, dots_len, e3]; omega
end Mine
namespace Mine
/-! what the law computes, of n and k alone -/
def beqS (x y : Str) : Bool := x == y
def beqI (x y : Int) : Bool := x == y
def minT (m : Str) : Str := match turnsS m with
  | [] => ⟨#[]⟩
  | x :: r => best r x
def isHead (m : Str) : Bool := m.cps.toList == (minT m).cps.toList
def ltF : List Nat → List Nat → Bool
  | [], [] => false
  | [], _ :: _ => true
  | _ :: _, [] => false
  | a :: l, b :: m => Nat.blt a b || (Nat.beq a b && ltF l m)
theorem ltF_eq : ∀ l m : List Nat, decide (l < m) = ltF l m
  | [], [] => by simp [ltF]
  | [], _ :: _ => by simp [ltF]
  | _ :: _, [] => by simp [ltF]
  | a :: l, b :: m => by
    have h := ltF_eq l m
    unfold ltF
    rw [← h]
    have e1 : Nat.blt a b = decide (a < b) := by rw [Bool.eq_iff_iff]; simp [Nat.blt_eq]
    have e2 : Nat.beq a b = decide (a = b) := by rw [Bool.eq_iff_iff]; simp [Nat.beq_eq]
    rw [e1, e2, Bool.eq_iff_iff]
    simp [List.cons_lt_cons_iff]
def bestF : List (List Nat) → List Nat → List Nat
  | [], b => b
  | x :: r, b => bestF r (if ltF x b then x else b)
theorem best_F : ∀ (r : List Str) (b : Str), (best r b).cps.toList = bestF (r.map fun x => x.cps.toList) b.cps.toList
  | [], b => rfl
  | x :: r, b => by
    unfold best bestF
    rw [best_F r]
    congr 1
    unfold ltS
    rw [ltF_eq]
    split <;> rfl
def turnF (l : List Nat) : List (List Nat) := (List.range l.length).map fun j => l.drop j ++ l.take j
theorem turns_F (m : Str) : (turnsS m).map (fun x => x.cps.toList) = turnF m.cps.toList := by
  unfold turnsS turnF irange
  have e : m.cps.toList.length = m.length := by simp [Str.length]
  rw [List.map_map, List.map_map, e]
  have e2 : ((m.length : Int) - 0).toNat = m.length := by omega
  rw [e2]
  apply List.map_congr_left
  intro j hj
  have hj := List.mem_range.mp hj
  show (Txt.slice m (some ((0 : Int) + (j : Nat))) none ++ Txt.slice m none (some ((0 : Int) + (j : Nat)))).cps.toList = _
  have e3 : (0 : Int) + (j : Nat) = (j : Int) := by omega
  rw [e3, slice_from, slice_to (by omega), append_chars]
def headF (l : List Nat) : Bool := match turnF l with
  | [] => l == []
  | x :: r => l == bestF r x
theorem head_F (m : Str) : isHead m = headF m.cps.toList := by
  unfold isHead headF minT
  rw [← turns_F]
  cases turnsS m with
  | nil => rfl
  | cons x r =>
    show (m.cps.toList == (best r x).cps.toList) = _
    rw [best_F]
    rfl
def headsOf (n k : Nat) : List Str := (marksOf n k).filter fun m => headF m.cps.toList
def sentRow (m : Str) : List Str := Txt.split (quoS m.cps.toList) CRLF
def sentOf (n k : Nat) : List (List Str) := (headsOf n k).map sentRow
def wantRow (m : Str) : List Str := (m.cps.toList.map fun c => if ([c] == [49]) = true then DD else ch 97) ++ [⟨#[]⟩]
def wantOf (n k : Nat) : List (List Str) := (headsOf n k).map wantRow
def cutRow (r : List Str) : List Str := pick r none (some (-1)) none
def alikeOf (n k : Nat) : List Int := (sentOf n k).map fun r => ((turnsL (cutRow r)).countP (fun y => eqL beqS y (cutRow r)) : Int)
def o1 (n k : Nat) : Int := prS ((n : Int) - k + 1) k
def o2 (k : Nat) : Int := prS 1 k
def quotOf (n k : Nat) : Int := dmq (o1 n k) (o2 k)
def isOne (m : Str) (j : Int) : Bool := [m.cps.toList.getD j.toNat 0] == [49]
def sumOf (n k : Nat) (m : Str) : Int := ((irange 0 (n : Int)).filter (isOne m)).sum - ((k : Int) * ((k : Int) - 1)).fdiv 2
def sumsOf (n k : Nat) : List Int := (marksOf n k).map (sumOf n k)
def cntOf (n k : Nat) : List Int := (irange 0 ((k : Int) * ((n : Int) - k) + 1)).map fun t => ((sumsOf n k).countP (fun y => beqI y t) : Int)
def allF (n : Nat) : Int := toInt 4 (List.replicate n 15)
def restOf (n k : Nat) : Int := dmr (quotOf n k) (allF n)
def dueOf (n k : Nat) : List Int := (irange 0 (n : Int)).map fun i => (((alikeOf n k).filter fun t => i.fmod t == 0).length : Int)
def octsOf (n k : Nat) : List Int := (pick (dueOf n k) none none (some (-1))).map fun p => 65 + p
def wordOf (n k : Nat) : Array UInt8 := ((byteArr (octsOf n k)).toList.dropWhile (#[65] : Array UInt8).contains).toArray
def backOf (n k : Nat) : List Int := (KBw.bInts (revB (wordOf n k))).map fun o => o - 65
/-- all that the walk needs of n and k, and the answers -/
def ok1 (n k : Nat) : Bool := decide (n ≤ 10) && decide (k ≤ n) && marksOk n k && (marksOf n k).all (fun m => decide (m.length = n)) && decide ((marksOf n k).length ≤ 1000)
def ok2 (n k : Nat) : Bool := (headsOf n k).all (fun m => decide ((quoS m.cps.toList).length ≤ 1000) && decide ((Builtin.Str.partsBetween (quoS m.cps.toList) (Builtin.Str.occurrences (quoS m.cps.toList) CRLF 0 (quoS m.cps.toList).length ((quoS m.cps.toList).length + 1)) CRLF.length).length ≤ 1000) && decide ((sentRow m).length ≤ 60))
  && eqL (eqL beqS) (sentOf n k) (wantOf n k)
def ok3 (n k : Nat) : Bool := onesOk ((n : Int) - k + 1) k && onesOk 1 k && dmOk (o1 n k) (o2 k) && decide (dmr (o1 n k) (o2 k) = 0) && toDigOk 4 (quotOf n k) && eqL beqI (toDig 4 (quotOf n k)) (cntOf n k)
def ok4 (n k : Nat) : Bool := toIntOk 4 (List.replicate n 15) && dmOk (quotOf n k) (allF n) && toDigOk 4 (restOf n k) && (alikeOf n k).all (fun t => decide (t ≠ 0)) && (octsOf n k).all (fun o => decide (0 ≤ o) && decide (o < 256)) && decide ((dueOf n k).length ≤ 60) && decide ((octsOf n k).length ≤ 60) && decide ((byteArr (octsOf n k)).size ≤ 1000) && decide ((revB (wordOf n k)).size ≤ 1000)
  && apOk (0 - restOf n k) (mOf (restOf n k) 4) && ((apS (0 - restOf n k) (mOf (restOf n k) 4)).2.toList == (wordOf n k).toList) && eqL beqI (toDig 4 (restOf n k)) (backOf n k)
def lawOk (n k : Nat) : Bool := ok1 n k && ok2 n k && ok3 n k && ok4 n k
end Mine
namespace Mine
theorem law_4_0 : lawOk 4 0 = true := by decide +kernel
theorem law_4_1 : lawOk 4 1 = true := by decide +kernel
theorem law_4_2 : lawOk 4 2 = true := by decide +kernel
theorem law_4_3 : lawOk 4 3 = true := by decide +kernel
theorem law_4_4 : lawOk 4 4 = true := by decide +kernel
theorem law_5_0 : lawOk 5 0 = true := by decide +kernel
theorem law_5_1 : lawOk 5 1 = true := by decide +kernel
theorem law_5_2 : lawOk 5 2 = true := by decide +kernel
theorem law_5_3 : lawOk 5 3 = true := by decide +kernel
theorem law_5_4 : lawOk 5 4 = true := by decide +kernel
theorem law_5_5 : lawOk 5 5 = true := by decide +kernel
theorem law_6_0 : lawOk 6 0 = true := by decide +kernel
theorem law_6_1 : lawOk 6 1 = true := by decide +kernel
theorem law_6_2 : lawOk 6 2 = true := by decide +kernel
theorem law_6_3 : lawOk 6 3 = true := by decide +kernel
theorem law_6_4 : lawOk 6 4 = true := by decide +kernel
theorem law_6_5 : lawOk 6 5 = true := by decide +kernel
theorem law_6_6 : lawOk 6 6 = true := by decide +kernel
theorem law_7_0 : lawOk 7 0 = true := by decide +kernel
theorem law_7_1 : lawOk 7 1 = true := by decide +kernel
theorem law_7_2 : lawOk 7 2 = true := by decide +kernel
theorem law_7_3 : lawOk 7 3 = true := by decide +kernel
theorem law_7_4 : lawOk 7 4 = true := by decide +kernel
theorem law_7_5 : lawOk 7 5 = true := by decide +kernel
theorem law_7_6 : lawOk 7 6 = true := by decide +kernel
theorem law_7_7 : lawOk 7 7 = true := by decide +kernel
theorem law_8_0 : lawOk 8 0 = true := by decide +kernel
theorem law_8_1 : lawOk 8 1 = true := by decide +kernel
theorem law_8_2 : lawOk 8 2 = true := by decide +kernel
theorem law_8_3 : lawOk 8 3 = true := by decide +kernel
theorem law_8_4 : lawOk 8 4 = true := by decide +kernel
theorem law_8_5 : lawOk 8 5 = true := by decide +kernel
theorem law_8_6 : lawOk 8 6 = true := by decide +kernel
theorem law_8_7 : lawOk 8 7 = true := by decide +kernel
theorem law_8_8 : lawOk 8 8 = true := by decide +kernel
theorem all_laws : ∀ n k, 4 ≤ n → n ≤ 8 → k ≤ n → lawOk n k = true := fun n k h1 h2 h3 => by
  have hn : n = 4 ∨ n = 5 ∨ n = 6 ∨ n = 7 ∨ n = 8 := by omega
  rcases hn with rfl | rfl | rfl | rfl | rfl
  · have hk : k = 0 ∨ k = 1 ∨ k = 2 ∨ k = 3 ∨ k = 4 := by omega
    rcases hk with rfl | rfl | rfl | rfl | rfl
    · exact law_4_0
    · exact law_4_1
    · exact law_4_2
    · exact law_4_3
    · exact law_4_4
  · have hk : k = 0 ∨ k = 1 ∨ k = 2 ∨ k = 3 ∨ k = 4 ∨ k = 5 := by omega
    rcases hk with rfl | rfl | rfl | rfl | rfl | rfl
    · exact law_5_0
    · exact law_5_1
    · exact law_5_2
    · exact law_5_3
    · exact law_5_4
    · exact law_5_5
  · have hk : k = 0 ∨ k = 1 ∨ k = 2 ∨ k = 3 ∨ k = 4 ∨ k = 5 ∨ k = 6 := by omega
    rcases hk with rfl | rfl | rfl | rfl | rfl | rfl | rfl
    · exact law_6_0
    · exact law_6_1
    · exact law_6_2
    · exact law_6_3
    · exact law_6_4
    · exact law_6_5
    · exact law_6_6
  · have hk : k = 0 ∨ k = 1 ∨ k = 2 ∨ k = 3 ∨ k = 4 ∨ k = 5 ∨ k = 6 ∨ k = 7 := by omega
    rcases hk with rfl | rfl | rfl | rfl | rfl | rfl | rfl | rfl
    · exact law_7_0
    · exact law_7_1
    · exact law_7_2
    · exact law_7_3
    · exact law_7_4
    · exact law_7_5
    · exact law_7_6
    · exact law_7_7
  · have hk : k = 0 ∨ k = 1 ∨ k = 2 ∨ k = 3 ∨ k = 4 ∨ k = 5 ∨ k = 6 ∨ k = 7 ∨ k = 8 := by omega
    rcases hk with rfl | rfl | rfl | rfl | rfl | rfl | rfl | rfl | rfl
    · exact law_8_0
    · exact law_8_1
    · exact law_8_2
    · exact law_8_3
    · exact law_8_4
    · exact law_8_5
    · exact law_8_6
    · exact law_8_7
    · exact law_8_8
end Mine
namespace Mine
theorem div2 (c : Int) : Builtin.divisionGoesByPylong c 2 = false := rfl
def msOf (cs : List Int) (n : Nat) : List Nat := (cs.take n).map fun c => if (c.fmod 2 == 1) = true then 49 else 48
theorem eqS_row (d : Nat) : EqR (d + 1) (RList RStr) (eqL beqS) := eqR_list (d := d) eqR_str (fun x => beq_self_eq_true x) fun_str
theorem fun_row : Fun1 (RList RStr) := fun_list fun_str
theorem refl_row (l : List Str) : eqL beqS l l = true := eqL_refl (fun x => beq_self_eq_true x) l
def FnC (X : Wd) (t : Bool) (n : Nat) (f : Addr) (Ps : List Rp) (P : Rp) : Prop :=
  ∀ A s vs (R : Result → Shared → Prop), Ok n A → X.G s.heap → X.tb s.heap → Are s.heap Ps vs → (∀ v s', P s'.heap v → X.K t s s' → R (.ok (.ret v)) s') → codeAny X.M A (.call (.ref f) ⟨vs, []⟩) R s
theorem FnC.intro {X : Wd} {t : Bool} {n : Nat} {f : Addr} {Ps : List Rp} {P : Rp} {fd : FuncData} {body : List Stmt} {names : List Str}
    (hfd : ∀ h, X.G h → (∃ o, h.get? f = some o ∧ o.data = .func fd) ∧ h.CodeRec fd.code fd.qualname) (hbody : fd.body = .stmts body) (hclo : fd.closure = [])
    (hbind : ∀ vs, vs.length = names.length → bindArgs fd ⟨vs, []⟩ = pure (names.zip vs)) (hlen : Ps.length = names.length) (hnd : names.Nodup) (hst : ∀ P ∈ Ps, Stab P)
    (hkind : ∀ L, ∀ x ∈ names, fd.scope.names.lookup x = some .local ∨ (fd.scope.names.lookup x = some .cell ∧ ((cellsFrom L fd.scope.names []).lookup x).isSome = true))
    (hco : fd.scope.isCoroutine = false) (hgen : fd.scope.isGenerator = false) (hk : fd.scope.kind = .function)
    (h : ∀ A s₀, Ok n A → X.G s₀.heap → X.tb s₀.heap → Bd X t A (callEnvC fd s₀.heap.objs.size f) s₀ Inv.top (names.zip Ps) body (fun fl s' => ∃ v, fl = .ret v ∧ P s'.heap v ∧ X.K t s₀ s')) :
    FnC X t (n + 1) f Ps P := fun A s vs R ok G T hp hR => by
  obtain ⟨⟨o, ho, hd⟩, hcd⟩ := hfd _ G
  have hvl : vs.length = names.length := by rw [← hp.length, hlen]
  have hz : (names.zip vs).map (·.1) = names := List.map_fst_zip (by omega)
  refine codeAny_call_cells (binds := names.zip vs) (by have := ok.2.1; omega) ho hd (X.hl _ G) hcd hbody (hbind vs hvl) hclo (fun x hx => hkind _ x.1 (hz ▸ List.mem_map_of_mem hx)) (fun s₁ I => ?_) hco hgen hk
  have k : X.K t s s₁ := Wd.K.of (by
    obtain ⟨h', tk, e, kk⟩ := I.toInCall.done
    exact ⟨h', tk, e, kk⟩)
  have F : Fm X t (callEnvC fd s.heap.objs.size f) s _ _ s₁ := ⟨k, I.toInCall.ns, I.toInCall.fresh, I.cell, I.apart, fun n c hm => ⟨Nat.ne_of_lt (I.above n c hm), fun _ => Nat.le_of_lt (Nat.lt_of_le_of_lt I.toInCall.fresh (I.above n c hm))⟩⟩
  have V : Vs (callEnvC fd s.heap.objs.size f) (names.zip Ps) s₁.heap := fun x P e => by
    obtain ⟨v, hm, hv⟩ := zip_lookup hp e
    have sp : Stab P := hst P (List.of_mem_zip (mem_of_lookup e)).2
    refine ⟨sp, v, ?_, sp _ _ _ k.kn.sv hv⟩
    have hxn : x ∈ names := (List.of_mem_zip hm).1
    rcases hkind (s.heap.objs.size + 1) x hxn with hl | ⟨hl, hc⟩
    · exact .inl ⟨hl, _, I.toInCall.ns, bindL_hit (by rw [hz]; exact hnd) hm hl⟩
    · obtain ⟨c, hc⟩ := Option.isSome_iff_exists.mp hc
      have hc' : (callEnvC fd s.heap.objs.size f).cells.lookup x = some c := hc
      refine .inr ⟨.inl hl, c, hc', ?_⟩
      have := I.cell x c hc'
      rwa [bindC_hit (by rw [hz]; exact hnd) hm (by show fd.scope.names.lookup x ≠ _; rw [hl]; decide)] at this
  refine wpAny_mono (h _ s (ok.deeper _) G T s₁ _ ⟨⟨_, _, F⟩, V, k.g G, k.tb T, trivial⟩) (fun fl s' ⟨v, e, p, k'⟩ => ?_) fun _ _ x => x
  subst e
  exact hR v s' p k'
theorem op_sliceI {X : Wd} {t : Bool} {A : Around} {s : Shared} {a b : Value} {l : List Int} {lo hi st : Option Int} (h0 : st ≠ some 0) (hsz : l.length ≤ sizeLine) (ha : RLst l s.heap a) (hb : RSlice lo hi st s.heap b) : Op X t A s (getItem a b) (RList RInt (pick l lo hi st)) := fun E => by
  obtain ⟨c, vs, rfl, hl, p⟩ := ha
  obtain ⟨d, vl, vu, vst, rfl, hd, pl, pu, ps⟩ := hb
  have hz : l.length = vs.size := by rw [p.length]; simp
  refine wpAny_getItem_list_slice (items := vs) hl ⟨_, hd, rfl, rfl⟩ pl pu ps h0 ⟨⟨_, _, rfl, ⟨0, Heap.get?_push_size _ rfl⟩, ?_⟩, Wd.K.push⟩ (by rw [← hz]; exact hsz)
  have := paired_pick p (sliceRange (sliceBounds lo hi st l.length).1 (sliceBounds lo hi st l.length).2.1 (sliceBounds lo hi st l.length).2.2)
  have e : (slicePick vs lo hi st).toList = (sliceRange (sliceBounds lo hi st l.length).1 (sliceBounds lo hi st l.length).2.1 (sliceBounds lo hi st l.length).2.2).filterMap (vs.toList[·]?) := by
    unfold slicePick
    rw [hz]
    simp
  rw [e]
  exact paired_imp (fun x u r => r) this
theorem lst_type {s : Shared} {v : Value} {l : List Int} (h : RLst l s.heap v) : s.TypeIs v "list" := by
  obtain ⟨a, vs, rfl, ⟨o, ho, hc, _⟩, _⟩ := h
  exact ⟨o, ho, hc⟩
theorem Ev.lsliceI {X : Wd} {t : Bool} {A : Around} {env : Env} {ρ : Vars} {value : Expr} {l : List Int} {lo hi : Option Int} {el eu : Option Expr} {p1 pos : Pos} (h1 : Ev X t A env ρ value (RLst l)) (a : EvP X t A env ρ el lo) (b : EvP X t A env ρ eu hi) (hz : l.length ≤ sizeLine) : Ev X t A env ρ (.Subscript value (.Slice el eu none p1) pos) (RList RInt (pick l lo hi none)) :=
  Ev.sub list_getitem_lookup h1 stab_lst (Ev.slice a b .none) (fun s v p => lst_type p) (fun s u v _ _ p q => op_sliceI (by decide) hz p q) hsub_slice2
section
variable {prog : Program} {w : World} {mg mb : Str → Option Value} {hO : Heap} {A : Around}
theorem fn_cellsI (H : Pf w mg mb) (ns : List Int) (hlen : ns.length ≤ 63) : Fn (WX prog w mg mb hO) t 1 109 [RLst ns] (RList RInt (cellsOf ns)) := by
  refine Fn.intro (names := ["script"]) (fun h g => ⟨⟨_, g.k _ _ rfl, rfl⟩, codeRec g rfl rfl rfl rfl⟩) rfl rfl (fun vs hv => ?_) rfl (by decide) (by simpa using stab_lst) (fun L x hx => ?_) rfl rfl rfl (fun A s₀ ok G T => ?_)
  · match vs, hv with
    | [v], _ => rfl
  · left
    rw [List.mem_singleton.mp hx]; rfl
  · have hsz := sizeLine_ge
    have h1 : (pick ns none (some (18 : Int)) none).length ≤ ns.length := pick_le ns 18
    refine Bd.assign (P := RList RInt (drawnOf ns)) G rfl (.cel _ rfl rfl) ?_ (stab_list fun _ => stab_int) rfl ?_
    · refine Ev.comp0 (l := pick ns none (some 18) none) (R := RInt) (caps := []) ok.1 (by omega) (Ev.lsliceI (Ev.nm rfl) .none (.some Ev.int) (by omega)) itb_list rfl .l .nil (fun _ => stab_int) (fun _ => stab_int) (fun _ => shal_int) fun C a ha => ?_
      exact Ev.new scal_int (Ev.modI (by decide) (Ev.nm rfl) Ev.int)
    refine Bd.assign (P := RList RInt firstOf) G rfl (.cel _ rfl rfl) ?_ (stab_list fun _ => stab_int) rfl ?_
    · refine Ev.list (fun _ => stab_int) (by show 9 ≤ _; omega) ?_
      exact EvL.c stab_int Ev.int (EvL.c stab_int Ev.int (EvL.c stab_int Ev.int (EvL.c stab_int Ev.int (EvL.c stab_int Ev.int (EvL.c stab_int Ev.int (EvL.c stab_int Ev.int (EvL.c stab_int Ev.int (EvL.c1 stab_int Ev.int))))))))
    refine Bd.ret (P := RList RInt (cellsOf ns)) ?_ fun v s' k p => ⟨v, rfl, p, k⟩
    refine Ev.comp0 (l := irange 0 9) (R := RInt) (caps := ["first", "drawn"]) ok.1 (by show 9 ≤ _; omega) (Ev.range1 H Ev.int) (itb_range (by decide) (by decide) (by decide) (by decide)) rfl .l (.c (.c .nil)) (fun _ => stab_int) (fun _ => stab_int) (fun _ => shal_int) fun C a ha => ?_
    obtain ⟨k, rfl, hk⟩ := mem_irange0 (n := 9) ha
    refine Ev.new scal_int (Ev.addI (Ev.litem (Ev.nm rfl) (Ev.nm rfl) rfl ?_ (by omega) fun _ => stab_int) (Ev.sum H ok.1 itb_list (stab_list fun _ => stab_int) (Ev.lslice (Ev.nm rfl) (.some (Ev.nm rfl)) .none (.some Ev.int) (by decide) ?_ fun _ => stab_int)))
    · rw [Int.toNat_natCast, List.getD_eq_getElem?_getD, List.getElem?_eq_getElem (by exact hk)]; rfl
    · show ((pick ns none (some 18) none).map _).length ≤ _
      rw [List.length_map]; omega
theorem fn_law (H : Pf w mg mb) (ns : List Int) (hlen : ns.length ≤ 63) (hall : ∀ n k, 4 ≤ n → n ≤ 8 → k ≤ n → lawOk n k = true) : FnC (WX prog w mg mb hO) true 12 136 [RLst ns] (RBool true) := by
  refine FnC.intro (names := ["script"]) (fun h g => ⟨⟨_, g.k _ _ rfl, rfl⟩, codeRec g rfl rfl rfl rfl⟩) rfl rfl (fun vs hv => ?_) rfl (by decide) (by simpa using stab_lst) (fun L x hx => ?_) rfl rfl rfl (fun A s₀ ok G T => ?_)
  · match vs, hv with
    | [v], _ => rfl
  · left
    rw [List.mem_singleton.mp hx]; rfl
  · have hsz := sizeLine_ge
    have hcl : (cellsOf ns).length = 9 := by unfold cellsOf; rw [List.length_map, irange_len]; rfl
    generalize hcs : cellsOf ns = cs at hcl
    have h8 : cs[8]? = some (cs.getD 8 0) := by rw [List.getD_eq_getElem?_getD, List.getElem?_eq_getElem (by omega)]; rfl
    have f5 : 0 ≤ (cs.getD 8 0).fmod 5 ∧ (cs.getD 8 0).fmod 5 < 5 := ⟨Int.fmod_nonneg_of_pos _ (by decide), Int.fmod_lt_of_pos _ (by decide)⟩
    obtain ⟨n, hn⟩ : ∃ n : Nat, 4 + (cs.getD 8 0).fmod 5 = (n : Int) := ⟨(4 + (cs.getD 8 0).fmod 5).toNat, by omega⟩
    have hn4 : 4 ≤ n := by omega
    have hn8 : n ≤ 8 := by omega
    have hml : (msOf cs n).length = n := by unfold msOf; rw [List.length_map, List.length_take]; omega
    obtain ⟨k, hk⟩ : ∃ k : Nat, (msOf cs n).countP (· == 49) = k := ⟨_, rfl⟩
    have hkn : k ≤ n := by have := List.countP_le_length (p := (· == 49)) (l := msOf cs n); omega
    have hok := hall n k hn4 hn8 hkn
    unfold lawOk at hok
    simp only [Bool.and_eq_true] at hok
    obtain ⟨⟨⟨q1, q2⟩, q3⟩, q4⟩ := hok
    unfold ok1 at q1
    unfold ok2 at q2
    unfold ok3 at q3
    unfold ok4 at q4
    simp only [Bool.and_eq_true, decide_eq_true_eq, List.all_eq_true] at q1 q2 q3 q4
    obtain ⟨⟨⟨⟨_, _⟩, a1⟩, a2⟩, a3⟩ := q1
    obtain ⟨b1, b2⟩ := q2
    obtain ⟨⟨⟨⟨⟨c1, c2⟩, c3⟩, c4⟩, c5⟩, c6⟩ := q3
    obtain ⟨⟨⟨⟨⟨⟨⟨⟨⟨⟨⟨d1, d2⟩, d3⟩, d4⟩, d5⟩, d6⟩, d7⟩, d8⟩, d9⟩, d10⟩, d11⟩, d12⟩ := q4
    have hh : (headsOf n k).length ≤ 1000 := Nat.le_trans (List.length_filter_le _ _) a3
    have hm : ∀ m ∈ marksOf n k, m.length = n := a2
    have hmh : ∀ m ∈ headsOf n k, m.length = n := fun m h => hm m (List.mem_filter.mp h).1
    have hcps : ∀ m : Str, m.cps.toList.length = m.length := fun m => by simp [Str.length]
    have hu : A.units + 60 < cLine := by have := ok.2.2; omega
    -- cells
    refine Bd.assign (P := RList RInt cs) G rfl (.cel _ rfl rfl) (Ev.eq (Ev.fnG H (by kernel_rfl) rfl rfl (fn_cellsI H ns hlen) (ok.le (by omega)) (EvL.c1 stab_lst (Ev.nm rfl))) (by rw [hcs])) (stab_list fun _ => stab_int) rfl ?_
    -- n
    refine Bd.assign (P := RInt (n : Int)) G rfl (.cel _ rfl rfl) (Ev.eq (Ev.addI Ev.int (Ev.modI (by decide) (Ev.litem (k := 8) (Ev.nm rfl) Ev.int rfl h8 (by omega) fun _ => stab_int) Ev.int)) (by rw [hn])) stab_int rfl ?_
    -- text
    refine Bd.assign (P := RStr (mailOf (msOf cs n) cs)) G rfl (.loc rfl) ?_ stab_str rfl ?_
    · refine Ev.fnG H (by kernel_rfl) rfl rfl (fn_mail H (seq1_list H (by omega)) (by omega) (by omega) (fun c _ => div2 c)).lift (ok.le (by omega)) (EvL.c (stab_list fun _ => stab_str) (Ev.eq (Ev.comp0 (l := pick cs none (some (n : Int)) none) (R := RInt) (R' := RStr) (g := fun c => ch (if (c.fmod 2 == 1) = true then 49 else 48)) (caps := []) ok.1 (by rw [pick_to, List.length_take]; omega) (Ev.lslice (Ev.nm rfl) .none (.some (Ev.nm rfl)) .none (by decide) (by omega) fun _ => stab_int) itb_list rfl .l .nil (fun _ => stab_int) (fun _ => stab_str) (fun _ => shal_str) fun C c hc => ?_) ?_) (EvL.c1 (stab_list fun _ => stab_int) (Ev.nm rfl)))
      · refine Ev.new scal_str (Ev.ite (q := c.fmod 2 == 1) (Tv.eqI (Ev.modI (by decide) (Ev.nm rfl) Ev.int) Ev.int) (fun q => ?_) (fun q => ?_))
        · rw [if_pos q]; exact Ev.str
        · rw [if_neg (by rw [q]; decide)]; exact Ev.str
      · rw [pick_to]; unfold msOf; rw [List.map_map]; rfl
    -- k
    refine Bd.assign (P := RInt (k : Int)) G rfl (.cel _ rfl rfl) (Ev.eq (Ev.subI (Ev.lenS H ?_ (Ev.fnG H (by kernel_rfl) rfl rfl (fn_quo H (msOf cs n) cs (by omega)).lift (ok.le (by omega)) (EvL.c1 stab_str (Ev.nm rfl)))) (Ev.lenS H ?_ (Ev.fnG H (by kernel_rfl) rfl rfl (fn_fix H (msOf cs n) cs (by omega)).lift (ok.le (by omega)) (EvL.c1 stab_str (Ev.nm rfl))))) (by rw [quo_sub, hk])) stab_int rfl ?_
    · have e1 : (quoS (msOf cs n)).length = (dots ((msOf cs n).map dotOf)).length := by simp [quoS, Str.length]
      rw [e1, dots_len, crs_len, List.length_map]
      have := List.countP_le_length (p := fun x => x == 46) (l := (msOf cs n).map dotOf)
      rw [List.length_map] at this
      omega
    · have e1 : (fixS (msOf cs n)).length = (crs ((msOf cs n).map dotOf)).length := by simp [fixS, Str.length]
      rw [e1, crs_len, List.length_map]; omega
    -- mails
    refine Bd.assign (P := RList RStr (marksOf n k)) G rfl (.loc rfl) (Ev.fnG H (by kernel_rfl) rfl rfl (fn_marks H n k a1).lift (ok.le (by omega)) (EvL.c stab_int (Ev.nm rfl) (EvL.c1 stab_int (Ev.nm rfl)))) (stab_list fun _ => stab_str) rfl ?_
    -- heads
    refine Bd.comp (l := marksOf n k) (R := RStr) (R' := RStr) (p := isHead) (g := fun m => m) (caps := []) G ok.1 rfl rfl rfl (by omega) (Ev.nm rfl) itb_list rfl rfl (by decide) .l .nil (fun _ => stab_str) (fun _ => stab_str) (fun _ => shal_str) (fun C m hm' => Tests.one ?_) (fun C m hm' _ => Ev.new scal_str (Ev.nm rfl)) ?_ (by intro _; rfl)
    · have hne : turnsS m ≠ [] := fun q => by
        have := congrArg List.length q
        unfold turnsS at this
        rw [List.length_map, irange_len, hm m hm'] at this
        simp at this
        omega
      obtain ⟨x, r, hxr⟩ := List.exists_cons_of_ne_nil hne
      have hmin : minT m = best r x := by unfold minT; rw [hxr]
      refine Tv.to (Tv.eqS (y := best r x) (Ev.nm rfl) (Ev.min H ok.1 (Ev.eq (Ev.fnG H (by kernel_rfl) rfl rfl (fn_turnsS H (x := m) (by rw [hm m hm']; omega)) (ok.le (by omega)) (EvL.c1 stab_str (Ev.nm rfl))) (by rw [hxr])))) ?_
      unfold isHead; rw [hmin]
    have hhm : ((marksOf n k).filter isHead).map (fun m => m) = headsOf n k := by
      have : isHead = fun m => headF m.cps.toList := funext head_F
      unfold headsOf; rw [this]; simp
    rw [hhm]
    -- sent
    refine Bd.comp0 (l := headsOf n k) (R := RStr) (R' := RList RStr) (g := sentRow) (caps := ["cells"]) G ok.1 (by omega) (Ev.nm rfl) itb_list rfl .l (.c .nil) (fun _ => stab_str) stab_rows shal_rows (fun C m hm' => ?_) ?_
    · obtain ⟨⟨e1, e2⟩, e3⟩ := b1 m hm'
      have em := hmh m hm'
      have ec := hcps m
      refine EvN.split (x := quoS m.cps.toList) (y := CRLF) rfl (by omega) (by omega) (Ev.fnG H (by kernel_rfl) rfl rfl (fn_quo H m.cps.toList cs (by omega)) (ok.le (by omega)) (EvL.c1 stab_str (Ev.fnG H (by kernel_rfl) rfl rfl (fn_mail H (seq1_str H (x := m) (by omega)) (by omega) (by omega) (fun c _ => div2 c)) (ok.le (by omega)) (EvL.c stab_str (Ev.nm rfl) (EvL.c1 (stab_list fun _ => stab_int) (Ev.nm rfl)))))) Ev.str
    -- if sent != ...
    refine Bd.skip ?_ (Tv.to (Tv.neL (R := RList RStr) (q := eqL beqS) (d := 1) (x := sentOf n k) (y := wantOf n k) stab_rows (eqS_row 0) (by omega) (Ev.nm rfl) ?_) (q' := false) (by rw [b2]; rfl))
    rotate_left
    · refine Ev.comp0 (l := headsOf n k) (R := RStr) (R' := RList RStr) (g := wantRow) (caps := []) ok.1 (by omega) (Ev.nm rfl) itb_list rfl .l .nil (fun _ => stab_str) stab_rows shal_rows fun C m hm' => ?_
      have em := hmh m hm'
      have ec := hcps m
      refine EvN.addL (R := RStr) (l := m.cps.toList.map fun c => if ([c] == [49]) = true then DD else ch 97) (m := [⟨#[]⟩]) (fun _ => stab_str) (by rw [List.length_map]; show _ + 1 ≤ _; omega) (Ev.comp0 (l := m.cps.toList) (R := fun c : Nat => RStr ⟨#[c]⟩) (R' := RStr) (caps := []) ok.1 (by omega) (Ev.nm rfl) itb_str rfl .l .nil (fun _ => stab_str) (fun _ => stab_str) (fun _ => shal_str) fun C' c hc => ?_) (Ev.list (R := RStr) (l := [⟨#[]⟩]) (fun _ => stab_str) (by show 1 ≤ _; omega) (EvL.c1 stab_str Ev.str))
      refine Ev.new scal_str (Ev.ite (q := [c] == [49]) (Tv.eqS (x := ch c) (y := ch 49) (Ev.nm rfl) Ev.str) (fun q => ?_) (fun q => ?_))
      · rw [if_pos q]; exact Ev.str
      · rw [if_neg (by rw [q]; decide)]; exact Ev.str
    -- alike
    have hrow : ∀ r ∈ sentOf n k, r.length ≤ 60 := fun r hr => by
      obtain ⟨m, hm', rfl⟩ := List.mem_map.mp hr
      exact (b1 m hm').2
    have hsl : (sentOf n k).length ≤ 1000 := by unfold sentOf; rw [List.length_map]; exact hh
    refine Bd.assign (P := RList RInt (alikeOf n k)) G rfl (.cel _ rfl rfl) ?_ (stab_list fun _ => stab_int) rfl ?_
    · refine Ev.comp0 (l := sentOf n k) (R := RList RStr) (R' := RInt) (caps := []) ok.1 (by omega) (Ev.nm rfl) itb_list rfl .l .nil stab_rows (fun _ => stab_int) (fun _ => shal_int) fun C r hr => ?_
      have h1 := hrow r hr
      have hc : (cutRow r).length ≤ 60 := by unfold cutRow; rw [pick_butLast, List.length_take]; omega
      have cut : ∀ {env : Env} {ρ : Vars} {p1 p2 p3 p4 p5 : Pos}, List.lookup ("rows" : Str) ρ = some (RList RStr r) → env.scope.kind = .function → Ev (WX prog w mg mb hO) false A env ρ (.Subscript (.Name ("rows" : Str) p1) (.Slice none (some (.UnaryOp .USub (.Constant (.int 1) 0 p2) p3)) none p4) p5) (RList RStr (cutRow r)) := fun h1 h2 => Ev.lslice (Ev.nm h1 h2) .none (.some (Ev.neg Ev.int)) .none (by decide) (by omega) fun _ => stab_str
      refine Ev.new scal_int (Ev.countL (R := RList RStr) (q := eqL beqS) (l := turnsL (cutRow r)) (x := cutRow r) eqS_row fun_row (by omega) stab_rows (Ev.fnG H (by kernel_rfl) rfl rfl (fn_turnsL H (l := cutRow r) (by omega)) (ok.le (by omega)) (EvL.c1 (stab_rows _) (cut rfl rfl))) (cut rfl rfl))
    -- quotient, over
    have hal : (alikeOf n k).length ≤ 1000 := by unfold alikeOf; rw [List.length_map]; exact hsl
    refine Bd.assign2 (i := quotOf n k) (j := dmr (o1 n k) (o2 k)) G ok.1 rfl (.loc rfl) (.loc rfl) ?_ ?_
    · refine Ev.fnG H (by kernel_rfl) rfl rfl (fn_idm H (o1 n k) (o2 k) c3) (ok.le (by omega)) (EvL.c stab_int (Ev.fnG H (by kernel_rfl) rfl rfl (fn_ones H ((n : Int) - k + 1) ((n : Int) + 1) k (by omega) c1) (ok.le (by omega)) (EvL.c1 stab_range (Ev.range2 H (Ev.addI (Ev.subI (Ev.nm rfl) (Ev.nm rfl)) Ev.int) (Ev.addI (Ev.nm rfl) Ev.int))))
        (EvL.c1 stab_int (Ev.fnG H (by kernel_rfl) rfl rfl (fn_ones H 1 ((k : Int) + 1) k (by omega) c2) (ok.le (by omega)) (EvL.c1 stab_range (Ev.range2 H Ev.int (Ev.addI (Ev.nm rfl) Ev.int))))))
    -- sums
    refine Bd.assign (P := RList RInt (sumsOf n k)) G rfl (.cel _ rfl rfl) ?_ (stab_list fun _ => stab_int) rfl ?_
    · refine Ev.comp0 (l := marksOf n k) (R := RStr) (R' := RInt) (g := sumOf n k) (caps := ["k", "n"]) ok.1 (by omega) (Ev.nm rfl) itb_list rfl .c (.c (.c .nil)) (fun _ => stab_str) (fun _ => stab_int) (fun _ => shal_int) fun C m hm' => ?_
      have em := hm m hm'
      have ec := hcps m
      refine Ev.new scal_int (Ev.subI (Ev.sum (m := (irange 0 (n : Int)).filter (isOne m)) H ok.1 itb_list (stab_list fun _ => stab_int) (Ev.eq (Ev.comp (l := irange 0 (n : Int)) (R := RInt) (R' := RInt) (p := isOne m) (g := fun j => j) (caps := ["marks"]) ok.1 (by rw [irange_len]; omega) (Ev.range1 H (Ev.nm rfl)) (itb_range (by decide) (by decide) (by omega) (by omega)) rfl rfl (by decide) .l (.c .nil) (fun _ => stab_int) (fun _ => stab_int) (fun _ => shal_int) (fun C' j hj => Tests.one ?_) (fun C' j hj _ => Ev.new scal_int (Ev.nm rfl)) (by intro _; rfl)) (by simp))) (Ev.fdivI (by decide) (div2 _) (Ev.mulI (IntMulOk.of_left ?_) (Ev.nm rfl) (Ev.subI (Ev.nm rfl) Ev.int)) Ev.int))
      · obtain ⟨j', rfl, hj'⟩ := mem_irange0 hj
        have e1 : m.cps.toList[j']? = some (m.cps.toList.getD j' 0) := by rw [List.getD_eq_getElem?_getD, List.getElem?_eq_getElem (by omega)]; rfl
        exact Tv.to (Tv.eqS (Ev.sitem (Ev.nm rfl) (Ev.nm rfl) rfl e1 (by omega)) Ev.str) (by unfold isOne; rw [Int.toNat_natCast]; rfl)
      · have : ∀ z : Nat, z ≤ 8 → Builtin.Int.intBits (z : Int) ≤ 64 := by decide
        exact this k (by omega)
    -- if over != 0 or ...
    have hsm : (sumsOf n k).length ≤ 1000 := by unfold sumsOf; rw [List.length_map]; exact a3
    have hkk : 0 ≤ (k : Int) * ((n : Int) - k) ∧ (k : Int) * ((n : Int) - k) ≤ 100 := by
      have h1 : (0 : Int) ≤ (n : Int) - k := by omega
      have h2 : (n : Int) - k ≤ 8 := by omega
      have h3 : (k : Int) ≤ 8 := by omega
      refine ⟨Int.mul_nonneg (by omega) h1, ?_⟩
      have := Int.mul_le_mul h3 h2 h1 (by decide)
      omega
    refine Bd.skip ?_ (Tv.or2 (Tv.to (Tv.neI (Ev.nm rfl) Ev.int) (q' := false) (by rw [c4]; rfl)) (Tv.to (Tv.cmp (P1 := RLst (toDig 4 (quotOf n k))) (P2 := RLst (cntOf n k)) (q := !eqL (fun x y => x == y) (toDig 4 (quotOf n k)) (cntOf n k)) stab_lst (Ev.fnG H (by kernel_rfl) rfl rfl (fn_toDig H 4 (quotOf n k) c5) (ok.le (by omega)) (EvL.c stab_int (Ev.nm rfl) (EvL.c1 stab_int Ev.int))) (Ev.mono (P := RList RInt (cntOf n k)) ?_ fun _ _ p => RList.lst p) (fun s a b _ _ p q => op_neI2 (by omega) p q) rfl) (q' := false) (by
      have : eqL (fun x y => x == y) (toDig 4 (quotOf n k)) (cntOf n k) = true := c6
      rw [this]; rfl)))
    rotate_left
    · refine Ev.comp0 (l := irange 0 ((k : Int) * ((n : Int) - k) + 1)) (R := RInt) (R' := RInt) (g := fun t => ((sumsOf n k).countP (fun y => beqI y t) : Int)) (caps := ["sums"]) ok.1 (by rw [irange_len]; omega) (Ev.range1 H (Ev.addI (Ev.mulI (IntMulOk.of_left ?_) (Ev.nm rfl) (Ev.subI (Ev.nm rfl) (Ev.nm rfl))) Ev.int)) (itb_range (by decide) (by decide) (by omega) (by omega)) rfl .l (.c .nil) (fun _ => stab_int) (fun _ => stab_int) (fun _ => shal_int) fun C a ha => ?_
      · have : ∀ z : Nat, z ≤ 8 → Builtin.Int.intBits (z : Int) ≤ 64 := by decide
        exact this k (by omega)
      · exact Ev.new scal_int (Ev.countL (R := RInt) (q := beqI) (l := sumsOf n k) (x := a) (fun d => eqR_int) fun_int (by omega) (fun _ => stab_int) (Ev.nm rfl) (Ev.nm rfl))
    -- rest
    have h15 : (List.replicate n [(15 : Int)]).flatten = List.replicate n 15 := by
      generalize n = z
      induction z with
      | zero => rfl
      | succ z ih => rw [List.replicate_succ, List.flatten_cons, ih]; rfl
    refine Bd.assign (P := RInt (restOf n k)) G rfl (.loc rfl) (Ev.titem (k := 1) (l := [dmq (quotOf n k) (allF n), restOf n k]) (Ev.fnG H (by kernel_rfl) rfl rfl (fn_idm H (quotOf n k) (allF n) d2) (ok.le (by omega)) (EvL.c stab_int (Ev.nm rfl) (EvL.c1 stab_int (Ev.fnG H (by kernel_rfl) rfl rfl (fn_toInt H 4 (List.replicate n 15) d1) (ok.le (by omega)) (EvL.c (stab_list fun _ => stab_int) (Ev.eq (Ev.mulL (R := RInt) (m := [(15 : Int)]) (n := n) (fun _ => stab_int) rfl (by omega) (by simp; omega) (Ev.list (R := RInt) (l := [(15 : Int)]) (fun _ => stab_int) (by show 1 ≤ _; omega) (EvL.c1 stab_int Ev.int)) (Ev.nm rfl)) (by rw [h15])) (EvL.c1 stab_int Ev.int)))))) Ev.int rfl rfl (by omega) fun _ => stab_int) stab_int rfl ?_
    -- due
    refine Bd.comp0 (l := irange 0 (n : Int)) (R := RInt) (R' := RInt) (g := fun i => (((alikeOf n k).filter fun t => i.fmod t == 0).length : Int)) (caps := ["alike"]) G ok.1 (by rw [irange_len]; omega) (Ev.range1 H (Ev.nm rfl)) (itb_range (by decide) (by decide) (by omega) (by omega)) rfl .c (.c .nil) (fun _ => stab_int) (fun _ => stab_int) (fun _ => shal_int) (fun C i hi => ?_) ?_
    · have hfl : ((alikeOf n k).filter fun t => i.fmod t == 0).length ≤ 1000 := Nat.le_trans (List.length_filter_le _ _) hal
      refine Ev.new scal_int (Ev.lenL (R := RInt) (l := (alikeOf n k).filter fun t => i.fmod t == 0) H (fun _ => stab_int) (by omega) (Ev.eq (Ev.comp (l := alikeOf n k) (R := RInt) (R' := RInt) (p := fun t => i.fmod t == 0) (g := fun t => t) (caps := ["i"]) ok.1 (by omega) (Ev.nm rfl) itb_list rfl rfl (by decide) .l (.c .nil) (fun _ => stab_int) (fun _ => stab_int) (fun _ => shal_int) (fun C' t ht => Tests.one (Tv.eqI (Ev.modI ?_ (Ev.nm rfl) (Ev.nm rfl)) Ev.int)) (fun C' t ht _ => Ev.new scal_int (Ev.nm rfl)) (by intro _; rfl)) (by simp)))
      exact d4 t ht
    -- word
    have e9 : (irange 0 (n : Int)).map (fun i => (((alikeOf n k).filter fun t => i.fmod t == 0).length : Int)) = dueOf n k := rfl
    rw [e9]
    refine Bd.assign (P := RBytes (wordOf n k)) G rfl (.loc rfl) ?_ stab_bytes rfl ?_
    · refine Ev.meth (T := "bytes") (P0 := RBytes (byteArr (octsOf n k))) PySem.W.FB.plainAttrs_bytes slot_lstrip type_lstrip rfl rfl rfl (Ev.bytesL (ns := octsOf n k) H ok.1 (fun o ho => d5 o ho) (by omega) ?_) stab_bytes (fun s v ⟨_, p⟩ => by subst p; exact ⟨typeIs_bytes _ _ _, fun a q => (by cases q)⟩) (EvL.c1 stab_bytes Ev.bytes) (fun s v vs _ _ p a => ?_) rfl rfl
      · have hpl : (pick (dueOf n k) none none (some (-1))).length ≤ 60 := by
          have : (octsOf n k).length = (pick (dueOf n k) none none (some (-1))).length := by unfold octsOf; rw [List.length_map]
          omega
        refine Ev.comp0 (l := pick (dueOf n k) none none (some (-1))) (R := RInt) (R' := RInt) (g := fun p => 65 + p) (caps := []) ok.1 (by omega) (Ev.lslice (Ev.nm rfl) .none .none (.some (Ev.neg Ev.int)) (by decide) (by omega) fun _ => stab_int) itb_list rfl .l .nil (fun _ => stab_int) (fun _ => stab_int) (fun _ => shal_int) fun C a ha => ?_
        exact Ev.new scal_int (Ev.addI Ev.int (Ev.nm rfl))
      · obtain ⟨u, rfl, pu⟩ := are1 a
        exact op_lstrip (by omega) p pu
    -- return
    refine Bd.ret (P := RBool true) ?_ fun v s' k p => ⟨v, rfl, p, k⟩
    refine Ev.and2 (Ev.eq (Ev.cmp stab_bytes (Ev.fnG H (by kernel_rfl) rfl rfl (fn_ap H (0 - restOf n k) (mOf (restOf n k) 4) d10) (ok.le (by omega)) (EvL.c1 stab_int (Ev.subI Ev.int (Ev.nm rfl)))) (Ev.nm rfl) (fun s a b _ _ p q => op_eqB p q) rfl) (by rw [d11])) ?_
    refine Ev.eq (Ev.cmp (P := RBool (eqL (fun x y => x == y) (toDig 4 (restOf n k)) (backOf n k))) (P1 := RLst (toDig 4 (restOf n k))) (P2 := RLst (backOf n k)) stab_lst (Ev.fnG H (by kernel_rfl) rfl rfl (fn_toDig H 4 (restOf n k) d3) (ok.le (by omega)) (EvL.c stab_int (Ev.nm rfl) (EvL.c1 stab_int Ev.int))) (Ev.mono (P := RList RInt (backOf n k)) ?_ fun _ _ p => RList.lst p) (fun s a b _ _ p q => op_eqI2 (by omega) p q) rfl) (by
      have : eqL (fun x y => x == y) (toDig 4 (restOf n k)) (backOf n k) = true := d12
      rw [this])
    refine Ev.comp0 (l := KBw.bInts (revB (wordOf n k))) (R := RInt) (R' := RInt) (g := fun o => o - 65) (caps := []) ok.1 (by rw [KBw.ints_length]; omega) (Ev.revB' (x := wordOf n k) (Ev.nm rfl) (Ev.neg Ev.int) (by omega)) itb_bytes rfl .l .nil (fun _ => stab_int) (fun _ => stab_int) (fun _ => shal_int) fun C a ha => ?_
    exact Ev.new scal_int (Ev.subI (Ev.nm rfl) Ev.int)
end
end Mine
namespace Mine
theorem ints_paired {h : Heap} {vs : List Value} {ns : List Int} (x : IntsAre vs ns) : Paired (fun i v => RInt i h v) ns vs := by
  induction x with
  | nil => exact .nil
  | cons x t _ ih => exact .cons ⟨_, rfl⟩ ih
theorem names_free : ∀ x ∈ theNames, x ∉ startupNames ∧ x ∉ looseW hd.view_39 [Str.ofString "_twin_re_1", Str.ofString "_twin_re_2"] ∧ x ∉ (recsOf hd.view_39).map (·.name) ∧ x ∉ (litsOf hd.view_39).map (·.1) ∧ x ∉ (clssOf hd.view_39 (looseW hd.view_39 [Str.ofString "_twin_re_1", Str.ofString "_twin_re_2"])).map (·.name) := by decide +kernel
end Mine
theorem PySem.Challenge.cw_sr0025_01_holds : PySem.Challenge.rw_sr0025_01.Holds := by
  exact hd (by
  k_fill
  intro w s₀ s₁ mg mb G Y fa o pm cd doc dV kV ho hd hcd hD hmg hg args vals as hpre hlay hrd hwl hlo
  have KX := km_in_of Y
  km_tabs Y
  have X := (Ground.X G).1
  have V := (Ground.X G).2
  refine Ground.open G ?_
  intro T B D TE TW
  have hfa := mg_of (n := "law") (v := .ref 136) KX T.g (by kernel_rfl)
  have hfa' : fa = 136 := by
    have := hmg.symm.trans hfa
    cases this; rfl
  km_lay T hmg ho hd cd
  clear hmg
  wrow_args hpre hlay hrd hwl hlo
  (
    first | refine callC_kw (enter_call ?_) | refine enter_call ?_
    w_top on
    kn_posts
    clear hd hD Y G X V
    have H : Mine.Pf w mg mb := ⟨T.builtins, fun x hx => T.free x (Mine.names_free x hx).1 (Mine.names_free x hx).2.1 (Mine.names_free x hx).2.2.1 (Mine.names_free x hx).2.2.2.1 (Mine.names_free x hx).2.2.2.2, fun x v e => mg_of KX T.g e⟩
    have GG : Mine.Gs w mg mb s₁.heap := ⟨KX, T.g, T.b, T.nolimit, T.bmain⟩
    have TT : Mine.Tbs s₁.heap s₁.heap := ⟨.inl (hT8 47 (by decide)), .inl (hT8 54 (by decide)), fun b o e _ _ _ => e⟩
    subst hfa'
    rename_i ns hs hlay0 hL1 hr1 hl2 a4 a3 l vs a0 hL ra w1 r0 hI hr hc1 hc2
    refine Mine.fn_law H ns (by omega) Mine.all_laws callerA s₁ [.ref l] _ ⟨rfl, by decide, by decide⟩ GG TT (.cons ⟨l, vs.toArray, rfl, hL, by simpa using Mine.ints_paired hI⟩ .nil) fun v s' p k => ?_
    obtain ⟨h', tk, rfl, kn, tb⟩ := k
    have p : v = .bool true := p
    subst p
    have TB := tb TT
    refine ⟨⟨.inl ⟨.bool true, .bool true, [], rfl, fun _ => rfl, .bool true, by kernel_rfl, fun _ => ⟨.nil, fun _ h => nomatch h⟩⟩, fun b o e => ?_, rfl, hg⟩, ?_, ?_, trivial⟩
    · have e0 := of_hideAll _ e
      have nb : b ∉ ([54, 47] : List Addr) := fun q => by
        have e : (hideAll s₁.heap [54, 47]).get? b = some o := e
        rw [hideAll_none _ q] at e
        cases e
      by_cases it : Mine.IsTab o
      · exact TB.2.2 b o e0 it (fun q => nb (by rw [q]; decide)) (fun q => nb (by rw [q]; decide))
      · exact kn b o e0 fun _ => it
    · rcases TB.2.1 with x | ⟨c', x, _⟩ <;> exact ⟨_, x⟩
    · rcases TB.1 with x | ⟨c', x, _⟩ <;> exact ⟨_, x⟩))
