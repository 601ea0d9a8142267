import PyProof.Rows.All
import Wide.All
import OpenK.AllK
import Wide.FinOn
import PySem.Challenge.RW_pe0296_01

open PySem PySem.W PyProof.Rows PySem.Calls PySem.Spec
set_option Elab.async false
set_option maxRecDepth 100000
set_option linter.unusedVariables false
namespace Mine

structure Cx where
  prog : Program
  w : World
  z : Shared
  g : Heap

abbrev Cx.M (c : Cx) : Model := model c.prog c.w
def Cx.St (c : Cx) (h : Heap) (tk : Nat) : Shared := { c.z with heap := h, toks := tk }
theorem St_heap (c : Cx) (h : Heap) (tk : Nat) : (c.St h tk).heap = h := rfl

def Ev (c : Cx) (A : Around) {α : Type} (t : Sem α) (h : Heap) (P : α → Heap → Prop) : Prop :=
  ∀ tk E, wpAny c.M A t (fun v s' => ∃ h' tk', s' = c.St h' tk' ∧ P v h') E (c.St h tk)

section
variable {c : Cx} {A : Around} {α β : Type}

theorem Ev.wp {t : Sem α} {h : Heap} {P : α → Heap → Prop} {Q : α → Shared → Prop} {E : Value → Shared → Prop} {tk : Nat} (H : Ev c A t h P)
    (k : ∀ v h' tk', P v h' → Q v (c.St h' tk')) : wpAny c.M A t Q E (c.St h tk) :=
  wpAny_mono (H tk E) (fun v _ ⟨h', tk', e, p⟩ => e ▸ k v h' tk' p) (fun _ _ x => x)

theorem Ev.mono {t : Sem α} {h : Heap} {P P' : α → Heap → Prop} (H : Ev c A t h P) (k : ∀ v h', P v h' → P' v h') : Ev c A t h P' :=
  fun _ _ => H.wp fun v h' tk' p => ⟨h', tk', rfl, k v h' p⟩
theorem Ev.pure {a : α} {h : Heap} {P : α → Heap → Prop} (p : P a h) : Ev c A (Pure.pure a) h P := fun tk _ => wpAny_pure ⟨h, tk, rfl, p⟩
theorem Ev.bind {m : Sem α} {f : α → Sem β} {h : Heap} {P : α → Heap → Prop} {Q : β → Heap → Prop} (H : Ev c A m h P) (k : ∀ v h', P v h' → Ev c A (f v) h' Q) : Ev c A (m >>= f) h Q :=
  fun _ E => wpAny_bind (H.wp fun v h' tk' p => k v h' p tk' E)
end

/-- all that stands still stands -/
abbrev Kp (h h' : Heap) : Prop := ∀ b o, h.get? b = some o → h'.get? b = some o
/-- all that stands outside W still stands -/
def Kx (W : Addr → Prop) (h h' : Heap) : Prop := (∀ b o, ¬ W b → h.get? b = some o → h'.get? b = some o) ∧ ∀ b, h.get? b ≠ none → h'.get? b ≠ none

theorem Kp.refl (h : Heap) : Kp h h := fun _ _ e => e
theorem Kp.trans {h h' h'' : Heap} (a : Kp h h') (b : Kp h' h'') : Kp h h'' := fun x o e => b x o (a x o e)
theorem Kp.dom {h h' : Heap} (a : Kp h h') {b : Addr} (e : h.get? b ≠ none) : h'.get? b ≠ none := by
  cases x : h.get? b with
  | none => exact absurd x e
  | some o => rw [a b o x]; simp
theorem Kp.back {h h' : Heap} (a : Kp h h') {b : Addr} (e : h'.get? b = none) : h.get? b = none := by
  cases x : h.get? b with
  | none => rfl
  | some o => rw [a b o x] at e; cases e
theorem Kp.kx {W : Addr → Prop} {h h' : Heap} (a : Kp h h') : Kx W h h' := ⟨fun b o _ e => a b o e, fun _ => a.dom⟩
theorem Kx.refl (W : Addr → Prop) (h : Heap) : Kx W h h := (Kp.refl h).kx
theorem Kx.back {W : Addr → Prop} {h h' : Heap} (a : Kx W h h') {b : Addr} (e : h'.get? b = none) : h.get? b = none := by
  cases x : h.get? b with
  | none => rfl
  | some o => exact absurd e (a.2 b (by rw [x]; simp))
theorem Kx.trans {W W' : Addr → Prop} {h h' h'' : Heap} (a : Kx W h h') (b : Kx W' h' h'') (s : ∀ x, W' x → W x ∨ h.get? x = none) : Kx W h h'' :=
  ⟨fun x o n e => b.1 x o (fun q => (s x q).elim n fun z => by rw [z] at e; cases e) (a.1 x o n e), fun x e => b.2 x (a.2 x e)⟩
theorem Kx.mono {W W' : Addr → Prop} {h h' : Heap} (a : Kx W h h') (s : ∀ x, W x → W' x ∨ h.get? x = none) : Kx W' h h' :=
  ⟨fun x o n e => a.1 x o (fun q => (s x q).elim n fun z => by rw [z] at e; cases e) e, a.2⟩
theorem get?_size (h : Heap) : h.get? h.objs.size = none := by
  cases e : h.get? h.objs.size with
  | none => rfl
  | some o => exact absurd (Heap.lt_size e) (Nat.lt_irrefl _)
theorem get?_size_le (h : Heap) {a : Addr} (l : h.objs.size ≤ a) : h.get? a = none := by
  cases e : h.get? a with
  | none => rfl
  | some o => exact absurd (Heap.lt_size e) (Nat.not_lt.mpr l)
theorem Kp.push (h : Heap) (o : Obj) : Kp h (h.push o) := fun _ _ e => Heap.get?_push_of_some o e
theorem Kp.ext {a : Addr} {h h' : Heap} (x : Heap.ExtBut a h h') (n : h.get? a = none) : Kp h h' := fun b o e => x b o (fun q => by rw [q, n] at e; cases e) e
theorem Kx.ext {W : Addr → Prop} {a : Addr} {h h' : Heap} (x : Heap.ExtBut a h h') (n : W a) (d : h'.get? a ≠ none) : Kx W h h' :=
  ⟨fun b o nb e => x b o (fun q => nb (q ▸ n)) e, fun b e => if q : b = a then q ▸ d else by
    cases y : h.get? b with
    | none => exact absurd y e
    | some o => rw [x b o q y]; simp⟩

mutual
inductive Rp (X : Addr → Prop) (h : Heap) : Value → PyData → Prop
  | int (i : Int) (t : Tok) : Rp X h (.int i t) (.int i)
  | bool (b : Bool) : Rp X h (.bool b) (.bool b)
  | non : Rp X h .none .none
  | list {a : Addr} {vs : List Value} {n : Nat} {ds : List PyData} : h.get? a = some { cls := .type "list", data := .seq vs.toArray n } → ¬ X a → RpA X h vs ds → Rp X h (.ref a) (.list ds)
inductive RpA (X : Addr → Prop) (h : Heap) : List Value → List PyData → Prop
  | nil : RpA X h [] []
  | cons {v : Value} {vs : List Value} {d : PyData} {ds : List PyData} : Rp X h v d → RpA X h vs ds → RpA X h (v :: vs) (d :: ds)
end

mutual
theorem Rp.of {X X' : Addr → Prop} {h h' : Heap} (k : ∀ a vs n, ¬ X a → h.get? a = some { cls := .type "list", data := .seq vs n } → ¬ X' a ∧ ∃ n', h'.get? a = some { cls := .type "list", data := .seq vs n' }) :
    ∀ {v : Value} {d : PyData}, Rp X h v d → Rp X' h' v d
  | _, _, .int i t => .int i t
  | _, _, .bool b => .bool b
  | _, _, .non => .non
  | _, _, .list e n r => by
    obtain ⟨n2, n', e'⟩ := k _ _ _ n e
    exact .list e' n2 (RpA.of k r)
theorem RpA.of {X X' : Addr → Prop} {h h' : Heap} (k : ∀ a vs n, ¬ X a → h.get? a = some { cls := .type "list", data := .seq vs n } → ¬ X' a ∧ ∃ n', h'.get? a = some { cls := .type "list", data := .seq vs n' }) :
    ∀ {vs : List Value} {ds : List PyData}, RpA X h vs ds → RpA X' h' vs ds
  | _, _, .nil => .nil
  | _, _, .cons a r => .cons (Rp.of k a) (RpA.of k r)
end

mutual
theorem Rp.reads {X : Addr → Prop} {h : Heap} : ∀ {v : Value} {d : PyData}, Rp X h v d → ∃ as, Reads h v d as
  | _, _, .int i t => ⟨_, .int i t⟩
  | _, _, .bool b => ⟨_, .bool b⟩
  | _, _, .non => ⟨_, .none⟩
  | _, _, .list e _ r => let ⟨as, q⟩ := RpA.reads r; ⟨_, .list e rfl rfl (by simpa using q)⟩
theorem RpA.reads {X : Addr → Prop} {h : Heap} : ∀ {vs : List Value} {ds : List PyData}, RpA X h vs ds → ∃ as, ReadsAll h vs ds as
  | _, _, .nil => ⟨_, .nil⟩
  | _, _, .cons a r => let ⟨as, q⟩ := Rp.reads a; let ⟨bs, q'⟩ := RpA.reads r; ⟨_, .cons q q'⟩
end

section
variable {X X' : Addr → Prop} {g h h' : Heap} {v : Value} {d : PyData} {vs ws : List Value} {ds es : List PyData}
theorem Rp.kp (r : Rp X h v d) (t : Kp h h') : Rp X h' v d := r.of fun _ _ n hx e => ⟨hx, n, t _ _ e⟩
theorem RpA.kp (r : RpA X h vs ds) (t : Kp h h') : RpA X h' vs ds := r.of fun _ _ n hx e => ⟨hx, n, t _ _ e⟩
/-- a step that changes what lies in W, W's lists being in X; the new set adds what did not stand -/
theorem Rp.kx {W : Addr → Prop} (r : Rp X h v d) (t : Kx W h h') (w : ∀ a vs n, W a → h.get? a = some { cls := .type "list", data := .seq vs n } → X a) (s : ∀ a, X' a → X a ∨ h.get? a = none) : Rp X' h' v d :=
  r.of fun a vs n hx e => ⟨fun q => (s a q).elim hx fun z => (by rw [z] at e; cases e), n, t.1 _ _ (fun q => hx (w _ _ _ q e)) e⟩
theorem RpA.kx {W : Addr → Prop} (r : RpA X h vs ds) (t : Kx W h h') (w : ∀ a vs n, W a → h.get? a = some { cls := .type "list", data := .seq vs n } → X a) (s : ∀ a, X' a → X a ∨ h.get? a = none) : RpA X' h' vs ds :=
  r.of fun a vs n hx e => ⟨fun q => (s a q).elim hx fun z => (by rw [z] at e; cases e), n, t.1 _ _ (fun q => hx (w _ _ _ q e)) e⟩
theorem Rp.set (r : Rp X h v d) (s : ∀ a, X' a → X a ∨ h.get? a = none) : Rp X' h v d := r.kx (W := fun _ => False) (Kx.refl _ _) (fun _ _ _ f => f.elim) s
theorem RpA.set (r : RpA X h vs ds) (s : ∀ a, X' a → X a ∨ h.get? a = none) : RpA X' h vs ds := r.kx (W := fun _ => False) (Kx.refl _ _) (fun _ _ _ f => f.elim) s
theorem RpA.length (r : RpA X h vs ds) : vs.length = ds.length := by
  induction vs generalizing ds with
  | nil => cases r; rfl
  | cons v vs ih => cases r with | cons _ r => rw [List.length_cons, List.length_cons, ih r]
theorem RpA.append (r : RpA X h vs ds) (q : RpA X h ws es) : RpA X h (vs ++ ws) (ds ++ es) := by
  induction vs generalizing ds with
  | nil => cases r; exact q
  | cons v vs ih => cases r with | cons a r => exact .cons a (ih r)
theorem RpA.get (r : RpA X h vs ds) {k : Nat} {d : PyData} (hk : ds[k]? = some d) : ∃ v, vs[k]? = some v ∧ Rp X h v d := by
  induction vs generalizing ds k with
  | nil => cases r; simp at hk
  | cons v vs ih =>
    cases r with
    | cons a r =>
      cases k with
      | zero => simp at hk; subst hk; exact ⟨v, rfl, a⟩
      | succ k => simpa using ih r (by simpa using hk)
theorem RpA.get' (r : RpA X h vs ds) {k : Nat} {v : Value} (hk : vs[k]? = some v) : ∃ d, ds[k]? = some d ∧ Rp X h v d := by
  induction vs generalizing ds k with
  | nil => cases r; simp at hk
  | cons v vs ih =>
    cases r with
    | cons a r =>
      cases k with
      | zero => simp at hk; subst hk; exact ⟨_, rfl, a⟩
      | succ k => simpa using ih r (by simpa using hk)
theorem RpA.of_get (hl : vs.length = ds.length) (H : ∀ (k : Nat) v d, vs[k]? = some v → ds[k]? = some d → Rp X h v d) : RpA X h vs ds := by
  induction vs generalizing ds with
  | nil => cases ds with | nil => exact .nil | cons _ _ => simp at hl
  | cons v vs ih =>
    cases ds with
    | nil => simp at hl
    | cons d ds => exact .cons (H 0 v d rfl rfl) (ih (by simpa using hl) fun k v d a b => H (k + 1) v d (by simpa using a) (by simpa using b))
theorem RpA.one (r : Rp X h v d) : RpA X h [v] [d] := .cons r .nil
theorem Rp.int_inv {i : Int} (r : Rp X h v (.int i)) : ∃ t, v = .int i t := by cases r; exact ⟨_, rfl⟩
theorem Rp.bool_inv {i : Bool} (r : Rp X h v (.bool i)) : v = .bool i := by cases r; rfl
theorem Rp.list_inv (r : Rp X h v (.list ds)) : ∃ a vs n, v = .ref a ∧ h.get? a = some { cls := .type "list", data := .seq vs.toArray n } ∧ ¬ X a ∧ RpA X h vs ds := by
  cases r with
  | list e n r => exact ⟨_, _, _, rfl, e, n, r⟩
end

/-- borrowed: the list itself may lie in X, what it holds does not -/
def Bo (X : Addr → Prop) (h : Heap) (v : Value) (d : PyData) : Prop :=
  Rp X h v d ∨ ∃ a vs n ds, d = .list ds ∧ v = .ref a ∧ h.get? a = some { cls := .type "list", data := .seq vs.toArray n } ∧ RpA X h vs ds
section
variable {X X' : Addr → Prop} {g h h' : Heap} {v : Value} {d : PyData} {vs ws : List Value} {ds es : List PyData}
theorem Bo.kp (r : Bo X h v d) (t : Kp h h') : Bo X h' v d := by
  rcases r with r | ⟨a, vs, n, ds, e1, e2, e3, r⟩
  · exact .inl (r.kp t)
  · exact .inr ⟨a, vs, n, ds, e1, e2, t _ _ e3, r.kp t⟩
theorem Bo.list_inv (r : Bo X h v (.list ds)) : ∃ a vs n, v = .ref a ∧ h.get? a = some { cls := .type "list", data := .seq vs.toArray n } ∧ RpA X h vs ds := by
  rcases r with r | ⟨a, vs, n, ds, e1, e2, e3, r⟩
  · obtain ⟨a, vs, n, e, e2, _, r⟩ := r.list_inv; exact ⟨a, vs, n, e, e2, r⟩
  · cases e1; exact ⟨a, vs, n, e2, e3, r⟩
theorem Bo.int_inv {i : Int} (r : Bo X h v (.int i)) : ∃ t, v = .int i t := by
  rcases r with r | ⟨a, vs, n, ds, e1, e2, e3, r⟩
  · exact r.int_inv
  · cases e1
theorem Bo.reads (r : Bo X h v d) : ∃ as, Reads h v d as := by
  rcases r with r | ⟨a, vs, n, ds, e1, e2, e3, r⟩
  · exact r.reads
  · obtain ⟨as, q⟩ := r.reads; subst e1 e2; exact ⟨_, .list e3 rfl rfl (by simpa using q)⟩
theorem isL_of {a : Addr} {vs : List Value} {n : Nat} (e : h.get? a = some { cls := .type "list", data := .seq vs.toArray n }) : h.IsList a vs.toArray := ⟨_, e, rfl, n, rfl⟩
end

inductive PV where
  | imm (d : PyData)
  | own (ds : List PyData)
abbrev PS := List (Str × PV)

/-- what holds of a block for good -/
structure EnvOk (c : Cx) (env : Env) : Prop where
  kind : env.scope.kind = .function
  loc : c.g.get? env.locals = none
  cel : ∀ x a, env.cells.lookup x = some a → c.g.get? a = none
  has : ∀ x, env.kindOf x = some .cell → ∃ a, env.cells.lookup x = some a
  ck : ∀ x a, env.cells.lookup x = some a → env.kindOf x = some .cell
  inj : ∀ x y a, env.cells.lookup x = some a → env.cells.lookup y = some a → x = y
  glob : env.globals = mainGlobals
  bui : env.builtins = builtinsNs
  plain : interactive env = false

def upd (m : Str → Option Value) (x : Str) (v : Value) : Str → Option Value := fun y => if y = x then some v else m y

def Yo (Y O : Addr → Prop) : Addr → Prop := fun a => Y a ∨ O a

/-- the frame's names have the values m -/
structure Fm (env : Env) (h : Heap) (m : Str → Option Value) : Prop where
  ns : ∃ mL, h.Ns env.locals mL ∧ ∀ x, env.kindOf x = some .local → mL x = m x
  cell : ∀ x a, env.cells.lookup x = some a → h.IsCell a (m x)

def PvAt (Y O : Addr → Prop) (h : Heap) (v : Value) : PV → Prop
  | .imm d => Rp (Yo Y O) h v d
  | .own ds => ∃ a vs n, v = .ref a ∧ O a ∧ h.get? a = some { cls := .type "list", data := .seq vs.toArray n } ∧ RpA (Yo Y O) h vs ds

structure Abs (c : Cx) (env : Env) (Y O : Addr → Prop) (h : Heap) (ρ : PS) : Prop where
  ok : EnvOk c env
  kp : Kp c.g h
  ydom : ∀ a, Y a → h.get? a ≠ none
  odom : ∀ a, O a → h.get? a ≠ none ∧ c.g.get? a = none ∧ ¬ Y a
  vals : ∃ m, Fm env h m ∧ (∀ x pv, ρ.lookup x = some pv → (env.kindOf x = some .local ∨ env.kindOf x = some .cell) ∧ ∃ v, m x = some v ∧ PvAt Y O h v pv) ∧
    ∀ x y ds es v, ρ.lookup x = some (.own ds) → ρ.lookup y = some (.own es) → m x = some v → m y = some v → x = y

/-- what a block may change -/
def Wr (env : Env) (O : Addr → Prop) : Addr → Prop := fun a => a = env.locals ∨ (∃ x, env.cells.lookup x = some a ∧ env.locals < a) ∨ O a

section
variable {c : Cx} {env : Env} {Y O : Addr → Prop} {h h' : Heap} {ρ ρ' : PS}

theorem Fm.kp {m : Str → Option Value} (F : Fm env h m) (k : Kp h h') : Fm env h' m := ⟨let ⟨mL, n, e⟩ := F.ns; ⟨mL, n.keeps k, e⟩, fun x a q => (F.cell x a q).keeps k⟩

theorem PvAt.kp {v : Value} {pv : PV} (p : PvAt Y O h v pv) (k : Kp h h') : PvAt Y O h' v pv := by
  cases pv with
  | imm d => exact Rp.kp p k
  | own ds => obtain ⟨a, vs, n, e, o, q, r⟩ := p; exact ⟨a, vs, n, e, o, k _ _ q, r.kp k⟩

theorem Abs.tr (H : Abs c env Y O h ρ) (k : Kp h h') : Abs c env Y O h' ρ where
  ok := H.ok
  kp := H.kp.trans k
  ydom := fun a y => k.dom (H.ydom a y)
  odom := fun a y => ⟨k.dom (H.odom a y).1, (H.odom a y).2⟩
  vals := by
    obtain ⟨m, F, V, I⟩ := H.vals
    exact ⟨m, F.kp k, fun x pv e => let ⟨a, v, b, p⟩ := V x pv e; ⟨a, v, b, p.kp k⟩, I⟩

/-- fewer names -/
theorem Abs.weak (H : Abs c env Y O h ρ) (w : ∀ x pv, ρ'.lookup x = some pv → ρ.lookup x = some pv) : Abs c env Y O h ρ' where
  ok := H.ok
  kp := H.kp
  ydom := H.ydom
  odom := H.odom
  vals := by
    obtain ⟨m, F, V, I⟩ := H.vals
    exact ⟨m, F, fun x pv e => V x pv (w x pv e), fun x y ds es v a b => I x y ds es v (w _ _ a) (w _ _ b)⟩

theorem yo_none {a : Addr} (H : Abs c env Y O h ρ) (x : Yo Y O a) : h.get? a ≠ none := x.elim (H.ydom a) fun o => (H.odom a o).1
theorem Abs.fresh (H : Abs c env Y O h ρ) {a : Addr} (e : h.get? a = none) : ¬ Yo Y O a := fun x => yo_none H x e
end

/-- an expression gives a datum that is the frame's no more than anyone's -/
def EvE (c : Cx) (A : Around) (env : Env) (ρ : PS) (e : Expr) (d : PyData) : Prop :=
  ∀ Y O h, Abs c env Y O h ρ → Ev c A (eval e env) h (fun v h' => Kp h h' ∧ Rp (Yo Y O) h' v d)
/-- .. or one of the frame's own lists -/
def EvB (c : Cx) (A : Around) (env : Env) (ρ : PS) (e : Expr) (d : PyData) : Prop :=
  ∀ Y O h, Abs c env Y O h ρ → Ev c A (eval e env) h (fun v h' => Kp h h' ∧ Bo (Yo Y O) h' v d)
def EvT (c : Cx) (A : Around) (env : Env) (ρ : PS) (e : Expr) (b : Bool) : Prop :=
  ∀ Y O h, Abs c env Y O h ρ → Ev c A (isTrue e env (eval e env)) h (fun r h' => Kp h h' ∧ r = b)

section
variable {c : Cx} {A : Around} {env : Env} {ρ ρ' : PS}

theorem EvE.b {e : Expr} {d : PyData} (x : EvE c A env ρ e d) : EvB c A env ρ e d := fun Y O h H => (x Y O h H).mono fun _ _ p => ⟨p.1, .inl p.2⟩
theorem EvE.weak {e : Expr} {d : PyData} (x : EvE c A env ρ' e d) (w : ∀ x pv, ρ'.lookup x = some pv → ρ.lookup x = some pv) : EvE c A env ρ e d := fun Y O h H => x Y O h (H.weak w)
theorem EvT.eq {e : Expr} {b b' : Bool} (x : EvT c A env ρ e b) (q : b = b') : EvT c A env ρ e b' := q ▸ x
theorem EvE.eq {e : Expr} {d d' : PyData} (x : EvE c A env ρ e d) (q : d = d') : EvE c A env ρ e d' := q ▸ x

theorem ev_int (i : Int) (k : Nat) (pos : Pos) : EvE c A env ρ (.Constant (.int i) k pos) (.int i) := fun Y O h H tk _ => wpAny_Constant_int ⟨h, tk + 1, rfl, Kp.refl _, .int _ _⟩
theorem ev_bool (b : Bool) (k : Nat) (pos : Pos) : EvE c A env ρ (.Constant (.bool b) k pos) (.bool b) := fun Y O h H tk _ => wpAny_Constant_bool ⟨h, tk, rfl, Kp.refl _, .bool _⟩

theorem ld {x : Str} {Y O : Addr → Prop} {h : Heap} {pv : PV} {Q : Value → Shared → Prop} {E : Value → Shared → Prop} {tk : Nat} (H : Abs c env Y O h ρ) (l : ρ.lookup x = some pv)
    (k : ∀ v, PvAt Y O h v pv → Q v (c.St h tk)) : wpAny c.M A (loadName env x) Q E (c.St h tk) := by
  obtain ⟨m, F, V, I⟩ := H.vals
  obtain ⟨a, v, b, p⟩ := V x pv l
  rcases a with a | a
  · obtain ⟨mL, n, e⟩ := F.ns
    exact wpAny_loadName_local H.ok.kind a n ((e x a).trans b) (k v p)
  · obtain ⟨y, q⟩ := H.ok.has x a
    have := F.cell x y q
    rw [b] at this
    exact wpAny_loadName_cell H.ok.kind a q this (k v p)

theorem ev_name {x : Str} {pos : Pos} {d : PyData} (l : ρ.lookup x = some (.imm d)) (hd : (x == ("__debug__" : Str)) = false) : EvE c A env ρ (.Name x pos) d :=
  fun Y O h H tk E => wpAny_Name (ld H l fun v p => ⟨h, tk, rfl, Kp.refl _, p⟩) hd
theorem eb_own {x : Str} {pos : Pos} {ds : List PyData} (l : ρ.lookup x = some (.own ds)) (hd : (x == ("__debug__" : Str)) = false) : EvB c A env ρ (.Name x pos) (.list ds) :=
  fun Y O h H tk E => wpAny_Name (ld H l fun v p => by
    obtain ⟨a, vs, n, e, _, q, r⟩ := p
    exact ⟨h, tk, rfl, Kp.refl _, .inr ⟨a, vs, n, ds, rfl, e, q, r⟩⟩) hd

theorem ev_bin {l r : Expr} {op : Operator} {pos : Pos} {d1 d2 d : PyData} (x1 : EvB c A env ρ l d1) (x2 : EvB c A env ρ r d2)
    (o : ∀ a b h X, (∀ a, X a → h.get? a ≠ none) → Bo X h a d1 → Bo X h b d2 → Ev c A (binaryOp op a b) h (fun v h' => Kp h h' ∧ Rp X h' v d)) : EvE c A env ρ (.BinOp l op r pos) d := fun Y O h H tk E => by
  refine wpAny_BinOp ((x1 Y O h H).wp fun a h2 tk2 p => ?_)
  refine (x2 Y O h2 (H.tr p.1)).wp fun b h3 tk3 q => ?_
  have H3 := (H.tr p.1).tr q.1
  refine (o a b h3 (Yo Y O) (fun a x => yo_none H3 x) (p.2.kp q.1) q.2).wp fun v h4 tk4 r => ⟨h4, tk4, rfl, (p.1.trans q.1).trans r.1, r.2⟩

theorem et_cmp {l r : Expr} {op : CmpOp} {pos : Pos} {k : Bool} {d1 d2 : PyData} (x1 : EvB c A env ρ l d1) (x2 : EvB c A env ρ r d2)
    (o : ∀ a b h X, Bo X h a d1 → Bo X h b d2 → Ev c A (compareOp op a b) h (fun v h' => Kp h h' ∧ v = .bool k))
    (hm : behindInMarks op r = false := by with_unfolding_all rfl) : EvT c A env ρ (.Compare l [op] [r] pos) k := fun Y O h H tk E => by
  refine wpAny_isTrue_Compare1 ((x1 Y O h H).wp fun a h2 tk2 p => ?_) hm
  refine (x2 Y O h2 (H.tr p.1)).wp fun b h3 tk3 q => ?_
  refine (o a b h3 (Yo Y O) (p.2.kp q.1) q.2).wp fun v h4 tk4 r => ?_
  obtain ⟨r1, rfl⟩ := r
  exact wpAny_truthy_bool ⟨h4, tk4, rfl, (p.1.trans q.1).trans r1, rfl⟩
theorem ev_cmp {l r : Expr} {op : CmpOp} {pos : Pos} {k : Bool} {d1 d2 : PyData} (x1 : EvB c A env ρ l d1) (x2 : EvB c A env ρ r d2)
    (o : ∀ a b h X, Bo X h a d1 → Bo X h b d2 → Ev c A (compareOp op a b) h (fun v h' => Kp h h' ∧ v = .bool k))
    (hm : behindInMarks op r = false := by with_unfolding_all rfl) : EvE c A env ρ (.Compare l [op] [r] pos) (.bool k) := fun Y O h H tk E => by
  refine wpAny_Compare1 ((x1 Y O h H).wp fun a h2 tk2 p => ?_) hm
  refine (x2 Y O h2 (H.tr p.1)).wp fun b h3 tk3 q => ?_
  refine (o a b h3 (Yo Y O) (p.2.kp q.1) q.2).wp fun v h4 tk4 r => ?_
  obtain ⟨r1, rfl⟩ := r
  exact ⟨h4, tk4, rfl, (p.1.trans q.1).trans r1, .bool _⟩

/-- a plain value as a test -/
theorem et_plain {e : Expr} {k : Bool} (x : EvE c A env ρ e (.bool k)) (he : ∀ whole, isTrue e env whole = (do let v ← whole; standAt e.pos; holding [v] (truthy v)) := by intro _; rfl) : EvT c A env ρ e k := fun Y O h H tk E => by
  refine isTrue_plain ((x Y O h H).wp fun v h2 tk2 p => ?_) (he _)
  obtain ⟨r1, r2⟩ := p
  cases r2.bool_inv
  exact wpAny_truthy_bool ⟨h2, tk2, rfl, r1, rfl⟩

theorem et_not {e : Expr} {pos : Pos} {k : Bool} (x : EvT c A env ρ e k) : EvT c A env ρ (.UnaryOp .Not e pos) (!k) := fun Y O h H tk E =>
  isTrue_not ((x Y O h H).wp fun v h2 tk2 p => ⟨h2, tk2, rfl, p.1, by rw [p.2]⟩)
theorem et_and {e : Expr} {es : List Expr} {pos : Pos} {k j : Bool} (x : EvT c A env ρ e k) (y : k = true → EvT c A env ρ (.BoolOp .And es pos) j) : EvT c A env ρ (.BoolOp .And (e :: es) pos) (k && j) := fun Y O h H tk E => by
  refine isTrue_and ((x Y O h H).wp fun v h2 tk2 p => ?_)
  obtain ⟨p1, rfl⟩ := p
  cases v with
  | false => exact ⟨h2, tk2, rfl, p1, rfl⟩
  | true => exact (y rfl Y O h2 (H.tr p1)).wp fun v h3 tk3 q => ⟨h3, tk3, rfl, p1.trans q.1, by rw [q.2]; rfl⟩
theorem et_or {e : Expr} {es : List Expr} {pos : Pos} {k j : Bool} (x : EvT c A env ρ e k) (y : k = false → EvT c A env ρ (.BoolOp .Or es pos) j) : EvT c A env ρ (.BoolOp .Or (e :: es) pos) (k || j) := fun Y O h H tk E => by
  refine isTrue_or ((x Y O h H).wp fun v h2 tk2 p => ?_)
  obtain ⟨p1, rfl⟩ := p
  cases v with
  | true => exact ⟨h2, tk2, rfl, p1, rfl⟩
  | false => exact (y rfl Y O h2 (H.tr p1)).wp fun v h3 tk3 q => ⟨h3, tk3, rfl, p1.trans q.1, by rw [q.2]; rfl⟩
theorem et_and0 {pos : Pos} : EvT c A env ρ (.BoolOp .And [] pos) true := fun Y O h _ tk _ => isTrue_and_nil ⟨h, tk, rfl, Kp.refl _, rfl⟩
theorem et_or0 {pos : Pos} : EvT c A env ρ (.BoolOp .Or [] pos) false := fun Y O h _ tk _ => isTrue_or_nil ⟨h, tk, rfl, Kp.refl _, rfl⟩

theorem ev_ife {t b o : Expr} {pos : Pos} {k : Bool} {d : PyData} (x : EvT c A env ρ t k) (y : k = true → EvE c A env ρ b d) (z : k = false → EvE c A env ρ o d) : EvE c A env ρ (.IfExp t b o pos) d := fun Y O h H tk E => by
  refine IfExp_ ((x Y O h H).wp fun v h2 tk2 p => ?_)
  obtain ⟨p1, rfl⟩ := p
  cases v with
  | true => exact (y rfl Y O h2 (H.tr p1)).wp fun v h3 tk3 q => ⟨h3, tk3, rfl, p1.trans q.1, q.2⟩
  | false => exact (z rfl Y O h2 (H.tr p1)).wp fun v h3 tk3 q => ⟨h3, tk3, rfl, p1.trans q.1, q.2⟩

-- ints
variable {l r : Expr} {pos : Pos} {a b : Int}
theorem ev_add (x : EvB c A env ρ l (.int a)) (y : EvB c A env ρ r (.int b)) : EvE c A env ρ (.BinOp l .Add r pos) (.int (a + b)) :=
  ev_bin x y fun _ _ h X _ p q tk E => by obtain ⟨t, rfl⟩ := p.int_inv; obtain ⟨u, rfl⟩ := q.int_inv; exact add_int ⟨h, tk + 1, rfl, Kp.refl _, .int _ _⟩
theorem ev_sub (x : EvB c A env ρ l (.int a)) (y : EvB c A env ρ r (.int b)) : EvE c A env ρ (.BinOp l .Sub r pos) (.int (a - b)) :=
  ev_bin x y fun _ _ h X _ p q tk E => by obtain ⟨t, rfl⟩ := p.int_inv; obtain ⟨u, rfl⟩ := q.int_inv; exact sub_int ⟨h, tk + 1, rfl, Kp.refl _, .int _ _⟩
theorem ev_mul (x : EvB c A env ρ l (.int a)) (y : EvB c A env ρ r (.int b)) (hm : IntMulOk a b) : EvE c A env ρ (.BinOp l .Mult r pos) (.int (a * b)) :=
  ev_bin x y fun _ _ h X _ p q tk E => by obtain ⟨t, rfl⟩ := p.int_inv; obtain ⟨u, rfl⟩ := q.int_inv; exact mul_int ⟨h, tk + 1, rfl, Kp.refl _, .int _ _⟩ hm
theorem ev_mod (x : EvB c A env ρ l (.int a)) (y : EvB c A env ρ r (.int b)) (hb : b ≠ 0) : EvE c A env ρ (.BinOp l .Mod r pos) (.int (a.fmod b)) :=
  ev_bin x y fun _ _ h X _ p q tk E => by obtain ⟨t, rfl⟩ := p.int_inv; obtain ⟨u, rfl⟩ := q.int_inv; exact mod_int hb ⟨h, tk + 1, rfl, Kp.refl _, .int _ _⟩
theorem ev_div (x : EvB c A env ρ l (.int a)) (y : EvB c A env ρ r (.int b)) (hb : b ≠ 0) (hp : Builtin.divisionGoesByPylong a b = false) : EvE c A env ρ (.BinOp l .FloorDiv r pos) (.int (a.fdiv b)) :=
  ev_bin x y fun _ _ h X _ p q tk E => by obtain ⟨t, rfl⟩ := p.int_inv; obtain ⟨u, rfl⟩ := q.int_inv; exact floordiv_int hb ⟨h, tk + 1, rfl, Kp.refl _, .int _ _⟩ (.inl hp)
theorem ev_pow (x : EvB c A env ρ l (.int a)) (y : EvB c A env ρ r (.int b)) (hb : 0 ≤ b) (hs : (Builtin.Int.intBits a : Int) * b ≤ 2 ^ 27) : EvE c A env ρ (.BinOp l .Pow r pos) (.int (a ^ b.toNat)) :=
  ev_bin x y fun _ _ h X _ p q tk E => by obtain ⟨t, rfl⟩ := p.int_inv; obtain ⟨u, rfl⟩ := q.int_inv; exact pow_int hb hs ⟨h, tk + 1, rfl, Kp.refl _, .int _ _⟩

theorem op_eqI {u v : Value} {X : Addr → Prop} {h : Heap} (p : Bo X h u (.int a)) (q : Bo X h v (.int b)) : Ev c A (compareOp .Eq u v) h (fun v h' => Kp h h' ∧ v = .bool (a == b)) := fun tk E => by
  obtain ⟨t, rfl⟩ := p.int_inv; obtain ⟨t', rfl⟩ := q.int_inv; exact PyProof.Rows.eq_int ⟨h, tk, rfl, Kp.refl _, rfl⟩
theorem op_neI {u v : Value} {X : Addr → Prop} {h : Heap} (p : Bo X h u (.int a)) (q : Bo X h v (.int b)) : Ev c A (compareOp .NotEq u v) h (fun v h' => Kp h h' ∧ v = .bool (a != b)) := fun tk E => by
  obtain ⟨t, rfl⟩ := p.int_inv; obtain ⟨t', rfl⟩ := q.int_inv; exact PyProof.Rows.ne_int ⟨h, tk, rfl, Kp.refl _, rfl⟩
theorem op_ltI {u v : Value} {X : Addr → Prop} {h : Heap} (p : Bo X h u (.int a)) (q : Bo X h v (.int b)) : Ev c A (compareOp .Lt u v) h (fun v h' => Kp h h' ∧ v = .bool (decide (a < b))) := fun tk E => by
  obtain ⟨t, rfl⟩ := p.int_inv; obtain ⟨t', rfl⟩ := q.int_inv; exact PyProof.Rows.lt_int ⟨h, tk, rfl, Kp.refl _, rfl⟩
theorem op_leI {u v : Value} {X : Addr → Prop} {h : Heap} (p : Bo X h u (.int a)) (q : Bo X h v (.int b)) : Ev c A (compareOp .LtE u v) h (fun v h' => Kp h h' ∧ v = .bool (decide (a ≤ b))) := fun tk E => by
  obtain ⟨t, rfl⟩ := p.int_inv; obtain ⟨t', rfl⟩ := q.int_inv; exact PyProof.Rows.le_int ⟨h, tk, rfl, Kp.refl _, rfl⟩
theorem op_geI {u v : Value} {X : Addr → Prop} {h : Heap} (p : Bo X h u (.int a)) (q : Bo X h v (.int b)) : Ev c A (compareOp .GtE u v) h (fun v h' => Kp h h' ∧ v = .bool (decide (b ≤ a))) := fun tk E => by
  obtain ⟨t, rfl⟩ := p.int_inv; obtain ⟨t', rfl⟩ := q.int_inv; exact PyProof.Rows.ge_int ⟨h, tk, rfl, Kp.refl _, rfl⟩
theorem op_eqD {u v : Value} {d e : PyData} {X : Addr → Prop} {h : Heap} (p : Bo X h u d) (q : Bo X h v e) (sd : SeqAt.shaped d = true) (se : SeqAt.shaped e = true) (hu : A.units + 64 < cLine) : Ev c A (compareOp .Eq u v) h (fun v h' => Kp h h' ∧ v = .bool (d.eqv e)) := fun tk E => by
  obtain ⟨as, ra⟩ := p.reads; obtain ⟨bs, rb⟩ := q.reads
  exact eq_dataH (s := c.St h tk) ra rb sd se hu ⟨h, tk, rfl, Kp.refl _, rfl⟩
theorem op_neD {u v : Value} {d e : PyData} {X : Addr → Prop} {h : Heap} (p : Bo X h u d) (q : Bo X h v e) (sd : SeqAt.shaped d = true) (se : SeqAt.shaped e = true) (hu : A.units + 64 < cLine) : Ev c A (compareOp .NotEq u v) h (fun v h' => Kp h h' ∧ v = .bool (!d.eqv e)) := fun tk E => by
  obtain ⟨as, ra⟩ := p.reads; obtain ⟨bs, rb⟩ := q.reads
  exact ne_dataH (s := c.St h tk) ra rb sd se hu ⟨h, tk, rfl, Kp.refl _, rfl⟩
end
end Mine


open PySem PySem.W PyProof.Rows PySem.Calls PySem.Spec
set_option Elab.async false
set_option maxRecDepth 100000
set_option linter.unusedVariables false
namespace Mine

section
variable {c : Cx} {A : Around} {env : Env} {ρ ρ' : PS}

theorem Rp.new {X : Addr → Prop} {h : Heap} {vs : List Value} {ds : List PyData} (x : ∀ a, X a → h.get? a ≠ none) (r : RpA X h vs ds) :
    Rp X (h.push { cls := .type "list", data := .seq vs.toArray }) (.ref h.objs.size) (.list ds) :=
  .list (n := 0) (Heap.get?_push_size _ rfl) (fun y => x _ y (get?_size h)) (r.kp (Kp.push _ _))

def EvL (c : Cx) (A : Around) (env : Env) (ρ : PS) (pos : Pos) (es : List Expr) (ds : List PyData) : Prop :=
  ∀ Y O h, Abs c env Y O h ρ → Ev c A (spliced (backTo pos (starEach es env))) h (fun vs h' => Kp h h' ∧ RpA (Yo Y O) h' vs ds)

theorem el_nil {pos : Pos} : EvL c A env ρ pos [] [] := fun Y O h H tk E => spliced_none ⟨h, tk, rfl, Kp.refl _, .nil⟩
theorem el_cons {pos : Pos} {e : Expr} {es : List Expr} {d : PyData} {ds : List PyData} (x : EvE c A env ρ e d) (y : EvL c A env ρ pos es ds)
    (he : starEach (e :: es) env = (false, eval e env) :: starEach es env := by rfl) : EvL c A env ρ pos (e :: es) (d :: ds) := fun Y O h H tk E =>
  spliced_more ((x Y O h H).wp fun v h2 tk2 p => (y Y O h2 (H.tr p.1)).wp fun vs h3 tk3 q => ⟨h3, tk3, rfl, p.1.trans q.1, .cons (p.2.kp q.1) q.2⟩) he

theorem ev_list {pos : Pos} {es : List Expr} {ds : List PyData} (x : EvL c A env ρ pos es ds) (hs : ds.length ≤ sizeLine) : EvE c A env ρ (.List es pos) (.list ds) := fun Y O h H tk E =>
  wpAny_List_spliced ((x Y O h H).wp fun vs h2 tk2 p => ⟨by rw [p.2.length]; exact hs, _, tk2, rfl, p.1.trans (Kp.push _ _), Rp.new (fun a y => yo_none (H.tr p.1) y) p.2⟩)

theorem ev_cat {l r : Expr} {pos : Pos} {ds es : List PyData} (x : EvB c A env ρ l (.list ds)) (y : EvB c A env ρ r (.list es)) (hs : ds.length + es.length ≤ sizeLine) :
    EvE c A env ρ (.BinOp l .Add r pos) (.list (ds ++ es)) :=
  ev_bin x y fun a b h X hX p q tk E => by
    obtain ⟨a, vs, n, rfl, e, r⟩ := p.list_inv
    obtain ⟨b, ws, n', rfl, e', r'⟩ := q.list_inv
    refine P.add_list (s := c.St h tk) e e' ?_ (by simp only [List.size_toArray, r.length, r'.length]; exact hs)
    rw [List.append_toArray]
    exact ⟨_, tk, rfl, Kp.push _ _, Rp.new hX (r.append r')⟩

theorem tail_list {value slice : Expr} {h : Heap} {tk : Nat} {a : Addr} {vs : List Value} {n : Nat} {i : Value} {ops : List Value} {Q : Value → Shared → Prop} {E : Value → Shared → Prop} (e : h.get? a = some { cls := .type "list", data := .seq vs.toArray n })
    (g : wpAny c.M A (getItem (.ref a) i) Q E (c.St h tk)) (hs : subscripted slice false (.ref a) i = operate ops (getItem (.ref a) i)) : wpAny c.M A (subscriptTail value slice (.ref a) i) Q E (c.St h tk) :=
  tail_any (isL_of (h := (c.St h tk).heap) e).typeIs slot_list_getitem.lookup g hs

theorem ev_item {value slice : Expr} {pos : Pos} {ds : List PyData} {k : Int} {d : PyData} (x : EvB c A env ρ value (.list ds)) (y : EvE c A env ρ slice (.int k)) (h0 : 0 ≤ k) (hk : k < 2 ^ 63) (hd : ds[k.toNat]? = some d)
    (hs : ∀ o i, subscripted slice false o i = operate [o, i] (getItem o i) := by intro _ _; rfl) : EvE c A env ρ (.Subscript value slice pos) d := fun Y O h H tk E => by
  refine Subscript_ ((x Y O h H).wp fun o h2 tk2 p => (y Y O h2 (H.tr p.1)).wp fun i h3 tk3 q => ?_)
  obtain ⟨a, vs, n, rfl, e, r⟩ := (p.2.kp q.1).list_inv
  obtain ⟨t, rfl⟩ := q.2.int_inv
  obtain ⟨v, hv, rv⟩ := r.get hd
  exact tail_list e (wpAny_getItem_list (isL_of (h := (c.St h3 tk3).heap) e) h0 hk (by simpa using hv) ⟨h3, tk3, rfl, p.1.trans q.1, rv⟩) (hs _ _)

/-- the last one -/
theorem ev_last {value slice : Expr} {pos : Pos} {ds : List PyData} {d : PyData} (x : EvB c A env ρ value (.list (ds ++ [d]))) (y : EvE c A env ρ slice (.int (-1))) 
    (hs : ∀ o i, subscripted slice false o i = operate [o, i] (getItem o i) := by intro _ _; rfl) : EvE c A env ρ (.Subscript value slice pos) d := fun Y O h H tk E => by
  refine Subscript_ ((x Y O h H).wp fun o h2 tk2 p => (y Y O h2 (H.tr p.1)).wp fun i h3 tk3 q => ?_)
  obtain ⟨a, vs, n, rfl, e, r⟩ := (p.2.kp q.1).list_inv
  obtain ⟨t, rfl⟩ := q.2.int_inv
  have hl := r.length
  rw [List.length_append, List.length_singleton] at hl
  obtain ⟨v, hv, rv⟩ := r.get (k := ds.length) (d := d) (by simp)
  refine tail_list e (wpAny_getItem_list_neg (isL_of (h := (c.St h3 tk3).heap) e) (by omega) (by simp only [List.size_toArray]; omega) (by omega) (x := v) ?_ ⟨h3, tk3, rfl, p.1.trans q.1, rv⟩) (hs _ _)
  have : ((-1 : Int) + (vs.toArray.size : Nat)).toNat = ds.length := by simp only [List.size_toArray]; omega
  rw [this]; simpa using hv

theorem ev_from {value lo : Expr} {pos p : Pos} {ds : List PyData} {k : Nat} (x : EvB c A env ρ value (.list ds)) (y : EvE c A env ρ lo (.int k)) (hs : ds.length ≤ sizeLine)
    (ht : ∀ o r, letTemporaryGo value o r = pure () := by intro _ _; rfl) : EvE c A env ρ (.Subscript value (.Slice (some lo) none none p) pos) (.list (ds.drop k)) := fun Y O h H tk E => by
  refine wpAny_Subscript_list_slice ((x Y O h H).wp fun o h2 tk2 p => ?_) ht
  show wpAny c.M A (eval lo env) _ _ _
  refine (y Y O h2 (H.tr p.1)).wp fun i h3 tk3 q => wpAny_pure ?_
  obtain ⟨a, vs, n, rfl, e, r⟩ := (p.2.kp q.1).list_inv
  obtain ⟨t, rfl⟩ := q.2.int_inv
  refine ⟨a, vs.toArray, some (k : Int), none, rfl, isL_of e, by simp only [List.size_toArray, r.length]; exact hs, .int _ _, .none, ?_⟩
  rw [slicePick_from']
  refine ⟨_, tk3, rfl, (p.1.trans q.1).trans ((Kp.push _ _).trans (Kp.push _ _)), ?_⟩
  have rd : RpA (Yo Y O) (h3.push { cls := .type "slice", data := .fields #[.int k t, .none, .none] }) (vs.drop k) (ds.drop k) :=
    (RpA.of_get (by simp [r.length]) fun j v d a b => by
      rw [List.getElem?_drop] at a b
      obtain ⟨d', e1, e2⟩ := r.get' a
      rw [b] at e1; cases e1; exact e2).kp (Kp.push _ _)
  have := Rp.new (fun a y => yo_none (((H.tr p.1).tr q.1).tr (Kp.push _ _)) y) rd
  rw [Heap.size_push] at this
  exact this

theorem ev_upto {value hi : Expr} {pos p : Pos} {ds : List PyData} {k : Nat} (x : EvB c A env ρ value (.list ds)) (y : EvE c A env ρ hi (.int k)) (hs : ds.length ≤ sizeLine)
    (ht : ∀ o r, letTemporaryGo value o r = pure () := by intro _ _; rfl) : EvE c A env ρ (.Subscript value (.Slice none (some hi) none p) pos) (.list (ds.take k)) := fun Y O h H tk E => by
  refine wpAny_Subscript_list_slice ((x Y O h H).wp fun o h2 tk2 p => wpAny_pure ?_) ht
  show wpAny c.M A (eval hi env) _ _ _
  refine (y Y O h2 (H.tr p.1)).wp fun i h3 tk3 q => ?_
  obtain ⟨a, vs, n, rfl, e, r⟩ := (p.2.kp q.1).list_inv
  obtain ⟨t, rfl⟩ := q.2.int_inv
  refine ⟨a, vs.toArray, none, some (k : Int), rfl, isL_of e, by simp only [List.size_toArray, r.length]; exact hs, .none, .int _ _, ?_⟩
  rw [slicePick_upto']
  refine ⟨_, tk3, rfl, (p.1.trans q.1).trans ((Kp.push _ _).trans (Kp.push _ _)), ?_⟩
  have rd : RpA (Yo Y O) (h3.push { cls := .type "slice", data := .fields #[.none, .int k t, .none] }) (vs.take k) (ds.take k) :=
    (RpA.of_get (by simp [r.length]) fun j v d a b => by
      rw [List.getElem?_take] at a b
      split at a
      · rename_i hj
        rw [if_pos hj] at b
        obtain ⟨d', e1, e2⟩ := r.get' a
        rw [b] at e1; cases e1; exact e2
      · cases a).kp (Kp.push _ _)
  have := Rp.new (fun a y => yo_none (((H.tr p.1).tr q.1).tr (Kp.push _ _)) y) rd
  rw [Heap.size_push] at this
  exact this

theorem ev_butlast {value hi : Expr} {pos p : Pos} {ds : List PyData} (x : EvB c A env ρ value (.list ds)) (y : EvE c A env ρ hi (.int (-1))) (hs : ds.length ≤ sizeLine)
    (ht : ∀ o r, letTemporaryGo value o r = pure () := by intro _ _; rfl) : EvE c A env ρ (.Subscript value (.Slice none (some hi) none p) pos) (.list (ds.take (ds.length - 1))) := fun Y O h H tk E => by
  refine wpAny_Subscript_list_slice ((x Y O h H).wp fun o h2 tk2 p => wpAny_pure ?_) ht
  show wpAny c.M A (eval hi env) _ _ _
  refine (y Y O h2 (H.tr p.1)).wp fun i h3 tk3 q => ?_
  obtain ⟨a, vs, n, rfl, e, r⟩ := (p.2.kp q.1).list_inv
  obtain ⟨t, rfl⟩ := q.2.int_inv
  refine ⟨a, vs.toArray, none, some (-((1 : Nat) : Int)), rfl, isL_of e, by simp only [List.size_toArray, r.length]; exact hs, .none, .int _ _, ?_⟩
  rw [slicePick_butLast _ 1 (Nat.le_refl _)]
  refine ⟨_, tk3, rfl, (p.1.trans q.1).trans ((Kp.push _ _).trans (Kp.push _ _)), ?_⟩
  have rd : RpA (Yo Y O) (h3.push { cls := .type "slice", data := .fields #[.none, .int (-1) t, .none] }) (vs.take (vs.length - 1)) (ds.take (ds.length - 1)) :=
    (RpA.of_get (by simp [r.length]) fun j v d a b => by
      rw [List.getElem?_take] at a b
      rw [r.length] at a
      split at a
      · rename_i hj
        rw [if_pos hj] at b
        obtain ⟨d', e1, e2⟩ := r.get' a
        rw [b] at e1; cases e1; exact e2
      · cases a).kp (Kp.push _ _)
  have := Rp.new (fun a y => yo_none (((H.tr p.1).tr q.1).tr (Kp.push _ _)) y) rd
  rw [Heap.size_push] at this
  simpa [St_heap] using this

/-- what a slice by steps picks, of any list -/
def pickL {α : Type} (xs : List α) (lo hi st : Option Int) : List α :=
  ((sliceRange (sliceBounds lo hi st xs.length).1 (sliceBounds lo hi st xs.length).2.1 (sliceBounds lo hi st xs.length).2.2)).filterMap (xs[·]?)

theorem RpA.filterMap {X : Addr → Prop} {h : Heap} {vs : List Value} {ds : List PyData} (r : RpA X h vs ds) : ∀ (js : List Nat), RpA X h (js.filterMap (vs[·]?)) (js.filterMap (ds[·]?))
  | [] => .nil
  | j :: js => by
    rw [List.filterMap_cons, List.filterMap_cons]
    cases e : vs[j]? with
    | none =>
      have : ds[j]? = none := by
        rw [List.getElem?_eq_none_iff] at e ⊢; rw [← r.length]; exact e
      rw [this]; exact r.filterMap js
    | some v =>
      obtain ⟨d, e1, e2⟩ := r.get' e
      rw [e1]; exact .cons e2 (r.filterMap js)

theorem ev_step {value lo st : Expr} {pos p : Pos} {ds : List PyData} {k j : Int} (x : EvB c A env ρ value (.list ds)) (y : EvE c A env ρ lo (.int k)) (z : EvE c A env ρ st (.int j)) (hj : j ≠ 0) (hs : ds.length ≤ sizeLine)
    (ht : ∀ o r, letTemporaryGo value o r = pure () := by intro _ _; rfl) : EvE c A env ρ (.Subscript value (.Slice (some lo) none (some st) p) pos) (.list (pickL ds (some k) none (some j))) := fun Y O h H tk E => by
  refine wpAny_Subscript_Slice_step (T := "list") list_getitem_lookup ((x Y O h H).wp fun o h2 tk2 p => wpAny_Slice ?_) ht
  show wpAny c.M A (eval lo env) _ _ _
  refine (y Y O h2 (H.tr p.1)).wp fun i h3 tk3 q => wpAny_pure ?_
  show wpAny c.M A (eval st env) _ _ _
  refine (z Y O h3 ((H.tr p.1).tr q.1)).wp fun i' h4 tk4 q' => ?_
  obtain ⟨a, vs, n, rfl, e, r⟩ := ((p.2.kp q.1).kp q'.1).list_inv
  obtain ⟨t, rfl⟩ := q.2.int_inv
  obtain ⟨t', rfl⟩ := q'.2.int_inv
  have hl : (h4.push { cls := .type "slice", data := .fields #[.int k t, .none, .int j t'] }).IsList a vs.toArray := (isL_of e).push _
  refine ⟨(let ⟨o, a, b, c⟩ := hl; ⟨o, a, b⟩), ?_⟩
  refine wpAny_getItem_list_slice hl (Heap.IsSliceOf.new ..) (.int _ _) .none (.int _ _) (by simpa using hj) ?_ (by simp only [List.size_toArray, r.length]; exact hs)
  refine ⟨_, tk4, rfl, ((p.1.trans q.1).trans q'.1).trans ((Kp.push _ _).trans (Kp.push _ _)), ?_⟩
  have rd : RpA (Yo Y O) (h4.push { cls := .type "slice", data := .fields #[.int k t, .none, .int j t'] }) (slicePick vs.toArray (some k) none (some j)).toList (pickL ds (some k) none (some j)) := by
    unfold slicePick pickL
    simp only [List.size_toArray, r.length]
    have := (r.filterMap (sliceRange (sliceBounds (some k) none (some j) ds.length).1 (sliceBounds (some k) none (some j) ds.length).2.1 (sliceBounds (some k) none (some j) ds.length).2.2)).kp (Kp.push h4 { cls := .type "slice", data := .fields #[.int k t, .none, .int j t'] })
    simpa using this
  have := Rp.new (fun a y => yo_none ((((H.tr p.1).tr q.1).tr q'.1).tr (Kp.push _ _)) y) rd
  simpa [St_heap] using this

/-- the name of a thing that is called -/
def EvF (c : Cx) (A : Around) (env : Env) (ρ : PS) (e : Expr) (f : Value) : Prop :=
  ∀ Y O h, Abs c env Y O h ρ → Ev c A (eval e env) h (fun v h' => Kp h h' ∧ v = f)

theorem ev_call1 {x : Str} {p pos : Pos} {e : Expr} {f : Value} {d r : PyData} (hf : EvF c A env ρ (.Name x p) f) (hk : (∃ id, f = .builtin id) ∨ ∃ T, f = .type T) (y : EvB c A env ρ e d)
    (o : ∀ v h X, Bo X h v d → Ev c A (call f [v]) h (fun v h' => Kp h h' ∧ Rp X h' v r))
    (hs : starEach [e] env = [(false, eval e env)] := by rfl) : EvE c A env ρ (.Call (.Name x p) [e] [] pos) r := fun Y O h H tk E => by
  refine Call_Name1 ((hf Y O h H).wp fun v h2 tk2 q => ?_) hs
  obtain ⟨q1, rfl⟩ := q
  have go : wpAny c.M A (spliced [(false, eval e env)]) (fun vs s₁ => wpAny c.M A (call v ([] ++ vs)) (fun v s' => ∃ h' tk', s' = c.St h' tk' ∧ Kp h h' ∧ Rp (Yo Y O) h' v r) E s₁) E (c.St h2 tk2) :=
    spliced_cons ((y Y O h2 (H.tr q1)).wp fun w h3 tk3 z => spliced_nil ((o w h3 _ z.2).wp fun u h4 tk4 z' => ⟨h4, tk4, rfl, (q1.trans z.1).trans z'.1, z'.2⟩))
  rcases hk with ⟨id, rfl⟩ | ⟨T, rfl⟩
  · exact callWith_builtin rfl (evalArgs_plain go)
  · exact PyProof.Rows.callWith_type rfl (evalArgs_plain go)

theorem ev_len {x : Str} {p pos : Pos} {e : Expr} {ds : List PyData} (hf : EvF c A env ρ (.Name x p) (.builtin "len")) (y : EvB c A env ρ e (.list ds)) (hl : ds.length < 2 ^ 62)
    (hs : starEach [e] env = [(false, eval e env)] := by rfl) : EvE c A env ρ (.Call (.Name x p) [e] [] pos) (.int ds.length) :=
  ev_call1 hf (.inl ⟨_, rfl⟩) y (fun v h X b tk E => by
    obtain ⟨a, vs, n, rfl, e, r⟩ := b.list_inv
    have hl' := r.length
    refine len_list (isL_of (h := (c.St h tk).heap) e) (by simp only [List.size_toArray]; omega) ⟨h, _, rfl, Kp.refl _, ?_⟩
    simp only [List.size_toArray, hl']
    exact .int _ _) hs

theorem et_notin {l r : Expr} {pos : Pos} {d : PyData} {ds : List PyData} (x : EvB c A env ρ l d) (y : EvB c A env ρ r (.list ds)) (hd : d.canLay0 = true) (hs : PyData.canLayAll0 ds = true) (hu : A.units + 1 + min (PyData.depthAll ds) d.depth < cLine)
    (hm : behindInMarks .NotIn r = false := by with_unfolding_all rfl) : EvT c A env ρ (.Compare l [.NotIn] [r] pos) (!ds.any (fun y => y.eqv d)) :=
  et_cmp x y (fun a b h X p q tk E => by
    obtain ⟨as, ra⟩ := p.reads; obtain ⟨bs, rb⟩ := q.reads
    exact SeqAt.notIn_list_reads (s := c.St h tk) rb ra hs hd hu ⟨h, tk, rfl, Kp.refl _, rfl⟩) hm

theorem et_isNone {l : Expr} {pos pos' : Pos} {k : Nat} {d : PyData} (x : EvB c A env ρ l d) (hd : d ≠ .none) : EvT c A env ρ (.Compare l [.Is] [.Constant .none k pos'] pos) false := fun Y O h H tk E => by
  refine wpAny_isTrue_Compare1 ((x Y O h H).wp fun a h2 tk2 p => ?_) (by rfl)
  refine wpAny_pure (a := Value.none) ?_
  refine is_none_ne ?_ (wpAny_truthy_bool ⟨h2, tk2, rfl, p.1, rfl⟩)
  rintro rfl
  rcases p.2 with q | ⟨b, vs, n, ds, e1, e2, e3, r⟩
  · cases q; exact hd rfl
  · cases e2

theorem ev_neg {e : Expr} {pos : Pos} {a : Int} (x : EvE c A env ρ e (.int a)) : EvE c A env ρ (.UnaryOp .USub e pos) (.int (-a)) := fun Y O h H tk E =>
  UnaryOp_ ((x Y O h H).wp fun v h2 tk2 p => by
    obtain ⟨t, rfl⟩ := p.2.int_inv
    exact neg_int ⟨h2, _, rfl, p.1, .int _ _⟩)

theorem ints_of {X : Addr → Prop} {h : Heap} : ∀ {vs : List Value} {ns : List Int}, RpA X h vs (ns.map .int) → IntsAre vs ns
  | [], [], _ => .nil
  | v :: vs, n :: ns, r => by
    cases r with
    | cons a r =>
      obtain ⟨t, rfl⟩ := a.int_inv
      exact .cons n t (ints_of r)
  | [], _ :: _, r => by cases r
  | _ :: _, [], r => by cases r

theorem ev_sum {x : Str} {p pos : Pos} {e : Expr} {ns : List Int} (hh : A.handled = none) (hf : EvF c A env ρ (.Name x p) (.builtin "sum")) (y : EvB c A env ρ e (.list (ns.map .int)))
    (hs : starEach [e] env = [(false, eval e env)] := by rfl) : EvE c A env ρ (.Call (.Name x p) [e] [] pos) (.int ns.sum) :=
  ev_call1 hf (.inl ⟨_, rfl⟩) y (fun v h X b tk E => by
    obtain ⟨a, vs, n, rfl, e, r⟩ := b.list_inv
    have hi := ints_of r
    obtain ⟨xs, hx⟩ := hi.allInts.items
    have hl : (c.St h tk).heap.IsList a (intItems xs) := hx ▸ isL_of e
    refine sum_intListG hh hl fun h' tk' t' k => ⟨h', tk', rfl, k, ?_⟩
    have q : preSum (numAt xs) xs.size = ns.sum := by
      rw [preSum_eq, List.take_of_length_le (by simp), ← nums_intItems, ← hx]
      exact congrArg List.sum hi.numsOf
    rw [q]
    exact .int _ _) hs

mutual
theorem Rp.fun {X : Addr → Prop} {h : Heap} : ∀ {v : Value} {d e : PyData}, Rp X h v d → Rp X h v e → d = e
  | _, _, _, .int _ _, .int _ _ => rfl
  | _, _, _, .bool _, .bool _ => rfl
  | _, _, _, .non, .non => rfl
  | _, _, _, .list e _ r, .list e' _ r' => by
    rw [e] at e'
    injection e' with e'
    injection e' with _ _ e' _
    injection e' with e' _
    have e2 := congrArg Array.toList e'
    simp only at e2
    subst e2
    rw [RpA.fun r r']
theorem RpA.fun {X : Addr → Prop} {h : Heap} : ∀ {vs : List Value} {ds es : List PyData}, RpA X h vs ds → RpA X h vs es → ds = es
  | _, _, _, .nil, .nil => rfl
  | _, _, _, .cons a r, .cons a' r' => by rw [Rp.fun a a', RpA.fun r r']
end

open Classical in
noncomputable def eqOf (X : Addr → Prop) (h : Heap) (x : PyData) (v : Value) : Bool := if q : ∃ d, Rp X h v d then (Classical.choose q).eqv x else false
theorem eqOf_eq {X : Addr → Prop} {h : Heap} {x : PyData} {v : Value} {d : PyData} (r : Rp X h v d) : eqOf X h x v = d.eqv x := by
  unfold eqOf
  have q : ∃ d, Rp X h v d := ⟨d, r⟩
  rw [dif_pos q, (Classical.choose_spec q).fun r]
theorem countP_eqOf {X : Addr → Prop} {h : Heap} {x : PyData} : ∀ {vs : List Value} {ds : List PyData}, RpA X h vs ds → vs.countP (eqOf X h x) = ds.countP (·.eqv x)
  | _, _, .nil => rfl
  | _, _, .cons a r => by rw [List.countP_cons, List.countP_cons, countP_eqOf r, eqOf_eq a]
theorem RpA.mem {X : Addr → Prop} {h : Heap} {v : Value} : ∀ {vs : List Value} {ds : List PyData}, RpA X h vs ds → v ∈ vs → ∃ d, d ∈ ds ∧ Rp X h v d
  | _, _, .nil, m => by cases m
  | _, _, .cons a r, m => by
    rcases List.mem_cons.mp m with rfl | m
    · exact ⟨_, List.mem_cons_self, a⟩
    · obtain ⟨d, m, q⟩ := r.mem m; exact ⟨d, List.mem_cons_of_mem _ m, q⟩

/-- told.count(row) -/
theorem ev_count {x : Str} {p apos pos : Pos} {e : Expr} {ds : List PyData} {d : PyData} (y : EvE c A env ρ (.Name x p) (.list ds)) (z : EvE c A env ρ e d)
    (hd : SeqAt.shaped d = true) (hs : ∀ y ∈ ds, SeqAt.shaped y = true) (hu : A.in1.units + 64 < cLine) (hb : attributeBase (.Name x p) "count" env (eval (.Name x p) env) = eval (.Name x p) env)
    (hl : (apos.endLine == pos.line) = true) (hse : starEach [e] env = [(false, eval e env)] := by rfl) : EvE c A env ρ (.Call (.Attribute (.Name x p) "count" apos) [e] [] pos) (.int (ds.countP (·.eqv d) : Nat)) := fun Y O h H tk E => by
  refine Call_method1 hb hse hl ((y Y O h H).wp fun v h2 tk2 q => ?_)
  obtain ⟨a, vs, n, rfl, e1, na, r⟩ := q.2.list_inv
  refine ⟨"list", "list.count", PySem.F.plainAttrs_list, PySem.F.slot_list_count, PySem.F.type_list_count, ⟨_, e1, rfl⟩, fun a' q' => ⟨_, by cases q'; exact e1, rfl⟩, ?_⟩
  refine callWith_builtin rfl (evalArgs_plain (spliced_cons ((z Y O h2 (H.tr q.1)).wp fun w h3 tk3 q3 => spliced_nil ?_)))
  show wpAny c.M A (call (.builtin "list.count") [.ref a, w]) _ _ _
  obtain ⟨as, rw'⟩ := q3.2.reads
  refine call_meets PySem.F.slot_list_count ⟨_, q3.1 _ _ e1, rfl⟩ PySem.F.entry_list_count (PySem.F.args_list_count_2 _ _) (SeqAt.list_countAt a vs.toArray n none #[] w (eqOf (Yo Y O) h3 d)) ⟨q3.1 _ _ e1, fun u hu' => ?_, ?_⟩
  · obtain ⟨du, mu, ru⟩ := (r.kp q3.1).mem (v := u) (by simpa using hu')
    rw [eqOf_eq ru]
    obtain ⟨bs, ru'⟩ := ru.reads
    exact keq_at (A := A) ru' rw' (hs _ mu) hd hu
  · refine ⟨h3, _, rfl, q.1.trans q3.1, ?_⟩
    rw [show vs.toArray.toList = vs from rfl, countP_eqOf (r.kp q3.1)]
    exact .int _ _
end
end Mine


open PySem PySem.W PyProof.Rows PySem.Calls PySem.Spec
set_option Elab.async false
set_option maxRecDepth 100000
set_option linter.unusedVariables false
namespace Mine

def Lc (env : Env) (x : Str) : Prop := env.kindOf x = some .local ∨ env.kindOf x = some .cell
/-- a name that the block may bind -/
def Ow (env : Env) (x : Str) : Prop := env.kindOf x = some .local ∨ (env.kindOf x = some .cell ∧ ∀ a, env.cells.lookup x = some a → env.locals < a)
theorem Ow.lc {env : Env} {x : Str} (o : Ow env x) : Lc env x := o.imp_right And.left

section
variable {c : Cx} {A : Around} {env : Env} {ρ ρ' : PS} {Y O O' : Addr → Prop} {h h' h'' : Heap}

theorem Kx.same {W : Addr → Prop} {a : Addr} (s : Heap.SameBut a h h') (w : W a) (d : h'.get? a ≠ none) : Kx W h h' := Kx.ext s.extBut w d

theorem wr_list (H : Abs c env Y O h ρ) {a : Addr} {vs : Array Value} {n : Nat} (w : Wr env O a) (e : h.get? a = some { cls := .type "list", data := .seq vs n }) : Yo Y O a := by
  obtain ⟨m, F, V, I⟩ := H.vals
  rcases w with rfl | ⟨x, w, _⟩ | w
  · obtain ⟨mL, ⟨o, es, ep, q, d, _⟩, _⟩ := F.ns
    rw [e] at q; cases q; cases d
  · obtain ⟨o, q, d⟩ := F.cell x a w
    rw [e] at q; cases q; cases d
  · exact .inr w

theorem wr_dom (H : Abs c env Y O h ρ) {a : Addr} (w : Wr env O a) : h.get? a ≠ none := by
  obtain ⟨m, F, V, I⟩ := H.vals
  rcases w with rfl | ⟨x, w, _⟩ | w
  · obtain ⟨mL, ⟨o, es, ep, q, d, _⟩, _⟩ := F.ns
    rw [q]; simp
  · obtain ⟨o, q, d⟩ := F.cell x a w
    rw [q]; simp
  · exact (H.odom a w).1

theorem wr_g (H : Abs c env Y O h ρ) {a : Addr} (w : Wr env O a) : c.g.get? a = none := by
  rcases w with rfl | ⟨x, w, _⟩ | w
  · exact H.ok.loc
  · exact H.ok.cel x a w
  · exact (H.odom a w).2.1

/-- what a step of the block does to the heap and to what it owns -/
structure Stp (env : Env) (O : Addr → Prop) (h : Heap) (O' : Addr → Prop) (h' : Heap) : Prop where
  kx : Kx (Wr env O) h h'
  own : ∀ a, O' a → O a ∨ h.get? a = none

theorem Stp.refl (env : Env) (O : Addr → Prop) (h : Heap) : Stp env O h O h := ⟨Kx.refl _ _, fun _ o => .inl o⟩
theorem Stp.of_kp (k : Kp h h') : Stp env O h O h' := ⟨k.kx, fun _ o => .inl o⟩
theorem Stp.trans {O'' : Addr → Prop} (a : Stp env O h O' h') (b : Stp env O' h' O'' h'') (w : ∀ x, Wr env O x → h.get? x ≠ none) : Stp env O h O'' h'' :=
  ⟨a.kx.trans b.kx fun x q => by
      rcases q with q | q | q
      · exact .inl (.inl q)
      · exact .inl (.inr (.inl q))
      · exact (a.own x q).elim (fun o => .inl (.inr (.inr o))) .inr,
    fun x q => (b.own x q).elim (a.own x) fun z => .inr (a.kx.back z)⟩

theorem Rp.stp {v : Value} {d : PyData} (r : Rp (Yo Y O) h v d) (H : Abs c env Y O h ρ) (s : Stp env O h O' h') : Rp (Yo Y O') h' v d :=
  r.kx s.kx (fun a vs n w e => wr_list H w e) fun a q => q.elim (fun y => .inl (.inl y)) fun o => (s.own a o).elim (fun o => .inl (.inr o)) .inr
theorem RpA.stp {vs : List Value} {ds : List PyData} (r : RpA (Yo Y O) h vs ds) (H : Abs c env Y O h ρ) (s : Stp env O h O' h') : RpA (Yo Y O') h' vs ds :=
  r.kx s.kx (fun a vs n w e => wr_list H w e) fun a q => q.elim (fun y => .inl (.inl y)) fun o => (s.own a o).elim (fun o => .inl (.inr o)) .inr

theorem Fm.fun {m m' : Str → Option Value} {x : Str} (ok : EnvOk c env) (F : Fm env h m) (F' : Fm env h m') (hx : Lc env x) : m x = m' x := by
  rcases hx with hx | hx
  · obtain ⟨a, n, e⟩ := F.ns
    obtain ⟨b, n', e'⟩ := F'.ns
    rw [← e x hx, ← e' x hx]
    obtain ⟨o, es, ep, q, d, _, r⟩ := n
    obtain ⟨o', es', ep', q', d', _, r'⟩ := n'
    rw [q] at q'; cases q'; rw [d] at d'; cases d'
    rw [← r, ← r']
  · obtain ⟨a, q⟩ := ok.has x hx
    obtain ⟨o, e, d⟩ := F.cell x a q
    obtain ⟨o', e', d'⟩ := F'.cell x a q
    rw [e] at e'; cases e'; rw [d] at d'; injection d'

/-- the list that an owned name holds -/
def Holds (env : Env) (h : Heap) (x : Str) (a : Addr) : Prop := ∃ m, Fm env h m ∧ m x = some (.ref a)
theorem Holds.kp {x : Str} {a : Addr} (p : Holds env h x a) (k : Kp h h') : Holds env h' x a := let ⟨m, F, e⟩ := p; ⟨m, F.kp k, e⟩

/-- what a name may be given -/
theorem Abs.store {x : Str} {pv : PV} {v : Value} {m' : Str → Option Value} (H : Abs c env Y O h ρ) (hx : Lc env x) (s : Kx (Wr env (fun _ => False)) h h')
    (F' : ∀ m, Fm env h m → Fm env h' (upd m x v)) (p : PvAt Y O h v pv) (u : ∀ ds, pv = .own ds → ∀ y es b, y ≠ x → ρ.lookup y = some (.own es) → Holds env h y b → v ≠ .ref b) : Abs c env Y O h' ((x, pv) :: ρ) := by
  have S : Stp env O h O h' := ⟨s.mono fun a q => .inl (by rcases q with q | q | q; exact .inl q; exact .inr (.inl q); exact q.elim), fun a o => .inl o⟩
  have own' : ∀ {w pv}, PvAt Y O h w pv → PvAt Y O h' w pv := fun {w pv} q => by
    cases pv with
    | imm d => exact Rp.stp q H S
    | own ds =>
      obtain ⟨a, vs, n, e1, o, e2, r⟩ := q
      refine ⟨a, vs, n, e1, o, s.1 _ _ (fun w => ?_) e2, r.stp H S⟩
      obtain ⟨m, F, V, I⟩ := H.vals
      rcases w with rfl | ⟨x, w, _⟩ | w
      · obtain ⟨mL, ⟨o, es, ep, q, d, _⟩, _⟩ := F.ns
        rw [e2] at q; cases q; cases d
      · obtain ⟨o, q, d⟩ := F.cell x a w
        rw [e2] at q; cases q; cases d
      · exact w
  refine ⟨H.ok, fun b o e => s.1 b o (fun w => ?_) (H.kp b o e), fun a y => s.2 a (H.ydom a y), fun a o => ⟨s.2 a (H.odom a o).1, (H.odom a o).2⟩, ?_⟩
  · have := wr_g H (a := b) (by rcases w with q | q | q; exact .inl q; exact .inr (.inl q); exact q.elim)
    rw [e] at this; cases this
  · obtain ⟨m, F, V, I⟩ := H.vals
    refine ⟨upd m x v, F' m F, fun y pw e => ?_, fun y z ds es w a b e1 e2 => ?_⟩
    · rw [List.lookup_cons] at e
      by_cases q : y = x
      · subst q
        simp only [beq_self_eq_true] at e
        cases e
        exact ⟨hx, v, if_pos rfl, own' p⟩
      · have : (y == x) = false := by simpa using q
        rw [this] at e
        obtain ⟨a, w, e2, e3⟩ := V y pw e
        exact ⟨a, w, by unfold upd; rw [if_neg q]; exact e2, own' e3⟩
    · rw [List.lookup_cons] at a b
      by_cases q : y = x <;> by_cases q' : z = x
      · rw [q, q']
      · subst q
        have hz : (z == y) = false := by simpa using q'
        rw [hz] at b
        simp only [beq_self_eq_true] at a
        cases a
        unfold upd at e1 e2
        rw [if_pos rfl] at e1
        rw [if_neg q'] at e2
        cases e1
        obtain ⟨_, w', e3, b', _, _, rfl, _⟩ := V z _ b
        rw [e2] at e3; cases e3
        exact absurd rfl (u ds rfl z es _ q' b ⟨m, F, e2⟩)
      · subst q'
        have hz : (y == z) = false := by simpa using q
        rw [hz] at a
        simp only [beq_self_eq_true] at b
        cases b
        unfold upd at e1 e2
        rw [if_neg q] at e1
        rw [if_pos rfl] at e2
        cases e2
        obtain ⟨_, w', e3, b', _, _, rfl, _⟩ := V y _ a
        rw [e1] at e3; cases e3
        exact absurd rfl (u es rfl y ds _ q a ⟨m, F, e1⟩)
      · have hy : (y == x) = false := by simpa using q
        have hz : (z == x) = false := by simpa using q'
        rw [hy] at a; rw [hz] at b
        unfold upd at e1 e2
        rw [if_neg q] at e1
        rw [if_neg q'] at e2
        exact I y z ds es w a b e1 e2

/-- a name is bound -/
theorem st {x : Str} {pv : PV} {v : Value} {Q : Unit → Shared → Prop} {E : Value → Shared → Prop} {tk : Nat} (H : Abs c env Y O h ρ) (hx : Ow env x)
    (p : PvAt Y O h v pv) (u : ∀ ds, pv = .own ds → ∀ y es b, y ≠ x → ρ.lookup y = some (.own es) → Holds env h y b → v ≠ .ref b)
    (k : ∀ h' tk', Abs c env Y O h' ((x, pv) :: ρ) → Stp env O h O h' → Q () (c.St h' tk')) : wpAny c.M A (storeName env x v) Q E (c.St h tk) := by
  have hs : ∀ {h'}, Kx (Wr env (fun _ => False)) h h' → Stp env O h O h' := fun s => ⟨s.mono fun a q => .inl (by rcases q with q | q | q; exact .inl q; exact .inr (.inl q); exact q.elim), fun a o => .inl o⟩
  obtain ⟨m, F, _, _⟩ := H.vals
  rcases hx with hx' | ⟨hx', own⟩
  · obtain ⟨mL, n, e⟩ := F.ns
    refine wpAny_storeName_local hx' n (fun h' n' s => ?_) (by rw [H.ok.kind]; rfl)
    have nd : h'.get? env.locals ≠ none := by obtain ⟨o, es, ep, q, _⟩ := n'; rw [q]; simp
    have K : Kx (Wr env (fun _ => False)) h h' := Kx.same s (.inl rfl) nd
    refine k h' _ (H.store (m' := m) (.inl hx') K (fun m F => ?_) p u) (hs K)
    obtain ⟨mL2, n2, e2⟩ := F.ns
    have : mL2 = mL := by
      obtain ⟨o, es, ep, q, d, _, r⟩ := n
      obtain ⟨o', es', ep', q', d', _, r'⟩ := n2
      rw [q] at q'; cases q'; rw [d] at d'; cases d'
      funext y; rw [← r, ← r']
    subst this
    refine ⟨⟨_, n', fun y hy => ?_⟩, fun y a q => ?_⟩
    · unfold upd; split
      · rfl
      · exact e2 y hy
    · have hy := H.ok.ck y a q
      have hne : y ≠ x := by rintro rfl; rw [hx'] at hy; cases hy
      unfold upd
      rw [if_neg hne]
      refine (F.cell y a q).sameBut s ?_
      rintro rfl
      obtain ⟨o, q1, d1⟩ := F.cell y _ q
      obtain ⟨o', es', ep', q', d', _, r'⟩ := n2
      rw [show h.get? env.locals = some o from q1] at q'; cases q'; rw [d1] at d'; cases d'
  · obtain ⟨a, q⟩ := H.ok.has x hx'
    refine wpAny_storeName_cell H.ok.kind hx' q (F.cell x a q) fun h' c' s => ?_
    have nd : h'.get? a ≠ none := by obtain ⟨o, q, _⟩ := c'; rw [q]; simp
    have K : Kx (Wr env (fun _ => False)) h h' := Kx.same s (.inr (.inl ⟨x, q, own a q⟩)) nd
    refine k h' tk (H.store (m' := m) (.inr hx') K (fun m F => ?_) p u) (hs K)
    refine ⟨?_, fun y b qb => ?_⟩
    · obtain ⟨mL2, n2, e2⟩ := F.ns
      refine ⟨mL2, n2.sameBut s ?_, fun y hy => ?_⟩
      · intro e
        obtain ⟨o, q1, d1⟩ := F.cell x a q
        obtain ⟨o', es', ep', q', d', _, r'⟩ := n2
        rw [e] at q'
        rw [show h.get? a = some o from q1] at q'; cases q'; rw [d1] at d'; cases d'
      · have hne : y ≠ x := by rintro rfl; rw [hx'] at hy; cases hy
        unfold upd; rw [if_neg hne]; exact e2 y hy
    · by_cases hy : y = x
      · subst hy
        rw [q] at qb; cases qb
        unfold upd; rw [if_pos rfl]; exact c'
      · unfold upd; rw [if_neg hy]
        refine (F.cell y b qb).sameBut s ?_
        rintro rfl
        exact hy (H.ok.inj y x _ qb q)

/-- one more list is owned -/
theorem Abs.grow {a : Addr} (H : Abs c env Y O h ρ) (n : h.get? a = none) (k : Kp h h') (d : h'.get? a ≠ none) : Abs c env Y (fun b => O b ∨ b = a) h' ρ where
  ok := H.ok
  kp := H.kp.trans k
  ydom := fun b y => k.dom (H.ydom b y)
  odom := fun b o => o.elim (fun o => ⟨k.dom (H.odom b o).1, (H.odom b o).2⟩) fun e => e ▸ ⟨d, H.kp.back n, fun y => H.ydom a y n⟩
  vals := by
    obtain ⟨m, F, V, I⟩ := H.vals
    refine ⟨m, F.kp k, fun x pv e => ?_, I⟩
    obtain ⟨a', v, b, p⟩ := V x pv e
    refine ⟨a', v, b, ?_⟩
    have s : ∀ x, Yo Y (fun b => O b ∨ b = a) x → Yo Y O x ∨ h.get? x = none := fun x q => by
      rcases q with q | q | q
      · exact .inl (.inl q)
      · exact .inl (.inr q)
      · exact .inr (q ▸ n)
    cases pv with
    | imm d => exact (Rp.set p s).kp k
    | own ds =>
      obtain ⟨a1, vs, n1, e1, o, q, r⟩ := p
      exact ⟨a1, vs, n1, e1, .inl o, k _ _ q, (r.set s).kp k⟩

/-- .. and one less -/
theorem Abs.disown {x : Str} {ds : List PyData} (H : Abs c env Y O h ρ) (l : ρ.lookup x = some (.own ds)) : ∃ O', (∀ a, O' a → O a) ∧ Abs c env Y O' h ((x, .imm (.list ds)) :: ρ) := by
  obtain ⟨m, F, V, I⟩ := H.vals
  obtain ⟨hx, v, hv, a, vs, n, rfl, o, q, r⟩ := V x _ l
  refine ⟨fun b => O b ∧ b ≠ a, fun b q => q.1, H.ok, H.kp, H.ydom, fun b o => H.odom b o.1, m, F, fun y pv e => ?_, fun y z es fs w e1 e2 e3 e4 => ?_⟩
  · have s : ∀ b, Yo Y (fun b => O b ∧ b ≠ a) b → Yo Y O b ∨ h.get? b = none := fun b q => q.elim (fun y => .inl (.inl y)) fun o => .inl (.inr o.1)
    rw [List.lookup_cons] at e
    by_cases hy : y = x
    · subst hy
      simp only [beq_self_eq_true] at e
      cases e
      exact ⟨hx, _, hv, .list q (fun z => z.elim (H.odom a o).2.2 fun z => z.2 rfl) (r.set s)⟩
    · have : (y == x) = false := by simpa using hy
      rw [this] at e
      obtain ⟨a1, w, e2, e3⟩ := V y pv e
      refine ⟨a1, w, e2, ?_⟩
      cases pv with
      | imm d => exact Rp.set e3 s
      | own es =>
        obtain ⟨b, ws, n', e4, o', q', r'⟩ := e3
        refine ⟨b, ws, n', e4, ⟨o', ?_⟩, q', r'.set s⟩
        rintro rfl
        subst e4
        exact hy (I y x es ds _ e l e2 hv)
  · rw [List.lookup_cons] at e1 e2
    have hy : y ≠ x := by rintro rfl; simp at e1
    have hz : z ≠ x := by rintro rfl; simp at e2
    rw [show (y == x) = false by simpa using hy] at e1
    rw [show (z == x) = false by simpa using hz] at e2
    exact I y z es fs w e1 e2 e3 e4

theorem ldo {x : Str} {ds : List PyData} {pos : Pos} {Q : Value → Shared → Prop} {E : Value → Shared → Prop} {tk : Nat} (H : Abs c env Y O h ρ) (l : ρ.lookup x = some (.own ds)) (hd : (x == ("__debug__" : Str)) = false)
    (k : ∀ a vs n, Holds env h x a → O a → h.get? a = some { cls := .type "list", data := .seq vs.toArray n } → RpA (Yo Y O) h vs ds → Q (.ref a) (c.St h tk)) : wpAny c.M A (eval (.Name x pos) env) Q E (c.St h tk) := by
  refine wpAny_Name ?_ hd
  obtain ⟨m, F, V, I⟩ := H.vals
  obtain ⟨hx, v, b, a, vs, n, rfl, o, q, r⟩ := V x _ l
  rcases hx with hx | hx
  · obtain ⟨mL, n', e⟩ := F.ns
    exact wpAny_loadName_local H.ok.kind hx n' ((e x hx).trans b) (k a vs n ⟨m, F, b⟩ o q r)
  · obtain ⟨y, q'⟩ := H.ok.has x hx
    have := F.cell x y q'
    rw [b] at this
    exact wpAny_loadName_cell H.ok.kind hx q' this (k a vs n ⟨m, F, b⟩ o q r)

/-- an owned list is changed -/
theorem Abs.change {x : Str} {ds es : List PyData} {a : Addr} {ws : List Value} {n : Nat} (H : Abs c env Y O h ρ) (l : ρ.lookup x = some (.own ds)) (hh : Holds env h x a) (s : Heap.SameBut a h h')
    (e : h'.get? a = some { cls := .type "list", data := .seq ws.toArray n }) (r : RpA (Yo Y O) h ws es) : Abs c env Y O h' ((x, .own es) :: ρ) ∧ Stp env O h O h' := by
  obtain ⟨m, F, V, I⟩ := H.vals
  obtain ⟨hx, v, hv, a', vs, n', rfl, o, q, rv⟩ := V x _ l
  obtain ⟨m', F', hm'⟩ := hh
  have : m x = m' x := F.fun H.ok F' hx
  rw [hv, hm'] at this
  cases this
  have K : Kx (Wr env O) h h' := Kx.same s (.inr (.inr o)) (by rw [e]; simp)
  have S : Stp env O h O h' := ⟨K, fun _ o => .inl o⟩
  have hL : env.locals ≠ a := by
    rintro rfl
    obtain ⟨mL, ⟨ol, es', ep, q', d, _⟩, _⟩ := F.ns
    rw [q] at q'; cases q'; cases d
  have hC : ∀ y b, env.cells.lookup y = some b → b ≠ a := by
    rintro y b z rfl
    obtain ⟨oc, q', d⟩ := F.cell y b z
    rw [show h.get? b = some oc from q'] at q; cases q; cases d
  refine ⟨⟨H.ok, fun b ob eb => ?_, fun b y => K.2 b (H.ydom b y), fun b ob => ⟨K.2 b (H.odom b ob).1, (H.odom b ob).2⟩, m, ⟨?_, fun y b z => (F.cell y b z).sameBut s (hC y b z)⟩, fun y pv ey => ?_, fun y z ds' es' w a1 b1 e1 e2 => ?_⟩, S⟩
  · by_cases z : b = a
    · subst z; rw [(H.odom b o).2.1] at eb; cases eb
    · exact (s.2 b z).trans (H.kp b ob eb)
  · obtain ⟨mL, nL, eL⟩ := F.ns
    exact ⟨mL, nL.sameBut s hL, eL⟩
  · rw [List.lookup_cons] at ey
    by_cases hy : y = x
    · subst hy
      simp only [beq_self_eq_true] at ey
      cases ey
      exact ⟨hx, _, hv, a, ws, n, rfl, o, e, r.stp H S⟩
    · rw [show (y == x) = false by simpa using hy] at ey
      obtain ⟨ly, w, ew, p⟩ := V y pv ey
      refine ⟨ly, w, ew, ?_⟩
      cases pv with
      | imm d => exact Rp.stp p H S
      | own fs =>
        obtain ⟨b, us, k, e4, ob, qb, rb⟩ := p
        refine ⟨b, us, k, e4, ob, (s.2 b ?_).trans qb, rb.stp H S⟩
        rintro rfl
        subst e4
        exact hy (I y x fs ds _ ey l ew hv)
  · rw [List.lookup_cons] at a1 b1
    by_cases hy : y = x <;> by_cases hz : z = x
    · rw [hy, hz]
    · subst hy
      rw [show (z == y) = false by simpa using hz] at b1
      exact I y z ds es' w l b1 e1 e2
    · subst hz
      rw [show (y == z) = false by simpa using hy] at a1
      exact I y z ds' ds w a1 l e1 e2
    · rw [show (y == x) = false by simpa using hy] at a1
      rw [show (z == x) = false by simpa using hz] at b1
      exact I y z ds' es' w a1 b1 e1 e2
end

inductive Fl (X : Addr → Prop) (h : Heap) : Flow → Option PyData → Prop
  | next : Fl X h .next none
  | ret {v : Value} {d : PyData} : Rp X h v d → Fl X h (.ret v) (some d)

/-- statements, upon pure states -/
def ExecS (c : Cx) (A : Around) (env : Env) (ρ : PS) (body : List Stmt) (Post : Option PyData → PS → Prop) : Prop :=
  ∀ Y O h, Abs c env Y O h ρ → Ev c A (execs body env) h (fun f h' => ∃ O' ρ' r, Stp env O h O' h' ∧ Abs c env Y O' h' ρ' ∧ Fl (Yo Y O') h' f r ∧ Post r ρ')

/-- one statement, then the rest -/
def Exec1 (c : Cx) (A : Around) (env : Env) (ρ : PS) (s : Stmt) (Post : Option PyData → PS → Prop) : Prop :=
  ∀ Y O h, Abs c env Y O h ρ → Ev c A (exec s env) h (fun f h' => ∃ O' ρ' r, Stp env O h O' h' ∧ Abs c env Y O' h' ρ' ∧ Fl (Yo Y O') h' f r ∧ Post r ρ')

def Then (c : Cx) (A : Around) (env : Env) (rest : List Stmt) (Post : Option PyData → PS → Prop) : Option PyData → PS → Prop := fun r ρ => match r with
  | none => ExecS c A env ρ rest Post
  | some d => Post (some d) ρ

section
variable {c : Cx} {A : Around} {env : Env} {ρ ρ' : PS} {Y O O' : Addr → Prop} {h h' h'' : Heap} {Post : Option PyData → PS → Prop} {rest : List Stmt}

theorem ex_nil (p : Post none ρ) : ExecS c A env ρ [] Post := fun Y O h H tk E => wpAny_execs_nil ⟨h, tk, rfl, O, ρ, none, Stp.refl _ _ _, H, .next, p⟩

theorem ex_cons {s : Stmt} (x : Exec1 c A env ρ s (Then c A env rest Post)) : ExecS c A env ρ (s :: rest) Post := fun Y O h H tk E => by
  refine wpAny_execs_cons ((x Y O h H).wp fun f h1 tk1 p => ?_)
  obtain ⟨O', ρ', r, S, H', f', q⟩ := p
  cases f' with
  | next =>
    refine ((show ExecS c A env ρ' rest Post from q) Y O' h1 H').wp fun f h2 tk2 p => ?_
    obtain ⟨O2, ρ2, r2, S2, H2, f2, q2⟩ := p
    exact ⟨h2, tk2, rfl, O2, ρ2, r2, S.trans S2 fun x w => wr_dom H w, H2, f2, q2⟩
  | ret rv => exact ⟨h1, tk1, rfl, O', ρ', _, S, H', .ret rv, q⟩

theorem ExecS.mono {body : List Stmt} {Post' : Option PyData → PS → Prop} (x : ExecS c A env ρ body Post) (k : ∀ r ρ', Post r ρ' → Post' r ρ') : ExecS c A env ρ body Post' := fun Y O h H =>
  (x Y O h H).mono fun f h' ⟨O', ρ', r, a, b, d, e⟩ => ⟨O', ρ', r, a, b, d, k _ _ e⟩
theorem ExecS.weak {body : List Stmt} (x : ExecS c A env ρ' body Post) (w : ∀ x pv, ρ'.lookup x = some pv → ρ.lookup x = some pv) : ExecS c A env ρ body Post := fun Y O h H => x Y O h (H.weak w)

theorem ex_disown (x : Str) {ds : List PyData} {body : List Stmt} (l : ρ.lookup x = some (.own ds)) (k : ExecS c A env ((x, .imm (.list ds)) :: ρ) body Post) : ExecS c A env ρ body Post := fun Y O h H => by
  obtain ⟨O', s, H'⟩ := H.disown l
  refine (k Y O' h H').mono fun f h' ⟨O2, ρ', r, S, b, d, e⟩ => ⟨O2, ρ', r, ⟨S.kx.mono fun a q => .inl ?_, fun a o => (S.own a o).imp_left (s a)⟩, b, d, e⟩
  rcases q with q | q | q
  · exact .inl q
  · exact .inr (.inl q)
  · exact .inr (.inr (s a q))

theorem ex_ret {e : Expr} {pos : Pos} {d : PyData} (x : EvE c A env ρ e d) (p : Post (some d) ρ) : ExecS c A env ρ (.Return (some e) pos :: rest) Post :=
  ex_cons fun Y O h H tk E => wpAny_Return_some ((x Y O h H).wp fun v h1 tk1 q => ⟨h1, tk1, rfl, O, ρ, some d, Stp.of_kp q.1, H.tr q.1, .ret q.2, p⟩)

theorem ex_assign {x : Str} {e : Expr} {p pos : Pos} {d : PyData} (hx : Ow env x) (y : EvE c A env ρ e d) (k : ExecS c A env ((x, .imm d) :: ρ) rest Post)
    (hs : swapsWith e (some (.Name x p)) pos.line env = pure false := by rfl) : ExecS c A env ρ (.Assign [.Name x p] e pos :: rest) Post :=
  ex_cons fun Y O h H tk E => wpAny_Assign_Name ((y Y O h H).wp fun v h1 tk1 q => st (H.tr q.1) hx (pv := .imm d) q.2 (fun _ e => by cases e) fun h2 tk2 H2 S2 =>
    ⟨h2, tk2, rfl, O, _, none, (Stp.of_kp q.1).trans S2 fun x w => wr_dom H w, H2, .next, k⟩) hs

theorem ex_if {t : Expr} {b o : List Stmt} {pos : Pos} {k : Bool} (x : EvT c A env ρ t k) (y : k = true → ExecS c A env ρ b (Then c A env rest Post)) (z : k = false → ExecS c A env ρ o (Then c A env rest Post)) :
    ExecS c A env ρ (.If t b o pos :: rest) Post :=
  ex_cons fun Y O h H tk E => wpAny_If ((x Y O h H).wp fun v h1 tk1 q => by
    obtain ⟨q1, rfl⟩ := q
    have lift : ∀ {f : Flow} {h' : Heap} {tk' : Nat}, (∃ O' ρ' r, Stp env O h1 O' h' ∧ Abs c env Y O' h' ρ' ∧ Fl (Yo Y O') h' f r ∧ Then c A env rest Post r ρ') →
        ∃ h'' tk'', c.St h' tk' = c.St h'' tk'' ∧ ∃ O' ρ' r, Stp env O h O' h'' ∧ Abs c env Y O' h'' ρ' ∧ Fl (Yo Y O') h'' f r ∧ Then c A env rest Post r ρ' := fun {f h' tk'} ⟨O', ρ', r, S, a, b, d⟩ =>
      ⟨h', tk', rfl, O', ρ', r, (Stp.of_kp q1).trans S fun x w => wr_dom H w, a, b, d⟩
    cases v with
    | true => exact (y rfl Y O h1 (H.tr q1)).wp fun f h2 tk2 p => lift p
    | false => exact (z rfl Y O h1 (H.tr q1)).wp fun f h2 tk2 p => lift p)

/-- a new list -/
def EvN (c : Cx) (A : Around) (env : Env) (ρ : PS) (e : Expr) (ds : List PyData) : Prop :=
  ∀ Y O h, Abs c env Y O h ρ → Ev c A (eval e env) h (fun v h' => Kp h h' ∧ ∃ a vs n, v = .ref a ∧ h.get? a = none ∧ h'.get? a = some { cls := .type "list", data := .seq vs.toArray n } ∧ RpA (fun b => Yo Y O b ∨ b = a) h' vs ds)

theorem en_list {pos : Pos} {es : List Expr} {ds : List PyData} (x : EvL c A env ρ pos es ds) (hs : ds.length ≤ sizeLine) : EvN c A env ρ (.List es pos) ds := fun Y O h H tk E =>
  wpAny_List_spliced ((x Y O h H).wp fun vs h2 tk2 p => ⟨by rw [p.2.length]; exact hs, _, tk2, rfl, p.1.trans (Kp.push _ _), h2.objs.size, vs, 0, rfl, p.1.back (get?_size _), Heap.get?_push_size _ rfl,
    (p.2.set fun a q => q.elim .inl fun e => .inr (e ▸ get?_size _)).kp (Kp.push _ _)⟩)

theorem EvN.e {e : Expr} {ds : List PyData} (x : EvN c A env ρ e ds) : EvE c A env ρ e (.list ds) := fun Y O h H => (x Y O h H).mono fun v h' ⟨k, a, vs, n, e, f, g, r⟩ =>
  ⟨k, by subst e; exact .list g (fun y => yo_none H y f) (r.set fun b q => .inl (.inl q))⟩

theorem st_own {x : Str} {a : Addr} {vs : List Value} {n : Nat} {ds : List PyData} {Q : Unit → Shared → Prop} {E : Value → Shared → Prop} {tk : Nat} (H : Abs c env Y O h ρ) (hx : Ow env x) (k : Kp h h') (f : h.get? a = none)
    (g : h'.get? a = some { cls := .type "list", data := .seq vs.toArray n }) (r : RpA (fun b => Yo Y O b ∨ b = a) h' vs ds)
    (kk : ∀ h2 tk', Abs c env Y (fun b => O b ∨ b = a) h2 ((x, .own ds) :: ρ) → Stp env O h (fun b => O b ∨ b = a) h2 → Stp env (fun b => O b ∨ b = a) h' (fun b => O b ∨ b = a) h2 → Q () (c.St h2 tk')) : wpAny c.M A (storeName env x (.ref a)) Q E (c.St h' tk) := by
  have H' := H.grow f k (by rw [g]; simp)
  refine st (pv := .own ds) H' hx ⟨a, vs, n, rfl, .inr rfl, g, r.set fun b q => ?_⟩ (fun ds' e y es b ny l p => ?_) fun h2 tk2 H2 S2 => kk h2 tk2 H2 ?_ S2
  · rcases q with q | q | q
    · exact .inl (.inl (.inl q))
    · exact .inl (.inl (.inr q))
    · exact .inl (.inr q)
  · intro q
    cases q
    obtain ⟨m, F, V, I⟩ := H.vals
    obtain ⟨hy, v, hv, b, us, n2, rfl, ob, eb, _⟩ := V y _ l
    obtain ⟨m', F', hm⟩ := p
    have := (F.kp k).fun H.ok F' hy
    rw [hv, hm] at this
    cases this
    rw [f] at eb; cases eb
  · exact ⟨(Stp.of_kp (O := O) k).kx.trans S2.kx fun b q => by
      rcases q with q | q | q | q
      · exact .inl (.inl q)
      · exact .inl (.inr (.inl q))
      · exact .inl (.inr (.inr q))
      · exact .inr (q ▸ f), fun b q => by
      rcases S2.own b q with (q | q) | q
      · exact .inl q
      · exact .inr (q ▸ f)
      · exact .inr (k.back q)⟩
end
end Mine


open PySem PySem.W PyProof.Rows PySem.Calls PySem.Spec
set_option Elab.async false
set_option maxRecDepth 100000
set_option linter.unusedVariables false
namespace Mine

section
variable {c : Cx} {A : Around} {env : Env} {ρ ρ' : PS} {Y O O' : Addr → Prop} {h h' h'' : Heap} {Post : Option PyData → PS → Prop} {rest : List Stmt}

theorem ex_own {x : Str} {e : Expr} {p pos : Pos} {ds : List PyData} (hx : Ow env x) (y : EvN c A env ρ e ds) (k : ExecS c A env ((x, .own ds) :: ρ) rest Post)
    (hs : swapsWith e (some (.Name x p)) pos.line env = pure false := by rfl) : ExecS c A env ρ (.Assign [.Name x p] e pos :: rest) Post :=
  ex_cons fun Y O h H tk E => wpAny_Assign_Name ((y Y O h H).wp fun v h1 tk1 ⟨q, a, vs, n, e, f, g, r⟩ => by
    subst e
    exact st_own H hx q f g r fun h2 tk2 H2 S2 _ => ⟨h2, tk2, rfl, _, _, none, S2, H2, .next, k⟩) hs

theorem ex_append {x : Str} {e : Expr} {p apos pos spos : Pos} {ds : List PyData} {d : PyData} (l : ρ.lookup x = some (.own ds)) (y : EvE c A env ρ e d) (hz : ds.length ≤ sizeLine) (k : ExecS c A env ((x, .own (ds ++ [d])) :: ρ) rest Post)
    (hd : (x == ("__debug__" : Str)) = false)
    (hfew : ((backTo pos (starEach [e] env)).all (fun x => !x.1) && (backToKw pos (keywordEach [] env)).all (fun x => x.1.isSome)
      && decide (([e] : List Expr).length + ([] : List Keyword).length + (if ([] : List Keyword).isEmpty then 0 else 1) < 30)) = true := by rfl)
    (hline : (apos.endLine == pos.line) = true := by rfl) (htrees : backTo pos (starEach [e] env) = [(false, eval e env)] := by rfl) :
    ExecS c A env ρ (.Expr (.Call (.Attribute (.Name x p) "append" apos) [e] [] pos) spos :: rest) Post :=
  ex_cons fun Y O h H tk E => wpAny_Expr (wpAny_Call_append rfl hfew hline htrees (ldo H l hd fun a vs n hh o q r => by
    refine ⟨a, vs.toArray, rfl, ⟨_, n, q, rfl, rfl, rfl⟩, (y Y O h H).wp fun v h1 tk1 p => ?_⟩
    refine wpAny_list_append_plain ⟨n, p.1 _ _ q⟩ (fun h2 ⟨n2, e2⟩ s => ?_) (by simp only [List.size_toArray, r.length]; exact hz)
    rw [List.push_toArray] at e2
    have H1 := H.tr p.1
    obtain ⟨H2, S2⟩ := H1.change l (hh.kp p.1) s e2 ((r.kp p.1).append (RpA.one p.2))
    exact ⟨h2, tk1, rfl, O, _, none, (Stp.of_kp p.1).trans S2 fun x w => wr_dom H w, H2, .next, k⟩)) (by unfold interactive; first | rfl | (have := H.ok.plain; exact this)) rfl

/-- a target takes a datum -/
def Tgt (c : Cx) (A : Around) (env : Env) (t : Expr) (d : PyData) (β : PS) : Prop :=
  ∀ Y O h ρ v, Abs c env Y O h ρ → Rp (Yo Y O) h v d → Ev c A (assign t env v) h (fun _ h' => Stp env O h O h' ∧ Abs c env Y O h' (β ++ ρ))

theorem tgt_name {x : Str} {p : Pos} {d : PyData} (hx : Ow env x) : Tgt c A env (.Name x p) d [(x, .imm d)] := fun Y O h ρ v H r tk E =>
  wpAny_assign_Name (st H hx (pv := .imm d) r (fun _ e => by cases e) fun h2 tk2 H2 S2 => ⟨h2, tk2, rfl, S2, H2⟩)

theorem tgt_two {x y : Str} {p q pos : Pos} {k : Nat} {d e : PyData} (hh : A.handled = none) (hx : Ow env x) (hy : Ow env y) : Tgt c A env (.Tuple [.Name x p, .Name y q] k pos) (.list [d, e]) [(y, .imm e), (x, .imm d)] := fun Y O h ρ v H r tk E => by
  obtain ⟨a, vs, n, rfl, e1, na, rv⟩ := r.list_inv
  rw [assign_Tuple]
  refine wpAny_bind (wpAny_standAt ?_)
  have hl := rv.length
  unfold unpack
  show wpAny c.M A (holding [.ref a] (unpackItems (.ref a) 2 none) >>= fun items => assignInOrder [assign (.Name x p) env, assign (.Name y q) env] items) _ _ _
  refine wpAny_bind (wpAny_holding ?_)
  have h2 : vs.toArray.size = 2 := by simpa using hl
  rw [← h2]
  refine kun_itemsOf hh (isL_of (h := (c.St h tk).heap) e1) fun h1 x1 => ?_
  have k1 : Kp h h1 := Kp.ext x1 (get?_size h)
  cases rv with
  | cons a1 rv =>
    cases rv with
    | cons a2 rv =>
      cases rv
      show wpAny c.M A (assignInOrder [assign (.Name x p) env, assign (.Name y q) env] [_, _]) _ _ (c.St h1 tk)
      unfold assignInOrder
      refine wpAny_bind (wpAny_holding ?_)
      have H1 := H.tr k1
      refine wpAny_assign_Name (st H1 hx (pv := .imm d) (a1.kp k1) (fun _ e => by cases e) fun h3 tk3 H3 S3 => ?_)
      unfold assignInOrder
      refine wpAny_bind (wpAny_holding ?_)
      refine wpAny_assign_Name (st H3 hy (pv := .imm e) ((a2.kp k1).stp H1 S3) (fun _ e => by cases e) fun h4 tk4 H4 S4 => ?_)
      unfold assignInOrder
      refine wpAny_pure ⟨h4, tk4, rfl, ?_, H4⟩
      exact ((Stp.of_kp k1).trans S3 fun x w => wr_dom H w).trans S4 fun x w => wr_dom H w

/-- a, b = x.pop() -/
theorem ex_pop {x : Str} {t : Expr} {elts : List Expr} {kk : Nat} {p apos cpos tpos pos : Pos} {ds : List PyData} {d : PyData} {β : PS} (l : ρ.lookup x = some (.own (ds ++ [d]))) (ht : t = .Tuple elts kk tpos) (T : Tgt c A env t d β) (hz : ds.length + 1 ≤ sizeLine) (k : ExecS c A env (β ++ (x, .own ds) :: ρ) rest Post)
    (hd : (x == ("__debug__" : Str)) = false) (hline : (apos.endLine == cpos.line) = true := by rfl)
    (hs : swapsWithSole [t] (.Call (.Attribute (.Name x p) "pop" apos) [] [] cpos) pos.line env = pure false := by rfl)
    (hw : swappedStores [t] (.Call (.Attribute (.Name x p) "pop" apos) [] [] cpos) env = pure none := by rfl) :
    ExecS c A env ρ (.Assign [t] (.Call (.Attribute (.Name x p) "pop" apos) [] [] cpos) pos :: rest) Post := by
  subst ht
  refine ex_cons fun Y O h H tk E => Assign_Tuple (Call_method0 rfl hline (ldo H l hd fun a vs n hh o q r => ?_)) hs hw
  refine ⟨"list", "list.pop", PySem.F.plainAttrs_list, PySem.F.slot_list_pop, PySem.F.type_list_pop, ⟨_, q, rfl⟩, fun a' q' => ⟨_, by cases q'; exact q, rfl⟩, ?_⟩
  have hl := r.length
  rw [List.length_append, List.length_singleton] at hl
  obtain ⟨v, hv, rv⟩ := r.get (k := ds.length) (d := d) (by simp)
  have hvs : vs.length - 1 = ds.length := by omega
  refine P.pop_list (s := c.St h tk) (y := v) (n := n) q (by simpa [hvs] using hv) ?_ (by simp only [List.size_toArray]; omega)
  have e2 : (h.update a (Obj.mapSeq fun xs => xs.eraseIdxIfInBounds (vs.toArray.size - 1))).get? a = some { cls := .type "list", data := .seq (vs.take ds.length).toArray (n + 1) } := by
    rw [Heap.get?_update_self _ q (by simp [Obj.mapSeq, Obj.isFreed])]
    have e3 : vs.toArray.eraseIdxIfInBounds (vs.length - 1) = (vs.take ds.length).toArray := by
      rw [hvs]
      apply Array.toList_inj.mp
      have : ds.length < vs.length := by omega
      simp only [List.toList_toArray, Array.toList_eraseIdxIfInBounds]
      rw [List.eraseIdx_eq_take_drop_succ, List.drop_eq_nil_of_le (by omega), List.append_nil]
    simp only [Obj.mapSeq, List.size_toArray, e3]
    have : ((vs.take ds.length).length == vs.length) = false := by simp; omega
    rw [List.length_take] at this
    simp only [List.length_take, this]
    rfl
  have rt : RpA (Yo Y O) h (vs.take ds.length) ds := RpA.of_get (by simp; omega) fun j w d' a b => by
    rw [List.getElem?_take] at a
    split at a
    · rename_i hj
      obtain ⟨d2, e1, e2⟩ := r.get' a
      rw [List.getElem?_append_left hj, b] at e1; cases e1; exact e2
    · cases a
  obtain ⟨H2, S2⟩ := H.change l hh (Heap.SameBut.update ..) e2 rt
  show wpAny c.M A _ _ _ (c.St (h.update a (Obj.mapSeq fun xs => xs.eraseIdxIfInBounds (vs.toArray.size - 1))) tk)
  exact Ev.wp (T Y O _ _ v H2 (rv.stp H S2)) fun _ h3 tk3 z => ⟨h3, tk3, rfl, O, _, none, S2.trans z.1 fun x w => wr_dom H w, z.2, .next, k⟩

theorem exec_AugSub (o l r : Expr) (op' op : Operator) (px pos' : Pos) (value : Expr) (pos : Pos) : exec (.AugAssign (.Subscript o (.BinOp l op' r px) pos') op value pos) env = (do
    standAt pos
    let ov ← eval o env
    let iv ← holding [ov] (eval (.BinOp l op' r px) env)
    let new ← holding [ov, iv] do
      standAt pos'
      let old ← getItem ov iv
      let v ← holding [old] (eval value env)
      standAt pos
      operate [old, v] (inplaceOp op old v)
    standAt pos'
    holding [new, ov, iv] (setItem ov iv new)
    release [new, ov, iv] []
    pure .next) := rfl

theorem wp_AugSub {M : Model} {E : Value → Shared → Prop} {s : Shared} {o l r : Expr} {op' op : Operator} {px pos' : Pos} {value : Expr} {pos : Pos} {Q : Flow → Shared → Prop}
    (h : wpAny M A (eval o env) (fun ov s₁ => wpAny M A (eval (.BinOp l op' r px) env) (fun iv s₂ => wpAny M A (getItem ov iv) (fun old s₃ =>
      wpAny M A (eval value env) (fun v s₄ => wpAny M A (inplaceOp op old v) (fun new s₅ =>
        wpAny M A (setItem ov iv new) (fun _ => Q .next) E s₅) E s₄) E s₃) E s₂) E s₁) E s) :
    wpAny M A (exec (.AugAssign (.Subscript o (.BinOp l op' r px) pos') op value pos) env) Q E s := fun Γ p hΓ => by
  simp only [exec_AugSub, Sem.wp_bind', Sem.wp_holding, Sem.wp_cmd_standAt, Sem.wp_operate, Sem.wp_release, Sem.wp_pure']
  exact Sem.wp_mono M Γ _ (fun ov p₁ s₁ h₁ => Sem.wp_mono M Γ _ (fun iv p₂ s₂ h₂ => Sem.wp_mono M Γ _ (fun old p₃ s₃ h₃ =>
    Sem.wp_mono M Γ _ (fun v _ s₄ h₄ => Sem.wp_mono M Γ _ (fun new p₅ s₅ h₅ => h₅ Γ _ hΓ) (fun _ _ _ h' => h') _ _ (h₄ Γ _ hΓ))
      (fun _ _ _ h' => h') _ _ (h₃ Γ _ hΓ)) (fun _ _ _ h' => h') _ _ (h₂ Γ _ hΓ)) (fun _ _ _ h' => h') _ _ (h₁ Γ _ hΓ))
    (fun _ _ _ h' => h') _ _ (h Γ _ hΓ)

/-- x[l - r] += value -/
theorem ex_aug {x : Str} {l r value : Expr} {op' : Operator} {p px pos' pos : Pos} {ds : List PyData} {k a b : Int} (lk : ρ.lookup x = some (.own ds)) (y : EvE c A env ρ (.BinOp l op' r px) (.int k)) (h0 : 0 ≤ k) (hk : k < ds.length) (hb : ds.length < 2 ^ 62) (hd : ds[k.toNat]? = some (.int a))
    (z : EvE c A env ρ value (.int b)) (kk : ExecS c A env ((x, .own (ds.set k.toNat (.int (a + b)))) :: ρ) rest Post) (hn : (x == ("__debug__" : Str)) = false) :
    ExecS c A env ρ (.AugAssign (.Subscript (.Name x p) (.BinOp l op' r px) pos') .Add value pos :: rest) Post := by
  refine ex_cons fun Y O h H tk E => wp_AugSub (ldo H lk hn fun D vs n hh o q rv => ?_)
  refine (y Y O h H).wp fun v h1 tk1 p1 => ?_
  obtain ⟨t, rfl⟩ := p1.2.int_inv
  have hl := rv.length
  have q1 := p1.1 _ _ q
  obtain ⟨w, hw, rw'⟩ := (rv.kp p1.1).get hd
  obtain ⟨t2, rfl⟩ := rw'.int_inv
  refine wpAny_getItem_list (isL_of (h := (c.St h1 tk1).heap) q1) h0 (by omega) (by simpa using hw) ?_
  have H1 := H.tr p1.1
  refine (z Y O h1 H1).wp fun v2 h2 tk2 p2 => ?_
  obtain ⟨t3, rfl⟩ := p2.2.int_inv
  refine iadd_int ?_
  have q2 := p2.1 _ _ q1
  refine ki_setAt (s := c.St h2 (tk2 + 1)) (n := n) q2 h0 (by omega) (by simp only [List.size_toArray]; omega) ?_
  have H2 := H1.tr p2.1
  have e3 : (h2.update D (Obj.mapSeq fun x => x.setIfInBounds k.toNat (.int (a + b) (c.St h2 tk2).toks))).get? D = some { cls := .type "list", data := .seq (vs.set k.toNat (.int (a + b) (c.St h2 tk2).toks)).toArray n } := by
    rw [Heap.get?_update_self _ q2 (by simp [Obj.mapSeq, Obj.isFreed])]
    have e4 : vs.toArray.setIfInBounds k.toNat (.int (a + b) (c.St h2 tk2).toks) = (vs.set k.toNat (.int (a + b) (c.St h2 tk2).toks)).toArray := by
      apply Array.toList_inj.mp; simp
    simp [Obj.mapSeq, e4]
  have rs : RpA (Yo Y O) h2 (vs.set k.toNat (.int (a + b) (c.St h2 tk2).toks)) (ds.set k.toNat (.int (a + b))) := RpA.of_get (by simp [hl]) fun j w d' a1 b1 => by
    rw [List.getElem?_set] at a1 b1
    by_cases hj : k.toNat = j
    · rw [if_pos hj] at a1 b1
      split at a1
      · cases a1
        split at b1
        · cases b1; exact .int _ _
        · cases b1
      · cases a1
    · rw [if_neg hj] at a1 b1
      obtain ⟨d2, e1, e2⟩ := ((rv.kp p1.1).kp p2.1).get' a1
      rw [b1] at e1; cases e1; exact e2
  obtain ⟨H3, S3⟩ := H2.change lk ((hh.kp p1.1).kp p2.1) (Heap.SameBut.update ..) e3 rs
  exact ⟨_, tk2 + 1, rfl, O, _, none, (Stp.of_kp (p1.1.trans p2.1)).trans S3 fun x w => wr_dom H w, H3, .next, kk⟩
end
end Mine


open PySem PySem.W PyProof.Rows PySem.Calls PySem.Spec
set_option Elab.async false
set_option maxRecDepth 100000
set_option linter.unusedVariables false
namespace Mine

/-- an iterator over the data ds stands ready -/
structure Src (c : Cx) (A : Around) (env : Env) (Y O : Addr → Prop) (h1 h2 : Heap) (ds : List PyData) (I : Addr) (fp wr : List Addr) (P : Nat → Value → Prop) (St : Nat → Heap → Prop) : Prop where
  W : Walks c.prog c.w A I fp wr ds.length P St
  st : St 0 h2
  kp : Kp h1 h2
  new : ∀ b ∈ wr, h1.get? b = none
  fpo : ∀ b ∈ fp, h2.get? b ≠ none ∧ ¬ Wr env O b ∧ ∀ x, env.cells.lookup x ≠ some b
  fy : ∀ b ∈ fp, ¬ Yo Y O b
  dom : ∀ i h, St i h → ∀ b ∈ wr, h.get? b ≠ none
  nl : ∀ i h, St i h → ∀ b ∈ wr, ∀ vs n, h.get? b ≠ some { cls := .type "list", data := .seq vs n }
  lg : ∀ i h tgt v tk (Q : Unit → Shared → Prop) E, St i h → Q () (c.St h tk) → wpAny c.M A (letOwnedTupleGo tgt (.ref I) v) Q E (c.St h tk)
  val : ∀ i v d, P i v → ds[i]? = some d → Rp (Yo Y O) h1 v d

def EvI (c : Cx) (A : Around) (env : Env) (ρ : PS) (e : Expr) (ds : List PyData) : Prop :=
  ∀ Y O h, Abs c env Y O h ρ → ∀ tk E (Q : Value → Shared → Prop), (∀ I fp wr P St h1 h2 tk2, Kp h h1 → Src c A env Y O h1 h2 ds I fp wr P St → Q (.ref I) (c.St h2 tk2)) →
    wpAny c.M A (eval e env) (fun x s₁ => wpAny c.M A (pyIter x) Q E s₁) E (c.St h tk)

section
variable {c : Cx} {A : Around} {env : Env} {ρ ρ' : PS} {Y O O' : Addr → Prop} {h h' h'' : Heap} {Post : Option PyData → PS → Prop} {rest : List Stmt}

theorem cell_dom (H : Abs c env Y O h ρ) {x : Str} {a : Addr} (w : env.cells.lookup x = some a) : h.get? a ≠ none := by
  obtain ⟨m, F, V, I⟩ := H.vals
  obtain ⟨o, q, d⟩ := F.cell x a w
  rw [q]; simp
theorem cell_list (H : Abs c env Y O h ρ) {x : Str} {a : Addr} {vs : Array Value} {n : Nat} (w : env.cells.lookup x = some a) (e : h.get? a = some { cls := .type "list", data := .seq vs n }) : False := by
  obtain ⟨m, F, V, I⟩ := H.vals
  obtain ⟨o, q, d⟩ := F.cell x a w
  rw [e] at q; cases q; cases d

theorem letgo_noop {o : Obj} {I : Addr} {tgt : Expr} {v : Value} {tk : Nat} {T : String} {vs : Array Value} {Q : Unit → Shared → Prop} {E : Value → Shared → Prop} (e : h.get? I = some o) (hc : o.cls = .type T) (hd : o.data = .fields vs)
    (hT : ["enumerate", "zip", "dict_itemiterator", "dict_reverseitemiterator", "odict_iterator", "itertools.zip_longest", "itertools.pairwise"].contains T = false) (q : Q () (c.St h tk)) :
    wpAny c.M A (letOwnedTupleGo tgt (.ref I) v) Q E (c.St h tk) := by
  unfold letOwnedTupleGo
  cases tgt <;> try exact wpAny_pure q
  all_goals
    cases v <;> try exact wpAny_pure q
    refine wpAny_bind (wpAny_load (s := c.St h tk) e ?_)
    rw [hc, hd]
    simp only [hT, Bool.false_and]
    exact wpAny_pure q

theorem ei_list {e : Expr} {ds : List PyData} (hh : A.handled = none) (x : EvE c A env ρ e (.list ds)) : EvI c A env ρ e ds := fun Y O h H tk E Q k => by
  refine (x Y O h H).wp fun v h1 tk1 p => ?_
  obtain ⟨a, vs, n, rfl, e1, na, r⟩ := p.2.list_inv
  have H1 := H.tr p.1
  refine wpAny_pyIter_list (s := c.St h1 tk1) (isL_of e1) ?_
  have hI : h1.get? h1.objs.size = none := get?_size h1
  have hne : a ≠ h1.objs.size := by rintro rfl; rw [hI] at e1; cases e1
  refine k h1.objs.size [h1.objs.size, a] [h1.objs.size] (fun i v => vs.toArray[i]? = some v) (fun i h => h.IsListIter h1.objs.size a i ∧ h.IsList a vs.toArray) h1 _ tk1 p.1 ⟨?_, ?_, Kp.push _ _, ?_, ?_, ?_, ?_, ?_, ?_, ?_⟩
  · have := Walks.list (prog := c.prog) (w := c.w) (A := A) hh h1.objs.size a hne vs.toArray
    rw [show vs.toArray.size = ds.length by rw [List.size_toArray]; exact r.length] at this
    exact this
  · exact ⟨⟨_, Heap.get?_push_size _ rfl, rfl, rfl⟩, (isL_of e1).push _⟩
  · intro b hb; rw [List.mem_singleton] at hb; subst hb; exact hI
  · intro b hb
    rcases List.mem_cons.mp hb with rfl | hb
    · exact ⟨by rw [show ((c.St h1 tk1).heap.push _).get? h1.objs.size = _ from Heap.get?_push_size _ rfl]; simp, fun w => wr_dom H1 w hI, fun x q => cell_dom H1 q hI⟩
    · rw [List.mem_singleton] at hb
      subst hb
      exact ⟨(Kp.push h1 _).dom (by rw [e1]; simp), fun w => na (wr_list H1 w e1), fun x q => cell_list H1 q e1⟩
  · intro b hb
    rcases List.mem_cons.mp hb with rfl | hb
    · exact H1.fresh hI
    · rw [List.mem_singleton] at hb
      subst hb
      exact na
  · intro i h st b hb; rw [List.mem_singleton] at hb; subst hb
    obtain ⟨o, q, _⟩ := st.1; rw [q]; simp
  · intro i h st b hb vs n e; rw [List.mem_singleton] at hb; subst hb
    obtain ⟨o, q, hc, _⟩ := st.1; rw [q] at e; cases e; simp at hc
  · intro i h tgt v tk Q E st q
    obtain ⟨o, q1, hc, hd⟩ := st.1
    exact letgo_noop q1 hc hd (by decide) q
  · intro i v d hv hd
    obtain ⟨d', e2, r'⟩ := r.get' (by simpa using hv)
    rw [hd] at e2; cases e2; exact r'

/-- range(a, b) read as a source -/
theorem src_range {I : Addr} {a : Int} {n : Nat} {ds : List PyData} (hh : A.handled = none) (H : Abs c env Y O h ρ) (hd : ds = (List.range n).map fun i => PyData.int (a + (i : Nat)))
    (hI : h.get? I = none) {h2 : Heap} (k2 : Kp h h2) (e : IsRangeIter h2 I a n 1) :
    Src c A env Y O h h2 ds I [I] [I] (fun i v => ∃ t, v = .int (a + (i : Nat) * 1) t) (fun i h => IsRangeIter h I (a + (i : Nat) * 1) ((n : Int) - (i : Nat)) 1) := by
  subst hd
  refine ⟨?_, ?_, k2, ?_, ?_, ?_, ?_, ?_, ?_, ?_⟩
  · have := Walks.range (prog := c.prog) (w := c.w) (A := A) hh I a 1 n
    simpa using this
  · simpa using e
  · intro b hb; rw [List.mem_singleton] at hb; subst hb; exact hI
  · intro b hb; rw [List.mem_singleton] at hb; subst hb
    exact ⟨by rw [show h2.get? b = _ from e]; simp, fun w => wr_dom H w hI, fun x q => cell_dom H q hI⟩
  · intro b hb; rw [List.mem_singleton] at hb; subst hb
    exact H.fresh hI
  · intro i h st b hb; rw [List.mem_singleton] at hb; subst hb
    rw [show h.get? b = _ from st]; simp
  · intro i h st b hb vs n e2; rw [List.mem_singleton] at hb; subst hb
    rw [show h.get? b = _ from st] at e2; simp at e2
  · intro i h tgt v tk Q E st q
    exact letgo_noop (show h.get? I = _ from st) rfl rfl (by decide) q
  · rintro i v d ⟨t, rfl⟩ hd
    rw [List.getElem?_map] at hd
    cases hr : (List.range n)[i]? with
    | none => rw [hr] at hd; cases hd
    | some j =>
      rw [hr] at hd
      obtain ⟨hlt, rfl⟩ := List.getElem?_eq_some_iff.mp hr
      cases hd
      rw [List.getElem_range, Int.mul_one]
      exact .int _ _

theorem small_range {a b : Int} (h1 : -(2 ^ 40) < a) (h2 : a < 2 ^ 40) (h3 : -(2 ^ 40) < b) (h4 : b < 2 ^ 40) : Builtin.Range.small a b 1 = true ∧ Builtin.Range.rangeSize a b 1 = ((b - a).toNat : Int) := by
  have e := rangeSize_nat a b
  refine ⟨?_, e⟩
  unfold Builtin.Range.small
  rw [e]
  unfold Builtin.Range.rangeFitsLong
  simp
  omega

theorem ei_range1 {x : Str} {p pos : Pos} {e : Expr} {n : Nat} (hh : A.handled = none) (hf : EvF c A env ρ (.Name x p) (.type "range")) (y : EvE c A env ρ e (.int n)) (hn : n < 2 ^ 30)
    (hs : starEach [e] env = [(false, eval e env)] := by rfl) : EvI c A env ρ (.Call (.Name x p) [e] [] pos) ((List.range n).map fun i => PyData.int ((0 : Int) + (i : Nat))) := fun Y O h H tk E Q k => by
  refine Call_Name1 ((hf Y O h H).wp fun v h1 tk1 q => ?_) hs
  obtain ⟨q1, rfl⟩ := q
  refine PyProof.Rows.callWith_type rfl (evalArgs_plain (spliced_cons ((y Y O h1 (H.tr q1)).wp fun w h2 tk2 q2 => spliced_nil ?_)))
  obtain ⟨t, rfl⟩ := q2.2.int_inv
  refine call_range_1 (s := c.St h2 tk2) ?_
  have H2 := (H.tr q1).tr q2.1
  have hr := small_range (a := 0) (b := n) (by omega) (by omega) (by omega) (by omega)
  refine wpAny_pyIter_range (r := h2.objs.size) (a := 0) (b := n) (c := 1) (Heap.get?_push_size _ rfl) hr.1 ?_
  rw [hr.2]
  refine k _ _ _ _ _ _ _ _ ((q1.trans q2.1).trans (Kp.push _ _)) (src_range (a := 0) (n := n) hh (H2.tr (Kp.push _ _)) rfl (get?_size _) (Kp.push _ _) ?_)
  simp only [Int.sub_zero, Int.toNat_natCast]
  exact Heap.get?_push_size _ rfl

theorem ei_range2 {x : Str} {p pos : Pos} {e f : Expr} {a b : Int} (hh : A.handled = none) (hf : EvF c A env ρ (.Name x p) (.type "range")) (y : EvE c A env ρ e (.int a)) (z : EvE c A env ρ f (.int b))
    (h1 : -(2 ^ 40) < a) (h2 : a < 2 ^ 40) (h3 : -(2 ^ 40) < b) (h4 : b < 2 ^ 40)
    (hs : starEach [e, f] env = [(false, eval e env), (false, eval f env)] := by rfl) : EvI c A env ρ (.Call (.Name x p) [e, f] [] pos) ((List.range (b - a).toNat).map fun i => PyData.int (a + (i : Nat))) := fun Y O h H tk E Q k => by
  refine Call_Name2 ((hf Y O h H).wp fun v h1 tk1 q => ?_) hs
  obtain ⟨q1, rfl⟩ := q
  refine PyProof.Rows.callWith_type rfl (evalArgs_plain (spliced_cons ((y Y O h1 (H.tr q1)).wp fun w h2 tk2 q2 => spliced_cons ((z Y O h2 ((H.tr q1).tr q2.1)).wp fun u h3 tk3 q3 => spliced_nil ?_))))
  obtain ⟨t, rfl⟩ := q2.2.int_inv
  obtain ⟨t', rfl⟩ := q3.2.int_inv
  refine call_range_2 (s := c.St h3 tk3) ?_
  have H2 := ((H.tr q1).tr q2.1).tr q3.1
  have hr := small_range (a := a) (b := b) (by omega) (by omega) (by omega) (by omega)
  refine wpAny_pyIter_range (r := h3.objs.size) (a := a) (b := b) (c := 1) (Heap.get?_push_size _ rfl) hr.1 ?_
  rw [hr.2]
  exact k _ _ _ _ _ _ _ _ (((q1.trans q2.1).trans q3.1).trans (Kp.push _ _)) (src_range (a := a) hh (H2.tr (Kp.push _ _)) rfl (get?_size _) (Kp.push _ _) (Heap.get?_push_size _ rfl))

/-- sub-states: what the loop's head asks is there -/
def Sub (ρ' ρ : PS) : Prop := ∀ x pv, ρ'.lookup x = some pv → ρ.lookup x = some pv

/-- what stands apart from the block is changed -/
theorem Abs.other {wr : List Addr} (H : Abs c env Y O h ρ) (k : ∀ b o, b ∉ wr → h.get? b = some o → h'.get? b = some o)
    (x : ∀ b ∈ wr, ¬ Y b ∧ (¬ Wr env O b ∧ ∀ x, env.cells.lookup x ≠ some b) ∧ c.g.get? b = none ∧ ∀ vs n, h.get? b ≠ some { cls := .type "list", data := .seq vs n }) : Abs c env Y O h' ρ where
  ok := H.ok
  kp := fun b o e => k b o (fun m => by rw [(x b m).2.2.1] at e; cases e) (H.kp b o e)
  ydom := fun a y => by
    cases e : h.get? a with
    | none => exact absurd e (H.ydom a y)
    | some o => rw [k a o (fun m => (x a m).1 y) e]; simp
  odom := fun a y => ⟨by
    cases e : h.get? a with
    | none => exact absurd e (H.odom a y).1
    | some o => rw [k a o (fun m => (x a m).2.1.1 (.inr (.inr y))) e]; simp, (H.odom a y).2⟩
  vals := by
    obtain ⟨m, F, V, I⟩ := H.vals
    refine ⟨m, ⟨?_, fun y b e => ?_⟩, fun x' pv e => ?_, I⟩
    · obtain ⟨mL, ⟨o, es, ep, q, r⟩, e⟩ := F.ns
      exact ⟨mL, ⟨o, es, ep, k _ _ (fun m => (x _ m).2.1.1 (.inl rfl)) q, r⟩, e⟩
    · obtain ⟨o, q, d⟩ := F.cell y b e
      exact ⟨o, k _ _ (fun m => (x _ m).2.1.2 y e) q, d⟩
    · obtain ⟨a, v, b, p⟩ := V x' pv e
      refine ⟨a, v, b, ?_⟩
      have lift : ∀ {v d}, Rp (Yo Y O) h v d → Rp (Yo Y O) h' v d := fun r => r.of fun a vs n hx e => ⟨hx, n, k _ _ (fun m => (x _ m).2.2.2 _ _ e) e⟩
      have liftA : ∀ {v d}, RpA (Yo Y O) h v d → RpA (Yo Y O) h' v d := fun r => r.of fun a vs n hx e => ⟨hx, n, k _ _ (fun m => (x _ m).2.2.2 _ _ e) e⟩
      cases pv with
      | imm d => exact lift p
      | own ds =>
        obtain ⟨a1, vs, n, e1, o, q, r⟩ := p
        exact ⟨a1, vs, n, e1, o, k _ _ (fun m => (x _ m).2.2.2 _ _ q) q, liftA r⟩

theorem ex_forM {σ α : Type} (f : α → PyData) (S : σ → PS) (P : Nat → σ → Prop) (step : σ → α → σ) (σ0 : σ) {tgt iter : Expr} {body : List Stmt} {pos : Pos} {xs : List α} (hi : EvI c A env ρ iter (xs.map f)) (w0 : Sub (S σ0) ρ) (p0 : P 0 σ0)
    (turn : ∀ i σ d, P i σ → xs[i]? = some d → ∃ β, Tgt c A env tgt (f d) β ∧ ExecS c A env (β ++ S σ) body (fun r ρ' => r = none ∧ Sub (S (step σ d)) ρ' ∧ P (i + 1) (step σ d)))
    (k : P xs.length (xs.foldl step σ0) → ExecS c A env (S (xs.foldl step σ0)) rest Post)
    (hs : ∀ x, foldedSetIterable iter env x = pure x := by intro _; rfl) : ExecS c A env ρ (.For tgt iter body [] pos :: rest) Post := by
  refine ex_cons fun Y O h H tk E => wpAny_For (hi Y O h H tk E _ fun I fp wr PP St h1 h2 tk2 k1 X => ?_) hs
  refine codeAny_forLoop_any (prog := c.prog) (w := c.w) (fun n s => ∃ i O' σ h' tk', s = c.St h' tk' ∧ i ≤ xs.length ∧ n = xs.length - i ∧ St i h' ∧ Stp env O h1 O' h' ∧ (∀ a, O' a → O a ∨ h2.get? a = none) ∧
    (∀ b, h2.get? b ≠ none → h'.get? b ≠ none) ∧ Abs c env Y O' h' (S σ) ∧ P i σ ∧ (xs.drop i).foldl step σ = xs.foldl step σ0) ?_ xs.length
    ⟨0, O, σ0, h2, tk2, rfl, Nat.zero_le _, rfl, X.st, Stp.of_kp X.kp, fun a o => .inl o, fun b q => q, ((H.tr k1).tr X.kp).weak w0, p0, rfl⟩
  rintro n s ⟨i, O', σ, h', tk', rfl, hi', rfl, st, S1, oo, dm, H', pσ, fo⟩
  have H1 := H.tr k1
  have nw : ∀ b, b ∈ fp → ¬ Wr env O' b := fun b hb w => by
    have hfp := X.fpo b hb
    rcases w with w | w | w
    · exact hfp.2.1 (.inl w)
    · exact hfp.2.1 (.inr (.inl w))
    · exact (oo b w).elim (fun o => hfp.2.1 (.inr (.inr o))) hfp.1
  have apart : ∀ b ∈ wr, ¬ Y b ∧ (¬ Wr env O' b ∧ ∀ x, env.cells.lookup x ≠ some b) ∧ c.g.get? b = none ∧ ∀ vs n, h'.get? b ≠ some { cls := .type "list", data := .seq vs n } := fun b hb =>
    ⟨fun y => H1.ydom b y (X.new b hb), ⟨nw b (X.W.sub b hb), (X.fpo b (X.W.sub b hb)).2.2⟩, H1.kp.back (X.new b hb), fun vs n => X.nl i h' st b hb vs n⟩
  have S3 : ∀ h3, (∀ b o, b ∉ wr → h'.get? b = some o → h3.get? b = some o) → Stp env O h1 O' h3 := fun h3 kw =>
    ⟨⟨fun b o nb e => kw b o (fun m => by rw [X.new b m] at e; cases e) (S1.kx.1 b o nb e), fun b e => by
      have hb : b ∉ wr := fun m => e (X.new b m)
      cases q : h'.get? b with
      | none => exact absurd q (S1.kx.2 b e)
      | some o => rw [kw b o hb q]; simp⟩, S1.own⟩
  by_cases hlt : i < xs.length
  · refine X.W.item i _ _ _ (by rw [List.length_map]; exact hlt) st fun v h3 tk3 hv st3 kw => ?_
    obtain ⟨d, hd⟩ : ∃ d, xs[i]? = some d := ⟨_, List.getElem?_eq_getElem hlt⟩
    have hdm : d ∈ xs := List.mem_of_getElem? hd
    refine X.lg (i + 1) h3 tgt v tk3 _ _ st3 ?_
    have dm3 : ∀ b, h'.get? b ≠ none → h3.get? b ≠ none := fun b q => by
      by_cases hb : b ∈ wr
      · exact X.dom _ _ st3 b hb
      · cases e : h'.get? b with
        | none => exact absurd e q
        | some o => rw [kw b o hb e]; simp
    have H3 := H'.other kw apart
    have rv := (X.val i v (f d) hv (by rw [List.getElem?_map, hd]; rfl)).stp H1 (S3 h3 kw)
    obtain ⟨β, T, B⟩ := turn i σ d pσ hd
    refine (T Y O' h3 (S σ) v H3 rv).wp fun _ h4 tk4 p4 => ?_
    refine (B Y O' h4 p4.2).wp fun f h5 tk5 p5 => ?_
    obtain ⟨O5, ρ5, r, S5, H5, fl, rfl, sb, pn⟩ := p5
    cases fl
    have S45 : Stp env O' h3 O5 h5 := p4.1.trans S5 fun x w => wr_dom H3 w
    refine ⟨xs.length - (i + 1), by omega, i + 1, O5, step σ d, h5, tk5, rfl, hlt, rfl, ?_, (S3 h3 kw).trans S45 fun x w => wr_dom H1 w, fun a o => ?_, fun b q => S45.kx.2 b (dm3 b (dm b q)), H5.weak sb, pn, ?_⟩
    · exact X.W.frame _ _ _ st3 fun b hb o e => S45.kx.1 b o (nw b hb) e
    · refine (S45.own a o).elim (oo a) fun z => .inr ?_
      cases q : h2.get? a with
      | none => rfl
      | some o => exact absurd z (dm3 a (dm a (by rw [q]; simp)))
    · have e : xs.drop i = d :: xs.drop (i + 1) := by
        rw [List.drop_eq_getElem_cons hlt]
        rw [List.getElem?_eq_getElem hlt] at hd
        cases hd; rfl
      rw [e, List.foldl_cons] at fo
      exact fo
  · have hi2 : i = xs.length := by omega
    subst hi2
    refine X.W.done _ _ _ (by rw [List.length_map]; exact st) fun h3 tk3 kw => ?_
    have H3 := H'.other kw apart
    refine wpAny_execs_nil ⟨h3, tk3, rfl, O', _, none, ?_, H3, .next, ?_⟩
    · exact (Stp.of_kp k1).trans (S3 h3 kw) fun x w => wr_dom H w
    · simp only [List.drop_length, List.foldl_nil] at fo
      subst fo
      exact k pσ

theorem ex_for {σ : Type} (S : σ → PS) (P : Nat → σ → Prop) (step : σ → PyData → σ) (σ0 : σ) {tgt iter : Expr} {body : List Stmt} {pos : Pos} {ds : List PyData} (hi : EvI c A env ρ iter ds) (w0 : Sub (S σ0) ρ) (p0 : P 0 σ0)
    (turn : ∀ i σ d, P i σ → ds[i]? = some d → ∃ β, Tgt c A env tgt d β ∧ ExecS c A env (β ++ S σ) body (fun r ρ' => r = none ∧ Sub (S (step σ d)) ρ' ∧ P (i + 1) (step σ d)))
    (k : P ds.length (ds.foldl step σ0) → ExecS c A env (S (ds.foldl step σ0)) rest Post)
    (hs : ∀ x, foldedSetIterable iter env x = pure x := by intro _; rfl) : ExecS c A env ρ (.For tgt iter body [] pos :: rest) Post :=
  ex_forM id S P step σ0 (xs := ds) (by rw [List.map_id]; exact hi) w0 p0 turn k hs

theorem ex_while {σ : Type} (S : σ → PS) (P : σ → Prop) (μ : σ → Nat) (σ0 : σ) {test : Expr} {body : List Stmt} {pos : Pos} (w0 : Sub (S σ0) ρ) (p0 : P σ0)
    (turn : ∀ σ, P σ → ∃ b, EvT c A env (S σ) test b ∧ (b = true → ExecS c A env (S σ) body (fun r ρ' => r = none ∧ ∃ σ', P σ' ∧ μ σ' < μ σ ∧ Sub (S σ') ρ')) ∧ (b = false → ExecS c A env (S σ) rest Post)) :
    ExecS c A env ρ (.While test body [] pos :: rest) Post := by
  refine ex_cons fun Y O h H tk E => wpAny_While ?_
  refine codeAny_whileLoop (prog := c.prog) (w := c.w) (fun n s => ∃ O' σ h' tk', s = c.St h' tk' ∧ n = μ σ ∧ Stp env O h O' h' ∧ Abs c env Y O' h' (S σ) ∧ P σ) ?_ (μ σ0)
    ⟨O, σ0, h, tk, rfl, rfl, Stp.refl _ _ _, H.weak w0, p0⟩
  rintro n s ⟨O', σ, h', tk', rfl, rfl, S1, H', pσ⟩
  obtain ⟨b, T, bt, bf⟩ := turn σ pσ
  refine (T Y O' h' H').wp fun v h2 tk2 p2 => ?_
  obtain ⟨p2, rfl⟩ := p2
  have H2 := H'.tr p2
  have S2 : Stp env O h O' h2 := S1.trans (Stp.of_kp p2) fun x w => wr_dom H w
  cases v with
  | true =>
    simp only [if_true]
    refine (bt rfl Y O' h2 H2).wp fun f h3 tk3 p3 => ?_
    obtain ⟨O3, ρ3, r, S3, H3, fl, rfl, σ', pn, lt, sb⟩ := p3
    cases fl
    exact ⟨μ σ', lt, O3, σ', h3, tk3, rfl, rfl, S2.trans S3 fun x w => wr_dom H w, H3.weak sb, pn⟩
  | false =>
    simp only [Bool.false_eq_true, if_false]
    exact wpAny_execs_nil ⟨h2, tk2, rfl, O', _, none, S2, H2, .next, bf rfl⟩
end
end Mine


open PySem PySem.W PyProof.Rows PySem.Calls PySem.Spec
set_option Elab.async false
set_option maxRecDepth 100000
set_option linter.unusedVariables false
namespace Mine

structure Gl (c : Cx) (mg mb : Str → Option Value) : Prop where
  g : c.g.Ns mainGlobals mg
  b : c.g.Ns builtinsNs mb
  nl : c.g.NoLimit

def Lv (A : Around) (k : Nat) : Prop := A.handled = none ∧ A.depth + k ≤ 900 ∧ A.units + 3 * k + 200 ≤ 9900

theorem Lv.hh {A : Around} {k : Nat} (l : Lv A k) : A.handled = none := l.1
theorem Lv.u {A : Around} {k : Nat} (l : Lv A k) : A.units + 64 < cLine := by have := l.2.2; show A.units + 64 < 9900; omega
theorem Lv.u1 {A : Around} {k : Nat} (l : Lv A k) : A.in1.units + 64 < cLine := by have := l.2.2; show A.units + 1 + 64 < 9900; omega
theorem Lv.u2 {A : Around} {k n : Nat} (l : Lv A k) (h : n ≤ 64) : A.units + 1 + n < cLine := by have := l.2.2; show A.units + 1 + n < 9900; omega
theorem Lv.dn {A : Around} {k : Nat} (l : Lv A (k + 1)) (env : Env) : Lv (A.deeper env) k := ⟨l.1, by have := l.2.1; show A.depth + 1 + k ≤ 900; omega, by have := l.2.2; show A.units + 3 + 3 * k + 200 ≤ 9900; omega⟩
theorem Lv.le {A : Around} {k j : Nat} (l : Lv A k) (h : j ≤ k) : Lv A j := ⟨l.1, by have := l.2.1; omega, by have := l.2.2; omega⟩

def FnOk (c : Cx) (k : Nat) (a : Addr) (P : List PyData → PyData → Prop) : Prop :=
  ∀ A, Lv A k → ∀ X h vs ds r, Kp c.g h → (∀ a, X a → h.get? a ≠ none) → RpA X h vs ds → P ds r → Ev c A (call (.ref a) vs) h (fun v h' => Kp h h' ∧ Rp X h' v r)

section
variable {c : Cx} {A : Around} {env : Env} {ρ ρ' : PS} {Y O O' : Addr → Prop} {h h' h'' : Heap} {Post : Option PyData → PS → Prop} {rest : List Stmt} {mg mb : Str → Option Value}

theorem ef_builtin {x : Str} {p : Pos} {f : Value} (G : Gl c mg mb) (hx : env.kindOf x = some .globalImplicit) (hm : mg x = none) (hb : mb x = some f) (hd : (x == ("__debug__" : Str)) = false) : EvF c A env ρ (.Name x p) f := fun Y O h H tk E =>
  Name_function_global H.ok.kind hx (loadGlobal_builtin (s := c.St h tk) (H.ok.glob ▸ G.g.keeps H.kp) hm (H.ok.bui ▸ G.b.keeps H.kp) hb ⟨h, tk, rfl, Kp.refl _, rfl⟩) hd
theorem ef_global {x : Str} {p : Pos} {f : Value} (G : Gl c mg mb) (hx : env.kindOf x = some .globalImplicit) (hm : mg x = some f) (hd : (x == ("__debug__" : Str)) = false) : EvF c A env ρ (.Name x p) f := fun Y O h H tk E =>
  Name_function_global H.ok.kind hx (loadGlobal_global (s := c.St h tk) (H.ok.glob ▸ G.g.keeps H.kp) hm ⟨h, tk, rfl, Kp.refl _, rfl⟩) hd
theorem ev_gint {x : Str} {p : Pos} {i : Int} {t : Tok} (G : Gl c mg mb) (hx : env.kindOf x = some .globalImplicit) (hm : mg x = some (.int i t)) (hd : (x == ("__debug__" : Str)) = false) : EvE c A env ρ (.Name x p) (.int i) := fun Y O h H tk E =>
  Name_function_global H.ok.kind hx (loadGlobal_global (s := c.St h tk) (H.ok.glob ▸ G.g.keeps H.kp) hm ⟨h, tk, rfl, Kp.refl _, .int _ _⟩) hd

/-- a call of one of the text's own -/
theorem ev_call {x : Str} {p pos : Pos} {e : Expr} {es : List Expr} {a : Addr} {o : Obj} {fd : FuncData} {k : Nat} {P : List PyData → PyData → Prop} {ds : List PyData} {r : PyData} (hf : EvF c A env ρ (.Name x p) (.ref a)) (ho : c.g.get? a = some o) (hd : o.data = .func fd)
    (F : FnOk c k a P) (lv : Lv A k) (y : EvL c A env ρ pos (e :: es) ds) (pr : P ds r) (he : starEach (e :: es) env = (false, eval e env) :: starEach es env := by rfl) : EvE c A env ρ (.Call (.Name x p) (e :: es) [] pos) r := fun Y O h H tk E => by
  refine PyProof.Rows.Call_Name rfl ((hf Y O h H).wp fun v h2 tk2 q => ?_)
  obtain ⟨q1, rfl⟩ := q
  have go := (y Y O h2 (H.tr q1)).wp (tk := tk2) (E := E) (Q := fun vs s₁ => (s₁.heap.get? a = some o ∧ o.data = .func fd) ∧ wpAny c.M A (call (.ref a) ([] ++ vs) []) (fun v s' => ∃ h' tk', s' = c.St h' tk' ∧ Kp h h' ∧ Rp (Yo Y O) h' v r) E s₁) fun vs h3 tk3 z =>
    ⟨⟨((H.tr q1).tr z.1).kp _ _ ho, hd⟩, (F A lv (Yo Y O) h3 vs ds r ((H.tr q1).tr z.1).kp (fun a y => yo_none ((H.tr q1).tr z.1) y) z.2 pr).wp fun v h4 tk4 z' => ⟨h4, tk4, rfl, (q1.trans z.1).trans z'.1, z'.2⟩⟩
  rw [he] at go ⊢
  exact callWith_function (evalArgs_plain go)

theorem cellsFrom_mem : ∀ {names : List (Str × NameKind)} {n : Nat} {acc : List (Str × Addr)} {x : Str} {a : Addr}, (x, a) ∈ cellsFrom n names acc → (x, a) ∈ acc ∨ (x, NameKind.cell) ∈ names
  | [], _, _, _, _, m => .inl m
  | (y, k) :: r, n, acc, x, a, m => by
    unfold cellsFrom at m
    split at m
    · rename_i hk
      rcases cellsFrom_mem m with q | q
      · rcases List.mem_cons.mp q with q | q
        · cases q
          have : k = .cell := by simpa using hk
          subst this
          exact .inr List.mem_cons_self
        · exact .inl q
      · exact .inr (List.mem_cons_of_mem _ q)
    · exact (cellsFrom_mem m).imp_right (List.mem_cons_of_mem _)
theorem cellsFrom_acc : ∀ {names : List (Str × NameKind)} {n : Nat} {acc : List (Str × Addr)} {x : Str}, (∃ a, (x, a) ∈ acc) ∨ (x, NameKind.cell) ∈ names → ∃ a, (x, a) ∈ cellsFrom n names acc
  | [], _, _, _, m => m.elim id fun q => by cases q
  | (y, k) :: r, n, acc, x, m => by
    unfold cellsFrom
    split
    · rename_i hk
      refine cellsFrom_acc ?_
      rcases m with ⟨a, m⟩ | m
      · exact .inl ⟨a, List.mem_cons_of_mem _ m⟩
      · rcases List.mem_cons.mp m with q | q
        · cases q; exact .inl ⟨n, List.mem_cons_self⟩
        · exact .inr q
    · rename_i hk
      refine cellsFrom_acc ?_
      rcases m with ⟨a, m⟩ | m
      · exact .inl ⟨a, m⟩
      · rcases List.mem_cons.mp m with q | q
        · cases q; exact absurd rfl hk
        · exact .inr q
theorem lookup_of_mem {α : Type} : ∀ {l : List (Str × α)} {x : Str}, (∃ a, (x, a) ∈ l) → ∃ a, l.lookup x = some a
  | [], _, ⟨_, m⟩ => by cases m
  | (y, b) :: r, x, ⟨a, m⟩ => by
    rw [List.lookup_cons]
    cases hb : x == y with
    | true => exact ⟨b, rfl⟩
    | false =>
      rcases List.mem_cons.mp m with q | q
      · cases q; simp at hb
      · exact lookup_of_mem ⟨a, q⟩

theorem bindL_off {K : Str → Option NameKind} : ∀ {bs : List (Str × Value)} {m : Str → Option Value} {x : Str}, bs.lookup x = none → bindL K bs m x = m x
  | [], _, _, _ => rfl
  | (n, v) :: r, m, x, h => by
    rw [List.lookup_cons] at h
    cases hb : x == n with
    | true => rw [hb] at h; cases h
    | false =>
      rw [hb] at h
      unfold bindL
      rw [bindL_off h]
      have : x ≠ n := by simpa using hb
      split
      · exact if_neg this
      · rfl
theorem bindC_off {K : Str → Option NameKind} : ∀ {bs : List (Str × Value)} {m : Str → Option Value} {x : Str}, bs.lookup x = none → bindC K bs m x = m x
  | [], _, _, _ => rfl
  | (n, v) :: r, m, x, h => by
    rw [List.lookup_cons] at h
    cases hb : x == n with
    | true => rw [hb] at h; cases h
    | false =>
      rw [hb] at h
      unfold bindC
      rw [bindC_off h]
      have : x ≠ n := by simpa using hb
      split
      · rfl
      · exact if_neg this
theorem lookup_zip_none {ps : List Str} {x : Str} (h : x ∉ ps) : ∀ {vs : List Value}, (ps.zip vs).lookup x = none := by
  induction ps with
  | nil => intro vs; rfl
  | cons p ps ih =>
    intro vs
    cases vs with
    | nil => rfl
    | cons v vs =>
      rw [List.zip_cons_cons, List.lookup_cons]
      have : (x == p) = false := beq_eq_false_iff_ne.mpr fun e => h (by rw [e]; exact List.mem_cons_self)
      rw [this]
      exact ih fun m => h (List.mem_cons_of_mem _ m)
theorem bindL_on {K : Str → Option NameKind} {x : Str} {v : Value} (hx : K x = some .local) : ∀ {ps : List Str} {vs : List Value} {m : Str → Option Value}, ps.Nodup → (ps.zip vs).lookup x = some v → bindL K (ps.zip vs) m x = some v
  | [], _, _, _, h => by simp at h
  | _ :: _, [], _, _, h => by simp at h
  | p :: ps, w :: vs, m, nd, h => by
    rw [List.zip_cons_cons, List.lookup_cons] at h
    rw [List.zip_cons_cons]
    unfold bindL
    cases hb : x == p with
    | true =>
      rw [hb] at h
      have e : x = p := by simpa using hb
      subst e
      cases h
      rw [bindL_off (lookup_zip_none (List.nodup_cons.mp nd).1), if_pos hx]
      exact if_pos rfl
    | false => rw [hb] at h; exact bindL_on hx (List.nodup_cons.mp nd).2 h
theorem bindC_on {K : Str → Option NameKind} {x : Str} {v : Value} (hx : ¬ K x = some .local) : ∀ {ps : List Str} {vs : List Value} {m : Str → Option Value}, ps.Nodup → (ps.zip vs).lookup x = some v → bindC K (ps.zip vs) m x = some v
  | [], _, _, _, h => by simp at h
  | _ :: _, [], _, _, h => by simp at h
  | p :: ps, w :: vs, m, nd, h => by
    rw [List.zip_cons_cons, List.lookup_cons] at h
    rw [List.zip_cons_cons]
    unfold bindC
    cases hb : x == p with
    | true =>
      rw [hb] at h
      have e : x = p := by simpa using hb
      subst e
      cases h
      rw [bindC_off (lookup_zip_none (List.nodup_cons.mp nd).1), if_neg hx]
      exact if_pos rfl
    | false => rw [hb] at h; exact bindC_on hx (List.nodup_cons.mp nd).2 h

noncomputable def argsP : List Str → List PyData → PS
  | x :: xs, d :: ds => (x, .imm d) :: argsP xs ds
  | _, _ => []
theorem argsP_lookup {X : Addr → Prop} {h : Heap} : ∀ {ps : List Str} {vs : List Value} {ds : List PyData} {x : Str} {pv : PV}, RpA X h vs ds → (argsP ps ds).lookup x = some pv → ∃ v d, pv = .imm d ∧ (ps.zip vs).lookup x = some v ∧ Rp X h v d ∧ x ∈ ps
  | [], _, _, _, _, _, h => by simp [argsP] at h
  | _ :: _, _, [], _, _, _, h => by simp [argsP] at h
  | p :: ps, v :: vs, d :: ds, x, pv, .cons a r, h => by
    unfold argsP at h
    rw [List.lookup_cons] at h
    rw [List.zip_cons_cons, List.lookup_cons]
    cases hb : x == p with
    | true =>
      rw [hb] at h; cases h
      exact ⟨v, d, rfl, rfl, a, by rw [show x = p by simpa using hb]; exact List.mem_cons_self⟩
    | false =>
      rw [hb] at h
      obtain ⟨v', d', e1, e2, e3, e4⟩ := argsP_lookup r h
      exact ⟨v', d', e1, e2, e3, List.mem_cons_of_mem _ e4⟩

theorem envOk_call {fd : FuncData} {L a : Addr} (hg : fd.globals = mainGlobals) (hb : fd.builtins = builtinsNs) (hk : fd.scope.kind = .function) (hck : ∀ p ∈ fd.scope.names, p.2 = .cell → fd.scope.names.lookup p.1 = some .cell)
    (hL : ∀ b, L ≤ b → c.g.get? b = none) (ap : (callEnvC fd L a).cells.Pairwise fun x y => x.2 ≠ y.2) (ab : ∀ n c', (n, c') ∈ (callEnvC fd L a).cells → L < c') : EnvOk c (callEnvC fd L a) where
  kind := hk
  loc := hL _ (Nat.le_refl _)
  cel := fun x a e => hL _ (Nat.le_of_lt (ab _ _ (PySem.mem_of_lookup e)))
  has := fun x e => lookup_of_mem (cellsFrom_acc (.inr (PySem.mem_of_lookup (show fd.scope.names.lookup x = some .cell from e))))
  ck := fun x a e => by
    rcases cellsFrom_mem (PySem.mem_of_lookup e) with q | q
    · cases q
    · exact hck _ q rfl
  inj := fun x y a e f => name_of_addr ap (PySem.mem_of_lookup e) (PySem.mem_of_lookup f)
  glob := hg
  bui := hb
  plain := by
    show (fd.scope.kind == .module && _) = false
    rw [hk]; rfl

theorem fn_ok {k : Nat} {P : List PyData → PyData → Prop} {a : Addr} {o : Obj} {name : Str} {params : Arguments} {body : List Stmt} {scope : Scope} {pm cd doc : Value} (G : Gl c mg mb) (ho : c.g.get? a = some o)
    (hd : o.data = .func (docDef name params body scope pm cd doc)) (hc : c.g.CodeRec cd name) (ps : List Str)
    (hb : ∀ vs : List Value, vs.length = ps.length → bindArgs (docDef name params body scope pm cd doc) ⟨vs, []⟩ = pure (ps.zip vs))
    (hk : ∀ x ∈ ps, scope.names.lookup x = some .local ∨ scope.names.lookup x = some .cell) (nd : ps.Nodup) (hck : ∀ p ∈ scope.names, p.2 = .cell → scope.names.lookup p.1 = some .cell)
    (hco : scope.isCoroutine = false) (hgen : scope.isGenerator = false) (hkind : scope.kind = .function)
    (B : ∀ A env, env.scope = scope → (∀ x a, env.cells.lookup x = some a → env.locals < a) → Lv A k → ∀ ds r, P ds r → ExecS c A env (argsP ps ds) body (fun q _ => q = some r)) (L : ∀ ds r, P ds r → ds.length = ps.length) : FnOk c (k + 1) a P := fun A lv X h vs ds r kg hX rv pr tk E => by
  have hl := L ds r pr
  have hv : vs.length = ps.length := rv.length.trans hl
  have hcell : ∀ x, scope.names.lookup x = some .cell → ∃ a, (cellsFrom (h.objs.size + 1) scope.names []).lookup x = some a := fun x e => lookup_of_mem (cellsFrom_acc (.inr (PySem.mem_of_lookup e)))
  refine wpAny_call (codeAny_call_cells (s := c.St h tk) (fd := docDef name params body scope pm cd doc) (binds := ps.zip vs) (by have := lv.2.1; show A.depth < 1000; omega) (kg _ _ ho) hd (G.nl.keeps kg) (hc.keeps kg) rfl (hb vs hv) rfl (fun x hx => ?_) (fun s₁ x => ?_) hco hgen hkind)
  · have := hk x.1 (List.of_mem_zip hx).1
    rcases this with q | q
    · exact .inl q
    · obtain ⟨a, e⟩ := hcell _ q
      exact .inr ⟨q, by show (List.lookup x.1 (cellsFrom (h.objs.size + 1) scope.names [])).isSome = true; rw [e]; rfl⟩
  · generalize hfd : docDef name params body scope pm cd doc = fd at x ⊢
    obtain ⟨h1, tk1, rfl⟩ := x.toInCall.same
    show wpAny c.M _ _ _ _ (c.St h1 tk1)
    have k1 : Kp h h1 := x.toInCall.keep
    have hsc : fd.scope = scope := by rw [← hfd]; rfl
    have hL : ∀ b, h.objs.size ≤ b → c.g.get? b = none := fun b l => kg.back (get?_size_le h l)
    have ok : EnvOk c (callEnvC fd h.objs.size a) := envOk_call (by rw [← hfd]; rfl) (by rw [← hfd]; rfl) (by rw [hsc]; exact hkind) (by rw [hsc]; exact hck) hL x.apart x.above
    have hkk : ∀ y, (callEnvC fd h.objs.size a).kindOf y = scope.names.lookup y := fun y => by show fd.scope.names.lookup y = _; rw [hsc]
    have H : Abs c (callEnvC fd h.objs.size a) X (fun _ => False) h1 (argsP ps ds) := by
      refine ⟨ok, kg.trans k1, fun b y => k1.dom (hX b y), fun b o => o.elim, ?_⟩
      refine ⟨fun y => if (callEnvC fd h.objs.size a).kindOf y = some .local then bindL (callEnvC fd h.objs.size a).kindOf (ps.zip vs) (fun _ => none) y else bindC (callEnvC fd h.objs.size a).kindOf (ps.zip vs) (fun _ => none) y, ⟨⟨_, x.toInCall.ns, fun y hy => ?_⟩, fun y b e => ?_⟩, fun y pv e => ?_, fun y z ds' es v e _ _ _ => ?_⟩
      · exact (if_pos hy).symm
      · have hy := ok.ck y b e
        have := x.cell y b e
        rw [if_neg (by rw [hy]; intro q; cases q)]
        exact this
      · obtain ⟨v, d, rfl, e2, e3, e4⟩ := argsP_lookup (rv.kp k1) e
        refine ⟨(by rw [hkk]; exact hk y e4), v, ?_, e3.set fun b q => q.elim .inl fun f => f.elim⟩
        by_cases hy : (callEnvC fd h.objs.size a).kindOf y = some .local
        · exact (if_pos hy).trans (bindL_on hy nd e2)
        · exact (if_neg hy).trans (bindC_on hy nd e2)
      · obtain ⟨_, _, q, _⟩ := argsP_lookup (rv.kp k1) e
        cases q
    have EX := B (A.deeper (callEnvC fd h.objs.size a)) (callEnvC fd h.objs.size a) hsc (fun y b e => x.above y b (PySem.mem_of_lookup e)) (lv.dn _) ds r pr
    refine (EX X (fun _ => False) h1 H).wp fun f h2 tk2 p => ?_
    obtain ⟨O', ρ', q, S, H2, fl, rfl⟩ := p
    cases fl with
    | ret rr =>
      refine ⟨h2, tk2, rfl, fun b o e => S.kx.1 b o (fun w => ?_) (k1 b o e), rr.set fun b y => .inl (.inl y)⟩
      rcases w with rfl | ⟨y, w, _⟩ | w
      · have : h.get? (callEnvC fd h.objs.size a).locals = none := get?_size h
        rw [this] at e; cases e
      · have := get?_size_le h (Nat.le_of_lt (x.above y b (PySem.mem_of_lookup w)))
        rw [this] at e; cases e
      · exact w.elim
end
end Mine


open PySem PySem.W PyProof.Rows PySem.Calls PySem.Spec
set_option Elab.async false
set_option maxRecDepth 100000
set_option linter.unusedVariables false
namespace Mine

abbrev No : Addr → Prop := fun _ => False

theorem yo_no {Y : Addr → Prop} {a : Addr} : Yo Y No a ↔ Y a := ⟨fun q => q.elim id fun f => f.elim, .inl⟩

/-- a list at its place -/
def LAt (Y : Addr → Prop) (h : Heap) (D : Addr) (ds : List PyData) : Prop := ∃ vs n, h.get? D = some { cls := .type "list", data := .seq vs.toArray n } ∧ RpA (Yo Y No) h vs ds

/-- tests of a comprehension -/
def EvTs (c : Cx) (A : Around) (env : Env) (ρ : PS) (ifs : List Expr) (b : Bool) : Prop :=
  ∀ Y O h, Abs c env Y O h ρ → Ev c A (forIn ifs true fun c r => if r = true then do let ok ← isTrue c env (eval c env); pure (ForInStep.yield ok) else pure (ForInStep.yield r)) h (fun r h' => Kp h h' ∧ r = b)

section
variable {c : Cx} {A : Around} {env : Env} {ρ ρ' : PS} {Y O O' : Addr → Prop} {h h' h'' : Heap}

theorem ts_nil : EvTs c A env ρ [] true := fun Y O h H tk E => wpAny_tests_nil ⟨h, tk, rfl, Kp.refl _, rfl⟩
theorem ts_one {e : Expr} {b : Bool} (x : EvT c A env ρ e b) : EvTs c A env ρ [e] b := fun Y O h H tk E => wpAny_tests_one (x Y O h H tk E)

theorem wr0_list (H : Abs c env Y No h ρ) {a : Addr} {vs : Array Value} {n : Nat} (w : Wr env No a) (e : h.get? a = some { cls := .type "list", data := .seq vs n }) : False := by
  obtain ⟨m, F, V, I⟩ := H.vals
  rcases w with rfl | ⟨x, w, _⟩ | w
  · obtain ⟨mL, ⟨o, es, ep, q, d, _⟩, _⟩ := F.ns
    rw [e] at q; cases q; cases d
  · obtain ⟨o, q, d⟩ := F.cell x a w
    rw [e] at q; cases q; cases d
  · exact w

/-- a list that nobody of the block reads is changed -/
theorem Abs.poke {a : Addr} {vs : Array Value} {n : Nat} (H : Abs c env Y No h ρ) (y : Y a) (e : h.get? a = some { cls := .type "list", data := .seq vs n }) (s : Heap.SameBut a h h') (d : h'.get? a ≠ none) (g : c.g.get? a = none) : Abs c env Y No h' ρ where
  ok := H.ok
  kp := fun b o eb => (s.2 b (by rintro rfl; rw [g] at eb; cases eb)).trans (H.kp b o eb)
  ydom := fun b yb => if q : b = a then q ▸ d else by rw [s.2 b q]; exact H.ydom b yb
  odom := fun b o => o.elim
  vals := by
    obtain ⟨m, F, V, I⟩ := H.vals
    refine ⟨m, ⟨?_, fun y b q => (F.cell y b q).sameBut s ?_⟩, fun x pv ex => ?_, I⟩
    · obtain ⟨mL, n, e'⟩ := F.ns
      refine ⟨mL, n.sameBut s ?_, e'⟩
      rintro rfl
      obtain ⟨o, es, ep, q, d, _⟩ := n
      rw [e] at q; cases q; cases d
    · rintro rfl; exact cell_list H q e
    · obtain ⟨l, v, ev, p⟩ := V x pv ex
      refine ⟨l, v, ev, ?_⟩
      have lift : ∀ {v d}, Rp (Yo Y No) h v d → Rp (Yo Y No) h' v d := fun r => r.of fun b vs n hx e => ⟨hx, n, (s.2 b (by rintro rfl; exact hx (.inl y))).trans e⟩
      have liftA : ∀ {v d}, RpA (Yo Y No) h v d → RpA (Yo Y No) h' v d := fun r => r.of fun b vs n hx e => ⟨hx, n, (s.2 b (by rintro rfl; exact hx (.inl y))).trans e⟩
      cases pv with
      | imm d => exact lift p
      | own ds => obtain ⟨a1, vs, n, e1, o, _⟩ := p; exact o.elim

theorem RpA.poke {a : Addr} {vs : List Value} {ds : List PyData} (r : RpA (Yo Y No) h vs ds) (y : Y a) (s : Heap.SameBut a h h') : RpA (Yo Y No) h' vs ds := r.of fun b vs n hx e => ⟨hx, n, (s.2 b (by rintro rfl; exact hx (.inl y))).trans e⟩

/-- what a comprehension goes over -/
structure LS (c : Cx) (A : Around) (env : Env) (Y : Addr → Prop) (D : Addr) (hs : Heap) (ds : List PyData) (I : Addr) (fp wr : List Addr) (P : Nat → Value → Prop) (St : Nat → Heap → Prop) : Prop where
  W : Walks c.prog c.w A I fp wr ds.length P St
  st : St 0 hs
  fpo : ∀ b ∈ fp, hs.get? b ≠ none ∧ ¬ Wr env No b ∧ b ≠ D ∧ ∀ x, env.cells.lookup x ≠ some b
  wr' : ∀ b ∈ wr, ¬ Y b ∧ c.g.get? b = none
  dom : ∀ i h, St i h → ∀ b ∈ wr, h.get? b ≠ none
  nl : ∀ i h, St i h → ∀ b ∈ wr, ∀ vs n, h.get? b ≠ some { cls := .type "list", data := .seq vs n }
  lg : ∀ i h tgt v tk (Q : Unit → Shared → Prop) E, St i h → Q () (c.St h tk) → wpAny c.M A (letOwnedTupleGo tgt (.ref I) v) Q E (c.St h tk)
  val : ∀ i v d, P i v → ds[i]? = some d → Rp (Yo Y No) hs v d

/-- a turn's end -/
def EmitOk (c : Cx) (A : Around) (env : Env) (Y : Addr → Prop) (D : Addr) (ρ ρ2 : PS) (emit : Sem Unit) (g : List PyData) : Prop :=
  ∀ h outs, Abs c env Y No h ρ → LAt Y h D outs → outs.length + g.length ≤ sizeLine → Ev c A emit h (fun _ h' => Abs c env Y No h' ρ2 ∧ LAt Y h' D (outs ++ g) ∧ Kx (fun a => Wr env No a ∨ a = D) h h')

theorem comp_loopM {α : Type} (enc : α → PyData) {elt : Expr} {gens : List Comprehension} {scope : Scope} {pos : Pos} {dp : Nat} {tgt : Expr} {pos1 : Pos} {ifs : List Expr} {emit : Sem Unit} {I D : Addr} {fp wr : List Addr} {P : Nat → Value → Prop} {St : Nat → Heap → Prop} {hs : Heap} {tk : Nat} {xs : List α} {R : Result → Shared → Prop} {ρ2 : PS}
    {outs0 : List PyData} (p : α → Bool) (g : α → List PyData)
    (ht : compTurn (.ListComp elt gens scope pos) dp (.ref I) (.ref D) env = (do
      standAt pos1
      match ← pyNext (.ref I) with
      | none => pure (.done .next)
      | some v =>
        letOwnedTupleGo tgt (.ref I) v
        assign tgt env v
        let mut ok := true
        for c in ifs do
          if ok then ok ← isTrue c env (eval c env)
        if ok then emit
        again (.compLoop (.ListComp elt gens scope pos) dp (.ref I) (.ref D) env)))
    (L : LS c A env Y D hs (xs.map enc) I fp wr P St) (hY : Y D) (gD : c.g.get? D = none) (H : Abs c env Y No hs ρ2) (l0 : LAt Y hs D outs0) (sz : outs0.length + ((xs.filter p).flatMap g).length ≤ sizeLine)
    (turn : ∀ d ∈ xs, ∃ β, Sub ρ2 (β ++ ρ2) ∧ Tgt c A env tgt (enc d) β ∧ EvTs c A env (β ++ ρ2) ifs (p d) ∧ (p d = true → EmitOk c A env Y D (β ++ ρ2) ρ2 emit (g d)))
    (k : ∀ h' tk', Abs c env Y No h' ρ2 → LAt Y h' D (outs0 ++ (xs.filter p).flatMap g) → (∀ b o, ¬ (Wr env No b ∨ b = D ∨ b ∈ wr) → hs.get? b = some o → h'.get? b = some o) → (∀ b, b ∉ wr → hs.get? b ≠ none → h'.get? b ≠ none) → R (.ok .next) (c.St h' tk')) :
    codeAny c.M A (.compLoop (.ListComp elt gens scope pos) dp (.ref I) (.ref D) env) R (c.St hs tk) := by
  have gl : ∀ i d, xs[i]? = some d → ((xs.take (i + 1)).filter p).flatMap g = ((xs.take i).filter p).flatMap g ++ (if p d then g d else []) := fun i d hd => by
    rw [take_succ_filter p xs i d hd, List.flatMap_append]
    cases p d <;> simp
  have bd : ∀ i, (((xs.take i).filter p).flatMap g).length ≤ ((xs.filter p).flatMap g).length := fun i => by
    conv => rhs; rw [← List.take_append_drop i xs]
    rw [List.filter_append, List.flatMap_append, List.length_append]; omega
  refine codeAny_loop (M := c.M) rfl (fun n s => ∃ i h' tk', s = c.St h' tk' ∧ i ≤ xs.length ∧ n = xs.length - i ∧ St i h' ∧ Abs c env Y No h' ρ2 ∧ LAt Y h' D (outs0 ++ ((xs.take i).filter p).flatMap g) ∧
    (∀ b o, ¬ (Wr env No b ∨ b = D ∨ b ∈ wr) → hs.get? b = some o → h'.get? b = some o) ∧ (∀ b, hs.get? b ≠ none → h'.get? b ≠ none)) ?_ xs.length
    ⟨0, hs, tk, rfl, Nat.zero_le _, rfl, L.st, H, by simpa using l0, fun b o _ e => e, fun b q => q⟩
  rintro n s ⟨i, h', tk', rfl, hi', rfl, st, H', lD, kw, dm⟩
  show wpAny _ A ((compTurn (.ListComp elt gens scope pos) dp (.ref I) (.ref D) env).onRaise (fun x => do noteFrame x env; theTreesLotGoes x)) _ _ _
  refine wpAny_noted ?_
  rw [ht]
  have apart : ∀ b ∈ wr, ¬ Y b ∧ (¬ Wr env No b ∧ ∀ x, env.cells.lookup x ≠ some b) ∧ c.g.get? b = none ∧ ∀ vs n, h'.get? b ≠ some { cls := .type "list", data := .seq vs n } := fun b hb =>
    ⟨(L.wr' b hb).1, ⟨(L.fpo b (L.W.sub b hb)).2.1, (L.fpo b (L.W.sub b hb)).2.2.2⟩, (L.wr' b hb).2, fun vs n => L.nl i h' st b hb vs n⟩
  have Dw : D ∉ wr := fun m => (L.fpo D (L.W.sub D m)).2.2.1 rfl
  have lift : ∀ h3 : Heap, (∀ b o, b ∉ wr → h'.get? b = some o → h3.get? b = some o) → ∀ {ys}, LAt Y h' D ys → LAt Y h3 D ys := fun h3 k3 {ys} ⟨vs, n, e, r⟩ =>
    ⟨vs, n, k3 _ _ Dw e, r.of fun a vs n hx e => ⟨hx, n, k3 _ _ (fun m => L.nl i h' st a m _ _ e) e⟩⟩
  have kw3 : ∀ h3 : Heap, (∀ b o, b ∉ wr → h'.get? b = some o → h3.get? b = some o) → (∀ b o, ¬ (Wr env No b ∨ b = D ∨ b ∈ wr) → hs.get? b = some o → h3.get? b = some o) := fun h3 k3 b o nb e => k3 b o (fun m => nb (.inr (.inr m))) (kw b o nb e)
  by_cases hlt : i < xs.length
  · obtain ⟨d, hd⟩ : ∃ d, xs[i]? = some d := ⟨_, List.getElem?_eq_getElem hlt⟩
    have hdm : d ∈ xs := List.mem_of_getElem? hd
    refine wpAny_bind (wpAny_standAt (wpAny_bind (L.W.item i _ _ _ (by rw [List.length_map]; exact hlt) st fun v h3 tk3 hv st3 k3 => ?_)))
    refine wpAny_bind (L.lg (i + 1) h3 tgt v tk3 _ _ st3 ?_)
    have dm3 : ∀ b, h'.get? b ≠ none → h3.get? b ≠ none := fun b q => by
      by_cases hb : b ∈ wr
      · exact L.dom _ _ st3 b hb
      · cases e : h'.get? b with
        | none => exact absurd e q
        | some o => rw [k3 b o hb e]; simp
    have H3 := H'.other k3 apart
    have rv : Rp (Yo Y No) h3 v (enc d) := (L.val i v (enc d) hv (by rw [List.getElem?_map, hd]; rfl)).of fun a vs n hx e => ⟨hx, n, kw3 h3 k3 a _ (fun w => by
      rcases w with w | w | w
      · exact wr0_list H w e
      · exact hx (w ▸ .inl hY)
      · exact L.nl 0 hs L.st a w _ _ e) e⟩
    obtain ⟨β, sb, T, TS, EM⟩ := turn d hdm
    refine wpAny_bind ((T Y No h3 ρ2 v H3 rv).wp fun _ h4 tk4 p4 => ?_)
    refine wpAny_bind ((TS Y No h4 p4.2).wp fun ok h5 tk5 p5 => ?_)
    obtain ⟨k5, rfl⟩ := p5
    have H5 := p4.2.tr k5
    have K45 : Kx (Wr env No) h3 h5 := p4.1.kx.trans k5.kx (W' := Wr env No) fun x w => .inl w
    have l5 : LAt Y h5 D (outs0 ++ ((xs.take i).filter p).flatMap g) := by
      obtain ⟨vs, n, e, r⟩ := lift h3 k3 lD
      exact ⟨vs, n, K45.1 _ _ (fun w => wr0_list H3 w e) e, r.kx K45 (fun a vs n w e => (wr0_list H3 w e).elim) fun a q => .inl q⟩
    have st5 : St (i + 1) h5 := L.W.frame _ _ _ st3 fun b hb o e => K45.1 b o (L.fpo b hb).2.1 e
    have kw5 : ∀ b o, ¬ (Wr env No b ∨ b = D ∨ b ∈ wr) → hs.get? b = some o → h5.get? b = some o := fun b o nb e => K45.1 b o (fun w => nb (.inl w)) (kw3 h3 k3 b o nb e)
    have fin : ∀ h6 tk6, Abs c env Y No h6 ρ2 → LAt Y h6 D (outs0 ++ ((xs.take (i + 1)).filter p).flatMap g) → Kx (fun a => Wr env No a ∨ a = D) h5 h6 → ∃ m, m < xs.length - i ∧ ∃ i h' tk', c.St h6 tk6 = c.St h' tk' ∧ i ≤ xs.length ∧ m = xs.length - i ∧ St i h' ∧ Abs c env Y No h' ρ2 ∧ LAt Y h' D (outs0 ++ ((xs.take i).filter p).flatMap g) ∧
        (∀ b o, ¬ (Wr env No b ∨ b = D ∨ b ∈ wr) → hs.get? b = some o → h'.get? b = some o) ∧ (∀ b, hs.get? b ≠ none → h'.get? b ≠ none) := fun h6 tk6 H6 l6 K6 =>
      ⟨xs.length - (i + 1), by omega, i + 1, h6, tk6, rfl, hlt, rfl, L.W.frame _ _ _ st5 (fun b hb o e => K6.1 b o (fun w => w.elim (L.fpo b hb).2.1 (L.fpo b hb).2.2.1) e), H6, l6,
        fun b o nb e => K6.1 b o (fun w => nb (w.imp_right .inl)) (kw5 b o nb e), fun b q => K6.2 b (K45.2 b (dm3 b (dm b q)))⟩
    cases hp : p d with
    | false =>
      refine wpAny_pure ⟨rfl, fin h5 tk5 (H5.weak sb) ?_ (Kx.refl _ _)⟩
      rw [gl i d hd, hp]; simpa using l5
    | true =>
      have b1 := bd (i + 1)
      rw [gl i d hd, hp, if_pos rfl, List.length_append] at b1
      refine wpAny_bind ((EM hp h5 _ H5 l5 (by rw [List.length_append]; omega)).wp fun _ h6 tk6 p6 => ?_)
      refine wpAny_pure ⟨rfl, fin h6 tk6 p6.1 ?_ p6.2.2⟩
      rw [gl i d hd, hp, if_pos rfl, ← List.append_assoc]; exact p6.2.1
  · have hi2 : i = xs.length := by omega
    subst hi2
    refine wpAny_bind (wpAny_standAt (wpAny_bind (L.W.done _ _ _ (by rw [List.length_map]; exact st) fun h3 tk3 k3 => ?_)))
    refine wpAny_pure (k h3 tk3 (H'.other k3 apart) (by have := lift h3 k3 lD; rwa [List.take_length] at this) (kw3 h3 k3) fun b nb q => ?_)
    cases e : h'.get? b with
    | none => exact absurd e (dm b q)
    | some o => rw [k3 b o nb e]; simp

theorem emit_append {D : Addr} {ρ2 : PS} {elt : Expr} {d : PyData} (hY : Y D) (gD : c.g.get? D = none) (sb : Sub ρ2 ρ) (x : EvE c A env ρ elt d) :
    EmitOk c A env Y D ρ ρ2 (do let _ ← call (.builtin "list.append") [.ref D, ← eval elt env]) [d] := fun h outs H l sz tk E => by
  refine wpAny_bind ((x Y No h H).wp fun v h1 tk1 p => ?_)
  obtain ⟨vs, n, e, r⟩ := l
  refine wpAny_bind (wpAny_list_append_plain (s := c.St h1 tk1) ⟨n, p.1 _ _ e⟩ (fun h2 ⟨n2, e2⟩ s => wpAny_pure ?_) (by simp only [List.size_toArray, r.length, List.length_singleton] at sz ⊢; omega))
  rw [List.push_toArray] at e2
  have dn : h2.get? D ≠ none := by rw [e2]; simp
  refine ⟨h2, tk1, rfl, ((H.tr p.1).weak sb).poke hY (p.1 _ _ e) s dn gD, ⟨_, n2, e2, ((r.kp p.1).append (RpA.one p.2)).poke hY s⟩, ?_⟩
  exact (p.1.kx (W := fun a => Wr env No a ∨ a = D)).trans (Kx.same (W := fun a => Wr env No a ∨ a = D) s (.inr rfl) dn) fun x q => .inl q
end
end Mine


open PySem PySem.W PyProof.Rows PySem.Calls PySem.Spec
set_option Elab.async false
set_option maxRecDepth 100000
set_option linter.unusedVariables false
set_option linter.unusedSimpArgs false
namespace Mine

noncomputable def closL (env : Env) : List (Str × NameKind) → List (Str × Addr) → List (Str × Addr)
  | [], acc => acc
  | (n, k) :: r, acc => if k == .free then closL env r ((n, (env.cells.lookup n).getD 0) :: acc) else closL env r acc

theorem closureFor_go {env : Env} (f : Str × NameKind → List (Str × Addr) → Sem (ForInStep (List (Str × Addr))))
    (hf : ∀ n k cs, f (n, k) cs = if k == .free then (do let a ← cellOf env n; pure (.yield ((n, a) :: cs))) else pure (.yield cs)) :
    ∀ (names : List (Str × NameKind)) (acc : List (Str × Addr)), (∀ p ∈ names, p.2 = .free → ∃ a, env.cells.lookup p.1 = some a) → (forIn names acc f : Sem _) = pure (closL env names acc)
  | [], acc, _ => by rw [List.forIn_nil]; rfl
  | (n, k) :: r, acc, h => by
    rw [List.forIn_cons, hf]
    unfold closL
    have hr := closureFor_go f hf r
    split
    · rename_i hk
      obtain ⟨a, e⟩ := h (n, k) List.mem_cons_self (by simpa using hk)
      simp only at e
      have : cellOf env n = pure a := by unfold cellOf; rw [e]
      rw [this, e]
      simp only [pure_bind, Option.getD_some]
      exact hr _ fun p m => h p (List.mem_cons_of_mem _ m)
    · simp only [pure_bind]
      exact hr _ fun p m => h p (List.mem_cons_of_mem _ m)

theorem closureFor_eq {scope : Scope} {env : Env} (h : ∀ p ∈ scope.names, p.2 = .free → ∃ a, env.cells.lookup p.1 = some a) : closureFor scope env = pure (closL env scope.names []) := by
  unfold closureFor
  simp only []
  rw [closureFor_go (env := env) _ (fun n k cs => by cases hk : k == NameKind.free <;> simp [hk]) scope.names [] h]
  rfl

theorem closL_mem {env : Env} : ∀ {names : List (Str × NameKind)} {acc : List (Str × Addr)} {x : Str} {a : Addr}, (x, a) ∈ closL env names acc → (x, a) ∈ acc ∨ ((x, NameKind.free) ∈ names ∧ a = (env.cells.lookup x).getD 0)
  | [], _, _, _, m => .inl m
  | (n, k) :: r, acc, x, a, m => by
    unfold closL at m
    split at m
    · rename_i hk
      rcases closL_mem m with q | q
      · rcases List.mem_cons.mp q with q | q
        · cases q
          have : k = .free := by simpa using hk
          subst this
          exact .inr ⟨List.mem_cons_self, rfl⟩
        · exact .inl q
      · exact .inr ⟨List.mem_cons_of_mem _ q.1, q.2⟩
    · exact (closL_mem m).imp_right fun q => ⟨List.mem_cons_of_mem _ q.1, q.2⟩
theorem closL_acc {env : Env} : ∀ {names : List (Str × NameKind)} {acc : List (Str × Addr)} {x : Str}, (∃ a, (x, a) ∈ acc) ∨ (x, NameKind.free) ∈ names → ∃ a, (x, a) ∈ closL env names acc
  | [], _, _, m => m.elim id fun q => by cases q
  | (n, k) :: r, acc, x, m => by
    unfold closL
    split
    · rename_i hk
      refine closL_acc ?_
      rcases m with ⟨a, m⟩ | m
      · exact .inl ⟨a, List.mem_cons_of_mem _ m⟩
      · rcases List.mem_cons.mp m with q | q
        · cases q; exact .inl ⟨_, List.mem_cons_self⟩
        · exact .inr q
    · rename_i hk
      refine closL_acc ?_
      rcases m with ⟨a, m⟩ | m
      · exact .inl ⟨a, m⟩
      · rcases List.mem_cons.mp m with q | q
        · cases q; exact absurd rfl hk
        · exact .inr q

theorem cellsFrom_keep : ∀ {names : List (Str × NameKind)} {n : Nat} {acc : List (Str × Addr)} {x : Str} {a : Addr}, (x, a) ∈ acc → (x, a) ∈ cellsFrom n names acc
  | [], _, _, _, _, m => m
  | (y, k) :: r, n, acc, x, a, m => by
    unfold cellsFrom
    split
    · exact cellsFrom_keep (List.mem_cons_of_mem _ m)
    · exact cellsFrom_keep m

/-- a cell made, or one of those that were -/
theorem cellsFrom_new : ∀ {names : List (Str × NameKind)} {h : Heap} {acc : List (Str × Addr)} {x : Str} {a : Addr}, (x, a) ∈ cellsFrom h.objs.size names acc → (x, a) ∈ acc ∨ (h.objs.size ≤ a ∧ (x, NameKind.cell) ∈ names ∧ (pushCells h names).IsCell a none)
  | [], _, _, _, _, m => .inl m
  | (y, k) :: r, h, acc, x, a, m => by
    unfold cellsFrom at m
    unfold pushCells
    split at m
    · rename_i hk
      rw [if_pos hk]
      rw [show h.objs.size + 1 = (h.push { cls := .type "cell", data := .cell none }).objs.size from (Heap.size_push ..).symm] at m
      rcases cellsFrom_new m with q | ⟨q1, q2, q3⟩
      · rcases List.mem_cons.mp q with q | q
        · cases q
          have : k = .cell := by simpa using hk
          subst this
          exact .inr ⟨Nat.le_refl _, List.mem_cons_self, ⟨_, pushCells_keeps _ _ _ _ (Heap.get?_push_size _ rfl), rfl⟩⟩
        · exact .inl q
      · rw [Heap.size_push] at q1
        exact .inr ⟨by omega, List.mem_cons_of_mem _ q2, q3⟩
    · rename_i hk
      rw [if_neg hk]
      rcases cellsFrom_new m with q | ⟨q1, q2, q3⟩
      · exact .inl q
      · exact .inr ⟨q1, List.mem_cons_of_mem _ q2, q3⟩

theorem cellsFrom_uniq : ∀ {names : List (Str × NameKind)} {n : Nat} {acc : List (Str × Addr)}, (∀ x a, (x, a) ∈ acc → a < n) → (∀ x y a, (x, a) ∈ acc → (y, a) ∈ acc → x = y) → ∀ {x y : Str} {a : Addr}, (x, a) ∈ cellsFrom n names acc → (y, a) ∈ cellsFrom n names acc → x = y
  | [], _, _, _, u, x, y, a, m, m' => u x y a m m'
  | (z, k) :: r, n, acc, b, u, x, y, a, m, m' => by
    unfold cellsFrom at m m'
    split at m
    · rename_i hk
      rw [if_pos hk] at m'
      refine cellsFrom_uniq (fun x a q => ?_) (fun x y a q q' => ?_) m m'
      · rcases List.mem_cons.mp q with q | q
        · cases q; exact Nat.lt_succ_self _
        · exact Nat.lt_succ_of_lt (b x a q)
      · rcases List.mem_cons.mp q with q | q <;> rcases List.mem_cons.mp q' with q' | q'
        · cases q; cases q'; rfl
        · cases q; exact absurd (b _ _ q') (Nat.lt_irrefl _)
        · cases q'; exact absurd (b _ _ q) (Nat.lt_irrefl _)
        · exact u x y a q q'
    · rename_i hk
      rw [if_neg hk] at m'
      exact cellsFrom_uniq b u m m'

theorem relabel_lookup {scope : Scope} {env : Env} (hk : env.scope.kind = .function) (hf : ∀ p ∈ scope.names, p.2 = .free → env.kindOf p.1 = some .cell) (x : Str) :
    (relabel scope env).names.lookup x = (scope.names.lookup x).map fun k => if k = .free then .cell else k := by
  show (scope.names.map fun (n, k) => if (k == .free && env.scope.kind == .function && env.kindOf n == some .cell) then (n, .cell) else (n, k)).lookup x = _
  generalize hn : scope.names = names at hf
  clear hn
  induction names with
  | nil => rfl
  | cons p r ih =>
    obtain ⟨n, k⟩ := p
    have ih' := ih fun p m => hf p (List.mem_cons_of_mem _ m)
    rw [List.map_cons, List.lookup_cons]
    have e : (match ((n, k) : Str × NameKind) with | (n, k) => if (k == .free && env.scope.kind == .function && env.kindOf n == some .cell) = true then (n, NameKind.cell) else (n, k)) = (n, if k = .free then .cell else k) := by
      by_cases q : k = .free
      · subst q
        have := hf (n, .free) List.mem_cons_self rfl
        simp only at this
        simp [hk, this]
      · simp [q]
    show List.lookup x ((match ((n, k) : Str × NameKind) with | (n, k) => if (k == .free && env.scope.kind == .function && env.kindOf n == some .cell) = true then (n, NameKind.cell) else (n, k)) :: _) = _
    rw [e, List.lookup_cons, List.lookup_cons]
    cases x == n
    · exact ih'
    · rfl

/-- what is asked of a comprehension's scope -/
structure ScOk (scope : Scope) (env : Env) : Prop where
  kind : scope.kind = .function
  uniq : ∀ p ∈ scope.names, scope.names.lookup p.1 = some p.2
  free : ∀ p ∈ scope.names, p.2 = .free → env.kindOf p.1 = some .cell

/-- the block of a comprehension -/
structure InC (scope : Scope) (cenv : Env) : Prop where
  kinds : ∀ x, cenv.kindOf x = (scope.names.lookup x).map fun k => if k = .free then .cell else k
  own : ∀ x, scope.names.lookup x = some .local ∨ scope.names.lookup x = some .cell → Ow cenv x

section
variable {c : Cx} {A : Around} {env : Env} {ρ ρ' : PS} {Y O O' : Addr → Prop} {h h' h'' : Heap}

theorem wp_newFE {scope : Scope} {cl : List (Str × Addr)} {tk : Nat} {Q : Env → Shared → Prop} {E : Value → Shared → Prop}
    (q : Q { scope, locals := h.objs.size, globals := env.globals, cells := cellsFrom (h.objs.size + 1) scope.names cl, qual := env.qual, func := none, code := env.code, frame := env.frame, builtins := env.builtins }
      (c.St (pushCells (h.push { cls := .type "dict", data := .dict #[] }) scope.names) tk)) : wpAny c.M A (newFunctionEnv scope env.globals cl [] env.qual none .none (some env)) Q E (c.St h tk) := by
  simp only [newFunctionEnv, Option.isSome_some, if_true]
  refine wpAny_bind (wpAny_alloc ?_)
  refine wpAny_bind (wpAny_layCells _ (fun name kind cells => by cases hkc : kind == NameKind.cell <;> simp [hkc]) _ _ _ _ ?_)
  rw [show ({ (c.St h tk) with heap := (c.St h tk).heap.push { cls := .type "dict", data := .dict #[] } } : Shared).heap.objs.size = h.objs.size + 1 from Heap.size_push ..]
  rw [List.forIn_nil]
  exact wpAny_bind (wpAny_pure (wpAny_pure q))

theorem comp_abs {scope : Scope} {D : Addr} {ρ2 : PS} {cenv : Env} {h2 h3 : Heap} (H : Abs c env Y O h2 ρ) (dn : h2.get? D = none) (k3 : Kp h2 h3) (d3 : h3.get? D ≠ none) (so : ScOk scope env)
    (hc : cenv = { scope := relabel scope env, locals := h3.objs.size, globals := env.globals, cells := cellsFrom (h3.objs.size + 1) scope.names (closL env scope.names []), qual := env.qual, func := none, code := env.code, frame := env.frame, builtins := env.builtins })
    (cap : ∀ x pv, ρ2.lookup x = some pv → ∃ d, pv = .imm d ∧ ρ.lookup x = some (.imm d) ∧ scope.names.lookup x = some .free) :
    InC scope cenv ∧ Abs c cenv (fun b => Yo Y O b ∨ b = D) No (pushCells (h3.push { cls := .type "dict", data := .dict #[] }) scope.names) ρ2 := by
  have H3 := H.tr k3
  have k4 : Kp h3 (pushCells (h3.push { cls := .type "dict", data := .dict #[] }) scope.names) := fun b o e => pushCells_keeps _ _ _ _ (Heap.get?_push_of_some _ e)
  have kinds : ∀ x, cenv.kindOf x = (scope.names.lookup x).map fun k => if k = .free then .cell else k := fun x => by
    subst hc; exact relabel_lookup H.ok.kind so.free x
  have hcells : cenv.cells = cellsFrom (h3.objs.size + 1) scope.names (closL env scope.names []) := by subst hc; rfl
  have hloc : cenv.locals = h3.objs.size := by subst hc; rfl
  have sz : (h3.push { cls := .type "dict", data := .dict #[] }).objs.size = h3.objs.size + 1 := Heap.size_push ..
  -- captured cells
  have cap' : ∀ x a, (x, a) ∈ closL env scope.names [] → env.cells.lookup x = some a ∧ (x, NameKind.free) ∈ scope.names := fun x a m => by
    rcases closL_mem m with q | ⟨q, e⟩
    · cases q
    · obtain ⟨b, eb⟩ := H.ok.has x (so.free _ q rfl)
      rw [eb] at e; subst e; exact ⟨eb, q⟩
  have mem : ∀ x a, (x, a) ∈ cenv.cells → (env.cells.lookup x = some a ∧ (x, NameKind.free) ∈ scope.names) ∨ (h3.objs.size < a ∧ (x, NameKind.cell) ∈ scope.names ∧ (pushCells (h3.push { cls := .type "dict", data := .dict #[] }) scope.names).IsCell a none) := fun x a m => by
    rw [hcells, ← sz] at m
    rcases cellsFrom_new m with q | ⟨q1, q2, q3⟩
    · exact .inl (cap' x a q)
    · rw [sz] at q1; exact .inr ⟨q1, q2, q3⟩
  have lt : ∀ x a, env.cells.lookup x = some a → a < h3.objs.size := fun x a e => by
    cases q : h3.get? a with
    | none => exact absurd q (cell_dom H3 e)
    | some o => exact Heap.lt_size q
  have hinj : ∀ x y a, (x, a) ∈ cenv.cells → (y, a) ∈ cenv.cells → x = y := fun x y a m m' => by
    rw [hcells] at m m'
    exact cellsFrom_uniq (fun x a q => Nat.lt_succ_of_lt (lt x a (cap' x a q).1)) (fun x y a q q' => H.ok.inj x y a (cap' x a q).1 (cap' y a q').1) m m'
  refine ⟨⟨kinds, fun x hx => ?_⟩, ⟨?_, H3.kp.trans k4, fun b y => ?_, fun b o => o.elim, ?_⟩⟩
  · rcases hx with hx | hx
    · exact .inl (by rw [kinds, hx]; rfl)
    · refine .inr ⟨by rw [kinds, hx]; rfl, fun a e => ?_⟩
      rcases mem x a (PySem.mem_of_lookup e) with ⟨_, q⟩ | ⟨q, _⟩
      · have := so.uniq _ q; simp only at this; rw [hx] at this; cases this
      · rw [hloc]; exact q
  · refine ⟨by subst hc; exact so.kind, by rw [hloc]; exact H3.kp.back (get?_size _), fun x a e => ?_, fun x e => ?_, fun x a e => ?_, fun x y a e e' => hinj x y a (PySem.mem_of_lookup e) (PySem.mem_of_lookup e'), by subst hc; exact H.ok.glob, by subst hc; exact H.ok.bui, ?_⟩
    · rcases mem x a (PySem.mem_of_lookup e) with ⟨q, _⟩ | ⟨q, _⟩
      · exact H.ok.cel x a q
      · exact H3.kp.back (get?_size_le _ (Nat.le_of_lt q))
    · rw [kinds] at e
      rw [hcells]
      cases q : scope.names.lookup x with
      | none => rw [q] at e; cases e
      | some k =>
        have m := PySem.mem_of_lookup q
        rw [q] at e
        by_cases hf : k = .free
        · subst hf
          obtain ⟨a, ma⟩ := closL_acc (env := env) (acc := []) (.inr m)
          exact lookup_of_mem ⟨a, cellsFrom_keep ma⟩
        · simp only [Option.map_some, if_neg hf, Option.some.injEq] at e
          subst e
          exact lookup_of_mem (cellsFrom_acc (.inr m))
    · rw [kinds]
      rcases mem x a (PySem.mem_of_lookup e) with ⟨_, q⟩ | ⟨_, q, _⟩
      · have := so.uniq _ q; simp only at this; rw [this]; rfl
      · have := so.uniq _ q; simp only at this; rw [this]; rfl
    · subst hc
      show (scope.kind == .module && _) = false
      rw [so.kind]; rfl
  · rcases y with y | y
    · exact (k3.trans k4).dom (yo_none H y)
    · exact k4.dom (y ▸ d3)
  · obtain ⟨m, F, V, I⟩ := H3.vals
    refine ⟨fun x => if scope.names.lookup x = some .free then m x else none, ⟨⟨fun _ => none, ?_, fun x hx => ?_⟩, fun x a e => ?_⟩, fun x pv e => ?_, fun x y ds es v e _ _ _ => ?_⟩
    · rw [hloc]
      exact (Heap.Ns.new h3 (.type "dict")).keeps (pushCells_keeps _ _)
    · rw [kinds] at hx
      cases q : scope.names.lookup x with
      | none => rw [q] at hx; cases hx
      | some k =>
        rw [q] at hx
        rw [if_neg]
        rintro e; cases e; cases hx
    · rcases mem x a (PySem.mem_of_lookup e) with ⟨q, q'⟩ | ⟨_, q, q'⟩
      · have := so.uniq _ q'; simp only at this
        rw [if_pos this]
        exact (F.cell x a q).keeps k4
      · have := so.uniq _ q; simp only at this
        rw [if_neg (by rw [this]; intro e; cases e)]
        exact q'
    · obtain ⟨d, rfl, e1, e2⟩ := cap x pv e
      refine ⟨.inr (by rw [kinds, e2]; rfl), ?_⟩
      obtain ⟨m0, F0, V0, _⟩ := H.vals
      obtain ⟨lx, v, hv, p⟩ := V0 x _ e1
      have : m x = some v := by rw [← hv]; exact F.fun H.ok (F0.kp k3) lx
      refine ⟨v, (if_pos e2).trans this, ?_⟩
      exact ((Rp.set p fun b q => by
        rcases q with (q | q) | q
        · exact .inl q
        · exact .inr (q ▸ dn)
        · exact q.elim).kp k3).kp k4
    · obtain ⟨d, q, _⟩ := cap x _ e
      cases q

/-- the loop of a comprehension, whatever its clauses -/
def CLoop (c : Cx) (A : Around) (env : Env) (e : Expr) (ρ2 : PS) (ds outs : List PyData) : Prop :=
  ∀ Y D I fp wr P St hs tk (R : Result → Shared → Prop), LS c A env Y D hs ds I fp wr P St → Y D → c.g.get? D = none → Abs c env Y No hs ρ2 → LAt Y hs D [] →
    (∀ h' tk', Abs c env Y No h' ρ2 → LAt Y h' D outs → (∀ b o, ¬ (Wr env No b ∨ b = D ∨ b ∈ wr) → hs.get? b = some o → h'.get? b = some o) → (∀ b, b ∉ wr → hs.get? b ≠ none → h'.get? b ≠ none) → R (.ok .next) (c.St h' tk')) →
    codeAny c.M A (.compLoop e 0 (.ref I) (.ref D) env) R (c.St hs tk)

theorem comp_core {elt tgt iter : Expr} {ifs : List Expr} {rest : List Comprehension} {scope : Scope} {pos pos' : Pos} {use : Option (Value → Sem Unit)} {Q : Value → Shared → Prop} {E : Value → Shared → Prop} {tk : Nat} {ds outs : List PyData} {ρ2 : PS}
    (H : Abs c env Y O h ρ) (hi : EvI c A env ρ iter ds) (so : ScOk scope env)
    (cap : ∀ x pv, ρ2.lookup x = some pv → ∃ d, pv = .imm d ∧ ρ.lookup x = some (.imm d) ∧ scope.names.lookup x = some .free)
    (loop : ∀ cenv, InC scope cenv → CLoop c A cenv (.ListComp elt (⟨tgt, iter, ifs, 0⟩ :: rest) scope pos) ρ2 ds outs)
    (fin : ∀ C D h' tk' m' vs n, Kp h h' → h.get? C = none → h.get? D = none → C ≠ D → h'.Ns C m' → h'.get? D = some { cls := .type "list", data := .seq vs.toArray n } → RpA (fun b => Yo Y O b ∨ b = D) h' vs outs →
      compPost c.M A E use Q (.ref D) C (.ok .next) (c.St h' tk'))
    (hs : ∀ x, foldedSetIterable iter env x = pure x := by intro _; rfl) :
    wpAny c.M A (comprehension (.ListComp elt (⟨tgt, iter, ifs, 0⟩ :: rest) scope pos) scope env pos' (newList []) false (eval iter env) use) Q E (c.St h tk) := by
  have hcl : closureFor scope env = pure (closL env scope.names []) := closureFor_eq fun p m q => H.ok.has _ (so.free p m q)
  refine wpAny_comprehension_free rfl hs hcl so.kind (fun x m e => by rw [so.uniq x m, e]) (hi Y O h H tk E _ fun I fp wr P St h1 h2 tk2 k1 X => ?_)
  refine wpAny_newList ?_
  show wpAny c.M A _ _ _ (c.St (h2.push { cls := .type "list", data := .seq ([] : List Value).toArray }) tk2)
  refine wp_newFE ?_
  have H1 := H.tr k1
  have H2 := H1.tr X.kp
  have dn : h2.get? h2.objs.size = none := get?_size _
  have k3 : Kp h2 (h2.push { cls := .type "list", data := .seq ([] : List Value).toArray }) := Kp.push _ _
  have e3 : (h2.push { cls := .type "list", data := .seq ([] : List Value).toArray }).get? h2.objs.size = some { cls := .type "list", data := .seq ([] : List Value).toArray } := Heap.get?_push_size _ rfl
  have s3 : (h2.push { cls := .type "list", data := .seq ([] : List Value).toArray }).objs.size = h2.objs.size + 1 := Heap.size_push ..
  generalize h2.push { cls := .type "list", data := .seq ([] : List Value).toArray } = h3 at k3 e3 s3 ⊢
  obtain ⟨ic, H4⟩ := comp_abs (cenv := { scope := relabel scope env, locals := h3.objs.size, globals := env.globals, cells := cellsFrom (h3.objs.size + 1) scope.names (closL env scope.names []), qual := env.qual, func := none, code := env.code, frame := env.frame, builtins := env.builtins }) H2 dn k3 (by rw [e3]; simp) so rfl cap
  have k4 : Kp h3 (pushCells (h3.push { cls := .type "dict", data := .dict #[] }) scope.names) := fun b o e => pushCells_keeps _ _ _ _ (Heap.get?_push_of_some _ e)
  generalize hce : ({ scope := relabel scope env, locals := h3.objs.size, globals := env.globals, cells := cellsFrom (h3.objs.size + 1) scope.names (closL env scope.names []), qual := env.qual, func := none, code := env.code, frame := env.frame, builtins := env.builtins } : Env) = cenv at ic H4
  have hloc : cenv.locals = h3.objs.size := by subst hce; rfl
  generalize pushCells (h3.push { cls := .type "dict", data := .dict #[] }) scope.names = h4 at H4 k4 ⊢
  show codeAny c.M A (.compStart _ 0 (.ref I) (.ref h2.objs.size) cenv) (compPost c.M A E use Q (.ref h2.objs.size) h3.objs.size) _
  have k24 : Kp h2 h4 := k3.trans k4
  -- own places of the block are new
  have wn : ∀ b : Nat, Wr cenv No b → h3.objs.size ≤ b := fun b w => by
    rcases w with w | ⟨x, _, w⟩ | w
    · rw [w, hloc]; exact Nat.le_refl _
    · rw [hloc] at w; exact Nat.le_of_lt w
    · exact w.elim
  have lt2 : ∀ b : Nat, h2.get? b ≠ none → b < h2.objs.size := fun b q => by
    cases e : h2.get? b with
    | none => exact absurd e q
    | some o => exact Heap.lt_size e
  have st4 : St 0 h4 := X.W.frame _ _ _ X.st fun b _ o e => k24 b o e
  have ls : LS c A cenv (fun b => Yo Y O b ∨ b = h2.objs.size) h2.objs.size h4 ds I fp wr P St := by
    refine ⟨X.W, st4, fun b hb => ?_, fun b hb => ?_, X.dom, X.nl, X.lg, fun i v d hv hd => ?_⟩
    · have l := lt2 b (X.fpo b hb).1
      refine ⟨k24.dom (X.fpo b hb).1, fun w => Nat.lt_irrefl _ (Nat.lt_of_lt_of_le l (Nat.le_trans (Nat.le_of_lt (by rw [s3]; exact Nat.lt_succ_self _)) (wn b w))), Nat.ne_of_lt l, fun x q => ?_⟩
      have l4 : ∀ x a, cenv.cells.lookup x = some a → (env.cells.lookup x = some a) ∨ h3.objs.size < a := fun x a q => by
        subst hce
        have m := PySem.mem_of_lookup q
        rw [show h3.objs.size + 1 = (h3.push { cls := .type "dict", data := .dict #[] }).objs.size from (Heap.size_push ..).symm] at m
        rcases cellsFrom_new m with q | ⟨q, _⟩
        · rcases closL_mem q with q | ⟨q, e⟩
          · cases q
          · obtain ⟨b', eb⟩ := H.ok.has x (so.free _ q rfl)
            rw [eb] at e; subst e; exact .inl eb
        · rw [Heap.size_push] at q; exact .inr q
      rcases l4 x b q with q | q
      · exact (X.fpo b hb).2.2 x q
      · have q' : h3.objs.size < (b : Nat) := q
        omega
    · refine ⟨fun y => ?_, H1.kp.back (X.new b hb)⟩
      rcases y with y | y
      · exact yo_none H1 y (X.new b hb)
      · have := lt2 b (X.fpo b (X.W.sub b hb)).1
        exact Nat.ne_of_lt this y
    · exact (((X.val i v d hv hd).kp X.kp).set fun b q => by
        rcases q with (q | q) | q
        · exact .inl q
        · exact .inr (q ▸ dn)
        · exact q.elim).kp k24
  have run : codeAny c.M A (.compLoop (.ListComp elt (⟨tgt, iter, ifs, 0⟩ :: rest) scope pos) 0 (.ref I) (.ref h2.objs.size) cenv) (compPost c.M A E use Q (.ref h2.objs.size) h3.objs.size) (c.St h4 tk2) := by
    refine loop cenv ic _ _ I fp wr P St h4 tk2 _ ls (.inr rfl) (H2.kp.back dn) H4 ⟨[], 0, k4 _ _ e3, .nil⟩ fun h5 tk5 H5 l5 kk dm => ?_
    obtain ⟨vs, n, e5, r5⟩ := l5
    obtain ⟨m5, F5, _, _⟩ := H5.vals
    obtain ⟨mL, n5, _⟩ := F5.ns
    rw [hloc] at n5
    refine fin h3.objs.size h2.objs.size h5 tk5 mL vs n (fun b o e => ?_) ?_ ?_ (Nat.ne_of_gt (by omega)) n5 e5 (r5.set fun b q => .inl (.inl q))
    · have e2 : h2.get? b = some o := X.kp _ _ (k1 _ _ e)
      have l : (b : Nat) < h2.objs.size := Heap.lt_size e2
      refine kk b o (fun w => ?_) (k24 _ _ e2)
      rcases w with w | w | w
      · exact Nat.lt_irrefl _ (Nat.lt_of_lt_of_le l (Nat.le_trans (Nat.le_of_lt (by rw [s3]; exact Nat.lt_succ_self _)) (wn b w)))
      · exact Nat.ne_of_lt l w
      · have := X.new b w; rw [k1 _ _ e] at this; cases this
    · exact k1.back (X.kp.back (get?_size_le _ (by omega)))
    · exact k1.back (X.kp.back dn)
  exact codeAny_compStart_list run (X.W.self 0 _ _ _ st4 run)
end
end Mine


open PySem PySem.W PyProof.Rows PySem.Calls PySem.Spec
set_option Elab.async false
set_option maxRecDepth 100000
set_option linter.unusedVariables false
set_option linter.unusedSimpArgs false
namespace Mine

section
variable {c : Cx} {A : Around} {env : Env} {ρ ρ' : PS} {Y O O' : Addr → Prop} {h h' h'' : Heap} {Post : Option PyData → PS → Prop} {rest : List Stmt}

theorem flatMap_one {α β : Type} (f : α → β) : ∀ l : List α, l.flatMap (fun x => [f x]) = l.map f
  | [] => rfl
  | a :: l => by rw [List.flatMap_cons, List.map_cons, flatMap_one f l]; rfl

theorem filter_tt {α : Type} (l : List α) : l.filter (fun _ => true) = l := List.filter_eq_self.mpr fun _ _ => rfl

theorem cl_oneM {α : Type} (enc : α → PyData) {elt tgt iter : Expr} {ifs : List Expr} {scope : Scope} {pos : Pos} {xs : List α} {ρ2 : PS} (p : α → Bool) (f : α → PyData) (sz : xs.length ≤ sizeLine)
    (turn : ∀ d ∈ xs, ∃ β, Sub ρ2 (β ++ ρ2) ∧ Tgt c A env tgt (enc d) β ∧ EvTs c A env (β ++ ρ2) ifs (p d) ∧ (p d = true → EvE c A env (β ++ ρ2) elt (f d))) :
    CLoop c A env (.ListComp elt [⟨tgt, iter, ifs, 0⟩] scope pos) ρ2 (xs.map enc) ((xs.filter p).map f) := fun Y D I fp wr P St hs tk R L hY gD H l0 k => by
  refine comp_loopM enc p (fun d => [f d]) (outs0 := []) (compTurn_list ..) L hY gD H l0 ?_ (fun d hd => ?_) fun h' tk' H' l' kk dm => k h' tk' H' (by rw [flatMap_one, List.nil_append] at l'; exact l') kk dm
  · rw [flatMap_one, List.length_map]
    exact Nat.le_trans (by simpa using List.length_filter_le p xs) sz
  · obtain ⟨β, sb, T, TS, x⟩ := turn d hd
    exact ⟨β, sb, T, TS, fun q => emit_append hY gD sb (x q)⟩

theorem cl_map {α : Type} (enc : α → PyData) {elt tgt iter : Expr} {scope : Scope} {pos : Pos} {xs : List α} {ρ2 : PS} (f : α → PyData) (sz : xs.length ≤ sizeLine)
    (turn : ∀ d ∈ xs, ∃ β, Sub ρ2 (β ++ ρ2) ∧ Tgt c A env tgt (enc d) β ∧ EvE c A env (β ++ ρ2) elt (f d)) :
    CLoop c A env (.ListComp elt [⟨tgt, iter, [], 0⟩] scope pos) ρ2 (xs.map enc) (xs.map f) := by
  have := cl_oneM (c := c) (A := A) (env := env) enc (elt := elt) (tgt := tgt) (iter := iter) (ifs := []) (scope := scope) (pos := pos) (xs := xs) (ρ2 := ρ2) (fun _ => true) f sz fun d m =>
    let ⟨β, a, b, e⟩ := turn d m; ⟨β, a, b, ts_nil, fun _ => e⟩
  rwa [filter_tt] at this

theorem compTurn_two0 (elt t0 i0 : Expr) (f0 : List Expr) (g1 : Comprehension) (i1 : g1.is_async = 0) (scope : Scope) (pos : Pos) (it acc : Value) (env : Env) :
    compTurn (.ListComp elt [⟨t0, i0, f0, 0⟩, g1] scope pos) 0 it acc env = (do
      standAt i0.pos
      match ← pyNext it with
      | none => pure (.done .next)
      | some v =>
        letOwnedTupleGo t0 it v
        assign t0 env v
        let mut ok := true
        for c in f0 do
          if ok then ok ← isTrue c env (eval c env)
        if ok then
          (do
            let x ← eval g1.iter env
            standAt g1.iter.pos
            let x ← foldedSetIterable g1.iter env x
            let _ ← runOwn (.compStart (.ListComp elt [⟨t0, i0, f0, 0⟩, g1] scope pos) 1 (← holding [x] (pyIter x)) acc env) env)
        again (.compLoop (.ListComp elt [⟨t0, i0, f0, 0⟩, g1] scope pos) 0 it acc env)) := by
  obtain ⟨t1, it1, f1, as⟩ := g1
  subst i1
  have e : compTurn (.ListComp elt [⟨t0, i0, f0, 0⟩, ⟨t1, it1, f1, 0⟩] scope pos) 0 it acc env = (do
      standAt i0.pos
      match ← pyNext it with
      | none => pure (.done .next)
      | some v =>
        letOwnedTupleGo t0 it v
        assign t0 env v
        let mut ok := true
        for c in f0 do
          if ok then ok ← isTrue c env (eval c env)
        if ok then
          let x ← eval it1 env
          standAt it1.pos
          let x ← foldedSetIterable it1 env x
          let _ ← runOwn (.compStart (.ListComp elt [⟨t0, i0, f0, 0⟩, ⟨t1, it1, f1, 0⟩] scope pos) 1 (← holding [x] (pyIter x)) acc env) env
        again (.compLoop (.ListComp elt [⟨t0, i0, f0, 0⟩, ⟨t1, it1, f1, 0⟩] scope pos) 0 it acc env)) := rfl
  rw [e]
  simp only [bind_assoc, pure_bind]

theorem compTurn_two1 (elt t0 i0 t1 i1 : Expr) (f0 f1 : List Expr) (scope : Scope) (pos : Pos) (it acc : Value) (env : Env) :
    compTurn (.ListComp elt [⟨t0, i0, f0, 0⟩, ⟨t1, i1, f1, 0⟩] scope pos) 1 it acc env = (do
      standAt i1.pos
      match ← pyNext it with
      | none => pure (.done .next)
      | some v =>
        letOwnedTupleGo t1 it v
        assign t1 env v
        let mut ok := true
        for c in f1 do
          if ok then ok ← isTrue c env (eval c env)
        if ok then
          (do let _ ← call (.builtin "list.append") [acc, ← eval elt env])
        again (.compLoop (.ListComp elt [⟨t0, i0, f0, 0⟩, ⟨t1, i1, f1, 0⟩] scope pos) 1 it acc env)) := by rfl

theorem compStart1 {prog : Program} {w : World} {A : Around} {R : Result → Shared → Prop} {s : Shared} {elt : Expr} {g0 : Comprehension} {t1 i1 : Expr} {f1 : List Expr} {scope : Scope} {pos : Pos} {it acc : Value} {env : Env}
    (h0 : codeAny (model prog w) A (.compLoop (.ListComp elt [g0, ⟨t1, i1, f1, 0⟩] scope pos) 1 it acc env) R s)
    (h : wpAny (model prog w) A (pyIter it) (fun it' s' => codeAny (model prog w) A (.compLoop (.ListComp elt [g0, ⟨t1, i1, f1, 0⟩] scope pos) 1 it' acc env) R s')
      (notedBy (model prog w) A env fun x s' => R (.error x) s') s) :
    codeAny (model prog w) A (.compStart (.ListComp elt [g0, ⟨t1, i1, f1, 0⟩] scope pos) 1 it acc env) R s := by
  refine codeAny_of_tree ?_
  show wpAny _ _ ((compStart (.ListComp elt [g0, ⟨t1, i1, f1, 0⟩] scope pos) 1 it acc env).onRaise (fun x => do noteFrame x env; standAt theWindowsPlace)) _ _ s
  refine wpAny_notedAt ?_
  unfold compStart
  show wpAny _ _ (ask >>= _) _ _ s
  refine wpAny_bind (wpAny_askSetting (wpAny_ite ?_))
  split
  · first
      | exact wpAny_bind (wpAny_pure (wpAny_pure (And.intro rfl h0)))
      | exact wpAny_pure (And.intro rfl h0)
  · first
      | exact wpAny_bind (wpAny_rule (wpAny_bind (wpAny_standAt (wpAny_bind (wpAny_mono h (fun it' s' h' => wpAny_pure (And.intro rfl h')) fun _ _ x => x)))))
      | (refine wpAny_bind (wpAny_rule ?_); show wpAny _ _ (standAt i1.pos >>= _) _ _ s; exact wpAny_bind (wpAny_standAt (wpAny_bind (wpAny_mono h (fun it' s' h' => wpAny_pure (And.intro rfl h')) fun _ _ x => x))))

/-- the inner of two clauses -/
theorem emit_inner {α : Type} (enc : α → PyData) {D : Addr} {ρ2 : PS} {elt t0 i0 t1 i1 : Expr} {f0 : List Expr} {scope : Scope} {pos : Pos} {ds : List α} (f : α → PyData) (hY : Y D) (gD : c.g.get? D = none) (sb : Sub ρ2 ρ) (hi : EvI c A env ρ i1 (ds.map enc))
    (turn : ∀ d ∈ ds, ∃ β, Sub ρ (β ++ ρ) ∧ Tgt c A env t1 (enc d) β ∧ EvE c A env (β ++ ρ) elt (f d)) (hs : ∀ x, foldedSetIterable i1 env x = pure x := by intro _; rfl) :
    EmitOk c A env Y D ρ ρ2 (do
            let x ← eval i1 env
            standAt i1.pos
            let x ← foldedSetIterable i1 env x
            let _ ← runOwn (.compStart (.ListComp elt [⟨t0, i0, f0, 0⟩, ⟨t1, i1, [], 0⟩] scope pos) 1 (← holding [x] (pyIter x)) (.ref D) env) env) (ds.map f) := fun h outs H l sz tk E => by
  refine wpAny_bind (wpAny_mono (hi Y No h H tk E (fun it s₂ => wpAny c.M A (runOwn (.compStart (.ListComp elt [⟨t0, i0, f0, 0⟩, ⟨t1, i1, [], 0⟩] scope pos) 1 it (.ref D) env) env) (fun _ s' => ∃ h' tk', s' = c.St h' tk' ∧ Abs c env Y No h' ρ2 ∧ LAt Y h' D (outs ++ ds.map f) ∧ Kx (fun a => Wr env No a ∨ a = D) h h') E s₂) fun I fp wr P St h1 h2 tk2 k1 X => ?_)
    (fun x s₁ h₁ => ?_) fun _ _ e => e)
  rotate_left
  · refine wpAny_bind (wpAny_standAt (wpAny_bind (wpAny_of_eq (hs x) (wpAny_bind (wpAny_holding (wpAny_mono h₁ (fun it s₂ h₂ => ?_) fun _ _ e => e))))))
    exact wpAny_bind (wpAny_mono h₂ (fun _ s' q => wpAny_pure q) fun _ _ e => e)
  refine wpAny_runOwn (h := none) ?_
  have H2 := (H.tr k1).tr X.kp
  have k12 : Kp h h2 := k1.trans X.kp
  have ls : LS c A env Y D h2 (ds.map enc) I fp wr P St := ⟨X.W, X.st, fun b hb => ⟨(X.fpo b hb).1, (X.fpo b hb).2.1, fun e => X.fy b hb (e ▸ .inl hY), (X.fpo b hb).2.2⟩,
    fun b hb => ⟨fun y => X.fy b (X.W.sub b hb) (.inl y), (H.tr k1).kp.back (X.new b hb)⟩, X.dom, X.nl, X.lg, fun i v d hv hd => (X.val i v d hv hd).kp X.kp⟩
  have l2 : LAt Y h2 D outs := let ⟨vs, n, e, r⟩ := l; ⟨vs, n, k12 _ _ e, r.kp k12⟩
  have run : codeAny c.M (A.mark none) (.compLoop (.ListComp elt [⟨t0, i0, f0, 0⟩, ⟨t1, i1, [], 0⟩] scope pos) 1 (.ref I) (.ref D) env) (fun r s' => match r with
      | .ok _ => ∃ h' tk', s' = c.St h' tk' ∧ Abs c env Y No h' ρ2 ∧ LAt Y h' D (outs ++ ds.map f) ∧ Kx (fun a => Wr env No a ∨ a = D) h h'
      | .error e => cameBackBy c.M A env E e s') (c.St h2 tk2) := by
    show codeAny c.M A _ _ _
    refine comp_loopM enc (fun _ => true) (fun d => [f d]) (compTurn_two1 ..) ls hY gD H2 l2 ?_ (fun d hd => ?_) fun h' tk' H' l' kk dm => ⟨h', tk', rfl, H'.weak sb, ?_, ?_⟩
    · rw [flatMap_one, filter_tt]; exact sz
    · obtain ⟨β, sb', T, x⟩ := turn d hd
      exact ⟨β, sb', T, ts_nil, fun _ => emit_append hY gD sb' x⟩
    · rw [flatMap_one, filter_tt] at l'; exact l'
    · have nw : ∀ b, h.get? b ≠ none → b ∉ wr := fun b q m => (k1.dom q) (X.new b m)
      refine ⟨fun b o nb e => kk b o (fun w => ?_) (k12 _ _ e), fun b q => dm b (nw b q) (k12.dom q)⟩
      rcases w with w | w | w
      · exact nb (.inl w)
      · exact nb (.inr w)
      · exact nw b (by rw [e]; simp) w
  exact compStart1 run (X.W.self 0 _ _ _ X.st run)

theorem cl_two {α γ : Type} (enc : α → PyData) (enc2 : γ → PyData) {elt t0 i0 t1 i1 : Expr} {scope : Scope} {pos : Pos} {ds : List α} {ρ2 : PS} (ds2 : α → List γ) (f : α → γ → PyData) (sz : (ds.flatMap fun d => (ds2 d).map (f d)).length ≤ sizeLine)
    (turn : ∀ d ∈ ds, ∃ β, Sub ρ2 (β ++ ρ2) ∧ Tgt c A env t0 (enc d) β ∧ EvI c A env (β ++ ρ2) i1 ((ds2 d).map enc2) ∧ ∀ e ∈ ds2 d, ∃ β', Sub (β ++ ρ2) (β' ++ (β ++ ρ2)) ∧ Tgt c A env t1 (enc2 e) β' ∧ EvE c A env (β' ++ (β ++ ρ2)) elt (f d e))
    (hs : ∀ x, foldedSetIterable i1 env x = pure x := by intro _; rfl) :
    CLoop c A env (.ListComp elt [⟨t0, i0, [], 0⟩, ⟨t1, i1, [], 0⟩] scope pos) ρ2 (ds.map enc) (ds.flatMap fun d => (ds2 d).map (f d)) := fun Y D I fp wr P St hs' tk R L hY gD H l0 k => by
  refine comp_loopM enc (fun _ => true) (fun d => (ds2 d).map (f d)) (outs0 := []) (compTurn_two0 elt t0 i0 [] ⟨t1, i1, [], 0⟩ rfl ..) L hY gD H l0 ?_ (fun d hd => ?_) fun h' tk' H' l' kk dm => k h' tk' H' (by rw [filter_tt, List.nil_append] at l'; exact l') kk dm
  · rw [filter_tt]; simpa using sz
  · obtain ⟨β, sb, T, hi, x⟩ := turn d hd
    exact ⟨β, sb, T, ts_nil, fun _ => emit_inner enc2 (f d) hY gD sb hi x hs⟩

/-- a comprehension as a value -/
theorem en_comp {elt tgt iter : Expr} {ifs : List Expr} {rs : List Comprehension} {scope : Scope} {pos : Pos} {ds outs : List PyData} (ρ2 : PS) (hi : EvI c A env ρ iter ds) (so : EnvOk c env → ScOk scope env)
    (cap : ∀ x pv, ρ2.lookup x = some pv → ∃ d, pv = .imm d ∧ ρ.lookup x = some (.imm d) ∧ scope.names.lookup x = some .free)
    (loop : ∀ cenv, InC scope cenv → CLoop c A cenv (.ListComp elt (⟨tgt, iter, ifs, 0⟩ :: rs) scope pos) ρ2 ds outs)
    (hs : ∀ x, foldedSetIterable iter env x = pure x := by intro _; rfl) : EvN c A env ρ (.ListComp elt (⟨tgt, iter, ifs, 0⟩ :: rs) scope pos) outs := fun Y O h H tk E => by
  rw [eval_ListComp]
  refine comp_core (use := none) H hi (so H.ok) cap loop (fun C D h' tk' m' vs n kh c0 d0 ne n5 e5 r5 => ?_) hs
  refine ⟨m', n5, fun h2 s2 => ⟨h2, tk', rfl, fun b o e => s2.extBut b o (fun q => by rw [q, c0] at e; cases e) (kh b o e), D, vs, n, rfl, d0, s2.extBut _ _ (Ne.symm ne) e5, ?_⟩⟩
  refine r5.of fun a vs n hx e => ⟨hx, n, s2.extBut _ _ ?_ e⟩
  rintro rfl
  obtain ⟨o, es, ep, q, d, _⟩ := n5
  rw [show (c.St h' tk').heap.get? a = some o from q] at e; cases e; cases d

/-- x = [..], where the store comes ahead of the clauses' names' going -/
theorem ex_comp {x : Str} {px spos : Pos} {elt tgt iter : Expr} {ifs : List Expr} {rs : List Comprehension} {scope : Scope} {pos : Pos} {ds outs : List PyData} (ρ2 : PS) (hx : Ow env x) (hi : EvI c A env ρ iter ds) (so : EnvOk c env → ScOk scope env)
    (cap : ∀ x pv, ρ2.lookup x = some pv → ∃ d, pv = .imm d ∧ ρ.lookup x = some (.imm d) ∧ scope.names.lookup x = some .free)
    (loop : ∀ cenv, InC scope cenv → CLoop c A cenv (.ListComp elt (⟨tgt, iter, ifs, 0⟩ :: rs) scope pos) ρ2 ds outs)
    (k : ExecS c A env ((x, .own outs) :: ρ) rest Post)
    (hsw : swapsWith (.ListComp elt (⟨tgt, iter, ifs, 0⟩ :: rs) scope pos) (some (.Name x px)) spos.line env = pure true)
    (hs : ∀ x, foldedSetIterable iter env x = pure x := by intro _; rfl) : ExecS c A env ρ (.Assign [.Name x px] (.ListComp elt (⟨tgt, iter, ifs, 0⟩ :: rs) scope pos) spos :: rest) Post := by
  refine ex_cons fun Y O h H tk E => ?_
  rw [exec_Assign_Name_used _ _ _ _ hsw]
  refine wpAny_bind (wpAny_standAt (wpAny_bind ?_))
  show wpAny _ A (do let _ ← comprehension (.ListComp elt (⟨tgt, iter, ifs, 0⟩ :: rs) scope pos) scope env _ (newList []) false (eval iter env) (some (assign (.Name x px) env))) _ _ _
  refine wpAny_bind (wpAny_mono (comp_core (use := some (assign (.Name x px) env)) (Q := fun _ s' => ∃ h' tk', s' = c.St h' tk' ∧ ∃ O' ρ' r, Stp env O h O' h' ∧ Abs c env Y O' h' ρ' ∧ Fl (Yo Y O') h' .next r ∧ Then c A env rest Post r ρ') H hi (so H.ok) cap loop (fun C D h' tk' m' vs n kh c0 d0 ne n5 e5 r5 => ?_) hs) (fun _ s' q => wpAny_pure (wpAny_pure q)) fun _ _ e => e)
  show wpAny c.M A (assign (.Name x px) env (.ref D)) _ E (c.St h' tk')
  refine wpAny_assign_Name (st_own H hx kh d0 e5 r5 fun h2 tk2 H2 S2 S3 => ?_)
  have hC : ∀ b, Wr env O b → b ≠ C := fun b w e => wr_dom H w (e ▸ c0)
  have cn : h'.get? C ≠ none := by obtain ⟨o, es, ep, q, _⟩ := n5; rw [q]; simp
  have H1 := H.grow d0 kh (by rw [e5]; simp)
  -- the block's names stand still
  have nw : ¬ Wr env (fun b => O b ∨ b = D) C := fun w => by
    rcases w with w | w | w | w
    · exact hC C (.inl w) rfl
    · exact hC C (.inr (.inl w)) rfl
    · exact hC C (.inr (.inr w)) rfl
    · exact ne w
  have n2 : h2.Ns C m' := n5.at' fun o e => S3.kx.1 _ o nw e
  refine ⟨m', n2, fun h3 s3 => ⟨h3, tk2, rfl, _, _, none, ?_, H2.other (wr := [C]) (fun b o nb e => s3.extBut b o (fun q => nb (by simp [q])) e) ?_, .next, k⟩⟩
  · refine ⟨⟨fun b o nb e => s3.extBut b o (fun q => by rw [q, c0] at e; cases e) (S2.kx.1 b o nb e), fun b q => ?_⟩, S2.own⟩
    have : b ≠ C := fun e => q (e ▸ c0)
    rw [s3.2 b this]; exact S2.kx.2 b q
  · intro b hb
    rw [List.mem_singleton] at hb
    subst hb
    refine ⟨fun y => H.ydom _ y c0, ⟨nw, fun x q => cell_dom H q c0⟩, H.kp.back c0, fun vs n e => ?_⟩
    obtain ⟨o, es, ep, q, d, _⟩ := n2
    rw [q] at e; cases e; cases d

abbrev CapOk (ρ2 ρ : PS) (S : Scope) : Prop := ∀ x pv, ρ2.lookup x = some pv → ∃ d, pv = .imm d ∧ ρ.lookup x = some (.imm d) ∧ S.names.lookup x = some .free
theorem cap_nil {S : Scope} : CapOk [] ρ S := fun x pv e => by simp at e
theorem cap_cons {S : Scope} {x : Str} {d : PyData} {ρ2 : PS} (l : ρ.lookup x = some (.imm d)) (f : S.names.lookup x = some .free) (k : CapOk ρ2 ρ S) : CapOk ((x, .imm d) :: ρ2) ρ S := fun y pv e => by
  rw [List.lookup_cons] at e
  by_cases q : y = x
  · subst q; rw [beq_self_eq_true] at e; cases e; exact ⟨d, rfl, l, f⟩
  · rw [show (y == x) = false by simpa using q] at e; exact k y pv e

theorem sub_nil {ρ : PS} : Sub [] ρ := fun x pv e => by simp at e
theorem sub_cons {x : Str} {v : PV} {ρ ρ' : PS} (l : ρ.lookup x = some v) (s : Sub ρ' ρ) : Sub ((x, v) :: ρ') ρ := fun y pv e => by
  rw [List.lookup_cons] at e
  by_cases q : y = x
  · subst q; rw [beq_self_eq_true] at e; cases e; exact l
  · rw [show (y == x) = false by simpa using q] at e; exact s y pv e
theorem sub_skip {x : Str} {v : PV} {ρ ρ' : PS} (n : List.lookup x ρ' = none) (s : Sub ρ' ρ) : Sub ρ' ((x, v) :: ρ) := fun y pv e => by
  rw [List.lookup_cons]
  by_cases q : y = x
  · subst q; rw [n] at e; cases e
  · rw [show (y == x) = false by simpa using q]; exact s y pv e
theorem Sub.refl (ρ : PS) : Sub ρ ρ := fun _ _ e => e
end
end Mine


open PySem PySem.W PyProof.Rows PySem.Calls PySem.Spec
set_option Elab.async false
set_option maxRecDepth 100000
set_option linter.unusedVariables false
set_option linter.unusedSimpArgs false
namespace Mine

/-- an iterator of any kind -/
structure WG (c : Cx) (A : Around) (I : Addr) (fp wr : List Addr) (n : Nat) (St : Nat → Heap → Prop) : Prop where
  sub : ∀ b ∈ wr, b ∈ fp
  frame : ∀ i h h', St i h → (∀ b ∈ fp, ∀ o, h.get? b = some o → h'.get? b = some o) → St i h'
  done : ∀ h tk (Q : Option Value → Shared → Prop) (E : Value → Shared → Prop), St n h → (∀ h' tk', (∀ b o, b ∉ wr → h.get? b = some o → h'.get? b = some o) → Q none (c.St h' tk')) → wpAny c.M A (pyNext (.ref I)) Q E (c.St h tk)
  self : ∀ i h tk (Q : Value → Shared → Prop) (E : Value → Shared → Prop), St i h → Q (.ref I) (c.St h tk) → wpAny c.M A (pyIter (.ref I)) Q E (c.St h tk)
  dom : ∀ i h, St i h → ∀ b ∈ wr, h.get? b ≠ none
  nl : ∀ i h, St i h → ∀ b ∈ wr, ∀ vs n, h.get? b ≠ some { cls := .type "list", data := .seq vs n }

structure SrcG (c : Cx) (A : Around) (env : Env) (Y O : Addr → Prop) (h1 h2 : Heap) (n : Nat) (I : Addr) (fp wr : List Addr) (St : Nat → Heap → Prop) : Prop where
  W : WG c A I fp wr n St
  st : St 0 h2
  kp : Kp h1 h2
  new : ∀ b ∈ wr, h1.get? b = none
  fpo : ∀ b ∈ fp, h2.get? b ≠ none ∧ ¬ Wr env O b ∧ ∀ x, env.cells.lookup x ≠ some b
  fy : ∀ b ∈ fp, ¬ Yo Y O b

structure LSG (c : Cx) (A : Around) (env : Env) (Y : Addr → Prop) (D : Addr) (hs : Heap) (n : Nat) (I : Addr) (fp wr : List Addr) (St : Nat → Heap → Prop) : Prop where
  W : WG c A I fp wr n St
  st : St 0 hs
  fpo : ∀ b ∈ fp, hs.get? b ≠ none ∧ ¬ Wr env No b ∧ b ≠ D ∧ ∀ x, env.cells.lookup x ≠ some b
  wr' : ∀ b ∈ wr, ¬ Y b ∧ c.g.get? b = none

/-- the next one is taken and bound -/
def NX (c : Cx) (A : Around) (env : Env) (Y : Addr → Prop) (tgt : Expr) (I : Addr) (wr : List Addr) (St : Nat → Heap → Prop) (ρ2 : PS) (i : Nat) (β : PS) : Prop :=
  ∀ h' tk' E, St i h' → Abs c env Y No h' ρ2 → wpAny c.M A (pyNext (.ref I)) (fun r s₁ => match r with
    | none => False
    | some v => wpAny c.M A (letOwnedTupleGo tgt (.ref I) v) (fun _ s₂ => wpAny c.M A (assign tgt env v) (fun _ s₃ => ∃ h4 tk4, s₃ = c.St h4 tk4 ∧ Abs c env Y No h4 (β ++ ρ2) ∧ St (i + 1) h4 ∧
        (∀ b o, ¬ (Wr env No b ∨ b ∈ wr) → h'.get? b = some o → h4.get? b = some o) ∧ (∀ b, h'.get? b ≠ none → h4.get? b ≠ none)) E s₂) E s₁) E (c.St h' tk')

section
variable {c : Cx} {A : Around} {env : Env} {ρ ρ' : PS} {Y O O' : Addr → Prop} {h h' h'' : Heap} {Post : Option PyData → PS → Prop} {rest : List Stmt}

theorem comp_loopG {α : Type} {elt : Expr} {gens : List Comprehension} {scope : Scope} {pos : Pos} {dp : Nat} {tgt : Expr} {pos1 : Pos} {emit : Sem Unit} {I D : Addr} {fp wr : List Addr} {St : Nat → Heap → Prop} {hs : Heap} {tk : Nat} {xs : List α} {R : Result → Shared → Prop} {ρ2 : PS}
    (g : α → PyData)
    (ht : compTurn (.ListComp elt gens scope pos) dp (.ref I) (.ref D) env = (do
      standAt pos1
      match ← pyNext (.ref I) with
      | none => pure (.done .next)
      | some v =>
        letOwnedTupleGo tgt (.ref I) v
        assign tgt env v
        let mut ok := true
        for c in ([] : List Expr) do
          if ok then ok ← isTrue c env (eval c env)
        if ok then emit
        again (.compLoop (.ListComp elt gens scope pos) dp (.ref I) (.ref D) env)))
    (L : LSG c A env Y D hs xs.length I fp wr St) (hY : Y D) (gD : c.g.get? D = none) (H : Abs c env Y No hs ρ2) (l0 : LAt Y hs D []) (sz : xs.length ≤ sizeLine)
    (turn : ∀ i d, xs[i]? = some d → ∃ β, Sub ρ2 (β ++ ρ2) ∧ NX c A env Y tgt I wr St ρ2 i β ∧ EmitOk c A env Y D (β ++ ρ2) ρ2 emit [g d])
    (k : ∀ h' tk', Abs c env Y No h' ρ2 → LAt Y h' D (xs.map g) → (∀ b o, ¬ (Wr env No b ∨ b = D ∨ b ∈ wr) → hs.get? b = some o → h'.get? b = some o) → (∀ b, b ∉ wr → hs.get? b ≠ none → h'.get? b ≠ none) → R (.ok .next) (c.St h' tk')) :
    codeAny c.M A (.compLoop (.ListComp elt gens scope pos) dp (.ref I) (.ref D) env) R (c.St hs tk) := by
  have gl : ∀ i d, xs[i]? = some d → (xs.take (i + 1)).map g = (xs.take i).map g ++ [g d] := fun i d hd => by
    rw [List.take_add_one, hd, List.map_append]; rfl
  refine codeAny_loop (M := c.M) rfl (fun n s => ∃ i h' tk', s = c.St h' tk' ∧ i ≤ xs.length ∧ n = xs.length - i ∧ St i h' ∧ Abs c env Y No h' ρ2 ∧ LAt Y h' D ((xs.take i).map g) ∧
    (∀ b o, ¬ (Wr env No b ∨ b = D ∨ b ∈ wr) → hs.get? b = some o → h'.get? b = some o) ∧ (∀ b, hs.get? b ≠ none → h'.get? b ≠ none)) ?_ xs.length
    ⟨0, hs, tk, rfl, Nat.zero_le _, rfl, L.st, H, by simpa using l0, fun b o _ e => e, fun b q => q⟩
  rintro n s ⟨i, h', tk', rfl, hi', rfl, st, H', lD, kw, dm⟩
  show wpAny _ A ((compTurn (.ListComp elt gens scope pos) dp (.ref I) (.ref D) env).onRaise (fun x => do noteFrame x env; theTreesLotGoes x)) _ _ _
  refine wpAny_noted ?_
  rw [ht]
  have apart : ∀ b ∈ wr, ¬ Y b ∧ (¬ Wr env No b ∧ ∀ x, env.cells.lookup x ≠ some b) ∧ c.g.get? b = none ∧ ∀ vs n, h'.get? b ≠ some { cls := .type "list", data := .seq vs n } := fun b hb =>
    ⟨(L.wr' b hb).1, ⟨(L.fpo b (L.W.sub b hb)).2.1, (L.fpo b (L.W.sub b hb)).2.2.2⟩, (L.wr' b hb).2, fun vs n => L.W.nl i h' st b hb vs n⟩
  have Dw : D ∉ wr := fun m => (L.fpo D (L.W.sub D m)).2.2.1 rfl
  by_cases hlt : i < xs.length
  · obtain ⟨d, hd⟩ : ∃ d, xs[i]? = some d := ⟨_, List.getElem?_eq_getElem hlt⟩
    obtain ⟨β, sb, nx, EM⟩ := turn i d hd
    refine wpAny_bind (wpAny_standAt (wpAny_bind (wpAny_mono (nx h' tk' _ st H') (fun r s₁ hr => ?_) fun _ _ e => e)))
    cases r with
    | none => exact hr.elim
    | some v =>
    refine wpAny_bind (wpAny_mono hr (fun _ s₂ h₂ => wpAny_bind (wpAny_mono h₂ (fun _ s₃ h₃ => ?_) fun _ _ e => e)) fun _ _ e => e)
    obtain ⟨h4, tk4, rfl, H4, st4, k4, dm4⟩ := h₃
    refine wpAny_bind (wpAny_tests_nil ?_)
    have l4 : LAt Y h4 D ((xs.take i).map g) := by
      obtain ⟨vs, n, e, r⟩ := lD
      exact ⟨vs, n, k4 _ _ (fun w => w.elim (fun w => wr0_list H' w e) Dw) e, r.of fun a vs n hx e => ⟨hx, n, k4 _ _ (fun w => w.elim (fun w => wr0_list H' w e) fun m => L.W.nl i h' st a m _ _ e) e⟩⟩
    have lx : ((xs.take i).map g).length + 1 ≤ sizeLine := by rw [List.length_map, List.length_take]; omega
    refine wpAny_bind ((EM h4 _ H4 l4 lx).wp fun _ h6 tk6 p6 => ?_)
    refine wpAny_pure ⟨rfl, xs.length - (i + 1), by omega, i + 1, h6, tk6, rfl, hlt, rfl, ?_, p6.1, by rw [gl i d hd]; exact p6.2.1, fun b o nb e => ?_, fun b q => p6.2.2.2 b (dm4 b (dm b q))⟩
    · exact L.W.frame _ _ _ st4 fun b hb o e => p6.2.2.1 b o (fun w => w.elim (L.fpo b hb).2.1 (L.fpo b hb).2.2.1) e
    · exact p6.2.2.1 b o (fun w => nb (w.imp_right .inl)) (k4 b o (fun w => nb (w.imp_right .inr)) (kw b o nb e))
  · have hi2 : i = xs.length := by omega
    subst hi2
    refine wpAny_bind (wpAny_standAt (wpAny_bind (L.W.done _ _ _ _ st fun h3 tk3 k3 => ?_)))
    refine wpAny_pure (k h3 tk3 (H'.other k3 apart) ?_ (fun b o nb e => k3 b o (fun m => nb (.inr (.inr m))) (kw b o nb e)) fun b nb q => ?_)
    · rw [List.take_length] at lD
      obtain ⟨vs, n, e, r⟩ := lD
      exact ⟨vs, n, k3 _ _ Dw e, r.of fun a vs n hx e => ⟨hx, n, k3 _ _ (fun m => L.W.nl _ h' st a m _ _ e) e⟩⟩
    · cases e : h'.get? b with
      | none => exact absurd e (dm b q)
      | some o => rw [k3 b o nb e]; simp

theorem comp_coreG {elt tgt iter : Expr} {ifs : List Expr} {rest : List Comprehension} {scope : Scope} {pos pos' : Pos} {use : Option (Value → Sem Unit)} {Q : Value → Shared → Prop} {E : Value → Shared → Prop} {tk : Nat} {n0 : Nat} {outs : List PyData} {Z : Addr → List Addr → List Addr → (Nat → Heap → Prop) → Heap → Prop} {ρ2 : PS}
    (H : Abs c env Y O h ρ) (hi : ∀ tk E (Q : Value → Shared → Prop), (∀ I fp wr St h1 h2 tk2, Kp h h1 → SrcG c A env Y O h1 h2 n0 I fp wr St → Z I fp wr St h2 → Q (.ref I) (c.St h2 tk2)) → wpAny c.M A (eval iter env) (fun x s₁ => wpAny c.M A (pyIter x) Q E s₁) E (c.St h tk)) (so : ScOk scope env)
    (cap : ∀ x pv, ρ2.lookup x = some pv → ∃ d, pv = .imm d ∧ ρ.lookup x = some (.imm d) ∧ scope.names.lookup x = some .free)
    (loop : ∀ cenv Y2 D I fp wr St h2 hs tk (R : Result → Shared → Prop), InC scope cenv → Z I fp wr St h2 → Kp h2 hs → LSG c A cenv Y2 D hs n0 I fp wr St → Y2 D → c.g.get? D = none → Abs c cenv Y2 No hs ρ2 → LAt Y2 hs D [] →
      (∀ h' tk', Abs c cenv Y2 No h' ρ2 → LAt Y2 h' D outs → (∀ b o, ¬ (Wr cenv No b ∨ b = D ∨ b ∈ wr) → hs.get? b = some o → h'.get? b = some o) → (∀ b, b ∉ wr → hs.get? b ≠ none → h'.get? b ≠ none) → R (.ok .next) (c.St h' tk')) →
      codeAny c.M A (.compLoop (.ListComp elt (⟨tgt, iter, ifs, 0⟩ :: rest) scope pos) 0 (.ref I) (.ref D) cenv) R (c.St hs tk))
    (fin : ∀ C D h' tk' m' vs n, Kp h h' → h.get? C = none → h.get? D = none → C ≠ D → h'.Ns C m' → h'.get? D = some { cls := .type "list", data := .seq vs.toArray n } → RpA (fun b => Yo Y O b ∨ b = D) h' vs outs →
      compPost c.M A E use Q (.ref D) C (.ok .next) (c.St h' tk'))
    (hs : ∀ x, foldedSetIterable iter env x = pure x := by intro _; rfl) :
    wpAny c.M A (comprehension (.ListComp elt (⟨tgt, iter, ifs, 0⟩ :: rest) scope pos) scope env pos' (newList []) false (eval iter env) use) Q E (c.St h tk) := by
  have hcl : closureFor scope env = pure (closL env scope.names []) := closureFor_eq fun p m q => H.ok.has _ (so.free p m q)
  refine wpAny_comprehension_free rfl hs hcl so.kind (fun x m e => by rw [so.uniq x m, e]) (hi tk E _ fun I fp wr St h1 h2 tk2 k1 X hz => ?_)
  refine wpAny_newList ?_
  show wpAny c.M A _ _ _ (c.St (h2.push { cls := .type "list", data := .seq ([] : List Value).toArray }) tk2)
  refine wp_newFE ?_
  have H1 := H.tr k1
  have H2 := H1.tr X.kp
  have dn : h2.get? h2.objs.size = none := get?_size _
  have k3 : Kp h2 (h2.push { cls := .type "list", data := .seq ([] : List Value).toArray }) := Kp.push _ _
  have e3 : (h2.push { cls := .type "list", data := .seq ([] : List Value).toArray }).get? h2.objs.size = some { cls := .type "list", data := .seq ([] : List Value).toArray } := Heap.get?_push_size _ rfl
  have s3 : (h2.push { cls := .type "list", data := .seq ([] : List Value).toArray }).objs.size = h2.objs.size + 1 := Heap.size_push ..
  generalize h2.push { cls := .type "list", data := .seq ([] : List Value).toArray } = h3 at k3 e3 s3 ⊢
  obtain ⟨ic, H4⟩ := comp_abs (cenv := { scope := relabel scope env, locals := h3.objs.size, globals := env.globals, cells := cellsFrom (h3.objs.size + 1) scope.names (closL env scope.names []), qual := env.qual, func := none, code := env.code, frame := env.frame, builtins := env.builtins }) H2 dn k3 (by rw [e3]; simp) so rfl cap
  have k4 : Kp h3 (pushCells (h3.push { cls := .type "dict", data := .dict #[] }) scope.names) := fun b o e => pushCells_keeps _ _ _ _ (Heap.get?_push_of_some _ e)
  generalize hce : ({ scope := relabel scope env, locals := h3.objs.size, globals := env.globals, cells := cellsFrom (h3.objs.size + 1) scope.names (closL env scope.names []), qual := env.qual, func := none, code := env.code, frame := env.frame, builtins := env.builtins } : Env) = cenv at ic H4
  have hloc : cenv.locals = h3.objs.size := by subst hce; rfl
  generalize pushCells (h3.push { cls := .type "dict", data := .dict #[] }) scope.names = h4 at H4 k4 ⊢
  show codeAny c.M A (.compStart _ 0 (.ref I) (.ref h2.objs.size) cenv) (compPost c.M A E use Q (.ref h2.objs.size) h3.objs.size) _
  have k24 : Kp h2 h4 := k3.trans k4
  -- own places of the block are new
  have wn : ∀ b : Nat, Wr cenv No b → h3.objs.size ≤ b := fun b w => by
    rcases w with w | ⟨x, _, w⟩ | w
    · rw [w, hloc]; exact Nat.le_refl _
    · rw [hloc] at w; exact Nat.le_of_lt w
    · exact w.elim
  have lt2 : ∀ b : Nat, h2.get? b ≠ none → b < h2.objs.size := fun b q => by
    cases e : h2.get? b with
    | none => exact absurd e q
    | some o => exact Heap.lt_size e
  have st4 : St 0 h4 := X.W.frame _ _ _ X.st fun b _ o e => k24 b o e
  have ls : LSG c A cenv (fun b => Yo Y O b ∨ b = h2.objs.size) h2.objs.size h4 n0 I fp wr St := by
    refine ⟨X.W, st4, fun b hb => ?_, fun b hb => ?_⟩
    · have l := lt2 b (X.fpo b hb).1
      refine ⟨k24.dom (X.fpo b hb).1, fun w => Nat.lt_irrefl _ (Nat.lt_of_lt_of_le l (Nat.le_trans (Nat.le_of_lt (by rw [s3]; exact Nat.lt_succ_self _)) (wn b w))), Nat.ne_of_lt l, fun x q => ?_⟩
      have l4 : ∀ x a, cenv.cells.lookup x = some a → (env.cells.lookup x = some a) ∨ h3.objs.size < a := fun x a q => by
        subst hce
        have m := PySem.mem_of_lookup q
        rw [show h3.objs.size + 1 = (h3.push { cls := .type "dict", data := .dict #[] }).objs.size from (Heap.size_push ..).symm] at m
        rcases cellsFrom_new m with q | ⟨q, _⟩
        · rcases closL_mem q with q | ⟨q, e⟩
          · cases q
          · obtain ⟨b', eb⟩ := H.ok.has x (so.free _ q rfl)
            rw [eb] at e; subst e; exact .inl eb
        · rw [Heap.size_push] at q; exact .inr q
      rcases l4 x b q with q | q
      · exact (X.fpo b hb).2.2 x q
      · have q' : h3.objs.size < (b : Nat) := q
        omega
    · refine ⟨fun y => ?_, H1.kp.back (X.new b hb)⟩
      rcases y with y | y
      · exact yo_none H1 y (X.new b hb)
      · have := lt2 b (X.fpo b (X.W.sub b hb)).1
        exact Nat.ne_of_lt this y
  have run : codeAny c.M A (.compLoop (.ListComp elt (⟨tgt, iter, ifs, 0⟩ :: rest) scope pos) 0 (.ref I) (.ref h2.objs.size) cenv) (compPost c.M A E use Q (.ref h2.objs.size) h3.objs.size) (c.St h4 tk2) := by
    refine loop cenv _ _ I fp wr St h2 h4 tk2 _ ic hz k24 ls (.inr rfl) (H2.kp.back dn) H4 ⟨[], 0, k4 _ _ e3, .nil⟩ fun h5 tk5 H5 l5 kk dm => ?_
    obtain ⟨vs, n, e5, r5⟩ := l5
    obtain ⟨m5, F5, _, _⟩ := H5.vals
    obtain ⟨mL, n5, _⟩ := F5.ns
    rw [hloc] at n5
    refine fin h3.objs.size h2.objs.size h5 tk5 mL vs n (fun b o e => ?_) ?_ ?_ (Nat.ne_of_gt (by omega)) n5 e5 (r5.set fun b q => .inl (.inl q))
    · have e2 : h2.get? b = some o := X.kp _ _ (k1 _ _ e)
      have l : (b : Nat) < h2.objs.size := Heap.lt_size e2
      refine kk b o (fun w => ?_) (k24 _ _ e2)
      rcases w with w | w | w
      · exact Nat.lt_irrefl _ (Nat.lt_of_lt_of_le l (Nat.le_trans (Nat.le_of_lt (by rw [s3]; exact Nat.lt_succ_self _)) (wn b w)))
      · exact Nat.ne_of_lt l w
      · have := X.new b w; rw [k1 _ _ e] at this; cases this
    · exact k1.back (X.kp.back (get?_size_le _ (by omega)))
    · exact k1.back (X.kp.back dn)
  exact codeAny_compStart_list run (X.W.self 0 _ _ _ _ st4 run)
/-- x = [..], where the store comes ahead of the clauses' names' going -/
theorem ex_compG {x : Str} {px spos : Pos} {elt tgt iter : Expr} {ifs : List Expr} {rs : List Comprehension} {scope : Scope} {pos : Pos} {n0 : Nat} {outs : List PyData} {Z : Addr → List Addr → List Addr → (Nat → Heap → Prop) → Heap → Prop} (ρ2 : PS) (hx : Ow env x) (hi : ∀ Y O h, Abs c env Y O h ρ → ∀ tk E (Q : Value → Shared → Prop), (∀ I fp wr St h1 h2 tk2, Kp h h1 → SrcG c A env Y O h1 h2 n0 I fp wr St → Z I fp wr St h2 → Q (.ref I) (c.St h2 tk2)) → wpAny c.M A (eval iter env) (fun x s₁ => wpAny c.M A (pyIter x) Q E s₁) E (c.St h tk)) (so : EnvOk c env → ScOk scope env)
    (cap : ∀ x pv, ρ2.lookup x = some pv → ∃ d, pv = .imm d ∧ ρ.lookup x = some (.imm d) ∧ scope.names.lookup x = some .free)
    (loop : ∀ cenv Y2 D I fp wr St h2 hs tk (R : Result → Shared → Prop), InC scope cenv → Z I fp wr St h2 → Kp h2 hs → LSG c A cenv Y2 D hs n0 I fp wr St → Y2 D → c.g.get? D = none → Abs c cenv Y2 No hs ρ2 → LAt Y2 hs D [] →
      (∀ h' tk', Abs c cenv Y2 No h' ρ2 → LAt Y2 h' D outs → (∀ b o, ¬ (Wr cenv No b ∨ b = D ∨ b ∈ wr) → hs.get? b = some o → h'.get? b = some o) → (∀ b, b ∉ wr → hs.get? b ≠ none → h'.get? b ≠ none) → R (.ok .next) (c.St h' tk')) →
      codeAny c.M A (.compLoop (.ListComp elt (⟨tgt, iter, ifs, 0⟩ :: rs) scope pos) 0 (.ref I) (.ref D) cenv) R (c.St hs tk))
    (k : ExecS c A env ((x, .own outs) :: ρ) rest Post)
    (hsw : swapsWith (.ListComp elt (⟨tgt, iter, ifs, 0⟩ :: rs) scope pos) (some (.Name x px)) spos.line env = pure true)
    (hs : ∀ x, foldedSetIterable iter env x = pure x := by intro _; rfl) : ExecS c A env ρ (.Assign [.Name x px] (.ListComp elt (⟨tgt, iter, ifs, 0⟩ :: rs) scope pos) spos :: rest) Post := by
  refine ex_cons fun Y O h H tk E => ?_
  rw [exec_Assign_Name_used _ _ _ _ hsw]
  refine wpAny_bind (wpAny_standAt (wpAny_bind ?_))
  show wpAny _ A (do let _ ← comprehension (.ListComp elt (⟨tgt, iter, ifs, 0⟩ :: rs) scope pos) scope env _ (newList []) false (eval iter env) (some (assign (.Name x px) env))) _ _ _
  refine wpAny_bind (wpAny_mono (comp_coreG (use := some (assign (.Name x px) env)) (Q := fun _ s' => ∃ h' tk', s' = c.St h' tk' ∧ ∃ O' ρ' r, Stp env O h O' h' ∧ Abs c env Y O' h' ρ' ∧ Fl (Yo Y O') h' .next r ∧ Then c A env rest Post r ρ') H (hi Y O h H) (so H.ok) cap loop (fun C D h' tk' m' vs n kh c0 d0 ne n5 e5 r5 => ?_) hs) (fun _ s' q => wpAny_pure (wpAny_pure q)) fun _ _ e => e)
  show wpAny c.M A (assign (.Name x px) env (.ref D)) _ E (c.St h' tk')
  refine wpAny_assign_Name (st_own H hx kh d0 e5 r5 fun h2 tk2 H2 S2 S3 => ?_)
  have hC : ∀ b, Wr env O b → b ≠ C := fun b w e => wr_dom H w (e ▸ c0)
  have cn : h'.get? C ≠ none := by obtain ⟨o, es, ep, q, _⟩ := n5; rw [q]; simp
  have H1 := H.grow d0 kh (by rw [e5]; simp)
  -- the block's names stand still
  have nw : ¬ Wr env (fun b => O b ∨ b = D) C := fun w => by
    rcases w with w | w | w | w
    · exact hC C (.inl w) rfl
    · exact hC C (.inr (.inl w)) rfl
    · exact hC C (.inr (.inr w)) rfl
    · exact ne w
  have n2 : h2.Ns C m' := n5.at' fun o e => S3.kx.1 _ o nw e
  refine ⟨m', n2, fun h3 s3 => ⟨h3, tk2, rfl, _, _, none, ?_, H2.other (wr := [C]) (fun b o nb e => s3.extBut b o (fun q => nb (by simp [q])) e) ?_, .next, k⟩⟩
  · refine ⟨⟨fun b o nb e => s3.extBut b o (fun q => by rw [q, c0] at e; cases e) (S2.kx.1 b o nb e), fun b q => ?_⟩, S2.own⟩
    have : b ≠ C := fun e => q (e ▸ c0)
    rw [s3.2 b this]; exact S2.kx.2 b q
  · intro b hb
    rw [List.mem_singleton] at hb
    subst hb
    refine ⟨fun y => H.ydom _ y c0, ⟨nw, fun x q => cell_dom H q c0⟩, H.kp.back c0, fun vs n e => ?_⟩
    obtain ⟨o, es, ep, q, d, _⟩ := n2
    rw [q] at e; cases e; cases d

end
end Mine


open PySem PySem.W PyProof.Rows PySem.Calls PySem.Spec
set_option Elab.async false
set_option maxRecDepth 100000
set_option linter.unusedVariables false
set_option linter.unusedSimpArgs false
namespace Mine

abbrev EnSt (I it l : Addr) (items : Array Value) : Nat → Heap → Prop := fun i h => (∃ old, IsEnum h I it i old) ∧ h.IsListIter it l i ∧ h.IsList l items

/-- an enumerate over ints -/
def ZE (ns : List Int) (I : Addr) (fp wr : List Addr) (St : Nat → Heap → Prop) (_ : Heap) : Prop :=
  ∃ (it l : Addr) (items : Array Value), I ≠ it ∧ l ≠ I ∧ l ≠ it ∧ fp = [I, it, l] ∧ wr = [I, it] ∧ St = EnSt I it l items ∧ items.size = ns.length ∧ ∀ (i : Nat) (n : Int), ns[i]? = some n → ∃ t : Tok, items[i]? = some (Value.int n t)

section
variable {c : Cx} {A : Around} {env : Env} {ρ ρ' : PS} {Y O O' : Addr → Prop} {h h' h'' : Heap} {Post : Option PyData → PS → Prop} {rest : List Stmt}

theorem wg_enum (hh : A.handled = none) {I it l : Addr} {items : Array Value} (h1 : I ≠ it) (h2 : l ≠ I) (h3 : l ≠ it) : WG c A I [I, it, l] [I, it] items.size (EnSt I it l items) := by
  have W := WalksT.enumerate (prog := c.prog) (w := c.w) hh I it l h1 h2 h3 items
  refine ⟨W.sub, W.frame, fun h tk Q E st q => W.done (c.St h tk) Q E st fun h' tk' k => q h' tk' k, fun i h tk Q E st q => W.self i (c.St h tk) Q E st q, ?_, ?_⟩
  · intro i h st b hb
    simp only [List.mem_cons, List.not_mem_nil, or_false] at hb
    obtain ⟨⟨old, e1⟩, ⟨o, e2, _⟩, _⟩ := st
    rcases hb with rfl | rfl
    · rw [show h.get? b = _ from e1]; simp
    · rw [e2]; simp
  · intro i h st b hb vs n e
    simp only [List.mem_cons, List.not_mem_nil, or_false] at hb
    obtain ⟨⟨old, e1⟩, ⟨o, e2, hc, _⟩, _⟩ := st
    rcases hb with rfl | rfl
    · rw [show h.get? b = _ from e1] at e; simp at e
    · rw [e2] at e; cases e; simp at hc

theorem gi_enum {x : Str} {p pos : Pos} {e : Expr} {ns : List Int} (hh : A.handled = none) (hf : EvF c A env ρ (.Name x p) (.type "enumerate")) (y : EvE c A env ρ e (.list (ns.map .int)))
    (hs : starEach [e] env = [(false, eval e env)] := by rfl) : ∀ Y O h, Abs c env Y O h ρ → ∀ tk E (Q : Value → Shared → Prop), (∀ I fp wr St h1 h2 tk2, Kp h h1 → SrcG c A env Y O h1 h2 ns.length I fp wr St → ZE ns I fp wr St h2 → Q (.ref I) (c.St h2 tk2)) →
    wpAny c.M A (eval (.Call (.Name x p) [e] [] pos) env) (fun x s₁ => wpAny c.M A (pyIter x) Q E s₁) E (c.St h tk) := fun Y O h H tk E Q k => by
  refine Call_Name1 ((hf Y O h H).wp fun v h1 tk1 q => ?_) hs
  obtain ⟨q1, rfl⟩ := q
  refine PyProof.Rows.callWith_type rfl (evalArgs_plain (spliced_cons ((y Y O h1 (H.tr q1)).wp fun w h2 tk2 q2 => spliced_nil ?_)))
  obtain ⟨a, vs, n, rfl, e1, na, r⟩ := q2.2.list_inv
  have H2 := (H.tr q1).tr q2.1
  refine call_enumerate_list (s := c.St h2 tk2) (isL_of (h := (c.St h2 tk2).heap) e1) fun h3 he hit hsz hk => ?_
  replace hk : Kp h2 h3 := hk
  replace he : IsEnum h3 (h2.objs.size + 1) h2.objs.size 0 .none := he
  replace hit : h3.IsListIter h2.objs.size a 0 := hit
  have H3 := H2.tr hk
  have al : a < h2.objs.size := Heap.lt_size e1
  have n1 : h2.get? (h2.objs.size + 1) = none := get?_size_le h2 (Nat.le_succ _)
  have n0 : h2.get? h2.objs.size = none := get?_size h2
  have w1 : h2.objs.size + 1 ≠ h2.objs.size := Nat.succ_ne_self _
  have w2 : a ≠ h2.objs.size + 1 := Nat.ne_of_lt (Nat.lt_succ_of_lt al)
  have w3 : a ≠ h2.objs.size := Nat.ne_of_lt al
  have e3 := hk _ _ e1
  have st0 : EnSt (h2.objs.size + 1) h2.objs.size a vs.toArray 0 h3 := ⟨⟨_, he⟩, hit, isL_of e3⟩
  show wpAny c.M A (pyIter (.ref (h2.objs.size + 1))) Q E (c.St h3 tk2)
  refine wpAny_pyIter_enum (s := c.St h3 tk2) he ?_
  have W : WG c A _ _ _ vs.toArray.size _ := wg_enum (c := c) hh w1 w2 w3 (items := vs.toArray)
  rw [show vs.toArray.size = ns.length by rw [List.size_toArray, r.length, List.length_map]] at W
  refine k (h2.objs.size + 1) [h2.objs.size + 1, h2.objs.size, a] [h2.objs.size + 1, h2.objs.size] (EnSt (h2.objs.size + 1) h2.objs.size a vs.toArray) h2 h3 tk2 (q1.trans q2.1)
    ⟨W, st0, hk, ?_, ?_, ?_⟩ ⟨h2.objs.size, a, vs.toArray, w1, w2, w3, rfl, rfl, rfl, ?_, ?_⟩
  · intro b hb
    simp only [List.mem_cons, List.not_mem_nil, or_false] at hb
    rcases hb with rfl | rfl
    · exact n1
    · exact n0
  · intro b hb
    simp only [List.mem_cons, List.not_mem_nil, or_false] at hb
    rcases hb with rfl | rfl | rfl
    · exact ⟨by rw [show h3.get? _ = _ from he]; simp, fun w => wr_dom H2 w n1, fun x q => cell_dom H2 q n1⟩
    · exact ⟨by obtain ⟨o, q, _⟩ := hit; rw [q]; simp, fun w => wr_dom H2 w n0, fun x q => cell_dom H2 q n0⟩
    · exact ⟨by rw [e3]; simp, fun w => na (wr_list H2 w e1), fun x q => cell_list H2 q e1⟩
  · intro b hb
    simp only [List.mem_cons, List.not_mem_nil, or_false] at hb
    rcases hb with rfl | rfl | rfl
    · exact H2.fresh n1
    · exact H2.fresh n0
    · exact na
  · rw [List.size_toArray, r.length, List.length_map]
  · intro i m hm
    obtain ⟨v, hv, rv⟩ := r.get (k := i) (d := .int m) (by rw [List.getElem?_map, hm]; rfl)
    obtain ⟨t, rfl⟩ := rv.int_inv
    exact ⟨t, by simpa using hv⟩

theorem nx_enum {x y : Str} {p q pos : Pos} {k : Nat} {Y : Addr → Prop} {I it l : Addr} {items : Array Value} {ρ2 : PS} {ns : List Int} {i : Nat} {n : Int} (hh : A.handled = none) (hx : Ow env x) (hy : Ow env y)
    (w1 : I ≠ it) (w2 : l ≠ I) (w3 : l ≠ it) (sz : items.size = ns.length) (hit : ∀ (i : Nat) (n : Int), ns[i]? = some n → ∃ t : Tok, items[i]? = some (Value.int n t)) (hn : ns[i]? = some n)
    (ap : ∀ b ∈ [I, it], ¬ Y b ∧ (¬ Wr env No b ∧ ∀ x, env.cells.lookup x ≠ some b) ∧ c.g.get? b = none) (apl : ¬ Wr env No l) :
    NX c A env Y (.Tuple [.Name x p, .Name y q] k pos) I [I, it] (EnSt I it l items) ρ2 i [(y, .imm (.int n)), (x, .imm (.int i))] := fun h tk E sx H => by
  have W := WalksT.enumerate (prog := c.prog) (w := c.w) hh I it l w1 w2 w3 items
  obtain ⟨t0, ht0⟩ := hit i n hn
  have hlt : i < items.size := (Array.getElem?_eq_some_iff.mp ht0).1
  refine W.item i (c.St h tk) _ _ hlt sx fun T vals h1 tk1 pt hT tup mid k1 => ?_
  obtain ⟨t, x', hx', rfl⟩ := pt
  rw [ht0] at hx'; cases hx'
  replace k1 : ∀ b o, b ∉ [I, it] → h.get? b = some o → h1.get? b = some o := k1
  show wpAny c.M A (letOwnedTupleGo (.Tuple [.Name x p, .Name y q] k pos) (.ref I) (.ref T)) _ E (c.St h1 tk1)
  refine W.go _ k pos i T (c.St h1 tk1) _ _ mid fun h2 st2 k2 => ?_
  replace k2 : ∀ b o, b ∉ [I, it] → h1.get? b = some o → h2.get? b = some o := k2
  have nT : T ∉ [I, it] := W.apart i T h1 mid
  have k12 : ∀ b o, b ∉ [I, it] → h.get? b = some o → h2.get? b = some o := fun b o nb e => k2 b o nb (k1 b o nb e)
  have H2 : Abs c env Y No h2 ρ2 := H.other k12 fun b hb => ⟨(ap b hb).1, (ap b hb).2.1, (ap b hb).2.2, fun vs n => by
    exact (wg_enum (c := c) hh w1 w2 w3 (items := items)).nl i h sx b hb vs n⟩
  have d2 : ∀ b, h.get? b ≠ none → h2.get? b ≠ none := fun b e => by
    by_cases hb : b ∈ [I, it]
    · exact (wg_enum (c := c) hh w1 w2 w3 (items := items)).dom (i + 1) h2 st2 b hb
    · cases q : h.get? b with
      | none => exact absurd q e
      | some o => rw [k12 b o hb q]; simp
  have tup2 : h2.IsTuple T #[.int i t, .int n t0] := by
    obtain ⟨o, e1, e2⟩ := tup
    exact ⟨o, k2 _ _ nT e1, e2⟩
  show wpAny c.M A (assign (.Tuple [.Name x p, .Name y q] k pos) env (.ref T)) _ E (c.St h2 tk1)
  refine wpAny_assign_Tuple (s := c.St h2 tk1) hh tup2 rfl rfl fun h3 x3 => ?_
  have k3 : Kp h2 h3 := Kp.ext x3 (get?_size h2)
  have H3 := H2.tr k3
  show wpAny c.M A (assignInOrder [assign (.Name x p) env, assign (.Name y q) env] [.int i t, .int n t0]) _ _ (c.St h3 tk1)
  unfold assignInOrder
  refine wpAny_bind (wpAny_holding ?_)
  refine wpAny_assign_Name (st H3 hx (pv := .imm (.int i)) (.int _ _) (fun _ e => by cases e) fun h4 tk4 H4 S4 => ?_)
  unfold assignInOrder
  refine wpAny_bind (wpAny_holding ?_)
  refine wpAny_assign_Name (st H4 hy (pv := .imm (.int n)) (.int _ _) (fun _ e => by cases e) fun h5 tk5 H5 S5 => ?_)
  unfold assignInOrder
  have S := S4.trans S5 fun x w => wr_dom H3 w
  refine wpAny_pure ⟨h5, tk5, rfl, H5, ?_, ?_, ?_⟩
  · refine W.frame _ _ _ st2 fun b hb o e => S.kx.1 b o (fun w => ?_) (k3 _ _ e)
    simp only [List.mem_cons, List.not_mem_nil, or_false] at hb
    rcases hb with rfl | rfl | rfl
    · exact (ap b (by simp)).2.1.1 w
    · exact (ap b (by simp)).2.1.1 w
    · exact apl w
  · exact fun b o nb e => S.kx.1 b o (fun w => nb (.inl w)) (k3 _ _ (k12 b o (fun m => nb (.inr m)) e))
  · exact fun b e => S.kx.2 b (k3.dom (d2 b e))
end
end Mine


open PySem PySem.W PyProof.Rows PySem.Calls PySem.Spec
set_option Elab.async false
set_option maxRecDepth 100000
set_option linter.unusedVariables false
namespace Mine

def fdef (i : Nat) : Str × Arguments × List Stmt × Scope :=
  match PySem.Challenge.pw_pe0296_01.main.body[i]? with
  | some (.FunctionDef name args body _ _ _ scope _ _ _) => (name, args, body, scope)
  | _ => (Str.empty, ⟨[], [], none, [], [], none, []⟩, [], { kind := .function, names := [], isGenerator := false, isCoroutine := false, more := [] })

theorem lk_hd {x : Str} {v : PV} {ρ : PS} : List.lookup x ((x, v) :: ρ) = some v := by rw [List.lookup_cons, beq_self_eq_true]
theorem lk_tl {x y : Str} {v : PV} {ρ : PS} {r : Option PV} (n : (x == y) = false) (h : List.lookup x ρ = r) : List.lookup x ((y, v) :: ρ) = r := by rw [List.lookup_cons, n]; exact h

theorem kd {env : Env} {S : Scope} (h : env.scope = S) {x : Str} {k : NameKind} (e : S.names.lookup x = some k) : env.kindOf x = some k := by rw [Env.kindOf, h]; exact e
theorem kdc {env : Env} {S : Scope} (h : InC S env) {x : Str} {k : NameKind} (e : ((S.names.lookup x).map fun k => if k = .free then .cell else k) = some k) : env.kindOf x = some k := (h.kinds x).trans e
/-- the names that a function's block may bind -/
theorem ow_fn {env : Env} {S : Scope} (h : env.scope = S) (o : ∀ x a, env.cells.lookup x = some a → env.locals < a) {x : Str} (e : S.names.lookup x = some .local ∨ S.names.lookup x = some .cell) : Ow env x := by
  rcases e with e | e
  · exact .inl (kd h e)
  · exact .inr ⟨kd h e, o x⟩

/-- the globals -/
structure Gx (c : Cx) (mg mb : Str → Option Value) : Prop extends Gl c mg mb where
  len : mg "len" = none ∧ mb "len" = some (.builtin "len")
  sum : mg "sum" = none ∧ mb "sum" = some (.builtin "sum")
  range : mg "range" = none ∧ mb "range" = some (.type "range")
  enum : mg "enumerate" = none ∧ mb "enumerate" = some (.type "enumerate")
  eof : ∃ t, mg "ENDMARKER" = some (.int 0 t)
  off : ∃ t, mg "NT_OFFSET" = some (.int 256 t)
  fn : ∀ i, i = 3 ∨ i = 4 ∨ i = 5 ∨ i = 7 ∨ i = 8 ∨ i = 9 → ∃ a o pm cd doc, mg (fdef i).1 = some (.ref a) ∧ c.g.get? a = some o ∧ o.data = .func (docDef (fdef i).1 (fdef i).2.1 (fdef i).2.2.1 (fdef i).2.2.2 pm cd doc) ∧ c.g.CodeRec cd (fdef i).1

section
variable {c : Cx} {mg mb : Str → Option Value} {A : Around} {env : Env} {ρ : PS}

theorem vlen (G : Gx c mg mb) {p pos : Pos} {e : Expr} {ds : List PyData} (hx : env.kindOf "len" = some .globalImplicit) (y : EvB c A env ρ e (.list ds)) (hl : ds.length < 2 ^ 62)
    (hs : starEach [e] env = [(false, eval e env)] := by rfl) : EvE c A env ρ (.Call (.Name "len" p) [e] [] pos) (.int ds.length) := ev_len (ef_builtin G.toGl hx G.len.1 G.len.2 (by decide)) y hl hs
theorem vsum (G : Gx c mg mb) {p pos : Pos} {e : Expr} {ns : List Int} (hh : A.handled = none) (hx : env.kindOf "sum" = some .globalImplicit) (y : EvB c A env ρ e (.list (ns.map .int)))
    (hs : starEach [e] env = [(false, eval e env)] := by rfl) : EvE c A env ρ (.Call (.Name "sum" p) [e] [] pos) (.int ns.sum) := ev_sum hh (ef_builtin G.toGl hx G.sum.1 G.sum.2 (by decide)) y hs
theorem vrange1 (G : Gx c mg mb) {p pos : Pos} {e : Expr} {n : Nat} (hh : A.handled = none) (hx : env.kindOf "range" = some .globalImplicit) (y : EvE c A env ρ e (.int n)) (hn : n < 2 ^ 30)
    (hs : starEach [e] env = [(false, eval e env)] := by rfl) : EvI c A env ρ (.Call (.Name "range" p) [e] [] pos) ((List.range n).map fun i => PyData.int ((0 : Int) + (i : Nat))) := ei_range1 hh (ef_builtin G.toGl hx G.range.1 G.range.2 (by decide)) y hn hs
theorem vrange2 (G : Gx c mg mb) {p pos : Pos} {e f : Expr} {a b : Int} (hh : A.handled = none) (hx : env.kindOf "range" = some .globalImplicit) (y : EvE c A env ρ e (.int a)) (z : EvE c A env ρ f (.int b))
    (h1 : -(2 ^ 40) < a) (h2 : a < 2 ^ 40) (h3 : -(2 ^ 40) < b) (h4 : b < 2 ^ 40)
    (hs : starEach [e, f] env = [(false, eval e env), (false, eval f env)] := by rfl) : EvI c A env ρ (.Call (.Name "range" p) [e, f] [] pos) ((List.range (b - a).toNat).map fun i => PyData.int (a + (i : Nat))) := ei_range2 hh (ef_builtin G.toGl hx G.range.1 G.range.2 (by decide)) y z h1 h2 h3 h4 hs
end
end Mine


open PySem PySem.W PyProof.Rows PySem.Calls PySem.Spec
set_option Elab.async false
set_option maxRecDepth 100000
set_option linter.unusedVariables false
namespace Mine

local macro_rules | `(tactic| walk_at "lk") => `(tactic| first | with_reducible exact lk_hd | ((with_reducible refine lk_tl (by decide) ?_); walk_at "lk"))
local macro_rules | `(tactic| walk_at "kd") => `(tactic| first | exact kd (by assumption) (by decide +kernel) | exact kdc (by assumption) (by decide +kernel))
local macro_rules | `(tactic| walk_at "ev") => `(tactic| first
  | with_reducible exact ev_int _ _ _
  | with_reducible exact ev_bool _ _ _
  | ((with_reducible refine' ev_name ?k1 ?k2); (case k1 => walk_at "lk"); (case k2 => decide)))
local macro_rules | `(tactic| walk_at "eb") => `(tactic| first
  | ((with_reducible refine' eb_own ?k1 ?k2); (case k1 => walk_at "lk"); (case k2 => decide))
  | ((with_reducible refine' EvE.b ?k1); (case k1 => walk_at "ev")))

section
variable {c : Cx} {mg mb : Str → Option Value}

theorem walk_ISEOF (G : Gx c mg mb) {A : Around} {env : Env} {i : Int} (hs : env.scope = (fdef 5).2.2.2) :
    ExecS c A env [("x", .imm (.int i))] (fdef 5).2.2.1 (fun q _ => q = some (.bool (i == 0))) := by
  obtain ⟨t, he⟩ := G.eof
  refine' ex_ret (ev_cmp ?k1 (ev_gint G.toGl ?k2 he ?k3).b ?k4) rfl
  case k1 => walk_at "eb"
  case k2 => walk_at "kd"
  case k3 => decide
  case k4 => intro a b h X p q; exact op_eqI p q
theorem walk_ISTERMINAL (G : Gx c mg mb) {A : Around} {env : Env} {i : Int} (hs : env.scope = (fdef 3).2.2.2) :
    ExecS c A env [("x", .imm (.int i))] (fdef 3).2.2.1 (fun q _ => q = some (.bool (decide (i < 256)))) := by
  obtain ⟨t, he⟩ := G.off
  refine' ex_ret (ev_cmp ?k1 (ev_gint G.toGl ?k2 he ?k3).b ?k4) rfl
  case k1 => walk_at "eb"
  case k2 => walk_at "kd"
  case k3 => decide
  case k4 => intro a b h X p q; exact op_ltI p q
theorem walk_ISNONTERMINAL (G : Gx c mg mb) {A : Around} {env : Env} {i : Int} (hs : env.scope = (fdef 4).2.2.2) :
    ExecS c A env [("x", .imm (.int i))] (fdef 4).2.2.1 (fun q _ => q = some (.bool (decide (256 ≤ i)))) := by
  obtain ⟨t, he⟩ := G.off
  refine' ex_ret (ev_cmp ?k1 (ev_gint G.toGl ?k2 he ?k3).b ?k4) rfl
  case k1 => walk_at "eb"
  case k2 => walk_at "kd"
  case k3 => decide
  case k4 => intro a b h X p q; exact op_geI p q

theorem fn_one (G : Gx c mg mb) (i : Nat) (f : Int → PyData) {k : Nat} (hi : i = 3 ∨ i = 4 ∨ i = 5 ∨ i = 7 ∨ i = 8 ∨ i = 9)
    (hb : ∀ (pm cd doc v : Value), bindArgs (docDef (fdef i).1 (fdef i).2.1 (fdef i).2.2.1 (fdef i).2.2.2 pm cd doc) ⟨[v], []⟩ = pure [(Str.ofString "x", v)])
    (hk : (fdef i).2.2.2.names.lookup (Str.ofString "x") = some .local) (hck : ∀ p ∈ (fdef i).2.2.2.names, p.2 = .cell → (fdef i).2.2.2.names.lookup p.1 = some .cell)
    (hco : (fdef i).2.2.2.isCoroutine = false) (hgen : (fdef i).2.2.2.isGenerator = false) (hkind : (fdef i).2.2.2.kind = .function)
    (B : ∀ A env j, env.scope = (fdef i).2.2.2 → ExecS c A env [("x", .imm (.int j))] (fdef i).2.2.1 (fun q _ => q = some (f j))) :
    ∃ a o fd, mg (fdef i).1 = some (.ref a) ∧ c.g.get? a = some o ∧ o.data = .func fd ∧ FnOk c (k + 1) a (fun ds r => ∃ j, ds = [.int j] ∧ r = f j) := by
  obtain ⟨a, o, pm, cd, doc, h1, h2, h3, h4⟩ := G.fn i hi
  refine ⟨a, o, _, h1, h2, h3, fn_ok G.toGl h2 h3 h4 ["x"] (fun vs hl => ?_) (fun x hx => ?_) (by simp) hck hco hgen hkind (fun A env hs ho lv ds r pr => ?_) fun ds r pr => ?_⟩
  · match vs, hl with
    | [v], _ => exact hb pm cd doc v
  · simp only [List.mem_singleton] at hx; subst hx; exact .inl hk
  · obtain ⟨j, rfl, rfl⟩ := pr; exact B A env j hs
  · obtain ⟨j, rfl, rfl⟩ := pr; rfl

theorem fn_ISEOF (G : Gx c mg mb) {k : Nat} : ∃ a o fd, mg "ISEOF" = some (.ref a) ∧ c.g.get? a = some o ∧ o.data = .func fd ∧ FnOk c (k + 1) a (fun ds r => ∃ j, ds = [.int j] ∧ r = .bool (j == 0)) :=
  fn_one G 5 (fun j => .bool (j == 0)) (by simp) (fun pm cd doc v => by rfl) (by decide +kernel) (by decide +kernel) (by decide +kernel) (by decide +kernel) (by decide +kernel) fun A env j hs => walk_ISEOF G hs
theorem fn_ISTERMINAL (G : Gx c mg mb) {k : Nat} : ∃ a o fd, mg "ISTERMINAL" = some (.ref a) ∧ c.g.get? a = some o ∧ o.data = .func fd ∧ FnOk c (k + 1) a (fun ds r => ∃ j, ds = [.int j] ∧ r = .bool (decide (j < 256))) :=
  fn_one G 3 (fun j => .bool (decide (j < 256))) (by simp) (fun pm cd doc v => by rfl) (by decide +kernel) (by decide +kernel) (by decide +kernel) (by decide +kernel) (by decide +kernel) fun A env j hs => walk_ISTERMINAL G hs
theorem fn_ISNONTERMINAL (G : Gx c mg mb) {k : Nat} : ∃ a o fd, mg "ISNONTERMINAL" = some (.ref a) ∧ c.g.get? a = some o ∧ o.data = .func fd ∧ FnOk c (k + 1) a (fun ds r => ∃ j, ds = [.int j] ∧ r = .bool (decide (256 ≤ j))) :=
  fn_one G 4 (fun j => .bool (decide (256 ≤ j))) (by simp) (fun pm cd doc v => by rfl) (by decide +kernel) (by decide +kernel) (by decide +kernel) (by decide +kernel) (by decide +kernel) fun A env j hs => walk_ISNONTERMINAL G hs
end
end Mine


open PySem PySem.W PyProof.Rows PySem.Calls PySem.Spec
set_option Elab.async false
set_option maxRecDepth 100000
set_option linter.unusedVariables false
set_option linter.unusedSimpArgs false
namespace Mine

abbrev Rule := Int × List Int
abbrev eL (l : List Int) : PyData := .list (l.map .int)
abbrev eR (r : Rule) : PyData := .list [.int r.1, eL r.2]

theorem eqv_int (a b : Int) : (PyData.int a).eqv (.int b) = decide (a = b) := by simp [PyData.eqv]; rfl
theorem eqv_eL (a b : List Int) : (eL a).eqv (eL b) = decide (a = b) := by simp only [eL, PyData.eqv, ked_eqvAll]
theorem eqv_eR (a b : Rule) : (eR a).eqv (eR b) = decide (a = b) := by
  obtain ⟨a1, a2⟩ := a; obtain ⟨b1, b2⟩ := b
  simp only [eR, eL, PyData.eqv, PyData.eqvAll, ked_eqvAll, Bool.and_true, Prod.mk.injEq]
  by_cases h : a1 = b1 <;> by_cases h' : a2 = b2 <;> simp [h, h']
theorem any_eR (r : Rule) : ∀ rs : List Rule, (rs.map eR).any (fun y => y.eqv (eR r)) = decide (r ∈ rs)
  | [] => by simp
  | a :: rs => by
    rw [List.map_cons, List.any_cons, any_eR r rs, eqv_eR]
    by_cases h : a = r
    · subst h; simp
    · simp [h, Ne.symm h]
theorem eqvAll_eL : ∀ a b : List (List Int), PyData.eqvAll (a.map eL) (b.map eL) = decide (a = b)
  | [], [] => by simp [PyData.eqvAll]
  | [], _ :: _ => by simp [PyData.eqvAll]
  | _ :: _, [] => by simp [PyData.eqvAll]
  | a :: r, b :: t => by
    simp only [List.map_cons, PyData.eqvAll, PyData.eqv, ked_eqvAll, eqvAll_eL r t]
    by_cases h : a = b <;> by_cases h' : r = t <;> simp [h, h']
theorem lay_eL (l : List Int) : (eL l).canLay0 = true := by simp [eL, PyData.canLay0, ke_canLayAll0]
theorem dep_eL (l : List Int) : (eL l).depth = 1 := by simp [eL, PyData.depth, ke_depthAll]
theorem sh_eL (l : List Int) : SeqAt.shaped (eL l) = true := ke_shaped_ints l
theorem lay_eR (r : Rule) : (eR r).canLay0 = true := by simp [eR, PyData.canLay0, PyData.canLayAll0, ke_canLayAll0]
theorem dep_eR (r : Rule) : (eR r).depth = 2 := by simp [eR, PyData.depth, PyData.depthAll, ke_depthAll]
theorem lay_eRs : ∀ rs : List Rule, PyData.canLayAll0 (rs.map eR) = true
  | [] => rfl
  | a :: rs => by rw [List.map_cons, PyData.canLayAll0, lay_eR, lay_eRs rs]; rfl
theorem sh_eR (r : Rule) : SeqAt.shaped (eR r) = true := by unfold SeqAt.shaped; rw [lay_eR, dep_eR]; rfl

-- the rules
def ruleOf (s0 s1 n : Int) : Rule :=
  (256 + n.fmod 3, if ((n.fdiv 3).fmod 3 == 0) then [if ((n.fdiv 3).fdiv 3).fmod 2 = 0 then s0 else s1] else [256 + ((n.fdiv 3).fdiv 3).fmod 3, 256 + ((n.fdiv 3).fdiv 9).fmod 3])
def stepR (s0 s1 : Int) (rs : List Rule) (n : Int) : List Rule := if ruleOf s0 s1 n ∈ rs then rs else rs ++ [ruleOf s0 s1 n]
def rulesOf (s0 s1 : Int) (ns : List Int) : List Rule := ns.foldl (stepR s0 s1) []
theorem stepR_len (s0 s1 : Int) (rs : List Rule) (n : Int) : (stepR s0 s1 rs n).length ≤ rs.length + 1 := by
  unfold stepR; split
  · omega
  · simp
theorem foldl_map {α β γ : Type} (f : γ → β → γ) (g : α → β) : ∀ (l : List α) (a : γ), (l.map g).foldl f a = l.foldl (fun a x => f a (g x)) a
  | [], _ => rfl
  | x :: l, a => foldl_map f g l (f a (g x))
end Mine


open PySem PySem.W PyProof.Rows PySem.Calls PySem.Spec
set_option Elab.async false
set_option maxRecDepth 100000
set_option linter.unusedVariables false
namespace Mine

local macro_rules | `(tactic| walk_at "lk") => `(tactic| first | with_reducible exact lk_hd | ((with_reducible refine lk_tl (by decide) ?_); walk_at "lk"))
local macro_rules | `(tactic| walk_at "kd") => `(tactic| first | exact kd (by assumption) (by decide +kernel) | exact kdc (by assumption) (by decide +kernel))
local macro_rules | `(tactic| walk_at "ow") => `(tactic| first | exact ow_fn (by assumption) (by assumption) (by first | exact Or.inl (by decide +kernel) | exact Or.inr (by decide +kernel)) | exact InC.own (by assumption) _ (by first | exact Or.inl (by decide +kernel) | exact Or.inr (by decide +kernel)))
local macro_rules | `(tactic| walk_at "ev") => `(tactic| first
  | with_reducible exact ev_int _ _ _
  | with_reducible exact ev_bool _ _ _
  | ((with_reducible refine' ev_name ?k1 ?k2); (case k1 => walk_at "lk"); (case k2 => decide))
  | ((with_reducible refine' ev_add ?k1 ?k2); (case k1 => walk_at "eb"); (case k2 => walk_at "eb"))
  | ((with_reducible refine' ev_sub ?k1 ?k2); (case k1 => walk_at "eb"); (case k2 => walk_at "eb"))
  | ((with_reducible refine' ev_mod ?k1 ?k2 ?k3); (case k1 => walk_at "eb"); (case k2 => walk_at "eb"); (case k3 => decide))
  | ((with_reducible refine' ev_div ?k1 ?k2 ?k3 ?k4); (case k1 => walk_at "eb"); (case k2 => walk_at "eb"); (case k3 => decide); (case k4 => exact PyProof.noPylong_small (by decide)))
  | ((with_reducible refine' ev_list ?k1 ?k2); (case k1 => walk_at "el"); (case k2 => (first | decide | (simp only [List.length_cons, List.length_nil]; decide)))))
local macro_rules | `(tactic| walk_at "eb") => `(tactic| first
  | ((with_reducible refine' eb_own ?k1 ?k2); (case k1 => walk_at "lk"); (case k2 => decide))
  | ((with_reducible refine' EvE.b ?k1); (case k1 => walk_at "ev")))
local macro_rules | `(tactic| walk_at "el") => `(tactic| first
  | with_reducible exact el_nil
  | ((with_reducible refine' el_cons ?k1 ?k2 ?k3); (case k1 => walk_at "ev"); (case k2 => walk_at "el"); (case k3 => rfl)))

local macro_rules | `(tactic| walk_at "sub") => `(tactic| first
  | with_reducible exact sub_nil
  | ((with_reducible refine' sub_cons ?k1 ?k2); (case k1 => walk_at "lk"); (case k2 => walk_at "sub")))

section
variable {c : Cx} {mg mb : Str → Option Value}

def SR (s0 s1 : Int) (rs : List Rule) : PS := [("rules", .own (rs.map eR)), ("signs", .imm (.list [.int s0, .int s1]))]
def stepD (s0 s1 : Int) (rs : List Rule) : PyData → List Rule
  | .int n => stepR s0 s1 rs n
  | _ => rs

theorem fmod_nn (a : Int) {b : Int} (h : 0 < b) : 0 ≤ a.fmod b := by rw [Int.fmod_eq_emod_of_nonneg _ (Int.le_of_lt h)]; exact Int.emod_nonneg _ (by omega)
theorem fmod_lt (a : Int) {b : Int} (h : 0 < b) : a.fmod b < b := by rw [Int.fmod_eq_emod_of_nonneg _ (Int.le_of_lt h)]; exact Int.emod_lt_of_pos _ h

theorem walk_rules (G : Gx c mg mb) {A : Around} {k : Nat} (lv : Lv A k) {env : Env} (hs : env.scope = (fdef 7).2.2.2) (ho : ∀ x a, env.cells.lookup x = some a → env.locals < a) (ns : List Int) (s0 s1 : Int) (hl : ns.length ≤ 5) :
    ExecS c A env [("numbers", .imm (eL ns)), ("signs", .imm (.list [.int s0, .int s1]))] (fdef 7).2.2.1 (fun q _ => q = some (.list ((rulesOf s0 s1 ns).map eR))) := by
  refine' ex_own ?ow (en_list el_nil (by decide)) ?k1
  case ow => walk_at "ow"
  case k1 =>
  refine' ex_for (SR s0 s1) (fun i rs => rs.length ≤ i) (stepD s0 s1) [] (ds := ns.map .int) (ei_list lv.hh ?it) ?w0 ?p0 ?turn ?k2
  case it => walk_at "ev"
  case w0 => show Sub [("rules", .own []), ("signs", .imm (.list [.int s0, .int s1]))] _; walk_at "sub"
  case p0 => exact Nat.le_refl _
  case turn =>
    intro i rs d hp hd
    obtain ⟨n, hn, rfl⟩ : ∃ n, ns[i]? = some n ∧ d = .int n := by
      rw [List.getElem?_map] at hd
      cases q : ns[i]? with
      | none => rw [q] at hd; cases hd
      | some n => rw [q] at hd; cases hd; exact ⟨n, rfl, rfl⟩
    have hi : i < ns.length := (List.getElem?_eq_some_iff.mp hn).1
    refine ⟨_, tgt_name (by walk_at "ow"), ?_⟩
    show ExecS c A env [("n", .imm (.int n)), ("rules", .own (rs.map eR)), ("signs", .imm (.list [.int s0, .int s1]))] _ _
    refine' ex_assign ?ow2 ?v2 ?k3
    case ow2 => walk_at "ow"
    case v2 => walk_at "ev"
    case k3 =>
    refine' ex_assign (d := eL (ruleOf s0 s1 n).2) ?ow3 ?v3 ?k4
    case ow3 => walk_at "ow"
    case v3 =>
      refine' ev_ife (et_cmp ?a ?b (fun a b h X p q => op_eqI p q)) ?y ?z
      case a => walk_at "eb"
      case b => walk_at "eb"
      case y =>
        intro hq
        have e : eL (ruleOf s0 s1 n).2 = .list [.int (if ((n.fdiv 3).fdiv 3).fmod 2 = 0 then s0 else s1)] := by
          unfold ruleOf eL; rw [if_pos hq]; rfl
        rw [e]
        have h2 := fmod_nn ((n.fdiv 3).fdiv 3) (show (0 : Int) < 2 by decide)
        have h3 := fmod_lt ((n.fdiv 3).fdiv 3) (show (0 : Int) < 2 by decide)
        refine ev_list (el_cons (ev_item (ds := [.int s0, .int s1]) (k := ((n.fdiv 3).fdiv 3).fmod 2) ?_ ?_ h2 (by omega) ?_) el_nil) (by rw [sizeLine_eq]; exact Nat.le_of_ble_eq_true rfl)
        · walk_at "eb"
        · walk_at "ev"
        · by_cases q : ((n.fdiv 3).fdiv 3).fmod 2 = 0
          · rw [if_pos q, q]; rfl
          · rw [if_neg q, show ((n.fdiv 3).fdiv 3).fmod 2 = 1 by omega]; rfl
      case z =>
        intro hq
        have e : eL (ruleOf s0 s1 n).2 = .list [.int (256 + ((n.fdiv 3).fdiv 3).fmod 3), .int (256 + ((n.fdiv 3).fdiv 9).fmod 3)] := by
          unfold ruleOf eL; rw [if_neg (by rw [hq]; simp)]; rfl
        rw [e]
        walk_at "ev"
    case k4 =>
    refine' ex_if (et_notin (d := .list [.int (256 + n.fmod 3), eL (ruleOf s0 s1 n).2]) (ds := rs.map eR) ?a1 ?b1 (lay_eR (ruleOf s0 s1 n)) (lay_eRs _) ?u1) ?y1 ?z1
    case a1 => walk_at "eb"
    case b1 => walk_at "eb"
    case u1 =>
      have := lv.2.2
      rw [show (PyData.list [.int (256 + n.fmod 3), eL (ruleOf s0 s1 n).2]).depth = 2 from dep_eR (ruleOf s0 s1 n)]
      show A.units + 1 + min _ 2 < 9900
      omega
    case y1 =>
      rw [show ((rs.map eR).any fun y => y.eqv (.list [.int (256 + n.fmod 3), eL (ruleOf s0 s1 n).2])) = _ from any_eR (ruleOf s0 s1 n) rs]
      intro hq
      have hq' : ¬ ruleOf s0 s1 n ∈ rs := by simpa using hq
      refine' ex_append (ds := rs.map eR) (d := .list [.int (256 + n.fmod 3), eL (ruleOf s0 s1 n).2]) ?l2 ?v4 ?z2 (ex_nil ?k5) ?hd2
      case l2 => walk_at "lk"
      case v4 => walk_at "ev"
      case z2 => simp only [List.length_map]; rw [sizeLine_eq]; omega
      case hd2 => decide
      case k5 =>
        refine ex_nil ⟨rfl, ?_, ?_⟩
        · show Sub (SR s0 s1 (stepR s0 s1 rs n)) _
          unfold stepR
          rw [if_neg hq']
          unfold SR
          rw [List.map_append]
          show Sub [("rules", .own (rs.map eR ++ [.list [.int (256 + n.fmod 3), eL (ruleOf s0 s1 n).2]])), ("signs", .imm (.list [.int s0, .int s1]))] _
          walk_at "sub"
        · exact Nat.le_trans (stepR_len ..) (Nat.succ_le_succ hp)
    case z1 =>
      rw [show ((rs.map eR).any fun y => y.eqv (.list [.int (256 + n.fmod 3), eL (ruleOf s0 s1 n).2])) = _ from any_eR (ruleOf s0 s1 n) rs]
      intro hq
      have hq' : ruleOf s0 s1 n ∈ rs := by simpa using hq
      refine ex_nil (ex_nil ⟨rfl, ?_, Nat.le_trans (stepR_len ..) (Nat.succ_le_succ hp)⟩)
      show Sub (SR s0 s1 (stepR s0 s1 rs n)) _
      unfold stepR
      rw [if_pos hq']
      unfold SR
      walk_at "sub"
  case k2 =>
    intro _
    rw [foldl_map]
    show ExecS c A env [("rules", .own ((rulesOf s0 s1 ns).map eR)), _] _ _
    refine' ex_disown "rules" (ds := (rulesOf s0 s1 ns).map eR) ?l3 ?k6
    case l3 => walk_at "lk"
    case k6 =>
    refine' ex_ret ?v5 rfl
    case v5 => walk_at "ev"

theorem fn_two (G : Gx c mg mb) (i : Nat) (p1 p2 : Str) (P : List PyData → PyData → Prop) {k : Nat} (hi : i = 3 ∨ i = 4 ∨ i = 5 ∨ i = 7 ∨ i = 8 ∨ i = 9)
    (hb : ∀ (pm cd doc v w : Value), bindArgs (docDef (fdef i).1 (fdef i).2.1 (fdef i).2.2.1 (fdef i).2.2.2 pm cd doc) ⟨[v, w], []⟩ = pure [(p1, v), (p2, w)])
    (hk1 : (fdef i).2.2.2.names.lookup p1 = some .local ∨ (fdef i).2.2.2.names.lookup p1 = some .cell) (hk2 : (fdef i).2.2.2.names.lookup p2 = some .local ∨ (fdef i).2.2.2.names.lookup p2 = some .cell) (hn : p1 ≠ p2) (hck : ∀ p ∈ (fdef i).2.2.2.names, p.2 = .cell → (fdef i).2.2.2.names.lookup p.1 = some .cell)
    (hco : (fdef i).2.2.2.isCoroutine = false) (hgen : (fdef i).2.2.2.isGenerator = false) (hkind : (fdef i).2.2.2.kind = .function)
    (L : ∀ ds r, P ds r → ds.length = 2)
    (B : ∀ A env, env.scope = (fdef i).2.2.2 → (∀ x a, env.cells.lookup x = some a → env.locals < a) → Lv A k → ∀ d e r, P [d, e] r → ExecS c A env [(p1, .imm d), (p2, .imm e)] (fdef i).2.2.1 (fun q _ => q = some r)) :
    ∃ a o fd, mg (fdef i).1 = some (.ref a) ∧ c.g.get? a = some o ∧ o.data = .func fd ∧ FnOk c (k + 1) a P := by
  obtain ⟨a, o, pm, cd, doc, h1, h2, h3, h4⟩ := G.fn i hi
  refine ⟨a, o, _, h1, h2, h3, fn_ok G.toGl h2 h3 h4 [p1, p2] (fun vs hl => ?_) (fun x hx => ?_) (by simp [hn]) hck hco hgen hkind (fun A env hs ho lv ds r pr => ?_) L⟩
  · match vs, hl with
    | [v, w], _ => exact hb pm cd doc v w
  · simp only [List.mem_cons, List.not_mem_nil, or_false] at hx
    rcases hx with rfl | rfl
    · exact hk1
    · exact hk2
  · have := L ds r pr
    match ds, this with
    | [d, e], _ => exact B A env hs ho lv d e r pr

theorem fn_rules (G : Gx c mg mb) {k : Nat} : ∃ a o fd, mg "_law_rules" = some (.ref a) ∧ c.g.get? a = some o ∧ o.data = .func fd ∧ FnOk c (k + 1) a (fun ds r => ∃ ns s0 s1, ds = [eL ns, .list [.int s0, .int s1]] ∧ ns.length ≤ 5 ∧ r = .list ((rulesOf s0 s1 ns).map eR)) :=
  fn_two G 7 "numbers" "signs" _ (by simp) (fun pm cd doc v w => by rfl) (.inl (by decide +kernel)) (.inl (by decide +kernel)) (by decide) (by decide +kernel) (by decide +kernel) (by decide +kernel) (by decide +kernel)
    (fun ds r ⟨_, _, _, e, _⟩ => by rw [e]; rfl) fun A env hs ho lv d e r ⟨ns, s0, s1, h1, h2, h3⟩ => by
      cases h1; subst h3
      exact walk_rules G lv hs ho ns s0 s1 h2
end
end Mine


open PySem PySem.W PyProof.Rows PySem.Calls PySem.Spec
set_option Elab.async false
set_option maxRecDepth 100000
set_option linter.unusedVariables false
namespace Mine

local macro_rules | `(tactic| walk_at "lk") => `(tactic| first | with_reducible exact lk_hd | ((with_reducible refine lk_tl (by decide) ?_); walk_at "lk"))
local macro_rules | `(tactic| walk_at "kd") => `(tactic| first | exact kd (by assumption) (by decide +kernel) | exact kdc (by assumption) (by decide +kernel))
local macro_rules | `(tactic| walk_at "ow") => `(tactic| first | exact ow_fn (by assumption) (by assumption) (by first | exact Or.inl (by decide +kernel) | exact Or.inr (by decide +kernel)) | exact InC.own (by assumption) _ (by first | exact Or.inl (by decide +kernel) | exact Or.inr (by decide +kernel)))
local macro_rules | `(tactic| walk_at "ev") => `(tactic| first
  | with_reducible exact ev_int _ _ _
  | with_reducible exact ev_bool _ _ _
  | ((with_reducible refine' ev_name ?k1 ?k2); (case k1 => walk_at "lk"); (case k2 => decide))
  | ((with_reducible refine' ev_add ?k1 ?k2); (case k1 => walk_at "eb"); (case k2 => walk_at "eb"))
  | ((with_reducible refine' ev_sub ?k1 ?k2); (case k1 => walk_at "eb"); (case k2 => walk_at "eb"))
  | ((with_reducible refine' ev_mod ?k1 ?k2 ?k3); (case k1 => walk_at "eb"); (case k2 => walk_at "eb"); (case k3 => decide))
  | ((with_reducible refine' ev_neg ?k1); (case k1 => walk_at "ev"))
  | ((with_reducible refine' ev_div ?k1 ?k2 ?k3 ?k4); (case k1 => walk_at "eb"); (case k2 => walk_at "eb"); (case k3 => decide); (case k4 => exact PyProof.noPylong_small (by decide)))
  | ((with_reducible refine' ev_list ?k1 ?k2); (case k1 => walk_at "el"); (case k2 => rw [sizeLine_eq]; exact Nat.le_of_ble_eq_true rfl)))
local macro_rules | `(tactic| walk_at "eb") => `(tactic| first
  | ((with_reducible refine' eb_own ?k1 ?k2); (case k1 => walk_at "lk"); (case k2 => decide))
  | ((with_reducible refine' EvE.b ?k1); (case k1 => walk_at "ev")))
local macro_rules | `(tactic| walk_at "el") => `(tactic| first
  | with_reducible exact el_nil
  | ((with_reducible refine' el_cons ?k1 ?k2 ?k3); (case k1 => walk_at "ev"); (case k2 => walk_at "el"); (case k3 => rfl)))
local macro_rules | `(tactic| walk_at "sub") => `(tactic| first
  | with_reducible exact sub_nil
  | ((with_reducible refine' sub_cons ?k1 ?k2); (case k1 => walk_at "lk"); (case k2 => walk_at "sub")))

def whileBody : List Stmt := match (fdef 8).2.2.1 with
  | _ :: _ :: Stmt.While _ body _ _ :: _ => body
  | _ => []

section
variable {c : Cx} {mg mb : Str → Option Value} {A : Around} {env : Env} {ρ : PS}

/-- a call of one of the text's own, by its contract -/
theorem vfun {x : Str} {p pos : Pos} {e : Expr} {es : List Expr} {k : Nat} {P : List PyData → PyData → Prop} {ds : List PyData} {r : PyData} (G : Gx c mg mb) (F : ∃ a o fd, mg x = some (.ref a) ∧ c.g.get? a = some o ∧ o.data = .func fd ∧ FnOk c k a P)
    (hx : env.kindOf x = some .globalImplicit) (hd : (x == ("__debug__" : Str)) = false) (lv : Lv A k) (y : EvL c A env ρ pos (e :: es) ds) (pr : P ds r) (he : starEach (e :: es) env = (false, eval e env) :: starEach es env := by rfl) : EvE c A env ρ (.Call (.Name x p) (e :: es) [] pos) r := by
  obtain ⟨a, o, fd, h1, h2, h3, h4⟩ := F
  exact ev_call (ef_global G.toGl hx h1 hd) h2 h3 h4 lv y pr he

def tailT (h : Int) (d0 : List Int) (T : List PyData) : List PyData := if h = 0 then T ++ [eL d0] else T
def pushW (front : Bool) (h : Int) (d0 r0 : List Int) (W : List PyData) (r : Rule) : List PyData :=
  if r.1 = h ∧ d0.length + r.2.length + r0.length ≤ 4 then W ++ [.list [eL d0, eL (if front then r.2 ++ r0 else r0 ++ r.2)]] else W
def tailW (front : Bool) (h : Int) (d0 r0 : List Int) (rs : List Rule) (W : List PyData) : List PyData :=
  if h = 0 then W else if h < 256 then W ++ [.list [eL (if front then d0 ++ [h] else h :: d0), eL r0]] else rs.foldl (pushW front h d0 r0) W

theorem pushW_len (front : Bool) (h : Int) (d0 r0 : List Int) (W : List PyData) (r : Rule) : (pushW front h d0 r0 W r).length ≤ W.length + 1 := by
  unfold pushW; split
  · simp
  · omega

theorem walk_tail (G : Gx c mg mb) (lv : Lv A 1) (hs : env.scope = (fdef 8).2.2.2) (ho : ∀ x a, env.cells.lookup x = some a → env.locals < a) (front : Bool) (T W : List PyData) (d0 r0 : List Int) (h : Int) (rs : List Rule)
    (h0 : h = 0 → r0 = []) (sT : T.length ≤ 2 ^ 23) (sW : W.length + 10 ≤ 2 ^ 23) (sd : d0.length ≤ 10) (sr : r0.length ≤ 10) (hl : rs.length ≤ 5) (srs : ∀ r ∈ rs, r.2.length ≤ 10) :
    ExecS c A env [("rest", .imm (eL r0)), ("head", .imm (.int h)), ("done", .imm (eL d0)), ("waiting", .own W), ("told", .own T), ("rules", .imm (.list (rs.map eR))), ("front", .imm (.bool front))] (whileBody.drop 3)
      (fun r ρ' => r = none ∧ Sub [("told", .own (tailT h d0 T)), ("waiting", .own (tailW front h d0 r0 rs W)), ("rules", .imm (.list (rs.map eR))), ("front", .imm (.bool front))] ρ') := by
  refine' ex_if (k := (h == 0)) (et_plain ?t1 ?p1) ?y1 ?z1
  case p1 => intro _; rfl
  case t1 =>
    refine vfun (k := 1) G (fn_ISEOF G) ?_ (by decide) lv (el_cons ?_ el_nil) ⟨h, rfl, rfl⟩
    · walk_at "kd"
    · walk_at "ev"
  case y1 =>
    intro hh
    have hz : h = 0 := by simpa using hh
    subst hz
    have hr := h0 rfl
    subst hr
    refine' ex_if (k := false) (EvT.eq (et_or (et_not (et_plain ?t2 ?p2)) fun _ => et_or (et_plain ?t3 ?p3) fun _ => et_or (et_cmp ?t4 ?t5 ?t6 ?p6) fun _ => et_or0) ?q2) ?y2 ?z2
    case p2 => intro _; rfl
    case p3 => intro _; rfl
    case p6 => rfl
    case t2 =>
      refine vfun (k := 1) G (fn_ISTERMINAL G) ?_ (by decide) lv (el_cons ?_ el_nil) ⟨0, rfl, rfl⟩
      · walk_at "kd"
      · walk_at "ev"
    case t3 =>
      refine vfun (k := 1) G (fn_ISNONTERMINAL G) ?_ (by decide) lv (el_cons ?_ el_nil) ⟨0, rfl, rfl⟩
      · walk_at "kd"
      · walk_at "ev"
    case t4 => walk_at "eb"
    case t5 => walk_at "eb"
    case t6 => intro a b h X p q; exact op_neD p q rfl rfl lv.u
    case q2 => rfl
    case y2 => intro q; cases q
    case z2 =>
      intro _
      refine ex_nil ?_
      refine' ex_append (ds := T) (d := eL d0) ?l3 ?v3 ?s3 (ex_nil (ex_nil ?k3)) ?hd3
      case l3 => walk_at "lk"
      case v3 => walk_at "ev"
      case s3 => rw [sizeLine_eq]; omega
      case hd3 => decide
      case k3 =>
        refine ⟨rfl, ?_⟩
        show Sub [("told", .own (T ++ [eL d0])), ("waiting", .own W), ("rules", .imm (.list (rs.map eR))), ("front", .imm (.bool front))] _
        walk_at "sub"
  case z1 =>
    intro hh
    have hz : h ≠ 0 := by simpa using hh
    have eT : tailT h d0 T = T := if_neg hz
    rw [eT]
    refine' ex_if (k := decide (h < 256)) (et_plain ?t7 ?p7) ?y7 ?z7
    case p7 => intro _; rfl
    case t7 =>
      refine vfun (k := 1) G (fn_ISTERMINAL G) ?_ (by decide) lv (el_cons ?_ el_nil) ⟨h, rfl, rfl⟩
      · walk_at "kd"
      · walk_at "ev"
    case y7 =>
      intro h2
      have h2' : h < 256 := by simpa using h2
      have eW : tailW front h d0 r0 rs W = W ++ [.list [eL (if front then d0 ++ [h] else h :: d0), eL r0]] := by unfold tailW; rw [if_neg hz, if_pos h2']
      rw [eW]
      refine' ex_append (ds := W) (d := .list [eL (if front then d0 ++ [h] else h :: d0), eL r0]) ?l8 ?v8 ?s8 (ex_nil (ex_nil ?k8)) ?hd8
      case l8 => walk_at "lk"
      case s8 => rw [sizeLine_eq]; omega
      case hd8 => decide
      case v8 =>
        refine ev_list (el_cons ?_ (el_cons ?_ el_nil)) (by rw [sizeLine_eq]; exact Nat.le_of_ble_eq_true rfl)
        · refine' ev_ife (k := front) (et_plain ?t9 ?p9) ?y9 ?z9
          case p9 => intro _; rfl
          case t9 => walk_at "ev"
          case y9 =>
            rintro rfl
            refine' EvE.eq (ev_cat (ds := d0.map .int) (es := [.int h]) ?a9 ?b9 ?c9) ?e9
            case a9 => walk_at "eb"
            case b9 => walk_at "eb"
            case c9 => rw [sizeLine_eq]; simp only [List.length_map, List.length_cons, List.length_nil]; omega
            case e9 => simp
          case z9 =>
            rintro rfl
            refine' EvE.eq (ev_cat (ds := [.int h]) (es := d0.map .int) ?a10 ?b10 ?c10) ?e10
            case a10 => walk_at "eb"
            case b10 => walk_at "eb"
            case c10 => rw [sizeLine_eq]; simp only [List.length_map, List.length_cons, List.length_nil]; omega
            case e10 => simp
        · walk_at "ev"
      case k8 =>
        refine ex_nil ⟨rfl, ?_⟩
        walk_at "sub"
    case z7 =>
      intro h2
      have h2' : ¬ h < 256 := by simpa using h2
      have eW : tailW front h d0 r0 rs W = rs.foldl (pushW front h d0 r0) W := by unfold tailW; rw [if_neg hz, if_neg h2']
      rw [eW]
      refine' ex_if (k := decide (256 ≤ h)) (et_plain ?t11 ?p11) ?y11 ?z11
      case p11 => intro _; rfl
      case t11 =>
        refine vfun (k := 1) G (fn_ISNONTERMINAL G) ?_ (by decide) lv (el_cons ?_ el_nil) ⟨h, rfl, rfl⟩
        · walk_at "kd"
        · walk_at "ev"
      case z11 => intro q; exact absurd (Int.not_lt.mp h2') (by simpa using q)
      case y11 =>
      intro _
      refine' ex_forM eR (fun W' => [("waiting", .own W'), ("told", .own T), ("rest", .imm (eL r0)), ("head", .imm (.int h)), ("done", .imm (eL d0)), ("rules", .imm (.list (rs.map eR))), ("front", .imm (.bool front))])
        (fun i W' => W'.length ≤ W.length + i) (pushW front h d0 r0) W (xs := rs) (ei_list lv.hh ?it) ?w0 (Nat.le_refl _) ?turn ?k12
      case it => walk_at "ev"
      case w0 => walk_at "sub"
      case k12 =>
        intro _
        refine ex_nil (ex_nil (ex_nil (ex_nil ⟨rfl, ?_⟩)))
        walk_at "sub"
      case turn =>
        intro i W' r hp hr
        have hi : i < rs.length := (List.getElem?_eq_some_iff.mp hr).1
        have hrl := srs r (List.mem_of_getElem? hr)
        refine ⟨_, tgt_two lv.hh (by walk_at "ow") (by walk_at "ow"), ?_⟩
        show ExecS c A env [("right", .imm (eL r.2)), ("left", .imm (.int r.1)), ("waiting", .own W'), ("told", .own T), ("rest", .imm (eL r0)), ("head", .imm (.int h)), ("done", .imm (eL d0)), ("rules", .imm (.list (rs.map eR))), ("front", .imm (.bool front))] _ _
        refine' ex_if (k := decide (r.1 = h ∧ d0.length + r.2.length + r0.length ≤ 4)) (EvT.eq (et_and (et_cmp ?a13 ?b13 (fun a b h X p q => op_eqI p q) ?m13) fun _ => et_and (et_cmp ?a14 ?b14 (fun a b h X p q => op_leI p q) ?m14) fun _ => et_and0) ?q13) ?y13 ?z13
        case m13 => rfl
        case m14 => rfl
        case a13 => walk_at "eb"
        case b13 => walk_at "eb"
        case b14 => walk_at "eb"
        case a14 =>
          refine (ev_add (ev_add (vlen G ?_ (ds := d0.map .int) ?_ ?_).b (vlen G ?_ (ds := r.2.map .int) ?_ ?_).b).b (vlen G ?_ (ds := r0.map .int) ?_ ?_).b).b
          · walk_at "kd"
          · walk_at "eb"
          · rw [List.length_map]; omega
          · walk_at "kd"
          · walk_at "eb"
          · rw [List.length_map]; omega
          · walk_at "kd"
          · walk_at "eb"
          · rw [List.length_map]; omega
        case q13 =>
          simp only [List.length_map]
          have : (((d0.length : Int) + r.2.length + r0.length ≤ 4) ↔ (d0.length + r.2.length + r0.length ≤ 4)) := by omega
          by_cases q1 : r.1 = h
          · simp [q1, this]
          · simp [q1]
        case y13 =>
          intro q
          have q' := of_decide_eq_true q
          have eP : pushW front h d0 r0 W' r = W' ++ [.list [eL d0, eL (if front then r.2 ++ r0 else r0 ++ r.2)]] := if_pos q'
          have hp2 : (pushW front h d0 r0 W' r).length ≤ W.length + (i + 1) := Nat.le_trans (pushW_len ..) (by omega)
          rw [eP] at hp2 ⊢
          refine' ex_append (ds := W') (d := .list [eL d0, eL (if front then r.2 ++ r0 else r0 ++ r.2)]) ?l15 ?v15 ?s15 (ex_nil (ex_nil ?k15)) ?hd15
          case l15 => walk_at "lk"
          case s15 => rw [sizeLine_eq]; omega
          case hd15 => decide
          case k15 =>
            refine ⟨rfl, ?_, hp2⟩
            walk_at "sub"
          case v15 =>
            refine ev_list (el_cons ?_ (el_cons ?_ el_nil)) (by rw [sizeLine_eq]; exact Nat.le_of_ble_eq_true rfl)
            · walk_at "ev"
            · refine' ev_ife (k := front) (et_plain ?t16 ?p16) ?y16 ?z16
              case p16 => intro _; rfl
              case t16 => walk_at "ev"
              case y16 =>
                rintro rfl
                refine' EvE.eq (ev_cat (ds := r.2.map .int) (es := r0.map .int) ?a17 ?b17 ?c17) ?e17
                case a17 => walk_at "eb"
                case b17 => walk_at "eb"
                case c17 => rw [sizeLine_eq]; simp only [List.length_map]; omega
                case e17 => simp
              case z16 =>
                rintro rfl
                refine' EvE.eq (ev_cat (ds := r0.map .int) (es := r.2.map .int) ?a18 ?b18 ?c18) ?e18
                case a18 => walk_at "eb"
                case b18 => walk_at "eb"
                case c18 => rw [sizeLine_eq]; simp only [List.length_map]; omega
                case e18 => simp
        case z13 =>
          intro q
          have q' := of_decide_eq_false q
          have eP : pushW front h d0 r0 W' r = W' := if_neg q'
          rw [eP]
          refine ex_nil (ex_nil ⟨rfl, ?_, by omega⟩)
          walk_at "sub"
end
end Mine


open PySem PySem.W PyProof.Rows PySem.Calls PySem.Spec
set_option Elab.async false
set_option maxRecDepth 100000
set_option linter.unusedVariables false
set_option linter.unusedSimpArgs false
namespace Mine

abbrev Ent := List Int × List Int
abbrev DS := List (List Int) × List Ent

def push1 (d : List Int) (a : Int) (b : List Int) (st : List Ent) (r : Rule) : List Ent :=
  if r.1 = a ∧ d.length + r.2.length + (b.length + 1) ≤ 4 then (d, r.2 ++ b) :: st else st
def dstep (rs : List Rule) : DS → DS
  | (told, []) => (told, [])
  | (told, (d, []) :: st) => (told ++ [d], st)
  | (told, (d, a :: b) :: st) => if a < 256 then (told, (d ++ [a], b) :: st) else (told, rs.foldl (push1 d a b) st)
noncomputable def drun (rs : List Rule) : Nat → DS → DS
  | 0, s => s
  | n + 1, s => drun rs n (dstep rs s)
theorem drun_nil (rs : List Rule) (told : List (List Int)) : ∀ n, drun rs n (told, []) = (told, [])
  | 0 => rfl
  | n + 1 => by rw [drun, dstep, drun_nil rs told n]

def flipR (front : Bool) (rs : List Rule) : List Rule := if front then rs else rs.map fun r => (r.1, r.2.reverse)
def encD (front : Bool) (d : List Int) : PyData := eL (if front then d else d.reverse)
def encF (front : Bool) (b : List Int) : List Int := if front then b ++ [0] else 0 :: b.reverse
def encE (front : Bool) (e : Ent) : PyData := .list [encD front e.1, eL (encF front e.2)]

/-- a well formed rule: one sign, or two inner symbols -/
def okRule (r : Rule) : Prop := 256 ≤ r.1 ∧ r.1 < 259 ∧ ((∃ s, r.2 = [s] ∧ 0 < s ∧ s < 256) ∨ ∃ x y, r.2 = [x, y] ∧ 256 ≤ x ∧ x < 259 ∧ 256 ≤ y ∧ y < 259)
/-- an entry of the stack -/
structure okE (e : Ent) : Prop where
  pos : ∀ x ∈ e.2, 0 < x
  len : e.1.length + e.2.length ≤ 3

def nt (b : List Int) : Nat := b.countP fun x => !decide (x < 256)
def wM (e : Ent) : Nat := e.2.length + nt e.2 + 3 * (3 - (e.1.length + e.2.length))
def mu (st : List Ent) : Nat := (st.map fun e => 6 ^ wM e).sum

theorem mu_cons (e : Ent) (st : List Ent) : mu (e :: st) = 6 ^ wM e + mu st := by simp [mu]
theorem mu_len : ∀ st : List Ent, st.length ≤ mu st
  | [] => Nat.le_refl _
  | e :: st => by
    rw [mu_cons, List.length_cons]
    have := mu_len st
    have h : 0 < 6 ^ wM e := Nat.pow_pos (by decide)
    omega

theorem okRule.flip {r : Rule} (h : okRule r) : okRule (r.1, r.2.reverse) := by
  obtain ⟨a, b, h⟩ := h
  refine ⟨a, b, ?_⟩
  rcases h with ⟨s, e, h⟩ | ⟨x, y, e, h1, h2, h3, h4⟩
  · exact .inl ⟨s, by rw [e]; rfl, h⟩
  · exact .inr ⟨y, x, by rw [e]; rfl, h3, h4, h1, h2⟩
theorem okFlip {front : Bool} {rs : List Rule} (h : ∀ r ∈ rs, okRule r) : ∀ r ∈ flipR front rs, okRule r := by
  intro r hr
  cases front with
  | true => exact h r hr
  | false =>
    obtain ⟨q, hq, rfl⟩ := List.mem_map.mp hr
    exact (h q hq).flip
theorem flip_len (front : Bool) (rs : List Rule) : (flipR front rs).length = rs.length := by
  cases front
  · exact List.length_map ..
  · rfl

/-- one push -/
theorem push_ok {d b : List Int} {a : Int} {st : List Ent} {r : Rule} (ha : ¬ a < 256) (hr : okRule r) (he : okE (d, a :: b)) (hs : ∀ e ∈ st, okE e) :
    (∀ e ∈ push1 d a b st r, okE e) ∧ mu (push1 d a b st r) ≤ mu st + 6 ^ (wM (d, a :: b) - 1) := by
  unfold push1
  split
  · rename_i hc
    have e1 := he.len
    simp only [List.length_cons] at e1
    have hn : nt (a :: b) = nt b + 1 := by simp [nt, ha]
    refine ⟨fun e m => ?_, ?_⟩
    · rcases List.mem_cons.mp m with rfl | m
      · refine ⟨fun x hx => ?_, ?_⟩
        · rcases List.mem_append.mp hx with q | q
          · rcases hr.2.2 with ⟨s, e, h1, h2⟩ | ⟨x', y', e, h1, h2, h3, h4⟩
            · rw [e, List.mem_singleton] at q; omega
            · rw [e] at q; simp only [List.mem_cons, List.not_mem_nil, or_false] at q; omega
          · exact he.pos x (List.mem_cons_of_mem _ q)
        · simp only [List.length_append]; omega
      · exact hs e m
    · rw [mu_cons]
      have : wM (d, r.2 ++ b) ≤ wM (d, a :: b) - 1 := by
        unfold wM
        simp only [hn, List.length_cons, List.length_append]
        rcases hr.2.2 with ⟨s, e, h1, h2⟩ | ⟨x', y', e, h1, h2, h3, h4⟩
        · have q : nt (r.2 ++ b) = nt b := by rw [e]; simp [nt, h2]
          rw [q, e]; simp only [List.length_cons, List.length_nil]; omega
        · have q : nt (r.2 ++ b) = nt b + 2 := by
            rw [e]; simp [nt, show ¬ x' < 256 by omega, show ¬ y' < 256 by omega]
          rw [e] at hc; simp only [List.length_cons, List.length_nil] at hc
          rw [q, e]; simp only [List.length_cons, List.length_nil]; omega
      have := Nat.pow_le_pow_right (n := 6) (by decide) this
      omega
  · exact ⟨hs, Nat.le_add_right _ _⟩

theorem pushes_ok {d b : List Int} {a : Int} (ha : ¬ a < 256) (he : okE (d, a :: b)) : ∀ (rs : List Rule) (st : List Ent), (∀ r ∈ rs, okRule r) → (∀ e ∈ st, okE e) →
    (∀ e ∈ rs.foldl (push1 d a b) st, okE e) ∧ mu (rs.foldl (push1 d a b) st) ≤ mu st + rs.length * 6 ^ (wM (d, a :: b) - 1)
  | [], st, _, hs => ⟨hs, by simp⟩
  | r :: rs, st, hr, hs => by
    obtain ⟨p1, p2⟩ := push_ok ha (hr r List.mem_cons_self) he hs
    obtain ⟨q1, q2⟩ := pushes_ok ha he rs _ (fun r m => hr r (List.mem_cons_of_mem _ m)) p1
    refine ⟨q1, ?_⟩
    rw [List.foldl_cons, List.length_cons, Nat.succ_mul]
    omega

/-- one turn -/
theorem dstep_ok {rs : List Rule} (hr : ∀ r ∈ rs, okRule r) (hl : rs.length ≤ 5) {told : List (List Int)} {e : Ent} {st : List Ent} (hs : ∀ e' ∈ e :: st, okE e') :
    (∀ e' ∈ (dstep rs (told, e :: st)).2, okE e') ∧ mu (dstep rs (told, e :: st)).2 < mu (e :: st) ∧ (dstep rs (told, e :: st)).1.length + mu (dstep rs (told, e :: st)).2 ≤ told.length + mu (e :: st) := by
  obtain ⟨d, b⟩ := e
  have hp : 0 < 6 ^ wM (d, b) := Nat.pow_pos (by decide)
  cases b with
  | nil =>
    simp only [dstep, mu_cons, List.length_append, List.length_singleton]
    exact ⟨fun e m => hs e (List.mem_cons_of_mem _ m), by omega, by omega⟩
  | cons a b =>
    have he := hs _ List.mem_cons_self
    have hst : ∀ e ∈ st, okE e := fun e m => hs e (List.mem_cons_of_mem _ m)
    have e1 := he.len
    simp only [List.length_cons] at e1
    by_cases ha : a < 256
    · simp only [dstep, if_pos ha, mu_cons]
      have : wM (d ++ [a], b) + 1 = wM (d, a :: b) := by
        unfold wM
        have : nt (a :: b) = nt b := by simp [nt, ha]
        simp only [this, List.length_append, List.length_cons, List.length_nil]
        omega
      have h2 : 6 ^ wM (d ++ [a], b) < 6 ^ wM (d, a :: b) := Nat.pow_lt_pow_right (by decide) (by omega)
      refine ⟨fun e m => ?_, by omega, by omega⟩
      rcases List.mem_cons.mp m with rfl | m
      · exact ⟨fun x hx => he.pos x (List.mem_cons_of_mem _ hx), by simp only [List.length_append, List.length_singleton]; omega⟩
      · exact hst e m
    · simp only [dstep, if_neg ha, mu_cons]
      obtain ⟨q1, q2⟩ := pushes_ok ha he rs st hr hst
      have hw : 1 ≤ wM (d, a :: b) := by unfold wM; simp only [List.length_cons]; omega
      have h6 : 6 ^ wM (d, a :: b) = 6 * 6 ^ (wM (d, a :: b) - 1) := by
        rw [← Nat.pow_succ']; congr 1; omega
      have hp' : 0 < 6 ^ (wM (d, a :: b) - 1) := Nat.pow_pos (by decide)
      have h5 : rs.length * 6 ^ (wM (d, a :: b) - 1) ≤ 5 * 6 ^ (wM (d, a :: b) - 1) := Nat.mul_le_mul_right _ hl
      refine ⟨q1, by omega, by omega⟩

theorem drun_add (rs : List Rule) : ∀ (n m : Nat) (s : DS), drun rs (n + m) s = drun rs m (drun rs n s)
  | 0, m, s => by rw [Nat.zero_add]; rfl
  | n + 1, m, s => by rw [Nat.succ_add]; exact drun_add rs n m (dstep rs s)
theorem drun_succ (rs : List Rule) (n : Nat) (s : DS) : drun rs (n + 1) s = dstep rs (drun rs n s) := drun_add rs n 1 s

def Ends (rs : List Rule) (told : List (List Int)) : Prop := ∃ n, drun rs n ([], [([], [256])]) = (told, [])
theorem Ends.uniq {rs : List Rule} {t t' : List (List Int)} (h : Ends rs t) (h' : Ends rs t') : t = t' := by
  obtain ⟨n, h⟩ := h
  obtain ⟨m, h'⟩ := h'
  have e1 := drun_add rs n m ([], [([], [256])])
  have e2 := drun_add rs m n ([], [([], [256])])
  rw [h, drun_nil] at e1
  rw [h', drun_nil] at e2
  rw [Nat.add_comm m n, e1] at e2
  exact (Prod.mk.inj e2).1
open Classical in
noncomputable def derivedN (rs : List Rule) : List (List Int) := if h : ∃ t, Ends rs t then Classical.choose h else []
theorem derivedN_eq {rs : List Rule} {t : List (List Int)} (h : Ends rs t) : derivedN rs = t := by
  unfold derivedN
  have q : ∃ t, Ends rs t := ⟨t, h⟩
  rw [dif_pos q]
  exact (Classical.choose_spec q).uniq h
noncomputable def derived (front : Bool) (rs : List Rule) : List (List Int) := (derivedN (flipR front rs)).map fun d => if front then d else d.reverse
theorem derived_eq {front : Bool} {rs : List Rule} {told : List (List Int)} (h : Ends (flipR front rs) told) : told.map (encD front) = (derived front rs).map eL := by
  unfold derived
  rw [derivedN_eq h, List.map_map]
  rfl

theorem mu_start : mu [([], [256])] = 1679616 := by decide
theorem ok_start : okE ([], [256]) := ⟨by simp, by simp⟩

/-- what a turn of the text does to what the state stands for -/
theorem step_shift {front : Bool} {rs : List Rule} {told : List (List Int)} {d b : List Int} {a : Int} {st : List Ent} (ha : a < 256) (ha0 : 0 < a) :
    tailT a (if front then d else d.reverse) (told.map (encD front)) = (dstep (flipR front rs) (told, (d, a :: b) :: st)).1.map (encD front) ∧
    tailW front a (if front then d else d.reverse) (encF front b) rs (st.reverse.map (encE front)) = (dstep (flipR front rs) (told, (d, a :: b) :: st)).2.reverse.map (encE front) := by
  simp only [dstep, if_pos ha, tailT, tailW, if_neg (show a ≠ 0 by omega), List.reverse_cons, List.map_append]
  refine ⟨trivial, ?_⟩
  congr 1
  cases front <;> simp [encE, encD, encF]

theorem step_told {front : Bool} {rs : List Rule} {told : List (List Int)} {d : List Int} {st : List Ent} (r0 : List Int) :
    tailT 0 (if front then d else d.reverse) (told.map (encD front)) = (dstep (flipR front rs) (told, (d, []) :: st)).1.map (encD front) ∧
    tailW front 0 (if front then d else d.reverse) r0 rs (st.reverse.map (encE front)) = (dstep (flipR front rs) (told, (d, []) :: st)).2.reverse.map (encE front) := by
  simp only [dstep, tailT, tailW, if_pos, List.map_append]
  exact ⟨rfl, trivial⟩

theorem pushes_enc {front : Bool} {d b : List Int} {a : Int} : ∀ (rs : List Rule) (st : List Ent),
    rs.foldl (pushW front a (if front then d else d.reverse) (encF front b)) (st.reverse.map (encE front)) = ((flipR front rs).foldl (push1 d a b) st).reverse.map (encE front)
  | [], st => by cases front <;> rfl
  | r :: rs, st => by
    have e : (pushW front a (if front then d else d.reverse) (encF front b)) (st.reverse.map (encE front)) r = (push1 d a b st (if front then r else (r.1, r.2.reverse))).reverse.map (encE front) := by
      unfold pushW push1
      cases front
      · simp only [Bool.false_eq_true, if_false, encF, List.length_reverse, List.length_cons]
        split
        · simp [encE, encD, encF]
        · rfl
      · simp only [if_true, encF, List.length_append, List.length_singleton]
        split
        · simp [encE, encD, encF]
        · rfl
    have f : flipR front (r :: rs) = (if front then r else (r.1, r.2.reverse)) :: flipR front rs := by cases front <;> rfl
    rw [List.foldl_cons, e, f, List.foldl_cons]
    exact pushes_enc rs _

theorem step_expand {front : Bool} {rs : List Rule} {told : List (List Int)} {d b : List Int} {a : Int} {st : List Ent} (ha : ¬ a < 256) :
    tailT a (if front then d else d.reverse) (told.map (encD front)) = (dstep (flipR front rs) (told, (d, a :: b) :: st)).1.map (encD front) ∧
    tailW front a (if front then d else d.reverse) (encF front b) rs (st.reverse.map (encE front)) = (dstep (flipR front rs) (told, (d, a :: b) :: st)).2.reverse.map (encE front) := by
  simp only [dstep, if_neg ha, tailT, tailW, if_neg (show a ≠ 0 by omega)]
  exact ⟨trivial, pushes_enc rs st⟩
end Mine


open PySem PySem.W PyProof.Rows PySem.Calls PySem.Spec
set_option Elab.async false
set_option maxRecDepth 100000
set_option linter.unusedVariables false
namespace Mine

local macro_rules | `(tactic| walk_at "lk") => `(tactic| first | with_reducible exact lk_hd | ((with_reducible refine lk_tl (by decide) ?_); walk_at "lk"))
local macro_rules | `(tactic| walk_at "kd") => `(tactic| first | exact kd (by assumption) (by decide +kernel) | exact kdc (by assumption) (by decide +kernel))
local macro_rules | `(tactic| walk_at "ow") => `(tactic| first | exact ow_fn (by assumption) (by assumption) (by first | exact Or.inl (by decide +kernel) | exact Or.inr (by decide +kernel)) | exact InC.own (by assumption) _ (by first | exact Or.inl (by decide +kernel) | exact Or.inr (by decide +kernel)))
local macro_rules | `(tactic| walk_at "ev") => `(tactic| first
  | with_reducible exact ev_int _ _ _
  | with_reducible exact ev_bool _ _ _
  | ((with_reducible refine' ev_name ?k1 ?k2); (case k1 => walk_at "lk"); (case k2 => decide))
  | ((with_reducible refine' ev_add ?k1 ?k2); (case k1 => walk_at "eb"); (case k2 => walk_at "eb"))
  | ((with_reducible refine' ev_sub ?k1 ?k2); (case k1 => walk_at "eb"); (case k2 => walk_at "eb"))
  | ((with_reducible refine' ev_mod ?k1 ?k2 ?k3); (case k1 => walk_at "eb"); (case k2 => walk_at "eb"); (case k3 => decide))
  | ((with_reducible refine' ev_neg ?k1); (case k1 => walk_at "ev"))
  | ((with_reducible refine' ev_div ?k1 ?k2 ?k3 ?k4); (case k1 => walk_at "eb"); (case k2 => walk_at "eb"); (case k3 => decide); (case k4 => exact PyProof.noPylong_small (by decide)))
  | ((with_reducible refine' ev_list ?k1 ?k2); (case k1 => walk_at "el"); (case k2 => rw [sizeLine_eq]; exact Nat.le_of_ble_eq_true rfl)))
local macro_rules | `(tactic| walk_at "eb") => `(tactic| first
  | ((with_reducible refine' eb_own ?k1 ?k2); (case k1 => walk_at "lk"); (case k2 => decide))
  | ((with_reducible refine' EvE.b ?k1); (case k1 => walk_at "ev")))
local macro_rules | `(tactic| walk_at "el") => `(tactic| first
  | with_reducible exact el_nil
  | ((with_reducible refine' el_cons ?k1 ?k2 ?k3); (case k1 => walk_at "ev"); (case k2 => walk_at "el"); (case k3 => rfl)))
local macro_rules | `(tactic| walk_at "sub") => `(tactic| first
  | with_reducible exact sub_nil
  | ((with_reducible refine' sub_cons ?k1 ?k2); (case k1 => walk_at "lk"); (case k2 => walk_at "sub")))

section
variable {c : Cx} {mg mb : Str → Option Value} {A : Around} {env : Env} {ρ : PS}

theorem EvB.eq {e : Expr} {d d' : PyData} (x : EvB c A env ρ e d) (q : d = d') : EvB c A env ρ e d' := q ▸ x

theorem sh_E (front : Bool) (l : List Ent) : SeqAt.shaped (.list (l.map (encE front))) = true := by
  have h1 : ∀ e : Ent, (encE front e).canLay0 = true := fun e => by simp [encE, encD, PyData.canLay0, PyData.canLayAll0, ke_canLayAll0]
  have h2 : ∀ e : Ent, (encE front e).depth = 2 := fun e => by simp [encE, encD, PyData.depth, PyData.depthAll, ke_depthAll]
  have h3 : PyData.canLayAll0 (l.map (encE front)) = true ∧ PyData.depthAll (l.map (encE front)) ≤ 2 := by
    induction l with
    | nil => exact ⟨rfl, Nat.zero_le _⟩
    | cons e l ih =>
      rw [List.map_cons]
      refine ⟨by rw [PyData.canLayAll0, h1, ih.1]; rfl, ?_⟩
      rw [PyData.depthAll, h2]; omega
  unfold SeqAt.shaped
  rw [show (PyData.list (l.map (encE front))).canLay0 = true from h3.1]
  have : (PyData.list (l.map (encE front))).depth ≤ 64 := by
    show PyData.depthAll _ + 1 ≤ 64
    omega
  simp [this]

theorem walk_derived (G : Gx c mg mb) (lv : Lv A 1) (hs : env.scope = (fdef 8).2.2.2) (ho : ∀ x a, env.cells.lookup x = some a → env.locals < a) (front : Bool) (rs : List Rule) (hl : rs.length ≤ 5) (hr : ∀ r ∈ rs, okRule r) :
    ExecS c A env [("rules", .imm (.list (rs.map eR))), ("front", .imm (.bool front))] (fdef 8).2.2.1 (fun q _ => q = some (.list ((derived front rs).map eL))) := by
  have hr2 : ∀ r ∈ rs, r.2.length ≤ 10 := fun r m => by
    rcases (hr r m).2.2 with ⟨s, e, _⟩ | ⟨x, y, e, _⟩ <;> rw [e] <;> simp
  refine' ex_own ?ow (en_list el_nil (by decide)) ?k1
  case ow => walk_at "ow"
  case k1 =>
  refine' ex_own (ds := [encE front ([], [256])]) ?ow2 (en_list (el_cons (EvE.eq (d := .list [.list [], eL (encF front [256])]) (ev_list (el_cons (ev_list el_nil (by decide)) (el_cons ?v2 el_nil)) (by rw [sizeLine_eq]; exact Nat.le_of_ble_eq_true rfl)) (by cases front <;> rfl)) el_nil) (by rw [sizeLine_eq]; exact Nat.le_of_ble_eq_true rfl)) ?k2
  case ow2 => walk_at "ow"
  case v2 =>
    refine' ev_ife (k := front) (et_plain ?t3 ?p3) ?y3 ?z3
    case p3 => intro _; rfl
    case t3 => walk_at "ev"
    case y3 => rintro rfl; show EvE c A env _ _ (.list [.int 256, .int 0]); walk_at "ev"
    case z3 => rintro rfl; show EvE c A env _ _ (.list [.int 0, .int 256]); walk_at "ev"
  case k2 =>
  refine' ex_while (fun σ : DS => [("told", .own (σ.1.map (encD front))), ("waiting", .own (σ.2.reverse.map (encE front))), ("rules", .imm (.list (rs.map eR))), ("front", .imm (.bool front))])
    (fun σ => (∀ e ∈ σ.2, okE e) ∧ σ.1.length + mu σ.2 ≤ 1679616 ∧ ∃ n, drun (flipR front rs) n ([], [([], [256])]) = σ) (fun σ => mu σ.2) ([], [([], [256])]) ?w0 ?p0 ?turn
  case w0 =>
    show Sub [("told", .own []), ("waiting", .own [encE front ([], [256])]), ("rules", .imm (.list (rs.map eR))), ("front", .imm (.bool front))] _
    walk_at "sub"
  case p0 =>
    refine ⟨fun e m => ?_, by rw [mu_start]; decide, 0, rfl⟩
    rw [List.mem_singleton] at m; subst m; exact ok_start
  case turn =>
    rintro ⟨told, st⟩ ⟨hok, hm, j, hrun⟩
    refine ⟨!(PyData.list (st.reverse.map (encE front))).eqv (.list []), ?_, ?_, ?_⟩
    · refine' et_cmp ?a4 ?b4 (fun a b h X p q => op_neD p q (sh_E front _) rfl lv.u) rfl
      case a4 => walk_at "eb"
      case b4 => walk_at "eb"
    · intro hb
      cases st with
      | nil => simp [PyData.eqv, PyData.eqvAll] at hb
      | cons e st =>
        obtain ⟨d, b⟩ := e
        have he := hok _ List.mem_cons_self
        have hlen : d.length + b.length ≤ 3 := he.len
        have hp6 : 0 < 6 ^ wM (d, b) := Nat.pow_pos (by decide)
        have hml := mu_len st
        have hmc := mu_cons (d, b) st
        simp only at hm
        obtain ⟨s1, s2, s3⟩ := dstep_ok (okFlip (front := front) hr) (by rw [flip_len]; exact hl) hok (told := told)
        have hfin : ∀ σ', dstep (flipR front rs) (told, (d, b) :: st) = σ' → ((∀ e ∈ σ'.2, okE e) ∧ σ'.1.length + mu σ'.2 ≤ 1679616 ∧ ∃ n, drun (flipR front rs) n ([], [([], [256])]) = σ') ∧ mu σ'.2 < mu ((d, b) :: st) := by
          rintro σ' rfl
          exact ⟨⟨s1, by omega, j + 1, by rw [drun_succ, hrun]⟩, s2⟩
        simp only [List.reverse_cons, List.map_append, List.map_cons, List.map_nil]
        refine' ex_pop (ds := st.reverse.map (encE front)) (d := encE front (d, b)) ?l5 rfl (tgt_two lv.hh ?o5 ?o6) ?s5 ?k5 ?h5
        case l5 => walk_at "lk"
        case o5 => walk_at "ow"
        case o6 => walk_at "ow"
        case s5 => rw [sizeLine_eq]; simp only [List.length_map, List.length_reverse]; omega
        case h5 => decide
        case k5 =>
        show ExecS c A env [("form", .imm (eL (encF front b))), ("done", .imm (encD front d)), ("waiting", .own (st.reverse.map (encE front))), ("told", .own (told.map (encD front))), ("waiting", _), ("rules", .imm (.list (rs.map eR))), ("front", .imm (.bool front))] _ _
        -- head and rest
        have fin : ∀ (hd : Int) (r0 : List Int), (hd = 0 → r0 = []) → r0.length ≤ 10 →
            (tailT hd (if front then d else d.reverse) (told.map (encD front)) = (dstep (flipR front rs) (told, (d, b) :: st)).1.map (encD front) ∧
              tailW front hd (if front then d else d.reverse) r0 rs (st.reverse.map (encE front)) = (dstep (flipR front rs) (told, (d, b) :: st)).2.reverse.map (encE front)) →
            ExecS c A env [("rest", .imm (eL r0)), ("head", .imm (.int hd)), ("form", .imm (eL (encF front b))), ("done", .imm (encD front d)), ("waiting", .own (st.reverse.map (encE front))), ("told", .own (told.map (encD front))), ("waiting", .own (st.reverse.map (encE front) ++ [encE front (d, b)])), ("rules", .imm (.list (rs.map eR))), ("front", .imm (.bool front))] (whileBody.drop 3)
              (fun r ρ' => r = none ∧ ∃ σ', ((∀ e ∈ σ'.2, okE e) ∧ σ'.1.length + mu σ'.2 ≤ 1679616 ∧ ∃ n, drun (flipR front rs) n ([], [([], [256])]) = σ') ∧ mu σ'.2 < mu ((d, b) :: st) ∧ Sub [("told", .own (σ'.1.map (encD front))), ("waiting", .own (σ'.2.reverse.map (encE front))), ("rules", .imm (.list (rs.map eR))), ("front", .imm (.bool front))] ρ') := by
          intro hd r0 h0 hr0 ⟨e1, e2⟩
          have W := walk_tail G lv hs ho front (told.map (encD front)) (st.reverse.map (encE front)) (if front then d else d.reverse) r0 hd rs h0 (by rw [List.length_map]; omega) (by simp only [List.length_map, List.length_reverse]; omega)
            (by cases front <;> simp <;> omega) hr0 hl hr2
          rw [e1, e2] at W
          refine (W.weak ?_).mono fun r ρ' q => ⟨q.1, _, (hfin _ rfl).1, (hfin _ rfl).2, q.2⟩
          show Sub [("rest", .imm (eL r0)), ("head", .imm (.int hd)), ("done", .imm (encD front d)), ("waiting", .own (st.reverse.map (encE front))), ("told", .own (told.map (encD front))), ("rules", .imm (.list (rs.map eR))), ("front", .imm (.bool front))] _
          walk_at "sub"
        cases b with
        | nil =>
          refine' ex_assign (d := .int 0) ?o7 ?v7 (ex_assign (d := eL []) ?o8 ?v8 (fin 0 [] (fun _ => rfl) (by simp) (step_told [])))
          case o7 => walk_at "ow"
          case o8 => walk_at "ow"
          case v7 =>
            refine' ev_ife (k := front) (et_plain ?t9 ?p9) ?y9 ?z9
            case p9 => intro _; rfl
            case t9 => walk_at "ev"
            case y9 =>
              rintro rfl
              refine ev_item (ds := [.int 0]) (k := 0) ?_ (ev_int _ _ _) (by decide) (by decide) rfl
              refine EvB.eq (d := eL (encF true [])) ?_ rfl
              walk_at "eb"
            case z9 =>
              rintro rfl
              refine ev_last (ds := []) (d := .int 0) ?_ (ev_neg (ev_int _ _ _))
              refine EvB.eq (d := eL (encF false [])) ?_ rfl
              walk_at "eb"
          case v8 =>
            refine' ev_ife (k := front) (et_plain ?t10 ?p10) ?y10 ?z10
            case p10 => intro _; rfl
            case t10 => walk_at "ev"
            case y10 =>
              rintro rfl
              refine EvE.eq (ev_from (ds := [.int 0]) (k := 1) ?_ (ev_int _ _ _) (by rw [sizeLine_eq]; exact Nat.le_of_ble_eq_true rfl)) rfl
              refine EvB.eq (d := eL (encF true [])) ?_ rfl
              walk_at "eb"
            case z10 =>
              rintro rfl
              refine EvE.eq (ev_butlast (ds := [.int 0]) ?_ (ev_neg (ev_int _ _ _)) (by rw [sizeLine_eq]; exact Nat.le_of_ble_eq_true rfl)) rfl
              refine EvB.eq (d := eL (encF false [])) ?_ rfl
              walk_at "eb"
        | cons a b =>
          have hpa := he.pos a List.mem_cons_self
          simp only [List.length_cons] at hlen
          refine' ex_assign (d := .int a) ?o11 ?v11 (ex_assign (d := eL (encF front b)) ?o12 ?v12 (fin a (encF front b) (fun q => by omega) (by cases front <;> simp [encF] <;> omega) ?s12))
          case s12 =>
            by_cases ha : a < 256
            · exact step_shift ha hpa
            · exact step_expand ha
          case o11 => walk_at "ow"
          case o12 => walk_at "ow"
          case v11 =>
            refine' ev_ife (k := front) (et_plain ?t13 ?p13) ?y13 ?z13
            case p13 => intro _; rfl
            case t13 => walk_at "ev"
            case y13 =>
              rintro rfl
              refine ev_item (ds := (a :: b ++ [0]).map .int) (k := 0) ?_ (ev_int _ _ _) (by decide) (by decide) rfl
              refine EvB.eq (d := eL (encF true (a :: b))) ?_ rfl
              walk_at "eb"
            case z13 =>
              rintro rfl
              refine ev_last (ds := (0 :: b.reverse).map .int) (d := .int a) ?_ (ev_neg (ev_int _ _ _))
              refine EvB.eq (d := eL (encF false (a :: b))) ?_ (by simp [eL, encF])
              walk_at "eb"
          case v12 =>
            refine' ev_ife (k := front) (et_plain ?t14 ?p14) ?y14 ?z14
            case p14 => intro _; rfl
            case t14 => walk_at "ev"
            case y14 =>
              rintro rfl
              refine EvE.eq (ev_from (ds := (a :: b ++ [0]).map .int) (k := 1) ?_ (ev_int _ _ _) (by rw [sizeLine_eq]; simp; omega)) (by simp [eL, encF])
              refine EvB.eq (d := eL (encF true (a :: b))) ?_ rfl
              walk_at "eb"
            case z14 =>
              rintro rfl
              refine EvE.eq (ev_butlast (ds := (0 :: b.reverse ++ [a]).map .int) ?_ (ev_neg (ev_int _ _ _)) (by rw [sizeLine_eq]; simp; omega)) (by simp [eL, encF])
              refine EvB.eq (d := eL (encF false (a :: b))) ?_ (by simp [eL, encF])
              walk_at "eb"
    · intro hb
      cases st with
      | cons e st =>
        rw [List.reverse_cons, List.map_append] at hb
        cases hx : st.reverse.map (encE front) with
        | nil => rw [hx] at hb; simp [PyData.eqv, PyData.eqvAll] at hb
        | cons _ _ => rw [hx] at hb; simp [PyData.eqv, PyData.eqvAll] at hb
      | nil =>
        have e : told.map (encD front) = (derived front rs).map eL := derived_eq ⟨j, hrun⟩
        refine' ex_disown "told" (ds := told.map (encD front)) ?l15 (ex_ret (d := .list (told.map (encD front))) ?v15 ?p15)
        case l15 => walk_at "lk"
        case v15 => walk_at "ev"
        case p15 => rw [e]

theorem fn_derived (G : Gx c mg mb) : ∃ a o fd, mg "_law_derived" = some (.ref a) ∧ c.g.get? a = some o ∧ o.data = .func fd ∧ FnOk c 2 a (fun ds r => ∃ front rs, ds = [.list (rs.map eR), .bool front] ∧ rs.length ≤ 5 ∧ (∀ r ∈ rs, okRule r) ∧ r = .list ((derived front rs).map eL)) :=
  fn_two G 8 "rules" "front" _ (by simp) (fun pm cd doc v w => by rfl) (.inl (by decide +kernel)) (.inl (by decide +kernel)) (by decide) (by decide +kernel) (by decide +kernel) (by decide +kernel) (by decide +kernel)
    (fun ds r ⟨_, _, e, _⟩ => by rw [e]; rfl) fun A env hs ho lv d e r ⟨front, rs, h1, h2, h3, h4⟩ => by
      cases h1; subst h4
      exact walk_derived G lv hs ho front rs h2 h3
end
end Mine


open PySem PySem.W PyProof.Rows PySem.Calls PySem.Spec
set_option Elab.async false
set_option maxRecDepth 100000
set_option linter.unusedVariables false
set_option linter.unusedSimpArgs false
namespace Mine

def cnt1 (rs : List Rule) (A x : Int) : Int := ((rs.filter fun r => r.1 == A && decide (r.2 = [x])).length : Nat)

/-- trees of an inner symbol over a row: with fuel -/
noncomputable def tr (rs : List Rule) : Nat → List Int → Int → Int
  | 0, _, _ => 0
  | n + 1, u, A => match u with
    | [] => 0
    | [x] => cnt1 rs A x
    | u => (rs.map fun r => if r.1 = A then (match r.2 with
        | [B, C] => ((List.range (u.length - 1)).map fun i => tr rs n (u.take (1 + i)) B * tr rs n (u.drop (1 + i)) C).sum
        | _ => 0) else 0).sum
noncomputable def T (rs : List Rule) (u : List Int) (A : Int) : Int := tr rs u.length u A

theorem tr_fuel (rs : List Rule) : ∀ (n m : Nat) (u : List Int) (A : Int), u.length ≤ n → u.length ≤ m → tr rs n u A = tr rs m u A
  | 0, 0, _, _, _, _ => rfl
  | 0, m + 1, u, A, h, _ => by
    have : u = [] := List.length_eq_zero_iff.mp (by omega)
    subst this; rfl
  | n + 1, 0, u, A, _, h => by
    have : u = [] := List.length_eq_zero_iff.mp (by omega)
    subst this; rfl
  | n + 1, m + 1, u, A, hn, hm => by
    match u with
    | [] => rfl
    | [x] => rfl
    | x :: y :: u =>
      simp only [tr]
      congr 1
      apply List.map_congr_left
      intro r _
      split
      · split
        · congr 1
          apply List.map_congr_left
          intro i hi
          rw [List.mem_range] at hi
          simp only [List.length_cons] at hn hm hi
          rw [tr_fuel rs n m _ _ (by rw [List.length_take]; simp only [List.length_cons]; omega) (by rw [List.length_take]; simp only [List.length_cons]; omega),
            tr_fuel rs n m _ _ (by rw [List.length_drop]; simp only [List.length_cons]; omega) (by rw [List.length_drop]; simp only [List.length_cons]; omega)]
        · rfl
      · rfl

theorem T_nil (rs : List Rule) (A : Int) : T rs [] A = 0 := rfl
theorem T_one (rs : List Rule) (x A : Int) : T rs [x] A = cnt1 rs A x := rfl
/-- what a rule brings to the trees over u -/
noncomputable def contrib (rs : List Rule) (u : List Int) (r : Rule) : Int := match r.2 with
  | [B, C] => ((List.range (u.length - 1)).map fun i => T rs (u.take (1 + i)) B * T rs (u.drop (1 + i)) C).sum
  | _ => 0
theorem T_more (rs : List Rule) {u : List Int} (h : 2 ≤ u.length) (A : Int) : T rs u A = (rs.map fun r => if r.1 = A then contrib rs u r else 0).sum := by
  match u, h with
  | x :: y :: u, _ =>
    show tr rs ((y :: u).length + 1) (x :: y :: u) A = _
    simp only [tr]
    congr 1
    apply List.map_congr_left
    intro r _
    unfold contrib
    split
    · split
      · congr 1
        apply List.map_congr_left
        intro i hi
        rw [List.mem_range] at hi
        simp only [List.length_cons] at hi
        unfold T
        rw [tr_fuel rs ((y :: u).length) ((List.take (1 + i) (x :: y :: u)).length) _ _ (by rw [List.length_take]; simp only [List.length_cons]; omega) (Nat.le_refl _),
          tr_fuel rs ((y :: u).length) ((List.drop (1 + i) (x :: y :: u)).length) _ _ (by rw [List.length_drop]; simp only [List.length_cons]; omega) (Nat.le_refl _)]
      · rfl
    · rfl

theorem cnt1_bd (rs : List Rule) (A x : Int) : 0 ≤ cnt1 rs A x ∧ cnt1 rs A x ≤ rs.length := by
  unfold cnt1
  refine ⟨Int.natCast_nonneg _, ?_⟩
  exact_mod_cast List.length_filter_le _ rs

theorem sum_bd {α : Type} (f : α → Int) (K : Int) : ∀ l : List α, (∀ a ∈ l, 0 ≤ f a ∧ f a ≤ K) → 0 ≤ (l.map f).sum ∧ (l.map f).sum ≤ l.length * K
  | [], _ => by simp
  | a :: l, h => by
    have h1 := h a List.mem_cons_self
    have h2 := sum_bd f K l fun a m => h a (List.mem_cons_of_mem _ m)
    rw [List.map_cons, List.sum_cons, List.length_cons]
    have : ((l.length + 1 : Nat) : Int) * K = l.length * K + K := by push_cast; rw [Int.add_mul, Int.one_mul]
    rw [this]
    omega

/-- small rows have few trees -/
theorem T_bd {rs : List Rule} (hl : rs.length ≤ 5) {u : List Int} (hu : u.length ≤ 2) (A : Int) : 0 ≤ T rs u A ∧ T rs u A ≤ 125 := by
  match u, hu with
  | [], _ => rw [T_nil]; exact ⟨Int.le_refl _, by decide⟩
  | [x], _ =>
    rw [T_one]
    have := cnt1_bd rs A x
    omega
  | [x, y], _ =>
    rw [T_more rs (by simp)]
    have h : ∀ r ∈ rs, 0 ≤ (if r.1 = A then contrib rs [x, y] r else 0) ∧ (if r.1 = A then contrib rs [x, y] r else 0) ≤ 25 := fun r _ => by
      split
      · unfold contrib
        split
        · rename_i B C _
          have e : (List.map (fun i => T rs (List.take (1 + i) [x, y]) B * T rs (List.drop (1 + i) [x, y]) C) (List.range ([x, y].length - 1))).sum = cnt1 rs B x * cnt1 rs C y := by
            show (List.map _ [0]).sum = _
            simp only [List.map_cons, List.map_nil, List.sum_cons, List.sum_nil, Int.add_zero]
            rfl
          rw [e]
          have h1 := cnt1_bd rs B x
          have h2 := cnt1_bd rs C y
          refine ⟨Int.mul_nonneg h1.1 h2.1, ?_⟩
          have : cnt1 rs B x * cnt1 rs C y ≤ 5 * 5 := Int.mul_le_mul (by omega) (by omega) h2.1 (by decide)
          omega
        · exact ⟨Int.le_refl _, by decide⟩
      · exact ⟨Int.le_refl _, by decide⟩
    have := sum_bd _ 25 rs h
    omega

def seg (row : List Int) (st s : Nat) : List Int := (row.drop st).take s
def eV (f : Int → Int) : PyData := .list [.int (f 256), .int (f 257), .int (f 258)]
noncomputable def cellD (rs : List Rule) (row : List Int) (s st : Nat) : PyData := eV (T rs (seg row st s))
noncomputable def lineD (rs : List Rule) (row : List Int) (s : Nat) : PyData := .list ((List.range (row.length + 1 - s)).map (cellD rs row s))

theorem seg_len {row : List Int} {st s : Nat} (h : st + s ≤ row.length) : (seg row st s).length = s := by
  unfold seg; rw [List.length_take, List.length_drop]; omega
theorem seg_take {row : List Int} {st s k : Nat} (h : k ≤ s) : (seg row st s).take k = seg row st k := by
  unfold seg; rw [List.take_take, Nat.min_eq_left h]
theorem seg_drop {row : List Int} {st s k : Nat} : (seg row st s).drop k = seg row (st + k) (s - k) := by
  unfold seg; rw [List.drop_take, List.drop_drop]
theorem seg_one {row : List Int} {st : Nat} {x : Int} (h : row[st]? = some x) : seg row st 1 = [x] := by
  unfold seg
  have hlt := (List.getElem?_eq_some_iff.mp h).1
  rw [List.drop_eq_getElem_cons hlt]
  rw [List.getElem?_eq_getElem hlt] at h
  cases h; rfl
theorem seg_all (row : List Int) : seg row 0 row.length = row := by unfold seg; rw [List.drop_zero, List.take_length]

/-- the first line -/
theorem line_one (rs : List Rule) (row : List Int) : lineD rs row 1 = .list (row.map fun x => eV fun A => cnt1 rs A x) := by
  unfold lineD
  congr 1
  apply List.ext_getElem?
  intro i
  rw [List.getElem?_map, List.getElem?_map, Nat.add_sub_cancel]
  by_cases h : i < row.length
  · rw [List.getElem?_range h, List.getElem?_eq_getElem h]
    simp only [Option.map_some, cellD]
    rw [seg_one (List.getElem?_eq_getElem h)]
    rfl
  · rw [List.getElem?_eq_none (by simpa using h), List.getElem?_eq_none (by omega)]; rfl

/-- what one cut brings -/
theorem contrib_eq {rs : List Rule} {row : List Int} {st s : Nat} (h : st + s ≤ row.length) {r : Rule} {B C : Int} (hr : r.2 = [B, C]) :
    contrib rs (seg row st s) r = ((List.range (s - 1)).map fun i => T rs (seg row st (1 + i)) B * T rs (seg row (st + (1 + i)) (s - (1 + i))) C).sum := by
  unfold contrib
  rw [hr]
  simp only [seg_len h]
  congr 1
  apply List.map_congr_left
  intro i hi
  rw [List.mem_range] at hi
  rw [seg_take (by omega), seg_drop]

theorem foldl_sum {α : Type} (f : α → Int → Int) : ∀ (l : List α) (g : Int → Int) (A : Int), (l.foldl (fun g a => fun A => g A + f a A) g) A = g A + (l.map fun a => f a A).sum
  | [], g, A => by simp
  | a :: l, g, A => by
    rw [List.foldl_cons, foldl_sum f l, List.map_cons, List.sum_cons]
    omega
end Mine


open PySem PySem.W PyProof.Rows PySem.Calls PySem.Spec
set_option Elab.async false
set_option maxRecDepth 100000
set_option linter.unusedVariables false
namespace Mine

local macro_rules | `(tactic| walk_at "lk") => `(tactic| first | with_reducible exact lk_hd | ((with_reducible refine lk_tl (by decide) ?_); walk_at "lk"))
local macro_rules | `(tactic| walk_at "kd") => `(tactic| first | exact kd (by assumption) (by decide +kernel) | exact kdc (by assumption) (by decide +kernel))
local macro_rules | `(tactic| walk_at "ow") => `(tactic| first | exact ow_fn (by assumption) (by assumption) (by first | exact Or.inl (by decide +kernel) | exact Or.inr (by decide +kernel)) | exact InC.own (by assumption) _ (by first | exact Or.inl (by decide +kernel) | exact Or.inr (by decide +kernel)))
local macro_rules | `(tactic| walk_at "ev") => `(tactic| first
  | with_reducible exact ev_int _ _ _
  | with_reducible exact ev_bool _ _ _
  | ((with_reducible refine' ev_name ?k1 ?k2); (case k1 => walk_at "lk"); (case k2 => decide))
  | ((with_reducible refine' ev_add ?k1 ?k2); (case k1 => walk_at "eb"); (case k2 => walk_at "eb"))
  | ((with_reducible refine' ev_sub ?k1 ?k2); (case k1 => walk_at "eb"); (case k2 => walk_at "eb"))
  | ((with_reducible refine' ev_mod ?k1 ?k2 ?k3); (case k1 => walk_at "eb"); (case k2 => walk_at "eb"); (case k3 => decide))
  | ((with_reducible refine' ev_neg ?k1); (case k1 => walk_at "ev"))
  | ((with_reducible refine' ev_div ?k1 ?k2 ?k3 ?k4); (case k1 => walk_at "eb"); (case k2 => walk_at "eb"); (case k3 => decide); (case k4 => exact PyProof.noPylong_small (by decide)))
  | ((with_reducible refine' ev_list ?k1 ?k2); (case k1 => walk_at "el"); (case k2 => rw [sizeLine_eq]; exact Nat.le_of_ble_eq_true rfl)))
local macro_rules | `(tactic| walk_at "eb") => `(tactic| first
  | ((with_reducible refine' eb_own ?k1 ?k2); (case k1 => walk_at "lk"); (case k2 => decide))
  | ((with_reducible refine' EvE.b ?k1); (case k1 => walk_at "ev")))
local macro_rules | `(tactic| walk_at "el") => `(tactic| first
  | with_reducible exact el_nil
  | ((with_reducible refine' el_cons ?k1 ?k2 ?k3); (case k1 => walk_at "ev"); (case k2 => walk_at "el"); (case k3 => rfl)))
local macro_rules | `(tactic| walk_at "sub") => `(tactic| first
  | with_reducible exact sub_nil
  | ((with_reducible refine' sub_cons ?k1 ?k2); (case k1 => walk_at "lk"); (case k2 => walk_at "sub")))


/-- a scope's looks -/
theorem scok {S : Scope} {env : Env} (k : S.kind = .function) (u : (S.names.all fun p => S.names.lookup p.1 == some p.2) = true) (f : (S.names.filter fun p => p.2 == .free).all (fun p => env.kindOf p.1 == some .cell) = true) : ScOk S env :=
  ⟨k, fun p m => by have := List.all_eq_true.mp u p m; simpa using this, fun p m q => by
    have := List.all_eq_true.mp f p (List.mem_filter.mpr ⟨m, by simp [q]⟩)
    simpa using this⟩

local macro_rules | `(tactic| walk_at "scok") => `(tactic| (intro _; exact scok rfl (by decide +kernel) (by
  simp only [List.all_cons, List.all_nil, List.filter_cons, List.filter_nil]
  (try simp only [show (NameKind.local == NameKind.free) = false from rfl, show (NameKind.free == NameKind.free) = true from rfl, show (NameKind.cell == NameKind.free) = false from rfl, show (NameKind.globalImplicit == NameKind.free) = false from rfl, Bool.false_eq_true, if_false, if_true, List.all_cons, List.all_nil, Bool.and_true, Bool.and_eq_true, beq_iff_eq])
  (repeat' (first | apply And.intro | walk_at "kd" | rfl)))))
local macro_rules | `(tactic| walk_at "cap") => `(tactic| first
  | exact cap_nil
  | (refine' cap_cons ?k1 ?k2 ?k3; (case k1 => walk_at "lk"); (case k2 => decide +kernel); (case k3 => walk_at "cap")))

section
variable {c : Cx} {mg mb : Str → Option Value} {A : Around} {env : Env} {ρ : PS}

def eVl (g : Int → Int) : List PyData := [.int (g 256), .int (g 257), .int (g 258)]
theorem eV_at {g : Int → Int} {B : Int} (h1 : 256 ≤ B) (h2 : B < 259) : (eVl g)[(B - 256).toNat]? = some (.int (g B)) := by
  have : B = 256 ∨ B = 257 ∨ B = 258 := by omega
  rcases this with rfl | rfl | rfl <;> rfl
theorem eV_set {g : Int → Int} {l b : Int} (h1 : 256 ≤ l) (h2 : l < 259) : (eVl g).set (l - 256).toNat (.int (g l + b)) = eVl fun A => g A + if l = A then b else 0 := by
  have : l = 256 ∨ l = 257 ∨ l = 258 := by omega
  rcases this with rfl | rfl | rfl <;> simp [eVl]
theorem eV_congr {f g : Int → Int} (h : ∀ A, f A = g A) : eVl f = eVl g := by unfold eVl; rw [h, h, h]
theorem range_get {n i d : Nat} (h : (List.range n)[i]? = some d) : d = i ∧ i < n := by
  obtain ⟨a, b⟩ := List.getElem?_eq_some_iff.mp h
  rw [List.getElem_range] at b
  rw [List.length_range] at a
  exact ⟨b.symm, a⟩
theorem range_at {α : Type} (f : Nat → α) {n i : Nat} (h : i < n) : ((List.range n).map f)[i]? = some (f i) := by
  rw [List.getElem?_map, List.getElem?_range h]; rfl
theorem sum_ite {α : Type} (f : α → Int) (p : Prop) [Decidable p] : ∀ l : List α, (l.map fun a => if p then f a else 0).sum = if p then (l.map f).sum else 0
  | [] => by simp
  | a :: l => by
    rw [List.map_cons, List.sum_cons, sum_ite f p l, List.map_cons, List.sum_cons]
    split <;> simp
theorem foldl_count : ∀ (l : List Nat) (m : Nat), l.foldl (fun m _ => m + 1) m = m + l.length
  | [], m => rfl
  | a :: l, m => by rw [List.foldl_cons, foldl_count l, List.length_cons]; omega

theorem walk_trees (G : Gx c mg mb) (lv : Lv A 1) (hs : env.scope = (fdef 9).2.2.2) (ho : ∀ x a, env.cells.lookup x = some a → env.locals < a) (rs : List Rule) (row : List Int) (hl : rs.length ≤ 5) (hr : ∀ r ∈ rs, okRule r) (h1 : 1 ≤ row.length) (h3 : row.length ≤ 3) :
    ExecS c A env [("rules", .imm (.list (rs.map eR))), ("row", .imm (eL row))] (fdef 9).2.2.1 (fun q _ => q = some (.int (T rs row 256))) := by
  refine' ex_own (ds := [lineD rs row 1]) ?ow1 (en_list (el_cons ?v1 el_nil) (by rw [sizeLine_eq]; exact Nat.le_of_ble_eq_true rfl)) ?k1
  case ow1 => walk_at "ow"
  case v1 =>
    rw [line_one]
    refine' EvN.e (en_comp (ds := row.map .int) (outs := row.map fun x => eV fun A => cnt1 rs A x) [("rules", .imm (.list (rs.map eR)))] (ei_list lv.hh ?i1) ?s1 ?c1 ?l1)
    case i1 => walk_at "ev"
    case s1 => walk_at "scok"
    case c1 => walk_at "cap"
    case l1 =>
      intro cenv ic
      refine cl_map PyData.int (fun x => eV fun A => cnt1 rs A x) (by rw [sizeLine_eq]; omega) fun x _ => ⟨[("x", .imm (.int x))], ?_, tgt_name (by walk_at "ow"), ?_⟩
      · show Sub [("rules", .imm (.list (rs.map eR)))] [("x", .imm (.int x)), ("rules", .imm (.list (rs.map eR)))]
        walk_at "sub"
      show EvE c A cenv [("x", .imm (.int x)), ("rules", .imm (.list (rs.map eR)))] _ _
      refine' EvE.eq (EvN.e (en_comp (outs := (List.range 3).map fun (i : Nat) => PyData.int (cnt1 rs (256 + ((0 : Int) + i)) x)) [("x", .imm (.int x)), ("rules", .imm (.list (rs.map eR)))] (vrange1 G lv.hh ?g2 (n := 3) ?i2 (by decide)) ?s2 ?c2 ?l2)) ?e2
      case e2 => rfl
      case g2 => walk_at "kd"
      case i2 => exact ev_int _ _ _
      case s2 => walk_at "scok"
      case c2 => walk_at "cap"
      case l2 =>
        intro cenv2 ic2
        refine cl_map (fun (i : Nat) => PyData.int ((0 : Int) + i)) (fun (i : Nat) => PyData.int (cnt1 rs (256 + ((0 : Int) + i)) x)) (by rw [sizeLine_eq]; exact Nat.le_of_ble_eq_true rfl) fun i _ => ⟨[("k", .imm (.int ((0 : Int) + i)))], ?_, tgt_name (by walk_at "ow"), ?_⟩
        · show Sub [("x", .imm (.int x)), ("rules", .imm (.list (rs.map eR)))] [("k", .imm (.int ((0 : Int) + i))), ("x", .imm (.int x)), ("rules", .imm (.list (rs.map eR)))]
          walk_at "sub"
        show EvE c A cenv2 [("k", .imm (.int ((0 : Int) + i))), ("x", .imm (.int x)), ("rules", .imm (.list (rs.map eR)))] _ _
        refine' EvE.eq (vlen G ?g3 (EvE.b (EvN.e (en_comp (ds := rs.map eR) (outs := (rs.filter fun r => r.1 == 256 + ((0 : Int) + i) && decide (r.2 = [x])).map fun r => PyData.int r.1) [("k", .imm (.int ((0 : Int) + i))), ("x", .imm (.int x))] (ei_list lv.hh ?i3) ?s3 ?c3 ?l3))) ?z3) ?e3
        case e3 => rw [List.length_map]; rfl
        case z3 =>
          rw [List.length_map]
          have := List.length_filter_le (fun r : Rule => r.1 == 256 + ((0 : Int) + i) && decide (r.2 = [x])) rs
          omega
        case g3 => walk_at "kd"
        case i3 => walk_at "ev"
        case s3 => walk_at "scok"
        case c3 => walk_at "cap"
        case l3 =>
          intro cenv3 ic3
          refine cl_oneM eR (fun r => r.1 == 256 + ((0 : Int) + i) && decide (r.2 = [x])) (fun r => PyData.int r.1) (by rw [sizeLine_eq]; omega) fun r _ => ⟨_, ?_, tgt_two lv.hh (by walk_at "ow") (by walk_at "ow"), ts_one ?_, fun _ => ?_⟩
          · show Sub [("k", .imm (.int ((0 : Int) + i))), ("x", .imm (.int x))] [("right", .imm (eL r.2)), ("left", .imm (.int r.1)), ("k", .imm (.int ((0 : Int) + i))), ("x", .imm (.int x))]
            walk_at "sub"
          · show EvT c A cenv3 [("right", .imm (eL r.2)), ("left", .imm (.int r.1)), ("k", .imm (.int ((0 : Int) + i))), ("x", .imm (.int x))] _ _
            refine' EvT.eq (et_and (et_cmp ?a4 ?b4 (fun a b h X p q => op_eqI p q) ?m4) fun _ => et_and (et_cmp ?a5 ?b5 (fun a b h X p q => op_eqD p q (sh_eL r.2) (sh_eL [x]) lv.u) ?m5) fun _ => et_and0) ?q4
            case m4 => rfl
            case m5 => rfl
            case a4 => walk_at "eb"
            case b4 => walk_at "eb"
            case a5 => walk_at "eb"
            case b5 => show EvB c A cenv3 _ _ (.list [.int x]); walk_at "eb"
            case q4 => rw [eqv_eL, Bool.and_true]
          · show EvE c A cenv3 [("right", .imm (eL r.2)), ("left", .imm (.int r.1)), ("k", .imm (.int ((0 : Int) + i))), ("x", .imm (.int x))] _ _
            walk_at "ev"
  case k1 =>
  -- the sizes
  refine' ex_forM (fun i : Nat => PyData.int ((2 : Int) + (i : Nat))) (fun m : Nat => [("cells", .own ((List.range (m + 1)).map fun j => lineD rs row (j + 1))), ("rules", .imm (.list (rs.map eR))), ("row", .imm (eL row))])
    (fun i m => m = i) (fun m _ => m + 1) 0 (xs := List.range (((row.length : Int) + 1 - 2).toNat)) (vrange2 G lv.hh ?g10 (a := 2) (b := (row.length : Int) + 1) (ev_int _ _ _) ?b10 (by decide) (by decide) (by omega) (by omega)) ?w10 rfl ?turn10 ?k10
  case g10 => walk_at "kd"
  case b10 =>
    refine ev_add (EvE.b (EvE.eq (vlen G ?_ (ds := row.map .int) ?_ ?_) (by rw [List.length_map]))) (EvE.b (ev_int _ _ _))
    · walk_at "kd"
    · walk_at "eb"
    · rw [List.length_map]; omega
  case w10 =>
    show Sub [("cells", .own [lineD rs row 1]), ("rules", .imm (.list (rs.map eR))), ("row", .imm (eL row))] _
    walk_at "sub"
  case turn10 =>
    rintro i m d rfl hi
    obtain ⟨rfl, hi⟩ := range_get hi
    have hn : 2 + d ≤ row.length := by omega
    refine ⟨_, tgt_name (by walk_at "ow"), ?_⟩
    show ExecS c A env [("size", .imm (.int ((2 : Int) + (d : Nat)))), ("cells", .own ((List.range (d + 1)).map fun j => lineD rs row (j + 1))), ("rules", .imm (.list (rs.map eR))), ("row", .imm (eL row))] _ _
    refine' ex_own (ds := []) ?ow11 (en_list el_nil (by decide)) ?k11
    case ow11 => walk_at "ow"
    case k11 =>
    refine' ex_forM (fun j : Nat => PyData.int ((0 : Int) + (j : Nat))) (fun k : Nat => [("line", .own ((List.range k).map (cellD rs row (2 + d)))), ("size", .imm (.int ((2 : Int) + (d : Nat)))), ("cells", .own ((List.range (d + 1)).map fun j => lineD rs row (j + 1))), ("rules", .imm (.list (rs.map eR))), ("row", .imm (eL row))])
      (fun j k => k = j) (fun k _ => k + 1) 0 (xs := List.range (row.length - (2 + d) + 1)) (vrange1 G lv.hh ?g12 ?b12 (by omega)) ?w12 rfl ?turn12 ?k12
    case g12 => walk_at "kd"
    case b12 =>
      refine EvE.eq (ev_add (EvE.b (ev_sub (EvE.b (EvE.eq (vlen G ?_ (ds := row.map .int) ?_ ?_) (by rw [List.length_map]))) (EvE.b (ev_name (x := "size") (d := .int ((2 : Int) + (d : Nat))) ?_ (by decide))))) (EvE.b (ev_int _ _ _))) ?_
      · walk_at "kd"
      · walk_at "eb"
      · rw [List.length_map]; omega
      · walk_at "lk"
      · congr 1; omega
    case w12 =>
      show Sub [("line", .own []), ("size", .imm (.int ((2 : Int) + (d : Nat)))), ("cells", .own ((List.range (d + 1)).map fun j => lineD rs row (j + 1))), ("rules", .imm (.list (rs.map eR))), ("row", .imm (eL row))] _
      walk_at "sub"
    case turn12 =>
      rintro j k j' rfl hj
      obtain ⟨rfl, hj⟩ := range_get hj
      have hjs : j' + (2 + d) ≤ row.length := by omega
      refine ⟨_, tgt_name (by walk_at "ow"), ?_⟩
      show ExecS c A env [("start", .imm (.int ((0 : Int) + (j' : Nat)))), ("line", .own ((List.range j').map (cellD rs row (2 + d)))), ("size", .imm (.int ((2 : Int) + (d : Nat)))), ("cells", .own ((List.range (d + 1)).map fun j => lineD rs row (j + 1))), ("rules", .imm (.list (rs.map eR))), ("row", .imm (eL row))] _ _
      refine' ex_own (ds := eVl fun _ => 0) ?ow20 (en_list (el_cons (ev_int _ _ _) (el_cons (ev_int _ _ _) (el_cons (ev_int _ _ _) el_nil))) (by rw [sizeLine_eq]; exact Nat.le_of_ble_eq_true rfl)) ?k20
      case ow20 => walk_at "ow"
      case k20 =>
      refine' ex_forM eR (fun g : Int → Int => [("counts", .own (eVl g)), ("start", .imm (.int ((0 : Int) + (j' : Nat)))), ("line", .own ((List.range j').map (cellD rs row (2 + d)))), ("size", .imm (.int ((2 : Int) + (d : Nat)))), ("cells", .own ((List.range (d + 1)).map fun j => lineD rs row (j + 1))), ("rules", .imm (.list (rs.map eR))), ("row", .imm (eL row))])
        (fun _ _ => True) (fun g r => fun A => g A + if r.1 = A then contrib rs (seg row j' (2 + d)) r else 0) (fun _ => 0) (xs := rs) (ei_list lv.hh ?i21) ?w21 trivial ?turn21 ?k21
      case i21 => walk_at "ev"
      case w21 => walk_at "sub"
      case turn21 =>
        intro i g r _ hi
        have hok := hr r (List.mem_of_getElem? hi)
        refine ⟨_, tgt_two lv.hh (by walk_at "ow") (by walk_at "ow"), ?_⟩
        show ExecS c A env [("right", .imm (eL r.2)), ("left", .imm (.int r.1)), ("counts", .own (eVl g)), ("start", .imm (.int ((0 : Int) + (j' : Nat)))), ("line", .own ((List.range j').map (cellD rs row (2 + d)))), ("size", .imm (.int ((2 : Int) + (d : Nat)))), ("cells", .own ((List.range (d + 1)).map fun j => lineD rs row (j + 1))), ("rules", .imm (.list (rs.map eR))), ("row", .imm (eL row))] _ _
        refine' ex_if (k := decide (r.2.length = 2)) (EvT.eq (et_cmp (EvE.b (vlen G ?g22 (ds := r.2.map .int) ?b22 ?l22)) ?c22 (fun a b h X p q => op_eqI p q) ?m22) ?q22) ?y22 ?z22
        case g22 => walk_at "kd"
        case b22 => walk_at "eb"
        case l22 =>
          rw [List.length_map]
          rcases hok.2.2 with ⟨s, e, _⟩ | ⟨x, y, e, _⟩ <;> rw [e] <;> simp
        case c22 => walk_at "eb"
        case m22 => rfl
        case q22 =>
          rw [List.length_map]
          by_cases q : r.2.length = 2
          · simp [q]
          · simp [q]; omega
        case z22 =>
          intro q
          have q' := of_decide_eq_false q
          refine ex_nil (ex_nil ⟨rfl, ?_, trivial⟩)
          have e : eVl (fun A => g A + if r.1 = A then contrib rs (seg row j' (2 + d)) r else 0) = eVl g := eV_congr fun A => by
            have : contrib rs (seg row j' (2 + d)) r = 0 := by
              unfold contrib
              split
              · rename_i e; rw [e] at q'; exact absurd rfl q'
              · rfl
            rw [this]; simp
          rw [e]
          walk_at "sub"
        case y22 =>
          intro q
          have q' := of_decide_eq_true q
          obtain ⟨B, C, e2, hB1, hB2, hC1, hC2⟩ : ∃ x y, r.2 = [x, y] ∧ 256 ≤ x ∧ x < 259 ∧ 256 ≤ y ∧ y < 259 := by
            rcases hok.2.2 with ⟨s, e, _⟩ | h
            · rw [e] at q'; simp at q'
            · exact h
          have hA1 := hok.1
          have hA2 := hok.2.1
          rw [e2]
          refine' ex_forM (fun q : Nat => PyData.int ((1 : Int) + (q : Nat))) (fun g : Int → Int => [("right", .imm (eL [B, C])), ("left", .imm (.int r.1)), ("counts", .own (eVl g)), ("start", .imm (.int ((0 : Int) + (j' : Nat)))), ("line", .own ((List.range j').map (cellD rs row (2 + d)))), ("size", .imm (.int ((2 : Int) + (d : Nat)))), ("cells", .own ((List.range (d + 1)).map fun j => lineD rs row (j + 1))), ("rules", .imm (.list (rs.map eR))), ("row", .imm (eL row))])
            (fun _ _ => True) (fun g q => fun A => g A + if r.1 = A then T rs (seg row j' (1 + q)) B * T rs (seg row (j' + (1 + q)) (2 + d - (1 + q))) C else 0) g (xs := List.range ((((2 : Int) + (d : Nat)) - 1).toNat)) (vrange2 G lv.hh ?g23 (a := 1) (b := (2 : Int) + (d : Nat)) (ev_int _ _ _) ?b23 (by decide) (by decide) (by omega) (by omega)) ?w23 trivial ?turn23 ?k23
          case g23 => walk_at "kd"
          case b23 => walk_at "ev"
          case w23 => walk_at "sub"
          case k23 =>
            intro _
            refine ex_nil (ex_nil ⟨rfl, ?_, trivial⟩)
            have e : eVl ((List.range ((((2 : Int) + (d : Nat)) - 1).toNat)).foldl (fun g q => fun A => g A + if r.1 = A then T rs (seg row j' (1 + q)) B * T rs (seg row (j' + (1 + q)) (2 + d - (1 + q))) C else 0) g) = eVl (fun A => g A + if r.1 = A then contrib rs (seg row j' (2 + d)) r else 0) := eV_congr fun A => by
              rw [foldl_sum (fun q A => if r.1 = A then T rs (seg row j' (1 + q)) B * T rs (seg row (j' + (1 + q)) (2 + d - (1 + q))) C else 0), sum_ite, contrib_eq hjs e2]
              rw [show (((2 : Int) + (d : Nat)) - 1).toNat = 2 + d - 1 by omega]
            rw [e]
            walk_at "sub"
          case turn23 =>
            intro i g u _ hu
            obtain ⟨rfl, hu⟩ := range_get hu
            refine ⟨_, tgt_name (by walk_at "ow"), ?_⟩
            show ExecS c A env [("cut", .imm (.int ((1 : Int) + (u : Nat)))), ("right", .imm (eL [B, C])), ("left", .imm (.int r.1)), ("counts", .own (eVl g)), ("start", .imm (.int ((0 : Int) + (j' : Nat)))), ("line", .own ((List.range j').map (cellD rs row (2 + d)))), ("size", .imm (.int ((2 : Int) + (d : Nat)))), ("cells", .own ((List.range (d + 1)).map fun j => lineD rs row (j + 1))), ("rules", .imm (.list (rs.map eR))), ("row", .imm (eL row))] _ _
            refine' ex_assign (d := .int (T rs (seg row j' (1 + u)) B)) ?ow24 ?v24 ?k24
            case ow24 => walk_at "ow"
            case v24 =>
              refine' ev_item (ds := eVl (T rs (seg row j' (1 + u)))) (k := B - 256) (EvE.b (ev_item (ds := (List.range (row.length + 1 - (1 + u))).map (cellD rs row (1 + u))) (k := (0 : Int) + (j' : Nat)) (d := .list (eVl (T rs (seg row j' (1 + u))))) (EvE.b (ev_item (ds := (List.range (d + 1)).map fun j => lineD rs row (j + 1)) (k := (1 : Int) + (u : Nat) - 1) (d := lineD rs row (1 + u)) ?c25 ?s25 (by omega) (by omega) ?e25)) ?s26 (by omega) (by omega) ?e26)) ?s27 (by omega) (by omega) (eV_at hB1 hB2)
              case c25 => walk_at "eb"
              case s25 => walk_at "ev"
              case e25 =>
                rw [show ((1 : Int) + (u : Nat) - 1).toNat = u by omega, range_at _ (by omega)]
                rw [Nat.add_comm 1 u]
              case s26 => walk_at "ev"
              case e26 =>
                rw [show ((0 : Int) + (j' : Nat)).toNat = j' by omega, range_at _ (by omega)]
                rfl
              case s27 =>
                refine ev_sub (EvE.b (ev_item (ds := [.int B, .int C]) (k := 0) (EvB.eq (d := eL [B, C]) ?_ rfl) (ev_int _ _ _) (by decide) (by decide) rfl)) (EvE.b (ev_int _ _ _))
                walk_at "eb"
            case k24 =>
            refine' ex_aug (ds := eVl g) (k := r.1 - 256) (a := g r.1) (b := T rs (seg row j' (1 + u)) B * T rs (seg row (j' + (1 + u)) (2 + d - (1 + u))) C) ?l28 ?y28 (by omega) (by show r.1 - 256 < 3; omega) (by show 3 < 2 ^ 62; decide) (eV_at hA1 hA2) ?z28 ?k28 (by decide)
            case l28 => walk_at "lk"
            case y28 => walk_at "ev"
            case z28 =>
              refine' ev_mul ?a29 ?b29 ?c29
              case a29 => walk_at "eb"
              case c29 =>
                have := T_bd hl (u := seg row j' (1 + u)) (by rw [seg_len (by omega)]; omega) B
                exact IntMulOk.of_left (PySem.intBits_le_64 (by omega) (by omega))
              case b29 =>
              refine EvE.b ?_
              refine' ev_item (ds := eVl (T rs (seg row (j' + (1 + u)) (2 + d - (1 + u))))) (k := C - 256) (EvE.b (ev_item (ds := (List.range (row.length + 1 - (2 + d - (1 + u)))).map (cellD rs row (2 + d - (1 + u)))) (k := (0 : Int) + (j' : Nat) + ((1 : Int) + (u : Nat))) (d := .list (eVl (T rs (seg row (j' + (1 + u)) (2 + d - (1 + u)))))) (EvE.b (ev_item (ds := (List.range (d + 1)).map fun j => lineD rs row (j + 1)) (k := (2 : Int) + (d : Nat) - ((1 : Int) + (u : Nat)) - 1) (d := lineD rs row (2 + d - (1 + u))) ?c30 ?s30 (by omega) (by omega) ?e30)) ?s31 (by omega) (by omega) ?e31)) ?s32 (by omega) (by omega) (eV_at hC1 hC2)
              case c30 => walk_at "eb"
              case s30 => walk_at "ev"
              case e30 =>
                rw [show ((2 : Int) + (d : Nat) - ((1 : Int) + (u : Nat)) - 1).toNat = d - u by omega, range_at _ (by omega)]
                rw [show d - u + 1 = 2 + d - (1 + u) by omega]
              case s31 => walk_at "ev"
              case e31 =>
                rw [show ((0 : Int) + (j' : Nat) + ((1 : Int) + (u : Nat))).toNat = j' + (1 + u) by omega, range_at _ (by omega)]
                rfl
              case s32 =>
                refine ev_sub (EvE.b (ev_item (ds := [.int B, .int C]) (k := 1) (EvB.eq (d := eL [B, C]) ?_ rfl) (ev_int _ _ _) (by decide) (by decide) rfl)) (EvE.b (ev_int _ _ _))
                walk_at "eb"
            case k28 =>
            rw [eV_set hA1 hA2]
            refine ex_nil ⟨rfl, ?_, trivial⟩
            walk_at "sub"
      case k21 =>
        intro _
        have e : eVl (rs.foldl (fun g r => fun A => g A + if r.1 = A then contrib rs (seg row j' (2 + d)) r else 0) fun _ => 0) = eVl (T rs (seg row j' (2 + d))) := eV_congr fun A => by
          rw [foldl_sum (fun r A => if r.1 = A then contrib rs (seg row j' (2 + d)) r else 0), T_more rs (by rw [seg_len hjs]; omega), Int.zero_add]
        rw [e]
        refine' ex_disown "counts" (ds := eVl (T rs (seg row j' (2 + d)))) ?l33 ?k33
        case l33 => walk_at "lk"
        case k33 =>
        refine' ex_append (ds := (List.range j').map (cellD rs row (2 + d))) (d := .list (eVl (T rs (seg row j' (2 + d))))) ?l34 ?v34 ?s34 (ex_nil ?k34) ?h34
        case l34 => walk_at "lk"
        case v34 => walk_at "ev"
        case s34 => rw [sizeLine_eq, List.length_map, List.length_range]; omega
        case h34 => decide
        case k34 =>
          refine ⟨rfl, ?_, rfl⟩
          have e2 : (List.range (j' + 1)).map (cellD rs row (2 + d)) = (List.range j').map (cellD rs row (2 + d)) ++ [.list (eVl (T rs (seg row j' (2 + d))))] := by
            rw [List.range_succ, List.map_append]; rfl
          rw [e2]
          walk_at "sub"
    case k12 =>
      intro hk
      rw [hk, List.length_range]
      refine' ex_disown "line" (ds := (List.range (row.length - (2 + d) + 1)).map (cellD rs row (2 + d))) ?l13 ?k13
      case l13 => walk_at "lk"
      case k13 =>
      refine' ex_append (ds := (List.range (d + 1)).map fun j => lineD rs row (j + 1)) (d := .list ((List.range (row.length - (2 + d) + 1)).map (cellD rs row (2 + d)))) ?l14 ?v14 ?s14 (ex_nil ?k14) ?h14
      case l14 => walk_at "lk"
      case v14 => walk_at "ev"
      case s14 => rw [sizeLine_eq, List.length_map, List.length_range]; omega
      case h14 => decide
      case k14 =>
        refine ⟨rfl, ?_, rfl⟩
        have e : (List.range (d + 1 + 1)).map (fun j => lineD rs row (j + 1)) = (List.range (d + 1)).map (fun j => lineD rs row (j + 1)) ++ [.list ((List.range (row.length - (2 + d) + 1)).map (cellD rs row (2 + d)))] := by
          rw [List.range_succ, List.map_append]
          congr 1
          show [lineD rs row (d + 1 + 1)] = _
          unfold lineD
          rw [show d + 1 + 1 = 2 + d by omega, show row.length + 1 - (2 + d) = row.length - (2 + d) + 1 by omega]
        show Sub [("cells", .own ((List.range (d + 1 + 1)).map fun j => lineD rs row (j + 1))), ("rules", .imm (.list (rs.map eR))), ("row", .imm (eL row))] _
        rw [e]
        walk_at "sub"
  case k10 =>
    intro hm
    rw [hm, List.length_range]
    generalize hN : ((row.length : Int) + 1 - 2).toNat = N
    have hN' : N + 1 = row.length := by omega
    refine' ex_ret (d := .int (T rs row 256)) ?v15 rfl
    case v15 =>
    refine' ev_item (ds := eVl (T rs row)) (k := 0) (EvE.b (ev_item (ds := (List.range (row.length + 1 - row.length)).map (cellD rs row row.length)) (k := 0) (d := .list (eVl (T rs row))) (EvE.b (ev_last (ds := (List.range N).map fun j => lineD rs row (j + 1)) (d := lineD rs row row.length) ?b15 (ev_neg (ev_int _ _ _)))) (ev_int _ _ _) (by decide) (by decide) ?e15)) (ev_int _ _ _) (by decide) (by decide) rfl
    case b15 =>
      refine EvB.eq (d := .list ((List.range (N + 1)).map fun j => lineD rs row (j + 1))) ?_ ?_
      · walk_at "eb"
      · rw [List.range_succ, List.map_append, List.map_singleton, hN']
    case e15 =>
      rw [show (0 : Int).toNat = 0 from rfl, range_at _ (by omega)]
      unfold cellD
      rw [seg_all]; rfl

theorem fn_trees (G : Gx c mg mb) : ∃ a o fd, mg "_law_trees" = some (.ref a) ∧ c.g.get? a = some o ∧ o.data = .func fd ∧ FnOk c 2 a (fun ds r => ∃ rs row, ds = [.list (rs.map eR), eL row] ∧ rs.length ≤ 5 ∧ (∀ r ∈ rs, okRule r) ∧ 1 ≤ row.length ∧ row.length ≤ 3 ∧ r = .int (T rs row 256)) :=
  fn_two G 9 "rules" "row" _ (by simp) (fun pm cd doc v w => by rfl) (.inr (by decide +kernel)) (.inl (by decide +kernel)) (by decide) (by decide +kernel) (by decide +kernel) (by decide +kernel) (by decide +kernel)
    (fun ds r ⟨_, _, e, _⟩ => by rw [e]; rfl) fun A env hs ho lv d e r ⟨rs, row, h1, h2, h3, h4, h5, h6⟩ => by
      cases h1; subst h6
      exact walk_trees G lv hs ho rs row h2 h3 h4 h5
end
end Mine


open PySem PySem.W PyProof.Rows PySem.Calls PySem.Spec
set_option Elab.async false
set_option maxRecDepth 100000
set_option linter.unusedVariables false
set_option linter.unusedSimpArgs false
namespace Mine

-- sums over the ways to cut a row in two
noncomputable def conv (f g : List Int → Int) : List Int → Int
  | [] => f [] * g []
  | x :: v => f [] * g (x :: v) + conv (fun a => f (x :: a)) g v
def eps (v : List Int) : Int := if v = [] then 1 else 0

theorem conv_congr {g : List Int → Int} : ∀ {v : List Int} {f f' : List Int → Int}, (∀ a, a.length ≤ v.length → f a = f' a) → conv f g v = conv f' g v
  | [], f, f', h => by simp only [conv]; rw [h [] (Nat.le_refl _)]
  | x :: v, f, f', h => by
    simp only [conv]
    rw [h [] (Nat.zero_le _), conv_congr (v := v) fun a ha => h (x :: a) (by simp only [List.length_cons]; omega)]
theorem conv_congr2 {g g' : List Int → Int} : ∀ {v : List Int} {f : List Int → Int}, (∀ a, a.length ≤ v.length → g a = g' a) → conv f g v = conv f g' v
  | [], f, h => by simp only [conv]; rw [h [] (Nat.le_refl _)]
  | x :: v, f, h => by
    simp only [conv]
    rw [h (x :: v) (Nat.le_refl _), conv_congr2 (v := v) fun a ha => h a (by simp only [List.length_cons]; omega)]
theorem conv_zero2 {g : List Int → Int} : ∀ {v : List Int} {f : List Int → Int}, (∀ a, a.length ≤ v.length → g a = 0) → conv f g v = 0
  | [], f, h => by simp only [conv]; rw [h [] (Nat.le_refl _), Int.mul_zero]
  | x :: v, f, h => by
    simp only [conv]
    rw [h (x :: v) (Nat.le_refl _), conv_zero2 (v := v) fun a ha => h a (by simp only [List.length_cons]; omega), Int.mul_zero, Int.add_zero]
theorem conv_zero1 {f g : List Int → Int} : ∀ {v : List Int}, f [] = 0 → (∀ a, a.length < v.length → g a = 0) → conv f g v = 0
  | [], h0, h => by simp only [conv]; rw [h0, Int.zero_mul]
  | x :: v, h0, h => by
    simp only [conv]
    rw [h0, Int.zero_mul, Int.zero_add]
    exact conv_zero2 fun a ha => h a (by simp only [List.length_cons]; omega)
theorem conv_add (f f' g : List Int → Int) : ∀ v, conv (fun a => f a + f' a) g v = conv f g v + conv f' g v := by
  intro v
  induction v generalizing f f' with
  | nil => simp only [conv]; exact Int.add_mul ..
  | cons x v ih => simp only [conv]; rw [ih (fun a => f (x :: a)) (fun a => f' (x :: a)), Int.add_mul]; omega
theorem conv_mul (k : Int) (f g : List Int → Int) : ∀ v, conv (fun a => k * f a) g v = k * conv f g v := by
  intro v
  induction v generalizing f with
  | nil => simp only [conv]; exact Int.mul_assoc ..
  | cons x v ih => simp only [conv]; rw [ih (fun a => f (x :: a)), Int.mul_assoc, Int.mul_add]
theorem conv_nil (g : List Int → Int) : ∀ v, conv (fun _ => 0) g v = 0 := by
  intro v
  induction v with
  | nil => simp [conv]
  | cons x v ih => simp only [conv]; rw [ih, Int.zero_mul, Int.add_zero]
theorem conv_sum {α : Type} (F : α → List Int → Int) (g : List Int → Int) (v : List Int) : ∀ l : List α, conv (fun a => (l.map fun r => F r a).sum) g v = (l.map fun r => conv (F r) g v).sum
  | [] => by simp only [List.map_nil, List.sum_nil]; exact conv_nil g v
  | r :: l => by
    simp only [List.map_cons, List.sum_cons]
    rw [conv_add (F r) (fun a => (l.map fun r => F r a).sum) g v, conv_sum F g v l]
theorem conv_add2 (f g g' : List Int → Int) : ∀ v, conv f (fun a => g a + g' a) v = conv f g v + conv f g' v := by
  intro v
  induction v generalizing f with
  | nil => simp only [conv]; exact Int.mul_add ..
  | cons x v ih => simp only [conv]; rw [ih, Int.mul_add]; omega
theorem conv_nil2 (f : List Int → Int) (v : List Int) : conv f (fun _ => 0) v = 0 := conv_zero2 fun _ _ => rfl
theorem conv_sum2 {α : Type} (F : α → List Int → Int) (f : List Int → Int) (v : List Int) : ∀ l : List α, conv f (fun a => (l.map fun r => F r a).sum) v = (l.map fun r => conv f (F r) v).sum
  | [] => by simp only [List.map_nil, List.sum_nil]; exact conv_nil2 f v
  | r :: l => by
    simp only [List.map_cons, List.sum_cons]
    rw [conv_add2 f (F r) (fun a => (l.map fun r => F r a).sum) v, conv_sum2 F f v l]
theorem conv_assoc (f g k : List Int → Int) : ∀ v, conv (conv f g) k v = conv f (conv g k) v := by
  intro v
  induction v generalizing f with
  | nil => simp only [conv]; exact Int.mul_assoc ..
  | cons x v ih =>
    show conv f g [] * k (x :: v) + conv (fun a => f [] * g (x :: a) + conv (fun a => f (x :: a)) g a) k v = f [] * (g [] * k (x :: v) + conv (fun a => g (x :: a)) k v) + conv (fun a => f (x :: a)) (conv g k) v
    rw [conv_add (fun a => f [] * g (x :: a)) (conv (fun a => f (x :: a)) g) k v, ih, conv_mul (f []) (fun a => g (x :: a)) k v, Int.mul_add]
    show f [] * g [] * k (x :: v) + _ = _
    rw [Int.mul_assoc]; omega
theorem conv_eps (f : List Int → Int) : ∀ v, conv f eps v = f v := by
  intro v
  induction v generalizing f with
  | nil => simp [conv, eps]
  | cons x v ih => simp only [conv]; rw [ih]; simp [eps]
theorem eps_conv (g : List Int → Int) : ∀ v, conv eps g v = g v := by
  intro v
  cases v with
  | nil => simp [conv, eps]
  | cons x v =>
    simp only [conv]
    rw [show (fun a => eps (x :: a)) = fun _ => 0 from by funext a; simp [eps], conv_nil]; simp [eps]

/-- one symbol's weight -/
noncomputable def w1 (rs : List Rule) (a : Int) (v : List Int) : Int := if a < 256 then (if v = [a] then 1 else 0) else T rs v a
/-- a form's weight: in how many ways it gives the row -/
noncomputable def Wf (rs : List Rule) : List Int → List Int → Int
  | [] => eps
  | a :: f => conv (w1 rs a) (Wf rs f)

variable {rs : List Rule}
theorem Wf_one (a : Int) : Wf rs [a] = w1 rs a := funext fun v => conv_eps _ v
theorem Wf_append : ∀ (f g : List Int), Wf rs (f ++ g) = conv (Wf rs f) (Wf rs g)
  | [], g => funext fun v => (eps_conv _ v).symm
  | a :: f, g => by
    show conv (w1 rs a) (Wf rs (f ++ g)) = conv (conv (w1 rs a) (Wf rs f)) (Wf rs g)
    rw [Wf_append f g]
    exact funext fun v => (conv_assoc _ _ _ v).symm
theorem w1_nil (a : Int) : w1 rs a [] = 0 := by unfold w1; split <;> simp [T_nil]
theorem Wf_short : ∀ (f v : List Int), v.length < f.length → Wf rs f v = 0
  | [], v, h => by simp at h
  | a :: f, v, h => conv_zero1 (w1_nil a) fun b hb => Wf_short f b (by simp only [List.length_cons] at h; omega)
theorem Wf_signs : ∀ (d u : List Int), (∀ x ∈ d, x < 256) → Wf rs d u = if u = d then 1 else 0
  | [], u, _ => rfl
  | a :: d, u, h => by
    have ha : a < 256 := h a List.mem_cons_self
    show conv (w1 rs a) (Wf rs d) u = _
    cases u with
    | nil => simp [conv, w1_nil]
    | cons x u =>
      simp only [conv]
      rw [w1_nil, Int.zero_mul, Int.zero_add]
      have e : (fun b => w1 rs a (x :: b)) = fun b => (if x = a then 1 else 0) * eps b := by
        funext b
        unfold w1 eps
        rw [if_pos ha]
        by_cases h1 : x = a <;> by_cases h2 : b = [] <;> simp [h1, h2]
      rw [e, conv_mul, eps_conv, Wf_signs d u fun x hx => h x (List.mem_cons_of_mem _ hx)]
      by_cases h1 : x = a <;> by_cases h2 : u = d <;> simp [h1, h2]

/-- what a rule's right side weighs -/
theorem Wf_two {B C : Int} (hB : ¬ B < 256) (hC : ¬ C < 256) (u : List Int) : Wf rs [B, C] u = conv (fun v => T rs v B) (fun v => T rs v C) u := by
  show conv (w1 rs B) (Wf rs [C]) u = _
  rw [Wf_one, show w1 rs B = fun v => T rs v B from funext fun v => if_neg hB, show w1 rs C = fun v => T rs v C from funext fun v => if_neg hC]

theorem sum_zero {α : Type} (f : α → Int) : ∀ l : List α, (∀ a ∈ l, f a = 0) → (l.map f).sum = 0
  | [], _ => rfl
  | a :: l, h => by rw [List.map_cons, List.sum_cons, h a List.mem_cons_self, sum_zero f l fun b m => h b (List.mem_cons_of_mem _ m)]; rfl

theorem cnt1_sum (A x : Int) : ∀ rs : List Rule, cnt1 rs A x = (rs.map fun r => if r.1 = A ∧ r.2 = [x] then 1 else 0).sum
  | [] => rfl
  | r :: rs => by
    have ih := cnt1_sum A x rs
    unfold cnt1 at ih ⊢
    rw [List.map_cons, List.sum_cons, ← ih, List.filter_cons]
    by_cases h1 : r.1 = A <;> by_cases h2 : r.2 = [x] <;> simp [h1, h2] <;> omega

/-- the trees are what the rules say -/
theorem T_fix (hr : ∀ r ∈ rs, okRule r) (A : Int) (u : List Int) (hu : u.length ≤ 3) : T rs u A = (rs.map fun r => if r.1 = A then Wf rs r.2 u else 0).sum := by
  match u, hu with
  | [], _ =>
    rw [T_nil, sum_zero]
    intro r m
    split
    · refine Wf_short _ _ ?_
      rcases (hr r m).2.2 with ⟨s, e, _⟩ | ⟨x, y, e, _⟩ <;> rw [e] <;> simp
    · rfl
  | [x], _ =>
    rw [T_one, cnt1_sum]
    congr 1
    apply List.map_congr_left
    intro r m
    by_cases h : r.1 = A
    · rw [if_pos h]
      rcases (hr r m).2.2 with ⟨s, e, h1, h2⟩ | ⟨B, C, e, _⟩
      · rw [e, Wf_signs [s] [x] fun y hy => by rw [List.mem_singleton] at hy; subst hy; exact h2]
        simp only [h, true_and]
        by_cases q : s = x
        · simp [q]
        · simp [q, Ne.symm q]
      · rw [e, Wf_short _ _ (by simp)]; simp
    · rw [if_neg h, if_neg fun q => h q.1]
  | x :: y :: u, hu =>
    rw [T_more rs (by simp)]
    congr 1
    apply List.map_congr_left
    intro r m
    by_cases h : r.1 = A
    · rw [if_pos h, if_pos h]
      rcases (hr r m).2.2 with ⟨s, e, h1, h2⟩ | ⟨B, C, e, b1, b2, c1, c2⟩
      · rw [e, Wf_signs [s] _ fun y hy => by rw [List.mem_singleton] at hy; subst hy; exact h2]
        unfold contrib
        rw [e]; simp
      · rw [e, Wf_two (by omega) (by omega)]
        unfold contrib
        rw [e]
        have : u = [] ∨ ∃ z, u = [z] := by
          match u, hu with
          | [], _ => exact .inl rfl
          | [z], _ => exact .inr ⟨z, rfl⟩
        rcases this with rfl | ⟨z, rfl⟩
        · simp [conv, T_nil, List.range_succ]
        · simp [conv, T_nil, List.range_succ]
    · rw [if_neg h, if_neg h]
end Mine


open PySem PySem.W PyProof.Rows PySem.Calls PySem.Spec
set_option Elab.async false
set_option maxRecDepth 100000
set_option linter.unusedVariables false
set_option linter.unusedSimpArgs false
namespace Mine

local macro_rules | `(tactic| walk_at "lk") => `(tactic| first | with_reducible exact lk_hd | ((with_reducible refine lk_tl (by decide) ?_); walk_at "lk"))
local macro_rules | `(tactic| walk_at "kd") => `(tactic| first | exact kd (by assumption) (by decide +kernel) | exact kdc (by assumption) (by decide +kernel))
local macro_rules | `(tactic| walk_at "ow") => `(tactic| first | exact ow_fn (by assumption) (by assumption) (by first | exact Or.inl (by decide +kernel) | exact Or.inr (by decide +kernel)) | exact InC.own (by assumption) _ (by first | exact Or.inl (by decide +kernel) | exact Or.inr (by decide +kernel)))
local macro_rules | `(tactic| walk_at "ev") => `(tactic| first
  | with_reducible exact ev_int _ _ _
  | with_reducible exact ev_bool _ _ _
  | ((with_reducible refine' ev_name ?k1 ?k2); (case k1 => walk_at "lk"); (case k2 => decide))
  | ((with_reducible refine' ev_add ?k1 ?k2); (case k1 => walk_at "eb"); (case k2 => walk_at "eb"))
  | ((with_reducible refine' ev_sub ?k1 ?k2); (case k1 => walk_at "eb"); (case k2 => walk_at "eb"))
  | ((with_reducible refine' ev_mod ?k1 ?k2 ?k3); (case k1 => walk_at "eb"); (case k2 => walk_at "eb"); (case k3 => decide))
  | ((with_reducible refine' ev_neg ?k1); (case k1 => walk_at "ev"))
  | ((with_reducible refine' ev_div ?k1 ?k2 ?k3 ?k4); (case k1 => walk_at "eb"); (case k2 => walk_at "eb"); (case k3 => decide); (case k4 => exact PyProof.noPylong_small (by decide)))
  | ((with_reducible refine' ev_list ?k1 ?k2); (case k1 => walk_at "el"); (case k2 => rw [sizeLine_eq]; exact Nat.le_of_ble_eq_true rfl)))
local macro_rules | `(tactic| walk_at "eb") => `(tactic| first
  | ((with_reducible refine' eb_own ?k1 ?k2); (case k1 => walk_at "lk"); (case k2 => decide))
  | ((with_reducible refine' EvE.b ?k1); (case k1 => walk_at "ev")))
local macro_rules | `(tactic| walk_at "el") => `(tactic| first
  | with_reducible exact el_nil
  | ((with_reducible refine' el_cons ?k1 ?k2 ?k3); (case k1 => walk_at "ev"); (case k2 => walk_at "el"); (case k3 => rfl)))
local macro_rules | `(tactic| walk_at "sub") => `(tactic| first
  | with_reducible exact sub_nil
  | ((with_reducible refine' sub_cons ?k1 ?k2); (case k1 => walk_at "lk"); (case k2 => walk_at "sub")))


local macro_rules | `(tactic| walk_at "scok") => `(tactic| (intro _; exact scok rfl (by decide +kernel) (by
  simp only [List.all_cons, List.all_nil, List.filter_cons, List.filter_nil]
  (try simp only [show (NameKind.local == NameKind.free) = false from rfl, show (NameKind.free == NameKind.free) = true from rfl, show (NameKind.cell == NameKind.free) = false from rfl, show (NameKind.globalImplicit == NameKind.free) = false from rfl, Bool.false_eq_true, if_false, if_true, List.all_cons, List.all_nil, Bool.and_true, Bool.and_eq_true, beq_iff_eq])
  (repeat' (first | apply And.intro | walk_at "kd" | rfl)))))
local macro_rules | `(tactic| walk_at "cap") => `(tactic| first
  | exact cap_nil
  | (refine' cap_cons ?k1 ?k2 ?k3; (case k1 => walk_at "lk"); (case k2 => decide +kernel); (case k3 => walk_at "cap")))


section
variable {c : Cx} {mg mb : Str → Option Value} {A : Around} {env : Env} {ρ : PS}

theorem sw_cell {e : Expr} {t : Str} {p : Pos} {l : Nat} {env : Env} (h : env.kindOf t = some .cell) : swapsWith e (some (.Name t p)) l env = pure false := by
  unfold swapsWith
  cases e <;> first
    | rfl
    | (show (pure (env.blockKind == .function && env.kindOf t == some .local && _ && _) : Sem Bool) = pure false
       rw [h]
       simp [show ((some NameKind.cell : Option NameKind) == some NameKind.local) = false from rfl])

theorem sw_local {elt : Expr} {gens : List Comprehension} {sc : Scope} {cp : Pos} {t : Str} {p : Pos} {l : Nat} {env : Env} (hk : env.scope.kind = .function) (h : env.kindOf t = some .local) (hp : (p.line == cp.line) = true)
    (hn : (sc.names.any fun q => q.1 == t && (q.2 == .local || q.2 == .cell)) = false) : swapsWith (.ListComp elt gens sc cp) (some (.Name t p)) l env = pure true := by
  show (pure (env.blockKind == .function && env.kindOf t == some .local && (p.line == cp.line) && !(sc.names.any fun q => q.1 == t && (q.2 == .local || q.2 == .cell))) : Sem Bool) = pure true
  rw [h, hp, hn, Env.blockKind, hk]
  rfl

theorem pickL_map {α β : Type} (f : α → β) (xs : List α) (lo hi st : Option Int) : pickL (xs.map f) lo hi st = (pickL xs lo hi st).map f := by
  unfold pickL
  rw [List.length_map, List.map_filterMap]
  congr 1
  funext j
  rw [List.getElem?_map]

def s0Of (n : Int) : Int := 255 - n.fmod 200
def s1Of (n : Int) : Int := 1 + (n.fdiv 200).fmod 50
def onesOf (s0 s1 : Int) : List (List Int) := [s0, s1].map fun x => [x]
def nextOf (s0 s1 : Int) (l : List (List Int)) : List (List Int) := [s0, s1].flatMap fun x => l.map fun row => x :: row
def rowsOf (s0 s1 : Int) : List (List Int) := onesOf s0 s1 ++ nextOf s0 s1 (onesOf s0 s1) ++ nextOf s0 s1 (nextOf s0 s1 (onesOf s0 s1))
noncomputable def dueOf (rs : List Rule) (s0 s1 : Int) : List Int := (rowsOf s0 s1).map fun row => T rs row 256
def ten : List Int := [3, 0, 10, 12, 31, 0]
def numsOf (tk : List Int) : List Int := ten.zipIdx.map fun p => p.1 + (pickL tk (some (p.2 : Nat)) none (some 6)).sum
theorem zi_get {l : List Int} {i : Nat} {p : Int × Nat} (h : l.zipIdx[i]? = some p) : p.2 = i ∧ l[i]? = some p.1 := by
  rw [List.getElem?_zipIdx] at h
  cases e : l[i]? with
  | none => rw [e] at h; cases h
  | some n => rw [e] at h; cases h; exact ⟨by simp, rfl⟩
theorem nums_len (tk : List Int) : (numsOf tk).length = 6 := by unfold numsOf; rw [List.length_map]; rfl

/-- what the text claims of the rules -/
structure LawAt (rs : List Rule) (s0 s1 : Int) : Prop where
  len : rs.length ≤ 5
  ok : ∀ r ∈ rs, okRule r
  cnt : ∀ front, (rowsOf s0 s1).map (fun row => (((derived front rs).countP fun y => decide (y = row) : Nat) : Int)) = dueOf rs s0 s1
  all : ∀ front, ((derived front rs).length : Int) = (dueOf rs s0 s1).sum
  few : ∀ front, (derived front rs).length < 2 ^ 62

theorem rows_len {s0 s1 : Int} {row : List Int} (h : row ∈ rowsOf s0 s1) : 1 ≤ row.length ∧ row.length ≤ 3 := by
  unfold rowsOf nextOf onesOf at h
  simp only [List.map_cons, List.map_nil, List.flatMap_cons, List.flatMap_nil, List.append_nil, List.cons_append, List.nil_append, List.mem_cons, List.not_mem_nil, or_false] at h
  rcases h with h | h | h | h | h | h | h | h | h | h | h | h | h | h <;> subst h <;> simp

theorem sub_refl_cons {ρ : PS} : Sub ρ ρ := fun _ _ e => e

theorem walk_law1 (G : Gx c mg mb) (lv : Lv A 2) (hs : env.scope = (fdef 10).2.2.2) (ho : ∀ x a, env.cells.lookup x = some a → env.locals < a) (ns : List Int) (hn : ns.length ≤ 63)
    (law : ∀ n5 l5, l5.length ≤ 5 → LawAt (rulesOf (s0Of n5) (s1Of n5) l5) (s0Of n5) (s1Of n5)) :
    ExecS c A env [("script", .imm (eL ns))] (fdef 10).2.2.1 (fun q _ => q = some (.bool true)) := by
  have hh := lv.hh
  have hk : env.scope.kind = .function := by rw [hs]; decide +kernel
  have ct : env.kindOf "taken" = some .cell := by walk_at "kd"
  -- taken
  generalize htk : (ns.take 63).map (fun x => x.fmod (10 ^ 6)) = tk
  have ltk : tk.length ≤ 63 := by rw [← htk, List.length_map, List.length_take]; omega
  refine' ex_assign (d := eL tk) ?ow1 ?v1 ?k1 (sw_cell ct)
  case ow1 => walk_at "ow"
  case v1 =>
    refine' EvE.eq (EvN.e (en_comp (ds := (ns.take 63).map .int) (outs := (ns.take 63).map fun x => PyData.int (x.fmod (10 ^ 6))) [] (ei_list hh ?i1) ?s1 ?c1 ?l1)) ?e1
    case e1 => rw [← htk, eL, List.map_map]; rfl
    case i1 =>
      refine' EvE.eq (ev_upto (ds := ns.map .int) (k := 63) ?a1 (ev_int _ _ _) ?b1) ?d1
      case a1 => walk_at "eb"
      case b1 => rw [List.length_map, sizeLine_eq]; omega
      case d1 => rw [List.map_take]
    case s1 => walk_at "scok"
    case c1 => walk_at "cap"
    case l1 =>
      intro cenv ic
      refine cl_map PyData.int (fun x => PyData.int (x.fmod (10 ^ 6))) (by rw [sizeLine_eq, List.length_take]; omega) fun x _ => ⟨[("x", .imm (.int x))], ?_, tgt_name (by walk_at "ow"), ?_⟩
      · exact sub_nil
      show EvE c A cenv [("x", .imm (.int x))] _ _
      refine' ev_mod ?a2 (EvE.b (EvE.eq (ev_pow (a := 10) (b := 6) (EvE.b (ev_int _ _ _)) (EvE.b (ev_int _ _ _)) (by decide) (by decide +kernel)) rfl)) (by decide)
      case a2 => walk_at "eb"
  case k1 =>
  -- numbers
  refine' ex_compG (n0 := ten.length) (Z := ZE ten) (outs := (numsOf tk).map .int) [("taken", .imm (eL tk))] ?ow3 (gi_enum (ns := ten) hh ?f3 ?i3) ?s3 ?c3 ?l3 ?k3 (sw_local hk ?kd3 ?ln3 ?nm3)
  case ow3 => walk_at "ow"
  case kd3 => walk_at "kd"
  case ln3 => rfl
  case nm3 => decide +kernel
  case f3 => exact ef_builtin G.toGl (by walk_at "kd") G.enum.1 G.enum.2 (by decide)
  case i3 =>
    show EvE c A env _ _ (.list [.int 3, .int 0, .int 10, .int 12, .int 31, .int 0])
    walk_at "ev"
  case s3 => walk_at "scok"
  case c3 => walk_at "cap"
  case l3 =>
    intro cenv Y2 D I fp wr St h2 hs2 tk2 R ic hz k2 L hY gD H l0 kk
    obtain ⟨it, l, items, w1, w2, w3, rfl, rfl, rfl, sz, hit⟩ := hz
    refine comp_loopG (xs := ten.zipIdx) (fun p : Int × Nat => PyData.int (p.1 + (pickL tk (some (p.2 : Nat)) none (some 6)).sum)) (compTurn_list ..) L hY gD H l0 (by rw [sizeLine_eq]; exact Nat.le_of_ble_eq_true rfl) (fun i p hp => ?_) fun h' tk' H' l' a b => kk h' tk' H' (by rw [show (numsOf tk).map PyData.int = _ from List.map_map]; exact l') a b
    obtain ⟨e1, e2⟩ := zi_get hp
    refine ⟨[("n", .imm (.int p.1)), ("k", .imm (.int i))], ?_, nx_enum hh (by walk_at "ow") (by walk_at "ow") w1 w2 w3 sz hit e2 (fun b hb => ?_) (L.fpo l (by simp)).2.1, ?_⟩
    · show Sub [("taken", .imm (eL tk))] [("n", .imm (.int p.1)), ("k", .imm (.int i)), ("taken", .imm (eL tk))]
      walk_at "sub"
    · have hb2 : b ∈ [I, it, l] := by
        simp only [List.mem_cons, List.not_mem_nil, or_false] at hb ⊢
        rcases hb with hb | hb
        · exact .inl hb
        · exact .inr (.inl hb)
      exact ⟨(L.wr' b hb).1, ⟨(L.fpo b hb2).2.1, (L.fpo b hb2).2.2.2⟩, (L.wr' b hb).2⟩
    · refine emit_append hY gD ?_ ?_
      · show Sub [("taken", .imm (eL tk))] [("n", .imm (.int p.1)), ("k", .imm (.int i)), ("taken", .imm (eL tk))]
        walk_at "sub"
      show EvE c A cenv [("n", .imm (.int p.1)), ("k", .imm (.int i)), ("taken", .imm (eL tk))] _ _
      refine' ev_add ?a4 (EvE.b (vsum G hh ?g4 (EvE.b (EvE.eq (ev_step (ds := tk.map .int) (k := (p.2 : Nat)) (j := 6) ?b4 ?c4 (ev_int _ _ _) (by decide) ?z4) ?d4))))
      case a4 => walk_at "eb"
      case g4 => walk_at "kd"
      case b4 => walk_at "eb"
      case c4 => rw [e1]; walk_at "ev"
      case z4 => rw [List.length_map, sizeLine_eq]; omega
      case d4 => rw [pickL_map]
  case k3 =>
  -- signs
  have lN := nums_len tk
  generalize numsOf tk = N at lN
  obtain ⟨n5, h5⟩ : ∃ n, N[5]? = some n := ⟨_, List.getElem?_eq_getElem (by omega)⟩
  have law' := law n5 (N.take 5) (by rw [List.length_take]; omega)
  have l5 : (N.take 5).length ≤ 5 := by rw [List.length_take]; omega
  have e5 : (N.map PyData.int)[(5 : Int).toNat]? = some (.int n5) := by
    show (N.map PyData.int)[5]? = _
    rw [List.getElem?_map, h5]; rfl
  refine' ex_assign (d := .list [.int (s0Of n5), .int (s1Of n5)]) ?ow5 ?v5 ?k5 (by rfl)
  case ow5 => walk_at "ow"
  case v5 =>
    refine' ev_list (el_cons (ev_sub (EvE.b (ev_int _ _ _)) (EvE.b (ev_mod (EvE.b (ev_item (ds := N.map .int) (k := 5) ?a6 (ev_int _ _ _) (by decide) (by decide) e5)) (EvE.b (ev_int _ _ _)) (by decide))))
      (el_cons (ev_add (EvE.b (ev_int _ _ _)) (EvE.b (ev_mod (EvE.b (ev_div (EvE.b (ev_item (ds := N.map .int) (k := 5) ?b6 (ev_int _ _ _) (by decide) (by decide) e5)) (EvE.b (ev_int _ _ _)) (by decide) (PyProof.noPylong_small (by decide)))) (EvE.b (ev_int _ _ _)) (by decide)))) el_nil)) (by rw [sizeLine_eq]; exact Nat.le_of_ble_eq_true rfl)
    case a6 => walk_at "eb"
    case b6 => walk_at "eb"
  case k5 =>
  generalize hs0 : s0Of n5 = s0 at law' ⊢
  generalize hs1 : s1Of n5 = s1 at law' ⊢
  -- rules
  generalize hrs : rulesOf s0 s1 (N.take 5) = rs at law'
  refine' ex_assign (d := .list (rs.map eR)) ?ow7 ?v7 ?k7 (sw_cell ?ct7)
  case ow7 => walk_at "ow"
  case ct7 => walk_at "kd"
  case v7 =>
    refine' vfun (k := 2) G (fn_rules G) ?g8 (by decide) lv (el_cons (EvE.eq (ev_upto (ds := N.map .int) (k := 5) ?a8 (ev_int _ _ _) ?b8) ?c8) (el_cons ?d8 el_nil)) ⟨N.take 5, s0, s1, rfl, l5, by rw [hrs]⟩
    case g8 => walk_at "kd"
    case a8 => walk_at "eb"
    case b8 => rw [List.length_map, sizeLine_eq]; omega
    case c8 => rw [eL, List.map_take]
    case d8 => walk_at "ev"
  case k7 =>
  have hrl := law'.len
  have hrok := law'.ok
  -- ones
  refine' ex_assign (d := .list ((onesOf s0 s1).map eL)) ?ow9 ?v9 ?k9 (sw_cell ?ct9)
  case ow9 => walk_at "ow"
  case ct9 => walk_at "kd"
  case v9 =>
    refine' EvE.eq (EvN.e (en_comp (ds := [s0, s1].map .int) (outs := [s0, s1].map fun x => eL [x]) [] (ei_list hh ?i10) ?s10 ?c10 ?l10)) ?e10
    case e10 => rfl
    case i10 => show EvE c A env _ _ (.list [.int s0, .int s1]); walk_at "ev"
    case s10 => walk_at "scok"
    case c10 => walk_at "cap"
    case l10 =>
      intro cenv ic
      refine cl_map PyData.int (fun x => eL [x]) (by rw [sizeLine_eq]; exact Nat.le_of_ble_eq_true rfl) fun x _ => ⟨[("x", .imm (.int x))], sub_nil, tgt_name (by walk_at "ow"), ?_⟩
      show EvE c A cenv [("x", .imm (.int x))] _ (.list [.int x])
      walk_at "ev"
  case k9 =>
  -- twos
  refine' ex_assign (d := .list ((nextOf s0 s1 (onesOf s0 s1)).map eL)) ?ow11 ?v11 ?k11 (sw_cell ?ct11)
  case ow11 => walk_at "ow"
  case ct11 => walk_at "kd"
  case v11 =>
    refine' EvE.eq (EvN.e (en_comp (ds := [s0, s1].map .int) (outs := [s0, s1].flatMap fun x => (onesOf s0 s1).map fun row => eL (x :: row)) [("ones", .imm (.list ((onesOf s0 s1).map eL)))] (ei_list hh ?i12) ?s12 ?c12 ?l12)) ?e12
    case e12 => rfl
    case i12 => show EvE c A env _ _ (.list [.int s0, .int s1]); walk_at "ev"
    case s12 => walk_at "scok"
    case c12 => walk_at "cap"
    case l12 =>
      intro cenv ic
      refine cl_two PyData.int eL (fun _ => onesOf s0 s1) (fun x row => eL (x :: row)) (by rw [sizeLine_eq]; exact Nat.le_of_ble_eq_true rfl) fun x _ => ⟨[("x", .imm (.int x))], ?_, tgt_name (by walk_at "ow"), ei_list hh ?_, fun row hrow => ⟨[("row", .imm (eL row))], ?_, tgt_name (by walk_at "ow"), ?_⟩⟩
      · show Sub [("ones", .imm (.list ((onesOf s0 s1).map eL)))] [("x", .imm (.int x)), ("ones", .imm (.list ((onesOf s0 s1).map eL)))]
        walk_at "sub"
      · show EvE c A cenv [("x", .imm (.int x)), ("ones", .imm (.list ((onesOf s0 s1).map eL)))] _ _
        walk_at "ev"
      · show Sub [("x", .imm (.int x)), ("ones", .imm (.list ((onesOf s0 s1).map eL)))] [("row", .imm (eL row)), ("x", .imm (.int x)), ("ones", .imm (.list ((onesOf s0 s1).map eL)))]
        walk_at "sub"
      · show EvE c A cenv [("row", .imm (eL row)), ("x", .imm (.int x)), ("ones", .imm (.list ((onesOf s0 s1).map eL)))] _ _
        refine' EvE.eq (ev_cat (ds := [.int x]) (es := row.map .int) ?a13 ?b13 ?z13) rfl
        case a13 => walk_at "eb"
        case b13 => walk_at "eb"
        case z13 =>
          have : row.length ≤ 3 := (rows_len (s0 := s0) (s1 := s1) (row := row) (by unfold rowsOf; simp only [List.mem_append]; exact .inl (.inl hrow))).2
          rw [sizeLine_eq, List.length_map]; simp only [List.length_singleton]; omega
  case k11 =>
  -- rows
  refine' ex_assign (d := .list ((rowsOf s0 s1).map eL)) ?ow14 ?v14 ?k14 (by rfl)
  case ow14 => walk_at "ow"
  case v14 =>
    refine' EvE.eq (ev_cat (EvE.b (ev_cat (ds := (onesOf s0 s1).map eL) (es := (nextOf s0 s1 (onesOf s0 s1)).map eL) ?a15 ?b15 ?z15)) (EvE.b (EvN.e (en_comp (ds := [s0, s1].map .int) (outs := [s0, s1].flatMap fun x => (nextOf s0 s1 (onesOf s0 s1)).map fun row => eL (x :: row)) [("twos", .imm (.list ((nextOf s0 s1 (onesOf s0 s1)).map eL)))] (ei_list hh ?i15) ?s15 ?c15 ?l15))) ?y15) ?e15
    case a15 => walk_at "eb"
    case b15 => walk_at "eb"
    case z15 => rw [sizeLine_eq]; exact Nat.le_of_ble_eq_true rfl
    case y15 => rw [sizeLine_eq]; exact Nat.le_of_ble_eq_true rfl
    case e15 => rfl
    case i15 => show EvE c A env _ _ (.list [.int s0, .int s1]); walk_at "ev"
    case s15 => walk_at "scok"
    case c15 => walk_at "cap"
    case l15 =>
      intro cenv ic
      refine cl_two PyData.int eL (fun _ => nextOf s0 s1 (onesOf s0 s1)) (fun x row => eL (x :: row)) (by rw [sizeLine_eq]; exact Nat.le_of_ble_eq_true rfl) fun x _ => ⟨[("x", .imm (.int x))], ?_, tgt_name (by walk_at "ow"), ei_list hh ?_, fun row hrow => ⟨[("row", .imm (eL row))], ?_, tgt_name (by walk_at "ow"), ?_⟩⟩
      · show Sub [("twos", .imm (.list ((nextOf s0 s1 (onesOf s0 s1)).map eL)))] [("x", .imm (.int x)), ("twos", .imm (.list ((nextOf s0 s1 (onesOf s0 s1)).map eL)))]
        walk_at "sub"
      · show EvE c A cenv [("x", .imm (.int x)), ("twos", .imm (.list ((nextOf s0 s1 (onesOf s0 s1)).map eL)))] _ _
        walk_at "ev"
      · show Sub [("x", .imm (.int x)), ("twos", .imm (.list ((nextOf s0 s1 (onesOf s0 s1)).map eL)))] [("row", .imm (eL row)), ("x", .imm (.int x)), ("twos", .imm (.list ((nextOf s0 s1 (onesOf s0 s1)).map eL)))]
        walk_at "sub"
      · show EvE c A cenv [("row", .imm (eL row)), ("x", .imm (.int x)), ("twos", .imm (.list ((nextOf s0 s1 (onesOf s0 s1)).map eL)))] _ _
        refine' EvE.eq (ev_cat (ds := [.int x]) (es := row.map .int) ?a16 ?b16 ?z16) rfl
        case a16 => walk_at "eb"
        case b16 => walk_at "eb"
        case z16 =>
          have : row.length ≤ 3 := (rows_len (s0 := s0) (s1 := s1) (row := row) (by unfold rowsOf; simp only [List.mem_append]; exact .inl (.inr hrow))).2
          rw [sizeLine_eq, List.length_map]; simp only [List.length_singleton]; omega
  case k14 =>
  have lr : (rowsOf s0 s1).length = 14 := rfl
  -- due
  refine' ex_comp (ds := (rowsOf s0 s1).map eL) (outs := (rowsOf s0 s1).map fun row => PyData.int (T rs row 256)) [("rules", .imm (.list (rs.map eR)))] ?ow17 (ei_list hh ?i17) ?s17 ?c17 ?l17 ?k17 (sw_local hk ?kd17 ?ln17 ?nm17)
  case ow17 => walk_at "ow"
  case kd17 => walk_at "kd"
  case ln17 => rfl
  case nm17 => decide +kernel
  case i17 => walk_at "ev"
  case s17 => walk_at "scok"
  case c17 => walk_at "cap"
  case l17 =>
    intro cenv ic
    refine cl_map eL (fun row => PyData.int (T rs row 256)) (by rw [sizeLine_eq, lr]; exact Nat.le_of_ble_eq_true rfl) fun row hrow => ⟨[("row", .imm (eL row))], ?_, tgt_name (by walk_at "ow"), ?_⟩
    · show Sub [("rules", .imm (.list (rs.map eR)))] [("row", .imm (eL row)), ("rules", .imm (.list (rs.map eR)))]
      walk_at "sub"
    show EvE c A cenv [("row", .imm (eL row)), ("rules", .imm (.list (rs.map eR)))] _ _
    have hr := rows_len hrow
    refine' vfun (k := 2) G (fn_trees G) ?g18 (by decide) lv (el_cons ?a18 (el_cons ?b18 el_nil)) ⟨rs, row, rfl, hrl, hrok, hr.1, hr.2, rfl⟩
    case g18 => walk_at "kd"
    case a18 => walk_at "ev"
    case b18 => walk_at "ev"
  case k17 =>
  rw [show (rowsOf s0 s1).map (fun row => PyData.int (T rs row 256)) = (dueOf rs s0 s1).map .int from (List.map_map (f := fun row => T rs row 256) (g := PyData.int)).symm]
  refine' ex_disown "due" (ds := (dueOf rs s0 s1).map .int) ?l19 ?k19
  case l19 => walk_at "lk"
  case k19 =>
  refine' ex_forM PyData.bool (fun _ : Unit => [("due", .imm (eL (dueOf rs s0 s1))), ("rows", .imm (.list ((rowsOf s0 s1).map eL))), ("rules", .imm (.list (rs.map eR)))]) (fun _ _ => True) (fun u _ => u) () (xs := [true, false]) (ei_list hh ?i20) ?w20 trivial ?turn20 ?k20
  case i20 => show EvE c A env _ _ (.list [.bool true, .bool false]); walk_at "ev"
  case w20 => walk_at "sub"
  case k20 =>
    intro _
    exact ex_ret (ev_bool _ _ _) rfl
  case turn20 =>
    intro i _ front _ _
    refine ⟨[("front", .imm (.bool front))], tgt_name (by walk_at "ow"), ?_⟩
    show ExecS c A env [("front", .imm (.bool front)), ("due", .imm (eL (dueOf rs s0 s1))), ("rows", .imm (.list ((rowsOf s0 s1).map eL))), ("rules", .imm (.list (rs.map eR)))] _ _
    have hcnt := law'.cnt front
    have hall := law'.all front
    have hfew := law'.few front
    refine' ex_assign (d := .list ((derived front rs).map eL)) ?ow21 ?v21 ?k21 (sw_cell ?ct21)
    case ow21 => walk_at "ow"
    case ct21 => walk_at "kd"
    case v21 =>
      refine' vfun (k := 2) G (fn_derived G) ?g22 (by decide) lv (el_cons ?a22 (el_cons ?b22 el_nil)) ⟨front, rs, rfl, hrl, hrok, rfl⟩
      case g22 => walk_at "kd"
      case a22 => walk_at "ev"
      case b22 => walk_at "ev"
    case k21 =>
    generalize derived front rs = told at hcnt hall hfew ⊢
    refine' ex_if (k := false) (EvT.eq (et_or (et_isNone (d := .list (told.map eL)) ?x23 (fun h => by cases h)) fun _ => et_or (et_cmp ?a23 ?b23 (fun a b h X p q => op_neI p q) ?m23) fun _ => et_or0) ?q23) ?y23 ?z23
    case x23 => walk_at "eb"
    case a23 =>
      refine' EvE.b (vlen G ?g24 (ds := told.map eL) ?b24 ?z24)
      case g24 => walk_at "kd"
      case b24 => walk_at "eb"
      case z24 => rw [List.length_map]; exact hfew
    case b23 =>
      refine' EvE.b (vsum G hh ?g25 ?b25)
      case g25 => walk_at "kd"
      case b25 => walk_at "eb"
    case m23 => rfl
    case q23 => rw [List.length_map, hall]; simp
    case y23 => intro q; cases q
    case z23 =>
    intro _
    refine ex_nil ?_
    refine' ex_if (k := false) (EvT.eq (et_cmp (EvE.b (EvN.e (en_comp (ds := (rowsOf s0 s1).map eL) (outs := (rowsOf s0 s1).map fun row => PyData.int ((told.map eL).countP (·.eqv (eL row)) : Nat)) [("told", .imm (.list (told.map eL)))] (ei_list hh ?i26) ?s26 ?c26 ?l26))) ?b26 (fun a b h X p q => op_neD p q ?sa26 (sh_eL (dueOf rs s0 s1)) lv.u) ?m26) ?q26) ?y26 ?z26
    case i26 => walk_at "ev"
    case s26 => walk_at "scok"
    case c26 => walk_at "cap"
    case l26 =>
      intro cenv ic
      refine cl_map eL (fun row => PyData.int ((told.map eL).countP (·.eqv (eL row)) : Nat)) (by rw [sizeLine_eq, lr]; exact Nat.le_of_ble_eq_true rfl) fun row hrow => ⟨[("row", .imm (eL row))], ?_, tgt_name (by walk_at "ow"), ?_⟩
      · show Sub [("told", .imm (.list (told.map eL)))] [("row", .imm (eL row)), ("told", .imm (.list (told.map eL)))]
        walk_at "sub"
      show EvE c A cenv [("row", .imm (eL row)), ("told", .imm (.list (told.map eL)))] _ _
      refine' ev_count (ds := told.map eL) (d := eL row) ?a27 ?b27 (sh_eL row) ?c27 lv.u1 ?d27 ?e27
      case a27 => walk_at "ev"
      case b27 => walk_at "ev"
      case c27 =>
        intro y hy
        obtain ⟨l, _, rfl⟩ := List.mem_map.mp hy
        exact sh_eL l
      case d27 => rfl
      case e27 => rfl
    case b26 => walk_at "eb"
    case sa26 =>
      have := sh_eL ((rowsOf s0 s1).map fun row => (((told.map eL).countP (·.eqv (eL row)) : Nat) : Int))
      rw [eL, List.map_map] at this
      exact this
    case m26 => rfl
    case q26 =>
      have e1 : ∀ row, ((told.map eL).countP (·.eqv (eL row))) = told.countP fun y => decide (y = row) := fun row => by
        rw [List.countP_map]
        congr 1
        funext y
        exact eqv_eL y row
      have e2 : (rowsOf s0 s1).map (fun row => PyData.int ((told.map eL).countP (·.eqv (eL row)) : Nat)) = (dueOf rs s0 s1).map .int := by
        rw [← hcnt, List.map_map]
        congr 1
        funext row
        show PyData.int _ = PyData.int _
        rw [e1]
      rw [e2, show PyData.list ((dueOf rs s0 s1).map .int) = eL (dueOf rs s0 s1) from rfl, eqv_eL]
      simp
    case y26 => intro q; cases q
    case z26 =>
    intro _
    refine ex_nil (ex_nil ⟨rfl, ?_, trivial⟩)
    walk_at "sub"
end
end Mine


open PySem PySem.W PyProof.Rows PySem.Calls PySem.Spec
set_option Elab.async false
set_option maxRecDepth 100000
set_option linter.unusedVariables false
set_option linter.unusedSimpArgs false
namespace Mine

variable {rs : List Rule}

noncomputable def wSt (rs : List Rule) (u : List Int) (st : List Ent) : Int := (st.map fun e => Wf rs (e.1 ++ e.2) u).sum

structure Inv (rs : List Rule) (s0 s1 : Int) (σ : DS) : Prop where
  w : ∀ u : List Int, u.length ≤ 3 → ((σ.1.countP fun y => decide (y = u) : Nat) : Int) + wSt rs u σ.2 = T rs u 256
  told : ∀ d ∈ σ.1, d ≠ [] ∧ d.length ≤ 3 ∧ ∀ x ∈ d, x = s0 ∨ x = s1
  ent : ∀ e ∈ σ.2, e.1 ++ e.2 ≠ [] ∧ (∀ x ∈ e.1, x = s0 ∨ x = s1) ∧ ∀ x ∈ e.2, x < 256 → x = s0 ∨ x = s1

theorem Wf_expand (hr : ∀ r ∈ rs, okRule r) {a : Int} (ha : ¬ a < 256) (d b u : List Int) (hu : u.length ≤ 3) : Wf rs (d ++ a :: b) u = (rs.map fun r => if r.1 = a then Wf rs (d ++ (r.2 ++ b)) u else 0).sum := by
  rw [Wf_append]
  have e1 : ∀ v : List Int, v.length ≤ u.length → Wf rs (a :: b) v = (rs.map fun r => if r.1 = a then Wf rs (r.2 ++ b) v else 0).sum := fun v hv => by
    show conv (w1 rs a) (Wf rs b) v = _
    have q1 : ∀ w : List Int, w.length ≤ v.length → w1 rs a w = (fun v => (rs.map fun r => if r.1 = a then Wf rs r.2 v else 0).sum) w := fun w hw => (if_neg ha).trans (T_fix hr a w (by omega))
    rw [conv_congr q1, conv_sum (fun (r : Rule) v => if r.1 = a then Wf rs r.2 v else 0)]
    congr 1
    apply List.map_congr_left
    intro r m
    split
    · rw [Wf_append]
    · exact conv_nil _ _
  rw [conv_congr2 e1, conv_sum2 (fun (r : Rule) v => if r.1 = a then Wf rs (r.2 ++ b) v else 0)]
  congr 1
  apply List.map_congr_left
  intro r m
  split
  · rw [Wf_append d]
  · exact conv_nil2 _ _

theorem push_w {d b u : List Int} {a : Int} (hu : u.length ≤ 3) : ∀ (rs0 : List Rule) (st : List Ent), wSt rs u (rs0.foldl (push1 d a b) st) = wSt rs u st + (rs0.map fun r => if r.1 = a then Wf rs (d ++ (r.2 ++ b)) u else 0).sum
  | [], st => by simp
  | r :: rs0, st => by
    rw [List.foldl_cons, push_w hu rs0, List.map_cons, List.sum_cons, ← Int.add_assoc]
    congr 1
    unfold push1
    by_cases h1 : r.1 = a
    · rw [if_pos h1]
      by_cases h2 : d.length + r.2.length + (b.length + 1) ≤ 4
      · rw [if_pos ⟨h1, h2⟩]
        unfold wSt
        rw [List.map_cons, List.sum_cons]
        exact Int.add_comm ..
      · rw [if_neg fun q => h2 q.2, Wf_short _ _ (by simp only [List.length_append]; omega), Int.add_zero]
    · rw [if_neg h1, if_neg fun q => h1 q.1, Int.add_zero]

theorem push_mem {d b : List Int} {a : Int} {e : Ent} : ∀ (rs0 : List Rule) (st : List Ent), e ∈ rs0.foldl (push1 d a b) st → e ∈ st ∨ ∃ r ∈ rs0, e = (d, r.2 ++ b)
  | [], st, m => .inl m
  | r :: rs0, st, m => by
    rcases push_mem rs0 _ m with m | ⟨r', m', e'⟩
    · unfold push1 at m
      split at m
      · rcases List.mem_cons.mp m with m | m
        · exact .inr ⟨r, List.mem_cons_self, m⟩
        · exact .inl m
      · exact .inl m
    · exact .inr ⟨r', List.mem_cons_of_mem _ m', e'⟩

theorem inv_step {s0 s1 : Int} (h0 : s0 < 256) (h1 : s1 < 256) (hr : ∀ r ∈ rs, okRule r) (hsg : ∀ r ∈ rs, ∀ x ∈ r.2, x < 256 → x = s0 ∨ x = s1) {told : List (List Int)} {e : Ent} {st : List Ent} (hok : ∀ e' ∈ e :: st, okE e')
    (I : Inv rs s0 s1 (told, e :: st)) : Inv rs s0 s1 (dstep rs (told, e :: st)) := by
  obtain ⟨d, b⟩ := e
  have ie := I.ent _ List.mem_cons_self
  have he := hok _ List.mem_cons_self
  have ist := fun e m => I.ent e (List.mem_cons_of_mem _ m)
  have hw : ∀ u : List Int, u.length ≤ 3 → ((told.countP fun y => decide (y = u) : Nat) : Int) + (Wf rs (d ++ b) u + wSt rs u st) = T rs u 256 := fun u hu => I.w u hu
  have hd : ∀ x ∈ d, x < 256 := fun x m => by rcases ie.2.1 x m with q | q <;> rw [q] <;> assumption
  cases b with
  | nil =>
    refine ⟨fun u hu => ?_, fun d' m => ?_, ist⟩
    · have := hw u hu
      rw [List.append_nil, Wf_signs d u hd] at this
      simp only [dstep, List.countP_append, List.countP_cons, List.countP_nil]
      rw [← this]
      by_cases q : u = d
      · subst q; simp; omega
      · rw [if_neg q]
        have q' : ¬ d = u := fun e => q e.symm
        simp [q']
    · rcases List.mem_append.mp m with m | m
      · exact I.told d' m
      · rw [List.mem_singleton] at m; subst m
        refine ⟨by simpa using ie.1, ?_, ie.2.1⟩
        have := he.len
        simp only [List.length_nil] at this
        omega
  | cons a b =>
    by_cases ha : a < 256
    · simp only [dstep, if_pos ha]
      refine ⟨fun u hu => ?_, I.told, fun e m => ?_⟩
      · have := hw u hu
        rw [← this]
        unfold wSt
        simp only [List.map_cons, List.sum_cons, List.append_assoc, List.cons_append, List.nil_append]
      · rcases List.mem_cons.mp m with rfl | m
        · refine ⟨by simp, fun x m => ?_, fun x m => ie.2.2 x (List.mem_cons_of_mem _ m)⟩
          rcases List.mem_append.mp m with m | m
          · exact ie.2.1 x m
          · rw [List.mem_singleton] at m; subst m; exact ie.2.2 x List.mem_cons_self ha
        · exact ist e m
    · simp only [dstep, if_neg ha]
      refine ⟨fun u hu => ?_, I.told, fun e m => ?_⟩
      · have := hw u hu
        rw [← this, Wf_expand hr ha d b u hu]
        simp only [push_w hu]
        omega
      · rcases push_mem rs st m with m | ⟨r, mr, rfl⟩
        · exact ist e m
        · refine ⟨?_, ie.2.1, fun x m' => ?_⟩
          · rcases (hr r mr).2.2 with ⟨s, e, _⟩ | ⟨x, y, e, _⟩ <;> rw [e] <;> simp
          · rcases List.mem_append.mp m' with m' | m'
            · exact hsg r mr x m'
            · exact ie.2.2 x (List.mem_cons_of_mem _ m')

theorem run_ex {s0 s1 : Int} (h0 : s0 < 256) (h1 : s1 < 256) (hr : ∀ r ∈ rs, okRule r) (hl : rs.length ≤ 5) (hsg : ∀ r ∈ rs, ∀ x ∈ r.2, x < 256 → x = s0 ∨ x = s1) :
    ∀ (m : Nat) (told : List (List Int)) (st : List Ent), mu st ≤ m → (∀ e ∈ st, okE e) → Inv rs s0 s1 (told, st) → ∃ n t, drun rs n (told, st) = (t, []) ∧ Inv rs s0 s1 (t, []) ∧ t.length ≤ told.length + mu st
  | m, told, [], _, _, I => ⟨0, told, rfl, I, Nat.le_add_right ..⟩
  | 0, told, e :: st, hm, hok, _ => by
    have := (dstep_ok hr hl hok (told := told)).2.1
    omega
  | m + 1, told, e :: st, hm, hok, I => by
    obtain ⟨k1, k2, k3⟩ := dstep_ok hr hl hok (told := told)
    have I' := inv_step h0 h1 hr hsg hok I
    generalize hσ : dstep rs (told, e :: st) = σ at k1 k2 k3 I'
    obtain ⟨told', st'⟩ := σ
    obtain ⟨n, t, a, b, c⟩ := run_ex h0 h1 hr hl hsg m told' st' (by simp only at k2; omega) k1 I'
    refine ⟨n + 1, t, ?_, b, ?_⟩
    · rw [drun, hσ]; exact a
    · simp only at k3; omega

theorem run_start {s0 s1 : Int} (h0 : s0 < 256) (h1 : s1 < 256) (hr : ∀ r ∈ rs, okRule r) (hl : rs.length ≤ 5) (hsg : ∀ r ∈ rs, ∀ x ∈ r.2, x < 256 → x = s0 ∨ x = s1) :
    ∃ t, Ends rs t ∧ Inv rs s0 s1 (t, []) ∧ t.length ≤ 1679616 := by
  have I0 : Inv rs s0 s1 ([], [([], [256])]) := by
    refine ⟨fun u _ => ?_, fun d m => ?_, fun e m => ?_⟩
    · show (0 : Int) + (Wf rs [256] u + 0) = _
      rw [Wf_one, Int.add_zero, Int.zero_add]
      exact if_neg (by decide)
    · cases m
    · rw [List.mem_singleton] at m; subst m
      refine ⟨by simp, fun x m => ?_, fun x m hx => ?_⟩
      · cases m
      · rw [List.mem_singleton] at m; subst m; exact absurd hx (by decide)
  obtain ⟨n, t, a, b, c⟩ := run_ex h0 h1 hr hl hsg _ [] [([], [256])] (Nat.le_refl _) (fun e m => by rw [List.mem_singleton] at m; subst m; exact ok_start) I0
  refine ⟨t, ⟨n, a⟩, b, ?_⟩
  rw [mu_start] at c
  simpa using c

-- mirrored rules
def fl (r : Rule) : Rule := (r.1, r.2.reverse)
theorem cnt1_fl (hr : ∀ r ∈ rs, okRule r) (A x : Int) : cnt1 (rs.map fl) A x = cnt1 rs A x := by
  rw [cnt1_sum, cnt1_sum, List.map_map]
  congr 1
  apply List.map_congr_left
  intro r _
  have : (fl r).2 = [x] ↔ r.2 = [x] := by
    show r.2.reverse = [x] ↔ _
    rw [List.reverse_eq_iff]; rfl
  simp only [Function.comp_apply, this]
  rfl
theorem T_fl2 (hr : ∀ r ∈ rs, okRule r) (A x y : Int) : T (rs.map fl) [y, x] A = T rs [x, y] A := by
  rw [T_more _ (by simp), T_more _ (by simp), List.map_map]
  congr 1
  apply List.map_congr_left
  intro r m
  show (if r.1 = A then contrib (rs.map fl) [y, x] (fl r) else 0) = _
  congr 1
  unfold contrib fl
  rcases (hr r m).2.2 with ⟨s, e, _⟩ | ⟨B, C, e, _⟩
  · rw [e]; rfl
  · rw [e]
    show ((List.range 1).map fun i => T (rs.map fl) ([y, x].take (1 + i)) C * T (rs.map fl) ([y, x].drop (1 + i)) B).sum = ((List.range 1).map fun i => T rs ([x, y].take (1 + i)) B * T rs ([x, y].drop (1 + i)) C).sum
    simp [List.range_succ, T_one, cnt1_fl hr, Int.mul_comm]
theorem T_fl (hr : ∀ r ∈ rs, okRule r) (A : Int) : ∀ u : List Int, u.length ≤ 3 → T (rs.map fl) u.reverse A = T rs u A
  | [], _ => rfl
  | [x], _ => cnt1_fl hr A x
  | [x, y], _ => T_fl2 hr A x y
  | [x, y, z], _ => by
    show T (rs.map fl) [z, y, x] A = _
    rw [T_more _ (by simp), T_more _ (by simp), List.map_map]
    congr 1
    apply List.map_congr_left
    intro r m
    show (if r.1 = A then contrib (rs.map fl) [z, y, x] (fl r) else 0) = _
    congr 1
    unfold contrib
    rcases (hr r m).2.2 with ⟨s, e, _⟩ | ⟨B, C, e, _⟩
    · rw [show (fl r).2 = r.2.reverse from rfl, e]; rfl
    · rw [show (fl r).2 = r.2.reverse from rfl, e]
      show ((List.range 2).map fun i => T (rs.map fl) ([z, y, x].take (1 + i)) C * T (rs.map fl) ([z, y, x].drop (1 + i)) B).sum = ((List.range 2).map fun i => T rs ([x, y, z].take (1 + i)) B * T rs ([x, y, z].drop (1 + i)) C).sum
      have e1 := T_fl2 hr
      simp [List.range_succ, T_one, cnt1_fl hr, e1]
      rw [Int.mul_comm (cnt1 rs C z), Int.mul_comm (T rs [y, z] C)]
      omega
  | _ :: _ :: _ :: _ :: _, h => by simp at h

theorem flip_eq (front : Bool) : flipR front rs = if front then rs else rs.map fl := rfl

theorem rows_nodup {s0 s1 : Int} (h : s0 ≠ s1) : (rowsOf s0 s1).Nodup := by
  have h' : ¬ s1 = s0 := fun e => h e.symm
  simp [rowsOf, nextOf, onesOf, h, h']
theorem rows_all {s0 s1 : Int} : ∀ d : List Int, d ≠ [] → d.length ≤ 3 → (∀ x ∈ d, x = s0 ∨ x = s1) → d ∈ rowsOf s0 s1
  | [], h, _, _ => absurd rfl h
  | [x], _, _, h => by
    have hx := h x (by simp)
    rcases hx with rfl | rfl <;> simp [rowsOf, nextOf, onesOf]
  | [x, y], _, _, h => by
    have hx := h x (by simp)
    have hy := h y (by simp)
    rcases hx with rfl | rfl <;> rcases hy with rfl | rfl <;> simp [rowsOf, nextOf, onesOf]
  | [x, y, z], _, _, h => by
    have hx := h x (by simp)
    have hy := h y (by simp)
    have hz := h z (by simp)
    rcases hx with rfl | rfl <;> rcases hy with rfl | rfl <;> rcases hz with rfl | rfl <;> simp [rowsOf, nextOf, onesOf]
  | _ :: _ :: _ :: _ :: _, _, h, _ => by simp at h

theorem sum_add {α : Type} (f g : α → Int) : ∀ l : List α, (l.map fun a => f a + g a).sum = (l.map f).sum + (l.map g).sum
  | [] => rfl
  | a :: l => by simp only [List.map_cons, List.sum_cons, sum_add f g l]; omega
theorem sum_one {α : Type} [DecidableEq α] (y : α) : ∀ l : List α, l.Nodup → y ∈ l → (l.map fun a => if y = a then (1 : Int) else 0).sum = 1
  | [], _, m => by cases m
  | a :: l, nd, m => by
    rw [List.nodup_cons] at nd
    rw [List.map_cons, List.sum_cons]
    by_cases h : y = a
    · subst h
      rw [if_pos rfl, sum_zero _ l fun b mb => if_neg fun (e : y = b) => nd.1 (e ▸ mb)]; rfl
    · rw [if_neg h, sum_one y l nd.2 ((List.mem_cons.mp m).resolve_left h)]; rfl
theorem count_all {rows : List (List Int)} (nd : rows.Nodup) : ∀ L : List (List Int), (∀ y ∈ L, y ∈ rows) → (rows.map fun row => ((L.countP fun y => decide (y = row) : Nat) : Int)).sum = L.length
  | [], _ => by simp only [List.countP_nil]; exact sum_zero _ _ fun _ _ => rfl
  | y :: L, h => by
    have ih := count_all nd L fun y m => h y (List.mem_cons_of_mem _ m)
    have e : ∀ row, (((y :: L).countP fun y => decide (y = row) : Nat) : Int) = ((L.countP fun y => decide (y = row) : Nat) : Int) + if y = row then 1 else 0 := fun row => by
      rw [List.countP_cons]
      by_cases q : y = row <;> simp [q]
    simp only [e]
    rw [sum_add, ih, sum_one y rows nd (h y List.mem_cons_self)]
    simp

theorem law_at {s0 s1 : Int} (h0 : 0 < s0 ∧ s0 < 256) (h1 : 0 < s1 ∧ s1 < 256) (ne : s0 ≠ s1) (hr : ∀ r ∈ rs, okRule r) (hl : rs.length ≤ 5) (hsg : ∀ r ∈ rs, ∀ x ∈ r.2, x < 256 → x = s0 ∨ x = s1) : LawAt rs s0 s1 := by
  have key : ∀ front, ∃ t, derived front rs = t ∧ t.length ≤ 1679616 ∧ (∀ d ∈ t, d ∈ rowsOf s0 s1) ∧ ∀ u : List Int, u.length ≤ 3 → ((t.countP fun y => decide (y = u) : Nat) : Int) = T rs u 256 := fun front => by
    obtain ⟨t, E, I, L⟩ := run_start (rs := flipR front rs) h0.2 h1.2 (okFlip hr) (by rw [flip_len]; exact hl) (fun r m x mx hx => by
      cases front with
      | true => exact hsg r m x mx hx
      | false =>
        obtain ⟨r', m', rfl⟩ := List.mem_map.mp m
        exact hsg r' m' x (List.mem_reverse.mp mx) hx)
    refine ⟨derived front rs, rfl, ?_, fun d m => ?_, fun u hu => ?_⟩
    · unfold derived
      rw [derivedN_eq E, List.length_map]; exact L
    · unfold derived at m
      rw [derivedN_eq E] at m
      obtain ⟨d', m', rfl⟩ := List.mem_map.mp m
      obtain ⟨a, b, c⟩ := I.told d' m'
      cases front with
      | true => exact rows_all d' a b c
      | false => exact rows_all d'.reverse (by simpa using a) (by simpa using b) fun x mx => c x (List.mem_reverse.mp mx)
    · unfold derived
      rw [derivedN_eq E, List.countP_map]
      have hw : ∀ u : List Int, u.length ≤ 3 → ((t.countP fun y => decide (y = u) : Nat) : Int) = T (flipR front rs) u 256 := fun u hu => by
        have := I.w u hu
        rw [← this]
        show _ = _ + (0 : Int)
        rw [Int.add_zero]
      cases front with
      | true => exact hw u hu
      | false =>
        rw [← T_fl hr 256 u hu]
        have := hw u.reverse (by rw [List.length_reverse]; exact hu)
        rw [show flipR false rs = rs.map fl from rfl] at this
        rw [← this]
        congr 2
        funext y
        show decide (y.reverse = u) = decide (y = u.reverse)
        congr 1
        exact propext List.reverse_eq_iff
  have cnt : ∀ front, (rowsOf s0 s1).map (fun row => (((derived front rs).countP fun y => decide (y = row) : Nat) : Int)) = dueOf rs s0 s1 := fun front => by
    obtain ⟨t, e, _, _, k⟩ := key front
    rw [e]
    unfold dueOf
    apply List.map_congr_left
    intro row m
    exact k row (rows_len m).2
  refine ⟨hl, hr, cnt, fun front => ?_, fun front => ?_⟩
  · rw [← cnt front]
    obtain ⟨t, e, _, k, _⟩ := key front
    rw [e]
    exact (count_all (rows_nodup ne) t k).symm
  · obtain ⟨t, e, k, _⟩ := key front
    rw [e]; omega
end Mine


open PySem PySem.W PyProof.Rows PySem.Calls PySem.Spec
set_option Elab.async false
set_option maxRecDepth 100000
set_option linter.unusedVariables false
set_option linter.unusedSimpArgs false
namespace Mine

theorem fmod_in (a b : Int) (h : 0 < b) : 0 ≤ a.fmod b ∧ a.fmod b < b := ⟨Int.fmod_nonneg_of_pos a h, Int.fmod_lt_of_pos a h⟩

theorem ruleOf_ok {s0 s1 : Int} (h0 : 0 < s0 ∧ s0 < 256) (h1 : 0 < s1 ∧ s1 < 256) (n : Int) : okRule (ruleOf s0 s1 n) ∧ ∀ x ∈ (ruleOf s0 s1 n).2, x < 256 → x = s0 ∨ x = s1 := by
  unfold ruleOf okRule
  have a := fmod_in n 3 (by decide)
  have b := fmod_in ((n.fdiv 3).fdiv 3) 3 (by decide)
  have c := fmod_in ((n.fdiv 3).fdiv 9) 3 (by decide)
  by_cases q : (n.fdiv 3).fmod 3 = 0
  · simp only [q, beq_self_eq_true, if_true]
    refine ⟨⟨by omega, by omega, .inl ⟨_, rfl, ?_⟩⟩, fun x m _ => ?_⟩
    · split <;> omega
    · rw [List.mem_singleton] at m
      subst m
      split
      · exact .inl rfl
      · exact .inr rfl
  · have q' : ((n.fdiv 3).fmod 3 == 0) = false := by simpa using q
    simp only [q', Bool.false_eq_true, if_false]
    refine ⟨⟨by omega, by omega, .inr ⟨_, _, rfl, by omega, by omega, by omega, by omega⟩⟩, fun x m hx => ?_⟩
    simp only [List.mem_cons, List.not_mem_nil, or_false] at m
    rcases m with rfl | rfl <;> omega

theorem foldl_ok {s0 s1 : Int} (P : Rule → Prop) (hP : ∀ n, P (ruleOf s0 s1 n)) : ∀ (ns : List Int) (rs : List Rule), (∀ r ∈ rs, P r) → (∀ r ∈ ns.foldl (stepR s0 s1) rs, P r) ∧ (ns.foldl (stepR s0 s1) rs).length ≤ rs.length + ns.length
  | [], rs, h => ⟨h, by simp⟩
  | n :: ns, rs, h => by
    have hs : ∀ r ∈ stepR s0 s1 rs n, P r := fun r m => by
      unfold stepR at m
      split at m
      · exact h r m
      · rcases List.mem_append.mp m with m | m
        · exact h r m
        · rw [List.mem_singleton] at m; subst m; exact hP n
    obtain ⟨a, b⟩ := foldl_ok P hP ns _ hs
    refine ⟨a, ?_⟩
    have := stepR_len s0 s1 rs n
    rw [List.foldl_cons, List.length_cons]
    omega

theorem law_rules (n5 : Int) (l5 : List Int) (hl : l5.length ≤ 5) : LawAt (rulesOf (s0Of n5) (s1Of n5) l5) (s0Of n5) (s1Of n5) := by
  have a := fmod_in n5 200 (by decide)
  have b := fmod_in (n5.fdiv 200) 50 (by decide)
  have h0 : 0 < s0Of n5 ∧ s0Of n5 < 256 := by unfold s0Of; omega
  have h1 : 0 < s1Of n5 ∧ s1Of n5 < 256 := by unfold s1Of; omega
  have ne : s0Of n5 ≠ s1Of n5 := by unfold s0Of s1Of; omega
  obtain ⟨k1, k2⟩ := foldl_ok (s0 := s0Of n5) (s1 := s1Of n5) (fun r => okRule r ∧ ∀ x ∈ r.2, x < 256 → x = s0Of n5 ∨ x = s1Of n5) (fun n => ruleOf_ok h0 h1 n) l5 [] (fun r m => by cases m)
  refine law_at h0 h1 ne (fun r m => (k1 r m).1) ?_ fun r m => (k1 r m).2
  have : (rulesOf (s0Of n5) (s1Of n5) l5).length ≤ ([] : List Rule).length + l5.length := k2
  simp only [List.length_nil] at this
  omega

section
variable {c : Cx} {mg mb : Str → Option Value}

theorem fn_law (G : Gx c mg mb) {a : Addr} {o : Obj} {pm cd doc : Value} (ho : c.g.get? a = some o) (hd : o.data = .func (docDef (fdef 10).1 (fdef 10).2.1 (fdef 10).2.2.1 (fdef 10).2.2.2 pm cd doc)) (hc : c.g.CodeRec cd (fdef 10).1) :
    FnOk c 3 a (fun ds r => ∃ ns, ds = [eL ns] ∧ ns.length ≤ 63 ∧ r = .bool true) := by
  refine fn_ok G.toGl ho hd hc ["script"] (fun vs hl => ?_) (fun x hx => ?_) (by simp) (by decide +kernel) (by decide +kernel) (by decide +kernel) (by decide +kernel) (fun A env hs ho lv ds r pr => ?_) fun ds r pr => ?_
  · match vs, hl with
    | [v], _ => rfl
  · simp only [List.mem_singleton] at hx; subst hx; exact .inl (by decide +kernel)
  · obtain ⟨ns, rfl, h, rfl⟩ := pr
    exact walk_law1 G lv hs ho ns h law_rules
  · obtain ⟨ns, rfl, _, _⟩ := pr; rfl
end
end Mine


open PySem PySem.W PyProof.Rows PySem.Calls PySem.Spec
set_option Elab.async false
set_option maxRecDepth 100000
set_option linter.unusedVariables false
set_option linter.unusedSimpArgs false
namespace Mine

theorem rec_of {p : Program} {j i : Nat} (e : ((recsOf p)[j]?).map (fun d => (d.name, d.params, d.body, d.scope)) = some (fdef i)) : ∃ d ∈ recsOf p, d.name = (fdef i).1 ∧ d.params = (fdef i).2.1 ∧ d.body = (fdef i).2.2.1 ∧ d.scope = (fdef i).2.2.2 := by
  cases h : (recsOf p)[j]? with
  | none => rw [h] at e; cases e
  | some d =>
    rw [h] at e
    have e' := Option.some.inj e
    exact ⟨d, List.mem_of_getElem? h, by rw [← e'], by rw [← e'], by rw [← e'], by rw [← e']⟩

theorem fn_of_top {p : Program} {loose : List Str} {mean : ExcName → Option Value} {mg mb : Str → Option Value} {h : Heap} (T : Top p loose mean mg mb h) {j i : Nat} (e : ((recsOf p)[j]?).map (fun d => (d.name, d.params, d.body, d.scope)) = some (fdef i)) :
    ∃ a o pm cd doc, mg (fdef i).1 = some (.ref a) ∧ h.get? a = some o ∧ o.data = .func (docDef (fdef i).1 (fdef i).2.1 (fdef i).2.2.1 (fdef i).2.2.2 pm cd doc) ∧ h.CodeRec cd (fdef i).1 := by
  obtain ⟨d, m, e1, e2, e3, e4⟩ := rec_of e
  obtain ⟨a, o, pm, code, doc, h1, h2, h3, h4⟩ := T.fn d m
  rw [e1] at h1 h4
  rw [e1, e2, e3, e4] at h3
  exact ⟨a, o, pm, code, doc, h1, h2, h3, h4⟩

theorem int_of_top {p : Program} {loose : List Str} {mean : ExcName → Option Value} {mg mb : Str → Option Value} {h : Heap} (T : Top p loose mean mg mb h) {x : Str} {i : Int} (e : valOf p x = some (.int i)) : ∃ t, mg x = some (.int i t) := by
  obtain ⟨v, h1, h2⟩ := T.const x _ e
  have r := h2 h
  cases r
  exact ⟨_, h1⟩

theorem gx_of_top {p : Program} {loose : List Str} {mean : ExcName → Option Value} {mg mb : Str → Option Value} {c : Cx} (T : Top p loose mean mg mb c.g)
    (r0 : ((recsOf p)[0]?).map (fun d => (d.name, d.params, d.body, d.scope)) = some (fdef 3)) (r1 : ((recsOf p)[1]?).map (fun d => (d.name, d.params, d.body, d.scope)) = some (fdef 4))
    (r2 : ((recsOf p)[2]?).map (fun d => (d.name, d.params, d.body, d.scope)) = some (fdef 5)) (r3 : ((recsOf p)[3]?).map (fun d => (d.name, d.params, d.body, d.scope)) = some (fdef 7))
    (r4 : ((recsOf p)[4]?).map (fun d => (d.name, d.params, d.body, d.scope)) = some (fdef 8)) (r5 : ((recsOf p)[5]?).map (fun d => (d.name, d.params, d.body, d.scope)) = some (fdef 9))
    (ve : valOf p "ENDMARKER" = some (.int 0)) (vo : valOf p "NT_OFFSET" = some (.int 256))
    (fr : ∀ x ∈ (["len", "sum", "range", "enumerate"] : List Str), x ∉ startupNames ∧ x ∉ loose ∧ x ∉ (recsOf p).map (·.name) ∧ x ∉ (litsOf p).map (·.1) ∧ x ∉ (clssOf p loose).map (·.name)) : Gx c mg mb := by
  have free : ∀ x ∈ (["len", "sum", "range", "enumerate"] : List Str), mg x = none := fun x m => by
    obtain ⟨a, b, d, e, f⟩ := fr x m
    exact T.free x a b d e f
  refine ⟨⟨T.g, T.b, T.nolimit⟩, ⟨free _ (by simp), ?_⟩, ⟨free _ (by simp), ?_⟩, ⟨free _ (by simp), ?_⟩, ⟨free _ (by simp), ?_⟩, int_of_top T ve, int_of_top T vo, fun i hi => ?_⟩
  · rw [T.builtins _ (by decide)]; decide +kernel
  · rw [T.builtins _ (by decide)]; decide +kernel
  · rw [T.builtins _ (by decide)]; decide +kernel
  · rw [T.builtins _ (by decide)]; decide +kernel
  · rcases hi with rfl | rfl | rfl | rfl | rfl | rfl
    · exact fn_of_top T r0
    · exact fn_of_top T r1
    · exact fn_of_top T r2
    · exact fn_of_top T r3
    · exact fn_of_top T r4
    · exact fn_of_top T r5

theorem rpa_ints {X : Addr → Prop} {h : Heap} {vs : List Value} {ns : List Int} (H : IntsAre vs ns) : RpA X h vs (ns.map .int) := by
  induction H with
  | nil => exact .nil
  | cons n t _ ih => exact .cons (.int n t) ih

theorem well_list {P : Params} {h : Heap} {a : Addr} {vs : List Value} {ds : List PyData} (w : Well P h (.ref a) (ofPy (.list ds))) (hl : h.IsList a vs.toArray) : ∃ n, h.get? a = some { cls := .type "list", data := .seq vs.toArray n } := by
  obtain ⟨o, e, hc, n, hd⟩ := hl
  generalize hd' : ofPy (.list ds) = d at w
  rw [show ofPy (.list ds) = .list (ofPys ds) from rfl] at hd'
  cases w <;> cases hd'
  rename_i e2 _
  rw [e2] at e
  cases e
  cases hd
  exact ⟨_, e2⟩

theorem lv_caller : Lv callerA 3 := ⟨rfl, by decide, by decide⟩

/-- what the call of law comes to -/
theorem law_end {p : Program} {loose : List Str} {mean : ExcName → Option Value} {mg mb : Str → Option Value} {c : Cx} (T : Top p loose mean mg mb c.g) (G : Gx c mg mb) (r6 : ((recsOf p)[6]?).map (fun d => (d.name, d.params, d.body, d.scope)) = some (fdef 10))
    {fa a : Addr} (hm : mg (fdef 10).1 = some (.ref fa)) {P : Params} {vs : List Value} {ns : List Int} (w : Well P c.g (.ref a) (ofPy (.list (ns.map .int)))) (hl : c.g.IsList a vs.toArray) (hI : IntsAre vs ns) (hn : ns.length ≤ 63) (hz : c.z.heap = c.g)
    {Q : Value → Shared → Prop} {E : Value → Shared → Prop} (k : ∀ h' tk', Kp c.g h' → Q (.bool true) (c.St h' tk')) : wpAny c.M callerA (call (.ref fa) [.ref a]) Q E c.z := by
  obtain ⟨fa', o, pm, cd, doc, h1, h2, h3, h4⟩ := fn_of_top T r6
  rw [hm] at h1; cases h1
  obtain ⟨n, e⟩ := well_list w hl
  have F := fn_law G h2 h3 h4 callerA lv_caller (fun _ => False) c.g [.ref a] [eL ns] (.bool true) (Kp.refl _) (fun _ f => f.elim) (.cons (.list e id (rpa_ints hI)) .nil) ⟨ns, rfl, hn, rfl⟩
  have hs : c.z = c.St c.g c.z.toks := by unfold Cx.St; rw [← hz]
  rw [hs]
  exact F.wp fun v h' tk' q => by rw [q.2.bool_inv]; exact k h' tk' q.1
end Mine


open PySem PySem.W PyProof.Rows
set_option Elab.async false
set_option maxRecDepth 100000
open_top hd for PySem.Challenge.rw_pe0296_01
set_option maxHeartbeats 8000000 in
theorem PySem.Challenge.cw_pe0296_01_holds : PySem.Challenge.rw_pe0296_01.Holds :=
  hd (by
  intro w s₀ s₁ mg mb G Y fa o pm cd doc dV kV ho hd hcd hD hmg hg args vals as hpre hlay hrd hwl hlo
  refine Ground.open G ?_
  intro T B D TE TW
  try (refine guard_noD D (by decide +kernel) ?_; clear D)
  wrow_args hpre hlay hrd hwl hlo
  rename Well _ _ _ _ => wL
  rename Heap.IsList _ _ _ => hL
  rename IntsAre _ _ => hI
  refine Mine.law_end (c := ⟨PySem.Challenge.rw_pe0296_01.row.prog, w, s₁, s₁.heap⟩) T (Mine.gx_of_top T ?_ ?_ ?_ ?_ ?_ ?_ ?_ ?_ ?_) ?_ hmg wL hL hI (by omega) rfl fun h' tk' k => ?_
  · kernel_rfl
  · kernel_rfl
  · kernel_rfl
  · kernel_rfl
  · kernel_rfl
  · kernel_rfl
  · kernel_rfl
  · kernel_rfl
  · intro x m
    simp only [List.mem_cons, List.not_mem_nil, or_false] at m
    rcases m with rfl | rfl | rfl | rfl <;> decide +kernel
  · kernel_rfl
  · exact ⟨.inl ⟨.bool true, .bool true, [], rfl, fun _ => rfl, .bool true, by wrow_post, fun _ => ⟨List.nodup_nil, fun _ m => nomatch m⟩⟩, OldK.of_keep k, rfl, by
      show AllBare s₁.gens
      rw [hg]
      exact fun _ m => by simp at m⟩)
