import PyProof.Rows.All
import PyProof.Rows.FStr
import KE.KNest
import KE.KNestM
import Wide.FinOn
import OpenK.AllK
import Wide.All
import Lean
import PySem.Challenge.RW_dt5003_02
set_option Elab.async false

section
open PySem PySem.W PyProof.Rows
namespace Mine
set_option maxRecDepth 100000 in
set_option maxHeartbeats 8000000 in
open_top hd for PySem.Challenge.rw_dt5003_02
end Mine
end

section
open PySem PySem.W PySem.Calls PyProof.Rows
set_option linter.all false
namespace Mine

/-! ## values without tokens -/
def er : Value → Value
  | .int i _ => .int i 0
  | .float b _ => .float b 0
  | .str x _ => .str x 0
  | .bytes b _ => .bytes b 0
  | v => v
abbrev VI (i : Int) : Value := .int i 0
abbrev VS (x : Str) : Value := .str x 0
abbrev VB (b : Bool) : Value := .bool b
abbrev VN : Value := .none

theorem er_int {V : Value} {i : Int} (h : er V = VI i) : ∃ t, V = .int i t := by
  cases V <;> simp only [er] at h <;> cases h; exact ⟨_, rfl⟩
theorem er_str {V : Value} {x : Str} (h : er V = VS x) : ∃ t, V = .str x t := by
  cases V <;> simp only [er] at h <;> cases h; exact ⟨_, rfl⟩
theorem er_bool {V : Value} {b : Bool} (h : er V = .bool b) : V = .bool b := by
  cases V <;> simp only [er] at h <;> cases h; rfl
theorem er_none {V : Value} (h : er V = .none) : V = .none := by
  cases V <;> simp only [er] at h <;> cases h; rfl
theorem er_ref {V : Value} {a : Addr} (h : er V = .ref a) : V = .ref a := by
  cases V <;> simp only [er] at h <;> cases h; rfl
theorem er_builtin {V : Value} {a : String} (h : er V = .builtin a) : V = .builtin a := by
  cases V <;> simp only [er] at h <;> cases h; rfl
theorem er_type {V : Value} {a : String} (h : er V = .type a) : V = .type a := by
  cases V <;> simp only [er] at h <;> cases h; rfl
theorem er_er (V : Value) : er (er V) = er V := by cases V <;> rfl
theorem ers_cons {Vs : List Value} {v : Value} {vs : List Value} (h : Vs.map er = v :: vs) : ∃ V Vr, Vs = V :: Vr ∧ er V = v ∧ Vr.map er = vs := by
  cases Vs with
  | nil => cases h
  | cons V Vr => simp only [List.map_cons, List.cons.injEq] at h; exact ⟨V, Vr, rfl, h⟩
theorem ers_nil {Vs : List Value} (h : Vs.map er = []) : Vs = [] := List.map_eq_nil_iff.mp h

def erF : Flow → Flow
  | .ret v => .ret (er v)
  | f => f

/-! ## objects without tokens -/
inductive AO where
  | list (vs : List Value)
  | tup (vs : List Value)
  | cell (v : Option Value)
  | dic (fs : List (Str × Value))
  | raw (o : Obj)

def AO.Is : AO → Obj → Prop
  | .list vs, o => ∃ (ws : List Value) (n : Nat), o = { cls := .type "list", data := .seq ws.toArray n } ∧ ws.map er = vs
  | .tup vs, o => ∃ (ws : List Value) (n : Nat), (o.cls = .type "tuple" ∧ o.data = .seq ws.toArray n) ∧ ws.map er = vs
  | .cell v, o => ∃ w, o.data = .cell w ∧ w.map er = v
  | .dic fs, o => ∃ (es : List DictEntry) (n : Nat), o = dictOf es n ∧ es.map (fun e => (er e.key, er e.val)) = fs.map (fun p => (VS p.1, p.2))
  | .raw o', o => o = o'

abbrev LM := List (Str × Value)
abbrev HM := Addr → Option AO
abbrev XM := HM → Value → Shared → Prop

def HM.set (H : HM) (a : Addr) (o : AO) : HM := fun b => if b = a then some o else H b
theorem HM.set_same (H : HM) (a : Addr) (o : AO) : H.set a o a = some o := by simp [HM.set]
theorem HM.set_ne (H : HM) {a b : Addr} (o : AO) (h : b ≠ a) : H.set a o b = H b := by simp [HM.set, h]
theorem HM.set_set (H : HM) (a : Addr) (o o' : AO) : (H.set a o).set a o' = H.set a o' := by
  funext b; simp only [HM.set]; split <;> rfl
theorem HM.set_comm (H : HM) {a b : Addr} (o o' : AO) (h : a ≠ b) : (H.set a o).set b o' = (H.set b o').set a o := by
  funext x; simp only [HM.set]; split <;> split <;> first | rfl | (rename_i h1 h2; exact absurd (h2.symm.trans h1) h)
theorem HM.set_id (H : HM) {a : Addr} {o : AO} (h : H a = some o) : H.set a o = H := by
  funext x; simp only [HM.set]; split
  · rename_i e; rw [e, h]
  · rfl
theorem HM.ne_of {H : HM} {a b : Addr} {o : AO} (ha : H a = none) (hb : H b = some o) : b ≠ a := by
  rintro rfl; rw [ha] at hb; cases hb
def HM.le (H H' : HM) : Prop := ∀ a o, H a = some o → H' a = some o
theorem HM.le.refl (H : HM) : H.le H := fun _ _ h => h
theorem HM.le.trans {H H' H'' : HM} (h : H.le H') (h' : H'.le H'') : H.le H'' := fun a o e => h' a o (h a o e)
theorem HM.le_set {H : HM} {a : Addr} (o : AO) (h : H a = none) : H.le (H.set a o) := fun b x e => by
  rw [HM.set_ne _ _ (HM.ne_of h e)]; exact e
theorem HM.set_le {H H' : HM} (a : Addr) (o : AO) (h : H.le H') : (H.set a o).le (H'.set a o) := fun b x e => by
  simp only [HM.set] at e ⊢
  split
  · rename_i e'; rw [if_pos e'] at e; exact e
  · rename_i e'; rw [if_neg e'] at e; exact h b x e

/-! ## the frame at hand -/
structure FC where
  prog : Program
  w : World
  s₀ : Shared
  A : Around
  env : Env

def FC.HasAt (c : FC) (h : Heap) (a : Addr) (ao : AO) : Prop :=
  a ≠ c.env.locals ∧ c.s₀.heap.get? a = none ∧ ∃ o, h.get? a = some o ∧ ao.Is o

def MRel (m : LM) (mr : Str → Option Value) : Prop := ∀ x v, m.lookup x = some v → ∃ V, mr x = some V ∧ er V = v

structure St (c : FC) (m : LM) (H F : HM) (s : Shared) : Prop where
  same : ∃ h t, s = { c.s₀ with heap := h, toks := t }
  base : ∀ b o, c.s₀.heap.get? b = some o → s.heap.get? b = some o
  ns : ∃ mr, s.heap.Ns c.env.locals mr ∧ MRel m mr
  lb : c.s₀.heap.objs.size ≤ c.env.locals
  dj : ∀ a, H a = none ∨ F a = none
  hp : ∀ a ao, H a = some ao → c.HasAt s.heap a ao
  fp : ∀ a ao, F a = some ao → c.HasAt s.heap a ao

theorem FC.HasAt.keeps {c : FC} {h h' : Heap} {a : Addr} {ao : AO} (x : c.HasAt h a ao) (k : ∀ b o, b ≠ c.env.locals → h.get? b = some o → h'.get? b = some o) : c.HasAt h' a ao :=
  let ⟨h1, h2, o, h3, h4⟩ := x; ⟨h1, h2, o, k _ _ h1 h3, h4⟩

section
variable {c : FC} {m : LM} {H F : HM} {s : Shared}

theorem St.toks (S : St c m H F s) (t : Nat) : St c m H F { s with toks := t } := by
  obtain ⟨h, t', rfl⟩ := S.same
  exact ⟨⟨_, _, rfl⟩, S.base, S.ns, S.lb, S.dj, S.hp, S.fp⟩

theorem St.keeps (S : St c m H F s) {h' : Heap} {t : Nat} (k : ∀ b o, s.heap.get? b = some o → h'.get? b = some o) : St c m H F { s with heap := h', toks := t } := by
  obtain ⟨h, t', rfl⟩ := S.same
  obtain ⟨mr, n1, n2⟩ := S.ns
  exact ⟨⟨_, _, rfl⟩, fun b o e => k _ _ (S.base b o e), ⟨mr, n1.keeps k, n2⟩, S.lb, S.dj, fun a o e => (S.hp a o e).keeps fun _ _ _ => k _ _, fun a o e => (S.fp a o e).keeps fun _ _ _ => k _ _⟩

theorem St.keeps' (S : St c m H F s) {h' : Heap} (k : ∀ b o, s.heap.get? b = some o → h'.get? b = some o) : St c m H F { s with heap := h' } := S.keeps k

theorem St.setName (S : St c m H F s) {h' : Heap} {t : Nat} {x : Str} {V v : Value} {mr : Str → Option Value} (hm : MRel m mr) (hv : er V = v)
    (n : h'.Ns c.env.locals (fun y => if y = x then some V else mr y)) (k : Heap.SameBut c.env.locals s.heap h') : St c ((x, v) :: m) H F { s with heap := h', toks := t } := by
  obtain ⟨h, t', rfl⟩ := S.same
  refine ⟨⟨_, _, rfl⟩, fun b o e => (k.2 b ?_).trans (S.base b o e), ⟨_, n, ?_⟩, S.lb, S.dj, fun a o e => (S.hp a o e).keeps fun b o' hb e' => (k.2 b hb).trans e', fun a o e => (S.fp a o e).keeps fun b o' hb e' => (k.2 b hb).trans e'⟩
  · rintro rfl; exact absurd (Heap.lt_size e) (Nat.not_lt.mpr S.lb)
  · intro y u hy
    rw [List.lookup_cons] at hy
    by_cases hyx : y = x
    · subst hyx; simp only [beq_self_eq_true] at hy; cases hy; exact ⟨V, by simp, hv⟩
    · rw [beq_eq_false_iff_ne.mpr hyx] at hy
      obtain ⟨W, w1, w2⟩ := hm y u hy
      exact ⟨W, by simp [hyx, w1], w2⟩

theorem St.fresh (S : St c m H F s) : H s.heap.objs.size = none ∧ F s.heap.objs.size = none ∧ s.heap.objs.size ≠ c.env.locals ∧ c.s₀.heap.get? s.heap.objs.size = none := by
  have no : ∀ o, s.heap.get? s.heap.objs.size ≠ some o := fun o e => Nat.lt_irrefl _ (Heap.lt_size e)
  refine ⟨?_, ?_, ?_, ?_⟩
  · cases e : H s.heap.objs.size with
    | none => rfl
    | some o => obtain ⟨_, _, o', e', _⟩ := S.hp _ _ e; exact absurd e' (no o')
  · cases e : F s.heap.objs.size with
    | none => rfl
    | some o => obtain ⟨_, _, o', e', _⟩ := S.fp _ _ e; exact absurd e' (no o')
  · intro e
    obtain ⟨mr, ⟨o, _, _, ho, _⟩, _⟩ := S.ns
    rw [← e] at ho; exact no o ho
  · cases e : c.s₀.heap.get? s.heap.objs.size with
    | none => rfl
    | some o => exact absurd (S.base _ _ e) (no o)

theorem St.push (S : St c m H F s) {o : Obj} {ao : AO} (ho : ao.Is o) (hf : o.isFreed = false) : St c m (H.set s.heap.objs.size ao) F { s with heap := s.heap.push o } := by
  obtain ⟨h1, h2, h3, h4⟩ := S.fresh
  have S' := S.keeps' (h' := s.heap.push o) fun b o' e => Heap.get?_push_of_some _ e
  refine ⟨S'.same, S'.base, S'.ns, S'.lb, fun a => ?_, fun a ao' e => ?_, S'.fp⟩
  · by_cases ha : a = s.heap.objs.size
    · subst ha; exact .inr h2
    · rw [HM.set_ne _ _ ha]; exact S'.dj a
  · by_cases ha : a = s.heap.objs.size
    · subst ha; rw [HM.set_same] at e; cases e
      exact ⟨h3, h4, o, Heap.get?_push_size _ hf, ho⟩
    · rw [HM.set_ne _ _ ha] at e; exact S'.hp a ao' e

theorem St.upd (S : St c m H F s) {a : Addr} {ao ao' : AO} {h' : Heap} {o' : Obj} {t : Nat} (ha : H a = some ao) (hk : Heap.SameBut a s.heap h') (ho : h'.get? a = some o') (hi : ao'.Is o') :
    St c m (H.set a ao') F { s with heap := h', toks := t } := by
  obtain ⟨h, t', rfl⟩ := S.same
  obtain ⟨aL, aB, oa, eoa, _⟩ := S.hp a ao ha
  have kb : ∀ b o, b ≠ a → h.get? b = some o → h'.get? b = some o := fun b o hb e => (hk.2 b hb).trans e
  obtain ⟨mr, n1, n2⟩ := S.ns
  refine ⟨⟨_, _, rfl⟩, fun b o e => kb b o ?_ (S.base b o e), ⟨mr, n1.sameBut hk (Ne.symm aL), n2⟩, S.lb, fun b => ?_, fun b bo e => ?_, fun b bo e => ?_⟩
  · rintro rfl; rw [aB] at e; cases e
  · by_cases hb : b = a
    · subst hb; rcases S.dj b with q | q
      · rw [q] at ha; cases ha
      · exact .inr q
    · rw [HM.set_ne _ _ hb]; exact S.dj b
  · by_cases hb : b = a
    · subst hb; rw [HM.set_same] at e; cases e; exact ⟨aL, aB, o', ho, hi⟩
    · rw [HM.set_ne _ _ hb] at e
      obtain ⟨x1, x2, o, x3, x4⟩ := S.hp b bo e
      exact ⟨x1, x2, o, kb b o hb x3, x4⟩
  · have hb : b ≠ a := by
      rintro rfl; rcases S.dj b with q | q
      · rw [q] at ha; cases ha
      · rw [q] at e; cases e
    obtain ⟨x1, x2, o, x3, x4⟩ := S.fp b bo e
    exact ⟨x1, x2, o, kb b o hb x3, x4⟩

theorem St.weak (S : St c m H F s) {H' : HM} (h : H'.le H) : St c m H' F s :=
  ⟨S.same, S.base, S.ns, S.lb, fun a => (S.dj a).imp (fun e => by
    cases q : H' a with
    | none => rfl
    | some o => rw [h a o q] at e; cases e) id, fun a o e => S.hp a o (h a o e), S.fp⟩

def LM.le (m' m : LM) : Prop := ∀ x v, m'.lookup x = some v → m.lookup x = some v
theorem St.weakm (S : St c m H F s) {m' : LM} (h : LM.le m' m) : St c m' H F s :=
  let ⟨mr, n1, n2⟩ := S.ns
  ⟨S.same, S.base, ⟨mr, n1, fun x v e => n2 x v (h x v e)⟩, S.lb, S.dj, S.hp, S.fp⟩

theorem LM.le_nil (m : LM) : LM.le [] m := fun _ _ h => by cases h
theorem LM.le_cons {m' m : LM} {x : Str} {v : Value} (h : m.lookup x = some v) (h' : LM.le m' m) : LM.le ((x, v) :: m') m := fun y u e => by
  rw [List.lookup_cons] at e
  by_cases hy : y = x
  · subst hy; simp only [beq_self_eq_true] at e; cases e; exact h
  · rw [beq_eq_false_iff_ne.mpr hy] at e; exact h' y u e
theorem LM.le_refl (m : LM) : LM.le m m := fun _ _ h => h
end

/-! ## the judgements -/
def Wp (c : FC) {α : Type} (t : Sem α) (m : LM) (H : HM) (Q : α → LM → HM → Prop) (X : XM) : Prop :=
  ∀ F s, St c m H F s → wpAny (model c.prog c.w) c.A t (fun v s' => ∃ m' H', St c m' H' F s' ∧ Q v m' H') (X F) s

def Ew (c : FC) (t : Sem Value) (m : LM) (H : HM) (Q : Value → HM → Prop) (X : XM) : Prop :=
  ∀ F s, St c m H F s → wpAny (model c.prog c.w) c.A t (fun V s' => ∃ H', St c m H' F s' ∧ Q (er V) H') (X F) s
def Uw (c : FC) (t : Sem Unit) (m : LM) (H : HM) (Q : HM → Prop) (X : XM) : Prop :=
  ∀ F s, St c m H F s → wpAny (model c.prog c.w) c.A t (fun _ s' => ∃ H', St c m H' F s' ∧ Q H') (X F) s
def Bw (c : FC) (t : Sem Bool) (m : LM) (H : HM) (Q : Bool → HM → Prop) (X : XM) : Prop :=
  ∀ F s, St c m H F s → wpAny (model c.prog c.w) c.A t (fun b s' => ∃ H', St c m H' F s' ∧ Q b H') (X F) s
def Lw (c : FC) (t : Sem (List Value)) (m : LM) (H : HM) (Q : List Value → HM → Prop) (X : XM) : Prop :=
  ∀ F s, St c m H F s → wpAny (model c.prog c.w) c.A t (fun Vs s' => ∃ H', St c m H' F s' ∧ Q (Vs.map er) H') (X F) s
def Fw (c : FC) (t : Sem Flow) (m : LM) (H : HM) (Q : Flow → LM → HM → Prop) (X : XM) : Prop :=
  ∀ F s, St c m H F s → wpAny (model c.prog c.w) c.A t (fun f s' => ∃ m' H', St c m' H' F s' ∧ Q (erF f) m' H') (X F) s
def Nw (c : FC) (t : Sem Unit) (m : LM) (H : HM) (Q : LM → HM → Prop) (X : XM) : Prop :=
  ∀ F s, St c m H F s → wpAny (model c.prog c.w) c.A t (fun _ s' => ∃ m' H', St c m' H' F s' ∧ Q m' H') (X F) s

def XF : XM := fun _ _ _ => False

abbrev Ev (c : FC) (e : Expr) := Ew c (eval e c.env)
abbrev Ex (c : FC) (st : Stmt) := Fw c (exec st c.env)
abbrev Exs (c : FC) (sts : List Stmt) := Fw c (execs sts c.env)
abbrev Tst (c : FC) (e : Expr) := Bw c (isTrue e c.env (eval e c.env))
def Vals (c : FC) (es : List Expr) (m : LM) (H : HM) (Q : List Value → HM → Prop) (X : XM) : Prop :=
  ∀ pos, Lw c (spliced (backTo pos (starEach es c.env))) m H Q X
def Op1 (c : FC) (f : Value → Sem Value) (a : Value) (m : LM) (H : HM) (Q : Value → HM → Prop) (X : XM) : Prop :=
  ∀ A, er A = a → Ew c (f A) m H Q X
def Op2 (c : FC) (f : Value → Value → Sem Value) (a b : Value) (m : LM) (H : HM) (Q : Value → HM → Prop) (X : XM) : Prop :=
  ∀ A B, er A = a → er B = b → Ew c (f A B) m H Q X
def Tru (c : FC) (a : Value) (m : LM) (H : HM) (Q : Bool → HM → Prop) (X : XM) : Prop :=
  ∀ A, er A = a → Bw c (truthy A) m H Q X
def CallJ (c : FC) (f : Value) (as : List Value) (ks : List (Str × Value)) (m : LM) (H : HM) (Q : Value → HM → Prop) (X : XM) : Prop :=
  ∀ Fv Vs Ks, er Fv = f → Vs.map er = as → Ks.map (fun p => (p.1, er p.2)) = ks → Ew c (call Fv Vs Ks) m H Q X
def SetJ (c : FC) (f : Value → Sem Unit) (a : Value) (m : LM) (H : HM) (Q : LM → HM → Prop) (X : XM) : Prop :=
  ∀ A, er A = a → Nw c (f A) m H Q X

section
variable {c : FC} {m : LM} {H : HM} {X : XM}

theorem Ew.mono {t : Sem Value} {Q Q' : Value → HM → Prop} {X' : XM} (h : Ew c t m H Q X) (hq : ∀ v H', Q v H' → Q' v H') (hx : ∀ F e s, X F e s → X' F e s) : Ew c t m H Q' X' :=
  fun F s S => wpAny_mono (h F s S) (fun _ _ ⟨H', S', q⟩ => ⟨H', S', hq _ _ q⟩) (hx F)
theorem Fw.mono {t : Sem Flow} {Q Q' : Flow → LM → HM → Prop} {X' : XM} (h : Fw c t m H Q X) (hq : ∀ f m' H', Q f m' H' → Q' f m' H') (hx : ∀ F e s, X F e s → X' F e s) : Fw c t m H Q' X' :=
  fun F s S => wpAny_mono (h F s S) (fun _ _ ⟨m', H', S', q⟩ => ⟨m', H', S', hq _ _ _ q⟩) (hx F)
theorem Bw.mono {t : Sem Bool} {Q Q' : Bool → HM → Prop} {X' : XM} (h : Bw c t m H Q X) (hq : ∀ v H', Q v H' → Q' v H') (hx : ∀ F e s, X F e s → X' F e s) : Bw c t m H Q' X' :=
  fun F s S => wpAny_mono (h F s S) (fun _ _ ⟨H', S', q⟩ => ⟨H', S', hq _ _ q⟩) (hx F)
theorem Lw.mono {t : Sem (List Value)} {Q Q' : List Value → HM → Prop} {X' : XM} (h : Lw c t m H Q X) (hq : ∀ v H', Q v H' → Q' v H') (hx : ∀ F e s, X F e s → X' F e s) : Lw c t m H Q' X' :=
  fun F s S => wpAny_mono (h F s S) (fun _ _ ⟨H', S', q⟩ => ⟨H', S', hq _ _ q⟩) (hx F)
theorem Nw.mono {t : Sem Unit} {Q Q' : LM → HM → Prop} {X' : XM} (h : Nw c t m H Q X) (hq : ∀ m' H', Q m' H' → Q' m' H') (hx : ∀ F e s, X F e s → X' F e s) : Nw c t m H Q' X' :=
  fun F s S => wpAny_mono (h F s S) (fun _ _ ⟨m', H', S', q⟩ => ⟨m', H', S', hq _ _ q⟩) (hx F)
theorem CallJ.mono {f : Value} {as : List Value} {ks : List (Str × Value)} {Q Q' : Value → HM → Prop} {X' : XM} (h : CallJ c f as ks m H Q X) (hq : ∀ v H', Q v H' → Q' v H') (hx : ∀ F e s, X F e s → X' F e s) : CallJ c f as ks m H Q' X' :=
  fun Fv Vs Ks e0 e1 e2 => (h Fv Vs Ks e0 e1 e2).mono hq hx
theorem CallJ.of {f : Value} {as : List Value} {ks : List (Str × Value)} {Q Q' : Value → HM → Prop} (h : CallJ c f as ks m H Q XF) (hq : ∀ v H', Q v H' → Q' v H') : CallJ c f as ks m H Q' X :=
  h.mono hq fun _ _ _ x => x.elim

/-! ### expressions -/
theorem Ev.int {i k p} {Q : Value → HM → Prop} (h : Q (VI i) H) : Ev c (.Constant (.int i) k p) m H Q X :=
  fun F s S => wpAny_Constant_int ⟨H, S.toks _, h⟩
theorem Ev.str {x k p} {Q : Value → HM → Prop} (h : Q (VS x) H) : Ev c (.Constant (.str x) k p) m H Q X :=
  fun F s S => Constant_str ⟨H, S.toks _, h⟩
theorem Ev.bool {b k p} {Q : Value → HM → Prop} (h : Q (.bool b) H) : Ev c (.Constant (.bool b) k p) m H Q X :=
  fun F s S => wpAny_pure ⟨H, S, h⟩
theorem Ev.non {k p} {Q : Value → HM → Prop} (h : Q .none H) : Ev c (.Constant .none k p) m H Q X :=
  fun F s S => wpAny_pure ⟨H, S, h⟩

theorem Ev.loc {x p v} {Q : Value → HM → Prop} (hk : c.env.scope.kind = .function) (hl : c.env.kindOf x = some .local) (hv : m.lookup x = some v) (h : Q v H)
    (hd : (x == ("__debug__" : Str)) = false) : Ev c (.Name x p) m H Q X := fun F s S => by
  obtain ⟨mr, n1, n2⟩ := S.ns
  obtain ⟨V, v1, v2⟩ := n2 x v hv
  exact wpAny_Name (wpAny_loadName_local hk hl n1 v1 ⟨H, S, v2 ▸ h⟩) hd
theorem Ev.cell {x p v} {a : Addr} {Q : Value → HM → Prop} (hk : c.env.scope.kind = .function) (hl : c.env.kindOf x = some .cell) (hc : c.env.cells.lookup x = some a) (hv : H a = some (.cell (some v))) (h : Q v H)
    (hd : (x == ("__debug__" : Str)) = false) : Ev c (.Name x p) m H Q X := fun F s S => by
  obtain ⟨_, _, o, ho, w, hw, hv'⟩ := S.hp _ _ hv
  obtain ⟨W, rfl, rfl⟩ := Option.map_eq_some_iff.mp hv'
  exact wpAny_Name (wpAny_loadName_cell hk hl hc ⟨o, ho, hw⟩ ⟨H, S, h⟩) hd
theorem Ev.free {x p v} {a : Addr} {Q : Value → HM → Prop} (hk : c.env.scope.kind = .function) (hl : c.env.kindOf x = some .free) (hc : c.env.cells.lookup x = some a) (hv : H a = some (.cell (some v))) (h : Q v H)
    (hd : (x == ("__debug__" : Str)) = false) (hn : (x == ("__classdict__" : Str)) = false) : Ev c (.Name x p) m H Q X := fun F s S => by
  obtain ⟨_, _, o, ho, w, hw, hv'⟩ := S.hp _ _ hv
  obtain ⟨W, rfl, rfl⟩ := Option.map_eq_some_iff.mp hv'
  exact wpAny_Name (wpAny_loadName_free hk hl hc ⟨o, ho, hw⟩ ⟨H, S, h⟩ hn) hd

theorem Ev.bin {l op r p} {Q : Value → HM → Prop} (h : Ev c l m H (fun a H1 => Ev c r m H1 (fun b H2 => Op2 c (binaryOp op) a b m H2 Q X) X) X) : Ev c (.BinOp l op r p) m H Q X :=
  fun F s S => wpAny_BinOp (wpAny_mono (h F s S) (fun A s1 ⟨H1, S1, h1⟩ => wpAny_mono (h1 F s1 S1) (fun B s2 ⟨H2, S2, h2⟩ => h2 A B rfl rfl F s2 S2) fun _ _ e => e) fun _ _ e => e)
theorem Ev.cmp {l op r p} {Q : Value → HM → Prop} (h : Ev c l m H (fun a H1 => Ev c r m H1 (fun b H2 => Op2 c (compareOp op) a b m H2 Q X) X) X) (hm : behindInMarks op r = false) : Ev c (.Compare l [op] [r] p) m H Q X :=
  fun F s S => wpAny_Compare1 (wpAny_mono (h F s S) (fun A s1 ⟨H1, S1, h1⟩ => wpAny_mono (h1 F s1 S1) (fun B s2 ⟨H2, S2, h2⟩ => h2 A B rfl rfl F s2 S2) fun _ _ e => e) fun _ _ e => e) hm
theorem Ev.un {op x p} {Q : Value → HM → Prop} (h : Ev c x m H (fun a H1 => Op1 c (unaryOp op) a m H1 Q X) X) : Ev c (.UnaryOp op x p) m H Q X :=
  fun F s S => UnaryOp_ (wpAny_mono (h F s S) (fun A s1 ⟨H1, S1, h1⟩ => h1 A rfl F s1 S1) fun _ _ e => e)
theorem Ev.ifx {t b o p} {Q : Value → HM → Prop} (h : Tst c t m H (fun r H1 => if r = true then Ev c b m H1 Q X else Ev c o m H1 Q X) X) : Ev c (.IfExp t b o p) m H Q X :=
  fun F s S => IfExp_ (wpAny_mono (h F s S) (fun r s1 ⟨H1, S1, h1⟩ => by
    cases r with
    | true => rw [if_pos rfl] at h1 ⊢; exact h1 F s1 S1
    | false => rw [if_neg Bool.false_ne_true] at h1 ⊢; exact h1 F s1 S1) fun _ _ e => e)
theorem Ev.and1 {e p op} {Q : Value → HM → Prop} (h : Ev c e m H Q X) : Ev c (.BoolOp op [e] p) m H Q X := h
theorem Ev.and {e₁ e₂ rest p} {Q : Value → HM → Prop} (h : Ev c e₁ m H (fun v H1 => Tru c v m H1 (fun r H2 => if r = true then Ev c (.BoolOp .And (e₂ :: rest) p) m H2 Q X else Q v H2) X) X) : Ev c (.BoolOp .And (e₁ :: e₂ :: rest) p) m H Q X :=
  fun F s S => BoolOp_and (wpAny_mono (h F s S) (fun V s1 ⟨H1, S1, h1⟩ => wpAny_mono (h1 V rfl F s1 S1) (fun r s2 ⟨H2, S2, h2⟩ => by
    cases r with
    | true => rw [if_pos rfl] at h2 ⊢; exact h2 F s2 S2
    | false => rw [if_neg Bool.false_ne_true] at h2 ⊢; exact ⟨H2, S2, h2⟩) fun _ _ e => e) fun _ _ e => e)
theorem Ev.or {e₁ e₂ rest p} {Q : Value → HM → Prop} (h : Ev c e₁ m H (fun v H1 => Tru c v m H1 (fun r H2 => if r = true then Q v H2 else Ev c (.BoolOp .Or (e₂ :: rest) p) m H2 Q X) X) X) : Ev c (.BoolOp .Or (e₁ :: e₂ :: rest) p) m H Q X :=
  fun F s S => BoolOp_or (wpAny_mono (h F s S) (fun V s1 ⟨H1, S1, h1⟩ => wpAny_mono (h1 V rfl F s1 S1) (fun r s2 ⟨H2, S2, h2⟩ => by
    cases r with
    | true => rw [if_pos rfl] at h2 ⊢; exact ⟨H2, S2, h2⟩
    | false => rw [if_neg Bool.false_ne_true] at h2 ⊢; exact h2 F s2 S2) fun _ _ e => e) fun _ _ e => e)

theorem Vals.nil {Q : List Value → HM → Prop} (h : Q [] H) : Vals c [] m H Q X := fun pos F s S => args_nil ⟨H, S, h⟩
theorem Vals.cons {e rest} {Q : List Value → HM → Prop} (h : Ev c e m H (fun v H1 => Vals c rest m H1 (fun vs H2 => Q (v :: vs) H2) X) X)
    (he : starEach (e :: rest) c.env = (false, eval e c.env) :: starEach rest c.env) : Vals c (e :: rest) m H Q X :=
  fun pos F s S => args_cons (wpAny_mono (h F s S) (fun V s1 ⟨H1, S1, h1⟩ => wpAny_mono (h1 pos F s1 S1) (fun Vs s2 ⟨H2, S2, h2⟩ => ⟨H2, S2, h2⟩) fun _ _ e => e) fun _ _ e => e) he

/-! ### tests -/
theorem Tst.cmp {l op r p} {Q : Bool → HM → Prop} (h : Ev c l m H (fun a H1 => Ev c r m H1 (fun b H2 => Op2 c (compareOp op) a b m H2 (fun v H3 => Tru c v m H3 Q X) X) X) X) (hm : behindInMarks op r = false) : Tst c (.Compare l [op] [r] p) m H Q X :=
  fun F s S => wpAny_isTrue_Compare1 (wpAny_mono (h F s S) (fun A s1 ⟨H1, S1, h1⟩ => wpAny_mono (h1 F s1 S1) (fun B s2 ⟨H2, S2, h2⟩ => wpAny_mono (h2 A B rfl rfl F s2 S2) (fun V s3 ⟨H3, S3, h3⟩ => h3 V rfl F s3 S3) fun _ _ e => e) fun _ _ e => e) fun _ _ e => e) hm
theorem Tst.nt {x p} {Q : Bool → HM → Prop} (h : Tst c x m H (fun b H1 => Q (!b) H1) X) : Tst c (.UnaryOp .Not x p) m H Q X :=
  fun F s S => isTrue_not (h F s S)
def TstAll (c : FC) (op : BoolOp) (es : List Expr) (m : LM) (H : HM) (Q : Bool → HM → Prop) (X : XM) : Prop := Bw c (allTrue op es c.env) m H Q X
theorem Tst.bop {op es p} {Q : Bool → HM → Prop} (h : TstAll c op es m H Q X) : Tst c (.BoolOp op es p) m H Q X := h
theorem TstAll.andNil {Q : Bool → HM → Prop} (h : Q true H) : TstAll c .And [] m H Q X := fun F s S => wpAny_pure ⟨H, S, h⟩
theorem TstAll.orNil {Q : Bool → HM → Prop} (h : Q false H) : TstAll c .Or [] m H Q X := fun F s S => wpAny_pure ⟨H, S, h⟩
theorem TstAll.and {x rest} {Q : Bool → HM → Prop} (h : Tst c x m H (fun b H1 => if b = true then TstAll c .And rest m H1 Q X else Q false H1) X) : TstAll c .And (x :: rest) m H Q X :=
  fun F s S => isTrue_and (pos := default) (whole := eval (.BoolOp .And (x :: rest) default) c.env) (wpAny_mono (h F s S) (fun b s1 ⟨H1, S1, h1⟩ => by
    cases b with
    | true => rw [if_pos rfl] at h1 ⊢; exact h1 F s1 S1
    | false => rw [if_neg Bool.false_ne_true] at h1 ⊢; exact ⟨H1, S1, h1⟩) fun _ _ e => e)
theorem TstAll.or {x rest} {Q : Bool → HM → Prop} (h : Tst c x m H (fun b H1 => if b = true then Q true H1 else TstAll c .Or rest m H1 Q X) X) : TstAll c .Or (x :: rest) m H Q X :=
  fun F s S => isTrue_or (pos := default) (whole := eval (.BoolOp .Or (x :: rest) default) c.env) (wpAny_mono (h F s S) (fun b s1 ⟨H1, S1, h1⟩ => by
    cases b with
    | true => rw [if_pos rfl] at h1 ⊢; exact ⟨H1, S1, h1⟩
    | false => rw [if_neg Bool.false_ne_true] at h1 ⊢; exact h1 F s1 S1) fun _ _ e => e)
theorem Tst.plain {e} {Q : Bool → HM → Prop} (h : Ev c e m H (fun v H1 => Tru c v m H1 Q X) X)
    (he : isTrue e c.env (eval e c.env) = (do let v ← eval e c.env; standAt e.pos; holding [v] (truthy v))) : Tst c e m H Q X :=
  fun F s S => isTrue_plain (wpAny_mono (h F s S) (fun V s1 ⟨H1, S1, h1⟩ => h1 V rfl F s1 S1) fun _ _ e => e) he

/-! ### statements -/
theorem Exs.nil {Q : Flow → LM → HM → Prop} (h : Q .next m H) : Exs c [] m H Q X := fun F s S => wpAny_execs_nil ⟨m, H, S, h⟩
theorem Exs.cons {st rest} {Q : Flow → LM → HM → Prop} (h : Ex c st m H (fun f m1 H1 => match f with | .next => Exs c rest m1 H1 Q X | f => Q f m1 H1) X) : Exs c (st :: rest) m H Q X :=
  fun F s S => wpAny_execs_cons (wpAny_mono (h F s S) (fun f s1 ⟨m1, H1, S1, h1⟩ => by
    cases f with
    | next => exact h1 F s1 S1
    | brk => exact ⟨m1, H1, S1, h1⟩
    | cont => exact ⟨m1, H1, S1, h1⟩
    | ret v => exact ⟨m1, H1, S1, h1⟩) fun _ _ e => e)
theorem Ex.ret {e p} {Q : Flow → LM → HM → Prop} (h : Ev c e m H (fun v H1 => Q (.ret v) m H1) X) : Ex c (.Return (some e) p) m H Q X :=
  fun F s S => wpAny_Return_some (wpAny_mono (h F s S) (fun V s1 ⟨H1, S1, h1⟩ => ⟨m, H1, S1, h1⟩) fun _ _ e => e)
theorem Ex.retN {p} {Q : Flow → LM → HM → Prop} (h : Q (.ret .none) m H) : Ex c (.Return none p) m H Q X :=
  fun F s S => wpAny_Return_none ⟨m, H, S, h⟩
theorem Ex.ite {t b o p} {Q : Flow → LM → HM → Prop} (h : Tst c t m H (fun r H1 => if r = true then Exs c b m H1 Q X else Exs c o m H1 Q X) X) : Ex c (.If t b o p) m H Q X :=
  fun F s S => wpAny_If (wpAny_mono (h F s S) (fun r s1 ⟨H1, S1, h1⟩ => by
    cases r with
    | true => rw [if_pos rfl] at h1 ⊢; exact h1 F s1 S1
    | false => rw [if_neg Bool.false_ne_true] at h1 ⊢; exact h1 F s1 S1) fun _ _ e => e)
theorem Ex.brk {p} {Q : Flow → LM → HM → Prop} (h : Q .brk m H) : Ex c (.Break p) m H Q X := fun F s S => wpAny_Break ⟨m, H, S, h⟩
theorem Ex.cont {p} {Q : Flow → LM → HM → Prop} (h : Q .cont m H) : Ex c (.Continue p) m H Q X := fun F s S => wpAny_Continue ⟨m, H, S, h⟩

def StoreJ (c : FC) (x : Str) (v : Value) (m : LM) (H : HM) (Q : LM → HM → Prop) (X : XM) : Prop := SetJ c (storeName c.env x) v m H Q X

theorem StoreJ.loc {x : Str} {v : Value} {Q : LM → HM → Prop} (hk : c.env.scope.kind = .function) (hl : c.env.kindOf x = some .local) (h : Q ((x, v) :: m) H) : StoreJ c x v m H Q X :=
  fun V hV F s S => by
    obtain ⟨mr, n1, n2⟩ := S.ns
    exact wpAny_storeName_local hl n1 (fun h' hn hs => ⟨_, H, S.setName n2 hV hn hs, h⟩) (by rw [hk]; rfl)
theorem StoreJ.cell {x : Str} {v : Value} {v₀} {a : Addr} {Q : LM → HM → Prop} (hk : c.env.scope.kind = .function) (hl : c.env.kindOf x = some .cell) (hc : c.env.cells.lookup x = some a) (hv : H a = some (.cell v₀))
    (h : Q m (H.set a (.cell (some v)))) : StoreJ c x v m H Q X :=
  fun V hV F s S => by
    obtain ⟨_, _, o, ho, w, hw, _⟩ := S.hp _ _ hv
    refine wpAny_storeName_cell hk hl hc ⟨o, ho, hw⟩ fun h' hv' hs => ?_
    obtain ⟨o', ho', hd'⟩ := hv'
    exact ⟨m, _, S.upd (ao' := .cell (some v)) (t := s.toks) hv hs ho' ⟨_, hd', by rw [← hV]; rfl⟩, h⟩

theorem Ex.asgN {x p' e p} {Q : Flow → LM → HM → Prop} (h : Ev c e m H (fun v H1 => StoreJ c x v m H1 (fun m2 H2 => Q .next m2 H2) X) X)
    (hs : swapsWith e (some (.Name x p')) p.line c.env = pure false) : Ex c (.Assign [.Name x p'] e p) m H Q X :=
  fun F s S => wpAny_Assign_Name (wpAny_mono (h F s S) (fun V s1 ⟨H1, S1, h1⟩ => wpAny_mono (h1 V rfl F s1 S1) (fun _ s2 ⟨m2, H2, S2, h2⟩ => ⟨m2, H2, S2, h2⟩) fun _ _ e => e) fun _ _ e => e) hs
end

/-! ## to the library's frames and ledgers, and back -/
def full (b h : Heap) (L : Addr) : List (Addr × Obj) :=
  (List.range h.objs.size).filterMap fun a => if a = L then none else match b.get? a with
    | some _ => none
    | none => (h.get? a).map fun o => (a, o)
theorem full_mem {b h : Heap} {L a : Addr} {o : Obj} (h1 : a ≠ L) (h2 : b.get? a = none) (h3 : h.get? a = some o) : (a, o) ∈ full b h L := by
  refine List.mem_filterMap.mpr ⟨a, List.mem_range.mpr (Heap.lt_size h3), ?_⟩
  simp [h1, h2, h3]
theorem full_news (b h : Heap) (L : Addr) : News b L h (full b h L) := by
  intro p hp
  obtain ⟨a, _, e⟩ := List.mem_filterMap.mp hp
  split at e
  · cases e
  · rename_i hL
    split at e
    · cases e
    · rename_i hb
      obtain ⟨o, ho, rfl⟩ := Option.map_eq_some_iff.mp e
      exact ⟨ho, hL, hb⟩
theorem full_nodup (b h : Heap) (L : Addr) : ((full b h L).map (·.1)).Nodup := by
  have hsub : ∀ l : List Nat, ((l.filterMap fun a => if a = L then none else match b.get? a with
    | some _ => none
    | none => (h.get? a).map fun o => (a, o)).map (·.1)).Sublist l := by
    intro l
    induction l with
    | nil => exact List.Sublist.slnil
    | cons a l ih =>
      rw [List.filterMap_cons]
      split
      · exact ih.cons a
      · rename_i p hp
        have : p.1 = a := by
          split at hp
          · cases hp
          · split at hp
            · cases hp
            · obtain ⟨o, _, rfl⟩ := Option.map_eq_some_iff.mp hp; rfl
        rw [List.map_cons, this]
        exact ih.cons₂ a
  exact List.Nodup.sublist (hsub _) List.nodup_range

section
variable {c : FC} {m : LM} {H F : HM} {s : Shared}
theorem St.fr (S : St c m H F s) : ∃ mr, Fr c.s₀.heap c.env.locals s.heap mr ∧ MRel m mr :=
  let ⟨mr, n1, n2⟩ := S.ns; ⟨mr, ⟨n1, S.base, S.lb⟩, n2⟩
theorem St.news (S : St c m H F s) : News c.s₀.heap c.env.locals s.heap (full c.s₀.heap s.heap c.env.locals) := full_news _ _ _
theorem St.back (S : St c m H F s) {h' : Heap} {t : Nat} {m' : LM} {mr' : Str → Option Value} {news : List (Addr × Obj)} (Fr' : Fr c.s₀.heap c.env.locals h' mr') (hm : MRel m' mr')
    (N : News c.s₀.heap c.env.locals h' news) (hs : ∀ p ∈ full c.s₀.heap s.heap c.env.locals, p ∈ news) : St c m' H F { s with heap := h', toks := t } := by
  obtain ⟨h, t', rfl⟩ := S.same
  refine ⟨⟨_, _, rfl⟩, Fr'.keep, ⟨mr', Fr'.ns, hm⟩, Fr'.above, S.dj, fun a ao e => ?_, fun a ao e => ?_⟩
  · obtain ⟨h1, h2, o, h3, h4⟩ := S.hp a ao e
    exact ⟨h1, h2, o, (N (a, o) (hs _ (full_mem h1 h2 h3))).1, h4⟩
  · obtain ⟨h1, h2, o, h3, h4⟩ := S.fp a ao e
    exact ⟨h1, h2, o, (N (a, o) (hs _ (full_mem h1 h2 h3))).1, h4⟩
/-- one new object besides -/
theorem St.backNew (S : St c m H F s) {h' : Heap} {t : Nat} {m' : LM} {mr' : Str → Option Value} {news : List (Addr × Obj)} {a : Addr} {o : Obj} {ao : AO} (S' : St c m' H F { s with heap := h', toks := t })
    (hn : H a = none) (hf : F a = none) (h1 : a ≠ c.env.locals) (h2 : c.s₀.heap.get? a = none) (h3 : h'.get? a = some o) (hi : ao.Is o) : St c m' (H.set a ao) F { s with heap := h', toks := t } := by
  refine ⟨S'.same, S'.base, S'.ns, S'.lb, fun b => ?_, fun b bo e => ?_, S'.fp⟩
  · by_cases hb : b = a
    · subst hb; exact .inr hf
    · rw [HM.set_ne _ _ hb]; exact S'.dj b
  · by_cases hb : b = a
    · subst hb; rw [HM.set_same] at e; cases e; exact ⟨h1, h2, o, h3, hi⟩
    · rw [HM.set_ne _ _ hb] at e; exact S'.hp b bo e

theorem upd_map {d : Addr} {o o' : Obj} : ∀ {l : List (Addr × Obj)}, (d, o) ∈ l → (l.map (·.1)).Nodup → Upd d o o' l (l.map fun p => if p.1 = d then (d, o') else p)
  | [], h, _ => nomatch h
  | p :: r, h, nd => by
    rw [List.map_cons] at nd
    obtain ⟨n1, n2⟩ := List.nodup_cons.mp nd
    rw [List.map_cons]
    rcases List.mem_cons.mp h with e | h
    · subst e
      have hr : ∀ q ∈ r, q.1 ≠ d := fun q hq e => n1 (e ▸ List.mem_map_of_mem (f := (·.1)) hq)
      rw [if_pos rfl, show (r.map fun p => if p.1 = d then (d, o') else p) = r from (List.map_congr_left fun q hq => if_neg (hr q hq)).trans (List.map_id _)]
      exact .head hr
    · have hp : p.1 ≠ d := fun e => n1 (e ▸ List.mem_map_of_mem (f := (·.1)) h)
      rw [if_neg hp]
      exact .tail hp (upd_map h n2)
/-- one object turned -/
theorem St.backUpd (S : St c m H F s) {h' : Heap} {t : Nat} {m' : LM} {mr' : Str → Option Value} {a : Addr} {ao ao' : AO} {o' : Obj} (ha : H a = some ao) (Fr' : Fr c.s₀.heap c.env.locals h' mr') (hm : MRel m' mr')
    (N : News c.s₀.heap c.env.locals h' ((full c.s₀.heap s.heap c.env.locals).map fun p => if p.1 = a then (a, o') else p)) (hi : ao'.Is o') : St c m' (H.set a ao') F { s with heap := h', toks := t } := by
  obtain ⟨h, t', rfl⟩ := S.same
  obtain ⟨a1, a2, oa, a3, _⟩ := S.hp a ao ha
  have other : ∀ b o, b ≠ a → b ≠ c.env.locals → c.s₀.heap.get? b = none → h.get? b = some o → h'.get? b = some o := fun b o hb h1 h2 h3 =>
    (N (b, o) (List.mem_map.mpr ⟨(b, o), full_mem h1 h2 h3, if_neg hb⟩)).1
  have this := (N (a, o') (List.mem_map.mpr ⟨(a, oa), full_mem a1 a2 a3, if_pos rfl⟩)).1
  refine ⟨⟨_, _, rfl⟩, Fr'.keep, ⟨mr', Fr'.ns, hm⟩, Fr'.above, fun b => ?_, fun b bo e => ?_, fun b bo e => ?_⟩
  · by_cases hb : b = a
    · subst hb; rcases S.dj b with q | q
      · rw [q] at ha; cases ha
      · exact .inr q
    · rw [HM.set_ne _ _ hb]; exact S.dj b
  · by_cases hb : b = a
    · subst hb; rw [HM.set_same] at e; cases e; exact ⟨a1, a2, o', this, hi⟩
    · rw [HM.set_ne _ _ hb] at e
      obtain ⟨h1, h2, o, h3, h4⟩ := S.hp b bo e
      exact ⟨h1, h2, o, other b o hb h1 h2 h3, h4⟩
  · have hb : b ≠ a := by
      rintro rfl; rcases S.dj b with q | q
      · rw [q] at ha; cases ha
      · rw [q] at e; cases e
    obtain ⟨h1, h2, o, h3, h4⟩ := S.fp b bo e
    exact ⟨h1, h2, o, other b o hb h1 h2 h3, h4⟩
end
end Mine
end

section
open PySem PySem.W PySem.Calls PyProof.Rows
set_option linter.all false
namespace Mine

/-! ## texts as lists of signs -/
def S (l : List Nat) : Str := ⟨l.toArray⟩
abbrev VT (l : List Nat) : Value := .str (S l) 0
theorem S_cps (l : List Nat) : (S l).cps = l.toArray := rfl
theorem S_toList (l : List Nat) : (S l).cps.toList = l := rfl
theorem S_length (l : List Nat) : (S l).length = l.length := by simp [S, Str.length]
theorem S_of (x : Str) : x = S x.cps.toList := by cases x; simp [S]
theorem S_inj {l l' : List Nat} : S l = S l' ↔ l = l' := by simp [S]
theorem S_append (l l' : List Nat) : S l ++ S l' = S (l ++ l') := by
  show Str.append (S l) (S l') = _
  simp [Str.append, S]
theorem sizeLine_ge {n : Nat} (h : n ≤ 16000000) : n ≤ sizeLine := by rw [sizeLine_eq]; omega
theorem S_fits {l : List Nat} (h : l.length ≤ 16000000) : (S l).length ≤ sizeLine := by rw [S_length]; exact sizeLine_ge h

/-! ## what every frame has -/
structure Ok (c : FC) (K : Frag) (n : Nat) : Prop where
  X : K.In c.s₀.heap
  g : ∃ mg, c.s₀.heap.Ns mainGlobals mg
  b : ∃ mb, c.s₀.heap.Ns builtinsNs mb ∧ ∀ x : Str, x ≠ "__name__" → mb x = bootBuiltins x
  nl : c.s₀.heap.NoLimit
  kind : c.env.scope.kind = .function
  eg : c.env.globals = mainGlobals
  eb : c.env.builtins = builtinsNs
  hh : c.A.handled = none
  dp : c.A.depth + n < 900
  un : c.A.units + 4 * n < 9000

section
variable {c : FC} {K : Frag} {n : Nat} {m : LM} {H : HM} {X : XM}

theorem Ok.le {k : Nat} (O : Ok c K n) (h : k ≤ n) : Ok c K k := ⟨O.X, O.g, O.b, O.nl, O.kind, O.eg, O.eb, O.hh, by have := O.dp; omega, by have := O.un; omega⟩
theorem Ok.units (O : Ok c K n) : c.A.units < cLine := by have := O.un; unfold cLine; omega
theorem Ok.inK (O : Ok c K n) {F : HM} {s : Shared} (St' : St c m H F s) : K.In s.heap := O.X.keeps St'.base

/-! ### names of the top -/
theorem Ev.glob {x p v} {Q : Value → HM → Prop} (O : Ok c K n) (hl : c.env.kindOf x = some .globalImplicit) (e : nsIn K mainGlobals x = some (some v)) (h : Q (er v) H)
    (hd : (x == ("__debug__" : Str)) = false) : Ev c (.Name x p) m H Q X := fun F s St' => by
  obtain ⟨mg, g⟩ := O.g
  exact Name_function_global O.kind hl (loadGlobal_global (O.eg ▸ g.keeps St'.base) (mg_of O.X g e) ⟨H, St', h⟩) hd
theorem Ev.blt {x p v} {Q : Value → HM → Prop} (O : Ok c K n) (hl : c.env.kindOf x = some .globalImplicit) (e : nsIn K mainGlobals x = some none) (hv : bootBuiltins x = some v) (hn : x ≠ "__name__") (h : Q (er v) H)
    (hd : (x == ("__debug__" : Str)) = false) : Ev c (.Name x p) m H Q X := fun F s St' => by
  obtain ⟨mg, g⟩ := O.g
  obtain ⟨mb, b, hb⟩ := O.b
  exact Name_function_global O.kind hl (loadGlobal_builtin (O.eg ▸ g.keeps St'.base) (mg_none_of O.X g e) (O.eb ▸ b.keeps St'.base) ((hb x hn).trans hv) ⟨H, St', h⟩) hd

/-! ### arithmetic -/
theorem Op2.of {f : Value → Value → Sem Value} {a b : Value} {Q : Value → HM → Prop} (h : ∀ A B, er A = a → er B = b → Ew c (f A B) m H Q X) : Op2 c f a b m H Q X := h

theorem O_add {i j : Int} {Q : Value → HM → Prop} (h : Q (VI (i + j)) H) : Op2 c (binaryOp .Add) (VI i) (VI j) m H Q X := fun A B e1 e2 F s St' => by
  obtain ⟨t, rfl⟩ := er_int e1; obtain ⟨u, rfl⟩ := er_int e2
  exact PyProof.Rows.add_int ⟨H, St'.toks _, h⟩
theorem O_sub {i j : Int} {Q : Value → HM → Prop} (h : Q (VI (i - j)) H) : Op2 c (binaryOp .Sub) (VI i) (VI j) m H Q X := fun A B e1 e2 F s St' => by
  obtain ⟨t, rfl⟩ := er_int e1; obtain ⟨u, rfl⟩ := er_int e2
  exact PyProof.Rows.sub_int ⟨H, St'.toks _, h⟩
theorem O_fdiv {i j : Int} {Q : Value → HM → Prop} (hj : j ≠ 0) (hs : j.natAbs < 1073741824) (h : Q (VI (i.fdiv j)) H) : Op2 c (binaryOp .FloorDiv) (VI i) (VI j) m H Q X := fun A B e1 e2 F s St' => by
  obtain ⟨t, rfl⟩ := er_int e1; obtain ⟨u, rfl⟩ := er_int e2
  exact PyProof.Rows.floordiv_int hj ⟨H, St'.toks _, h⟩ (Or.inl (PyProof.noPylong_small (by omega)))
theorem O_mod {i j : Int} {Q : Value → HM → Prop} (hj : j ≠ 0) (h : Q (VI (i.fmod j)) H) : Op2 c (binaryOp .Mod) (VI i) (VI j) m H Q X := fun A B e1 e2 F s St' => by
  obtain ⟨t, rfl⟩ := er_int e1; obtain ⟨u, rfl⟩ := er_int e2
  exact PyProof.Rows.mod_int' hj ⟨H, St'.toks _, h⟩
theorem O_pow {i j : Int} {Q : Value → HM → Prop} (hj : 0 ≤ j) (hsz : (Builtin.Int.intBits i : Int) * j ≤ 2 ^ 27) (h : Q (VI (i ^ j.toNat)) H) : Op2 c (binaryOp .Pow) (VI i) (VI j) m H Q X := fun A B e1 e2 F s St' => by
  obtain ⟨t, rfl⟩ := er_int e1; obtain ⟨u, rfl⟩ := er_int e2
  exact PyProof.Rows.pow_int hj hsz ⟨H, St'.toks _, h⟩
theorem O_iadd {i j : Int} {Q : Value → HM → Prop} (h : Q (VI (i + j)) H) : Op2 c (inplaceOp .Add) (VI i) (VI j) m H Q X := fun A B e1 e2 F s St' => by
  obtain ⟨t, rfl⟩ := er_int e1; obtain ⟨u, rfl⟩ := er_int e2
  exact PyProof.Rows.iadd_int ⟨H, St'.toks _, h⟩
theorem O_isub {i j : Int} {Q : Value → HM → Prop} (h : Q (VI (i - j)) H) : Op2 c (inplaceOp .Sub) (VI i) (VI j) m H Q X := fun A B e1 e2 F s St' => by
  obtain ⟨t, rfl⟩ := er_int e1; obtain ⟨u, rfl⟩ := er_int e2
  exact PyProof.Rows.isub_int ⟨H, St'.toks _, h⟩
theorem O_neg {i : Int} {Q : Value → HM → Prop} (h : Q (VI (-i)) H) : Op1 c (unaryOp .USub) (VI i) m H Q X := fun A e1 F s St' => by
  obtain ⟨t, rfl⟩ := er_int e1
  exact PyProof.Rows.neg_int ⟨H, St'.toks _, h⟩
theorem O_lt {i j : Int} {Q : Value → HM → Prop} (h : Q (VB (decide (i < j))) H) : Op2 c (compareOp .Lt) (VI i) (VI j) m H Q X := fun A B e1 e2 F s St' => by
  obtain ⟨t, rfl⟩ := er_int e1; obtain ⟨u, rfl⟩ := er_int e2
  exact PyProof.Rows.lt_int ⟨H, St', h⟩
theorem O_le {i j : Int} {Q : Value → HM → Prop} (h : Q (VB (decide (i ≤ j))) H) : Op2 c (compareOp .LtE) (VI i) (VI j) m H Q X := fun A B e1 e2 F s St' => by
  obtain ⟨t, rfl⟩ := er_int e1; obtain ⟨u, rfl⟩ := er_int e2
  exact PyProof.Rows.le_int ⟨H, St', h⟩
theorem O_gt {i j : Int} {Q : Value → HM → Prop} (h : Q (VB (decide (j < i))) H) : Op2 c (compareOp .Gt) (VI i) (VI j) m H Q X := fun A B e1 e2 F s St' => by
  obtain ⟨t, rfl⟩ := er_int e1; obtain ⟨u, rfl⟩ := er_int e2
  exact PyProof.Rows.gt_int ⟨H, St', h⟩
theorem O_ge {i j : Int} {Q : Value → HM → Prop} (h : Q (VB (decide (j ≤ i))) H) : Op2 c (compareOp .GtE) (VI i) (VI j) m H Q X := fun A B e1 e2 F s St' => by
  obtain ⟨t, rfl⟩ := er_int e1; obtain ⟨u, rfl⟩ := er_int e2
  exact PyProof.Rows.ge_int ⟨H, St', h⟩
theorem O_eqI {i j : Int} {Q : Value → HM → Prop} (h : Q (VB (decide (i = j))) H) : Op2 c (compareOp .Eq) (VI i) (VI j) m H Q X := fun A B e1 e2 F s St' => by
  obtain ⟨t, rfl⟩ := er_int e1; obtain ⟨u, rfl⟩ := er_int e2
  exact PyProof.Rows.eq_int ⟨H, St', h⟩
theorem O_neI {i j : Int} {Q : Value → HM → Prop} (h : Q (VB (!decide (i = j))) H) : Op2 c (compareOp .NotEq) (VI i) (VI j) m H Q X := fun A B e1 e2 F s St' => by
  obtain ⟨t, rfl⟩ := er_int e1; obtain ⟨u, rfl⟩ := er_int e2
  exact PyProof.Rows.ne_int ⟨H, St', h⟩
theorem O_eqB {i j : Bool} {Q : Value → HM → Prop} (h : Q (VB (i == j)) H) : Op2 c (compareOp .Eq) (VB i) (VB j) m H Q X := fun A B e1 e2 F s St' => by
  obtain rfl := er_bool e1; obtain rfl := er_bool e2
  exact PyProof.Rows.eq_bool ⟨H, St', h⟩
theorem O_eqBN {i : Bool} {Q : Value → HM → Prop} (h : Q (VB false) H) : Op2 c (compareOp .Eq) (VB i) .none m H Q X := fun A B e1 e2 F s St' => by
  obtain rfl := er_bool e1; obtain rfl := er_none e2
  exact EqNone.eq_bool_none ⟨H, St', h⟩

theorem O_isNN {Q : Value → HM → Prop} (h : Q (VB true) H) : Op2 c (compareOp .Is) .none .none m H Q X := fun A B e1 e2 F s St' => by
  obtain rfl := er_none e1; obtain rfl := er_none e2
  exact is_none_none ⟨H, St', h⟩
theorem O_isIN {i : Int} {Q : Value → HM → Prop} (h : Q (VB false) H) : Op2 c (compareOp .Is) (VI i) .none m H Q X := fun A B e1 e2 F s St' => by
  obtain ⟨t, rfl⟩ := er_int e1; obtain rfl := er_none e2
  exact is_int_none ⟨H, St', h⟩
theorem O_isnotNN {Q : Value → HM → Prop} (h : Q (VB false) H) : Op2 c (compareOp .IsNot) .none .none m H Q X := fun A B e1 e2 F s St' => by
  obtain rfl := er_none e1; obtain rfl := er_none e2
  exact isnot_none_none ⟨H, St', h⟩
theorem O_isnotRN {a : Addr} {Q : Value → HM → Prop} (h : Q (VB true) H) : Op2 c (compareOp .IsNot) (.ref a) .none m H Q X := fun A B e1 e2 F s St' => by
  obtain rfl := er_ref e1; obtain rfl := er_none e2
  exact isnot_ref_none ⟨H, St', h⟩
theorem O_not {v : Value} {Q : Value → HM → Prop} (h : Tru c v m H (fun b H1 => Q (VB (!b)) H1) X) : Op1 c (unaryOp .Not) v m H Q X := fun A e1 F s St' =>
  not_of (wpAny_mono (h A e1 F s St') (fun b s' ⟨H1, S1, q⟩ => ⟨H1, S1, q⟩) fun _ _ e => e)

/-! ### truth -/
theorem T_bool {b : Bool} {Q : Bool → HM → Prop} (h : Q b H) : Tru c (VB b) m H Q X := fun A e F s St' => by
  obtain rfl := er_bool e; exact wpAny_truthy_bool ⟨H, St', h⟩
theorem T_int {i : Int} {Q : Bool → HM → Prop} (h : Q (!decide (i = 0)) H) : Tru c (VI i) m H Q X := fun A e F s St' => by
  obtain ⟨t, rfl⟩ := er_int e; exact PyProof.Rows.truthy_int ⟨H, St', h⟩
theorem T_none {Q : Bool → HM → Prop} (h : Q false H) : Tru c .none m H Q X := fun A e F s St' => by
  obtain rfl := er_none e; exact truthy_none ⟨H, St', h⟩
theorem T_str {l : List Nat} {Q : Bool → HM → Prop} (hl : l.length ≤ 16000000) (h : Q (!l.isEmpty) H) : Tru c (VT l) m H Q X := fun A e F s St' => by
  obtain ⟨t, rfl⟩ := er_str e
  refine PySem.P.truthy_str (by rw [S_length]; omega) ⟨H, St'.toks _, ?_⟩
  rw [S_length]
  cases l with
  | nil => exact h
  | cons a r =>
    have : (((a :: r).length : Int) != 0) = true := by simp only [List.length_cons, bne_iff_ne, ne_eq]; omega
    rw [this]; exact h

/-! ### texts -/
theorem Ev.text {x k p} {l : List Nat} {Q : Value → HM → Prop} (hx : x = S l) (h : Q (VT l) H) : Ev c (.Constant (.str x) k p) m H Q X := by
  subst hx; exact Ev.str h
theorem O_addT {l l' : List Nat} {Q : Value → HM → Prop} (hl : l.length + l'.length ≤ 16000000) (h : Q (VT (l ++ l')) H) : Op2 c (binaryOp .Add) (VT l) (VT l') m H Q X := fun A B e1 e2 F s St' => by
  obtain ⟨t, rfl⟩ := er_str e1; obtain ⟨u, rfl⟩ := er_str e2
  refine PySem.P.add_str ?_
  simp only [S_length]
  split
  · rename_i q
    have : l = [] := by simpa using q
    subst this; exact ⟨H, St', h⟩
  · split
    · rename_i q
      have : l' = [] := by simpa using q
      subst this
      rw [List.append_nil] at h; exact ⟨H, St', h⟩
    · refine ⟨?_, H, St'.toks _, ?_⟩
      · rw [S_append]; exact S_fits (by rw [List.length_append]; exact hl)
      · rw [S_append]; exact h
theorem O_iaddT {l l' : List Nat} {Q : Value → HM → Prop} (hl : l.length + l'.length ≤ 16000000) (h : Q (VT (l ++ l')) H) : Op2 c (inplaceOp .Add) (VT l) (VT l') m H Q X := fun A B e1 e2 F s St' => by
  obtain ⟨t, rfl⟩ := er_str e1; obtain ⟨u, rfl⟩ := er_str e2
  refine PySem.P.iadd_str ?_
  simp only [S_length]
  split
  · rename_i q
    have : l = [] := by simpa using q
    subst this; exact ⟨H, St', h⟩
  · split
    · rename_i q
      have : l' = [] := by simpa using q
      subst this
      rw [List.append_nil] at h; exact ⟨H, St', h⟩
    · refine ⟨?_, H, St'.toks _, ?_⟩
      · rw [S_append]; exact S_fits (by rw [List.length_append]; exact hl)
      · rw [S_append]; exact h
theorem O_eqT {l l' : List Nat} {Q : Value → HM → Prop} (h : Q (VB (decide (l = l'))) H) : Op2 c (compareOp .Eq) (VT l) (VT l') m H Q X := fun A B e1 e2 F s St' => by
  obtain ⟨t, rfl⟩ := er_str e1; obtain ⟨u, rfl⟩ := er_str e2
  refine PySem.P.eq_str ⟨H, St', ?_⟩
  rw [S_toList, S_toList, show (l == l') = decide (l = l') from by by_cases q : l = l' <;> simp [q]]
  exact h
theorem O_neT {l l' : List Nat} {Q : Value → HM → Prop} (h : Q (VB (!decide (l = l'))) H) : Op2 c (compareOp .NotEq) (VT l) (VT l') m H Q X := fun A B e1 e2 F s St' => by
  obtain ⟨t, rfl⟩ := er_str e1; obtain ⟨u, rfl⟩ := er_str e2
  refine PySem.P.ne_str ⟨H, St', ?_⟩
  rw [S_toList, S_toList, show (l != l') = !decide (l = l') from by by_cases q : l = l' <;> simp [q]]
  exact h
end
end Mine
end

section
open PySem PySem.W PySem.Calls PyProof.Rows
set_option linter.all false
set_option maxRecDepth 100000
namespace Mine

/-! ## lists in the heap -/
section
variable {c : FC} {m : LM} {H F : HM} {s : Shared} {a : Addr} {vs : List Value}
theorem St.list (St' : St c m H F s) (h : H a = some (.list vs)) : ∃ (ws : List Value) (n : Nat), ws.map er = vs ∧ s.heap.get? a = some { cls := .type "list", data := .seq ws.toArray n } := by
  obtain ⟨_, _, o, ho, ws, n, rfl, hw⟩ := St'.hp _ _ h
  exact ⟨ws, n, hw, ho⟩
theorem St.tup (St' : St c m H F s) (h : H a = some (.tup vs)) : ∃ (ws : List Value), ws.map er = vs ∧ s.heap.IsTuple a ws.toArray := by
  obtain ⟨_, _, o, ho, ws, n, ⟨h1, h2⟩, hw⟩ := St'.hp _ _ h
  exact ⟨ws, hw, o, ho, h1, n, h2⟩
theorem isList_of {h : Heap} {ws : List Value} {n : Nat} (x : h.get? a = some { cls := .type "list", data := .seq ws.toArray n }) : h.IsList a ws.toArray := ⟨_, x, rfl, n, rfl⟩
theorem isTup_of {h : Heap} {ws : List Value} (x : h.IsTuple a ws.toArray) : PyProof.Rows.IsTup h a ws.toArray := x

/-- a list turned in place -/
theorem St.turn (St' : St c m H F s) (h : H a = some (.list vs)) {ws : List Value} {n t : Nat} (hg : s.heap.get? a = some { cls := .type "list", data := .seq ws.toArray n }) (f : Array Value → Array Value) {ws' : List Value} (hf : f ws.toArray = ws'.toArray) :
    St c m (H.set a (.list (ws'.map er))) F { s with heap := s.heap.update a (Obj.mapSeq f), toks := t } := by
  refine St'.upd (ao' := .list (ws'.map er)) h (Heap.SameBut.update ..) (Heap.get?_update_self _ hg rfl) ⟨ws', (if (f ws.toArray).size == ws.toArray.size then n else n + 1), ?_, rfl⟩
  rw [← hf]
  rfl
end

theorem getElem?_er {ws : List Value} {k : Nat} {v : Value} (h : (ws.map er)[k]? = some v) : ∃ V, ws[k]? = some V ∧ er V = v := by
  rw [List.getElem?_map] at h
  exact Option.map_eq_some_iff.mp h

section
variable {c : FC} {K : Frag} {n : Nat} {m : LM} {H : HM} {X : XM}

/-! ## calls -/
def Kp (c : FC) (f : Value) (H : HM) : Prop := ∀ F s m, St c m H F s → ∀ V, er V = f → ∃ k, (k = Keeper.frame ∨ k = Keeper.machine ∨ k = Keeper.boundFrame) ∧ Looks (model c.prog c.w) s.heap (keeperOf V) k
theorem Kp.builtin {id : String} : Kp c (.builtin id) H := fun F s m _ V e => by
  obtain rfl := er_builtin e; exact ⟨.machine, .inr (.inl rfl), Looks.of_pure rfl⟩
theorem Kp.type {id : String} : Kp c (.type id) H := fun F s m _ V e => by
  obtain rfl := er_type e; exact ⟨.machine, .inr (.inl rfl), Looks.of_pure rfl⟩
theorem Kp.k {f : Addr} (O : Ok c K n) (hk : keepIn K (.ref f) = true) : Kp c (.ref f) H := fun F s m St' V e => by
  obtain rfl := er_ref e; exact keeps_K hk _ (O.inK St')
theorem Kp.raw {f : Addr} {o : Obj} {fd : FuncData} (h : H f = some (.raw o)) (hd : o.data = .func fd) : Kp c (.ref f) H := fun F s m St' V e => by
  obtain rfl := er_ref e
  obtain ⟨_, _, o', ho, rfl⟩ := St'.hp _ _ h
  refine ⟨.frame, .inl rfl, ?_⟩
  refine (Looks.ld (part := none) ho).andThen ?_
  rw [hd]; exact .now

theorem Ev.call0 {fe pos} {Q : Value → HM → Prop} (h : Ev c fe m H (fun f H1 => Kp c f H1 ∧ CallJ c f [] [] m H1 Q X) X)
    (he : eval (.Call fe [] [] pos) c.env = (do callWith pos (← eval fe c.env) [] (backTo pos (starEach [] c.env)) (backToKw pos (keywordEach [] c.env)))) : Ev c (.Call fe [] [] pos) m H Q X := fun F s St' =>
  Call_ (wpAny_mono (h F s St') (fun V s1 ⟨H1, S1, hk, hc⟩ =>
    callWith_of (P := fun h => ∃ k, (k = Keeper.frame ∨ k = Keeper.machine ∨ k = Keeper.boundFrame) ∧ Looks (model c.prog c.w) h (keeperOf V) k) rfl (fun _ x => x) (evalArgs_nil3 ⟨hk F s1 m S1 V rfl, hc V [] [] rfl rfl rfl F s1 S1⟩)) fun _ _ e => e) he
theorem Ev.call {fe e rest pos} {Q : Value → HM → Prop} (h : Ev c fe m H (fun f H1 => Vals c (e :: rest) m H1 (fun vs H2 => Kp c f H2 ∧ CallJ c f vs [] m H2 Q X) X) X)
    (he : eval (.Call fe (e :: rest) [] pos) c.env = (do callWith pos (← eval fe c.env) [] (backTo pos (starEach (e :: rest) c.env)) (backToKw pos (keywordEach [] c.env))))
    (hs : starEach (e :: rest) c.env = (false, eval e c.env) :: starEach rest c.env) (hp : (backTo pos (starEach rest c.env)).any (·.1) = false) : Ev c (.Call fe (e :: rest) [] pos) m H Q X := fun F s St' =>
  Call_ (wpAny_mono (h F s St') (fun V s1 ⟨H1, S1, hv⟩ => by
    have hv' := hv pos F s1 S1
    show wpAny _ _ (callWith pos V [] (backTo pos (starEach (e :: rest) c.env)) []) _ _ s1
    rw [hs] at hv' ⊢
    exact callWith_of (P := fun h => ∃ k, (k = Keeper.frame ∨ k = Keeper.machine ∨ k = Keeper.boundFrame) ∧ Looks (model c.prog c.w) h (keeperOf V) k) (by show ((false || (backTo pos (starEach rest c.env)).any (·.1)) || false) = false; rw [hp]; rfl) (fun _ x => x)
      (evalArgs_plain (wpAny_mono hv' (fun Vs s2 ⟨H2, S2, hk, hc⟩ => ⟨hk F s2 m S2 V rfl, hc V Vs [] rfl rfl rfl F s2 S2⟩) fun _ _ e => e))) fun _ _ e => e) he

/-! ## methods -/
def MethJ (c : FC) (o : Value) (name : Str) (m : LM) (H : HM) (Q : Value → List Value → HM → Prop) (X : XM) : Prop :=
  ∀ V pl F s, er V = o → St c m H F s → wpAny (model c.prog c.w) c.A (getMethod V name pl) (fun fx s' => ∃ H', St c m H' F s' ∧ Q (er fx.1) (fx.2.map er) H') (X F) s

theorem Ev.meth0 {o name apos pos} {pl : Sem Bool} {Q : Value → HM → Prop} (h : Ev c o m H (fun ov H1 => MethJ c ov name m H1 (fun f fs H2 => Kp c f H2 ∧ CallJ c f fs [] m H2 Q X) X) X)
    (he : eval (.Call (.Attribute o name apos) [] [] pos) c.env = (do
      let ov ← eval o c.env
      standAt apos.atName
      let (f, first) ← holding [ov] (getMethod ov name pl)
      callWith pos f first (backTo pos (starEach [] c.env)) [])) : Ev c (.Call (.Attribute o name apos) [] [] pos) m H Q X := fun F s St' =>
  MethodCall_ (wpAny_mono (h F s St') (fun V s1 ⟨H1, S1, hm⟩ => wpAny_mono (hm V pl F s1 rfl S1) (fun fx s2 ⟨H2, S2, hk, hc⟩ =>
    callWith_of (P := fun h => ∃ k, (k = Keeper.frame ∨ k = Keeper.machine ∨ k = Keeper.boundFrame) ∧ Looks (model c.prog c.w) h (keeperOf fx.1) k) rfl (fun _ x => x)
      (evalArgs_nil3 ⟨hk F s2 m S2 fx.1 rfl, hc fx.1 (fx.2 ++ []) [] rfl (by rw [List.append_nil]) rfl F s2 S2⟩)) fun _ _ e => e) fun _ _ e => e) he
theorem Ev.meth {o name apos e rest pos} {pl : Sem Bool} {Q : Value → HM → Prop} (h : Ev c o m H (fun ov H1 => MethJ c ov name m H1 (fun f fs H2 => Vals c (e :: rest) m H2 (fun vs H3 => Kp c f H3 ∧ CallJ c f (fs ++ vs) [] m H3 Q X) X) X) X)
    (he : eval (.Call (.Attribute o name apos) (e :: rest) [] pos) c.env = (do
      let ov ← eval o c.env
      standAt apos.atName
      let (f, first) ← holding [ov] (getMethod ov name pl)
      callWith pos f first (backTo pos (starEach (e :: rest) c.env)) []))
    (hs : starEach (e :: rest) c.env = (false, eval e c.env) :: starEach rest c.env) (hp : (backTo pos (starEach rest c.env)).any (·.1) = false) : Ev c (.Call (.Attribute o name apos) (e :: rest) [] pos) m H Q X := fun F s St' =>
  MethodCall_ (wpAny_mono (h F s St') (fun V s1 ⟨H1, S1, hm⟩ => wpAny_mono (hm V pl F s1 rfl S1) (fun fx s2 ⟨H2, S2, hv⟩ => by
    have hv' := hv pos F s2 S2
    rw [hs] at hv' ⊢
    exact callWith_of (P := fun h => ∃ k, (k = Keeper.frame ∨ k = Keeper.machine ∨ k = Keeper.boundFrame) ∧ Looks (model c.prog c.w) h (keeperOf fx.1) k) (by show ((false || (backTo pos (starEach rest c.env)).any (·.1)) || false) = false; rw [hp]; rfl) (fun _ x => x)
      (evalArgs_plain (wpAny_mono hv' (fun Vs s3 ⟨H3, S3, hk, hc⟩ => ⟨hk F s3 m S3 fx.1 rfl, hc fx.1 (fx.2 ++ Vs) [] rfl (by rw [List.map_append]) rfl F s3 S3⟩) fun _ _ e => e))) fun _ _ e => e) fun _ _ e => e) he

theorem MethJ.str {l : List Nat} {name : Str} {id : String} {Q : Value → List Value → HM → Prop} (slot : Slot "str" name id) (ty : typeOf (.builtin id) = pure (.type "method_descriptor"))
    (h : Q (.builtin id) [VT l] H) : MethJ c (VT l) name m H Q X := fun V pl F s e St' => by
  obtain ⟨t, rfl⟩ := er_str e
  exact getMethod_builtin (typeIs_str _ _ _) PySem.F.plainAttrs_str slot ty (fun _ e => nomatch e) ⟨H, St', h⟩
theorem MethJ.list {a : Addr} {vs : List Value} {name : Str} {id : String} {Q : Value → List Value → HM → Prop} (hl : H a = some (.list vs)) (slot : Slot "list" name id) (ty : typeOf (.builtin id) = pure (.type "method_descriptor"))
    (h : Q (.builtin id) [.ref a] H) : MethJ c (.ref a) name m H Q X := fun V pl F s e St' => by
  obtain rfl := er_ref e
  obtain ⟨ws, n, hw, hg⟩ := St'.list hl
  exact getMethod_builtin ⟨_, hg, rfl⟩ PySem.F.plainAttrs_list slot ty (fun _ e => by cases e; exact ⟨_, hg, rfl⟩) ⟨H, St', h⟩

/-! ## built-in methods of texts -/
theorem C_strip {l : List Nat} {Q : Value → HM → Prop} (hl : l.length ≤ 16000000) (h : Q (VS (Txt.strip (S l))) H) : CallJ c (.builtin "str.strip") [VT l] [] m H Q X := fun Fv Vs Ks e0 e1 e2 F s St' => by
  obtain rfl := er_builtin e0
  obtain ⟨V, _, rfl, e, e1⟩ := ers_cons e1; obtain rfl := ers_nil e1; obtain ⟨t, rfl⟩ := er_str e; obtain rfl := List.map_eq_nil_iff.mp e2
  exact SC.strip (fun _ _ => ⟨H, St'.toks _, h⟩) (S_fits hl)
theorem C_lstrip {l : List Nat} {Q : Value → HM → Prop} (hl : l.length ≤ 16000000) (h : Q (VS (Txt.lstrip (S l))) H) : CallJ c (.builtin "str.lstrip") [VT l] [] m H Q X := fun Fv Vs Ks e0 e1 e2 F s St' => by
  obtain rfl := er_builtin e0
  obtain ⟨V, _, rfl, e, e1⟩ := ers_cons e1; obtain rfl := ers_nil e1; obtain ⟨t, rfl⟩ := er_str e; obtain rfl := List.map_eq_nil_iff.mp e2
  exact SC.lstrip (fun _ _ => ⟨H, St'.toks _, h⟩) (S_fits hl)
theorem C_lstripC {l y : List Nat} {Q : Value → HM → Prop} (hl : l.length ≤ 16000000) (h : Q (VS (Txt.lstripChars (S l) (S y))) H) : CallJ c (.builtin "str.lstrip") [VT l, VT y] [] m H Q X := fun Fv Vs Ks e0 e1 e2 F s St' => by
  obtain rfl := er_builtin e0
  obtain ⟨V, _, rfl, e, e1⟩ := ers_cons e1; obtain ⟨W, _, rfl, e', e1⟩ := ers_cons e1; obtain rfl := ers_nil e1; obtain ⟨t, rfl⟩ := er_str e; obtain ⟨t', rfl⟩ := er_str e'; obtain rfl := List.map_eq_nil_iff.mp e2
  exact SC.lstripChars (fun _ _ => ⟨H, St'.toks _, h⟩) (S_fits hl)
theorem C_rstripC {l y : List Nat} {Q : Value → HM → Prop} (hl : l.length ≤ 16000000) (h : Q (VS (Txt.rstripChars (S l) (S y))) H) : CallJ c (.builtin "str.rstrip") [VT l, VT y] [] m H Q X := fun Fv Vs Ks e0 e1 e2 F s St' => by
  obtain rfl := er_builtin e0
  obtain ⟨V, _, rfl, e, e1⟩ := ers_cons e1; obtain ⟨W, _, rfl, e', e1⟩ := ers_cons e1; obtain rfl := ers_nil e1; obtain ⟨t, rfl⟩ := er_str e; obtain ⟨t', rfl⟩ := er_str e'; obtain rfl := List.map_eq_nil_iff.mp e2
  exact SC.rstripChars (fun _ _ => ⟨H, St'.toks _, h⟩) (S_fits hl)
theorem C_startswith {l y : List Nat} {Q : Value → HM → Prop} (h : Q (VB (Txt.startswith (S l) (S y))) H) : CallJ c (.builtin "str.startswith") [VT l, VT y] [] m H Q X := fun Fv Vs Ks e0 e1 e2 F s St' => by
  obtain rfl := er_builtin e0
  obtain ⟨V, _, rfl, e, e1⟩ := ers_cons e1; obtain ⟨W, _, rfl, e', e1⟩ := ers_cons e1; obtain rfl := ers_nil e1; obtain ⟨t, rfl⟩ := er_str e; obtain ⟨t', rfl⟩ := er_str e'; obtain rfl := List.map_eq_nil_iff.mp e2
  exact SC.startswith ⟨H, St', h⟩
theorem C_count {l y : List Nat} {Q : Value → HM → Prop} (h : Q (VI (Txt.count (S l) (S y))) H) : CallJ c (.builtin "str.count") [VT l, VT y] [] m H Q X := fun Fv Vs Ks e0 e1 e2 F s St' => by
  obtain rfl := er_builtin e0
  obtain ⟨V, _, rfl, e, e1⟩ := ers_cons e1; obtain ⟨W, _, rfl, e', e1⟩ := ers_cons e1; obtain rfl := ers_nil e1; obtain ⟨t, rfl⟩ := er_str e; obtain ⟨t', rfl⟩ := er_str e'; obtain rfl := List.map_eq_nil_iff.mp e2
  exact SC.count ⟨H, St'.toks _, h⟩

/-! ## len -/
theorem C_lenT {l : List Nat} {Q : Value → HM → Prop} (hl : l.length ≤ 16000000) (h : Q (VI l.length) H) : CallJ c (.builtin "len") [VT l] [] m H Q X := fun Fv Vs Ks e0 e1 e2 F s St' => by
  obtain rfl := er_builtin e0
  obtain ⟨V, _, rfl, e, e1⟩ := ers_cons e1; obtain rfl := ers_nil e1; obtain ⟨t, rfl⟩ := er_str e; obtain rfl := List.map_eq_nil_iff.mp e2
  refine P.len_str (by rw [S_length]; omega) ⟨H, St'.toks _, ?_⟩
  rw [S_length]; exact h
theorem C_lenL {a : Addr} {vs : List Value} {Q : Value → HM → Prop} (hv : H a = some (.list vs)) (hl : vs.length ≤ 16000000) (h : Q (VI vs.length) H) : CallJ c (.builtin "len") [.ref a] [] m H Q X := fun Fv Vs Ks e0 e1 e2 F s St' => by
  obtain rfl := er_builtin e0
  obtain ⟨V, _, rfl, e, e1⟩ := ers_cons e1; obtain rfl := ers_nil e1; obtain rfl := er_ref e; obtain rfl := List.map_eq_nil_iff.mp e2
  obtain ⟨ws, n, rfl, hg⟩ := St'.list hv
  rw [List.length_map] at hl h
  refine call_len_list (isList_of hg) (by simp; omega) ⟨H, St'.toks _, ?_⟩
  rw [List.size_toArray]; exact h
theorem T_list {a : Addr} {vs : List Value} {Q : Bool → HM → Prop} (hv : H a = some (.list vs)) (hl : vs.length ≤ 16000000) (h : Q (!vs.isEmpty) H) : Tru c (.ref a) m H Q X := fun A e F s St' => by
  obtain rfl := er_ref e
  obtain ⟨ws, n, rfl, hg⟩ := St'.list hv
  rw [List.length_map] at hl
  refine wpAny_truthy_list (isList_of hg) (by simp; omega) ⟨H, St'.toks _, ?_⟩
  simpa using h

/-! ## lists: methods -/
theorem C_append {a : Addr} {vs : List Value} {v : Value} {Q : Value → HM → Prop} (hv : H a = some (.list vs)) (hl : vs.length ≤ 16000000) (h : Q .none (H.set a (.list (vs ++ [v])))) : CallJ c (.builtin "list.append") [.ref a, v] [] m H Q X := fun Fv Vs Ks e0 e1 e2 F s St' => by
  obtain rfl := er_builtin e0
  obtain ⟨V, _, rfl, e, e1⟩ := ers_cons e1; obtain ⟨W, _, rfl, e', e1⟩ := ers_cons e1; obtain rfl := ers_nil e1; obtain rfl := er_ref e; obtain rfl := List.map_eq_nil_iff.mp e2
  obtain ⟨ws, n, rfl, hg⟩ := St'.list hv
  rw [List.length_map] at hl
  refine call_meets PySem.F.slot_list_append ⟨_, hg, rfl⟩ PySem.F.entry_list_append (PySem.F.args_list_append_2 _ _) (list_append a ws.toArray n W (by rw [List.size_toArray]; exact sizeLine_ge hl)) ⟨hg, _, St'.turn (ws' := ws ++ [W]) hv hg _ (by simp), ?_⟩
  rw [List.map_append, ← e'] at *; exact h
theorem C_reverse {a : Addr} {vs : List Value} {Q : Value → HM → Prop} (hv : H a = some (.list vs)) (hl : vs.length ≤ 16000000) (h : Q .none (H.set a (.list vs.reverse))) : CallJ c (.builtin "list.reverse") [.ref a] [] m H Q X := fun Fv Vs Ks e0 e1 e2 F s St' => by
  obtain rfl := er_builtin e0
  obtain ⟨V, _, rfl, e, e1⟩ := ers_cons e1; obtain rfl := ers_nil e1; obtain rfl := er_ref e; obtain rfl := List.map_eq_nil_iff.mp e2
  obtain ⟨ws, n, rfl, hg⟩ := St'.list hv
  rw [List.length_map] at hl
  refine call_meets PySem.F.slot_list_reverse ⟨_, hg, rfl⟩ PySem.F.entry_list_reverse (PySem.F.args_list_reverse_1 _) (AutoSeq1.list_reverse_list_0 a ws.toArray n (by rw [List.size_toArray]; exact sizeLine_ge hl)) ⟨hg, _, St'.turn (ws' := ws.reverse) hv hg _ (by simp), ?_⟩
  rw [List.map_reverse]; exact h
theorem erase_last (ws : List Value) (V : Value) : (ws ++ [V]).toArray.eraseIdxIfInBounds ((ws ++ [V]).toArray.size - 1) = ws.toArray := by
  unfold Array.eraseIdxIfInBounds
  simp [List.eraseIdx_append_of_length_le (Nat.le_refl _)]
theorem C_pop {a : Addr} {vs : List Value} {v : Value} {Q : Value → HM → Prop} (hv : H a = some (.list (vs ++ [v]))) (hl : vs.length < 16000000) (h : Q v (H.set a (.list vs))) : CallJ c (.builtin "list.pop") [.ref a] [] m H Q X := fun Fv Vs Ks e0 e1 e2 F s St' => by
  obtain rfl := er_builtin e0
  obtain ⟨V, _, rfl, e, e1⟩ := ers_cons e1; obtain rfl := ers_nil e1; obtain rfl := er_ref e; obtain rfl := List.map_eq_nil_iff.mp e2
  obtain ⟨wv, n, hw, hg⟩ := St'.list hv
  obtain ⟨ws, w1, rfl, rfl, hw1⟩ := List.map_eq_append_iff.mp hw
  obtain ⟨W, _, rfl, rfl, hw2⟩ := ers_cons hw1
  obtain rfl := ers_nil hw2
  rw [List.length_map] at hl
  refine call_meets PySem.F.slot_list_pop ⟨_, hg, rfl⟩ PySem.F.entry_list_pop (PySem.F.args_list_pop_1 _) (MeetsSeq.list_pop_last a (ws ++ [W]).toArray n W (by simp) (by rw [List.size_toArray, List.length_append]; exact sizeLine_ge hl)) ⟨hg, _, St'.turn (ws' := ws) hv hg _ (erase_last ws W), h⟩
end
end Mine
end

section
open PySem PySem.W PySem.Calls PyProof.Rows
set_option linter.all false
set_option maxRecDepth 100000
namespace Mine

section
variable {c : FC} {K : Frag} {n : Nat} {m : LM} {H : HM} {X : XM}

/-! ## making lists and tuples -/
theorem Ev.list {es p} {Q : Value → HM → Prop} (h : Vals c es m H (fun vs H1 => vs.length ≤ 16000000 ∧ ∀ a, H1 a = none → Q (.ref a) (H1.set a (.list vs))) X) : Ev c (.List es p) m H Q X := fun G s St' =>
  List_ (wpAny_mono (h p G s St') (fun Vs s1 ⟨H1, S1, hl, hq⟩ => by
    rw [List.length_map] at hl
    exact wpAny_newObj_type ⟨_, S1.push (ao := .list (Vs.map er)) ⟨Vs, 0, rfl, rfl⟩ rfl, hq _ S1.fresh.1⟩ (by show Vs.toArray.size ≤ sizeLine; rw [List.size_toArray]; exact sizeLine_ge hl)) fun _ _ e => e)
theorem Ev.tuple {es k p} {Q : Value → HM → Prop} (h : Vals c es m H (fun vs H1 => vs.length ≤ 16000000 ∧ ∀ a, H1 a = none → Q (.ref a) (H1.set a (.tup vs))) X) : Ev c (.Tuple es k p) m H Q X := fun G s St' =>
  Tuple_ (wpAny_mono (h p G s St') (fun Vs s1 ⟨H1, S1, hl, hq⟩ => by
    rw [List.length_map] at hl
    exact wpAny_newObj_type ⟨_, S1.push (ao := .tup (Vs.map er)) ⟨Vs, 0, ⟨rfl, rfl⟩, rfl⟩ rfl, hq _ S1.fresh.1⟩ (by show Vs.toArray.size ≤ sizeLine; rw [List.size_toArray]; exact sizeLine_ge hl)) fun _ _ e => e)

/-! ## items -/
def ItemJ (c : FC) (o i : Value) (m : LM) (H : HM) (Q : Value → HM → Prop) (X : XM) : Prop := Op2 c getItem o i m H Q X
/-- what stands at an index, from behind too -/
def at? {α : Type} (vs : List α) (k : Int) : Option α := if 0 ≤ k then vs[k.toNat]? else if -(vs.length : Int) ≤ k then vs[(k + vs.length).toNat]? else none

theorem I_list {a : Addr} {vs : List Value} {k : Int} {v : Value} {Q : Value → HM → Prop} (hv : H a = some (.list vs)) (hk : at? vs k = some v) (hs : k.natAbs < 2 ^ 62) (h : Q v H) : ItemJ c (.ref a) (VI k) m H Q X := fun A B e1 e2 G s St' => by
  obtain rfl := er_ref e1; obtain ⟨u, rfl⟩ := er_int e2
  obtain ⟨ws, n, rfl, hg⟩ := St'.list hv
  unfold at? at hk
  split at hk
  · rename_i h0
    obtain ⟨V, hV, rfl⟩ := getElem?_er hk
    exact wpAny_getItem_list (isList_of hg) h0 (by omega) (by simpa using hV) ⟨H, St', h⟩
  · rename_i h0
    split at hk
    · rename_i h1
      obtain ⟨V, hV, rfl⟩ := getElem?_er hk
      rw [List.length_map] at h1 hV
      exact wpAny_getItem_list_neg (isList_of hg) (by omega) (by simpa using h1) (by omega) (by simpa using hV) ⟨H, St', h⟩
    · cases hk
theorem seqIndex_at {α : Type} {vs : List α} {k : Int} {v : α} (h : at? vs k = some v) : ∃ j, seqIndex? k vs.length = some j ∧ vs[j]? = some v := by
  unfold at? at h
  split at h
  · rename_i h0
    refine ⟨k.toNat, ?_, h⟩
    have hlt : k.toNat < vs.length := (List.getElem?_eq_some_iff.mp h).1
    unfold seqIndex?
    have h1 : ¬ k < 0 := by omega
    have h2 : (decide (0 ≤ k) && decide (k < (vs.length : Int))) = true := by simp only [Bool.and_eq_true, decide_eq_true_eq]; omega
    simp only [h1, if_false, h2, if_true]
  · rename_i h0
    split at h
    · rename_i h1
      exact ⟨_, seqIndex_neg (by omega) h1, h⟩
    · cases h
theorem I_tup {a : Addr} {vs : List Value} {k : Int} {v : Value} {Q : Value → HM → Prop} (hv : H a = some (.tup vs)) (hk : at? vs k = some v) (hs : k.natAbs < 2 ^ 62) (h : Q v H) : ItemJ c (.ref a) (VI k) m H Q X := fun A B e1 e2 G s St' => by
  obtain rfl := er_ref e1; obtain ⟨u, rfl⟩ := er_int e2
  obtain ⟨ws, rfl, hg⟩ := St'.tup hv
  obtain ⟨j, hj, hx⟩ := seqIndex_at hk
  obtain ⟨V, hV, rfl⟩ := getElem?_er hx
  rw [List.length_map] at hj
  exact getItem_tuple (isTup_of hg) (by omega) (by omega) (by simpa using hj) (by simpa using hV) ⟨H, St', h⟩
theorem I_str {l : List Nat} {k : Int} {x : Nat} {Q : Value → HM → Prop} (hk : at? l k = some x) (hs : k.natAbs < 2 ^ 62) (h : Q (VT [x]) H) : ItemJ c (VT l) (VI k) m H Q X := fun A B e1 e2 G s St' => by
  obtain ⟨t, rfl⟩ := er_str e1; obtain ⟨u, rfl⟩ := er_int e2
  obtain ⟨j, hj, hx⟩ := seqIndex_at hk
  refine P.getItem_str (c := x) (by simp; omega) ?_ ⟨H, St'.toks _, h⟩
  rw [S_length, hj]
  simpa [S] using hx

/-- value[i], the value a name or not -/
theorem Ev.item {value slice pos} {Q : Value → HM → Prop} (h : Ev c value m H (fun o H1 => Ev c slice m H1 (fun i H2 =>
      (((∃ a vs, o = .ref a ∧ (H2 a = some (.list vs) ∨ H2 a = some (.tup vs))) ∨ ∃ l, o = VT l)) ∧ ItemJ c o i m H2 Q X) X) X)
    (hs : ∀ o i, subscripted slice false o i = operate [o, i] (getItem o i)) : Ev c (.Subscript value slice pos) m H Q X := fun G s St' =>
  Subscript_ (wpAny_mono (h G s St') (fun O s1 ⟨H1, S1, h1⟩ => wpAny_mono (h1 G s1 S1) (fun I s2 ⟨H2, S2, hk, h2⟩ => by
    have hg := h2 O I rfl rfl G s2 S2
    rcases hk with ⟨a, vs, e, hv | hv⟩ | ⟨l, e⟩
    · obtain rfl := er_ref e
      obtain ⟨ws, n, _, ho⟩ := S2.list hv
      exact tail_any (T := "list") ⟨_, ho, rfl⟩ slot_list_getitem.lookup hg (hs _ _)
    · obtain rfl := er_ref e
      obtain ⟨ws, _, ho⟩ := S2.tup hv
      exact tail_any (T := "tuple") ho.typeIs slot_tuple_getitem.lookup hg (hs _ _)
    · obtain ⟨t, rfl⟩ := er_str e
      exact tail_any (typeIs_str _ _ _) PySem.F.slot_str_getitem.lookup hg (hs _ _)) fun _ _ e => e) fun _ _ e => e)

/-! ## slices -/
/-- l[a:b], bounds not below nought -/
def cut {α : Type} (l : List α) (a b : Option Nat) : List α := ((match b with | some b => l.take b | none => l)).drop (a.getD 0)
theorem cut_le {α : Type} (l : List α) (a b : Option Nat) : (cut l a b).length ≤ l.length := by
  unfold cut; cases b <;> simp <;> omega

theorem strSlice_idx (a b : Option Nat) (n : Nat) : Builtin.Str.strSliceIndices (a.map fun (x : Nat) => (x : Int)) (b.map fun (x : Nat) => (x : Int)) 1 n =
    (List.range (min (b.getD n) n - min (a.getD 0) n)).map (min (a.getD 0) n + ·) := by
  rw [← sliceRange_one]
  unfold Builtin.Str.strSliceIndices
  cases a <;> cases b <;> simp <;> congr 1 <;> omega
theorem pick_cut {α : Type} (xs : Array α) (a b : Option Nat) : ((List.range (min (b.getD xs.size) xs.size - min (a.getD 0) xs.size)).map (min (a.getD 0) xs.size + ·)).filterMap (xs[·]?) = cut xs.toList a b := by
  rw [pick_run]
  unfold cut
  obtain ⟨l⟩ := xs
  simp only [List.size_toArray]
  cases b with
  | none =>
    simp only [Option.getD_none, Nat.min_self]
    by_cases h : a.getD 0 ≤ l.length
    · rw [Nat.min_eq_left h, List.take_of_length_le (by simp)]
    · rw [Nat.min_eq_right (by omega), List.drop_of_length_le (Nat.le_refl _), List.drop_of_length_le (by omega)]; simp
  | some b =>
    simp only [Option.getD_some]
    rw [List.drop_take]
    by_cases h : a.getD 0 ≤ l.length
    · rw [Nat.min_eq_left h]
      by_cases hb : b ≤ l.length
      · rw [Nat.min_eq_left hb]
      · rw [Nat.min_eq_right (by omega), List.take_of_length_le (by simp), List.take_of_length_le (by simp; omega)]
    · rw [Nat.min_eq_right (a := a.getD 0) (by omega), List.drop_of_length_le (Nat.le_refl _), List.drop_of_length_le (by omega)]; simp
theorem slicePick_cut (items : Array Value) (a b : Option Nat) : slicePick items (a.map fun (x : Nat) => (x : Int)) (b.map fun (x : Nat) => (x : Int)) none = (cut items.toList a b).toArray := by
  rw [← pick_cut]
  unfold slicePick
  congr 1
  rw [← strSlice_idx]
  rfl
theorem cut_map {α β : Type} (f : α → β) (l : List α) (a b : Option Nat) : (cut l a b).map f = cut (l.map f) a b := by
  unfold cut; cases b <;> simp [List.map_drop, List.map_take]

/-- a slice's bound: left out, or an int not below nought -/
inductive Bnd : Value → Option Nat → Prop
  | non : Bnd .none none
  | int (k : Nat) : Bnd (VI k) (some k)
def EvP (c : FC) (e : Option Expr) (m : LM) (H : HM) (Q : Value → HM → Prop) (X : XM) : Prop := Ew c (evalPart e c.env) m H Q X
theorem EvP.non {Q : Value → HM → Prop} (h : Q .none H) : EvP c none m H Q X := fun G s St' => wpAny_pure ⟨H, St', h⟩
theorem EvP.some {e : Expr} {Q : Value → HM → Prop} (h : Ev c e m H Q X) : EvP c (some e) m H Q X := h

theorem Bnd.part {V : Value} {k : Option Nat} (h : Bnd (er V) k) : IsPart V (k.map fun (x : Nat) => (x : Int)) ∧ ∃ p : Option (Int × Tok), V = partValue p ∧ p.map (·.1) = k.map fun (x : Nat) => (x : Int) := by
  generalize e : er V = v at h
  cases h with
  | non => obtain rfl := er_none e; exact ⟨.none, none, rfl, rfl⟩
  | int k => obtain ⟨t, rfl⟩ := er_int e; exact ⟨.int _ _, some (_, t), rfl, rfl⟩

theorem eval_Slice3 (lower upper : Option Expr) (p : Pos) (env : Env) : eval (.Slice lower upper none p) env = (do
    let l ← evalPart lower env
    let u ← holding [l] (evalPart upper env)
    let s ← holding [l, u] (pure .none)
    newFields "slice" [l, u, s]) := rfl

/-- the slice object, and what is asked of it -/
theorem Ev.slice {value lower upper p pos} {Q : Value → HM → Prop} (h : Ev c value m H (fun o H1 => EvP c lower m H1 (fun l H2 => EvP c upper m H2 (fun u H3 =>
      ∃ a b, Bnd l a ∧ Bnd u b ∧ ((∃ r vs, o = .ref r ∧ H3 r = some (.list vs) ∧ vs.length ≤ 16000000 ∧ ∀ q, H3 q = none → Q (.ref q) (H3.set q (.list (cut vs a b)))) ∨
        (∃ t, o = VT t ∧ t.length ≤ 16000000 ∧ Q (VT (cut t a b)) H3))) X) X) X) : Ev c (.Subscript value (.Slice lower upper none p) pos) m H Q X := fun G s St' => by
  refine Subscript_ (wpAny_mono (h G s St') (fun O s1 ⟨H1, S1, h1⟩ => ?_) fun _ _ e => e)
  rw [eval_Slice3]
  refine wpAny_bind (wpAny_mono (h1 G s1 S1) (fun L s2 ⟨H2, S2, h2⟩ => wpAny_bind (wpAny_holding (wpAny_mono (h2 G s2 S2) (fun U s3 ⟨H3, S3, a, b, ba, bb, h3⟩ => wpAny_bind (wpAny_holding (wpAny_pure ?_))) fun _ _ e => e))) fun _ _ e => e)
  obtain ⟨pa, qa, rfl, ea⟩ := ba.part
  obtain ⟨pb, qb, rfl, eb⟩ := bb.part
  refine wpAny_newObj_type ?_ (by size_fits)
  have S4 := S3.keeps' (h' := s3.heap.push { cls := .type "slice", data := .fields #[partValue qa, partValue qb, .none] }) fun b o e => Heap.get?_push_of_some _ e
  rcases h3 with ⟨r, vs, e, hv, hl, hq⟩ | ⟨t, e, hl, hq⟩
  · obtain rfl := er_ref e
    obtain ⟨ws, n, rfl, hg⟩ := S3.list hv
    have hg' := Heap.get?_push_of_some { cls := .type "slice", data := .fields #[partValue qa, partValue qb, .none] } hg
    refine tail_any (T := "list") ⟨_, hg', rfl⟩ slot_list_getitem.lookup (wpAny_getItem_list_slice (isList_of hg') (Heap.IsSliceOf.new ..) pa pb .none (by simp) ?_ (by rw [List.length_map] at hl; rw [List.size_toArray]; exact sizeLine_ge hl)) rfl
    rw [slicePick_cut]
    exact ⟨_, S4.push (ao := .list ((cut ws a b).map er)) ⟨_, 0, rfl, rfl⟩ rfl, by rw [cut_map]; exact hq _ S4.fresh.1⟩
  · obtain ⟨tk, rfl⟩ := er_str e
    refine tail_any (typeIs_str _ _ _) PySem.F.slot_str_getitem.lookup (wpAny_getItem_str_slice (l := qa) (u := qb) (st := none) ⟨_, Heap.get?_push_size _ rfl, rfl, rfl⟩ rfl ?_) rfl
    have hp : slicePicked (S t) qa qb none = (List.range (min (b.getD t.length) t.length - min (a.getD 0) t.length)).map (min (a.getD 0) t.length + ·) := by
      unfold slicePicked
      rw [ea, eb, S_length]
      exact strSlice_idx a b t.length
    have hc : (slicePicked (S t) qa qb none).filterMap ((S t).cps[·]?) = cut t a b := by
      rw [hp]
      have := pick_cut t.toArray a b
      simp only [List.size_toArray] at this
      exact this
    unfold sliceMade
    split
    · rename_i q
      have hlen : (slicePicked (S t) qa qb none).length = t.length := by simpa [S_length] using q
      refine ⟨H3, S4, ?_⟩
      have : cut t a b = t := by
        rw [hp] at hlen
        simp only [List.length_map, List.length_range] at hlen
        unfold cut
        by_cases h0 : t.length = 0
        · have : t = [] := List.length_eq_zero_iff.mp h0
          subst this; cases b <;> simp
        · cases b with
          | none => simp only [Option.getD_none] at hlen; rw [show a.getD 0 = 0 from by omega]; rfl
          | some b => simp only [Option.getD_some] at hlen; rw [show a.getD 0 = 0 from by omega]; simp only [List.drop_zero]; exact List.take_of_length_le (by omega)
      rw [this] at hq; exact hq
    · refine ⟨?_, H3, S4.toks _, ?_⟩
      · rw [hc]; exact S_fits (Nat.le_trans (cut_le _ _ _) hl)
      · rw [hc]; exact hq
end
end Mine
end

section
open PySem PySem.W PySem.Calls PyProof.Rows
set_option linter.all false
set_option maxRecDepth 100000
namespace Mine

section
variable {c : FC} {K : Frag} {n : Nat} {m : LM} {H : HM} {X : XM}

/-! ## targets -/
abbrev Tgt (c : FC) (t : Expr) := SetJ c (assign t c.env)
def InOrd (c : FC) (ts : List (Value → Sem Unit)) (vs : List Value) (m : LM) (H : HM) (Q : LM → HM → Prop) (X : XM) : Prop :=
  ∀ Vs : List Value, Vs.map er = vs → Nw c (assignInOrder ts Vs) m H Q X
theorem InOrd.nil {Q : LM → HM → Prop} (h : Q m H) : InOrd c [] [] m H Q X := fun Vs e G s St' => by
  obtain rfl := ers_nil e; exact wpAny_assignInOrder_none ⟨m, H, St', h⟩
theorem InOrd.cons {t : Value → Sem Unit} {ts : List (Value → Sem Unit)} {v : Value} {vs : List Value} {Q : LM → HM → Prop} (h : SetJ c t v m H (fun m1 H1 => InOrd c ts vs m1 H1 Q X) X) : InOrd c (t :: ts) (v :: vs) m H Q X := fun Vs e G s St' => by
  obtain ⟨V, Vr, rfl, e1, e2⟩ := ers_cons e
  exact wpAny_assignInOrder_more (wpAny_mono (h V e1 G s St') (fun _ s1 ⟨m1, H1, S1, h1⟩ => h1 Vr e2 G s1 S1) fun _ _ e => e)

theorem Tgt.name {x p v} {Q : LM → HM → Prop} (h : StoreJ c x v m H Q X) : Tgt c (.Name x p) v m H Q X := fun V e G s St' =>
  wpAny_assign_Name (h V e G s St')


theorem Tgt.tuple {elts k p a vs} {Q : LM → HM → Prop} (hh : c.A.handled = none) (hv : H a = some (.tup vs)) (hn : (assignEach elts c.env).length = vs.length) (hst : (assignEach elts c.env).findIdx? (·.1) = none)
    (h : InOrd c ((assignEach elts c.env).map (·.2)) vs m H Q X) : Tgt c (.Tuple elts k p) (.ref a) m H Q X := fun V e G s St' => by
  obtain rfl := er_ref e
  obtain ⟨ws, rfl, hg⟩ := St'.tup hv
  rw [List.length_map] at hn
  exact wpAny_assign_Tuple hh hg (by simpa using hn) hst fun h' he => h ws rfl G _ (St'.keeps' fun b o e => he b o (Nat.ne_of_lt (Heap.lt_size e)) e)

/-- l[k] = v -/
theorem set_er {ws : List Value} {k : Nat} {V : Value} : (ws.set k V).map er = (ws.map er).set k (er V) := by rw [List.map_set]
def setAt {α : Type} (vs : List α) (k : Int) (v : α) : List α := vs.set (if 0 ≤ k then k.toNat else (k + vs.length).toNat) v
theorem SetItem_list {a : Addr} {vs : List Value} {k : Int} {v : Value} {A B V : Value} {Q : LM → HM → Prop} (hv : H a = some (.list vs)) (h0 : -(vs.length : Int) ≤ k) (h1 : k < vs.length) (hs : k.natAbs < 2 ^ 62)
    (e1 : er A = .ref a) (e2 : er B = VI k) (e3 : er V = v) (h : Q m (H.set a (.list (setAt vs k v)))) : Nw c (setItem A B V) m H Q X := fun G s St' => by
  obtain rfl := er_ref e1; obtain ⟨u, rfl⟩ := er_int e2
  obtain ⟨ws, n, rfl, hg⟩ := St'.list hv
  rw [List.length_map] at h0 h1
  unfold setAt at h
  rw [List.length_map] at h
  split at h
  · rename_i q
    refine ki_setAt (n := n) hg q (by omega) (by simpa using h1) ⟨m, _, St'.turn (ws' := ws.set k.toNat V) (t := s.toks) hv hg (fun xs => xs.setIfInBounds k.toNat V) (by simp), ?_⟩
    rw [set_er, e3]; exact h
  · rename_i q
    refine ki_setBack (n := n) hg (by omega) (by simpa using h0) (by omega) ⟨m, _, St'.turn (ws' := ws.set (k + ws.length).toNat V) (t := s.toks) hv hg (fun xs => xs.setIfInBounds (k + ws.toArray.size).toNat V) (by simp), ?_⟩
    rw [set_er, e3]; exact h

theorem Tgt.sub {o i p v} {Q : LM → HM → Prop} (h : Ev c o m H (fun ov H1 => Ev c i m H1 (fun iv H2 => ∃ a vs k, ov = .ref a ∧ iv = VI k ∧ H2 a = some (.list vs) ∧ -(vs.length : Int) ≤ k ∧ k < vs.length ∧ k.natAbs < 2 ^ 62 ∧ Q m (H2.set a (.list (setAt vs k v)))) X) X) :
    Tgt c (.Subscript o i p) v m H Q X := fun V e G s St' =>
  kas_sub (wpAny_mono (h G s St') (fun O s1 ⟨H1, S1, h1⟩ => wpAny_mono (h1 G s1 S1) (fun I s2 ⟨H2, S2, a, vs, k, e1, e2, hv, h0, h1, hs, hq⟩ =>
    SetItem_list hv h0 h1 hs e1 e2 e hq G s2 S2) fun _ _ e => e) fun _ _ e => e)

/-! ## assignment -/
theorem Ex.asg {t e p} {Q : Flow → LM → HM → Prop} (h : Ev c e m H (fun v H1 => Tgt c t v m H1 (fun m2 H2 => Q .next m2 H2) X) X)
    (hs : swapsWithSole [t] e p.line c.env = pure false) (hw : swappedStores [t] e c.env = pure none) (he : (assignEach [t] c.env).map (·.2) = [assign t c.env]) : Ex c (.Assign [t] e p) m H Q X :=
  fun G s St' => wpAny_Assign_stores (wpAny_mono (h G s St') (fun V s1 ⟨H1, S1, h1⟩ => by rw [he]; exact wpAny_mono (h1 V rfl G s1 S1) (fun _ s2 ⟨m2, H2, S2, h2⟩ => ⟨m2, H2, S2, h2⟩) fun _ _ e => e) fun _ _ e => e) hs hw

theorem Ex.swap {elts k tpos e p} {names : List Str} {Q : Flow → LM → HM → Prop} (hh : c.A.handled = none)
    (h : Ev c e m H (fun v H1 => ∃ a vs, v = .ref a ∧ H1 a = some (.tup vs) ∧ names.length = vs.length ∧ InOrd c (names.reverse.map fun x => bindName c.env x) vs.reverse m H1 (fun m2 H2 => Q .next m2 H2) X) X)
    (hs : swapsWithSole [.Tuple elts k tpos] e p.line c.env = pure false) (hw : swappedStores [.Tuple elts k tpos] e c.env = pure (some names)) : Ex c (.Assign [.Tuple elts k tpos] e p) m H Q X :=
  fun G s St' => Assign_Tuple_swapped (wpAny_mono (h G s St') (fun V s1 ⟨H1, S1, a, vs, ev, hv, hl, h1⟩ => by
    obtain rfl := er_ref ev
    obtain ⟨ws, rfl, hg⟩ := S1.tup hv
    rw [List.length_map] at hl
    rw [hl, show ws.length = ws.toArray.size from by simp]
    refine wpAny_unpackItems_tuple hh hg fun h' he => ?_
    exact wpAny_mono (h1 ws.reverse (by rw [List.map_reverse]) G _ (S1.keeps' fun b o e => he b o (Nat.ne_of_lt (Heap.lt_size e)) e)) (fun _ s2 ⟨m2, H2, S2, h2⟩ => ⟨m2, H2, S2, h2⟩) fun _ _ e => e) fun _ _ e => e) hs hw
theorem BindJ {x v} {Q : LM → HM → Prop} (h : StoreJ c x v m H Q X) : SetJ c (bindName c.env x) v m H Q X := fun V e G s St' =>
  wpAny_bindName (h V e G s St')

/-! ## augmented -/
def LoadJ (c : FC) (x : Str) := Ew c (loadName c.env x)
theorem LoadJ.loc {x v} {Q : Value → HM → Prop} (hk : c.env.scope.kind = .function) (hl : c.env.kindOf x = some .local) (hv : m.lookup x = some v) (h : Q v H) : LoadJ c x m H Q X := fun F s S => by
  obtain ⟨mr, n1, n2⟩ := S.ns
  obtain ⟨V, v1, v2⟩ := n2 x v hv
  exact wpAny_loadName_local hk hl n1 v1 ⟨H, S, v2 ▸ h⟩
theorem Ex.augN {x p' op e p} {Q : Flow → LM → HM → Prop} (h : LoadJ c x m H (fun old H1 => Ev c e m H1 (fun v H2 => Op2 c (inplaceOp op) old v m H2 (fun r H3 => StoreJ c x r m H3 (fun m4 H4 => Q .next m4 H4) X) X) X) X) :
    Ex c (.AugAssign (.Name x p') op e p) m H Q X := fun G s St' =>
  wpAny_AugAssign_Name (wpAny_mono (h G s St') (fun O s1 ⟨H1, S1, h1⟩ => wpAny_mono (h1 G s1 S1) (fun V s2 ⟨H2, S2, h2⟩ => wpAny_mono (h2 O V rfl rfl G s2 S2) (fun R s3 ⟨H3, S3, h3⟩ =>
    wpAny_mono (h3 R rfl G s3 S3) (fun _ s4 ⟨m4, H4, S4, h4⟩ => ⟨m4, H4, S4, h4⟩) fun _ _ e => e) fun _ _ e => e) fun _ _ e => e) fun _ _ e => e)
theorem Ex.augS {o i value tpos op p} {Q : Flow → LM → HM → Prop} (h : Ev c o m H (fun ov H1 => Ev c i m H1 (fun iv H2 => ItemJ c ov iv m H2 (fun old H3 => Ev c value m H3 (fun v H4 => Op2 c (inplaceOp op) old v m H4 (fun r H5 =>
      ∃ a vs k, ov = .ref a ∧ iv = VI k ∧ H5 a = some (.list vs) ∧ -(vs.length : Int) ≤ k ∧ k < vs.length ∧ k.natAbs < 2 ^ 62 ∧ Q .next m (H5.set a (.list (setAt vs k r)))) X) X) X) X) X)
    (hi : ∀ ov iv new, augStore i ov iv new = (do holding [new, ov, iv] (setItem ov iv new); release [new, ov, iv] []; pure .next)) : Ex c (.AugAssign (.Subscript o i tpos) op value p) m H Q X := fun G s St' =>
  wpAny_AugAssign_SubscriptAny (wpAny_mono (h G s St') (fun O s1 ⟨H1, S1, h1⟩ => wpAny_mono (h1 G s1 S1) (fun I s2 ⟨H2, S2, h2⟩ => wpAny_mono (h2 O I rfl rfl G s2 S2) (fun Old s3 ⟨H3, S3, h3⟩ =>
    wpAny_mono (h3 G s3 S3) (fun V s4 ⟨H4, S4, h4⟩ => wpAny_mono (h4 Old V rfl rfl G s4 S4) (fun R s5 ⟨H5, S5, a, vs, k, e1, e2, hv, q0, q1, q2, hq⟩ =>
      wpAny_mono (SetItem_list (Q := fun m' H' => Q .next m' H') hv q0 q1 q2 e1 e2 rfl hq G s5 S5) (fun _ s4 ⟨m4, H4, S4, h4⟩ => ⟨m4, H4, S4, h4⟩) fun _ _ e => e) fun _ _ e => e) fun _ _ e => e) fun _ _ e => e) fun _ _ e => e) fun _ _ e => e) hi

/-! ## other statements -/
theorem Ex.expr {e p} {Q : Flow → LM → HM → Prop} (h : Ev c e m H (fun _ H1 => Q .next m H1) X) (hi : interactive c.env = false) (hs : swapsWith e none p.line c.env = pure false) : Ex c (.Expr e p) m H Q X := fun G s St' =>
  wpAny_Expr_any (wpAny_mono (h G s St') (fun _ s1 ⟨H1, S1, h1⟩ => ⟨m, H1, S1, h1⟩) fun _ _ e => e) hi hs
theorem Ex.pass {p} {Q : Flow → LM → HM → Prop} (h : Q .next m H) : Ex c (.Pass p) m H Q X := fun G s St' => wpAny_Pass ⟨m, H, St', h⟩

/-- del l[k] -/
def delAt {α : Type} (vs : List α) (k : Int) : List α := vs.eraseIdx (if 0 ≤ k then k.toNat else (k + vs.length).toNat)
theorem eraseIdx_map' {α β : Type} (f : α → β) : ∀ (l : List α) (j : Nat), (l.eraseIdx j).map f = (l.map f).eraseIdx j
  | [], _ => by simp
  | a :: l, 0 => by simp
  | a :: l, j + 1 => by simp [eraseIdx_map' f l j]
theorem Ex.delItem {o i dp p} {Q : Flow → LM → HM → Prop} (h : Ev c o m H (fun ov H1 => Ev c i m H1 (fun iv H2 => ∃ a vs k, ov = .ref a ∧ iv = VI k ∧ H2 a = some (.list vs) ∧ -(vs.length : Int) ≤ k ∧ k < vs.length ∧ vs.length ≤ 16000000 ∧ Q .next m (H2.set a (.list (delAt vs k)))) X) X) :
    Ex c (.Delete [.Subscript o i dp] p) m H Q X := fun G s St' =>
  wpAny_Delete (wpAny_deleteEach_cons (wpAny_delete_Subscript (wpAny_mono (h G s St') (fun O s1 ⟨H1, S1, h1⟩ => wpAny_mono (h1 G s1 S1) (fun I s2 ⟨H2, S2, a, vs, k, e1, e2, hv, h0, h1, hs, hq⟩ => by
    obtain rfl := er_ref e1; obtain ⟨u, rfl⟩ := er_int e2
    obtain ⟨ws, n, rfl, hg⟩ := S2.list hv
    rw [List.length_map] at h0 h1 hs
    have hfit : Builtin.List.listFitsIndex k = true := by unfold Builtin.List.listFitsIndex; simp only [Bool.and_eq_true, decide_eq_true_eq]; omega
    unfold delAt at hq
    rw [List.length_map] at hq
    have fin : ∀ j : Nat, j < ws.length → (if 0 ≤ k then k.toNat else (k + ws.length).toNat) = j → Q .next m (H2.set a (.list ((ws.eraseIdx j).map er))) := fun j _ e => by
      rw [e] at hq; rw [eraseIdx_map']; exact hq
    by_cases q : 0 ≤ k
    · refine P.delItem_list (n := n) (k := k.toNat) hg hfit (by obtain ⟨j, hj, hx⟩ := seqIndex_at (vs := ws) (k := k) (v := ws[k.toNat]'(by omega)) (by unfold at?; rw [if_pos q]; exact List.getElem?_eq_getElem _)
                                                                unfold seqIndex?
                                                                have h1' : ¬ k < 0 := by omega
                                                                have h2' : (decide (0 ≤ k) && decide (k < (ws.toArray.size : Int))) = true := by simp only [Bool.and_eq_true, decide_eq_true_eq, List.size_toArray]; omega
                                                                simp only [h1', if_false, h2', if_true]) ?_ (by rw [List.size_toArray]; exact sizeLine_ge hs)
      refine wpAny_deleteEach_nil ⟨m, _, S2.turn (ws' := ws.eraseIdx k.toNat) (t := s2.toks) hv hg (fun xs => xs.eraseIdxIfInBounds k.toNat) ?_, fin k.toNat (by omega) (if_pos q)⟩
      unfold Array.eraseIdxIfInBounds
      rw [dif_pos (by rw [List.size_toArray]; omega)]; simp
    · refine P.delItem_list (n := n) (k := (k + ws.length).toNat) hg hfit (by have := PySem.seqIndex_neg (k := k) (n := ws.length) (by omega) h0; simpa using this) ?_ (by rw [List.size_toArray]; exact sizeLine_ge hs)
      refine wpAny_deleteEach_nil ⟨m, _, S2.turn (ws' := ws.eraseIdx (k + ws.length).toNat) (t := s2.toks) hv hg (fun xs => xs.eraseIdxIfInBounds (k + ws.length).toNat) ?_, fin _ (by omega) (if_neg q)⟩
      unfold Array.eraseIdxIfInBounds
      rw [dif_pos (by rw [List.size_toArray]; omega)]; simp) fun _ _ e => e) fun _ _ e => e)))
end
end Mine
end

section
open PySem PySem.W PySem.Calls PyProof.Rows
set_option linter.all false
set_option maxRecDepth 100000
namespace Mine

/-! ## into another frame and back -/
def FC.call (c : FC) (fd : FuncData) (L f : Addr) : FC := { c with A := c.A.deeper (callEnvC fd L f), env := callEnvC fd L f }

def bindLM (kind : Str → Option NameKind) : List (Str × Value) → LM → LM
  | [], m => m
  | (x, v) :: r, m => bindLM kind r (if kind x = some .local then (x, v) :: m else m)
def bindCM (kind : Str → Option NameKind) : List (Str × Value) → (Str → Option Value) → Str → Option Value
  | [], m => m
  | (x, v) :: r, m => bindCM kind r (if kind x = some .local then m else fun y => if y = x then some v else m y)
def cellsH (H : HM) (cs : List (Str × Addr)) (cm : Str → Option Value) : HM := cs.foldr (fun p H => H.set p.2 (.cell (cm p.1))) H

theorem MRel.cons {m : LM} {mr : Str → Option Value} (h : MRel m mr) (x : Str) (V : Value) : MRel ((x, er V) :: m) (fun y => if y = x then some V else mr y) := by
  intro y u hy
  rw [List.lookup_cons] at hy
  by_cases hyx : y = x
  · subst hyx; simp only [beq_self_eq_true] at hy; cases hy; exact ⟨V, by simp, rfl⟩
  · rw [beq_eq_false_iff_ne.mpr hyx] at hy
    obtain ⟨W, w1, w2⟩ := h y u hy
    exact ⟨W, by simp [hyx, w1], w2⟩
theorem bind_rel (kind : Str → Option NameKind) : ∀ (binds : List (Str × Value)) (m : LM) (mr : Str → Option Value), MRel m mr → MRel (bindLM kind (binds.map fun p => (p.1, er p.2)) m) (bindL kind binds mr)
  | [], _, _, h => h
  | (x, V) :: r, m, mr, h => by
    show MRel (bindLM kind (r.map _) (if kind x = some .local then (x, er V) :: m else m)) (bindL kind r (if kind x = some .local then _ else mr))
    refine bind_rel kind r _ _ ?_
    split
    · exact h.cons x V
    · exact h
theorem bind_cells (kind : Str → Option NameKind) : ∀ (binds : List (Str × Value)) (m mr : Str → Option Value), (∀ y, m y = (mr y).map er) → ∀ y, bindCM kind (binds.map fun p => (p.1, er p.2)) m y = (bindC kind binds mr y).map er
  | [], _, _, h => h
  | (x, V) :: r, m, mr, h => by
    show ∀ y, bindCM kind (r.map _) (if kind x = some .local then m else fun y => if y = x then some (er V) else m y) y = (bindC kind r (if kind x = some .local then mr else _) y).map er
    refine bind_cells kind r _ _ ?_
    intro y
    split
    · exact h y
    · show (if y = x then some (er V) else m y) = (if y = x then some V else mr y).map er
      split
      · rfl
      · exact h y

theorem cells_have : ∀ (names : List (Str × NameKind)) (n : Nat) (acc : List (Str × Addr)) (x : Str), (names.lookup x = some .cell ∨ (acc.lookup x).isSome = true) → ((cellsFrom n names acc).lookup x).isSome = true
  | [], _, _, _, h => by
    rcases h with h | h
    · cases h
    · exact h
  | (y, k) :: r, n, acc, x, h => by
    unfold cellsFrom
    split
    · rename_i hk
      refine cells_have r _ _ x ?_
      by_cases hx : x = y
      · subst hx; right; simp [List.lookup_cons]
      · have e : (x == y) = false := beq_eq_false_iff_ne.mpr hx
        rcases h with h | h
        · left; rw [List.lookup_cons, e] at h; exact h
        · right; rw [List.lookup_cons, e]; exact h
    · rename_i hk
      refine cells_have r _ _ x ?_
      by_cases hx : x = y
      · subst hx
        rcases h with h | h
        · rw [List.lookup_cons] at h
          simp only [beq_self_eq_true] at h
          cases h; exact absurd rfl hk
        · exact .inr h
      · have e : (x == y) = false := beq_eq_false_iff_ne.mpr hx
        rcases h with h | h
        · left; rw [List.lookup_cons, e] at h; exact h
        · exact .inr h

theorem cellsH_none {H : HM} : ∀ {cs : List (Str × Addr)} {cm : Str → Option Value} {a : Addr}, (∀ p ∈ cs, p.2 ≠ a) → cellsH H cs cm a = H a
  | [], _, _, _ => rfl
  | p :: r, cm, a, h => by
    show (cellsH H r cm).set p.2 _ a = _
    rw [HM.set_ne _ _ (Ne.symm (h p List.mem_cons_self))]
    exact cellsH_none fun q hq => h q (List.mem_cons_of_mem _ hq)
theorem cellsH_some {H : HM} : ∀ {cs : List (Str × Addr)} {cm : Str → Option Value} {a : Addr} {ao : AO}, cellsH H cs cm a = some ao → (∃ p ∈ cs, p.2 = a ∧ ao = .cell (cm p.1)) ∨ ((∀ p ∈ cs, p.2 ≠ a) ∧ H a = some ao)
  | [], _, _, _, h => .inr ⟨fun _ hp => (nomatch hp), h⟩
  | p :: r, cm, a, ao, h => by
    have h : (cellsH H r cm).set p.2 (.cell (cm p.1)) a = some ao := h
    by_cases hp : a = p.2
    · subst hp
      rw [HM.set_same] at h; cases h
      exact .inl ⟨p, List.mem_cons_self, rfl, rfl⟩
    · rw [HM.set_ne _ _ hp] at h
      rcases cellsH_some h with ⟨q, hq, e⟩ | ⟨h1, h2⟩
      · exact .inl ⟨q, List.mem_cons_of_mem _ hq, e⟩
      · refine .inr ⟨fun q hq => ?_, h2⟩
        rcases List.mem_cons.mp hq with rfl | hq
        · exact Ne.symm hp
        · exact h1 q hq

section
variable {c : FC} {K : Frag} {n : Nat} {m : LM} {H F : HM} {X : XM} {s : Shared}

theorem St.above (S : St c m H F s) {k : Addr} (hk : s.heap.objs.size ≤ k) : H k = none ∧ F k = none ∧ k ≠ c.env.locals ∧ c.s₀.heap.get? k = none := by
  have no : ∀ o, s.heap.get? k ≠ some o := fun o e => Nat.lt_irrefl _ (Nat.lt_of_lt_of_le (Heap.lt_size e) hk)
  refine ⟨?_, ?_, ?_, ?_⟩
  · cases e : H k with
    | none => rfl
    | some o => obtain ⟨_, _, o', e', _⟩ := S.hp _ _ e; exact absurd e' (no o')
  · cases e : F k with
    | none => rfl
    | some o => obtain ⟨_, _, o', e', _⟩ := S.fp _ _ e; exact absurd e' (no o')
  · intro e
    obtain ⟨mr, ⟨o, _, _, ho, _⟩, _⟩ := S.ns
    rw [← e] at ho; exact no o ho
  · cases e : c.s₀.heap.get? k with
    | none => rfl
    | some o => exact absurd (S.base _ _ e) (no o)
theorem St.frame (S : St c m H F s) : ∃ oL, s.heap.get? c.env.locals = some oL := let ⟨_, ⟨o, _, _, ho, _⟩, _⟩ := S.ns; ⟨o, ho⟩
theorem St.lsz (S : St c m H F s) : c.s₀.heap.objs.size ≤ s.heap.objs.size := let ⟨_, ho⟩ := S.frame; Nat.le_trans S.lb (Nat.le_of_lt (Heap.lt_size ho))
theorem St.l0 (S : St c m H F s) : c.s₀.heap.get? c.env.locals = none := by
  cases e : c.s₀.heap.get? c.env.locals with
  | none => rfl
  | some o => exact absurd (Heap.lt_size e) (Nat.not_lt.mpr S.lb)
theorem St.hl (S : St c m H F s) : H c.env.locals = none := by
  cases e : H c.env.locals with
  | none => rfl
  | some o => exact absurd rfl (S.hp _ _ e).1
theorem St.fl (S : St c m H F s) : F c.env.locals = none := by
  cases e : F c.env.locals with
  | none => rfl
  | some o => exact absurd rfl (S.fp _ _ e).1

theorem St.other (S : St c m H F s) {c' : FC} (hc : c'.s₀ = c.s₀) {oL : Obj} (hL : s.heap.get? c.env.locals = some oL) {m' : LM} {mr' : Str → Option Value} {h' : Heap} {t : Nat} {H' : HM} (k : ∀ b o, s.heap.get? b = some o → h'.get? b = some o)
    (hl : s.heap.objs.size ≤ c'.env.locals) (hn : h'.Ns c'.env.locals mr') (hm : MRel m' mr')
    (hH : ∀ a ao, H' a = some ao → (H a = some ao) ∨ (s.heap.objs.size ≤ a ∧ a ≠ c'.env.locals ∧ ∃ o, h'.get? a = some o ∧ ao.Is o)) :
    St c' m' H' (F.set c.env.locals (.raw oL)) { s with heap := h', toks := t } := by
  obtain ⟨h, t', rfl⟩ := S.same
  refine ⟨⟨_, _, by rw [hc]⟩, fun b o e => k _ _ (S.base b o (hc ▸ e)), ⟨mr', hn, hm⟩, by rw [hc]; exact Nat.le_trans S.lsz hl, fun a => ?_, fun a ao e => ?_, fun a ao e => ?_⟩
  · cases e : H' a with
    | none => exact .inl rfl
    | some ao =>
      right
      rcases hH a ao e with e1 | ⟨e1, e2, _⟩
      · rw [HM.set_ne _ _ (by rintro rfl; rw [S.hl] at e1; cases e1)]
        rcases S.dj a with q | q
        · rw [q] at e1; cases e1
        · exact q
      · obtain ⟨_, q2, q3, _⟩ := S.above e1
        rw [HM.set_ne _ _ q3]; exact q2
  · rcases hH a ao e with e1 | ⟨e1, e2, o, e3, e4⟩
    · obtain ⟨h1, h2, o, h3, h4⟩ := S.hp a ao e1
      exact ⟨by rintro rfl; exact absurd (Heap.lt_size h3) (Nat.not_lt.mpr hl), hc ▸ h2, o, k _ _ h3, h4⟩
    · exact ⟨e2, by rw [hc]; exact (S.above e1).2.2.2, o, e3, e4⟩
  · by_cases ha : a = c.env.locals
    · subst ha; rw [HM.set_same] at e; cases e
      exact ⟨by intro q; rw [q] at hL; exact absurd (Heap.lt_size hL) (Nat.not_lt.mpr hl), by rw [hc]; exact S.l0, oL, k _ _ hL, rfl⟩
    · rw [HM.set_ne _ _ ha] at e
      obtain ⟨h1, h2, o, h3, h4⟩ := S.fp a ao e
      exact ⟨by rintro rfl; exact absurd (Heap.lt_size h3) (Nat.not_lt.mpr hl), hc ▸ h2, o, k _ _ h3, h4⟩

theorem St.home (S : St c m H F s) {c' : FC} (hc : c'.s₀ = c.s₀) {oL : Obj} (hL : s.heap.get? c.env.locals = some oL) {m' : LM} {H' : HM} {s' : Shared} (S' : St c' m' H' (F.set c.env.locals (.raw oL)) s') : St c m H' F s' := by
  obtain ⟨mr, n1, n2⟩ := S.ns
  have hf : s'.heap.get? c.env.locals = some oL := by
    obtain ⟨_, _, o, ho, e⟩ := S'.fp c.env.locals (.raw oL) (HM.set_same ..)
    have e : o = oL := e
    rw [← e]; exact ho
  have hHL : H' c.env.locals = none := by
    rcases S'.dj c.env.locals with q | q
    · exact q
    · rw [HM.set_same] at q; cases q
  refine ⟨hc ▸ S'.same, hc ▸ S'.base, ⟨mr, n1.at' fun o e => ?_, n2⟩, S.lb, fun a => ?_, fun a ao e => ?_, fun a ao e => ?_⟩
  · rw [hL] at e; cases e; exact hf
  · rcases S'.dj a with q | q
    · exact .inl q
    · by_cases ha : a = c.env.locals
      · subst ha; exact .inl hHL
      · rw [HM.set_ne _ _ ha] at q; exact .inr q
  · obtain ⟨h1, h2, o, h3, h4⟩ := S'.hp a ao e
    exact ⟨(fun q => by rw [q, hHL] at e; cases e), hc ▸ h2, o, h3, h4⟩
  · have ha : a ≠ c.env.locals := (S.fp a ao e).1
    obtain ⟨h1, h2, o, h3, h4⟩ := S'.fp a ao (by rw [HM.set_ne _ _ ha]; exact e)
    exact ⟨ha, hc ▸ h2, o, h3, h4⟩

/-! ## functions of the top -/
structure Fn (K : Frag) (f : Addr) (fd : FuncData) (body : List Stmt) : Prop where
  look : ∃ oc od osl, K.lookup f = some ⟨oc, od, .func fd, osl⟩
  body : fd.body = .stmts body
  cd : codeIn K fd.code fd.qualname = true
  clo : fd.closure = []
  co : fd.scope.isCoroutine = false
  gen : fd.scope.isGenerator = false
  kind : fd.scope.kind = .function
  g : fd.globals = mainGlobals
  b : fd.builtins = builtinsNs
  nd : (fd.scope.names.filter fun p => p.2 == .cell).Pairwise fun x y => x.1 ≠ y.1

def FnBinds (K : Frag) (fd : FuncData) (as : List Value) (ks bs : List (Str × Value)) : Prop :=
  ∀ Vs Ks, Vs.map er = as → Ks.map (fun p => (p.1, er p.2)) = ks → ∃ binds, (∀ s : Shared, K.In s.heap → BindsTo s fd ⟨Vs, Ks⟩ binds) ∧ binds.map (fun p => (p.1, er p.2)) = bs

theorem Ok.call (O : Ok c K (n + 1)) {f : Addr} {fd : FuncData} {body : List Stmt} (W : Fn K f fd body) (L : Addr) : Ok (c.call fd L f) K n where
  X := O.X
  g := O.g
  b := O.b
  nl := O.nl
  kind := W.kind
  eg := W.g
  eb := W.b
  hh := O.hh
  dp := by have := O.dp; show c.A.depth + 1 + n < 900; omega
  un := by have := O.un; show c.A.units + 3 + 4 * n < 9000; omega

theorem cells_nd : ∀ (names : List (Str × NameKind)) (n : Nat) (acc : List (Str × Addr)), (names.filter fun p => p.2 == .cell).Pairwise (fun x y => x.1 ≠ y.1) → (∀ p ∈ names.filter (fun p => p.2 == .cell), ∀ q ∈ acc, q.1 ≠ p.1) → acc.Pairwise (fun x y => x.1 ≠ y.1) →
    (cellsFrom n names acc).Pairwise fun x y => x.1 ≠ y.1
  | [], _, _, _, _, h => h
  | (y, k) :: r, n, acc, h1, h2, h3 => by
    unfold cellsFrom
    split
    · rename_i hk
      rw [List.filter_cons, if_pos (by exact hk)] at h1 h2
      obtain ⟨p1, p2⟩ := List.pairwise_cons.mp h1
      refine cells_nd r _ _ p2 ?_ (List.pairwise_cons.mpr ⟨fun q hq => Ne.symm (h2 (y, k) List.mem_cons_self q hq), h3⟩)
      intro p hp q hq
      rcases List.mem_cons.mp hq with rfl | hq
      · exact p1 p hp
      · exact h2 p (List.mem_cons_of_mem _ hp) q hq
    · rename_i hk
      rw [List.filter_cons, if_neg (by exact hk)] at h1 h2
      exact cells_nd r _ _ h1 h2 h3
theorem lookup_of_nd {l : List (Str × Addr)} (h : l.Pairwise fun x y => x.1 ≠ y.1) {p : Str × Addr} (hp : p ∈ l) : l.lookup p.1 = some p.2 := by
  induction l with
  | nil => cases hp
  | cons q r ih =>
    obtain ⟨h1, h2⟩ := List.pairwise_cons.mp h
    rw [List.lookup_cons]
    rcases List.mem_cons.mp hp with rfl | hp
    · simp
    · rw [beq_eq_false_iff_ne.mpr (Ne.symm (h1 p hp))]; exact ih h2 hp

theorem CallJ.fn {f : Addr} {fd : FuncData} {body : List Stmt} {as : List Value} {ks bs : List (Str × Value)} {Q : Value → HM → Prop} (O : Ok c K (n + 1)) (W : Fn K f fd body) (hb : FnBinds K fd as ks bs)
    (hk : ∀ x ∈ bs, fd.scope.names.lookup x.1 = some .local ∨ fd.scope.names.lookup x.1 = some .cell)
    (h : ∀ L, (∀ k, L ≤ k → H k = none) → Ok (c.call fd L f) K n → Exs (c.call fd L f) body (bindLM (c.call fd L f).env.kindOf bs []) (cellsH H (cellsFrom (L + 1) fd.scope.names []) (bindCM (c.call fd L f).env.kindOf bs fun _ => none))
      (fun fl _ H' => ∃ H'', H''.le H' ∧ Q (match fl with | .ret v => v | _ => .none) H'') XF) : CallJ c (.ref f) as ks m H Q X := fun Fv Vs Ks e0 e1 e2 G s St' => by
  obtain rfl := er_ref e0
  obtain ⟨binds, hbt, rfl⟩ := hb Vs Ks e1 e2
  obtain ⟨oc, od, osl, hlook⟩ := W.look
  obtain ⟨oL, hL⟩ := St'.frame
  have XK := O.inK St'
  refine wpAny_call (codeAny_call_function (fd := fd) (by have := O.dp; show c.A.depth < 1000; omega) (XK _ _ hlook) rfl W.co W.gen W.body (codeRec_of XK W.cd) (hbt s XK _ _ _ _ ?_))
  rw [W.clo]
  refine wpAny_newFunctionEnv_cells W.kind (fun x hx => ?_) fun env he s' x => ?_
  · have := hk (x.1, er x.2) (List.mem_map.mpr ⟨x, hx, rfl⟩)
    exact this.imp id fun q => ⟨q, cells_have _ _ _ _ (.inl q)⟩
  · obtain ⟨h', t', es'⟩ := x.toInCall.same
    have kp := x.toInCall.keep
    have eenv : env = (c.call fd s.heap.objs.size f).env := he
    subst eenv
    refine ⟨by rw [es'] at kp ⊢; exact (O.nl.keeps St'.base).keeps kp, codeAny_func ?_⟩
    have S1 : St (c.call fd s.heap.objs.size f) (bindLM (c.call fd s.heap.objs.size f).env.kindOf (binds.map fun p => (p.1, er p.2)) [])
        (cellsH H (cellsFrom (s.heap.objs.size + 1) fd.scope.names []) (bindCM (c.call fd s.heap.objs.size f).env.kindOf (binds.map fun p => (p.1, er p.2)) fun _ => none)) (G.set c.env.locals (.raw oL)) s' := by
      have cx := x
      subst es'
      refine St'.other (c' := c.call fd s.heap.objs.size f) rfl hL kp (Nat.le_refl _) x.toInCall.ns (bind_rel _ _ _ _ fun y u hy => by cases hy) fun a ao e => ?_
      rcases cellsH_some e with ⟨p, hp, rfl, rfl⟩ | ⟨_, e⟩
      · right
        have hlk := lookup_of_nd (cells_nd fd.scope.names (s.heap.objs.size + 1) [] W.nd (fun _ _ _ hq => nomatch hq) List.Pairwise.nil) hp
        obtain ⟨o, ho, hd⟩ := x.cell p.1 p.2 hlk
        have hab := x.above p.1 p.2 hp
        refine ⟨Nat.le_of_lt hab, Nat.ne_of_gt hab, o, ho, _, hd, ?_⟩
        exact (bind_cells _ _ _ _ (fun _ => rfl) p.1).symm
      · exact .inl e
    refine wpAny_mono (h _ (fun k hk => (St'.above hk).1) (O.call W _) _ _ S1) (fun fl s'' ⟨m', H', S', H'', hle, hq⟩ => ?_) fun _ _ z => z.elim
    refine ⟨H'', (St'.home (c' := c.call fd s.heap.objs.size f) rfl hL S').weak hle, ?_⟩
    cases fl <;> exact hq
end
end Mine
end

section
open PySem PySem.W PySem.Calls PyProof.Rows
set_option linter.all false
set_option maxRecDepth 100000
namespace Mine

/-! ## objects set aside -/
def HM.del (H : HM) (a : Addr) : HM := fun b => if b = a then none else H b
theorem HM.del_same (H : HM) (a : Addr) : H.del a a = none := by simp [HM.del]
theorem HM.del_ne (H : HM) {a b : Addr} (h : b ≠ a) : H.del a b = H b := by simp [HM.del, h]
theorem HM.del_le (H : HM) (a : Addr) : (H.del a).le H := fun b o e => by
  unfold HM.del at e; split at e
  · cases e
  · exact e
theorem HM.del_set (H : HM) {a : Addr} {o : AO} (h : H a = some o) : (H.del a).set a o = H := by
  funext b; simp only [HM.set, HM.del]; split
  · rename_i e; rw [e, h]
  · rfl
theorem HM.set_del (H : HM) {a : Addr} (o : AO) (h : H a = none) : (H.set a o).del a = H := by
  funext b; simp only [HM.set, HM.del]; split
  · rename_i e; rw [e, h]
  · rfl
def HM.frz (F : HM) (wr : List Addr) (h : Heap) : HM := fun a => if a ∈ wr then (h.get? a).map .raw else F a

section
variable {c : FC} {K : Frag} {n : Nat} {m : LM} {H F : HM} {X : XM} {s : Shared}

theorem St.weakF (S : St c m H F s) {F' : HM} (h : F'.le F) : St c m H F' s :=
  ⟨S.same, S.base, S.ns, S.lb, fun a => (S.dj a).imp id (fun e => by
    cases q : F' a with
    | none => rfl
    | some o => rw [h a o q] at e; cases e), S.hp, fun a o e => S.fp a o (h a o e)⟩
theorem St.toF (S : St c m H F s) {a : Addr} {ao : AO} {o : Obj} (ha : H a = some ao) (ho : s.heap.get? a = some o) : St c m (H.del a) (F.set a (.raw o)) s := by
  obtain ⟨h1, h2, _⟩ := S.hp a ao ha
  refine ⟨S.same, S.base, S.ns, S.lb, fun b => ?_, fun b bo e => S.hp b bo (HM.del_le H a b bo e), fun b bo e => ?_⟩
  · by_cases hb : b = a
    · subst hb; exact .inl (HM.del_same ..)
    · rw [HM.del_ne _ hb, HM.set_ne _ _ hb]; exact S.dj b
  · by_cases hb : b = a
    · subst hb; rw [HM.set_same] at e; cases e; exact ⟨h1, h2, o, ho, rfl⟩
    · rw [HM.set_ne _ _ hb] at e; exact S.fp b bo e
theorem St.fromF (S : St c m H F s) {a : Addr} {ao : AO} {o : Obj} {F0 : HM} (h0 : F0.le F) (ha : F a = some (.raw o)) (hi : ao.Is o) (hn : F0 a = none) : St c m (H.set a ao) F0 s := by
  obtain ⟨h1, h2, o', ho, e⟩ := S.fp a _ ha
  have e : o' = o := e
  subst e
  have S' := S.weakF h0
  refine ⟨S'.same, S'.base, S'.ns, S'.lb, fun b => ?_, fun b bo e => ?_, S'.fp⟩
  · by_cases hb : b = a
    · subst hb; exact .inr hn
    · rw [HM.set_ne _ _ hb]; exact S'.dj b
  · by_cases hb : b = a
    · subst hb; rw [HM.set_same] at e; cases e; exact ⟨h1, h2, o', ho, hi⟩
    · rw [HM.set_ne _ _ hb] at e; exact S'.hp b bo e
theorem St.frz (S : St c m H F s) {wr : List Addr} (hw : ∀ b ∈ wr, H b = none ∧ b ≠ c.env.locals ∧ c.s₀.heap.get? b = none) : St c m H (F.frz wr s.heap) s := by
  refine ⟨S.same, S.base, S.ns, S.lb, fun b => ?_, S.hp, fun b bo e => ?_⟩
  · by_cases hb : b ∈ wr
    · exact .inl (hw b hb).1
    · simp only [HM.frz, if_neg hb]; exact S.dj b
  · by_cases hb : b ∈ wr
    · simp only [HM.frz, if_pos hb] at e
      obtain ⟨o, ho, rfl⟩ := Option.map_eq_some_iff.mp e
      exact ⟨(hw b hb).2.1, (hw b hb).2.2, o, ho, rfl⟩
    · simp only [HM.frz, if_neg hb] at e; exact S.fp b bo e
theorem HM.frz_le {F : HM} {wr : List Addr} {h : Heap} (hF : ∀ b ∈ wr, F b = none) : F.le (F.frz wr h) := fun a o e => by
  unfold HM.frz
  by_cases hb : a ∈ wr
  · rw [hF a hb] at e; cases e
  · rw [if_neg hb]; exact e
theorem St.keepsBut (S : St c m H F s) {wr : List Addr} (hw : ∀ b ∈ wr, H b = none ∧ F b = none ∧ b ≠ c.env.locals ∧ c.s₀.heap.get? b = none) {h' : Heap} {t : Nat} (k : ∀ b o, b ∉ wr → s.heap.get? b = some o → h'.get? b = some o) :
    St c m H F { s with heap := h', toks := t } := by
  obtain ⟨h, t', rfl⟩ := S.same
  obtain ⟨mr, n1, n2⟩ := S.ns
  have hL : c.env.locals ∉ wr := fun q => (hw _ q).2.2.1 rfl
  refine ⟨⟨_, _, rfl⟩, fun b o e => k b o (fun q => by rw [(hw b q).2.2.2] at e; cases e) (S.base b o e), ⟨mr, n1.at' fun o e => k _ o hL e, n2⟩, S.lb, S.dj, fun a ao e => ?_, fun a ao e => ?_⟩
  · obtain ⟨h1, h2, o, h3, h4⟩ := S.hp a ao e
    exact ⟨h1, h2, o, k a o (fun q => by rw [(hw a q).1] at e; cases e) h3, h4⟩
  · obtain ⟨h1, h2, o, h3, h4⟩ := S.fp a ao e
    exact ⟨h1, h2, o, k a o (fun q => by rw [(hw a q).2.1] at e; cases e) h3, h4⟩
end

/-! ## what a loop walks over -/
def Got (tup : Bool) (i : Nat) (x : Value) (h h' : Heap) (V : Value) : Prop :=
  match tup with
  | false => er V = x
  | true => ∃ T o, V = .ref T ∧ h.objs.size ≤ T ∧ h'.get? T = some o ∧ (AO.tup [VI i, x]).Is o
structure Walk (prog : Program) (w : World) (A : Around) (tgt : Expr) (I : Addr) (fp wr : List Addr) (xs : List Value) (tup : Bool) (T : Nat → Heap → Prop) : Prop where
  frame : ∀ i h h', T i h → (∀ b, b ∈ fp ∨ b ∈ wr → ∀ o, h.get? b = some o → h'.get? b = some o) → T i h'
  obj : ∀ i h, T i h → ∀ b ∈ wr, ∃ o, h.get? b = some o
  item : ∀ i x (s : Shared) (Q : Value → Shared → Prop) (E : Value → Shared → Prop), xs[i]? = some x → T i s.heap →
    (∀ V h' tk, (∀ b o, b ∉ wr → s.heap.get? b = some o → h'.get? b = some o) → T (i + 1) h' → Got tup i x s.heap h' V → Q V { s with heap := h', toks := tk }) →
    wpAny (model prog w) A (pyNext (.ref I)) (fun r s1 => ∃ V, r = some V ∧ wpAny (model prog w) A (letOwnedTupleGo tgt (.ref I) V) (fun _ s2 => Q V s2) E s1) E s
  done : ∀ (s : Shared) (Q : Shared → Prop) (E : Value → Shared → Prop), T xs.length s.heap →
    (∀ h' tk, (∀ b o, b ∉ wr → s.heap.get? b = some o → h'.get? b = some o) → Q { s with heap := h', toks := tk }) → wpAny (model prog w) A (pyNext (.ref I)) (fun r s1 => r = none ∧ Q s1) E s
  self : ∀ i (s : Shared) (Q : Value → Shared → Prop) (E : Value → Shared → Prop), T i s.heap → Q (.ref I) s → wpAny (model prog w) A (pyIter (.ref I)) Q E s

theorem Walk.of {prog : Program} {w : World} {A : Around} {tgt : Expr} {I : Addr} {fp wr : List Addr} {xs : List Value} {n : Nat} {P : Nat → Value → Prop} {T : Nat → Heap → Prop} (W : Walks prog w A I fp wr n P T)
    (hn : n = xs.length) (hv : ∀ i V x, P i V → xs[i]? = some x → er V = x) (ho : ∀ i h, T i h → ∀ b ∈ wr, ∃ o, h.get? b = some o)
    (hgo : ∀ i V (s : Shared) (Q : Unit → Shared → Prop) (E : Value → Shared → Prop), T i s.heap → Q () s → wpAny (model prog w) A (letOwnedTupleGo tgt (.ref I) V) Q E s) : Walk prog w A tgt I fp wr xs false T where
  frame := fun i h h' t k => W.frame i h h' t fun b hb o e => k b (.inl hb) o e
  obj := ho
  item := fun i x s Q E hx t hQ => W.item i s _ E (by rw [hn]; exact (List.getElem?_eq_some_iff.mp hx).1) t fun V h' tk hP t' k => ⟨V, rfl, hgo (i + 1) V _ _ E t' (hQ V h' tk k t' (hv i V x hP hx))⟩
  done := fun s Q E t hQ => W.done s _ E (by rw [hn]; exact t) fun h' tk k => ⟨rfl, hQ h' tk k⟩
  self := W.self

def RangeO (o : Obj) (lo hi : Int) : Prop := ∃ t u v, o = { cls := .type "range", dict := none, data := .fields #[.int lo t, .int hi u, .int 1 v], slots := #[] }
def EnumO (o : Obj) (it : Addr) : Prop := o = { cls := .type "enumerate", dict := none, data := .fields #[.none, .bool false, .ref it, rawInt 0, .none, .none], slots := #[] }
def ListItO (o : Obj) (l : Addr) : Prop := o.cls = .type "list_iterator" ∧ o.data = .fields #[.ref l, .int (0 : Nat) 0]
def isName : Expr → Bool
  | .Name .. => true
  | _ => false

def isTupT : Expr → Bool
  | .Tuple .. => true
  | _ => false
inductive Src (H : HM) (tgt : Expr) : Value → List Value → Bool → HM → (HM → HM) → Prop
  | list {a vs} (h : H a = some (.list vs)) (hl : vs.length ≤ 16000000) : Src H tgt (.ref a) vs false (H.del a) fun H' => H'.set a (.list vs)
  | str (l : List Nat) (hl : l.length ≤ 16000000) (ht : isName tgt = true := by rfl) : Src H tgt (VT l) (l.map fun x => VT [x]) false H id
  | range {a o} {lo hi : Int} (h : H a = some (.raw o)) (ho : RangeO o lo hi) (h1 : lo.natAbs < 2 ^ 32) (h2 : hi.natAbs < 2 ^ 32) (h3 : hi - lo ≤ 16000000) (ht : isName tgt = true := by rfl) : Src H tgt (.ref a) ((List.range (hi - lo).toNat).map fun (k : Nat) => VI (lo + k)) false H id
  | enum {e it l oe oi vs} (he : H e = some (.raw oe)) (hi : H it = some (.raw oi)) (ho : EnumO oe it) (hj : ListItO oi l) (hl : H l = some (.list vs)) (hn : vs.length ≤ 16000000) (ht : isTupT tgt = true := by rfl) : Src H tgt (.ref e) vs true (((H.del e).del it).del l) fun H' => H'.set l (.list vs)

/-- a walk begun -/
structure Start (c : FC) (m : LM) (H0 H1 F1 F : HM) (back : HM → HM) (tgt : Expr) (xs : List Value) (tup : Bool) (I : Addr) (fp wr : List Addr) (T : Nat → Heap → Prop) (s1 : Shared) : Prop where
  walk : ∀ A' : Around, A'.handled = none → Walk c.prog c.w A' tgt I fp wr xs tup T
  st : St c m H1 F1 s1
  t0 : T 0 s1.heap
  fpF : ∀ b ∈ fp, b ∉ wr → ∃ o, F1 b = some (.raw o)
  wrH : ∀ b ∈ wr, H1 b = none ∧ F1 b = none ∧ b ≠ c.env.locals ∧ c.s₀.heap.get? b = none
  len : xs.length ≤ 16000000
  hi : ∀ a, s1.heap.objs.size ≤ a → H0 a = none
  back : ∀ (c' : FC) (m' : LM) (H' : HM) (s' : Shared), St c' m' H' F1 s' → St c' m' (back H') F s'
  gone : ∀ b, H0 b ≠ none → H1 b = none → b ∈ wr ∨ F1 b ≠ none

theorem size_range (lo hi : Int) : Builtin.Range.rangeSize lo hi 1 = (((hi - lo).toNat : Nat) : Int) := by
  unfold Builtin.Range.rangeSize
  simp only [show (1 : Int) > 0 from by decide, if_true]
  split <;> omega

section
variable {c : FC} {K : Frag} {n : Nat} {m : LM} {H F : HM} {X : XM} {s : Shared}

theorem Src.start {v : Value} {xs : List Value} {tup : Bool} {Hd : HM} {back : HM → HM} {tgt : Expr} (h : Src H tgt v xs tup Hd back) (hh : c.A.handled = none)
    {V : Value} (ev : er V = v) (St' : St c m H F s) {Q : Value → Shared → Prop} {E : Value → Shared → Prop} (hQ : ∀ I fp wr F1 T s1, Start c m H Hd F1 F back tgt xs tup I fp wr T s1 → Q (.ref I) s1) :
    wpAny (model c.prog c.w) c.A (pyIter V) Q E s := by
  have name_go : ∀ {A' : Around}, isName tgt = true → ∀ I V (s : Shared) (Q : Unit → Shared → Prop) (E : Value → Shared → Prop), Q () s → wpAny (model c.prog c.w) A' (letOwnedTupleGo tgt (.ref I) V) Q E s := by
    intro A' h1 I V s Q E hq
    clear h hQ
    cases tgt <;> first | (cases h1; done) | exact wpAny_pure hq
  cases h with
  | @list a vs hv hl =>
    obtain rfl := er_ref ev
    obtain ⟨ws, n, rfl, hg⟩ := St'.list hv
    rw [List.length_map] at hl
    refine wpAny_pyIter_list (isList_of hg) (hQ _ [s.heap.objs.size, a] [s.heap.objs.size] (F.set a (.raw { cls := .type "list", data := .seq ws.toArray n })) (fun i h => h.IsListIter s.heap.objs.size a i ∧ h.IsList a ws.toArray) _ ?_)
    obtain ⟨f1, f2, f3, f4⟩ := St'.fresh
    have hlt := Heap.lt_size hg
    have hne : a ≠ s.heap.objs.size := Nat.ne_of_lt hlt
    refine ⟨fun A' hA => Walk.of (Walks.list hA s.heap.objs.size a hne ws.toArray) (by simp) (fun i V x hP hx => ?_) (fun i h t b hb => ?_) (fun i V s' Q E t q => letGo_listiter t.1 q), (St'.toF hv hg).keeps' fun b o e => Heap.get?_push_of_some _ e,
      ⟨⟨_, Heap.get?_push_size _ rfl, rfl, rfl⟩, isList_of (Heap.get?_push_of_some _ hg)⟩, fun b hb hw => ?_, fun b hb => ?_, by rw [List.length_map]; omega, fun b hb => (St'.above (Nat.le_trans (by rw [Heap.size_push]; exact Nat.le_succ _) hb)).1, fun c' m' H' s' S' => ?_, fun b q1 q2 => .inr ?_⟩
    · rw [List.getElem?_map] at hx
      have hP : ws.toArray[i]? = some V := hP
      rw [List.getElem?_toArray] at hP
      rw [hP] at hx; exact Option.some.inj hx
    · obtain rfl := List.mem_singleton.mp hb
      obtain ⟨o, ho, _⟩ := t.1; exact ⟨o, ho⟩
    · rcases List.mem_cons.mp hb with rfl | hb
      · exact absurd (List.mem_singleton.mpr rfl) hw
      · obtain rfl := List.mem_singleton.mp hb
        exact ⟨_, HM.set_same ..⟩
    · obtain rfl := List.mem_singleton.mp hb
      exact ⟨by rw [HM.del_ne _ hne.symm]; exact f1, by rw [HM.set_ne _ _ hne.symm]; exact f2, f3, f4⟩
    · have hFa : F a = none := by
        rcases St'.dj a with q | q
        · rw [q] at hv; cases hv
        · exact q
      refine St.fromF S' (HM.le_set _ hFa) (HM.set_same ..) ⟨ws, n, rfl, rfl⟩ hFa
    · by_cases q : b = a
      · subst q; rw [HM.set_same]; simp
      · rw [HM.del_ne _ q] at q2; exact absurd q2 q1
  | str l hl hname =>
    obtain ⟨t, rfl⟩ := er_str ev
    obtain ⟨f1, f2, f3, f4⟩ := St'.fresh
    have val : ∀ i V x, SignAt (S l) i V → (l.map fun x => VT [x])[i]? = some x → er V = x := fun i V x ⟨cp, u, h1, h2⟩ hx => by
      subst h2
      rw [List.getElem?_map] at hx
      have h1 : l[i]? = some cp := by simpa [S] using h1
      rw [h1] at hx; exact Option.some.inj hx
    have fin : ∀ (ty : String), (∀ A' : Around, A'.handled = none → Walks c.prog c.w A' s.heap.objs.size [s.heap.objs.size] [s.heap.objs.size] (S l).cps.size (SignAt (S l)) (fun i h => h.IsStrIter s.heap.objs.size ty (S l) t i)) →
        Start c m H H F F id tgt (l.map fun x => VT [x]) false s.heap.objs.size [s.heap.objs.size] [s.heap.objs.size] (fun i h => h.IsStrIter s.heap.objs.size ty (S l) t i) { s with heap := s.heap.push { cls := .type ty, data := .fields #[.str (S l) t, .int 0 0] } } := by
      intro ty W
      refine ⟨fun A' hA => Walk.of (W A' hA) (by simp [S]) val (fun i h tt b hb => ?_) (fun i V s' Q E _ q => name_go hname _ _ _ _ _ q), St'.keeps' fun b o e => Heap.get?_push_of_some _ e, ⟨_, Heap.get?_push_size _ rfl, rfl, rfl⟩, fun b hb hw => absurd hb hw, fun b hb => ?_, ?_, fun b hb => (St'.above (Nat.le_trans (by rw [Heap.size_push]; exact Nat.le_succ _) hb)).1, fun c' m' H' s' S' => S', fun b q1 q2 => absurd q2 q1⟩
      · obtain rfl := List.mem_singleton.mp hb
        obtain ⟨o, ho, _⟩ := tt; exact ⟨o, ho⟩
      · obtain rfl := List.mem_singleton.mp hb
        exact ⟨f1, f2, f3, f4⟩
      · rw [List.length_map]; exact hl
    cases ha : (S l).cps.all (· < 128)
    · exact wpAny_pyIter_wide ha (hQ _ _ _ F _ _ (fin "str_iterator" fun A' hA => Walks.strWide hA _ _ t))
    · exact wpAny_pyIter_ascii ha (hQ _ _ _ F _ _ (fin "str_ascii_iterator" fun A' hA => Walks.strAscii hA _ _ t))
  | @range a o lo hi hv ho h1 h2 h3 hname =>
    obtain rfl := er_ref ev
    obtain ⟨f1, f2, f3, f4⟩ := St'.fresh
    obtain ⟨t, u, v, rfl⟩ := ho
    obtain ⟨_, _, o', ho', e'⟩ := St'.hp _ _ hv
    have e' : o' = _ := e'
    subst e'
    refine wpAny_pyIter_range (a := lo) (b := hi) (c := 1) ho' ?_ (hQ _ [s.heap.objs.size] [s.heap.objs.size] F (fun i h => IsRangeIter h s.heap.objs.size (lo + (i : Nat) * 1) (((hi - lo).toNat : Nat) - (i : Nat) : Int) 1) _ ?_)
    · unfold Builtin.Range.small Builtin.Range.rangeFitsLong
      rw [size_range]
      simp only [Bool.and_eq_true, Bool.or_eq_true, decide_eq_true_eq, beq_iff_eq, show (1 : Int) > 0 from by decide, if_true]
      omega
    · refine ⟨fun A' hA => Walk.of (LCg.range_walks hA lo (hi - lo).toNat) (by simp) (fun i V x hP hx => ?_) (fun i h tt b hb => ?_) (fun i V s' Q E _ q => name_go hname _ _ _ _ _ q), St'.keeps' fun b o e => Heap.get?_push_of_some _ e, ?_, fun b hb hw => absurd hb hw, fun b hb => ?_, ?_, fun b hb => (St'.above (Nat.le_trans (by rw [Heap.size_push]; exact Nat.le_succ _) hb)).1, fun c' m' H' s' S' => S', fun b q1 q2 => absurd q2 q1⟩
      · obtain ⟨t', rfl⟩ := hP
        rw [List.getElem?_map, Option.map_eq_some_iff] at hx
        obtain ⟨k, hk, rfl⟩ := hx
        have := List.getElem?_eq_some_iff.mp hk
        obtain ⟨_, e⟩ := this
        rw [List.getElem_range] at e
        subst e; rfl
      · obtain rfl := List.mem_singleton.mp hb
        exact ⟨_, tt⟩
      · have e0 : lo + ((0 : Nat) : Int) * 1 = lo := by omega
        have e1 : (((hi - lo).toNat : Nat) : Int) - ((0 : Nat) : Int) = Builtin.Range.rangeSize lo hi 1 := by rw [size_range]; omega
        show IsRangeIter _ _ (lo + ((0 : Nat) : Int) * 1) ((((hi - lo).toNat : Nat) : Int) - ((0 : Nat) : Int)) 1
        rw [e0, e1]
        exact Heap.get?_push_size s.heap (o := { cls := .type "range_iterator", data := .fields #[rawInt lo, rawInt (Builtin.Range.rangeSize lo hi 1), rawInt 1] }) rfl
      · obtain rfl := List.mem_singleton.mp hb
        exact ⟨f1, f2, f3, f4⟩
      · rw [List.length_map, List.length_range]; omega
  | @enum e it l oe oi vs he hi ho hj hl hn htup =>
    obtain rfl := er_ref ev
    obtain ⟨elts, k, p, rfl⟩ : ∃ elts k p, tgt = .Tuple elts k p := by
      cases tgt <;> first | (cases htup; done) | exact ⟨_, _, _, rfl⟩
    obtain ⟨ws, n, rfl, hg⟩ := St'.list hl
    rw [List.length_map] at hn
    obtain ⟨e1, e2, oe', hge, ee⟩ := St'.hp _ _ he
    have ee : oe' = oe := ee
    subst ee
    obtain ⟨i1, i2, oi', hgi, ei⟩ := St'.hp _ _ hi
    have ei : oi' = oi := ei
    subst ei
    have hEn : IsEnum s.heap e it 0 .none := by unfold EnumO at ho; subst ho; exact hge
    have hIt : s.heap.IsListIter it l 0 := ⟨_, hgi, hj.1, hj.2⟩
    have hei : e ≠ it := by
      rintro rfl; rw [hge] at hgi; cases hgi
      unfold EnumO at ho; subst ho
      exact absurd (Value.type.inj hj.1) (by decide)
    have hle : l ≠ e := by
      rintro rfl; rw [hge] at hg
      unfold EnumO at ho; subst ho
      exact absurd (Value.type.inj (congrArg Obj.cls (Option.some.inj hg))) (by decide)
    have hli : l ≠ it := by
      rintro rfl; rw [hgi] at hg
      have := hj.1
      rw [Option.some.inj hg] at this
      exact absurd (Value.type.inj this) (by decide)
    have hFe : ∀ {a ao}, H a = some ao → F a = none := fun {a ao} q => by
      rcases St'.dj a with q' | q'
      · rw [q'] at q; cases q
      · exact q'
    have hl' : ((H.del e).del it) l = some (.list (ws.map er)) := by rw [HM.del_ne _ hli, HM.del_ne _ hle]; exact hl
    refine wpAny_pyIter_enum hEn (hQ _ [e, it, l] [e, it] (F.set l (.raw { cls := .type "list", data := .seq ws.toArray n })) (fun i h => (∃ old, IsEnum h e it i old) ∧ h.IsListIter it l i ∧ h.IsList l ws.toArray) _ ?_)
    refine ⟨fun A' hA => ?_, (St'.weak (H' := (H.del e).del it) fun a o q => HM.del_le _ _ _ _ (HM.del_le _ _ _ _ q)).toF hl' hg, ⟨⟨_, hEn⟩, hIt, isList_of hg⟩, fun b hb hw => ?_, fun b hb => ?_, by rw [List.length_map]; exact hn, fun b hb => (St'.above hb).1, fun c' m' H' s' S' => ?_, fun b q1 q2 => ?_⟩
    · have W := WalksT.enumerate (prog := c.prog) (w := c.w) hA e it l hei hle hli ws.toArray
      refine ⟨fun i h h' t k => W.frame i h h' t fun b hb o e => ?_, fun i h t b hb => ?_, fun i x s Q E hx t hQ => ?_, fun s Q E t hQ => ?_, W.self⟩
      · exact k b (.inl hb) o e
      · rcases List.mem_cons.mp hb with rfl | hb
        · obtain ⟨⟨_, q⟩, _⟩ := t; exact ⟨_, q⟩
        · obtain rfl := List.mem_singleton.mp hb
          obtain ⟨_, ⟨o, q, _⟩, _⟩ := t; exact ⟨o, q⟩
      · rw [List.getElem?_map, Option.map_eq_some_iff] at hx
        obtain ⟨x', hx', rfl⟩ := hx
        refine W.item i s _ E (by rw [List.size_toArray]; exact (List.getElem?_eq_some_iff.mp hx').1) t fun T vals h' tk hP hT hTup mid k1 => ⟨_, rfl, W.go _ _ _ _ _ _ _ E mid fun h'' t' k2 => hQ _ h'' tk (fun b o hb q => k2 b o hb (k1 b o hb q)) t' ?_⟩
        obtain ⟨o, q1, q2, n', q3⟩ := hTup
        obtain ⟨t1, x1, hx1, rfl⟩ := hP
        rw [List.getElem?_toArray, hx'] at hx1
        cases hx1
        exact ⟨T, o, rfl, hT, k2 T o (W.apart i T h' mid) q1, [.int i t1, x'], n', ⟨q2, q3⟩, rfl⟩
      · exact W.done s _ E (by rw [List.length_map] at t; rw [List.size_toArray]; exact t) fun h' tk k => ⟨rfl, hQ h' tk k⟩
    · rcases List.mem_cons.mp hb with rfl | hb
      · exact absurd (List.mem_cons_self ..) hw
      · rcases List.mem_cons.mp hb with rfl | hb
        · exact absurd (List.mem_cons_of_mem _ (List.mem_singleton.mpr rfl)) hw
        · obtain rfl := List.mem_singleton.mp hb
          exact ⟨_, HM.set_same ..⟩
    · rcases List.mem_cons.mp hb with rfl | hb
      · exact ⟨by rw [HM.del_ne _ hle.symm, HM.del_ne _ hei, HM.del_same], by rw [HM.set_ne _ _ hle.symm]; exact hFe he, e1, e2⟩
      · obtain rfl := List.mem_singleton.mp hb
        exact ⟨by rw [HM.del_ne _ hli.symm, HM.del_same], by rw [HM.set_ne _ _ hli.symm]; exact hFe hi, i1, i2⟩
    · exact St.fromF S' (HM.le_set _ (hFe hl)) (HM.set_same ..) ⟨ws, n, rfl, rfl⟩ (hFe hl)
    · by_cases z1 : b = e
      · exact .inl (by simp [z1])
      · by_cases z2 : b = it
        · exact .inl (by simp [z2])
        · by_cases z3 : b = l
          · exact .inr (by subst z3; rw [HM.set_same]; simp)
          · rw [HM.del_ne _ z3, HM.del_ne _ z2, HM.del_ne _ z1] at q2; exact absurd q2 q1
end
end Mine
end

section
open PySem PySem.W PySem.Calls PyProof.Rows
set_option linter.all false
set_option maxRecDepth 100000
namespace Mine

def Yld (tup : Bool) (k : Nat) (x : Value) (H : HM) (Q : Value → HM → Prop) : Prop :=
  match tup with
  | false => Q x H
  | true => ∀ a, H a = none → Q (.ref a) (H.set a (.tup [VI k, x]))

section
variable {c : FC} {K : Frag} {n : Nat} {m : LM} {H F F1 : HM} {X : XM} {s : Shared}

/-- one turn's item, with what is set aside -/
theorem Walk.turn {A' : Around} {tgt : Expr} {I : Addr} {fp wr : List Addr} {xs : List Value} {tup : Bool} {T : Nat → Heap → Prop} (W : Walk c.prog c.w A' tgt I fp wr xs tup T)
    (hw : ∀ b ∈ wr, F1 b = none ∧ b ≠ c.env.locals ∧ c.s₀.heap.get? b = none) {k : Nat} {x : Value} (hx : xs[k]? = some x) (S : St c m H F1 s) (hH : ∀ b ∈ wr, H b = none) (t : T k s.heap) {E : Value → Shared → Prop} {Q : Value → HM → Prop} (y : Yld tup k x H Q) {P : Value → Shared → Prop}
    (hP : ∀ V H' s', St c m H' F1 s' → (∀ b ∈ wr, H' b = none) → T (k + 1) s'.heap → Q (er V) H' → P V s') :
    wpAny (model c.prog c.w) A' (pyNext (.ref I)) (fun r s1 => ∃ V, r = some V ∧ wpAny (model c.prog c.w) A' (letOwnedTupleGo tgt (.ref I) V) (fun _ s2 => P V s2) E s1) E s := by
  have hk : ∀ b ∈ wr, H b = none ∧ F1 b = none ∧ b ≠ c.env.locals ∧ c.s₀.heap.get? b = none := fun b hb => ⟨hH b hb, hw b hb⟩
  refine W.item k x s P E hx t fun V h' tk kp t' g => ?_
  have S' := S.keepsBut (t := tk) hk kp
  cases tup with
  | false =>
    have g : er V = x := g
    exact hP V H _ S' hH t' (by rw [g]; exact y)
  | true =>
    obtain ⟨a, o, rfl, ha, ho, hi⟩ := g
    obtain ⟨f1, f2, f3, f4⟩ := S.above ha
    have haw : a ∉ wr := fun q => by
      obtain ⟨o', ho'⟩ := W.obj k _ t a q
      exact absurd (Heap.lt_size ho') (Nat.not_lt.mpr ha)
    refine hP _ (H.set a (.tup [VI k, x])) _ (St.backNew (mr' := fun _ => none) (news := []) S S' f1 f2 f3 f4 ho hi) (fun b hb => ?_) t' (y a f1)
    rw [HM.set_ne _ _ (fun (e : b = a) => haw (by rw [← e]; exact hb))]; exact hH b hb

theorem Walk.body {A' : Around} {tgt : Expr} {I : Addr} {fp wr : List Addr} {xs : List Value} {tup : Bool} {T : Nat → Heap → Prop} (W : Walk c.prog c.w A' tgt I fp wr xs tup T)
    (hw : ∀ b ∈ wr, F1 b = none ∧ b ≠ c.env.locals ∧ c.s₀.heap.get? b = none) (hfp : ∀ b ∈ fp, b ∉ wr → ∃ o, F1 b = some (.raw o)) {k : Nat} (S : St c m H F1 s) (hH : ∀ b ∈ wr, H b = none) (t : T k s.heap)
    {c' : FC} {m' : LM} {H' : HM} {s' : Shared} (S' : St c' m' H' (F1.frz wr s.heap) s') : St c' m' H' F1 s' ∧ (∀ b ∈ wr, H' b = none) ∧ T k s'.heap := by
  refine ⟨S'.weakF (HM.frz_le fun b hb => (hw b hb).1), fun b hb => ?_, W.frame k _ _ t fun b hb o e => ?_⟩
  · obtain ⟨o, ho⟩ := W.obj k _ t b hb
    rcases S'.dj b with q | q
    · exact q
    · simp only [HM.frz, if_pos hb, ho] at q; cases q
  · have : ∃ o', (F1.frz wr s.heap) b = some (.raw o') ∧ o' = o := by
      by_cases q : b ∈ wr
      · exact ⟨o, by simp only [HM.frz, if_pos q, e, Option.map_some], rfl⟩
      · rcases hb with hb | hb
        · obtain ⟨o', ho'⟩ := hfp b hb q
          obtain ⟨_, _, o2, h2, e2⟩ := S.fp b _ ho'
          have e2 : o2 = o' := e2
          rw [e] at h2; cases h2
          exact ⟨o', by simp only [HM.frz, if_neg q]; exact ho', e2.symm⟩
        · exact absurd hb q
    obtain ⟨o', h1, rfl⟩ := this
    obtain ⟨_, _, o2, h2, e2⟩ := S'.fp b _ h1
    have e2 : o2 = o' := e2
    rw [← e2]; exact h2

theorem HM.le.none {H H' : HM} (h : H.le H') {b : Addr} (e : H' b = none) : H b = none := by
  cases q : H b with
  | none => rfl
  | some o => have := h b o q; rw [e] at this; cases this
def Keep (Inv : LM → HM → Prop) (m : LM) (H : HM) : Prop := ∃ m' H', LM.le m' m ∧ H'.le H ∧ Inv m' H'
theorem Keep.here {Inv : LM → HM → Prop} (h : Inv m H) : Keep Inv m H := ⟨m, H, LM.le_refl m, HM.le.refl H, h⟩

/-- for -/
theorem Ex.forN {tgt iter body p} {Q : Flow → LM → HM → Prop} (hh : c.A.handled = none)
    (h : Ev c iter m H (fun v H1 => ∃ xs tup Hd back, Src H1 tgt v xs tup Hd back ∧ ∃ Inv : Nat → LM → HM → Prop, Keep (Inv 0) m Hd ∧
      (∀ k x m' H', xs[k]? = some x → (∀ b, H1 b ≠ none → Hd b = none → H' b = none) → Inv k m' H' → Yld tup k x H' (fun v' H2 => Tgt c tgt v' m' H2 (fun m3 H3 => Exs c body m3 H3 (fun f m4 H4 => match f with
        | .next | .cont => Keep (Inv (k + 1)) m4 H4
        | .brk => Q .next m4 (back H4)
        | .ret v => Q (.ret v) m4 (back H4)) XF) XF)) ∧
      (∀ m' H', (∀ b, H1 b ≠ none → Hd b = none → H' b = none) → Inv xs.length m' H' → Q .next m' (back H'))) X)
    (hs : ∀ x, foldedSetIterable iter c.env x = pure x) : Ex c (.For tgt iter body [] p) m H Q X := fun G s St' => by
  refine wpAny_For (wpAny_mono (h G s St') (fun V s1 ⟨H1, S1, xs, tup, Hd, back, src, Inv, i0, step, fin⟩ => ?_) fun _ _ e => e) hs
  refine src.start hh rfl S1 fun I fp wr F1 T s2 st => ?_
  have W := st.walk c.A hh
  have hw : ∀ b ∈ wr, F1 b = none ∧ b ≠ c.env.locals ∧ c.s₀.heap.get? b = none := fun b hb => (st.wrH b hb).2
  refine codeAny_forLoop_any (fun r s' => ∃ k m' H', r = xs.length - k ∧ k ≤ xs.length ∧ St c m' H' F1 s' ∧ (∀ b ∈ wr, H' b = none) ∧ T k s'.heap ∧ Inv k m' H') ?_ xs.length ?_
  · rintro r s' ⟨k, m', H', rfl, hk, S, hH, t, iv⟩
    have gn : ∀ b, H1 b ≠ none → Hd b = none → H' b = none := fun b q1 q2 => by
      rcases st.gone b q1 q2 with q | q
      · exact hH b q
      · exact (S.dj b).resolve_right q
    by_cases hlt : k < xs.length
    · have hx : xs[k]? = some xs[k] := List.getElem?_eq_getElem hlt
      refine wpAny_mono (W.turn hw hx S hH t (step k _ m' H' hx gn iv) (P := fun V s3 => wpAny (model c.prog c.w) c.A (assign tgt c.env V) _ _ s3) fun V H2 s3 S3 hH3 t3 hq => ?_) (fun r s4 h4 => by obtain ⟨V, e, q⟩ := h4; subst e; exact q) fun _ _ e => e
      have S3' := S3.frz (wr := wr) fun b hb => ⟨hH3 b hb, (hw b hb).2⟩
      refine wpAny_mono (hq V rfl _ s3 S3') (fun _ s4 ⟨m4, H4, S4, h4⟩ => ?_) fun _ _ e => e.elim
      refine wpAny_mono (h4 _ s4 S4) (fun f s5 ⟨m5, H5, S5, h5⟩ => ?_) fun _ _ e => e.elim
      obtain ⟨S5', hH5, t5⟩ := W.body hw st.fpF S3 hH3 t3 S5
      cases f with
      | next =>
        obtain ⟨m6, H6, l1, l2, i6⟩ := h5
        exact ⟨xs.length - (k + 1), by omega, k + 1, m6, H6, rfl, hlt, (S5'.weakm l1).weak l2, fun b hb => l2.none (hH5 b hb), t5, i6⟩
      | cont =>
        obtain ⟨m6, H6, l1, l2, i6⟩ := h5
        exact ⟨xs.length - (k + 1), by omega, k + 1, m6, H6, rfl, hlt, (S5'.weakm l1).weak l2, fun b hb => l2.none (hH5 b hb), t5, i6⟩
      | brk => exact ⟨m5, back H5, st.back c m5 H5 s5 S5', h5⟩
      | ret v => exact ⟨m5, back H5, st.back c m5 H5 s5 S5', h5⟩
    · have hk' : k = xs.length := by omega
      subst hk'
      refine wpAny_mono (W.done s' (fun s'' => St c m' H' F1 s'') _ t fun h' tk kp => S.keepsBut (fun b hb => ⟨hH b hb, hw b hb⟩) kp) (fun r s4 ⟨e, S4⟩ => ?_) fun _ _ e => e
      subst e
      exact wpAny_execs_nil ⟨m', back H', st.back c m' H' s4 S4, fin m' H' gn iv⟩
  · obtain ⟨m', H', l1, l2, i6⟩ := i0
    exact ⟨0, m', H', rfl, Nat.zero_le _, (st.st.weakm l1).weak l2, fun b hb => l2.none (st.wrH b hb).1, st.t0, i6⟩

/-- for -/
theorem Ex.for {tgt iter body p} {Q : Flow → LM → HM → Prop} (hh : c.A.handled = none)
    (h : Ev c iter m H (fun v H1 => ∃ xs tup Hd back, Src H1 tgt v xs tup Hd back ∧ ∃ Inv : Nat → LM → HM → Prop, Keep (Inv 0) m Hd ∧
      (∀ k x m' H', xs[k]? = some x → Inv k m' H' → Yld tup k x H' (fun v' H2 => Tgt c tgt v' m' H2 (fun m3 H3 => Exs c body m3 H3 (fun f m4 H4 => match f with
        | .next | .cont => Keep (Inv (k + 1)) m4 H4
        | .brk => Q .next m4 (back H4)
        | .ret v => Q (.ret v) m4 (back H4)) XF) XF)) ∧
      (∀ m' H', Inv xs.length m' H' → Q .next m' (back H'))) X)
    (hs : ∀ x, foldedSetIterable iter c.env x = pure x) : Ex c (.For tgt iter body [] p) m H Q X :=
  Ex.forN hh (h.mono (fun v H1 ⟨xs, tup, Hd, back, src, Inv, h0, step, fin⟩ => ⟨xs, tup, Hd, back, src, Inv, h0, fun k x m' H' hx _ iv => step k x m' H' hx iv, fun m' H' _ iv => fin m' H' iv⟩) fun _ _ _ x => x) hs

/-- while -/
theorem Ex.while {test body p} {Q : Flow → LM → HM → Prop} (Inv : Nat → LM → HM → Prop) (k : Nat) (h0 : Keep (Inv k) m H)
    (step : ∀ k m' H', Inv k m' H' → Tst c test m' H' (fun b H1 => if b = true then Exs c body m' H1 (fun f m2 H2 => match f with
        | .next | .cont => ∃ k', k' < k ∧ Keep (Inv k') m2 H2
        | .brk => Q .next m2 H2
        | .ret v => Q (.ret v) m2 H2) XF else Q .next m' H1) XF) : Ex c (.While test body [] p) m H Q X := fun G s St' => by
  refine wpAny_While (codeAny_whileLoop (fun k s' => ∃ m' H', St c m' H' G s' ∧ Inv k m' H') ?_ k ?_)
  · rintro k s' ⟨m', H', S, iv⟩
    refine wpAny_mono (step k m' H' iv G s' S) (fun b s1 ⟨H1, S1, h1⟩ => ?_) fun _ _ e => e.elim
    cases b with
    | true =>
      rw [if_pos rfl] at h1 ⊢
      refine wpAny_mono (h1 G s1 S1) (fun f s2 ⟨m2, H2, S2, h2⟩ => ?_) fun _ _ e => e.elim
      cases f with
      | next => obtain ⟨k', hk, m3, H3, l1, l2, i3⟩ := h2; exact ⟨k', hk, m3, H3, (S2.weakm l1).weak l2, i3⟩
      | cont => obtain ⟨k', hk, m3, H3, l1, l2, i3⟩ := h2; exact ⟨k', hk, m3, H3, (S2.weakm l1).weak l2, i3⟩
      | brk => exact ⟨m2, H2, S2, h2⟩
      | ret v => exact ⟨m2, H2, S2, h2⟩
    | false =>
      rw [if_neg Bool.false_ne_true] at h1 ⊢
      exact wpAny_execs_nil ⟨m', H1, S1, h1⟩
  · obtain ⟨m', H', l1, l2, i0⟩ := h0
    exact ⟨m', H', (St'.weakm l1).weak l2, i0⟩
end
end Mine
end

section
open PySem PySem.W PySem.Calls PyProof.Rows
set_option linter.all false
set_option maxRecDepth 100000
namespace Mine

def testsT (ifs : List Expr) (env : Env) : Sem Bool := forIn ifs true fun c r => if r = true then do let ok ← isTrue c env (eval c env); pure (ForInStep.yield ok) else pure (ForInStep.yield r)
def emitT (elt : Expr) (acc : Value) (env : Env) : Sem Unit := do let _ ← call (.builtin "list.append") [acc, ← eval elt env]
def nestT (e : Expr) (g' : Comprehension) (depth : Nat) (acc : Value) (env : Env) (fin : Sem Fin) : Sem Fin := do
  let x ← eval g'.iter env
  standAt g'.iter.pos
  let x ← foldedSetIterable g'.iter env x
  let it' ← holding [x] (pyIter x)
  let _ ← runOwn (.compStart e (depth + 1) it' acc env) env
  fin
def turnT (e : Expr) (p : Pos) (tgt : Expr) (ifs : List Expr) (depth : Nat) (it acc : Value) (env : Env) (tail : Sem Fin) : Sem Fin := do
  standAt p
  match ← pyNext it with
  | none => pure (.done .next)
  | some v =>
    letOwnedTupleGo tgt it v
    assign tgt env v
    let ok ← testsT ifs env
    if ok then tail else again (.compLoop e depth it acc env)

theorem turn_one (elt tgt iter : Expr) (ifs : List Expr) (scope : Scope) (pos : Pos) (it acc : Value) (env : Env) :
    compTurn (.ListComp elt [⟨tgt, iter, ifs, 0⟩] scope pos) 0 it acc env = turnT (.ListComp elt [⟨tgt, iter, ifs, 0⟩] scope pos) iter.pos tgt ifs 0 it acc env (emitT elt acc env >>= fun _ => again (.compLoop (.ListComp elt [⟨tgt, iter, ifs, 0⟩] scope pos) 0 it acc env)) := by rfl
theorem turn_two0 (elt tgt iter : Expr) (ifs : List Expr) (t1 i1 : Expr) (f1 : List Expr) (scope : Scope) (pos : Pos) (it acc : Value) (env : Env) :
    compTurn (.ListComp elt [⟨tgt, iter, ifs, 0⟩, ⟨t1, i1, f1, 0⟩] scope pos) 0 it acc env = turnT (.ListComp elt [⟨tgt, iter, ifs, 0⟩, ⟨t1, i1, f1, 0⟩] scope pos) iter.pos tgt ifs 0 it acc env (nestT (.ListComp elt [⟨tgt, iter, ifs, 0⟩, ⟨t1, i1, f1, 0⟩] scope pos) ⟨t1, i1, f1, 0⟩ 0 acc env (again (.compLoop (.ListComp elt [⟨tgt, iter, ifs, 0⟩, ⟨t1, i1, f1, 0⟩] scope pos) 0 it acc env))) := by rfl
theorem turn_two1 (elt tgt iter : Expr) (ifs : List Expr) (t1 i1 : Expr) (f1 : List Expr) (scope : Scope) (pos : Pos) (it acc : Value) (env : Env) :
    compTurn (.ListComp elt [⟨tgt, iter, ifs, 0⟩, ⟨t1, i1, f1, 0⟩] scope pos) 1 it acc env = turnT (.ListComp elt [⟨tgt, iter, ifs, 0⟩, ⟨t1, i1, f1, 0⟩] scope pos) i1.pos t1 f1 1 it acc env (emitT elt acc env >>= fun _ => again (.compLoop (.ListComp elt [⟨tgt, iter, ifs, 0⟩, ⟨t1, i1, f1, 0⟩] scope pos) 1 it acc env)) := by rfl

def FC.comp (c : FC) (scope : Scope) (cl : List (Str × Addr)) (C : Addr) : FC := { c with env := compEnvC scope cl C c.env }
theorem Ok.comp {c : FC} {K : Frag} {n : Nat} (O : Ok c K n) {scope : Scope} (hk : scope.kind = .function) (cl : List (Str × Addr)) (C : Addr) : Ok (c.comp scope cl C) K n :=
  ⟨O.X, O.g, O.b, O.nl, hk, O.eg, O.eb, O.hh, O.dp, O.un⟩

def TestsJ (c : FC) (ifs : List Expr) (m : LM) (H : HM) (Q : Bool → HM → Prop) (X : XM) : Prop := Bw c (testsT ifs c.env) m H Q X
def InnerJ (c : FC) (t : Sem Fin) (cd : Code) (D : Addr) (ys : List Value) (m : LM) (H : HM) (Q : List Value → LM → HM → Prop) : Prop :=
  ∀ F s, St c m (H.set D (.list ys)) F s → H D = none → F D = none → wpAny (model c.prog c.w) c.A t (fun fin s' => fin = .again cd ∧ ∃ ys' m' H', St c m' (H'.set D (.list ys')) F s' ∧ H' D = none ∧ Q ys' m' H') (fun _ _ => False) s

section
variable {c : FC} {K : Frag} {n : Nat} {m : LM} {H F F1 : HM} {X : XM} {s : Shared}
theorem TestsJ.nil {Q : Bool → HM → Prop} (h : Q true H) : TestsJ c [] m H Q X := fun G s S => wpAny_tests_nil ⟨H, S, h⟩
theorem TestsJ.one {e : Expr} {Q : Bool → HM → Prop} (h : Tst c e m H Q X) : TestsJ c [e] m H Q X := fun G s S => wpAny_tests_one (h G s S)

theorem St.out {a : Addr} {vs : List Value} (S : St c m (H.set a (.list vs)) F s) (ha : H a = none) (hF : F a = none) : ∃ (ws : List Value) (n : Nat), ws.map er = vs ∧ St c m H (F.set a (.raw { cls := .type "list", data := .seq ws.toArray n })) s := by
  obtain ⟨ws, n, hw, hg⟩ := S.list (HM.set_same ..)
  refine ⟨ws, n, hw, ?_⟩
  have := S.toF (HM.set_same ..) hg
  rwa [HM.set_del _ _ ha] at this

theorem InnerJ.emit {elt : Expr} {cd : Code} {D : Addr} {ys : List Value} {Q : List Value → LM → HM → Prop} (hl : ys.length ≤ 16000000) (h : Ev c elt m H (fun y H' => Q (ys ++ [y]) m H') XF) : InnerJ c (emitT elt (.ref D) c.env >>= fun _ => again cd) cd D ys m H Q := fun G s S hD hG => by
  obtain ⟨ws, n, hw, S'⟩ := S.out hD hG
  refine wpAny_bind (wpAny_bind (wpAny_mono (h _ s S') (fun V s1 ⟨H1, S1, hq⟩ => ?_) fun _ _ e => e.elim))
  have hD1 : H1 D = none := by
    rcases S1.dj D with q | q
    · exact q
    · rw [HM.set_same] at q; cases q
  have S2 := S1.fromF (HM.le_set _ hG) (HM.set_same ..) (ao := .list ys) ⟨ws, n, rfl, hw⟩ hG
  refine wpAny_bind (wpAny_mono (C_append (X := XF) (Q := fun v H' => H' = H1.set D (.list (ys ++ [er V]))) (HM.set_same ..) hl (by rw [HM.set_set]) (.builtin "list.append") [.ref D, V] [] rfl rfl rfl G s1 S2) (fun v s2 ⟨H2, S3, e2⟩ => ?_) fun _ _ e => e.elim)
  subst e2
  exact wpAny_pure (wpAny_pure ⟨rfl, _, m, H1, S3, hD1, hq⟩)

theorem comp_turns {elt : Expr} {gens : List Comprehension} {scope : Scope} {pos : Pos} {depth : Nat} {p : Pos} {tgt : Expr} {ifs : List Expr} {inner : Value → Sem Fin} {D I : Addr} {fp wr : List Addr} {xs : List Value} {tup : Bool} {T : Nat → Heap → Prop}
    (he : ∀ it, compTurn (.ListComp elt gens scope pos) depth it (.ref D) c.env = turnT (.ListComp elt gens scope pos) p tgt ifs depth it (.ref D) c.env (inner it))
    (W : Walk c.prog c.w c.A tgt I fp wr xs tup T) (hw : ∀ b ∈ wr, F1 b = none ∧ b ≠ c.env.locals ∧ c.s₀.heap.get? b = none) (hfp : ∀ b ∈ fp, b ∉ wr → ∃ o, F1 b = some (.raw o)) (hDw : D ∉ wr) (hDF : F1 D = none)
    (Inv : Nat → List Value → LM → HM → Prop)
    (step : ∀ k x ys m' H', xs[k]? = some x → Inv k ys m' H' → Yld tup k x H' (fun v' H2 => Tgt c tgt v' m' H2 (fun m3 H3 => TestsJ c ifs m3 H3 (fun ok H4 =>
      if ok = true then InnerJ c (inner (.ref I)) (.compLoop (.ListComp elt gens scope pos) depth (.ref I) (.ref D) c.env) D ys m3 H4 (fun ys' m5 H5 => Keep (Inv (k + 1) ys') m5 H5) else Keep (Inv (k + 1) ys) m3 H4) XF) XF))
    {ys : List Value} (k0 : Inv 0 ys m H) (S : St c m (H.set D (.list ys)) F1 s) (hD : H D = none) (hH : ∀ b ∈ wr, H b = none) (t0 : T 0 s.heap)
    {R : Result → Shared → Prop} (hR : ∀ ys m' H' s', St c m' (H'.set D (.list ys)) F1 s' → H' D = none → (∀ b ∈ wr, H' b = none) → Inv xs.length ys m' H' → R (.ok .next) s') :
    codeAny (model c.prog c.w) c.A (.compLoop (.ListComp elt gens scope pos) depth (.ref I) (.ref D) c.env) R s := by
  refine codeAny_loop rfl (fun r s' => ∃ k ys m' H', r = xs.length - k ∧ k ≤ xs.length ∧ St c m' (H'.set D (.list ys)) F1 s' ∧ H' D = none ∧ (∀ b ∈ wr, H' b = none) ∧ T k s'.heap ∧ Inv k ys m' H') ?_ xs.length
    ⟨0, ys, m, H, rfl, Nat.zero_le _, S, hD, hH, t0, k0⟩
  rintro r s' ⟨k, ys, m', H', rfl, hk, S, hD, hH, t, iv⟩
  show wpAny _ c.A ((compTurn (.ListComp elt gens scope pos) depth (.ref I) (.ref D) c.env).onRaise (fun x => do noteFrame x c.env; theTreesLotGoes x)) _ _ s'
  refine wpAny_noted ?_
  rw [he]
  unfold turnT
  refine wpAny_bind (wpAny_standAt (wpAny_bind ?_))
  obtain ⟨ws, nD, hws, S0⟩ := S.out hD hDF
  have hw' : ∀ b ∈ wr, (F1.set D (.raw { cls := .type "list", data := .seq ws.toArray nD })) b = none ∧ b ≠ c.env.locals ∧ c.s₀.heap.get? b = none := fun b hb => ⟨by rw [HM.set_ne _ _ (fun (e : b = D) => hDw (by rw [← e]; exact hb))]; exact (hw b hb).1, (hw b hb).2⟩
  have hfp' : ∀ b ∈ fp, b ∉ wr → ∃ o, (F1.set D (.raw { cls := .type "list", data := .seq ws.toArray nD })) b = some (.raw o) := fun b hb hbw => by
    obtain ⟨o, ho⟩ := hfp b hb hbw
    exact ⟨o, by rw [HM.set_ne _ _ (fun (e : b = D) => by rw [e, hDF] at ho; cases ho)]; exact ho⟩
  have back : ∀ {m H s}, St c m H (F1.set D (.raw { cls := .type "list", data := .seq ws.toArray nD })) s → St c m (H.set D (.list ys)) F1 s ∧ H D = none := fun S => by
    refine ⟨S.fromF (HM.le_set _ hDF) (HM.set_same ..) ⟨ws, nD, rfl, hws⟩ hDF, ?_⟩
    rcases S.dj D with q | q
    · exact q
    · rw [HM.set_same] at q; cases q
  by_cases hlt : k < xs.length
  · have hx : xs[k]? = some xs[k] := List.getElem?_eq_getElem hlt
    refine wpAny_mono (W.turn hw' hx S0 hH t (step k _ ys m' H' hx iv) (P := fun V s3 => wpAny (model c.prog c.w) c.A (do
        assign tgt c.env V
        let ok ← testsT ifs c.env
        if ok then inner (.ref I) else again (.compLoop (.ListComp elt gens scope pos) depth (.ref I) (.ref D) c.env)) _ _ s3) fun V H2 s3 S3 hH3 t3 hq => ?_) (fun r s4 h4 => by obtain ⟨V, e, q⟩ := h4; subst e; exact wpAny_bind q) fun _ _ e => e
    have S3' := S3.frz (wr := wr) fun b hb => ⟨hH3 b hb, (hw b hb).2⟩
    refine wpAny_bind (wpAny_mono (hq V rfl _ s3 S3') (fun _ s4 ⟨m4, H4, S4, h4⟩ => ?_) fun _ _ e => e.elim)
    refine wpAny_bind (wpAny_mono (h4 _ s4 S4) (fun ok s5 ⟨H5, S5, h5⟩ => ?_) fun _ _ e => e.elim)
    cases ok with
    | true =>
      rw [if_pos rfl] at h5 ⊢
      have hHf5 : ∀ b ∈ wr, H5 b = none := (W.body hw' hfp' S3 hH3 t3 S5).2.1
      -- inner with the list back, the iterators still set aside
      have S5D : St c m4 (H5.set D (.list ys)) (F1.frz wr s3.heap) s5 := by
        have hDfz : (F1.frz wr s3.heap) D = none := by simp only [HM.frz, if_neg hDw]; exact hDF
        refine S5.fromF (F0 := F1.frz wr s3.heap) (fun a o e => ?_) (a := D) (o := { cls := .type "list", data := .seq ws.toArray nD }) ?_ ⟨ws, nD, rfl, hws⟩ hDfz
        · have : a ≠ D := by rintro rfl; rw [hDfz] at e; cases e
          unfold HM.frz at e ⊢
          split
          · rename_i q; rw [if_pos q] at e; exact e
          · rename_i q; rw [if_neg q] at e; rw [HM.set_ne _ _ this]; exact e
        · simp only [HM.frz, if_neg hDw, HM.set_same]
      have hD5 : H5 D = none := (back (W.body hw' hfp' S3 hH3 t3 S5).1).2
      have hDfz : (F1.frz wr s3.heap) D = none := by simp only [HM.frz, if_neg hDw]; exact hDF
      refine wpAny_mono (h5 _ s5 S5D hD5 hDfz) (fun fin s6 ⟨efin, ys', m6, H6, S6, hD6, m7, H7, l1, l2, i7⟩ => ?_) fun _ _ e => e.elim
      subst efin
      have S3b := (back S3).1
      have hH3b : ∀ b ∈ wr, (H2.set D (.list ys)) b = none := fun b hb => by rw [HM.set_ne _ _ (fun (e : b = D) => hDw (by rw [← e]; exact hb))]; exact hH3 b hb
      obtain ⟨S6', hH6, t6⟩ := W.body hw hfp S3b hH3b t3 S6
      refine ⟨rfl, xs.length - (k + 1), by omega, k + 1, ys', m7, H7, rfl, hlt, (S6'.weakm l1).weak (HM.set_le _ _ l2), l2.none hD6, fun b hb => l2.none ?_, t6, i7⟩
      have := hH6 b hb
      rwa [HM.set_ne _ _ (fun (e : b = D) => hDw (by rw [← e]; exact hb))] at this
    | false =>
      rw [if_neg Bool.false_ne_true] at h5 ⊢
      obtain ⟨m7, H7, l1, l2, i7⟩ := h5
      obtain ⟨S5', hH5, t5⟩ := W.body hw' hfp' S3 hH3 t3 S5
      obtain ⟨S6, hD6⟩ := back S5'
      exact (wpAny_pure ⟨rfl, xs.length - (k + 1), by omega, k + 1, ys, m7, H7, rfl, hlt, (S6.weakm l1).weak (HM.set_le _ _ l2), l2.none hD6, fun b hb => l2.none (hH5 b hb), t5, i7⟩)
  · have hk' : k = xs.length := by omega
    subst hk'
    refine wpAny_mono (W.done s' (fun s'' => St c m' (H'.set D (.list ys)) F1 s'') _ t fun h' tk kp => S.keepsBut (fun b hb => ⟨?_, hw b hb⟩) kp) (fun r s4 ⟨e, S4⟩ => ?_) fun _ _ e => e
    · rw [HM.set_ne _ _ (fun (e : b = D) => hDw (by rw [← e]; exact hb))]; exact hH b hb
    · subst e
      exact wpAny_pure (hR ys m' H' s4 S4 hD hH iv)
end
end Mine
end

section
open PySem PySem.W PySem.Calls PyProof.Rows
set_option linter.all false
set_option maxRecDepth 100000
namespace Mine

section
variable {c : FC} {K : Frag} {n : Nat} {m : LM} {H F F1 : HM} {X : XM} {s : Shared}

theorem St.addF (S : St c m H F s) {a : Addr} {o : Obj} (ha : H a = none) (h1 : a ≠ c.env.locals) (h2 : c.s₀.heap.get? a = none) (h3 : s.heap.get? a = some o) : St c m H (F.set a (.raw o)) s := by
  refine ⟨S.same, S.base, S.ns, S.lb, fun b => ?_, S.hp, fun b bo e => ?_⟩
  · by_cases hb : b = a
    · subst hb; exact .inl ha
    · rw [HM.set_ne _ _ hb]; exact S.dj b
  · by_cases hb : b = a
    · subst hb; rw [HM.set_same] at e; cases e; exact ⟨h1, h2, o, h3, rfl⟩
    · rw [HM.set_ne _ _ hb] at e; exact S.fp b bo e

/-- the turns of a comprehension, whatever stands in it -/
def Turns (c' : FC) (elt : Expr) (gens : List Comprehension) (scope : Scope) (pos : Pos) (tgt : Expr) (xs : List Value) (tup : Bool) (Hd : HM) (Qf : List Value → HM → Prop) : Prop :=
  ∀ {D I : Addr} {fp wr : List Addr} {T : Nat → Heap → Prop} {F1 : HM} {s : Shared}, Walk c'.prog c'.w c'.A tgt I fp wr xs tup T → (∀ b ∈ wr, F1 b = none ∧ b ≠ c'.env.locals ∧ c'.s₀.heap.get? b = none) → (∀ b ∈ fp, b ∉ wr → ∃ o, F1 b = some (.raw o)) → D ∉ wr → F1 D = none →
    St c' [] (Hd.set D (.list [])) F1 s → Hd D = none → (∀ b ∈ wr, Hd b = none) → T 0 s.heap → ∀ {R : Result → Shared → Prop}, (∀ ys m' H' s', St c' m' (H'.set D (.list ys)) F1 s' → H' D = none → Qf ys H' → R (.ok .next) s') →
    codeAny (model c'.prog c'.w) c'.A (.compLoop (.ListComp elt gens scope pos) 0 (.ref I) (.ref D) c'.env) R s

theorem comp_enter {elt tgt iter : Expr} {ifs : List Expr} {gens : List Comprehension} {scope : Scope} {cl : List (Str × Addr)} {pos : Pos} {xs : List Value} {tup : Bool} {Hd : HM} {back : HM → HM} {I : Addr} {fp wr : List Addr} {T : Nat → Heap → Prop}
    {H1 : HM} {E : Value → Shared → Prop} {RR : Value → Addr → Result → Shared → Prop} {Qf : List Value → HM → Prop} (hh : c.A.handled = none) (hkind : scope.kind = .function) (hcell : ∀ y ∈ scope.names, y.2 ≠ .cell)
    (st : Start c m H1 Hd F1 F back tgt xs tup I fp wr T s)
    (turns : ∀ C, Turns (c.comp scope cl C) elt (⟨tgt, iter, ifs, 0⟩ :: gens) scope pos tgt xs tup Hd Qf)
    (hRR : ∀ D C ys H' s' mC, H1 D = none → H' D = none → Qf ys H' → s'.heap.Ns C mC → C ≠ c.env.locals → c.s₀.heap.get? C = none → (H'.set D (.list ys)) C = none → F1 C = none → St c m (H'.set D (.list ys)) F1 s' → RR (.ref D) C (.ok .next) s') :
    wpAny (model c.prog c.w) c.A (newList []) (fun acc s₃ => wpAny (model c.prog c.w) c.A (newFunctionEnv scope c.env.globals cl [] c.env.qual none .none (some c.env)) (fun cenv s₄ =>
      codeAny (model c.prog c.w) c.A (.compStart (.ListComp elt (⟨tgt, iter, ifs, 0⟩ :: gens) scope pos) 0 (.ref I) acc { cenv with scope := relabel scope c.env }) (RR acc cenv.locals) s₄) E s₃) E s := by
  have W := st.walk c.A hh
  obtain ⟨oL, hL⟩ := st.st.frame
  obtain ⟨f1, f2, f3, f4⟩ := st.st.fresh
  refine wpAny_newObj_type (wpAny_newFunctionEnv hcell (by intro y hy; simp at hy) (fun h₁ hns₁ hsb₁ => ?_) hkind)
  dsimp only at hns₁ hsb₁ ⊢
  generalize hH2 : s.heap.push { cls := .type "list", dict := none, data := .seq ([] : List Value).toArray } = H2 at hns₁ hsb₁ ⊢
  have hC : H2.objs.size = s.heap.objs.size + 1 := by rw [← hH2, Heap.size_push]
  have hCle : s.heap.objs.size ≤ H2.objs.size := by rw [hC]; exact Nat.le_succ _
  have hDC : s.heap.objs.size ≠ H2.objs.size := by rw [hC]; exact Nat.ne_of_lt (Nat.lt_succ_self _)
  obtain ⟨g1, g2, g3, g4⟩ := st.st.above hCle
  have old : ∀ b o, s.heap.get? b = some o → h₁.get? b = some o := fun b o e => hsb₁.extBut b o (Nat.ne_of_lt (by rw [hC]; exact Nat.lt_succ_of_lt (Heap.lt_size e))) (Heap.get?_push_of_some _ (hH2 ▸ Heap.get?_push_of_some _ e))
  have hDo : h₁.get? s.heap.objs.size = some { cls := .type "list", dict := none, data := .seq ([] : List Value).toArray 0 } := hsb₁.extBut _ _ hDC (Heap.get?_push_of_some _ (hH2 ▸ Heap.get?_push_size _ rfl))
  have below : ∀ b ∈ wr, b < s.heap.objs.size := fun b hb => by obtain ⟨o, ho⟩ := W.obj 0 _ st.t0 b hb; exact Heap.lt_size ho
  have hDw : s.heap.objs.size ∉ wr := fun q => Nat.lt_irrefl _ (below _ q)
  have loop : ∀ s₃ : Shared, s₃ = { s with heap := h₁, toks := s.toks + ([] : List (Str × Value)).length } → T 0 s₃.heap ∧
      codeAny (model c.prog c.w) c.A (.compLoop (.ListComp elt (⟨tgt, iter, ifs, 0⟩ :: gens) scope pos) 0 (.ref I) (.ref s.heap.objs.size) (compEnvC scope cl H2.objs.size c.env)) (RR (.ref s.heap.objs.size) H2.objs.size) s₃ := by
    rintro s₃ rfl
    have t0 : T 0 h₁ := W.frame 0 _ _ st.t0 fun b _ o e => old b o e
    refine ⟨t0, ?_⟩
    have S4 : St (c.comp scope cl H2.objs.size) [] (Hd.set s.heap.objs.size (.list [])) (F1.set c.env.locals (.raw oL)) { s with heap := h₁, toks := s.toks + ([] : List (Str × Value)).length } := by
      refine St.other (c' := c.comp scope cl H2.objs.size) st.st rfl hL old (by exact hCle) hns₁ (fun y u hy => by cases hy) fun a ao e => ?_
      by_cases ha : a = s.heap.objs.size
      · subst ha
        rw [HM.set_same] at e; cases e
        exact .inr ⟨Nat.le_refl _, hDC, _, hDo, [], 0, rfl, rfl⟩
      · rw [HM.set_ne _ _ ha] at e; exact .inl e
    refine turns H2.objs.size W (fun b hb => ⟨?_, Nat.ne_of_lt (Nat.lt_of_lt_of_le (below b hb) hCle), (st.wrH b hb).2.2.2⟩) (fun b hb hbw => ?_) hDw ?_ S4 f1 (fun b hb => (st.wrH b hb).1) t0 fun ys m' H' s' S' hD hq => ?_
    · rw [HM.set_ne _ _ (st.wrH b hb).2.2.1]; exact (st.wrH b hb).2.1
    · obtain ⟨o, ho⟩ := st.fpF b hb hbw
      exact ⟨o, by rw [HM.set_ne _ _ (st.st.fp _ _ ho).1]; exact ho⟩
    · rw [HM.set_ne _ _ f3]; exact f2
    · have Sh := St.home (c' := c.comp scope cl H2.objs.size) st.st rfl hL S'
      obtain ⟨mr, n1, _⟩ := S'.ns
      exact hRR _ H2.objs.size ys H' s' mr (st.hi _ (Nat.le_refl _)) hD hq n1 g3 g4 S'.hl g2 Sh
  exact codeAny_compStart_list (loop _ rfl).2 (W.self 0 _ _ _ (loop _ rfl).1 (loop _ rfl).2)

theorem Ev.compG {elt tgt iter : Expr} {ifs : List Expr} {gens : List Comprehension} {scope : Scope} {cl : List (Str × Addr)} {pos : Pos} {Q : Value → HM → Prop} (hh : c.A.handled = none)
    (hclos : closureFor scope c.env = pure cl) (hkind : scope.kind = .function) (hcell : ∀ y ∈ scope.names, y.2 ≠ .cell) (hnames : ∀ y ∈ scope.names, y.2 = .local → scope.names.lookup y.1 = some .local)
    (h : Ev c iter m H (fun v H1 => ∃ xs tup Hd back, Src H1 tgt v xs tup Hd back ∧ ∃ Qf, (∀ C, Turns (c.comp scope cl C) elt (⟨tgt, iter, ifs, 0⟩ :: gens) scope pos tgt xs tup Hd Qf) ∧
      (∀ D ys H', H1 D = none → H' D = none → Qf ys H' → Q (.ref D) (back (H'.set D (.list ys))))) X)
    (hs : ∀ x, foldedSetIterable iter c.env x = pure x) : Ev c (.ListComp elt (⟨tgt, iter, ifs, 0⟩ :: gens) scope pos) m H Q X := fun G s St' => by
  show wpAny _ _ (comprehension (.ListComp elt (⟨tgt, iter, ifs, 0⟩ :: gens) scope pos) scope c.env _ (newList []) false (eval iter c.env) none) _ _ s
  refine wpAny_comprehension_free (use := none) rfl hs hclos hkind hnames (wpAny_mono (h G s St') (fun V s1 ⟨H1, S1, xs, tup, Hd, back, src, Qf, turns, fin⟩ => ?_) fun _ _ e => e)
  refine src.start hh rfl S1 fun I fp wr F1 T s2 st => ?_
  refine comp_enter (RR := fun acc C => compPost (model c.prog c.w) c.A (X G) none (fun V s' => ∃ H', St c m H' G s' ∧ Q (er V) H') acc C) hh hkind hcell st turns fun D C ys H' s' mC q1 q2 q3 nC q4 q5 q6 q7 S' => ?_
  exact ⟨mC, nC, fun h' hs' => ⟨_, st.back c m _ _ (S'.keepsBut (wr := [C]) (t := s'.toks) (fun b hb => by obtain rfl := List.mem_singleton.mp hb; exact ⟨q6, q7, q4, q5⟩) fun b o hb e => hs'.extBut b o (fun e' => hb (by rw [e']; exact List.mem_singleton.mpr rfl)) e), fin D ys H' q1 q2 q3⟩⟩

theorem Ex.asgC {elt tgt iter : Expr} {ifs : List Expr} {gens : List Comprehension} {scope : Scope} {cl : List (Str × Addr)} {pos spos : Pos} {y : Str} {py : Pos} {Q : Flow → LM → HM → Prop} (hh : c.A.handled = none)
    (hsw : swapsWith (.ListComp elt (⟨tgt, iter, ifs, 0⟩ :: gens) scope pos) (some (.Name y py)) spos.line c.env = pure true) (hk : c.env.scope.kind = .function) (hy : c.env.kindOf y = some .local)
    (hclos : closureFor scope c.env = pure cl) (hkind : scope.kind = .function) (hcell : ∀ y ∈ scope.names, y.2 ≠ .cell) (hnames : ∀ y ∈ scope.names, y.2 = .local → scope.names.lookup y.1 = some .local)
    (h : Ev c iter m H (fun v H1 => ∃ xs tup Hd back, Src H1 tgt v xs tup Hd back ∧ ∃ Qf, (∀ C, Turns (c.comp scope cl C) elt (⟨tgt, iter, ifs, 0⟩ :: gens) scope pos tgt xs tup Hd Qf) ∧
      (∀ D ys H', H1 D = none → H' D = none → Qf ys H' → Q .next ((y, .ref D) :: m) (back (H'.set D (.list ys))))) X)
    (hs : ∀ x, foldedSetIterable iter c.env x = pure x) : Ex c (.Assign [.Name y py] (.ListComp elt (⟨tgt, iter, ifs, 0⟩ :: gens) scope pos) spos) m H Q X := fun G s St' => by
  rw [exec_Assign_Name_used _ _ _ _ hsw]
  refine wpAny_bind (wpAny_standAt (wpAny_bind ?_))
  show wpAny _ c.A (do let _ ← comprehension (.ListComp elt (⟨tgt, iter, ifs, 0⟩ :: gens) scope pos) scope c.env _ (newList []) false (eval iter c.env) (some (assign (.Name y py) c.env))) _ _ s
  refine wpAny_bind (wpAny_mono (wpAny_comprehension_free (use := some (assign (.Name y py) c.env)) (Q := fun _ s' => ∃ m' H', St c m' H' G s' ∧ Q .next m' H') rfl hs hclos hkind hnames
    (wpAny_mono (h G s St') (fun V s1 ⟨H1, S1, xs, tup, Hd, back, src, Qf, turns, fin⟩ => ?_) fun _ _ e => e)) (fun _ s' hq => wpAny_pure (wpAny_pure hq)) fun _ _ e => e)
  refine src.start hh rfl S1 fun I fp wr F1 T s2 st => ?_
  refine comp_enter (RR := fun acc C => compPost (model c.prog c.w) c.A (X G) (some (assign (.Name y py) c.env)) (fun _ s' => ∃ m' H', St c m' H' G s' ∧ Q .next m' H') acc C) hh hkind hcell st turns fun D C ys H' s' mC q1 q2 q3 nC q4 q5 q6 q7 S' => ?_
  show wpAny _ c.A (assign (.Name y py) c.env (.ref D)) _ _ s'
  obtain ⟨oC, _, _, hC, _⟩ := id nC
  have S2 := S'.addF q6 q4 q5 hC
  obtain ⟨mr, n1, n2⟩ := S2.ns
  refine wpAny_assign_Name (wpAny_storeName_local hy n1 (fun h' hn hs' => ?_) (by rw [hk]; rfl))
  have S3 := S2.setName (t := s'.toks + 1) n2 (V := .ref D) rfl hn hs'
  refine ⟨mC, nC.sameBut hs' q4, fun h'' hs'' => ?_⟩
  have S4 := (S3.weakF (HM.le_set _ q7)).keepsBut (wr := [C]) (h' := h'') (t := s'.toks + 1) (fun b hb => by obtain rfl := List.mem_singleton.mp hb; exact ⟨q6, q7, q4, q5⟩) fun b o hb e => hs''.extBut b o (fun e' => hb (by rw [e']; exact List.mem_singleton.mpr rfl)) e
  exact ⟨_, _, st.back c _ _ _ S4, fin D ys H' q1 q2 q3⟩

/-- one clause -/
theorem Turns.one {c' : FC} {elt tgt iter : Expr} {ifs : List Expr} {scope : Scope} {pos : Pos} {xs : List Value} {tup : Bool} {Hd : HM} {Qf : List Value → HM → Prop} (Inv : Nat → List Value → LM → HM → Prop) (h0 : Keep (Inv 0 []) [] Hd)
    (step : ∀ k x ys m' H', xs[k]? = some x → Inv k ys m' H' → Yld tup k x H' (fun v' H2 => Tgt c' tgt v' m' H2 (fun m3 H3 => TestsJ c' ifs m3 H3 (fun ok H4 =>
      if ok = true then ys.length ≤ 16000000 ∧ Ev c' elt m3 H4 (fun y H5 => Keep (Inv (k + 1) (ys ++ [y])) m3 H5) XF else Keep (Inv (k + 1) ys) m3 H4) XF) XF))
    (fin : ∀ ys m' H', Inv xs.length ys m' H' → Qf ys H') : Turns c' elt [⟨tgt, iter, ifs, 0⟩] scope pos tgt xs tup Hd Qf := by
  intro D I fp wr T F1 s W hw hfp hDw hDF S hD hH t0 R hR
  obtain ⟨m6, H6, l1, l2, i6⟩ := h0
  refine comp_turns (c := c') (inner := fun it => emitT elt (.ref D) c'.env >>= fun _ => again (.compLoop (.ListComp elt [⟨tgt, iter, ifs, 0⟩] scope pos) 0 it (.ref D) c'.env)) (fun it => turn_one ..) W hw hfp hDw hDF Inv (fun k x ys m' H' hx iv => ?_) i6 ((S.weakm l1).weak (HM.set_le _ _ l2)) (l2.none hD) (fun b hb => l2.none (hH b hb)) t0 fun ys m' H' s' S' hD' _ iv => hR ys m' H' s' S' hD' (fin ys m' H' iv)
  have st := step k x ys m' H' hx iv
  have up : ∀ v' H2, Tgt c' tgt v' m' H2 (fun m3 H3 => TestsJ c' ifs m3 H3 (fun ok H4 => if ok = true then ys.length ≤ 16000000 ∧ Ev c' elt m3 H4 (fun y H5 => Keep (Inv (k + 1) (ys ++ [y])) m3 H5) XF else Keep (Inv (k + 1) ys) m3 H4) XF) XF →
      Tgt c' tgt v' m' H2 (fun m3 H3 => TestsJ c' ifs m3 H3 (fun ok H4 => if ok = true then InnerJ c' (emitT elt (.ref D) c'.env >>= fun _ => again (.compLoop (.ListComp elt [⟨tgt, iter, ifs, 0⟩] scope pos) 0 (.ref I) (.ref D) c'.env)) (.compLoop (.ListComp elt [⟨tgt, iter, ifs, 0⟩] scope pos) 0 (.ref I) (.ref D) c'.env) D ys m3 H4 (fun ys' m5 H5 => Keep (Inv (k + 1) ys') m5 H5) else Keep (Inv (k + 1) ys) m3 H4) XF) XF := by
    intro v' H2 h V e
    refine (h V e).mono (fun m3 H3 h3 => h3.mono (fun ok H4 h4 => ?_) fun _ _ _ x => x) fun _ _ _ x => x
    cases ok with
    | true => rw [if_pos rfl] at h4 ⊢; exact InnerJ.emit h4.1 h4.2
    | false => rw [if_neg Bool.false_ne_true] at h4 ⊢; exact h4
  cases tup with
  | false => exact up _ _ st
  | true => exact fun a ha => up _ _ (st a ha)
end
end Mine
end

section
open PySem PySem.W PySem.Calls PyProof.Rows PySem.Builtin PySem.Builtin.Str
set_option linter.all false
set_option maxRecDepth 100000
namespace Mine

/-! ## plain text functions, and what the library's ones are -/
theorem sub_take {l y : List Nat} {i : Nat} (hy : i + y.length ≤ l.length) : subAt (S l) (S y) i = y.isPrefixOf (l.drop i) := by
  rw [StrLaws.subAt_eq, S_toList, S_toList, Bool.eq_iff_iff, beq_iff_eq, List.isPrefixOf_iff_prefix, S_length]
  constructor
  · intro h; rw [← h]; exact List.take_prefix ..
  · rintro ⟨t, h⟩; rw [← h]; simp

/-- where y stands in l, from the left, none within another -/
def occG (y : List Nat) : List Nat → Nat → Nat → List Nat
  | [], _, _ => []
  | c :: r, i, 0 => if y.isPrefixOf (c :: r) then i :: occG y r (i + 1) (y.length - 1) else occG y r (i + 1) 0
  | _ :: r, i, k + 1 => occG y r (i + 1) k

theorem occ_run {l y : List Nat} (hy : y ≠ []) (lim : Nat) : ∀ (suf : List Nat) (i : Nat) (acc : Array Nat) (free : Nat), l.drop i = suf → i + suf.length = l.length → acc.size + suf.length ≤ lim →
    (forIn (List.range' i (suf.length + 1)) (acc, free) (StrLaws.occBody (S l) (S y) l.length lim)).run.fst.toList = acc.toList ++ occG y suf i (free - i)
  | [], i, acc, free, hd, hi, hl => by
    have h0 : 0 < y.length := List.length_pos_iff.mpr hy
    have hi : i = l.length := by simpa using hi
    subst hi
    change Array.toList (Prod.fst (Id.run (forIn (m := Id) (List.range' l.length 1) (acc, free) (StrLaws.occBody (S l) (S y) l.length lim)))) = _
    rw [List.range'_succ, List.forIn_cons]
    unfold StrLaws.occBody
    rw [if_neg (by rw [S_length]; omega)]
    show acc.toList = acc.toList ++ []
    rw [List.append_nil]
  | c :: r, i, acc, free, hd, hi, hl => by
    have h0 : 0 < y.length := List.length_pos_iff.mpr hy
    have hr : l.drop (i + 1) = r := by rw [← List.drop_drop, hd]; rfl
    have hlen : (c :: r).length = r.length + 1 := rfl
    rw [hlen, List.range'_succ, List.forIn_cons]
    rw [hlen] at hi hl
    unfold StrLaws.occBody
    by_cases hf : free ≤ i
    · have hz : free - i = 0 := by omega
      rw [hz]
      by_cases hp : y.isPrefixOf (c :: r) = true
      · have hyl : y.length ≤ r.length + 1 := by have := (List.isPrefixOf_iff_prefix.mp hp).length_le; simpa using this
        rw [if_pos ⟨⟨⟨by show acc.size < lim; omega, hf⟩, by rw [S_length]; omega⟩, by rw [sub_take (by omega), hd]; exact hp⟩]
        have ih := occ_run hy lim r (i + 1) (acc.push i) (i + y.length) hr (by omega) (by rw [Array.size_push]; omega)
        change Array.toList (Prod.fst (Id.run (forIn (m := Id) (List.range' (i + 1) (r.length + 1)) (acc.push i, i + (S y).length) (StrLaws.occBody (S l) (S y) l.length lim)))) = _
        rw [S_length, ih]
        simp only [occG, hp, if_true, Array.toList_push, List.append_assoc, List.singleton_append]
        rw [show i + y.length - (i + 1) = y.length - 1 from by omega]
      · rw [if_neg (fun h => hp (by have h1 := h.1.2; have h2 := h.2; rw [S_length] at h1; rw [sub_take h1, hd] at h2; exact h2))]
        have ih := occ_run hy lim r (i + 1) acc free hr (by omega) (by omega)
        change Array.toList (Prod.fst (Id.run (forIn (m := Id) (List.range' (i + 1) (r.length + 1)) (acc, free) (StrLaws.occBody (S l) (S y) l.length lim)))) = _
        rw [ih]
        simp only [occG, hp, if_false, Bool.false_eq_true]
        rw [show free - (i + 1) = 0 from by omega]
    · rw [if_neg (fun h => hf h.1.1.2)]
      obtain ⟨k, hk⟩ : ∃ k, free - i = k + 1 := ⟨free - i - 1, by omega⟩
      have ih := occ_run hy lim r (i + 1) acc free hr (by omega) (by omega)
      change Array.toList (Prod.fst (Id.run (forIn (m := Id) (List.range' (i + 1) (r.length + 1)) (acc, free) (StrLaws.occBody (S l) (S y) l.length lim)))) = _
      rw [ih, hk]
      simp only [occG]
      rw [show free - (i + 1) = k from by omega]
theorem occ_all {l y : List Nat} (hy : y ≠ []) : occurrences (S l) (S y) 0 l.length (l.length + 1) = occG y l 0 0 := by
  rw [StrLaws.occ_eq]
  have := occ_run (l := l) hy (l.length + 1) l 0 #[] 0 rfl (by omega) (by simp)
  simpa using this
def cntL (y l : List Nat) : Nat := (occG y l 0 0).length
theorem count_eq {l y : List Nat} (hy : y ≠ []) : Txt.count (S l) (S y) = (cntL y l : Nat) := by
  unfold Txt.count cntL
  rw [S_length, occ_all hy]

/-- l.split(y) -/
def splitG (y : List Nat) : List Nat → List Nat → Nat → List (List Nat)
  | [], cur, _ => [cur]
  | c :: r, cur, 0 => if y.isPrefixOf (c :: r) then cur :: splitG y r [] (y.length - 1) else splitG y r (cur ++ [c]) 0
  | _ :: r, cur, k + 1 => splitG y r cur k
def splitL (y l : List Nat) : List (List Nat) := splitG y l [] 0

theorem strSub_S (l : List Nat) (i j : Nat) : strSub (S l) i j = S ((l.take j).drop i) := by
  unfold strSub S
  simp [List.extract_eq_take_drop, List.drop_take]
theorem split_run {l y : List Nat} (hy : y ≠ []) : ∀ (suf : List Nat) (i k st : Nat) (cur : List Nat), l.drop i = suf → i + suf.length = l.length → k ≤ suf.length → (l.take i).drop st = cur → st ≤ i + k → (k ≠ 0 → st = i + k) →
    (((st :: (occG y suf i k).map (· + y.length)).zip (occG y suf i k ++ [l.length])).map fun (p : Nat × Nat) => strSub (S l) p.1 p.2) = (splitG y suf cur k).map S
  | [], i, k, st, cur, hd, hi, hk, hc, hst, hst' => by
    have hk0 : k = 0 := by simpa using hk
    have hi : i = l.length := by simpa using hi
    subst hi hk0
    simp only [occG, splitG, List.map_nil, List.nil_append, List.zip_cons_cons, List.zip_nil_left, List.map_cons, List.cons.injEq, and_true]
    rw [strSub_S, hc]
  | c :: r, i, 0, st, cur, hd, hi, hk, hc, hst, hst' => by
    have h0 : 0 < y.length := List.length_pos_iff.mpr hy
    have hr : l.drop (i + 1) = r := by rw [← List.drop_drop, hd]; rfl
    have hi' : i + 1 + r.length = l.length := by simp only [List.length_cons] at hi; omega
    by_cases hp : y.isPrefixOf (c :: r) = true
    · have hyl : y.length ≤ r.length + 1 := by have := (List.isPrefixOf_iff_prefix.mp hp).length_le; simpa using this
      have ih := split_run hy r (i + 1) (y.length - 1) (i + y.length) [] hr hi' (by omega) (by rw [List.drop_eq_nil_iff]; simp; omega) (by omega) (by omega)
      simp only [occG, splitG, hp, if_true, List.map_cons, List.cons_append, List.zip_cons_cons]
      rw [← ih, strSub_S, hc]
    · have ih := split_run hy r (i + 1) 0 st (cur ++ [c]) hr hi' (by omega) (by
        have e : l.take (i + 1) = l.take i ++ [c] := by
          rw [List.take_add_one]
          have : l[i]? = some c := by
            have := congrArg List.head? hd
            rw [List.head?_drop] at this; exact this
          rw [this]; rfl
        rw [e, List.drop_append_of_le_length (by rw [List.length_take]; omega), hc]) (by omega) (by omega)
      simp only [occG, splitG, hp, if_false, Bool.false_eq_true]
      exact ih
  | c :: r, i, k + 1, st, cur, hd, hi, hk, hc, hst, hst' => by
    have hr : l.drop (i + 1) = r := by rw [← List.drop_drop, hd]; rfl
    have hi' : i + 1 + r.length = l.length := by simp only [List.length_cons] at hi; omega
    have est := hst' (by omega)
    have hcn : cur = [] := by rw [← hc, List.drop_eq_nil_iff]; simp; omega
    subst hcn
    have ih := split_run hy r (i + 1) k st [] hr hi' (by simp only [List.length_cons] at hk; omega) (by
      by_cases hk0 : st ≤ i
      · omega
      · rw [List.drop_eq_nil_iff]; simp; omega) (by omega) (by omega)
    simp only [occG, splitG]
    exact ih
theorem split_parts {l y : List Nat} (hy : y ≠ []) : partsBetween (S l) (occurrences (S l) (S y) 0 (S l).length ((S l).length + 1)) (S y).length = (splitL y l).map S := by
  rw [S_length, occ_all hy]
  unfold partsBetween
  rw [S_length, S_length]
  exact split_run hy l 0 0 0 [] rfl (by omega) (by omega) rfl (by omega) (by omega)
theorem splitG_none {y : List Nat} (hy : y ≠ []) : ∀ (suf cur : List Nat) (i : Nat), occG y suf i 0 = [] → splitG y suf cur 0 = [cur ++ suf]
  | [], cur, i, _ => by simp [splitG]
  | c :: r, cur, i, h => by
    by_cases hp : y.isPrefixOf (c :: r) = true
    · simp [occG, hp] at h
    · simp only [occG, hp, if_false, Bool.false_eq_true] at h
      simp only [splitG, hp, if_false, Bool.false_eq_true]
      rw [splitG_none hy r _ _ h]; simp

/-! ### strip -/
def lstripL (p : Nat → Bool) (l : List Nat) : List Nat := l.dropWhile p
def rstripL (p : Nat → Bool) (l : List Nat) : List Nat := (l.reverse.dropWhile p).reverse
def stripL (p : Nat → Bool) (l : List Nat) : List Nat := rstripL p (lstripL p l)
theorem drop_takeWhile (p : Nat → Bool) (l : List Nat) : l.drop (l.takeWhile p).length = l.dropWhile p := by
  have h := List.takeWhile_append_dropWhile (p := p) (l := l)
  have := congrArg (List.drop (l.takeWhile p).length) h
  rw [List.drop_left] at this
  exact this.symm
theorem take_rstrip (p : Nat → Bool) (l : List Nat) : l.take (l.length - (l.reverse.takeWhile p).length) = rstripL p l := by
  unfold rstripL
  rw [← drop_takeWhile p l.reverse, List.drop_reverse, List.reverse_reverse]
theorem lstrip_S (g : Nat → Bool) (l : List Nat) : Txt.stripBy g true false (S l) = S (lstripL g l) := by
  rw [PyProof.Rows.stripBy_eq]
  unfold stripLo stripHi
  rw [S_toList, S_length, strSub_S]
  simp only [Bool.false_eq_true, if_false, if_true, List.take_length]
  rw [drop_takeWhile]; rfl
theorem rstrip_S (g : Nat → Bool) (l : List Nat) : Txt.stripBy g false true (S l) = S (rstripL g l) := by
  rw [PyProof.Rows.stripBy_eq]
  unfold stripLo stripHi
  rw [S_toList, S_length, strSub_S]
  simp only [Bool.false_eq_true, if_false, if_true, List.drop_zero]
  rw [take_rstrip]
theorem strip_S (g : Nat → Bool) (l : List Nat) : Txt.stripBy g true true (S l) = S (stripL g l) := by
  rw [PyProof.Rows.stripBy_eq]
  unfold stripLo stripHi
  rw [S_toList, S_length, strSub_S]
  simp only [if_true]
  rw [List.drop_take]
  unfold stripL lstripL
  rw [← take_rstrip, drop_takeWhile, ← drop_takeWhile g l, List.length_drop, Nat.sub_right_comm]

/-! ### one sign -/
theorem found1 (l : List Nat) (c : Nat) : (!(occurrences (S l) (S [c]) 0 (S l).length 1).isEmpty) = decide (c ∈ l) := StrLaws.found_one (S l) c
theorem index1 {l : List Nat} {c : Nat} (h : c ∈ l) : ∃ r, occurrences (S l) (S [c]) 0 (S l).length 1 = l.idxOf c :: r := by
  rcases StrLaws.occ_head (S l) (S [c]) 1 (Nat.le_refl 1) with ⟨e, _⟩ | ⟨i, r, e, hat, hno⟩
  · have := found1 l c
    rw [e] at this; simp [h] at this
  · refine ⟨r, ?_⟩
    rw [e]
    have at1 : ∀ k, StrLaws.At (S l) (S [c]) (S l).length k ↔ l[k]? = some c := fun k => StrLaws.subAt_one (S l) c k
    have hi := (at1 i).mp hat
    have : l.idxOf c = i := by
      obtain ⟨hlt, hge⟩ := List.getElem?_eq_some_iff.mp hi
      rcases Nat.lt_trichotomy (l.idxOf c) i with q | q | q
      · exfalso
        refine hno _ q ((at1 _).mpr ?_)
        have hl := List.idxOf_lt_length_of_mem h
        rw [List.getElem?_eq_getElem hl]
        have := List.findIdx_getElem (xs := l) (p := (· == c)) (w := hl)
        exact congrArg some (by simpa using this)
      · exact q
      · exfalso
        have := List.not_of_lt_findIdx (p := (· == c)) (xs := l) q
        rw [hge] at this; simp at this
    rw [this]

/-! ### join -/
def joinL (sep : List Nat) : List (List Nat) → List Nat
  | [] => []
  | [x] => x
  | x :: y :: r => x ++ sep ++ joinL sep (y :: r)
theorem foldl_glue (g : Array Nat) : ∀ (l : List Str) (a : Array Nat), l.foldl (fun acc p => acc ++ g ++ p.cps) a = a ++ (l.foldl (fun acc p => acc ++ g ++ p.cps) #[])
  | [], a => by simp
  | p :: r, a => by
    rw [List.foldl_cons, List.foldl_cons, foldl_glue g r, foldl_glue g r (#[] ++ g ++ p.cps)]
    simp [Array.append_assoc]
theorem glued_S (sep : List Nat) : ∀ (ps : List (List Nat)), glued (S sep) (ps.map S) = S (joinL sep ps)
  | [] => rfl
  | [x] => by simp [glued, joinL, S]
  | x :: y :: r => by
    have ih := glued_S sep (y :: r)
    unfold glued at ih ⊢
    simp only [List.map_cons, List.drop_succ_cons, List.drop_zero, List.headD_cons, List.foldl_cons] at ih ⊢
    unfold joinL
    have ih := congrArg Str.cps ih
    simp only [S_cps] at ih
    rw [foldl_glue] at ih ⊢
    simp only [S_cps, Array.append_assoc] at ih ⊢
    rw [ih]
    simp [S]
end Mine
end

section
open PySem PySem.W PySem.Calls PyProof.Rows PySem.Builtin PySem.Builtin.Str
set_option linter.all false
set_option maxRecDepth 100000
namespace Mine

/-! ### splitlines, no return sign in the text -/
def linesG : List Nat → List Nat → List (List Nat)
  | [], cur => if cur = [] then [] else [cur]
  | c :: r, cur => if Unicode.isLineBreak c = true then cur :: linesG r [] else linesG r (cur ++ [c])
def linesL (l : List Nat) : List (List Nat) := linesG l []
def spansG : List Nat → Nat → Nat → List (Nat × Nat × Nat)
  | [], i, st => if st < i then [(st, i, i)] else []
  | c :: r, i, st => if Unicode.isLineBreak c = true then (st, i, i + 1) :: spansG r (i + 1) (i + 1) else spansG r (i + 1) st

theorem ls_go {l : List Nat} (h13 : 13 ∉ l) : ∀ (suf : List Nat) (i st : Nat) (acc : Array (Nat × Nat × Nat)), l.drop i = suf → i + suf.length = l.length → st ≤ i →
    StrLaws.lsEnd (S l) (Id.run (forIn (m := Id) (List.range' i suf.length) (acc, st) (StrLaws.lsBody (S l)))) = acc.toList ++ spansG suf i st
  | [], i, st, acc, hd, hi, hs => by
    have hi : i = l.length := by simpa using hi
    subst hi
    show StrLaws.lsEnd (S l) (acc, st) = _
    unfold StrLaws.lsEnd spansG
    rw [S_length]
    split <;> simp
  | c :: r, i, st, acc, hd, hi, hs => by
    have hr : l.drop (i + 1) = r := by rw [← List.drop_drop, hd]; rfl
    have hc : l[i]? = some c := by
      have := congrArg List.head? hd
      rw [List.head?_drop] at this; exact this
    have hcd : (S l).cps.getD i 0 = c := by simp [S, Array.getD_eq_getD_getElem?, hc]
    have hn : StrLaws.lsNext (S l) i = i + 1 := by
      unfold StrLaws.lsNext
      rw [hcd, if_neg]
      intro q
      rw [Bool.and_eq_true, beq_iff_eq] at q
      exact h13 (q.1 ▸ List.mem_of_getElem? hc)
    have hlen : (c :: r).length = r.length + 1 := rfl
    rw [hlen] at hi ⊢
    rw [List.range'_succ, List.forIn_cons]
    unfold StrLaws.lsBody
    rw [hcd, hn]
    by_cases hb : Unicode.isLineBreak c = true
    · rw [if_pos (by rw [Bool.and_eq_true, decide_eq_true_eq]; exact ⟨hs, hb⟩)]
      have ih := ls_go h13 r (i + 1) (i + 1) (acc.push (st, i, i + 1)) hr (by omega) (Nat.le_refl _)
      change StrLaws.lsEnd (S l) (Id.run (forIn (m := Id) (List.range' (i + 1) r.length) (acc.push (st, i, i + 1), i + 1) (StrLaws.lsBody (S l)))) = _
      rw [ih]
      simp [spansG, hb]
    · rw [if_neg (by rw [Bool.and_eq_true]; exact fun q => hb q.2)]
      have ih := ls_go h13 r (i + 1) st acc hr (by omega) (by omega)
      change StrLaws.lsEnd (S l) (Id.run (forIn (m := Id) (List.range' (i + 1) r.length) (acc, st) (StrLaws.lsBody (S l)))) = _
      rw [ih]
      simp [spansG, hb]
theorem spans_lines {l : List Nat} : ∀ (suf : List Nat) (i st : Nat) (cur : List Nat), l.drop i = suf → i + suf.length = l.length → st ≤ i → (l.take i).drop st = cur →
    ((spansG suf i st).map fun (p : Nat × Nat × Nat) => strSub (S l) p.1 p.2.1) = (linesG suf cur).map S
  | [], i, st, cur, hd, hi, hs, hc => by
    have hl : cur.length = i - st := by
      rw [← hc]; simp only [List.length_drop, List.length_take]; simp at hi; omega
    unfold spansG linesG
    split
    · rw [if_neg (by intro q; rw [q] at hl; simp at hl; omega)]
      simp only [List.map_cons, List.map_nil]
      rw [strSub_S, hc]
    · rw [if_pos (List.length_eq_zero_iff.mp (by omega))]; rfl
  | c :: r, i, st, cur, hd, hi, hs, hc => by
    have hr : l.drop (i + 1) = r := by rw [← List.drop_drop, hd]; rfl
    have hlen : (c :: r).length = r.length + 1 := rfl
    rw [hlen] at hi
    have hci : l[i]? = some c := by
      have := congrArg List.head? hd
      rw [List.head?_drop] at this; exact this
    unfold spansG linesG
    split
    · have ih := spans_lines r (i + 1) (i + 1) [] hr (by omega) (Nat.le_refl _) (by rw [List.drop_eq_nil_iff]; simp; omega)
      rw [List.map_cons, List.map_cons, ih, strSub_S, hc]
    · refine spans_lines r (i + 1) st (cur ++ [c]) hr (by omega) (by omega) ?_
      rw [List.take_add_one, hci, List.drop_append_of_le_length (by rw [List.length_take]; omega), hc]; rfl
theorem lines_S {l : List Nat} (h13 : 13 ∉ l) : Txt.lines (S l) = (linesL l).map S := by
  have h1 : linesOf (S l) = (linesL l).map S := by
    unfold linesOf lineCuts linesL
    rw [StrLaws.ls_eq, S_length]
    have := ls_go h13 l 0 0 #[] rfl (by omega) (Nat.le_refl _)
    rw [this, ← spans_lines (l := l) l 0 0 [] rfl (by omega) (Nat.le_refl _) rfl]
    simp
  unfold Txt.lines
  split
  · rename_i q
    rw [beq_iff_eq] at q
    rw [← h1]
    unfold linesOf
    rw [q]
    simp only [List.map_cons, List.map_nil]
    rw [strSub_S, S_length]; simp
  · exact h1
theorem linesG_length : ∀ (l cur : List Nat), (linesG l cur).length ≤ l.length + 1
  | [], cur => by unfold linesG; split <;> simp
  | c :: r, cur => by
    unfold linesG
    split
    · have := linesG_length r []; simp; omega
    · have := linesG_length r (cur ++ [c]); simp; omega
theorem lineCuts_length {l : List Nat} (h13 : 13 ∉ l) : (lineCuts (S l)).length ≤ l.length + 1 := by
  have h1 : linesOf (S l) = (linesL l).map S := by
    unfold linesOf lineCuts linesL
    rw [StrLaws.ls_eq, S_length]
    have := ls_go h13 l 0 0 #[] rfl (by omega) (Nat.le_refl _)
    rw [this, ← spans_lines (l := l) l 0 0 [] rfl (by omega) (Nat.le_refl _) rfl]
    simp
  have := congrArg List.length h1
  unfold linesOf at this
  rw [List.length_map, List.length_map] at this
  rw [this]; exact linesG_length l []

/-! ### times -/
def timesL (l : List Nat) : Nat → List Nat
  | 0 => []
  | n + 1 => l ++ timesL l n
theorem times_one (x : Nat) : ∀ n, timesL [x] n = List.replicate n x
  | 0 => rfl
  | n + 1 => by rw [timesL, times_one x n]; rfl
theorem times_fold (l : List Nat) : ∀ (n : Nat) (a : Array Nat), (List.replicate n l.toArray).foldl (· ++ ·) a = a ++ (timesL l n).toArray
  | 0, a => by simp [timesL]
  | n + 1, a => by
    rw [List.replicate_succ, List.foldl_cons, times_fold l n]
    simp [timesL, Array.append_assoc]
theorem timesL_length (l : List Nat) : ∀ n, (timesL l n).length = l.length * n
  | 0 => rfl
  | n + 1 => by rw [timesL, List.length_append, timesL_length l n, Nat.mul_succ, Nat.add_comm]

/-! ### startswith -/
theorem starts_S (l y : List Nat) : Txt.startswith (S l) (S y) = y.isPrefixOf l := by
  unfold Txt.startswith
  rw [S_length, S_length]
  by_cases h : 0 + y.length ≤ l.length
  · rw [sub_take h, decide_eq_true h]; rfl
  · rw [decide_eq_false h, Bool.false_and, eq_comm, Bool.eq_false_iff]
    intro q
    have := (List.isPrefixOf_iff_prefix.mp q).length_le
    omega

theorem split_S {l y : List Nat} (hy : y ≠ []) (hk : ∀ x ∈ l, x < 256) (hk2 : ∀ x ∈ y, x < 256) : Txt.split (S l) (S y) = (splitL y l).map S := by
  have kd : ∀ z : List Nat, (∀ x ∈ z, x < 256) → Builtin.Str.strKind (S z) = 1 := fun z hz => by
    unfold Builtin.Str.strKind
    rw [if_pos (by simpa [S] using hz)]
  have none : occG y l 0 0 = [] → splitL y l = [l] := fun q => by
    unfold splitL; rw [splitG_none hy l [] 0 q]; rfl
  unfold Txt.split
  split
  · rename_i q
    rw [kd l hk, kd y hk2] at q
    simp only [Nat.lt_irrefl, decide_false, Bool.or_false, decide_eq_true_eq, S_length] at q
    rw [none]; · rfl
    cases ho : occG y l 0 0 with
    | nil => rfl
    | cons i r =>
      have := StrLaws.occ_head (S l) (S y) (l.length + 1) (by omega)
      rw [S_length, occ_all hy, ho] at this
      rcases this with ⟨e, _⟩ | ⟨i', r', e, hat, _⟩
      · cases e
      · have := hat.1; rw [S_length] at this; omega
  · split
    · rename_i q
      rw [S_length, occ_all hy, List.isEmpty_iff] at q
      rw [none q]; rfl
    · exact split_parts hy
end Mine
end

section
open PySem PySem.W PySem.Calls PyProof.Rows PySem.Builtin PySem.Builtin.Str
set_option linter.all false
set_option maxRecDepth 100000
namespace Mine

theorem call1 {as : List Value} {Vs : List Value} {a : Value} (h : Vs.map er = [a]) : ∃ V, Vs = [V] ∧ er V = a := by
  obtain ⟨V, r, rfl, e, h⟩ := ers_cons h
  obtain rfl := ers_nil h
  exact ⟨V, rfl, e⟩
theorem call2 {Vs : List Value} {a b : Value} (h : Vs.map er = [a, b]) : ∃ V W, Vs = [V, W] ∧ er V = a ∧ er W = b := by
  obtain ⟨V, r, rfl, e, h⟩ := ers_cons h
  obtain ⟨W, rfl, e'⟩ := call1 (as := []) h
  exact ⟨V, W, rfl, e, e'⟩
theorem kw0 {Ks : List (Str × Value)} (h : Ks.map (fun p => (p.1, er p.2)) = []) : Ks = [] := List.map_eq_nil_iff.mp h

section
variable {c : FC} {K : Frag} {n : Nat} {m : LM} {H F : HM} {X : XM} {s : Shared}

/-! ## texts -/
theorem O_in1 {x : Nat} {l : List Nat} {Q : Value → HM → Prop} (h : Q (VB (decide (x ∈ l))) H) : Op2 c (compareOp .In) (VT [x]) (VT l) m H Q X := fun A B e1 e2 G s St' => by
  obtain ⟨t, rfl⟩ := er_str e1; obtain ⟨u, rfl⟩ := er_str e2
  refine P.in_str ⟨H, St', ?_⟩
  rw [found1]; exact h
theorem O_notin1 {x : Nat} {l : List Nat} {Q : Value → HM → Prop} (h : Q (VB (!decide (x ∈ l))) H) : Op2 c (compareOp .NotIn) (VT [x]) (VT l) m H Q X := fun A B e1 e2 G s St' => by
  obtain ⟨t, rfl⟩ := er_str e1; obtain ⟨u, rfl⟩ := er_str e2
  refine P.notIn_str ⟨H, St', ?_⟩
  rw [found1]; exact h
theorem O_mulT {l : List Nat} {k : Int} {Q : Value → HM → Prop} (hk : k.natAbs < 2 ^ 31) (hl : l.length * k.toNat ≤ 16000000) (h : Q (VT (timesL l k.toNat)) H) : Op2 c (binaryOp .Mult) (VT l) (VI k) m H Q X := fun A B e1 e2 G s St' => by
  obtain ⟨t, rfl⟩ := er_str e1; obtain ⟨u, rfl⟩ := er_int e2
  refine P.mul_str (by rw [decide_eq_false (show ¬ k < -(2 ^ 63 : Int) from by omega), decide_eq_false (show ¬ k ≥ 2 ^ 63 from by omega)]; rfl) (fun h1 h2 => ?_) (fun h1 h2 => ?_) ?_
  · rw [S_length]
    have h3 : (k.toNat : Int) = k := Int.toNat_of_nonneg (by omega)
    have hl' : (l.length : Int) * k ≤ 16000000 := by rw [← h3, ← Int.natCast_mul]; exact Int.ofNat_le.mpr hl
    intro q
    have q2 := (Int.ediv_lt_iff_lt_mul (a := 2 ^ 63 - 1) (b := (l.length : Int)) (c := k) (by omega)).mp q
    omega
  · rw [S_length]; unfold tooLong; rw [decide_eq_false]; rw [sizeLine_eq]; omega
  · split
    · rename_i h1
      have : k.toNat = 0 := by omega
      rw [this] at h
      exact ⟨by decide, H, St'.toks _, h⟩
    · rename_i h1
      split
      · rename_i h2
        refine ⟨H, St', ?_⟩
        have e : timesL l k.toNat = l := by
          rcases (Bool.or_eq_true ..).mp h2 with q | q
          · rw [beq_iff_eq] at q; subst q; simp [timesL]
          · rw [beq_iff_eq, S_length] at q
            have := List.length_eq_zero_iff.mp q
            subst this
            exact List.length_eq_zero_iff.mp (by rw [timesL_length]; simp)
        rw [e] at h; exact h
      · have e : (⟨(List.replicate k.toNat (S l).cps).foldl (· ++ ·) #[]⟩ : Str) = S (timesL l k.toNat) := by
          rw [S_cps, times_fold]; simp [S]
        refine ⟨?_, H, St'.toks _, ?_⟩
        · rw [e]; exact S_fits (by rw [timesL_length]; exact hl)
        · rw [e]; exact h

/-! ## lists -/
theorem O_addL {a b : Addr} {vs us : List Value} {Q : Value → HM → Prop} (hv : H a = some (.list vs)) (hu : H b = some (.list us)) (hl : vs.length + us.length ≤ 16000000) (h : ∀ r, H r = none → Q (.ref r) (H.set r (.list (vs ++ us)))) :
    Op2 c (binaryOp .Add) (.ref a) (.ref b) m H Q X := fun A B e1 e2 G s St' => by
  obtain rfl := er_ref e1; obtain rfl := er_ref e2
  obtain ⟨ws, n, rfl, hg⟩ := St'.list hv
  obtain ⟨zs, n2, rfl, hg2⟩ := St'.list hu
  rw [List.length_map, List.length_map] at hl
  refine P.add_list (n := n) (n2 := n2) hg hg2 ⟨_, St'.push (ao := .list (ws.map er ++ zs.map er)) ⟨ws ++ zs, 0, ?_, by rw [List.map_append]⟩ rfl, h _ St'.fresh.1⟩ (by simp only [List.size_toArray]; exact sizeLine_ge hl)
  simp

/-- what == looks at here: two ints, or two texts -/
def Flat2 (x y : Value) : Prop := (∃ i j, x = VI i ∧ y = VI j) ∨ (∃ l k, x = VS l ∧ y = VS k)
theorem eqGives_flat {V W : Value} (h : Flat2 (er V) (er W)) : MeetsSeq.EqGives V W (decide (er V = er W)) := by
  rcases h with ⟨i, j, e1, e2⟩ | ⟨x, y, e1, e2⟩
  · rw [e1, e2]
    obtain ⟨t, rfl⟩ := er_int e1; obtain ⟨u, rfl⟩ := er_int e2
    have := MeetsSeq.EqGives.int i j t u
    rwa [show (i == j) = decide (VI i = VI j) from by by_cases q : i = j <;> simp [q]] at this
  · rw [e1, e2]
    obtain ⟨t, rfl⟩ := er_str e1; obtain ⟨u, rfl⟩ := er_str e2
    have := PySem.SeqRoads2.EqGives.str x y t u
    rwa [show (x.cps.toList == y.cps.toList) = decide (VS x = VS y) from by
      by_cases q : x = y
      · subst q; simp
      · have h1 : (x.cps.toList == y.cps.toList) = false := beq_eq_false_iff_ne.mpr fun e => q (by cases x; cases y; simp at e; simp [e])
        rw [h1, decide_eq_false (fun e => q (by cases e; rfl))]] at this
theorem all_eq {ws zs : List Value} (hs : ws.length = zs.length) : ((List.range ws.length).all fun j => decide ((ws.map er)[j]? = (zs.map er)[j]?)) = decide (ws.map er = zs.map er) := by
  rw [Bool.eq_iff_iff, List.all_eq_true, decide_eq_true_eq]
  constructor
  · intro h
    refine List.ext_getElem? fun j => ?_
    by_cases q : j < ws.length
    · exact of_decide_eq_true (h j (List.mem_range.mpr q))
    · rw [List.getElem?_eq_none (by simp; omega), List.getElem?_eq_none (by simp; omega)]
  · intro h j _; rw [h]; simp
theorem O_eqL {a b : Addr} {vs us : List Value} {Q : Value → HM → Prop} (O : Ok c K n) (hv : H a = some (.list vs)) (hu : H b = some (.list us)) (hf : ∀ x ∈ vs, ∀ y ∈ us, Flat2 x y) (h : Q (VB (decide (vs = us))) H) :
    Op2 c (compareOp .Eq) (.ref a) (.ref b) m H Q X := fun A B e1 e2 G s St' => by
  obtain rfl := er_ref e1; obtain rfl := er_ref e2
  obtain ⟨ws, n, rfl, hg⟩ := St'.list hv
  obtain ⟨zs, n2, rfl, hg2⟩ := St'.list hu
  by_cases hs : ws.length = zs.length
  · refine PySem.SeqAt.eq_listAt (e := fun j => decide ((ws.map er)[j]? = (zs.map er)[j]?)) (isList_of hg) (isList_of hg2) (by simpa using hs) O.units (fun j h1 h2 => ?_) ⟨H, St', ?_⟩
    · have h1' : j < ws.length := by simpa using h1
      have h2' : j < zs.length := by simpa using h2
      have := (eqGives_flat (V := ws[j]) (W := zs[j]) (hf _ (List.mem_map.mpr ⟨_, List.getElem_mem h1', rfl⟩) _ (List.mem_map.mpr ⟨_, List.getElem_mem h2', rfl⟩))).at c.A.in1 s
      simpa [h1', h2'] using this
    · rw [List.size_toArray, all_eq hs]; exact h
  · refine PySem.SeqAt.eq_list_lengthsAt (isList_of hg) (isList_of hg2) (by simpa using hs) O.units ⟨H, St', ?_⟩
    rw [decide_eq_false (fun e => hs (by have := congrArg List.length e; simpa using this))] at h; exact h
theorem O_neL {a b : Addr} {vs us : List Value} {Q : Value → HM → Prop} (O : Ok c K n) (hv : H a = some (.list vs)) (hu : H b = some (.list us)) (hf : ∀ x ∈ vs, ∀ y ∈ us, Flat2 x y) (h : Q (VB (!decide (vs = us))) H) :
    Op2 c (compareOp .NotEq) (.ref a) (.ref b) m H Q X := fun A B e1 e2 G s St' => by
  obtain rfl := er_ref e1; obtain rfl := er_ref e2
  obtain ⟨ws, n, rfl, hg⟩ := St'.list hv
  obtain ⟨zs, n2, rfl, hg2⟩ := St'.list hu
  by_cases hs : ws.length = zs.length
  · refine richCompare_meets_room (op := .NotEq) ⟨_, hg, rfl⟩ ⟨_, hg2, rfl⟩ PySem.F.slot_list_ne PySem.F.entry_list_ne (PySem.F.args_list_ne_2 _ _) (PySem.SeqAt.list_neAt a b _ _ n n2 none none #[] #[] (by simpa using hs) (fun j => decide ((ws.map er)[j]? = (zs.map er)[j]?)))
      ⟨hg, hg2, fun j h1 h2 => ?_, (show Value.bool _ ≠ Value.notImplemented ∧ _ from ⟨(fun x => nomatch x), H, St', ?_⟩)⟩ O.units
    · have h1' : j < ws.length := by simpa using h1
      have h2' : j < zs.length := by simpa using h2
      have := (eqGives_flat (V := ws[j]) (W := zs[j]) (hf _ (List.mem_map.mpr ⟨_, List.getElem_mem h1', rfl⟩) _ (List.mem_map.mpr ⟨_, List.getElem_mem h2', rfl⟩))).at c.A.in1 s
      simpa [h1', h2'] using this
    · rw [List.size_toArray, all_eq hs]; exact h
  · refine richCompare_meets_room (op := .NotEq) ⟨_, hg, rfl⟩ ⟨_, hg2, rfl⟩ PySem.F.slot_list_ne PySem.F.entry_list_ne (PySem.F.args_list_ne_2 _ _) (PySem.SeqAt.list_ne_lengthsAt a b _ _ n n2 none none #[] #[] (by simpa using hs))
      ⟨hg, hg2, (show Value.bool _ ≠ Value.notImplemented ∧ _ from ⟨(fun x => nomatch x), H, St', ?_⟩)⟩ O.units
    rw [decide_eq_false (fun e => hs (by have := congrArg List.length e; simpa using this))] at h; exact h

theorem C_pop0 {a : Addr} {vs : List Value} {v : Value} {Q : Value → HM → Prop} (hv : H a = some (.list (v :: vs))) (hl : vs.length < 16000000) (h : Q v (H.set a (.list vs))) : CallJ c (.builtin "list.pop") [.ref a, VI 0] [] m H Q X := fun Fv Vs Ks e0 e1 e2 G s St' => by
  obtain rfl := er_builtin e0
  obtain ⟨V, W, rfl, e, e'⟩ := call2 e1; obtain rfl := er_ref e; obtain ⟨u, rfl⟩ := er_int e'; obtain rfl := kw0 e2
  obtain ⟨wv, n, hw, hg⟩ := St'.list hv
  obtain ⟨V0, ws, rfl, rfl, rfl⟩ := ers_cons hw
  rw [List.length_map] at hl
  refine call_meets PySem.F.slot_list_pop ⟨_, hg, rfl⟩ PySem.F.entry_list_pop (PySem.F.args_list_pop_2 _ _) (MeetsSeq.list_pop_at a (V0 :: ws).toArray n 0 u 0 V0 (by decide) (by simp [seqIndex?]) (by simp) (by rw [List.size_toArray]; exact sizeLine_ge (by rw [List.length_cons]; omega)))
    ⟨hg, _, St'.turn (ws' := ws) (t := s.toks) hv hg (fun xs => xs.eraseIdxIfInBounds 0) ?_, h⟩
  unfold Array.eraseIdxIfInBounds
  rw [dif_pos (by simp)]; simp

/-! ## texts: calls -/
theorem C_stripP {l : List Nat} {Q : Value → HM → Prop} (hl : l.length ≤ 16000000) (h : Q (VT (stripL Unicode.isSpace l)) H) : CallJ c (.builtin "str.strip") [VT l] [] m H Q X :=
  C_strip hl (by rw [show Txt.strip (S l) = _ from strip_S Unicode.isSpace l]; exact h)
theorem C_lstripP {l : List Nat} {Q : Value → HM → Prop} (hl : l.length ≤ 16000000) (h : Q (VT (lstripL Unicode.isSpace l)) H) : CallJ c (.builtin "str.lstrip") [VT l] [] m H Q X :=
  C_lstrip hl (by rw [show Txt.lstrip (S l) = _ from lstrip_S Unicode.isSpace l]; exact h)
theorem C_lstripCP {l y : List Nat} {Q : Value → HM → Prop} (hl : l.length ≤ 16000000) (h : Q (VT (lstripL y.contains l)) H) : CallJ c (.builtin "str.lstrip") [VT l, VT y] [] m H Q X :=
  C_lstripC hl (by rw [show Txt.lstripChars (S l) (S y) = _ from lstrip_S _ l]; rw [show (S y).cps.contains = y.contains from by funext k; simp [S]]; exact h)
theorem C_rstripCP {l y : List Nat} {Q : Value → HM → Prop} (hl : l.length ≤ 16000000) (h : Q (VT (rstripL y.contains l)) H) : CallJ c (.builtin "str.rstrip") [VT l, VT y] [] m H Q X :=
  C_rstripC hl (by rw [show Txt.rstripChars (S l) (S y) = _ from rstrip_S _ l]; rw [show (S y).cps.contains = y.contains from by funext k; simp [S]]; exact h)
theorem C_startswithP {l y : List Nat} {Q : Value → HM → Prop} (h : Q (VB (y.isPrefixOf l)) H) : CallJ c (.builtin "str.startswith") [VT l, VT y] [] m H Q X :=
  C_startswith (by rw [starts_S]; exact h)
theorem C_countP {l y : List Nat} {Q : Value → HM → Prop} (hy : y ≠ []) (h : Q (VI (cntL y l)) H) : CallJ c (.builtin "str.count") [VT l, VT y] [] m H Q X :=
  C_count (by rw [count_eq hy]; exact h)
theorem C_index1 {l : List Nat} {x : Nat} {Q : Value → HM → Prop} (hx : x ∈ l) (h : Q (VI (l.idxOf x)) H) : CallJ c (.builtin "str.index") [VT l, VT [x]] [] m H Q X := fun Fv Vs Ks e0 e1 e2 G s St' => by
  obtain rfl := er_builtin e0
  obtain ⟨V, W, rfl, e, e'⟩ := call2 e1; obtain ⟨t, rfl⟩ := er_str e; obtain ⟨u, rfl⟩ := er_str e'; obtain rfl := kw0 e2
  obtain ⟨r, hr⟩ := index1 hx
  exact SC.index hr ⟨H, St'.toks _, h⟩

theorem strValues_er (ps : List (Str × Tok)) : (strValues ps).map er = (ps.map (·.1)).map VS := by
  simp [strValues, er]
theorem texts_of {ws : List Value} {ps : List (List Nat)} (h : ws.map er = ps.map VT) : ∃ l : List (Str × Tok), ws = strValues l ∧ l.map (·.1) = ps.map S := by
  induction ps generalizing ws with
  | nil => obtain rfl := ers_nil h; exact ⟨[], rfl, rfl⟩
  | cons p r ih =>
    obtain ⟨V, Vr, rfl, e, h'⟩ := ers_cons h
    obtain ⟨t, rfl⟩ := er_str e
    obtain ⟨l, rfl, e2⟩ := ih h'
    exact ⟨(S p, t) :: l, rfl, by rw [List.map_cons, List.map_cons, e2]⟩
def joinSize (sep : List Nat) (ps : List (List Nat)) : Nat := (ps.map fun p => p.length + sep.length).sum
theorem joinSize_fold (sep : List Nat) : ∀ (ps : List (List Nat)) (k : Nat), (ps.map S).foldl (fun (a : Nat) (p : Str) => a + p.length + (S sep).length) k = k + joinSize sep ps
  | [], k => by simp [joinSize]
  | p :: r, k => by
    rw [List.map_cons, List.foldl_cons, joinSize_fold sep r]
    simp only [joinSize, List.map_cons, List.sum_cons, S_length]; omega
theorem joinL_length (sep : List Nat) : ∀ (ps : List (List Nat)), (joinL sep ps).length ≤ joinSize sep ps
  | [] => by simp [joinL]
  | [x] => by simp [joinL, joinSize]
  | x :: y :: r => by
    have := joinL_length sep (y :: r)
    simp only [joinL, List.length_append, joinSize, List.map_cons, List.sum_cons] at this ⊢; omega
theorem C_join {a : Addr} {sep : List Nat} {ps : List (List Nat)} {vs : List Value} {Q : Value → HM → Prop} (hv : H a = some (.list vs)) (hps : vs = ps.map VT) (hl : joinSize sep ps ≤ 16000000) (h : Q (VT (joinL sep ps)) H) : CallJ c (.builtin "str.join") [VT sep, .ref a] [] m H Q X := fun Fv Vs Ks e0 e1 e2 G s St' => by
  obtain rfl := er_builtin e0
  obtain ⟨V, W, rfl, e, e'⟩ := call2 e1; obtain ⟨t, rfl⟩ := er_str e; obtain rfl := er_ref e'; obtain rfl := kw0 e2
  obtain ⟨ws, n, hw, hg⟩ := St'.list hv
  obtain ⟨l, rfl, el⟩ := texts_of (hw.trans hps)
  have hfold : ((l.map (·.1)).toArray.foldl (· + ·.length + (S sep).length) 0) = joinSize sep ps := by
    rw [el]
    have := joinSize_fold sep ps 0
    simpa using this
  refine call_meets PySem.F.slot_str_join (typeIs_str _ _ _) PySem.F.entry_str_join (PySem.F.args_str_join_2 _ _) (meets_str_join_list (S sep) t a l (by rw [hfold]; unfold tooLong; rw [decide_eq_false]; rw [sizeLine_eq]; omega)) ⟨isList_of hg, ?_⟩
  have hglue : glued (S sep) (l.map (·.1)) = S (joinL sep ps) := by rw [el, glued_S]
  unfold joinMade
  split
  · rename_i p
    refine ⟨H, St', ?_⟩
    cases ps with
    | nil => cases el
    | cons q r =>
      cases r with
      | nil =>
        have : p.1 = S q := by simpa using el
        show Q (VS p.1) H
        rw [this]; exact h
      | cons _ _ => simp at el
  · rw [hglue]
    exact ⟨S_fits (Nat.le_trans (joinL_length _ _) hl), H, St'.toks _, h⟩

theorem St.newTexts {l : List (Str × Tok)} {ps : List (List Nat)} {h' : Heap} {k : Nat} {mr : Str → Option Value} (S0 : St c m H F s) (el : l.map (·.1) = ps.map S) (hm : MRel m mr) (Fr' : Fr c.s₀.heap c.env.locals h' mr)
    (N : News c.s₀.heap c.env.locals h' ((s.heap.objs.size, { cls := .type "list", data := .seq (strValues l).toArray }) :: full c.s₀.heap s.heap c.env.locals)) : St c m (H.set s.heap.objs.size (.list (ps.map VT))) F { s with heap := h', toks := k } := by
  have S1 := St.back (t := k) S0 Fr' hm N fun p hp => List.mem_cons_of_mem _ hp
  obtain ⟨f1, f2, f3, f4⟩ := S0.fresh
  refine St.backNew (mr' := mr) (news := []) S0 S1 f1 f2 f3 f4 (N _ List.mem_cons_self).1 ⟨strValues l, 0, rfl, ?_⟩
  rw [strValues_er, el, List.map_map]; rfl
theorem C_split {l y : List Nat} {Q : Value → HM → Prop} (hy : y ≠ []) (hk : ∀ x ∈ l, x < 256) (hk2 : ∀ x ∈ y, x < 256) (hl : l.length + 2 ≤ 16000000) (h : ∀ a, H a = none → Q (.ref a) (H.set a (.list ((splitL y l).map VT)))) : CallJ c (.builtin "str.split") [VT l, VT y] [] m H Q X := fun Fv Vs Ks e0 e1 e2 G s St' => by
  obtain rfl := er_builtin e0
  obtain ⟨V, W, rfl, e, e'⟩ := call2 e1; obtain ⟨t, rfl⟩ := er_str e; obtain ⟨u, rfl⟩ := er_str e'; obtain rfl := kw0 e2
  obtain ⟨mr, Fr0, hm⟩ := St'.fr
  refine splitN1 Fr0 St'.news (by rw [S_length]; simpa using hy) (fun ls h' k el Fr' N => ?_) (by rw [S_length]; exact sizeLine_ge hl)
  rw [split_S hy hk hk2] at el
  exact ⟨_, St'.newTexts el hm Fr' N, h _ St'.fresh.1⟩
theorem C_splitlines {l : List Nat} {Q : Value → HM → Prop} (h13 : 13 ∉ l) (hl : l.length < 16000000) (h : ∀ a, H a = none → Q (.ref a) (H.set a (.list ((linesL l).map VT)))) : CallJ c (.builtin "str.splitlines") [VT l] [] m H Q X := fun Fv Vs Ks e0 e1 e2 G s St' => by
  obtain rfl := er_builtin e0
  obtain ⟨V, rfl, e⟩ := call1 (as := []) e1; obtain ⟨t, rfl⟩ := er_str e; obtain rfl := kw0 e2
  obtain ⟨mr, Fr0, hm⟩ := St'.fr
  refine splitlinesN Fr0 St'.news (fun ls h' k el Fr' N => ?_) (S_fits (l := l) (by omega)) (sizeLine_ge (Nat.le_trans (lineCuts_length h13) (by omega)))
  rw [lines_S h13] at el
  exact ⟨_, St'.newTexts el hm Fr' N, h _ St'.fresh.1⟩

theorem gives_expandtabs (x : Str) (t : Tok) (h : x.cps.contains 9 = false) : Gives («str.expandtabs» ⟨[.str x t], []⟩) (.val (.str x t)) := by
  show Gives (if (!x.cps.contains 9) = true then (do rule "str.expandtabs.no-tab"; ret (.str x t)) else _) _
  rw [h]
  exact .rule (.of_eq rfl)
theorem C_expandtabs {l : List Nat} {Q : Value → HM → Prop} (h9 : 9 ∉ l) (h : Q (VT l) H) : CallJ c (.builtin "str.expandtabs") [VT l] [] m H Q X := fun Fv Vs Ks e0 e1 e2 G s St' => by
  obtain rfl := er_builtin e0
  obtain ⟨V, rfl, e⟩ := call1 (as := []) e1; obtain ⟨t, rfl⟩ := er_str e; obtain rfl := kw0 e2
  exact call_gives PySem.F.slot_str_expandtabs (typeIs_str _ _ _) PySem.F.entry_str_expandtabs (PySem.F.args_str_expandtabs_1 _) (gives_expandtabs (S l) t (by simp [S]; exact h9)) ⟨H, St', h⟩

/-! ## numbers, ranges -/
theorem C_abs {i : Int} {Q : Value → HM → Prop} (h : Q (VI (if i < 0 then -i else i)) H) : CallJ c (.builtin "abs") [VI i] [] m H Q X := fun Fv Vs Ks e0 e1 e2 G s St' => by
  obtain rfl := er_builtin e0
  obtain ⟨V, rfl, e⟩ := call1 (as := []) e1; obtain ⟨t, rfl⟩ := er_int e; obtain rfl := kw0 e2
  exact call_abs_int fun u tk => ⟨H, St'.toks _, h⟩
theorem C_max {i j : Int} {Q : Value → HM → Prop} (hh : c.A.handled = none) (h : Q (VI (max i j)) H) : CallJ c (.builtin "max") [VI i, VI j] [] m H Q X := fun Fv Vs Ks e0 e1 e2 G s St' => by
  obtain rfl := er_builtin e0
  obtain ⟨V, W, rfl, e, e'⟩ := call2 e1; obtain ⟨t, rfl⟩ := er_int e; obtain ⟨u, rfl⟩ := er_int e'; obtain rfl := kw0 e2
  refine max_two_ints hh fun h' tk k => ⟨H, St'.keeps (t := tk) k, ?_⟩
  split
  · rename_i q
    have : max i j = j := by omega
    rw [this] at h; exact h
  · rename_i q
    have : max i j = i := by omega
    rw [this] at h; exact h
theorem C_min {i j : Int} {Q : Value → HM → Prop} (hh : c.A.handled = none) (h : Q (VI (min i j)) H) : CallJ c (.builtin "min") [VI i, VI j] [] m H Q X := fun Fv Vs Ks e0 e1 e2 G s St' => by
  obtain rfl := er_builtin e0
  obtain ⟨V, W, rfl, e, e'⟩ := call2 e1; obtain ⟨t, rfl⟩ := er_int e; obtain ⟨u, rfl⟩ := er_int e'; obtain rfl := kw0 e2
  refine min_two_ints hh fun h' tk k => ⟨H, St'.keeps (t := tk) k, ?_⟩
  split
  · rename_i q
    have : min i j = j := by omega
    rw [this] at h; exact h
  · rename_i q
    have : min i j = i := by omega
    rw [this] at h; exact h
theorem C_range1 {i : Int} {Q : Value → HM → Prop} (h : ∀ a o, H a = none → RangeO o 0 i → Q (.ref a) (H.set a (.raw o))) : CallJ c (.type "range") [VI i] [] m H Q X := fun Fv Vs Ks e0 e1 e2 G s St' => by
  obtain rfl := er_type e0
  obtain ⟨V, rfl, e⟩ := call1 (as := []) e1; obtain ⟨t, rfl⟩ := er_int e; obtain rfl := kw0 e2
  exact call_range_1 ⟨_, (St'.push (ao := .raw _) rfl rfl).toks _, h _ _ St'.fresh.1 ⟨_, _, _, rfl⟩⟩
theorem C_range2 {i j : Int} {Q : Value → HM → Prop} (h : ∀ a o, H a = none → RangeO o i j → Q (.ref a) (H.set a (.raw o))) : CallJ c (.type "range") [VI i, VI j] [] m H Q X := fun Fv Vs Ks e0 e1 e2 G s St' => by
  obtain rfl := er_type e0
  obtain ⟨V, W, rfl, e, e'⟩ := call2 e1; obtain ⟨t, rfl⟩ := er_int e; obtain ⟨u, rfl⟩ := er_int e'; obtain rfl := kw0 e2
  exact call_range_2 ⟨_, (St'.push (ao := .raw _) rfl rfl).toks _, h _ _ St'.fresh.1 ⟨_, _, _, rfl⟩⟩
end
end Mine
end

section
open PySem PySem.W PySem.Calls PyProof.Rows PySem.Builtin PySem.Builtin.Str
set_option linter.all false
set_option maxRecDepth 100000
namespace Mine

section
variable {c : FC} {K : Frag} {n : Nat} {m : LM} {H F : HM} {X : XM} {s : Shared}

/-! ## rules with named continuations -/
def CallK (c : FC) (f : Value) (as : List Value) (m : LM) (H : HM) (Q : Value → HM → Prop) (X : XM) : Prop := Kp c f H ∧ CallJ c f as [] m H Q X
theorem CallK.b {id : String} {as : List Value} {Q : Value → HM → Prop} (h : CallJ c (.builtin id) as [] m H Q X) : CallK c (.builtin id) as m H Q X := ⟨Kp.builtin, h⟩
theorem CallK.t {id : String} {as : List Value} {Q : Value → HM → Prop} (h : CallJ c (.type id) as [] m H Q X) : CallK c (.type id) as m H Q X := ⟨Kp.type, h⟩
theorem CallK.k {f : Addr} {as : List Value} {Q : Value → HM → Prop} (O : Ok c K n) (hk : keepIn K (.ref f) = true) (h : CallJ c (.ref f) as [] m H Q X) : CallK c (.ref f) as m H Q X := ⟨Kp.k O hk, h⟩
theorem Ev.callK0 {fe pos} {Q : Value → HM → Prop} (h : Ev c fe m H (fun f H1 => CallK c f [] m H1 Q X) X)
    (he : eval (.Call fe [] [] pos) c.env = (do callWith pos (← eval fe c.env) [] (backTo pos (starEach [] c.env)) (backToKw pos (keywordEach [] c.env)))) : Ev c (.Call fe [] [] pos) m H Q X := Ev.call0 h he
theorem Ev.callK {fe e rest pos} {Q : Value → HM → Prop} (h : Ev c fe m H (fun f H1 => Vals c (e :: rest) m H1 (fun vs H2 => CallK c f vs m H2 Q X) X) X)
    (he : eval (.Call fe (e :: rest) [] pos) c.env = (do callWith pos (← eval fe c.env) [] (backTo pos (starEach (e :: rest) c.env)) (backToKw pos (keywordEach [] c.env))))
    (hs : starEach (e :: rest) c.env = (false, eval e c.env) :: starEach rest c.env) (hp : (backTo pos (starEach rest c.env)).any (·.1) = false) : Ev c (.Call fe (e :: rest) [] pos) m H Q X := Ev.call h he hs hp
theorem Ev.methK0 {o name apos pos} {pl : Sem Bool} {Q : Value → HM → Prop} (h : Ev c o m H (fun ov H1 => MethJ c ov name m H1 (fun f fs H2 => CallK c f fs m H2 Q X) X) X)
    (he : eval (.Call (.Attribute o name apos) [] [] pos) c.env = (do
      let ov ← eval o c.env
      standAt apos.atName
      let (f, first) ← holding [ov] (getMethod ov name pl)
      callWith pos f first (backTo pos (starEach [] c.env)) [])) : Ev c (.Call (.Attribute o name apos) [] [] pos) m H Q X := Ev.meth0 h he
theorem Ev.methK {o name apos e rest pos} {pl : Sem Bool} {Q : Value → HM → Prop} (h : Ev c o m H (fun ov H1 => MethJ c ov name m H1 (fun f fs H2 => Vals c (e :: rest) m H2 (fun vs H3 => CallK c f (fs ++ vs) m H3 Q X) X) X) X)
    (he : eval (.Call (.Attribute o name apos) (e :: rest) [] pos) c.env = (do
      let ov ← eval o c.env
      standAt apos.atName
      let (f, first) ← holding [ov] (getMethod ov name pl)
      callWith pos f first (backTo pos (starEach (e :: rest) c.env)) []))
    (hs : starEach (e :: rest) c.env = (false, eval e c.env) :: starEach rest c.env) (hp : (backTo pos (starEach rest c.env)).any (·.1) = false) : Ev c (.Call (.Attribute o name apos) (e :: rest) [] pos) m H Q X := Ev.meth h he hs hp

def ItemG (c : FC) (o i : Value) (m : LM) (H : HM) (Q : Value → HM → Prop) (X : XM) : Prop :=
  (((∃ a vs, o = .ref a ∧ (H a = some (.list vs) ∨ H a = some (.tup vs))) ∨ ∃ l, o = VT l)) ∧ ItemJ c o i m H Q X
theorem Ev.itemG {value slice pos} {Q : Value → HM → Prop} (h : Ev c value m H (fun o H1 => Ev c slice m H1 (fun i H2 => ItemG c o i m H2 Q X) X) X)
    (hs : ∀ o i, subscripted slice false o i = operate [o, i] (getItem o i)) : Ev c (.Subscript value slice pos) m H Q X := Ev.item h hs
theorem ItemG.list {a : Addr} {vs : List Value} {k : Int} {v : Value} {Q : Value → HM → Prop} (hv : H a = some (.list vs)) (hk : at? vs k = some v) (hs : k.natAbs < 2 ^ 62) (h : Q v H) : ItemG c (.ref a) (VI k) m H Q X :=
  ⟨.inl ⟨a, vs, rfl, .inl hv⟩, I_list hv hk hs h⟩
theorem ItemG.tup {a : Addr} {vs : List Value} {k : Int} {v : Value} {Q : Value → HM → Prop} (hv : H a = some (.tup vs)) (hk : at? vs k = some v) (hs : k.natAbs < 2 ^ 62) (h : Q v H) : ItemG c (.ref a) (VI k) m H Q X :=
  ⟨.inl ⟨a, vs, rfl, .inr hv⟩, I_tup hv hk hs h⟩
theorem ItemG.str {l : List Nat} {k : Int} {x : Nat} {Q : Value → HM → Prop} (hk : at? l k = some x) (hs : k.natAbs < 2 ^ 62) (h : Q (VT [x]) H) : ItemG c (VT l) (VI k) m H Q X :=
  ⟨.inr ⟨l, rfl⟩, I_str hk hs h⟩

/-- del l[k] and l[k] = v, named -/
def StoreI (c : FC) (ov iv v : Value) (m : LM) (H : HM) (Q : LM → HM → Prop) : Prop := ∃ a vs k, ov = .ref a ∧ iv = VI k ∧ H a = some (.list vs) ∧ -(vs.length : Int) ≤ k ∧ k < vs.length ∧ k.natAbs < 2 ^ 62 ∧ Q m (H.set a (.list (setAt vs k v)))
theorem Tgt.subI {o i p v} {Q : LM → HM → Prop} (h : Ev c o m H (fun ov H1 => Ev c i m H1 (fun iv H2 => StoreI c ov iv v m H2 Q) X) X) : Tgt c (.Subscript o i p) v m H Q X := Tgt.sub h
theorem StoreI.at {a : Addr} {vs : List Value} {k : Int} {v : Value} {Q : LM → HM → Prop} (hv : H a = some (.list vs)) (h0 : -(vs.length : Int) ≤ k) (h1 : k < vs.length) (hs : k.natAbs < 2 ^ 62) (h : Q m (H.set a (.list (setAt vs k v)))) : StoreI c (.ref a) (VI k) v m H Q :=
  ⟨a, vs, k, rfl, rfl, hv, h0, h1, hs, h⟩
theorem Ex.augI {o i value tpos op p} {Q : Flow → LM → HM → Prop} (h : Ev c o m H (fun ov H1 => Ev c i m H1 (fun iv H2 => ItemJ c ov iv m H2 (fun old H3 => Ev c value m H3 (fun v H4 => Op2 c (inplaceOp op) old v m H4 (fun r H5 =>
      StoreI c ov iv r m H5 (fun m' H' => Q .next m' H')) X) X) X) X) X)
    (hi : ∀ ov iv new, augStore i ov iv new = (do holding [new, ov, iv] (setItem ov iv new); release [new, ov, iv] []; pure .next)) : Ex c (.AugAssign (.Subscript o i tpos) op value p) m H Q X := Ex.augS h hi
def DelI (c : FC) (ov iv : Value) (m : LM) (H : HM) (Q : LM → HM → Prop) : Prop := ∃ a vs k, ov = .ref a ∧ iv = VI k ∧ H a = some (.list vs) ∧ -(vs.length : Int) ≤ k ∧ k < vs.length ∧ vs.length ≤ 16000000 ∧ Q m (H.set a (.list (delAt vs k)))
theorem Ex.delI {o i dp p} {Q : Flow → LM → HM → Prop} (h : Ev c o m H (fun ov H1 => Ev c i m H1 (fun iv H2 => DelI c ov iv m H2 (fun m' H' => Q .next m' H')) X) X) : Ex c (.Delete [.Subscript o i dp] p) m H Q X := Ex.delItem h
theorem DelI.at {a : Addr} {vs : List Value} {k : Int} {Q : LM → HM → Prop} (hv : H a = some (.list vs)) (h0 : -(vs.length : Int) ≤ k) (h1 : k < vs.length) (hs : vs.length ≤ 16000000) (h : Q m (H.set a (.list (delAt vs k)))) : DelI c (.ref a) (VI k) m H Q :=
  ⟨a, vs, k, rfl, rfl, hv, h0, h1, hs, h⟩

def SliceG (c : FC) (o l u : Value) (m : LM) (H : HM) (Q : Value → HM → Prop) : Prop :=
  ∃ a b, Bnd l a ∧ Bnd u b ∧ ((∃ r vs, o = .ref r ∧ H r = some (.list vs) ∧ vs.length ≤ 16000000 ∧ ∀ q, H q = none → Q (.ref q) (H.set q (.list (cut vs a b)))) ∨
        (∃ t, o = VT t ∧ t.length ≤ 16000000 ∧ Q (VT (cut t a b)) H))
theorem Ev.sliceG {value lower upper p pos} {Q : Value → HM → Prop} (h : Ev c value m H (fun o H1 => EvP c lower m H1 (fun l H2 => EvP c upper m H2 (fun u H3 => SliceG c o l u m H3 Q) X) X) X) :
    Ev c (.Subscript value (.Slice lower upper none p) pos) m H Q X := Ev.slice h
theorem SliceG.str {t : List Nat} {l u : Value} {a b : Option Nat} {Q : Value → HM → Prop} (ha : Bnd l a) (hb : Bnd u b) (hl : t.length ≤ 16000000) (h : Q (VT (cut t a b)) H) : SliceG c (VT t) l u m H Q := ⟨a, b, ha, hb, .inr ⟨t, rfl, hl, h⟩⟩
theorem SliceG.list {r : Addr} {vs : List Value} {l u : Value} {a b : Option Nat} {Q : Value → HM → Prop} (ha : Bnd l a) (hb : Bnd u b) (hv : H r = some (.list vs)) (hl : vs.length ≤ 16000000) (h : ∀ q, H q = none → Q (.ref q) (H.set q (.list (cut vs a b)))) : SliceG c (.ref r) l u m H Q :=
  ⟨a, b, ha, hb, .inl ⟨r, vs, rfl, hv, hl, h⟩⟩

theorem Bnd.ofInt {k : Int} (h : 0 ≤ k) : Bnd (VI k) (some k.toNat) := by
  obtain ⟨j, rfl⟩ := Int.eq_ofNat_of_zero_le h
  exact .int j

theorem Exs.step {st rest} {Q : Flow → LM → HM → Prop} (h : Ex c st m H (fun f m1 H1 => match f with | .next => Exs c rest m1 H1 Q X | f => Q f m1 H1) X) : Exs c (st :: rest) m H Q X := Exs.cons h
end
end Mine
end

section
open PySem PySem.W PySem.Calls PyProof.Rows PySem.Builtin PySem.Builtin.Str
set_option linter.all false
set_option maxRecDepth 100000
namespace Mine

/-! ## a function of the fragment, by its address -/
def fdOf (K : Frag) (f : Addr) : FuncData := match K.lookup f with
  | some ⟨_, _, .func fd, _⟩ => fd
  | _ => default
def okBinds (names : List (Str × NameKind)) (xs : List Str) : Bool := xs.all fun x => names.lookup x == some .local || names.lookup x == some .cell

section
variable {c : FC} {K : Frag} {n : Nat} {m : LM} {H F : HM} {X : XM} {s : Shared}

theorem CallJ.go {f : Addr} {fd : FuncData} {body : List Stmt} {as : List Value} {ks bs : List (Str × Value)} {Q : Value → HM → Prop} (O : Ok c K (n + 1)) (W : Fn K f fd body) (hb : FnBinds K fd as ks bs)
    (hk : okBinds fd.scope.names (bs.map (·.1)) = true)
    (h : ∀ L, (∀ k, L ≤ k → H k = none) → Ok (c.call (fdOf K f) L f) K n → Exs (c.call (fdOf K f) L f) body (bindLM (c.call (fdOf K f) L f).env.kindOf bs []) (cellsH H (cellsFrom (L + 1) (fdOf K f).scope.names []) (bindCM (c.call (fdOf K f) L f).env.kindOf bs fun _ => none))
      (fun fl _ H' => ∃ H'', H''.le H' ∧ Q (match fl with | .ret v => v | _ => .none) H'') XF) : CallJ c (.ref f) as ks m H Q X := by
  have ef : fdOf K f = fd := by
    obtain ⟨_, _, _, e⟩ := W.look
    unfold fdOf; rw [e]
  subst ef
  exact CallJ.fn O W hb (fun x hx => by
    have := List.all_eq_true.mp hk x.1 (List.mem_map.mpr ⟨x, hx, rfl⟩)
    rw [Bool.or_eq_true, beq_iff_eq, beq_iff_eq] at this
    exact this) h

theorem Ev.locX {x p} {Q : Value → HM → Prop} (v : Value) (hv : m.lookup x = some v) (hk : c.env.scope.kind = .function) (hl : c.env.kindOf x = some .local) (hd : (x == ("__debug__" : Str)) = false) (h : Q v H) : Ev c (.Name x p) m H Q X := Ev.loc hk hl hv h hd
theorem LoadJ.locX {x} {Q : Value → HM → Prop} (v : Value) (hv : m.lookup x = some v) (hk : c.env.scope.kind = .function) (hl : c.env.kindOf x = some .local) (h : Q v H) : LoadJ c x m H Q X := LoadJ.loc hk hl hv h
theorem Ev.textX {x k p} {Q : Value → HM → Prop} (l : List Nat) (hx : x = S l) (h : Q (VT l) H) : Ev c (.Constant (.str x) k p) m H Q X := Ev.text hx h
theorem FnBinds.a0 {fd : FuncData} (h : bindArgs fd ⟨[], []⟩ = pure []) : FnBinds K fd [] [] [] := fun Vs Ks e1 e2 => by
  obtain rfl := ers_nil e1; obtain rfl := kw0 e2
  exact ⟨[], fun s _ => BindsTo.of_eq h, rfl⟩
theorem FnBinds.a1 {fd : FuncData} {x : Str} {a : Value} (h : ∀ V, bindArgs fd ⟨[V], []⟩ = pure [(x, V)]) : FnBinds K fd [a] [] [(x, a)] := fun Vs Ks e1 e2 => by
  obtain ⟨V, rfl, rfl⟩ := call1 (as := []) e1; obtain rfl := kw0 e2
  exact ⟨[(x, V)], fun s _ => BindsTo.of_eq (h V), rfl⟩
theorem FnBinds.a2 {fd : FuncData} {x y : Str} {a b : Value} (h : ∀ V W, bindArgs fd ⟨[V, W], []⟩ = pure [(x, V), (y, W)]) : FnBinds K fd [a, b] [] [(x, a), (y, b)] := fun Vs Ks e1 e2 => by
  obtain ⟨V, W, rfl, rfl, rfl⟩ := call2 e1; obtain rfl := kw0 e2
  exact ⟨[(x, V), (y, W)], fun s _ => BindsTo.of_eq (h V W), rfl⟩
theorem call3 {Vs : List Value} {a b d : Value} (h : Vs.map er = [a, b, d]) : ∃ V W Z, Vs = [V, W, Z] ∧ er V = a ∧ er W = b ∧ er Z = d := by
  obtain ⟨V, r, rfl, e, h⟩ := ers_cons h
  obtain ⟨W, Z, rfl, e', e''⟩ := call2 h
  exact ⟨V, W, Z, rfl, e, e', e''⟩
theorem call4 {Vs : List Value} {a b d f : Value} (h : Vs.map er = [a, b, d, f]) : ∃ V W Z U, Vs = [V, W, Z, U] ∧ er V = a ∧ er W = b ∧ er Z = d ∧ er U = f := by
  obtain ⟨V, r, rfl, e, h⟩ := ers_cons h
  obtain ⟨W, Z, U, rfl, e1, e2, e3⟩ := call3 h
  exact ⟨V, W, Z, U, rfl, e, e1, e2, e3⟩
theorem call5 {Vs : List Value} {a b d f g : Value} (h : Vs.map er = [a, b, d, f, g]) : ∃ V W Z U Y, Vs = [V, W, Z, U, Y] ∧ er V = a ∧ er W = b ∧ er Z = d ∧ er U = f ∧ er Y = g := by
  obtain ⟨V, r, rfl, e, h⟩ := ers_cons h
  obtain ⟨W, Z, U, Y, rfl, e1, e2, e3, e4⟩ := call4 h
  exact ⟨V, W, Z, U, Y, rfl, e, e1, e2, e3, e4⟩
theorem FnBinds.a3 {fd : FuncData} {x y z : Str} {a b d : Value} (h : ∀ V W Z, bindArgs fd ⟨[V, W, Z], []⟩ = pure [(x, V), (y, W), (z, Z)]) : FnBinds K fd [a, b, d] [] [(x, a), (y, b), (z, d)] := fun Vs Ks e1 e2 => by
  obtain ⟨V, W, Z, rfl, rfl, rfl, rfl⟩ := call3 e1; obtain rfl := kw0 e2
  exact ⟨[(x, V), (y, W), (z, Z)], fun s _ => BindsTo.of_eq (h V W Z), rfl⟩
theorem FnBinds.a4 {fd : FuncData} {x y z u : Str} {a b d f : Value} (h : ∀ V W Z U, bindArgs fd ⟨[V, W, Z, U], []⟩ = pure [(x, V), (y, W), (z, Z), (u, U)]) : FnBinds K fd [a, b, d, f] [] [(x, a), (y, b), (z, d), (u, f)] := fun Vs Ks e1 e2 => by
  obtain ⟨V, W, Z, U, rfl, rfl, rfl, rfl, rfl⟩ := call4 e1; obtain rfl := kw0 e2
  exact ⟨[(x, V), (y, W), (z, Z), (u, U)], fun s _ => BindsTo.of_eq (h V W Z U), rfl⟩
theorem FnBinds.a5 {fd : FuncData} {x y z u v : Str} {a b d f g : Value} (h : ∀ V W Z U Y, bindArgs fd ⟨[V, W, Z, U, Y], []⟩ = pure [(x, V), (y, W), (z, Z), (u, U), (v, Y)]) : FnBinds K fd [a, b, d, f, g] [] [(x, a), (y, b), (z, d), (u, f), (v, g)] := fun Vs Ks e1 e2 => by
  obtain ⟨V, W, Z, U, Y, rfl, rfl, rfl, rfl, rfl, rfl⟩ := call5 e1; obtain rfl := kw0 e2
  exact ⟨[(x, V), (y, W), (z, Z), (u, U), (v, Y)], fun s _ => BindsTo.of_eq (h V W Z U Y), rfl⟩
end
end Mine
end

section
open PySem PySem.W PySem.Calls PyProof.Rows PySem.Builtin PySem.Builtin.Str
set_option linter.all false
set_option maxRecDepth 100000
namespace Mine

section
variable {c : FC} {K : Frag} {n : Nat} {m : LM} {H F : HM} {X : XM} {s : Shared}

def ThenJ (c : FC) (rest : List Stmt) (Q : Flow → LM → HM → Prop) (X : XM) (f : Flow) (m : LM) (H : HM) : Prop := match f with | .next => Exs c rest m H Q X | f => Q f m H
theorem ThenJ.next {rest : List Stmt} {Q : Flow → LM → HM → Prop} (h : Exs c rest m H Q X) : ThenJ c rest Q X .next m H := h
theorem ThenJ.ret {rest : List Stmt} {Q : Flow → LM → HM → Prop} {v : Value} (h : Q (.ret v) m H) : ThenJ c rest Q X (.ret v) m H := h
theorem ThenJ.brk {rest : List Stmt} {Q : Flow → LM → HM → Prop} (h : Q .brk m H) : ThenJ c rest Q X .brk m H := h
theorem ThenJ.cont {rest : List Stmt} {Q : Flow → LM → HM → Prop} (h : Q .cont m H) : ThenJ c rest Q X .cont m H := h
theorem Exs.go {st rest} {Q : Flow → LM → HM → Prop} (h : Ex c st m H (ThenJ c rest Q X) X) : Exs c (st :: rest) m H Q X := Exs.cons h

def EndJ (Q : Value → HM → Prop) (f : Flow) (m : LM) (H : HM) : Prop := ∃ H'', H''.le H ∧ Q (match f with | .ret v => v | _ => .none) H''
theorem EndJ.ret {Q : Value → HM → Prop} {v : Value} (H' : HM) (hl : H'.le H) (h : Q v H') : EndJ Q (.ret v) m H := ⟨H', hl, h⟩
theorem EndJ.retE {Q : Value → HM → Prop} {v : Value} (h : Q v H) : EndJ Q (.ret v) m H := ⟨H, HM.le.refl H, h⟩
theorem EndJ.next {Q : Value → HM → Prop} (H' : HM) (hl : H'.le H) (h : Q .none H') : EndJ Q .next m H := ⟨H', hl, h⟩
theorem EndJ.nextE {Q : Value → HM → Prop} (h : Q .none H) : EndJ Q .next m H := ⟨H, HM.le.refl H, h⟩
theorem CallJ.run {f : Addr} {fd : FuncData} {body : List Stmt} {as : List Value} {ks bs : List (Str × Value)} {Q : Value → HM → Prop} (O : Ok c K (n + 1)) (W : Fn K f fd body) (hb : FnBinds K fd as ks bs)
    (hk : okBinds fd.scope.names (bs.map (·.1)) = true)
    (h : ∀ L, (∀ k, L ≤ k → H k = none) → Ok (c.call (fdOf K f) L f) K n → Exs (c.call (fdOf K f) L f) body (bindLM (c.call (fdOf K f) L f).env.kindOf bs []) (cellsH H (cellsFrom (L + 1) (fdOf K f).scope.names []) (bindCM (c.call (fdOf K f) L f).env.kindOf bs fun _ => none)) (EndJ Q) XF) : CallJ c (.ref f) as ks m H Q X :=
  CallJ.go O W hb hk h

def ForK (N B : LM → HM → Prop) (R : Value → LM → HM → Prop) (f : Flow) (m : LM) (H : HM) : Prop := match f with
  | .next | .cont => N m H
  | .brk => B m H
  | .ret v => R v m H
theorem ForK.next {N B : LM → HM → Prop} {R : Value → LM → HM → Prop} (h : N m H) : ForK N B R .next m H := h
theorem ForK.cont {N B : LM → HM → Prop} {R : Value → LM → HM → Prop} (h : N m H) : ForK N B R .cont m H := h
theorem ForK.brk {N B : LM → HM → Prop} {R : Value → LM → HM → Prop} (h : B m H) : ForK N B R .brk m H := h
theorem ForK.ret {N B : LM → HM → Prop} {R : Value → LM → HM → Prop} {v : Value} (h : R v m H) : ForK N B R (.ret v) m H := h

def ForJ (c : FC) (tgt : Expr) (body : List Stmt) (m : LM) (H1 : HM) (v : Value) (Q : Flow → LM → HM → Prop) : Prop :=
  ∃ xs tup Hd back, Src H1 tgt v xs tup Hd back ∧ ∃ Inv : Nat → LM → HM → Prop, Keep (Inv 0) m Hd ∧
      (∀ k x m' H', xs[k]? = some x → Inv k m' H' → Yld tup k x H' (fun v' H2 => Tgt c tgt v' m' H2 (fun m3 H3 => Exs c body m3 H3 (ForK (Keep (Inv (k + 1))) (fun m4 H4 => Q .next m4 (back H4)) (fun v m4 H4 => Q (.ret v) m4 (back H4))) XF) XF)) ∧
      (∀ m' H', Inv xs.length m' H' → Q .next m' (back H'))
theorem Ex.forG {tgt iter body p} {Q : Flow → LM → HM → Prop} (hh : c.A.handled = none) (h : Ev c iter m H (fun v H1 => ForJ c tgt body m H1 v Q) X)
    (hs : ∀ x, foldedSetIterable iter c.env x = pure x) : Ex c (.For tgt iter body [] p) m H Q X := by
  refine Ex.for hh (h.mono (fun v H1 ⟨xs, tup, Hd, back, src, Inv, h0, step, fin⟩ => ⟨xs, tup, Hd, back, src, Inv, h0, fun k x m' H' hx iv => ?_, fin⟩) fun _ _ _ x => x) hs
  have st := step k x m' H' hx iv
  have up : ∀ v' H2, Tgt c tgt v' m' H2 (fun m3 H3 => Exs c body m3 H3 (ForK (Keep (Inv (k + 1))) (fun m4 H4 => Q .next m4 (back H4)) (fun v m4 H4 => Q (.ret v) m4 (back H4))) XF) XF →
      Tgt c tgt v' m' H2 (fun m3 H3 => Exs c body m3 H3 (fun f m4 H4 => match f with
        | .next | .cont => Keep (Inv (k + 1)) m4 H4
        | .brk => Q .next m4 (back H4)
        | .ret v => Q (.ret v) m4 (back H4)) XF) XF := by
    intro v' H2 h V e
    refine (h V e).mono (fun m3 H3 h3 => h3.mono (fun f m4 H4 h4 => ?_) fun _ _ _ x => x) fun _ _ _ x => x
    cases f <;> exact h4
  cases tup with
  | false => exact up _ _ st
  | true => exact fun a ha => up _ _ (st a ha)

def Less (Inv : Nat → LM → HM → Prop) (k : Nat) (m : LM) (H : HM) : Prop := ∃ k', k' < k ∧ Keep (Inv k') m H
theorem Ex.whileG {test body p} {Q : Flow → LM → HM → Prop} (Inv : Nat → LM → HM → Prop) (k : Nat) (h0 : Keep (Inv k) m H)
    (step : ∀ k m' H', Inv k m' H' → Tst c test m' H' (fun b H1 => if b = true then Exs c body m' H1 (ForK (Less Inv k) (fun m2 H2 => Q .next m2 H2) (fun v m2 H2 => Q (.ret v) m2 H2)) XF else Q .next m' H1) XF) : Ex c (.While test body [] p) m H Q X :=
  Ex.while Inv k h0 fun k m' H' iv => (step k m' H' iv).mono (fun b H1 h1 => by
    cases b with
    | true =>
      rw [if_pos rfl] at h1 ⊢
      refine h1.mono (fun f m4 H4 h4 => ?_) fun _ _ _ x => x
      cases f <;> exact h4
    | false => exact h1) fun _ _ _ x => x

theorem CallK.kX {f : Addr} {as : List Value} {Q : Value → HM → Prop} (K : Frag) (n : Nat) (O : Ok c K n) (hk : keepIn K (.ref f) = true) (h : CallJ c (.ref f) as [] m H Q X) : CallK c (.ref f) as m H Q X := .k O hk h
theorem C_pop0X {a : Addr} {Q : Value → HM → Prop} (v : Value) (vs : List Value) (hv : H a = some (.list (v :: vs))) (hl : vs.length < 16000000) (h : Q v (H.set a (.list vs))) : CallJ c (.builtin "list.pop") [.ref a, VI 0] [] m H Q X := C_pop0 hv hl h
theorem C_popX {a : Addr} {Q : Value → HM → Prop} (v : Value) (vs : List Value) (hv : H a = some (.list (vs ++ [v]))) (hl : vs.length < 16000000) (h : Q v (H.set a (.list vs))) : CallJ c (.builtin "list.pop") [.ref a] [] m H Q X := C_pop hv hl h
theorem Ev.methKX0 {o name apos pos} {Q : Value → HM → Prop} (pl : Sem Bool)
    (he : eval (.Call (.Attribute o name apos) [] [] pos) c.env = (do
      let ov ← eval o c.env
      standAt apos.atName
      let (f, first) ← holding [ov] (getMethod ov name pl)
      callWith pos f first (backTo pos (starEach [] c.env)) []))
    (h : Ev c o m H (fun ov H1 => MethJ c ov name m H1 (fun f fs H2 => CallK c f fs m H2 Q X) X) X) : Ev c (.Call (.Attribute o name apos) [] [] pos) m H Q X := Ev.methK0 h he
theorem Ev.methKX {o name apos e rest pos} {Q : Value → HM → Prop} (pl : Sem Bool)
    (he : eval (.Call (.Attribute o name apos) (e :: rest) [] pos) c.env = (do
      let ov ← eval o c.env
      standAt apos.atName
      let (f, first) ← holding [ov] (getMethod ov name pl)
      callWith pos f first (backTo pos (starEach (e :: rest) c.env)) []))
    (hs : starEach (e :: rest) c.env = (false, eval e c.env) :: starEach rest c.env) (hp : (backTo pos (starEach rest c.env)).any (·.1) = false)
    (h : Ev c o m H (fun ov H1 => MethJ c ov name m H1 (fun f fs H2 => Vals c (e :: rest) m H2 (fun vs H3 => CallK c f (fs ++ vs) m H3 Q X) X) X) X) : Ev c (.Call (.Attribute o name apos) (e :: rest) [] pos) m H Q X := Ev.methK h he hs hp
theorem CallK.app {f a : Value} {r : List Value} {Q : Value → HM → Prop} (h : CallK c f (a :: r) m H Q X) : CallK c f ([a] ++ r) m H Q X := h
theorem setAt_length {α : Type} (vs : List α) (k : Int) (v : α) : (setAt vs k v).length = vs.length := by simp [setAt]
theorem iteD {p : Prop} [Decidable p] {A B : Prop} (h1 : p → A) (h2 : ¬ p → B) : if decide p = true then A else B := by
  by_cases h : p
  · rw [if_pos (decide_eq_true h)]; exact h1 h
  · rw [if_neg (by simp [h])]; exact h2 h
theorem iteN {p : Prop} [Decidable p] {A B : Prop} (h1 : ¬ p → A) (h2 : p → B) : if (!decide p) = true then A else B := by
  by_cases h : p
  · rw [if_neg (by simp [h])]; exact h2 h
  · rw [if_pos (by simp [h])]; exact h1 h
theorem iteT {A B : Prop} (h : A) : if true = true then A else B := by rw [if_pos rfl]; exact h
theorem iteF {A B : Prop} (h : B) : if false = true then A else B := by rw [if_neg Bool.false_ne_true]; exact h
theorem iteB {b : Bool} {A B : Prop} (h1 : b = true → A) (h2 : b = false → B) : if b = true then A else B := by
  cases b
  · rw [if_neg Bool.false_ne_true]; exact h2 rfl
  · rw [if_pos rfl]; exact h1 rfl
theorem ItemG.listX {a : Addr} {k : Int} {Q : Value → HM → Prop} (vs : List Value) (v : Value) (hv : H a = some (.list vs)) (hk : at? vs k = some v) (hs : k.natAbs < 2 ^ 62) (h : Q v H) : ItemG c (.ref a) (VI k) m H Q X := .list hv hk hs h
theorem ItemG.tupX {a : Addr} {k : Int} {Q : Value → HM → Prop} (vs : List Value) (v : Value) (hv : H a = some (.tup vs)) (hk : at? vs k = some v) (hs : k.natAbs < 2 ^ 62) (h : Q v H) : ItemG c (.ref a) (VI k) m H Q X := .tup hv hk hs h
theorem I_listX {a : Addr} {k : Int} {Q : Value → HM → Prop} (vs : List Value) (v : Value) (hv : H a = some (.list vs)) (hk : at? vs k = some v) (hs : k.natAbs < 2 ^ 62) (h : Q v H) : ItemJ c (.ref a) (VI k) m H Q X := I_list hv hk hs h
theorem StoreI.atX {a : Addr} {k : Int} {v : Value} {Q : LM → HM → Prop} (vs : List Value) (hv : H a = some (.list vs)) (h0 : -(vs.length : Int) ≤ k) (h1 : k < vs.length) (hs : k.natAbs < 2 ^ 62) (h : Q m (H.set a (.list (setAt vs k v)))) : StoreI c (.ref a) (VI k) v m H Q := .at hv h0 h1 hs h
theorem DelI.atX {a : Addr} {k : Int} {Q : LM → HM → Prop} (vs : List Value) (hv : H a = some (.list vs)) (h0 : -(vs.length : Int) ≤ k) (h1 : k < vs.length) (hs : vs.length ≤ 16000000) (h : Q m (H.set a (.list (delAt vs k)))) : DelI c (.ref a) (VI k) m H Q := .at hv h0 h1 hs h
theorem Ev.globX {x p} {Q : Value → HM → Prop} (K : Frag) (n : Nat) (v : Value) (O : Ok c K n) (e : nsIn K mainGlobals x = some (some v)) (hl : c.env.kindOf x = some .globalImplicit) (hd : (x == ("__debug__" : Str)) = false) (h : Q (er v) H) : Ev c (.Name x p) m H Q X := Ev.glob O hl e h hd
theorem Ev.bltX {x p} {Q : Value → HM → Prop} (K : Frag) (n : Nat) (v : Value) (hv : bootBuiltins x = some v) (O : Ok c K n) (hl : c.env.kindOf x = some .globalImplicit) (e : nsIn K mainGlobals x = some none) (hn : x ≠ "__name__") (hd : (x == ("__debug__" : Str)) = false) (h : Q (er v) H) : Ev c (.Name x p) m H Q X := Ev.blt O hl e hv hn h hd
theorem MethJ.listX {a : Addr} {name : Str} {id : String} {Q : Value → List Value → HM → Prop} (vs : List Value) (hl : H a = some (.list vs)) (slot : Slot "list" name id) (ty : typeOf (.builtin id) = pure (.type "method_descriptor")) (h : Q (.builtin id) [.ref a] H) : MethJ c (.ref a) name m H Q X := .list hl slot ty h
theorem T_listX {a : Addr} {Q : Bool → HM → Prop} (vs : List Value) (hv : H a = some (.list vs)) (hl : vs.length ≤ 16000000) (h : Q (!vs.isEmpty) H) : Tru c (.ref a) m H Q X := T_list hv hl h
theorem C_appendX {a : Addr} {v : Value} {Q : Value → HM → Prop} (vs : List Value) (hv : H a = some (.list vs)) (hl : vs.length ≤ 16000000) (h : Q .none (H.set a (.list (vs ++ [v])))) : CallJ c (.builtin "list.append") [.ref a, v] [] m H Q X := C_append hv hl h
theorem C_lenLX {a : Addr} {Q : Value → HM → Prop} (vs : List Value) (hv : H a = some (.list vs)) (hl : vs.length ≤ 16000000) (h : Q (VI vs.length) H) : CallJ c (.builtin "len") [.ref a] [] m H Q X := C_lenL hv hl h
theorem O_addLX {a b : Addr} {Q : Value → HM → Prop} (vs us : List Value) (hv : H a = some (.list vs)) (hu : H b = some (.list us)) (hl : vs.length + us.length ≤ 16000000) (h : ∀ r, H r = none → Q (.ref r) (H.set r (.list (vs ++ us)))) : Op2 c (binaryOp .Add) (.ref a) (.ref b) m H Q X := O_addL hv hu hl h
theorem O_eqLX {a b : Addr} {Q : Value → HM → Prop} (K : Frag) (n : Nat) (vs us : List Value) (hv : H a = some (.list vs)) (hu : H b = some (.list us)) (O : Ok c K n) (hf : ∀ x ∈ vs, ∀ y ∈ us, Flat2 x y) (h : Q (VB (decide (vs = us))) H) : Op2 c (compareOp .Eq) (.ref a) (.ref b) m H Q X := O_eqL O hv hu hf h
theorem O_neLX {a b : Addr} {Q : Value → HM → Prop} (K : Frag) (n : Nat) (vs us : List Value) (hv : H a = some (.list vs)) (hu : H b = some (.list us)) (O : Ok c K n) (hf : ∀ x ∈ vs, ∀ y ∈ us, Flat2 x y) (h : Q (VB (!decide (vs = us))) H) : Op2 c (compareOp .NotEq) (.ref a) (.ref b) m H Q X := O_neL O hv hu hf h
theorem MethJ.strX {l : List Nat} {name : Str} {id : String} {Q : Value → List Value → HM → Prop} (slot : Slot "str" name id) (ty : typeOf (.builtin id) = pure (.type "method_descriptor")) (h : Q (.builtin id) [VT l] H) : MethJ c (VT l) name m H Q X := .str slot ty h
end
end Mine
end

section
open PySem PySem.W PySem.Calls PyProof.Rows PySem.Builtin PySem.Builtin.Str
set_option linter.all false
set_option maxRecDepth 100000
namespace Mine

theorem HM.set_none {H : HM} {a r : Addr} {o : AO} : (H.set a o) r = none ↔ r ≠ a ∧ H r = none := by
  unfold HM.set
  by_cases h : r = a
  · simp [h]
  · simp [h]
theorem HM.ne_ofX {a b : Addr} (H : HM) (o : AO) (hb : H b = some o) (ha : H a = none) : b ≠ a := HM.ne_of ha hb
theorem HM.ne_ofY {a b : Addr} (H : HM) (o : AO) (ha : H a = none) (hb : H b = some o) : b ≠ a := HM.ne_of ha hb
theorem HM.del_none {H : HM} {a r : Addr} : (H.del a) r = none ↔ r = a ∨ H r = none := by
  unfold HM.del
  by_cases h : r = a
  · simp [h]
  · simp [h]
section
variable {c : FC} {K : Frag} {n : Nat} {m : LM} {H F : HM} {X : XM} {s : Shared}
def NewL (vs : List Value) (H : HM) (Q : Value → HM → Prop) : Prop := vs.length ≤ 16000000 ∧ ∀ a, H a = none → Q (.ref a) (H.set a (.list vs))
def NewT (vs : List Value) (H : HM) (Q : Value → HM → Prop) : Prop := vs.length ≤ 16000000 ∧ ∀ a, H a = none → Q (.ref a) (H.set a (.tup vs))
theorem NewL.mk {vs : List Value} {Q : Value → HM → Prop} (hl : vs.length ≤ 16000000) (h : ∀ a, H a = none → Q (.ref a) (H.set a (.list vs))) : NewL vs H Q := ⟨hl, h⟩
theorem NewT.mk {vs : List Value} {Q : Value → HM → Prop} (hl : vs.length ≤ 16000000) (h : ∀ a, H a = none → Q (.ref a) (H.set a (.tup vs))) : NewT vs H Q := ⟨hl, h⟩
theorem Ev.listG {es p} {Q : Value → HM → Prop} (h : Vals c es m H (fun vs H1 => NewL vs H1 Q) X) : Ev c (.List es p) m H Q X := Ev.list h
theorem Ev.tupleG {es k p} {Q : Value → HM → Prop} (h : Vals c es m H (fun vs H1 => NewT vs H1 Q) X) : Ev c (.Tuple es k p) m H Q X := Ev.tuple h

theorem flat_nil (vs : List Value) : ∀ x ∈ vs, ∀ y ∈ ([] : List Value), Flat2 x y := fun _ _ _ h => nomatch h
theorem flat_texts (a b : List (List Nat)) : ∀ x ∈ a.map VT, ∀ y ∈ b.map VT, Flat2 x y := fun x hx y hy => by
  obtain ⟨l, _, rfl⟩ := List.mem_map.mp hx
  obtain ⟨k, _, rfl⟩ := List.mem_map.mp hy
  exact .inr ⟨_, _, rfl, rfl⟩
theorem flat_ints (a b : List Int) : ∀ x ∈ a.map VI, ∀ y ∈ b.map VI, Flat2 x y := fun x hx y hy => by
  obtain ⟨l, _, rfl⟩ := List.mem_map.mp hx
  obtain ⟨k, _, rfl⟩ := List.mem_map.mp hy
  exact .inl ⟨_, _, rfl, rfl⟩
/-! ## heaps below heaps -/
theorem HM.le_fresh {H : HM} {r : Addr} {o : AO} (h : H r = none) : H.le (H.set r o) := HM.le_set o h
theorem HM.le_fresh' {H H' : HM} {r : Addr} {o : AO} (h : H' r = none) (l : H.le H') : H.le (H'.set r o) := l.trans (HM.le_set o h)
/-- an entry at an address, and below it a heap that has it not -/
theorem HM.le_ins {H H' : HM} {r : Addr} {o : AO} (h : H r = none) (l : H.le H') : H.le (H'.set r o) := fun a x e => by
  have : a ≠ r := by rintro rfl; rw [h] at e; cases e
  rw [HM.set_ne _ _ this]; exact l a x e
/-- an entry set on both sides, deeper on the right -/
theorem HM.le_swap {H H' : HM} {a b : Addr} {x y : AO} (hn : a ≠ b) (l : (H.set a x).le ((H'.set a x).set b y)) : (H.set a x).le ((H'.set b y).set a x) := by
  rw [HM.set_comm H' y x hn.symm]; exact l
end
end Mine
end

section
open PySem PySem.W PySem.Calls PyProof.Rows PySem.Builtin PySem.Builtin.Str
set_option linter.all false
set_option maxRecDepth 100000
namespace Mine

theorem plainAttrs_Pattern : PlainAttrs "re.Pattern" :=
  ⟨⟨"object.__getattribute__", by rw [typeLookup_type, builtinLookup_eq_fast]; kernel_rfl, by decide +kernel⟩, by rw [typeLookup_type, builtinLookup_eq_fast]; kernel_rfl⟩
theorem plainAttrs_Match : PlainAttrs "re.Match" :=
  ⟨⟨"object.__getattribute__", by rw [typeLookup_type, builtinLookup_eq_fast]; kernel_rfl, by decide +kernel⟩, by rw [typeLookup_type, builtinLookup_eq_fast]; kernel_rfl⟩
theorem slot_Pattern_sub : Slot "re.Pattern" "sub" "re.Pattern.sub" :=
  .of (owner := "re.Pattern") (n := "sub") (by rw [typeLookup_type, builtinLookup_eq_fast]; kernel_rfl) (by decide +kernel) (by decide +kernel) (by decide +kernel)
    (by first | exact .inl (by decide +kernel) | exact .inr (by decide +kernel)) (by rw [isSubtype_type]; kernel_rfl)
theorem type_Pattern_sub : typeOf (.builtin "re.Pattern.sub") = pure (.type "method_descriptor") := by show builtinType _ = _; rw [builtinType_eq_fast]; kernel_rfl
theorem entry_Pattern_sub : entryFor table "re.Pattern.sub" = some Builtin.«re.Pattern.sub» := entryFor_of_tree (by kernel_rfl)
theorem entry_Pattern_loop : entryFor table "re.Pattern.sub.loop" = some Builtin.«re.Pattern.sub.loop» := entryFor_of_tree (by kernel_rfl)
theorem slot_Pattern_match : Slot "re.Pattern" "match" "re.Pattern.match" :=
  .of (owner := "re.Pattern") (n := "match") (by rw [typeLookup_type, builtinLookup_eq_fast]; kernel_rfl) (by decide +kernel) (by decide +kernel) (by decide +kernel)
    (by first | exact .inl (by decide +kernel) | exact .inr (by decide +kernel)) (by rw [isSubtype_type]; kernel_rfl)
theorem type_Pattern_match : typeOf (.builtin "re.Pattern.match") = pure (.type "method_descriptor") := by show builtinType _ = _; rw [builtinType_eq_fast]; kernel_rfl
theorem entry_Pattern_match : entryFor table "re.Pattern.match" = some Builtin.«re.Pattern.match» := entryFor_of_tree (by kernel_rfl)
theorem slot_Match_end : Slot "re.Match" "end" "re.Match.end" :=
  .of (owner := "re.Match") (n := "end") (by rw [typeLookup_type, builtinLookup_eq_fast]; kernel_rfl) (by decide +kernel) (by decide +kernel) (by decide +kernel)
    (by first | exact .inl (by decide +kernel) | exact .inr (by decide +kernel)) (by rw [isSubtype_type]; kernel_rfl)
theorem type_Match_end : typeOf (.builtin "re.Match.end") = pure (.type "method_descriptor") := by show builtinType _ = _; rw [builtinType_eq_fast]; kernel_rfl
theorem entry_Match_end : entryFor table "re.Match.end" = some Builtin.«re.Match.end» := entryFor_of_tree (by kernel_rfl)
theorem args_Pattern_sub (a b d : Value) : argsOk "re.Pattern.sub" ⟨[a, b, d], []⟩ := by
  unfold argsOk; kernel_rfl
theorem args_Pattern_match (a b d : Value) : argsOk "re.Pattern.match" ⟨[a, b, d], []⟩ := by
  unfold argsOk; kernel_rfl
theorem args_Match_end (a : Value) : argsOk "re.Match.end" ⟨[a], []⟩ := by
  unfold argsOk; kernel_rfl
theorem plain_loop : plainId "re.Pattern.sub.loop" = true := by decide +kernel
end Mine
end

section
open PySem PySem.Sre
set_option linter.all false
set_option maxRecDepth 100000
namespace Mine

/-! ## the pattern's machine -/
def reCode : Array Nat := #[14, 10, 1, 3, 4294967295, 2, 2, 27, 91, 0, 0, 16, 27, 16, 91, 24, 10, 0, 4294967295, 13, 5, 22, 48, 63, 0, 1, 24, 10, 0, 4294967295, 13, 5, 22, 32, 47, 0, 1, 13, 5, 22, 64, 126, 0, 1]

theorem in1 (c : Nat) (seen : Seen) : ∃ seen', inSet reCode c 44 21 true seen = .ok (48 ≤ c && c ≤ 63, seen') := by
  show ∃ seen', (if (48 ≤ c && c ≤ 63) = true then Except.ok (true, seen.add 22) else Except.ok (!true, (seen.add 22).add 0)) = _
  cases h : (48 ≤ c && c ≤ 63)
  · exact ⟨_, rfl⟩
  · exact ⟨_, rfl⟩
theorem in2 (c : Nat) (seen : Seen) : ∃ seen', inSet reCode c 44 32 true seen = .ok (32 ≤ c && c ≤ 47, seen') := by
  show ∃ seen', (if (32 ≤ c && c ≤ 47) = true then Except.ok (true, seen.add 22) else Except.ok (!true, (seen.add 22).add 0)) = _
  cases h : (32 ≤ c && c ≤ 47)
  · exact ⟨_, rfl⟩
  · exact ⟨_, rfl⟩
theorem in3 (c : Nat) (seen : Seen) : ∃ seen', inSet reCode c 44 39 true seen = .ok (64 ≤ c && c ≤ 126, seen') := by
  show ∃ seen', (if (64 ≤ c && c ≤ 126) = true then Except.ok (true, seen.add 22) else Except.ok (!true, (seen.add 22).add 0)) = _
  cases h : (64 ≤ c && c ≤ 126)
  · exact ⟨_, rfl⟩
  · exact ⟨_, rfl⟩
theorem acc1 (c : Nat) (seen : Seen) : ∃ seen', accepts reCode 19 c seen = .ok (48 ≤ c && c ≤ 63, seen') := in1 c seen
theorem acc2 (c : Nat) (seen : Seen) : ∃ seen', accepts reCode 30 c seen = .ok (32 ≤ c && c ≤ 47, seen') := in2 c seen
theorem acc3 (c : Nat) (seen : Seen) : ∃ seen', accepts reCode 37 c seen = .ok (64 ≤ c && c ≤ 126, seen') := in3 c seen

theorem run_spec (i : Nat) (pr : Nat → Bool) (ha : ∀ c seen, ∃ seen', accepts reCode i c seen = .ok (pr c, seen')) (t : Array Nat) : ∀ (k n p found : Nat) (seen : Seen), k ≤ n → (∀ j, j < k → pr (t.getD (p + j) 0) = true) → (k = n ∨ pr (t.getD (p + k) 0) = false) →
    ∃ seen', Sre.run reCode t i n p found seen = .ok (found + k, seen')
  | 0, n, p, found, seen, hk, h1, h2 => by
    cases n with
    | zero => exact ⟨seen, rfl⟩
    | succ n =>
      obtain ⟨s', e⟩ := ha (t.getD p 0) seen
      rcases h2 with h2 | h2
      · cases h2
      · unfold Sre.run
        rw [e]
        rw [Nat.add_zero] at h2
        refine ⟨s', ?_⟩
        show (if pr (t.getD p 0) = true then _ else pure (found, s')) = _
        rw [h2]; rfl
  | k + 1, n, p, found, seen, hk, h1, h2 => by
    cases n with
    | zero => omega
    | succ n =>
      obtain ⟨s', e⟩ := ha (t.getD p 0) seen
      obtain ⟨s2, e2⟩ := run_spec i pr ha t k n (p + 1) (found + 1) s' (by omega) (fun j hj => by have := h1 (j + 1) (by omega); rwa [show p + 1 + j = p + (j + 1) from by omega]) (by
        rcases h2 with h2 | h2
        · exact .inl (by omega)
        · right; rwa [show p + 1 + k = p + (k + 1) from by omega])
      refine ⟨s2, ?_⟩
      unfold Sre.run
      rw [e]
      show (if pr (t.getD p 0) = true then Sre.run reCode t i n (p + 1) (found + 1) s' else _) = _
      rw [if_pos (by have := h1 0 (by omega); simpa using this), e2, show found + 1 + k = found + (k + 1) from by omega]

/-! ### runs of the machine -/
def Ends (B : Nat) (m : M) (P : M → Prop) : Prop := ∃ n, n ≤ B ∧ (m.runFor n).outcome.isSome = true ∧ P (m.runFor n)
theorem Ends.now {B : Nat} {m : M} {P : M → Prop} (h : m.outcome.isSome = true) (p : P m) : Ends B m P := ⟨0, Nat.zero_le _, h, p⟩
theorem Ends.mono {B B' : Nat} {m : M} {P : M → Prop} (h : B ≤ B') (e : Ends B m P) : Ends B' m P := let ⟨n, h1, h2⟩ := e; ⟨n, Nat.le_trans h1 h, h2⟩
theorem Ends.step {B : Nat} {m : M} {P : M → Prop} (h : m.outcome = none) (e : Ends B m.step P) : Ends (B + 1) m P := by
  obtain ⟨n, h0, h1, h2⟩ := e
  refine ⟨n + 1, by omega, ?_, ?_⟩
  · unfold M.runFor; rw [h]; exact h1
  · unfold M.runFor; rw [h]; exact h2
theorem run_stable {m : M} (h : m.outcome.isSome = true) : ∀ n, m.runFor n = m
  | 0 => rfl
  | n + 1 => by unfold M.runFor; rw [if_pos h]
theorem run_add (m : M) : ∀ a b, (m.runFor a).runFor b = m.runFor (a + b)
  | 0, b => by rw [Nat.zero_add]; rfl
  | a + 1, b => by
    rw [show a + 1 + b = (a + b) + 1 from by omega]
    by_cases h : m.outcome.isSome = true
    · rw [run_stable h, run_stable h, run_stable h]
    · have e1 : ∀ k, m.runFor (k + 1) = m.step.runFor k := fun k => by
        show (if m.outcome.isSome = true then m else m.step.runFor k) = _
        rw [if_neg h]
      rw [e1, e1, run_add m.step a b]

/-- the machine's state at this pattern -/
def mst (t : Array Nat) (lastS start pc pos handed : Nat) (outer : Bool) (frames : List Sre.Frame) (weight : Nat) (answer : Option Bool) (seen : Seen) (outcome : Option Sre.Outcome) : M :=
  { code := reCode, text := t, lim := t.size, start, lastStart := lastS, wholeText := false, mustAdvance := false, pc, pos, handed, outermost := outer, marks := #[], lastmark := -1, lastindex := -1,
    loops := #[], inner := none, frames, weight, answer, seen, outcome }

section
variable {B : Nat} {t : Array Nat} {lastS start pos handed w : Nat} {outer : Bool} {fs : List Sre.Frame} {seen : Seen} {P : M → Prop}
theorem go_lit1_end (h : ¬ pos < t.size) (k : ∀ seen', Ends B (mst t lastS start 11 pos handed outer fs w (some false) seen' none) P) : Ends (B + 1) (mst t lastS start 11 pos handed outer fs w none seen none) P := by
  refine Ends.step rfl ?_
  have : (mst t lastS start 11 pos handed outer fs w none seen none).step = mst t lastS start 11 pos handed outer fs w (some false) (seen.add 16) none := by
    show (if pos ≥ t.size then _ else _) = _
    rw [if_pos (by omega)]; rfl
  rw [this]; exact k _
theorem go_lit1_no (h : pos < t.size) (hc : t.getD pos 0 ≠ 27) (k : ∀ seen', Ends B (mst t lastS start 11 pos handed outer fs w (some false) seen' none) P) : Ends (B + 1) (mst t lastS start 11 pos handed outer fs w none seen none) P := by
  refine Ends.step rfl ?_
  have : (mst t lastS start 11 pos handed outer fs w none seen none).step = mst t lastS start 11 pos handed outer fs w (some false) (seen.add 16) none := by
    show (if pos ≥ t.size then _ else (match (Except.ok (t.getD pos 0 == 27, seen.add 16) : Except String (Bool × Seen)) with | .error why => _ | .ok (false, s) => _ | .ok (true, s) => _)) = _
    rw [if_neg (by omega), show (t.getD pos 0 == 27) = false from beq_eq_false_iff_ne.mpr hc]; rfl
  rw [this]; exact k _
theorem go_lit1_yes (h : pos < t.size) (hc : t.getD pos 0 = 27) (k : ∀ seen', Ends B (mst t lastS start 13 (pos + 1) handed outer fs w none seen' none) P) : Ends (B + 1) (mst t lastS start 11 pos handed outer fs w none seen none) P := by
  refine Ends.step rfl ?_
  have : (mst t lastS start 11 pos handed outer fs w none seen none).step = mst t lastS start 13 (pos + 1) handed outer fs w none (seen.add 16) none := by
    show (if pos ≥ t.size then _ else (match (Except.ok (t.getD pos 0 == 27, seen.add 16) : Except String (Bool × Seen)) with | .error why => _ | .ok (false, s) => _ | .ok (true, s) => _)) = _
    rw [if_neg (by omega), show (t.getD pos 0 == 27) = true from beq_iff_eq.mpr hc]; rfl
  rw [this]; exact k _
theorem go_lit2_yes (h : pos < t.size) (hc : t.getD pos 0 = 91) (k : ∀ seen', Ends B (mst t lastS start 15 (pos + 1) handed outer fs w none seen' none) P) : Ends (B + 1) (mst t lastS start 13 pos handed outer fs w none seen none) P := by
  refine Ends.step rfl ?_
  have : (mst t lastS start 13 pos handed outer fs w none seen none).step = mst t lastS start 15 (pos + 1) handed outer fs w none (seen.add 16) none := by
    show (if pos ≥ t.size then _ else (match (Except.ok (t.getD pos 0 == 91, seen.add 16) : Except String (Bool × Seen)) with | .error why => _ | .ok (false, s) => _ | .ok (true, s) => _)) = _
    rw [if_neg (by omega), show (t.getD pos 0 == 91) = true from beq_iff_eq.mpr hc]; rfl
  rw [this]; exact k _
theorem go_in_yes (h : pos < t.size) (hc : (64 ≤ t.getD pos 0 && t.getD pos 0 ≤ 126) = true) (k : ∀ seen', Ends B (mst t lastS start 43 (pos + 1) handed outer fs w none seen' none) P) : Ends (B + 1) (mst t lastS start 37 pos handed outer fs w none seen none) P := by
  refine Ends.step rfl ?_
  obtain ⟨s', e⟩ := acc3 (t.getD pos 0) (seen.add 13)
  have : (mst t lastS start 37 pos handed outer fs w none seen none).step = mst t lastS start 43 (pos + 1) handed outer fs w none s' none := by
    show (if pos ≥ t.size then _ else (match accepts reCode 37 (t.getD pos 0) (seen.add 13) with | .error why => _ | .ok (false, s) => _ | .ok (true, s) => _)) = _
    rw [if_neg (by omega), e, hc]; rfl
  rw [this]; exact k _
theorem go_success (h : pos ≠ start) (k : ∀ seen', Ends B (mst t lastS start 43 pos pos outer fs w (some true) seen' none) P) : Ends (B + 1) (mst t lastS start 43 pos handed outer fs w none seen none) P := by
  refine Ends.step rfl ?_
  have : (mst t lastS start 43 pos handed outer fs w none seen none).step = mst t lastS start 43 pos pos outer fs w (some true) (seen.add 1) none := by
    show (if (outer && ((false && _) || (false && _))) = true then _ else _) = _
    rw [if_neg (by simp)]; rfl
  rw [this]; exact k _
theorem go_rep1 {k : Nat} (hk : pos + k ≤ t.size) (hs : t.size < 4000000000) (hw : w < 1000) (h1 : ∀ j, j < k → (48 ≤ t.getD (pos + j) 0 && t.getD (pos + j) 0 ≤ 63) = true)
    (h2 : pos + k = t.size ∨ (48 ≤ t.getD (pos + k) 0 && t.getD (pos + k) 0 ≤ 63) = false)
    (go : ∀ (f : Sre.Frame) seen', f.wait = .giveBack → f.kept.marks = #[] → Ends B (mst t lastS start 26 (pos + k) (pos + k) outer (f :: fs) (w + 1) none seen' none) P) : Ends (B + 1) (mst t lastS start 15 pos handed outer fs w none seen none) P := by
  refine Ends.step rfl ?_
  obtain ⟨s', e⟩ := run_spec 19 (fun c => 48 ≤ c && c ≤ 63) acc1 t k (min 4294967295 (((t.size : Int) - (pos : Int)).toNat)) pos 0 ((seen.add 24).add 13) (by omega) h1 (by
    rcases h2 with h2 | h2
    · exact .inl (by omega)
    · exact .inr h2)
  rw [Nat.zero_add] at e
  have : (mst t lastS start 15 pos handed outer fs w none seen none).step = mst t lastS start 26 (pos + k) (pos + k) outer ({ wait := .giveBack, pc := 15, pos := pos + k, outermost := outer, count := k, kept := {} } :: fs) (w + 1) none s' none := by
    show (if ((0 : Nat) : Int) > (t.size : Int) - (pos : Int) then _ else match Sre.run reCode t 19 (min 4294967295 (((t.size : Int) - (pos : Int)).toNat)) pos 0 ((seen.add 24).add 13) with | .error why => _ | .ok (n, s) => _) = _
    rw [if_neg (by omega), e]
    show (if k < 0 then _ else (if w + 1 + 0 > 16777216 then _ else _)) = _
    rw [if_neg (by omega), if_neg (by omega)]
    rfl
  rw [this]
  exact go _ _ rfl rfl
theorem go_rep2 {k : Nat} (hk : pos + k ≤ t.size) (hs : t.size < 4000000000) (hw : w < 1000) (h1 : ∀ j, j < k → (32 ≤ t.getD (pos + j) 0 && t.getD (pos + j) 0 ≤ 47) = true)
    (h2 : pos + k = t.size ∨ (32 ≤ t.getD (pos + k) 0 && t.getD (pos + k) 0 ≤ 47) = false)
    (go : ∀ (f : Sre.Frame) seen', f.wait = .giveBack → f.kept.marks = #[] → Ends B (mst t lastS start 37 (pos + k) (pos + k) outer (f :: fs) (w + 1) none seen' none) P) : Ends (B + 1) (mst t lastS start 26 pos handed outer fs w none seen none) P := by
  refine Ends.step rfl ?_
  obtain ⟨s', e⟩ := run_spec 30 (fun c => 32 ≤ c && c ≤ 47) acc2 t k (min 4294967295 (((t.size : Int) - (pos : Int)).toNat)) pos 0 ((seen.add 24).add 13) (by omega) h1 (by
    rcases h2 with h2 | h2
    · exact .inl (by omega)
    · exact .inr h2)
  rw [Nat.zero_add] at e
  have : (mst t lastS start 26 pos handed outer fs w none seen none).step = mst t lastS start 37 (pos + k) (pos + k) outer ({ wait := .giveBack, pc := 26, pos := pos + k, outermost := outer, count := k, kept := {} } :: fs) (w + 1) none s' none := by
    show (if ((0 : Nat) : Int) > (t.size : Int) - (pos : Int) then _ else match Sre.run reCode t 30 (min 4294967295 (((t.size : Int) - (pos : Int)).toNat)) pos 0 ((seen.add 24).add 13) with | .error why => _ | .ok (n, s) => _) = _
    rw [if_neg (by omega), e]
    show (if k < 0 then _ else (if w + 1 + 0 > 16777216 then _ else _)) = _
    rw [if_neg (by omega), if_neg (by omega)]
    rfl
  rw [this]
  exact go _ _ rfl rfl

/-! ### answers -/
theorem yes_back {f : Sre.Frame} {pc : Nat} (hf : f.wait = .giveBack) (k : ∀ pc' pos' outer' w', Ends B (mst t lastS start pc' pos' handed outer' fs w' (some true) seen none) P) : Ends (B + 1) (mst t lastS start pc pos handed outer (f :: fs) w (some true) seen none) P := by
  refine Ends.step rfl ?_
  have : (mst t lastS start pc pos handed outer (f :: fs) w (some true) seen none).step = mst t lastS start f.pc f.pos handed f.outermost fs (w - (1 + f.kept.marks.size)) (some true) seen none := by
    obtain ⟨wt, fpc, fpos, fo, fc, fk, fl, fb⟩ := f
    have hf : wt = .giveBack := hf
    subst hf
    rfl
  rw [this]; exact k _ _ _ _
theorem yes_start {f : Sre.Frame} {pc : Nat} (hf : f.wait = .nextStart) (k : ∀ pc' pos' outer' w', Ends B (mst t lastS start pc' pos' handed outer' fs w' (some true) seen none) P) : Ends (B + 1) (mst t lastS start pc pos handed outer (f :: fs) w (some true) seen none) P := by
  refine Ends.step rfl ?_
  have : (mst t lastS start pc pos handed outer (f :: fs) w (some true) seen none).step = mst t lastS start f.pc f.pos handed f.outermost fs (w - (1 + f.kept.marks.size)) (some true) seen none := by
    obtain ⟨wt, fpc, fpos, fo, fc, fk, fl, fb⟩ := f
    have hf : wt = .nextStart := hf
    subst hf
    rfl
  rw [this]; exact k _ _ _ _
theorem end_yes {pc : Nat} (k : ∀ m : M, m.start = start → m.handed = handed → m.marks = #[] → m.lastmark = -1 → m.lastindex = -1 → m.outcome = some .matched → P m) : Ends (B + 1) (mst t lastS start pc pos handed outer [] w (some true) seen none) P :=
  Ends.step rfl (Ends.now rfl (k _ rfl rfl rfl rfl rfl rfl))
theorem end_no {pc : Nat} (k : ∀ m : M, m.outcome = some .failed → P m) : Ends (B + 1) (mst t lastS start pc pos handed outer [] w (some false) seen none) P :=
  Ends.step rfl (Ends.now rfl (k _ rfl))

/-- a whole escape at pos, seen by the machine -/
structure EscAt (t : Array Nat) (p e : Nat) : Prop where
  le : p + 3 ≤ e
  sz : e ≤ t.size
  c0 : t.getD p 0 = 27
  c1 : t.getD (p + 1) 0 = 91
  mid : ∀ j, p + 2 ≤ j → j + 1 < e → (48 ≤ t.getD j 0 && t.getD j 0 ≤ 63) = true
  last : t.getD (e - 1) 0 = 109
theorem esc_run {e : Nat} (hs : t.size < 4000000000) (hw : w < 900) (h : EscAt t start e) (k : ∀ f1 f2 : Sre.Frame, ∀ seen' pc' pos' outer' w', f1.wait = .giveBack → f2.wait = .giveBack → Ends B (mst t lastS start pc' pos' e outer' (f1 :: f2 :: fs) w' (some true) seen' none) P) :
    Ends (B + 6) (mst t lastS start 11 start handed outer fs w none seen none) P := by
  have hle := h.le
  have hsz := h.sz
  refine go_lit1_yes (by omega) h.c0 fun s1 => go_lit2_yes (by omega) h.c1 fun s2 => ?_
  have hm : t.getD (e - 1) 0 = 109 := h.last
  refine go_rep1 (k := e - (start + 3)) (by omega) hs (by omega) (fun j hj => h.mid _ (by omega) (by omega)) (.inr ?_) fun f seen' hf _ => ?_
  · rw [show start + 1 + 1 + (e - (start + 3)) = e - 1 from by omega, hm]; rfl
  rw [show start + 1 + 1 + (e - (start + 3)) = e - 1 from by omega]
  refine go_rep2 (k := 0) (by omega) hs (by omega) (fun j hj => by omega) (.inr ?_) fun f' seen2 hf' _ => ?_
  · rw [Nat.add_zero, hm]; rfl
  simp only [Nat.add_zero]
  refine go_in_yes (by omega) (by rw [hm]; rfl) fun s5 => ?_
  rw [show e - 1 + 1 = e from by omega]
  exact go_success (by omega) fun s6 => k _ _ _ _ _ _ _ hf' hf
end

/-! ### match at a place, and search from one -/
def ms0 (t : Array Nat) (pos : Nat) : M := Sre.forMatch reCode t 0 pos t.size false false
theorem match_esc {t : Array Nat} {pos e : Nat} (hs : t.size < 4000000000) (h : EscAt t pos e) {P : M → Prop} (k : ∀ m : M, m.start = pos → m.handed = e → m.marks = #[] → m.lastmark = -1 → m.lastindex = -1 → m.outcome = some .matched → P m) : Ends 12 (ms0 t pos) P := by
  have hle := h.le
  have hsz := h.sz
  have : ms0 t pos = mst t 0 pos 11 pos pos true [] 0 none (({} : Seen).add 14) none := by
    show (if ((3 : Nat) != 0 && decide (pos ≤ t.size) && decide (t.size - pos < 3)) = true then _ else _) = _
    rw [if_neg (by simp; omega)]; rfl
  rw [this]
  exact Ends.mono (by omega) (esc_run (B := 3) hs (by omega) h fun f1 f2 s pc' pos' o' w' h1 h2 => yes_back h1 fun _ _ _ _ => yes_back h2 fun _ _ _ _ => end_yes (B := 0) k)
theorem match_no {t : Array Nat} {pos : Nat} (hp : pos < t.size) (h : t.getD pos 0 ≠ 27) {P : M → Prop} (k : ∀ m : M, m.outcome = some .failed → P m) : Ends 12 (ms0 t pos) P := by
  by_cases hl : t.size - pos < 3
  · have : ms0 t pos = mst t 0 pos 11 pos pos true [] 0 (some false) (({} : Seen).add 14) none := by
      show (if ((3 : Nat) != 0 && decide (pos ≤ t.size) && decide (t.size - pos < 3)) = true then _ else _) = _
      rw [if_pos (by simp; omega)]; rfl
    rw [this]
    exact Ends.mono (by omega) (end_no (B := 0) k)
  · have : ms0 t pos = mst t 0 pos 11 pos pos true [] 0 none (({} : Seen).add 14) none := by
      show (if ((3 : Nat) != 0 && decide (pos ≤ t.size) && decide (t.size - pos < 3)) = true then _ else _) = _
      rw [if_neg (by simp; omega)]; rfl
    rw [this]
    exact Ends.mono (by omega) (go_lit1_no (B := 1) hp h fun s => end_no (B := 0) k)

def srch (t : Array Nat) (pos : Nat) : M := Sre.forSearch reCode t 0 pos t.size false
theorem no_start {B : Nat} {t : Array Nat} {lastS start pc pos handed w : Nat} {outer : Bool} {f : Sre.Frame} {seen : Seen} {P : M → Prop} (hf : f.wait = .nextStart) (hpc : f.pc = 11) (hk : f.kept.marks = #[]) (hw : w < 900)
    (k1 : f.pos < lastS → ∀ f' : Sre.Frame, f'.wait = .nextStart → f'.pc = 11 → f'.kept.marks = #[] → f'.pos = f.pos + 1 → ∀ seen', Ends B (mst t lastS (f.pos + 1) 11 (f.pos + 1) (f.pos + 1) false [f'] (w - 1 + 1) none seen' none) P)
    (k2 : ¬ f.pos < lastS → ∀ m : M, m.outcome = some .failed → P m) : Ends (B + 2) (mst t lastS start pc pos handed outer [f] w (some false) seen none) P := by
  refine Ends.mono (Nat.le_refl _) (B := B + 1 + 1) ?_
  refine Ends.step rfl ?_
  by_cases hl : f.pos < lastS
  · have : (mst t lastS start pc pos handed outer [f] w (some false) seen none).step = mst t lastS (f.pos + 1) 11 (f.pos + 1) (f.pos + 1) false [{ wait := .nextStart, pc := 11, pos := f.pos + 1, outermost := false }] (w - 1 + 1) none seen none := by
      obtain ⟨wt, fpc, fpos, fo, fc, ⟨k1, k2, k3, k4⟩, fl, fb⟩ := f
      have hf : wt = .nextStart := hf
      have hpc : fpc = 11 := hpc
      have hk : k4 = #[] := hk
      subst hf hpc hk
      show (if fpos < lastS then _ else _) = _
      rw [if_pos hl]
      show (if w - (1 + 0) + 1 + 0 > 16777216 then _ else _) = _
      rw [if_neg (by omega)]; rfl
    rw [this]
    exact Ends.mono (Nat.le_succ _) (k1 hl _ rfl rfl rfl rfl _)
  · have : (mst t lastS start pc pos handed outer [f] w (some false) seen none).step = mst t lastS start f.pc f.pos handed f.outermost [] (w - (1 + f.kept.marks.size)) (some false) seen none := by
      obtain ⟨wt, fpc, fpos, fo, fc, fk, fl, fb⟩ := f
      have hf : wt = .nextStart := hf
      subst hf
      show (if fpos < lastS then _ else _) = _
      rw [if_neg hl]; rfl
    rw [this]
    exact Ends.mono (by omega) (end_no (B := 0) (k2 hl))
theorem search_go {t : Array Nat} (hs : t.size < 4000000000) {P : M → Prop} : ∀ (d p : Nat) (w : Nat) (outer : Bool) (f : Sre.Frame) (seen : Seen), d = t.size - p → p ≤ t.size → f.wait = .nextStart → f.pc = 11 → f.kept.marks = #[] → f.pos = p → w < 800 →
    (∀ q e, p ≤ q → EscAt t q e → (∀ j, p ≤ j → j < q → t.getD j 0 ≠ 27) → ∀ m : M, m.start = q → m.handed = e → m.marks = #[] → m.lastmark = -1 → m.lastindex = -1 → m.outcome = some .matched → P m) →
    ((∀ j, p ≤ j → j < t.size → t.getD j 0 ≠ 27) → ∀ m : M, m.outcome = some .failed → P m) →
    (∀ j, p ≤ j → j < t.size → t.getD j 0 = 27 → ∃ e, EscAt t j e) →
    Ends (4 * d + 12) (mst t t.size p 11 p p outer [f] w none seen none) P
  | 0, p, w, outer, f, seen, hd, hp, hf, hpc, hk, hfp, hw, k1, k2, we => by
    refine Ends.mono (by omega) (go_lit1_end (B := 2) (by omega) fun s => no_start (B := 0) hf hpc hk (by omega) (fun hl => by omega) fun _ => k2 fun j h1 h2 => by omega)
  | d + 1, p, w, outer, f, seen, hd, hp, hf, hpc, hk, hfp, hw, k1, k2, we => by
    by_cases h27 : t.getD p 0 = 27
    · obtain ⟨e, he⟩ := we p (Nat.le_refl _) (by omega) h27
      exact Ends.mono (by omega) (esc_run (B := 4) hs (by omega) he fun f1 f2 s pc' pos' o' w' h1 h2 => yes_back h1 fun _ _ _ _ => yes_back h2 fun _ _ _ _ => yes_start hf fun _ _ _ _ => end_yes (B := 0) (k1 p e (Nat.le_refl _) he fun j _ _ => by omega))
    · refine Ends.mono (B := (4 * d + 12) + 2 + 1) (by omega) (go_lit1_no (by omega) h27 fun s => no_start hf hpc hk (by omega) (fun hl f' a1 a2 a3 a4 seen' => ?_) fun hl => absurd (show f.pos < t.size from by omega) hl)
      have hfp' : f.pos + 1 = p + 1 := by rw [hfp]
      rw [hfp']
      refine search_go hs d (p + 1) (w - 1 + 1) false f' seen' (by omega) (by omega) a1 a2 a3 (by rw [a4, hfp]) (by omega) (fun q e hq he hno => k1 q e (by omega) he fun j hj hjq => ?_) (fun hno => k2 fun j hj hjt => ?_) (fun j hj => we j (by omega))
      · by_cases q : j = p
        · subst q; exact h27
        · exact hno j (by omega) hjq
      · by_cases q : j = p
        · subst q; exact h27
        · exact hno j (by omega) hjt
theorem search_all {t : Array Nat} {p : Nat} (hs : t.size < 4000000000) (hp : p ≤ t.size) {P : M → Prop}
    (k1 : ∀ q e, p ≤ q → EscAt t q e → (∀ j, p ≤ j → j < q → t.getD j 0 ≠ 27) → ∀ m : M, m.start = q → m.handed = e → m.marks = #[] → m.lastmark = -1 → m.lastindex = -1 → m.outcome = some .matched → P m)
    (k2 : (∀ j, p ≤ j → j < t.size → t.getD j 0 ≠ 27) → ∀ m : M, m.outcome = some .failed → P m)
    (we : ∀ j, p ≤ j → j < t.size → t.getD j 0 = 27 → ∃ e, EscAt t j e) : Ends (4 * t.size + 16) (srch t p) P := by
  by_cases hl : t.size - p < 3
  · have : srch t p = mst t 0 p 11 p p true [] 0 (some false) (({} : Seen).add 14) none := by
      show (if (decide (p > t.size) || decide (t.size - p < 3)) = true then _ else _) = _
      rw [if_pos (by simp; omega)]; rfl
    rw [this]
    refine Ends.mono (by omega) (end_no (B := 0) (k2 fun j hj hjt h27 => ?_))
    obtain ⟨e, he⟩ := we j hj hjt h27
    have := he.le; have := he.sz; omega
  · have : srch t p = mst t t.size p 11 p p true [{ wait := .nextStart, pc := 11, pos := p, outermost := true }] 1 none (({} : Seen).add 14) none := by
      show (if (decide (p > t.size) || decide (t.size - p < 3)) = true then _ else _) = _
      rw [if_neg (by simp; omega)]; rfl
    rw [this]
    exact Ends.mono (by omega) (search_go hs (t.size - p) p 1 true _ _ rfl hp rfl rfl rfl rfl (by omega) k1 k2 we)
end Mine
end

section
open PySem PySem.W PySem.Calls PyProof.Rows PySem.Builtin PySem.Builtin.Str
set_option linter.all false
set_option maxRecDepth 100000
namespace Mine

/-! ## texts made of signs and escapes -/
inductive Tk where
  | ch (c : Nat)
  | es (ps : List Nat)
  deriving DecidableEq
def Tk.flat : Tk → List Nat
  | .ch c => [c]
  | .es ps => 27 :: 91 :: (ps ++ [109])
def Tk.ok : Tk → Prop
  | .ch c => c ≠ 27 ∧ c < 128 ∧ c ≠ 9 ∧ c ≠ 13
  | .es ps => ∀ x ∈ ps, 48 ≤ x ∧ x ≤ 59
def flatT (ts : List Tk) : List Nat := ts.flatMap Tk.flat
def okT (ts : List Tk) : Prop := ∀ t ∈ ts, t.ok
def Tk.sign? : Tk → Option Nat
  | .ch c => some c
  | .es _ => none
def signs (ts : List Tk) : List Nat := ts.filterMap Tk.sign?
def plain (l : List Nat) : List Tk := l.map Tk.ch

theorem flatT_nil : flatT [] = [] := rfl
theorem flatT_cons (t : Tk) (ts : List Tk) : flatT (t :: ts) = t.flat ++ flatT ts := rfl
theorem flatT_append (a b : List Tk) : flatT (a ++ b) = flatT a ++ flatT b := List.flatMap_append
theorem flatT_plain (l : List Nat) : flatT (plain l) = l := by
  induction l with
  | nil => rfl
  | cons x r ih => show [x] ++ flatT (plain r) = _; rw [ih]; rfl
theorem signs_append (a b : List Tk) : signs (a ++ b) = signs a ++ signs b := List.filterMap_append
theorem signs_plain (l : List Nat) : signs (plain l) = l := by
  induction l with
  | nil => rfl
  | cons x r ih => show x :: signs (plain r) = _; rw [ih]
theorem plain_append (a b : List Nat) : plain (a ++ b) = plain a ++ plain b := List.map_append
theorem okT_append {a b : List Tk} : okT (a ++ b) ↔ okT a ∧ okT b := by
  unfold okT; simp only [List.mem_append]
  exact ⟨fun h => ⟨fun t ht => h t (.inl ht), fun t ht => h t (.inr ht)⟩, fun h t ht => ht.elim (h.1 t) (h.2 t)⟩
theorem okT_cons {t : Tk} {ts : List Tk} : okT (t :: ts) ↔ t.ok ∧ okT ts := by unfold okT; simp

/-- the first escape, or none -/
theorem split_esc : ∀ ts : List Tk, (∃ l, ts = plain l) ∨ ∃ l ps r, ts = plain l ++ .es ps :: r
  | [] => .inl ⟨[], rfl⟩
  | .ch c :: r => by
    rcases split_esc r with ⟨l, rfl⟩ | ⟨l, ps, r', rfl⟩
    · exact .inl ⟨c :: l, rfl⟩
    · exact .inr ⟨c :: l, ps, r', rfl⟩
  | .es ps :: r => .inr ⟨[], ps, r, rfl⟩

theorem getD_toArray (l : List Nat) (j : Nat) : l.toArray.getD j 0 = l.getD j 0 := by simp [Array.getD_eq_getD_getElem?, List.getD_eq_getElem?_getD]
theorem getD_right (a b : List Nat) (j : Nat) : (a ++ b).getD (a.length + j) 0 = b.getD j 0 := by
  simp [List.getD_eq_getElem?_getD, List.getElem?_append_right]
theorem esc_at {pre : List Nat} {ps post : List Nat} (hp : ∀ x ∈ ps, 48 ≤ x ∧ x ≤ 59) : EscAt (pre ++ ((27 :: 91 :: (ps ++ [109])) ++ post)).toArray pre.length (pre.length + (ps.length + 3)) where
  le := by omega
  sz := by simp
  c0 := by rw [getD_toArray]; have := getD_right pre ((27 :: 91 :: (ps ++ [109])) ++ post) 0; simpa using this
  c1 := by rw [getD_toArray, getD_right]; rfl
  mid := fun j h1 h2 => by
    obtain ⟨i, rfl⟩ : ∃ i, j = pre.length + (i + 2) := ⟨j - pre.length - 2, by omega⟩
    rw [getD_toArray, getD_right]
    have hi : i < ps.length := by omega
    have e : ((27 :: 91 :: (ps ++ [109])) ++ post).getD (i + 2) 0 = ps[i] := by
      simp [List.getD_eq_getElem?_getD, List.getElem?_append_left, hi]
    rw [e]
    have := hp _ (List.getElem_mem hi)
    simp only [Bool.and_eq_true, decide_eq_true_eq]; omega
  last := by
    rw [getD_toArray, show pre.length + (ps.length + 3) - 1 = pre.length + (ps.length + 2) from by omega, getD_right]
    simp [List.getD_eq_getElem?_getD, List.getElem?_append_left]
theorem flatT_27 : ∀ (ts : List Tk), okT ts → ∀ j, j < (flatT ts).length → (flatT ts).getD j 0 = 27 → ∃ pre ps post, ts = pre ++ .es ps :: post ∧ j = (flatT pre).length
  | [], _, j, hj, _ => by simp [flatT] at hj
  | .ch c :: r, ok, j, hj, h => by
    obtain ⟨o1, o2⟩ := okT_cons.mp ok
    cases j with
    | zero => exact absurd h o1.1
    | succ j =>
      obtain ⟨pre, ps, post, rfl, e⟩ := flatT_27 r o2 j (by rw [flatT_cons] at hj; simp [Tk.flat] at hj; omega) h
      exact ⟨.ch c :: pre, ps, post, rfl, by rw [flatT_cons, e]; simp [Tk.flat]⟩
  | .es ps :: r, ok, j, hj, h => by
    obtain ⟨o1, o2⟩ := okT_cons.mp ok
    rw [flatT_cons] at hj h
    have hlen : (Tk.es ps).flat.length = ps.length + 3 := by simp [Tk.flat]
    by_cases h0 : j = 0
    · subst h0; exact ⟨[], ps, r, rfl, rfl⟩
    · by_cases hin : j < ps.length + 3
      · exfalso
        have e : ((Tk.es ps).flat ++ flatT r).getD j 0 = (27 :: 91 :: (ps ++ [109])).getD j 0 := by
          simp only [List.getD_eq_getElem?_getD]
          rw [List.getElem?_append_left (by rw [hlen]; exact hin)]; rfl
        rw [e] at h
        match j, h0, hin, h with
        | 1, _, _, h => cases h
        | i + 2, _, hin, h =>
          have h : (ps ++ [109]).getD i 0 = 27 := h
          by_cases hi : i < ps.length
          · have e2 : (ps ++ [109]).getD i 0 = ps[i] := by simp [List.getD_eq_getElem?_getD, List.getElem?_append_left, hi]
            rw [e2] at h
            have := (o1 _ (List.getElem_mem hi)).1
            omega
          · have : i = ps.length := by omega
            subst this
            simp [List.getD_eq_getElem?_getD] at h
      · obtain ⟨i, rfl⟩ : ∃ i, j = (Tk.es ps).flat.length + i := ⟨j - (ps.length + 3), by omega⟩
        rw [getD_right] at h
        obtain ⟨pre, qs, post, rfl, e⟩ := flatT_27 r o2 i (by rw [List.length_append] at hj; omega) h
        exact ⟨.es ps :: pre, qs, post, rfl, by rw [flatT_cons, e, List.length_append]⟩
theorem esc_any {ts : List Tk} (ok : okT ts) {j : Nat} (hj : j < (flatT ts).toArray.size) (h : (flatT ts).toArray.getD j 0 = 27) : ∃ e, EscAt (flatT ts).toArray j e := by
  rw [getD_toArray] at h
  obtain ⟨pre, ps, post, rfl, rfl⟩ := flatT_27 ts ok j (by simpa using hj) h
  have o1 : (Tk.es ps).ok := ok _ (by simp)
  refine ⟨(flatT pre).length + (ps.length + 3), ?_⟩
  rw [flatT_append, flatT_cons]
  exact esc_at o1

/-! ## what _truncate_visible keeps -/
def vis (ts : List Tk) : Nat := (signs ts).length
def truncGo (n : Int) : Int → List Tk → List Tk → List Tk → List Tk
  | _, cp, _, [] => cp
  | v, cp, pend, .ch c :: r => if n ≤ v + 1 then cp ++ pend ++ [.ch c] else truncGo n (v + 1) (cp ++ pend ++ [.ch c]) [] r
  | v, cp, pend, .es p :: r => truncGo n v cp (pend ++ [.es p]) r
def truncV (n : Int) (ts : List Tk) : List Tk := if n ≤ 0 then [] else truncGo n 0 [] [] ts
theorem truncGo_pre (n : Int) : ∀ (r : List Tk) (v : Int) (cp pend : List Tk), ∃ z, cp ++ pend ++ r = truncGo n v cp pend r ++ z
  | [], v, cp, pend => ⟨pend, by simp [truncGo]⟩
  | .ch c :: r, v, cp, pend => by
    unfold truncGo
    split
    · exact ⟨r, by simp⟩
    · obtain ⟨z, hz⟩ := truncGo_pre n r (v + 1) (cp ++ pend ++ [.ch c]) []
      exact ⟨z, by rw [← hz]; simp⟩
  | .es p :: r, v, cp, pend => by
    unfold truncGo
    obtain ⟨z, hz⟩ := truncGo_pre n r v cp (pend ++ [.es p])
    exact ⟨z, by rw [← hz]; simp⟩
theorem truncV_pre (n : Int) (ts : List Tk) : ∃ z, ts = truncV n ts ++ z := by
  unfold truncV
  split
  · exact ⟨ts, rfl⟩
  · obtain ⟨z, hz⟩ := truncGo_pre n ts 0 [] []
    exact ⟨z, by simpa using hz⟩

theorem Tk.flat_pos (t : Tk) : 0 < t.flat.length := by cases t <;> simp [Tk.flat]
theorem flatT_eq_nil {ts : List Tk} (h : (flatT ts).length = 0) : ts = [] := by
  cases ts with
  | nil => rfl
  | cons t r => rw [flatT_cons, List.length_append] at h; have := t.flat_pos; omega
end Mine
end

section
open PySem PySem.W PySem.Calls PyProof.Rows PySem.Builtin PySem.Builtin.Str PySem.Builtin.Re
set_option linter.all false
set_option maxRecDepth 100000
namespace Mine

section
variable {M : Model} {A : Around} {E : Value → Shared → Prop} {s : Shared}

theorem drive {Q : Sre.M → Shared → Prop} : ∀ (turns n : Nat) (m : Sre.M), n ≤ 4 * turns → (m.runFor n).outcome.isSome = true → Q (m.runFor n) s → wpAny M A (reDrive (turns + 1) m) Q E s
  | turns, n, m, hn, ho, hq => by
    unfold reDrive
    show wpAny M A (if (m.runFor 4).outcome.isSome = true then pure (m.runFor 4) else (do rule "sre.turn"; reDrive turns (m.runFor 4))) Q E s
    by_cases h : (m.runFor 4).outcome.isSome = true
    · rw [if_pos h]
      have : m.runFor 4 = m.runFor n := by
        rcases Nat.le_total n 4 with q | q
        · have := run_add m n (4 - n); rw [run_stable ho, show n + (4 - n) = 4 from by omega] at this; exact this.symm
        · have := run_add m 4 (n - 4); rw [run_stable h, show 4 + (n - 4) = n from by omega] at this; exact this
      rw [this]; exact wpAny_pure hq
    · rw [if_neg h]
      have h4 : 4 < n := by
        rcases Nat.lt_or_ge 4 n with q | q
        · exact q
        · exfalso; apply h
          have := run_add m n (4 - n); rw [run_stable ho, show n + (4 - n) = 4 from by omega] at this
          rw [← this]; exact ho
      have e : (m.runFor 4).runFor (n - 4) = m.runFor n := by rw [run_add]; congr 1; omega
      refine wpAny_bind (wpAny_rule ?_)
      cases turns with
      | zero => omega
      | succ k => exact drive k (n - 4) (m.runFor 4) (by omega) (by rw [e]; exact ho) (by rw [e]; exact hq)

theorem rules_loop {m : Sre.M} {Q : PUnit → Shared → Prop} (f : Nat → PUnit → Sem (ForInStep PUnit)) (hf : ∀ i u, f i u = (if m.seen.has i = true then (do rule (Sre.names.getD i ""); pure (.yield ⟨⟩)) else pure (.yield ⟨⟩))) (hq : Q ⟨⟩ s) :
    ∀ l : List Nat, wpAny M A (forIn l ⟨⟩ f) Q E s
  | [] => by rw [List.forIn_nil]; exact wpAny_pure hq
  | i :: r => by
    rw [List.forIn_cons, hf]
    split
    · exact wpAny_bind (wpAny_bind (wpAny_rule (wpAny_pure (rules_loop f hf hq r))))
    · exact wpAny_bind (wpAny_pure (rules_loop f hf hq r))

theorem runToEnd {B : Nat} {m : Sre.M} {P : Sre.M → Prop} {Q : Option Sre.M → Shared → Prop} (h : Ends B m P) (hB : B ≤ 4 * 18446744073709551615)
    (hp : ∀ m', P m' → (m'.outcome = some .matched ∧ Q (some m') s) ∨ (m'.outcome = some .failed ∧ Q none s)) : wpAny M A (reRunToEnd m) Q E s := by
  obtain ⟨n, hn, ho, hP⟩ := h
  unfold reRunToEnd
  refine wpAny_bind (drive 18446744073709551615 n m (by omega) ho ?_)
  refine wpAny_bind (rules_loop (m := m.runFor n) _ (fun i u => by split <;> rfl) ?_ _)
  rcases hp _ hP with ⟨e, q⟩ | ⟨e, q⟩
  · rw [e]; exact wpAny_pure q
  · rw [e]; exact wpAny_pure q
end

structure PatAt (ap ac : Addr) (h : Heap) : Prop where
  pat : ∃ o, h.get? ap = some o ∧ o.cls = .type "re.Pattern" ∧ o.dict = none ∧ ∃ vs, o.data = .fields vs ∧ reRawNat (vs.getD 6 .none) = 0 ∧ reRawNat (vs.getD 2 .none) = 0 ∧ vs.getD 5 .none = .ref ac
  code : ∃ o n items, h.get? ac = some o ∧ o.data = .seq items n ∧ (items.map reRawOf).map (·.toNat) = reCode
theorem PatAt.keeps {ap ac : Addr} {h h' : Heap} (x : PatAt ap ac h) (k : ∀ b o, h.get? b = some o → h'.get? b = some o) : PatAt ap ac h' :=
  let ⟨⟨o, e, r⟩, ⟨o2, n, it, e2, r2⟩⟩ := x; ⟨⟨o, k _ _ e, r⟩, ⟨o2, n, it, k _ _ e2, r2⟩⟩

section
variable {M : Model} {A : Around} {E : Value → Shared → Prop} {s : Shared} {ap ac : Addr}
theorem whole_target {l : List Nat} {t : Tok} {Q : ReTarget → Shared → Prop} (hp : PatAt ap ac s.heap)
    (h : Q { pattern := .ref ap, string := .str (S l) t, code := reCode, text := l.toArray, kind := 0, groups := 0, pos := 0, lim := l.toArray.size } s) : wpAny M A (reWholeTarget (.ref ap) (.str (S l) t)) Q E s := by
  obtain ⟨⟨o, ho, hc, hd, vs, hdata, e6, e2, e5⟩, ⟨oc, n, items, hoc, hcd, hcode⟩⟩ := hp
  unfold reWholeTarget
  refine wpAny_bind (wpAny_fieldsOf ho hdata ?_)
  show wpAny M A (do
    if reRawNat (vs.getD 6 .none) == 0 && (0 : Nat) == 1 then raiseError "TypeError" "cannot use a string pattern on a bytes-like object"
    if reRawNat (vs.getD 6 .none) == 1 && (0 : Nat) == 0 then raiseError "TypeError" "cannot use a bytes pattern on a string-like object"
    reNoCollectionInside (.str (S l) t) 0
    pure ({ pattern := .ref ap, string := .str (S l) t, code := (← reRawItems (vs.getD 5 .none)).map (·.toNat), text := l.toArray, kind := 0, groups := reRawNat (vs.getD 2 .none), pos := 0, lim := l.toArray.size } : ReTarget)) Q E s
  rw [e6, e2, e5]
  show wpAny M A (do
    pure ({ pattern := .ref ap, string := .str (S l) t, code := (← reRawItems (.ref ac)).map (·.toNat), text := l.toArray, kind := 0, groups := 0, pos := 0, lim := l.toArray.size } : ReTarget)) Q E s
  unfold reRawItems
  refine wpAny_bind (wpAny_bind (wpAny_seqItems hoc hcd (wpAny_pure (wpAny_pure ?_))))
  show Q { pattern := .ref ap, string := .str (S l) t, code := (items.map reRawOf).map (·.toNat), text := l.toArray, kind := 0, groups := 0, pos := 0, lim := l.toArray.size } s
  rw [hcode]; exact h
end
end Mine
end

section
open PySem PySem.W PySem.Calls PyProof.Rows PySem.Builtin PySem.Builtin.Str PySem.Builtin.Re
set_option linter.all false
set_option maxRecDepth 100000
namespace Mine

theorem joinL_nil : ∀ qs : List (List Nat), joinL [] qs = qs.flatten
  | [] => rfl
  | [x] => by simp [joinL]
  | x :: y :: r => by rw [joinL, joinL_nil (y :: r)]; simp
theorem joinSize_nil (qs : List (List Nat)) : joinSize [] qs = qs.flatten.length := by
  unfold joinSize
  induction qs with
  | nil => rfl
  | cons x r ih => simp [ih]
theorem esc_unique {t : Array Nat} {q e e' : Nat} (h : EscAt t q e) (h' : EscAt t q e') : e = e' := by
  have a : ∀ {e e'}, EscAt t q e → EscAt t q e' → ¬ e < e' := fun {e e'} h h' hlt => by
    have h1 := h'.mid (e - 1) (by have := h.le; omega) (by have := h.le; omega)
    rw [h.last] at h1; cases h1
  have := a h h'; have := a h' h; omega
theorem joinMade_post {sep : Str} {ps : List (Str × Tok)} {qs : List (List Nat)} {s : Shared} {Q : Value → Shared → Prop} {y : List Nat} (hs : sep = S y) (el : ps.map (·.1) = qs.map S) (hl : (joinL y qs).length ≤ 16000000) (h : ∀ tk k, Q (.str (S (joinL y qs)) tk) { s with toks := k }) : (joinMade sep ps).post Q s := by
  subst hs
  have hglue : glued (S y) (ps.map (·.1)) = S (joinL y qs) := by rw [el, glued_S]
  unfold joinMade
  split
  · rename_i p
    cases qs with
    | nil => cases el
    | cons q r =>
      cases r with
      | nil =>
        have : p.1 = S q := by simpa using el
        show Q (.str p.1 p.2) s
        rw [this]; exact h p.2 s.toks
      | cons _ _ => simp at el
  · rw [hglue]; exact ⟨S_fits hl, h _ _⟩
theorem join_fold_ok {ps : List (Str × Tok)} {qs : List (List Nat)} {y : List Nat} (el : ps.map (·.1) = qs.map S) (hl : joinSize y qs ≤ 16000000) : tooLong ((ps.map (·.1)).toArray.foldl (· + ·.length + (S y).length) 0) = false := by
  have hfold : ((ps.map (·.1)).toArray.foldl (· + ·.length + (S y).length) 0) = joinSize y qs := by
    rw [el]; have := joinSize_fold y qs 0; simpa using this
  rw [hfold]; unfold tooLong; rw [decide_eq_false]; rw [sizeLine_eq]; omega

theorem extract_S (l : List Nat) (i j : Nat) : (⟨l.toArray.extract i j⟩ : Str) = S ((l.take j).drop i) := strSub_S l i j

section
variable {prog : Program} {w : World} {ap ac : Addr}

theorem push_text {A : Around} {E : Value → Shared → Prop} {s : Shared} {D : Addr} {ps : List (Str × Tok)} {k : Nat} {x : Str} {tk : Tok} {Q : Unit → Shared → Prop} (hD : s.heap.get? D = some { cls := .type "list", data := .seq (strValues ps).toArray k }) (hz : ps.length ≤ 15000000)
    (h : ∀ h' k', h'.get? D = some { cls := .type "list", data := .seq (strValues (ps ++ [(x, tk)])).toArray k' } → Heap.SameBut D s.heap h' → Q () { s with heap := h' }) : wpAny (model prog w) A (updateSeq D (·.push (.str x tk))) Q E s := by
  have hl : (strValues ps).toArray.size = ps.length := by simp [strValues]
  refine wpAny_updateSeq hD rfl (h _ (k + 1) ?_ (Heap.SameBut.update ..)) (by rw [hl]; exact sizeLine_ge (by omega)) (by rw [Array.size_push, hl]; have := sizeLine_ge (n := ps.length) (by omega); omega)
  refine (Heap.get?_update_self _ hD rfl).trans ?_
  show some (Obj.mapSeq (·.push (.str x tk)) { cls := .type "list", data := .seq (strValues ps).toArray k }) = _
  unfold Obj.mapSeq
  simp [strValues]

theorem sub_loop {A : Around} {R : Result → Shared → Prop} {u : Tok} {D : Addr} {t : Tok} : ∀ (rest : List Tk) (dn : List Tk) (s : Shared) (ps : List (Str × Tok)) (qs : List (List Nat)) (kk : Nat) (n : Int) (p : Int) (t1 t2 t3 t4 t5 : Tok),
    PatAt ap ac s.heap → D ≠ ap → D ≠ ac → okT (dn ++ rest) → (flatT (dn ++ rest)).length ≤ 1000000 → p = ((flatT dn).length : Int) →
    s.heap.get? D = some { cls := .type "list", data := .seq (strValues ps).toArray kk } → ps.map (·.1) = qs.map S → qs.flatten = signs dn → ps.length ≤ 2 * (flatT dn).length →
    (∀ h' tk k', (∀ b o, b ≠ D → s.heap.get? b = some o → h'.get? b = some o) → R (.ok (.ret (.str (S (signs (dn ++ rest))) tk))) { s with heap := h', toks := k' }) →
    codeAny (model prog w) A (.builtin "re.Pattern.sub.loop" ⟨[.ref ap, .str (S (flatT (dn ++ rest))) t, .str (S []) u, .int 0 t1, .int 0 t2, .int n t3, .int p t4, .int p t5, .bool false, .ref D, .bool false], []⟩) R s := by
  intro rest
  induction hn : rest.length using Nat.strongRecOn generalizing rest with
  | _ N IH =>
  intro dn s ps qs kk n p t1 t2 t3 t4 t5 hp hDp hDc hok hlen hpe hD el hq hps hR
  subst hpe
  subst hn
  refine codeAny_builtin entry_Pattern_loop ?_
  rw [Around.under_plainId plain_loop _]
  unfold Builtin.«re.Pattern.sub.loop»
  refine wpAny_bind (whole_target hp ?_)
  refine wpAny_bind (wpAny_pure ?_)
  have hsz : (flatT (dn ++ rest)).toArray.size = (flatT (dn ++ rest)).length := by simp
  have hdl : (flatT dn).length ≤ (flatT (dn ++ rest)).length := by rw [flatT_append, List.length_append]; omega
  have hN : ((flatT dn).length : Int).toNat = (flatT dn).length := Int.toNat_natCast _
  rcases split_esc rest with ⟨c, rfl⟩ | ⟨c, xs, r', rfl⟩
  · -- no escape any more
    have hno : ∀ j, (flatT dn).length ≤ j → j < (flatT (dn ++ plain c)).toArray.size → (flatT (dn ++ plain c)).toArray.getD j 0 ≠ 27 := by
      intro j h1 h2 h3
      rw [getD_toArray] at h3
      obtain ⟨i, rfl⟩ : ∃ i, j = (flatT dn).length + i := ⟨j - (flatT dn).length, by omega⟩
      rw [flatT_append, getD_right, flatT_plain] at h3
      have hi : i < c.length := by
        rw [hsz, flatT_append, flatT_plain, List.length_append] at h2; omega
      have hm : Tk.ch c[i] ∈ dn ++ plain c := by
        simp [plain]
      have := (hok _ hm).1
      rw [List.getD_eq_getElem?_getD, List.getElem?_eq_getElem hi] at h3
      exact this h3
    refine wpAny_bind (runToEnd (m := srch (flatT (dn ++ plain c)).toArray (flatT dn).length) (P := fun m' => m'.outcome = some .failed) (search_all (by rw [hsz]; omega) (by rw [hsz]; exact hdl)
      (fun q e hq he hb m' _ _ _ _ _ _ => absurd he.c0 (hno q hq (by have := he.le; have := he.sz; omega))) (fun _ m' hm => hm) (fun j h1 h2 h3 => absurd h3 (hno j h1 h2))) (by rw [hsz]; omega) fun m' hm => .inr ⟨hm, ?_⟩)
    -- the rest, then the join
    have fin : ∀ (s' : Shared) (ps' : List (Str × Tok)) (qs' : List (List Nat)) (k' : Nat) (h' : Heap) (tk' : Nat), s' = { s with heap := h', toks := tk' } → (∀ b o, b ≠ D → s.heap.get? b = some o → h'.get? b = some o) →
        h'.get? D = some { cls := .type "list", data := .seq (strValues ps').toArray k' } → ps'.map (·.1) = qs'.map S → qs'.flatten = signs (dn ++ plain c) → ps'.length ≤ 15000000 →
        wpAny (model prog w) A.in1 (do
          let joiner ← reSlice (flatT (dn ++ plain c)).toArray 0 0 0
          let text ← if ((← seqItems? (.ref D)).getD #[]).isEmpty then pure joiner else call (.builtin "str.join") [joiner, .ref D]
          ret text) (fun fin s' => match fin with | .done f => R (.ok f) s' | .again c' => c'.quiet = true ∧ codeAny (model prog w) A c' R s') (fun e s' => R (.error e) s') s' := by
      rintro s' ps' qs' k' h' tk' rfl hk hD' el' hq' hz'
      have hsl : (signs (dn ++ plain c)).length ≤ 1000000 := by
        have : ∀ ts : List Tk, (signs ts).length ≤ (flatT ts).length := by
          intro ts
          induction ts with
          | nil => simp [signs, flatT]
          | cons a r ih =>
            rw [flatT_cons, List.length_append]
            cases a with
            | ch c => show (signs r).length + 1 ≤ _; simp [Tk.flat]; omega
            | es x => show (signs r).length ≤ _; omega
        exact Nat.le_trans (this _) hlen
      refine wpAny_bind (wpAny_mkStr ?_ (by rw [extract_S]; exact S_fits (by simp)))
      rw [extract_S, List.drop_zero, List.take_zero]
      refine wpAny_bind (wpAny_seqItems hD' rfl ?_)
      have hlp : (strValues ps').toArray.isEmpty = ps'.isEmpty := by cases ps' <;> simp [strValues]
      show wpAny _ _ (if (strValues ps').toArray.isEmpty = true then _ else _) _ _ _
      rw [hlp]
      cases hpe : ps'.isEmpty with
      | true =>
        rw [if_pos rfl]
        have : ps' = [] := List.isEmpty_iff.mp hpe
        subst this
        have hqn : qs' = [] := by cases qs' with | nil => rfl | cons _ _ => cases el'
        subst hqn
        refine wpAny_bind (wpAny_pure (wpAny_pure ?_))
        have hs : signs (dn ++ plain c) = [] := hq'.symm
        have := hR h' tk' (tk' + 1) hk
        rw [hs] at this; exact this
      | false =>
        rw [if_neg Bool.false_ne_true]
        refine wpAny_bind (call_meets PySem.F.slot_str_join (typeIs_str _ _ _) PySem.F.entry_str_join (PySem.F.args_str_join_2 _ _) (meets_str_join_list (S []) _ D ps' (join_fold_ok (qs := qs') el' (by rw [joinSize_nil, hq']; omega))) ⟨isList_of hD', joinMade_post rfl el' (by rw [joinL_nil, hq']; omega) fun tk k => wpAny_pure ?_⟩)
        rw [joinL_nil, hq']
        exact hR h' tk k hk
    show wpAny _ _ (if ((flatT dn).length : Int).toNat < (flatT (dn ++ plain c)).toArray.size then _ else _) _ _ s
    rw [hN, hsz]
    by_cases hc : (flatT dn).length < (flatT (dn ++ plain c)).length
    · rw [if_pos hc]
      refine wpAny_bind (wpAny_mkStr ?_ (by rw [extract_S]; exact S_fits (by simp; omega)))
      rw [extract_S]
      have ex : ((flatT (dn ++ plain c)).take (flatT (dn ++ plain c)).length).drop (flatT dn).length = c := by
        rw [List.take_length, flatT_append, List.drop_left, flatT_plain]
      show wpAny _ _ (updateSeq D (·.push (.str (S (((flatT (dn ++ plain c)).take (flatT (dn ++ plain c)).length).drop (flatT dn).length)) s.toks)) >>= _) _ _ _
      rw [ex]
      refine wpAny_bind (push_text hD (by omega) fun h' k' hD' hs' => ?_)
      exact fin _ (ps ++ [(S c, s.toks)]) (qs ++ [c]) k' h' (s.toks + 1) rfl (fun b o hb e => (hs'.2 b hb).trans e) hD' (by rw [List.map_append, List.map_append, el]; rfl) (by rw [List.flatten_append, hq, signs_append, signs_plain]; simp) (by rw [List.length_append]; simp; omega)
    · rw [if_neg hc]
      have hc0 : c = [] := by
        have : (flatT (dn ++ plain c)).length = (flatT dn).length + c.length := by rw [flatT_append, flatT_plain, List.length_append]
        exact List.length_eq_zero_iff.mp (by omega)
      subst hc0
      exact fin s ps qs kk s.heap s.toks rfl (fun _ _ _ e => e) hD el (by rw [hq, signs_append]; simp [plain, signs]) (by omega)
  · -- an escape stands there
    have hxs : (Tk.es xs).ok := hok _ (by simp)
    have hfl : flatT (dn ++ (plain c ++ Tk.es xs :: r')) = flatT (dn ++ plain c) ++ ((27 :: 91 :: (xs ++ [109])) ++ flatT r') := by
      rw [← List.append_assoc, flatT_append, flatT_cons]; rfl
    have hql : (flatT (dn ++ plain c)).length = (flatT dn).length + c.length := by rw [flatT_append, flatT_plain, List.length_append]
    have hel : (flatT (dn ++ plain c ++ [Tk.es xs])).length = (flatT (dn ++ plain c)).length + (xs.length + 3) := by
      rw [flatT_append, List.length_append, flatT_cons]; simp [Tk.flat, flatT]
    have hesc : EscAt (flatT (dn ++ (plain c ++ Tk.es xs :: r'))).toArray (flatT (dn ++ plain c)).length ((flatT (dn ++ plain c)).length + (xs.length + 3)) := by
      rw [hfl]; exact esc_at hxs
    have htot : (flatT (dn ++ (plain c ++ Tk.es xs :: r'))).length = (flatT (dn ++ plain c)).length + (xs.length + 3) + (flatT r').length := by
      rw [hfl]; simp; omega
    have hno : ∀ j, (flatT dn).length ≤ j → j < (flatT (dn ++ plain c)).length → (flatT (dn ++ (plain c ++ Tk.es xs :: r'))).toArray.getD j 0 ≠ 27 := by
      intro j h1 h2 h3
      rw [getD_toArray, hfl] at h3
      obtain ⟨i, rfl⟩ : ∃ i, j = (flatT dn).length + i := ⟨j - (flatT dn).length, by omega⟩
      rw [flatT_append, flatT_plain, List.append_assoc, getD_right] at h3
      have hi : i < c.length := by omega
      have hm : Tk.ch c[i] ∈ dn ++ (plain c ++ Tk.es xs :: r') := by simp [plain]
      have := (hok _ hm).1
      rw [List.getD_eq_getElem?_getD, List.getElem?_append_left hi, List.getElem?_eq_getElem hi] at h3
      exact this h3
    refine wpAny_bind (runToEnd (m := srch (flatT (dn ++ (plain c ++ Tk.es xs :: r'))).toArray (flatT dn).length) (P := fun m' => m'.outcome = some .matched ∧ m'.start = (flatT (dn ++ plain c)).length ∧ m'.handed = (flatT (dn ++ plain c)).length + (xs.length + 3)) (search_all (by rw [hsz]; omega) (by rw [hsz]; exact hdl)
      (fun q e hq' he hb m' m1 m2 _ _ _ m6 => ?_) (fun h27 m' hm => absurd hesc.c0 (h27 _ (by omega) (by rw [hsz]; omega))) (fun j h1 h2 h3 => esc_any hok h2 h3)) (by rw [hsz]; omega) fun m' hm => .inl ⟨hm.1, ?_⟩)
    · have hqq : q = (flatT (dn ++ plain c)).length := by
        rcases Nat.lt_trichotomy q (flatT (dn ++ plain c)).length with h | h | h
        · exact absurd he.c0 (hno q hq' h)
        · exact h
        · exact absurd hesc.c0 (hb _ (by omega) h)
      subst hqq
      exact ⟨m6, m1, m2.trans (esc_unique he hesc)⟩
    obtain ⟨m0, m1, m2⟩ := hm
    have again : ∀ (s' : Shared) (ps' : List (Str × Tok)) (qs' : List (List Nat)) (k' : Nat) (h' : Heap) (tk' : Nat), s' = { s with heap := h', toks := tk' } → (∀ b o, b ≠ D → s.heap.get? b = some o → h'.get? b = some o) →
        h'.get? D = some { cls := .type "list", data := .seq (strValues ps').toArray k' } → ps'.map (·.1) = qs'.map S → qs'.flatten = signs (dn ++ plain c) → ps'.length ≤ 2 * (flatT dn).length + 1 →
        wpAny (model prog w) A.in1 (do
          updateSeq D (·.push (.str (S []) u))
          again (.builtin "re.Pattern.sub.loop" ⟨[.ref ap, .str (S (flatT (dn ++ (plain c ++ Tk.es xs :: r')))) t, .str (S []) u, rawInt 0, rawInt 0, rawInt (n + 1), rawInt m'.handed, rawInt m'.handed, .bool (m'.handed == m'.start), .ref D, .bool false], []⟩))
          (fun fin s' => match fin with | .done f => R (.ok f) s' | .again c' => c'.quiet = true ∧ codeAny (model prog w) A c' R s') (fun e s' => R (.error e) s') s' := by
      rintro s' ps' qs' k' h' tk' rfl hk hD' el' hq' hz'
      refine wpAny_bind (push_text hD' (by omega) fun h2 k2 hD2 hs2 => wpAny_pure ⟨plainId_quiet plain_loop _, ?_⟩)
      rw [m1, m2, show ((flatT (dn ++ plain c)).length + (xs.length + 3) == (flatT (dn ++ plain c)).length) = false from beq_eq_false_iff_ne.mpr (by omega)]
      have hts : dn ++ (plain c ++ Tk.es xs :: r') = (dn ++ plain c ++ [Tk.es xs]) ++ r' := by simp
      rw [hts] at hok hlen hR ⊢
      have hkk : ∀ b o, b ≠ D → s.heap.get? b = some o → h2.get? b = some o := fun b o hb e => (hs2.2 b hb).trans (hk b o hb e)
      refine IH r'.length (by simp; omega) r' rfl (dn ++ plain c ++ [Tk.es xs]) _ (ps' ++ [(S [], u)]) (qs' ++ [[]]) k2 (n + 1) _ 0 0 0 0 0 ?_ hDp hDc hok hlen (by rw [hel]) hD2 ?_ ?_ ?_ ?_
      · obtain ⟨⟨o, e, r⟩, ⟨o2, n2, it, e2, r2⟩⟩ := hp
        exact ⟨⟨o, hkk _ _ (Ne.symm hDp) e, r⟩, ⟨o2, n2, it, hkk _ _ (Ne.symm hDc) e2, r2⟩⟩
      · rw [List.map_append, List.map_append, el']; rfl
      · rw [List.flatten_append, hq', signs_append (dn ++ plain c)]; simp [signs, Tk.sign?]
      · rw [hel]; simp; omega
      · exact fun h3 tk k3 hk3 => hR h3 tk k3 fun b o hb e => hk3 b o hb (hkk b o hb e)
    show wpAny _ _ (if ((flatT dn).length : Int).toNat < m'.start then _ else _) _ _ s
    rw [hN]
    by_cases hc : (flatT dn).length < m'.start
    · rw [if_pos hc]
      refine wpAny_bind (wpAny_mkStr ?_ (by rw [extract_S]; exact S_fits (by simp; omega)))
      rw [extract_S]
      have ex : ((flatT (dn ++ (plain c ++ Tk.es xs :: r'))).take m'.start).drop (flatT dn).length = c := by
        rw [m1, hfl, List.take_left, flatT_append, List.drop_left, flatT_plain]
      rw [ex]
      refine wpAny_bind (push_text hD (by omega) fun h' k' hD' hs' => ?_)
      exact again _ (ps ++ [(S c, s.toks)]) (qs ++ [c]) k' h' (s.toks + 1) rfl (fun b o hb e => (hs'.2 b hb).trans e) hD' (by rw [List.map_append, List.map_append, el]; rfl) (by rw [List.flatten_append, hq, signs_append, signs_plain]; simp) (by rw [List.length_append]; simp; omega)
    · rw [if_neg hc]
      have hc0 : c = [] := List.length_eq_zero_iff.mp (by omega)
      subst hc0
      exact again s ps qs kk s.heap s.toks rfl (fun _ _ _ e => e) hD el (by rw [hq, signs_append]; simp [plain, signs]) (by omega)
end
end Mine
end

section
open PySem PySem.W PySem.Calls PyProof.Rows PySem.Builtin PySem.Builtin.Str PySem.Builtin.Re
set_option linter.all false
set_option maxRecDepth 100000
namespace Mine

theorem noCall_str : typeLookup (.type "str") "__call__" = pure none := by rw [typeLookup_type, builtinLookup_eq_fast]; kernel_rfl

theorem named_sub (a b : Value) : reNamed "re.Pattern.sub" "sub" ["repl", "string", "count"] 2 [a, b] [] = pure [some a, some b, none] := by rfl
theorem named_match (a b : Value) : reNamed "re.Pattern.match" "match" ["string", "pos", "endpos"] 1 [a, b] [] = pure [some a, some b, none] := by rfl

section
variable {c : FC} {K : Frag} {n : Nat} {m : LM} {H F : HM} {X : XM} {s : Shared} {ap ac : Addr}

theorem St.pat (St' : St c m H F s) (hp : PatAt ap ac c.s₀.heap) : PatAt ap ac s.heap := hp.keeps St'.base
theorem MethJ.pat {name : Str} {id : String} {Q : Value → List Value → HM → Prop} (hp : PatAt ap ac c.s₀.heap) (slot : Slot "re.Pattern" name id) (ty : typeOf (.builtin id) = pure (.type "method_descriptor"))
    (h : Q (.builtin id) [.ref ap] H) : MethJ c (.ref ap) name m H Q X := fun V pl G s e St' => by
  obtain rfl := er_ref e
  obtain ⟨⟨o, ho, hc, hd, _⟩, _⟩ := St'.pat hp
  exact getMethod_builtin ⟨o, ho, hc⟩ plainAttrs_Pattern slot ty (fun _ e => by cases e; exact ⟨o, ho, hd⟩) ⟨H, St', h⟩

theorem C_sub {ts : List Tk} {Q : Value → HM → Prop} (hp : PatAt ap ac c.s₀.heap) (hok : okT ts) (hl : (flatT ts).length ≤ 1000000) (h : Q (VT (signs ts)) H) : CallJ c (.builtin "re.Pattern.sub") [.ref ap, VT [], VT (flatT ts)] [] m H Q X := fun Fv Vs Ks e0 e1 e2 G s St' => by
  obtain rfl := er_builtin e0
  obtain ⟨V, W, Z, rfl, e, e', e''⟩ := call3 e1; obtain rfl := er_ref e; obtain ⟨u, rfl⟩ := er_str e'; obtain ⟨t, rfl⟩ := er_str e''; obtain rfl := kw0 e2
  have hps := St'.pat hp
  obtain ⟨⟨o, ho, hc, hd, _⟩, ⟨oc, nc, itc, hoc, _⟩⟩ := id hps
  refine wpAny_call (codeAny_call_builtin slot_Pattern_sub.plain entry_Pattern_sub (slot_Pattern_sub.check _ _ _ _ _ _ _ _ ⟨o, ho, hc⟩ (args_Pattern_sub _ _ _) ?_))
  show wpAny _ _ (reSubstitute "re.Pattern.sub" "sub" false ⟨[.ref ap, .str (S []) u, .str (S (flatT ts)) t], []⟩) _ _ s
  unfold reSubstitute
  show wpAny _ _ (reNamed "re.Pattern.sub" "sub" ["repl", "string", "count"] 2 [.str (S []) u, .str (S (flatT ts)) t] [] >>= _) _ _ s
  rw [named_sub]
  refine wpAny_bind (wpAny_pure ?_)
  refine wpAny_bind (wpAny_pure ?_)
  refine wpAny_bind (wpAny_specialOf (typeIs_str _ _ _) noCall_str ?_)
  refine wpAny_bind (wpAny_bind (wpAny_pure (wpAny_pure ?_)))
  refine wpAny_bind (wpAny_pure ?_)
  rw [show (!(S []).cps.contains 92) = true from by simp [S]]
  refine wpAny_bind (wpAny_pure ?_)
  refine wpAny_bind (wpAny_holding (whole_target hps ?_))
  refine wpAny_bind (wpAny_newList ?_ (by show 0 ≤ sizeLine; decide))
  refine wpAny_pure ⟨plainId_quiet plain_loop _, ?_⟩
  have kp : ∀ b o, s.heap.get? b = some o → (s.heap.push { cls := .type "list", data := .seq ([] : List Value).toArray }).get? b = some o := fun b o e => Heap.get?_push_of_some _ e
  refine sub_loop (ap := ap) (ac := ac) ts [] _ [] [] 0 0 0 0 0 0 0 0 (hps.keeps kp) (Ne.symm (Nat.ne_of_lt (Heap.lt_size ho))) (Ne.symm (Nat.ne_of_lt (Heap.lt_size hoc))) hok hl rfl (Heap.get?_push_size _ rfl) rfl rfl (Nat.zero_le _) fun h' tk k' hk => ?_
  exact ⟨H, St'.keeps (t := k') fun b o e => hk b o (Nat.ne_of_lt (Heap.lt_size e)) (kp b o e), h⟩

/-- a match found, ending at en -/
def MatchAt (H : HM) (a : Addr) (en : Nat) : Prop := ∃ tA oa ot vs items k, H a = some (.raw oa) ∧ oa.cls = .type "re.Match" ∧ oa.dict = none ∧ oa.data = .fields vs ∧ vs.getD 5 .none = .ref tA ∧ H tA = some (.raw ot) ∧ ot.data = .seq items k ∧ (items.map reRawOf).getD 1 (-1) = (en : Int)
theorem C_match {l : List Nat} {i : Nat} {Q : Value → HM → Prop} (hp : PatAt ap ac c.s₀.heap) (hi : i < l.length) (hl : l.length ≤ 1000000)
    (h : (l.getD i 0 ≠ 27 ∧ Q .none H) ∨ ∃ e, EscAt l.toArray i e ∧ ∀ a H', H.le H' → H a = none → MatchAt H' a e → Q (.ref a) H') : CallJ c (.builtin "re.Pattern.match") [.ref ap, VT l, VI i] [] m H Q X := fun Fv Vs Ks e0 e1 e2 G s St' => by
  obtain rfl := er_builtin e0
  obtain ⟨V, W, Z, rfl, e, e', e''⟩ := call3 e1; obtain rfl := er_ref e; obtain ⟨t, rfl⟩ := er_str e'; obtain ⟨u, rfl⟩ := er_int e''; obtain rfl := kw0 e2
  have hps := St'.pat hp
  obtain ⟨⟨o, ho, hc, hd, vs, hdata, e6, e2, e5⟩, ⟨oc, nc, itc, hoc, hcd, hcode⟩⟩ := id hps
  refine wpAny_call (codeAny_call_builtin slot_Pattern_match.plain entry_Pattern_match (slot_Pattern_match.check _ _ _ _ _ _ _ _ ⟨o, ho, hc⟩ (args_Pattern_match _ _ _) ?_))
  unfold Builtin.«re.Pattern.match»
  have hsz : l.toArray.size = l.length := by simp
  refine wpAny_bind (m := reTarget "re.Pattern.match" "match" ⟨[.ref ap, .str (S l) t, .int i u], []⟩) ?_
  unfold reTarget
  show wpAny _ _ (reNamed "re.Pattern.match" "match" ["string", "pos", "endpos"] 1 [.str (S l) t, .int i u] [] >>= _) _ _ s
  rw [named_match]
  refine wpAny_bind (wpAny_pure ?_)
  show wpAny _ _ ((do if (i : Int) < -(2 ^ 63) || (i : Int) ≥ 2 ^ 63 then raiseError "OverflowError" "Python int too large to convert to C ssize_t"
                      pure (i : Int)) >>= _) _ _ s
  rw [if_neg (by simp; omega)]
  refine wpAny_bind (wpAny_bind (wpAny_pure (wpAny_pure ?_)))
  refine wpAny_bind (wpAny_pure ?_)
  refine wpAny_bind (wpAny_fieldsOf ho hdata ?_)
  show wpAny _ _ (do
    if reRawNat (vs.getD 6 .none) == 0 && (0 : Nat) == 1 then raiseError "TypeError" "cannot use a string pattern on a bytes-like object"
    if reRawNat (vs.getD 6 .none) == 1 && (0 : Nat) == 0 then raiseError "TypeError" "cannot use a bytes pattern on a string-like object"
    reNoCollectionInside (.str (S l) t) 0
    pure ({ pattern := .ref ap, string := .str (S l) t, code := (← reRawItems (vs.getD 5 .none)).map (·.toNat), text := l.toArray, kind := 0, groups := reRawNat (vs.getD 2 .none), pos := min (i : Int).toNat l.toArray.size, lim := min (2 ^ 63 - 1 : Int).toNat l.toArray.size } : ReTarget)) _ _ s
  rw [e6, e2, e5]
  show wpAny _ _ (do
    pure ({ pattern := .ref ap, string := .str (S l) t, code := (← reRawItems (.ref ac)).map (·.toNat), text := l.toArray, kind := 0, groups := 0, pos := min (i : Int).toNat l.toArray.size, lim := min (2 ^ 63 - 1 : Int).toNat l.toArray.size } : ReTarget)) _ _ s
  unfold reRawItems
  refine wpAny_bind (wpAny_bind (wpAny_seqItems hoc hcd (wpAny_pure (wpAny_pure ?_))))
  show wpAny _ _ (reAnswer { pattern := .ref ap, string := .str (S l) t, code := (itc.map reRawOf).map (·.toNat), text := l.toArray, kind := 0, groups := 0, pos := min (i : Int).toNat l.toArray.size, lim := min (2 ^ 63 - 1 : Int).toNat l.toArray.size } (Sre.forMatch ((itc.map reRawOf).map (·.toNat)) l.toArray 0 (min (i : Int).toNat l.toArray.size) (min (2 ^ 63 - 1 : Int).toNat l.toArray.size) false false)) _ _ s
  have hpos : min (i : Int).toNat l.toArray.size = i := by rw [hsz, Int.toNat_natCast]; omega
  have hlim : min (2 ^ 63 - 1 : Int).toNat l.toArray.size = l.toArray.size := by rw [hsz]; omega
  rw [hcode, hpos, hlim]
  unfold reAnswer
  rcases h with ⟨h27, hq⟩ | ⟨en, hesc, hq⟩
  · refine wpAny_bind (runToEnd (m := ms0 l.toArray i) (P := fun m' => m'.outcome = some .failed) (match_no (by rw [hsz]; exact hi) (by rw [getD_toArray]; exact h27) fun m' hm => hm) (by omega) fun m' hm => .inr ⟨hm, wpAny_pure ⟨H, St', hq⟩⟩)
  · refine wpAny_bind (runToEnd (m := ms0 l.toArray i) (P := fun m' => m'.outcome = some .matched ∧ m'.start = i ∧ m'.handed = en ∧ m'.marks = #[] ∧ m'.lastmark = -1) (match_esc (by rw [hsz]; omega) hesc fun m' a1 a2 a3 a4 a5 a6 => ⟨a6, a1, a2, a3, a4⟩) (by omega) fun m' hm => .inl ⟨hm.1, ?_⟩)
    obtain ⟨m0, m1, m2, m3, m4⟩ := hm
    show wpAny _ _ (reNewMatch (.ref ap) (.str (S l) t) 0 i l.toArray.size m' >>= fun v => ret v) _ _ s
    unfold reNewMatch
    show wpAny _ _ ((do newFields "re.Match" [.str (S l) t, .ref ap, rawInt i, rawInt l.toArray.size, rawInt m'.lastindex, ← newTuple [rawInt m'.start, rawInt m'.handed]]) >>= fun v => ret v) _ _ s
    obtain ⟨f1, f2, f3, f4⟩ := St'.fresh
    refine wpAny_bind (wpAny_bind (wpAny_newTuple ?_ (by show 2 ≤ sizeLine; decide)))
    have S1 := St'.push (o := { cls := .type "tuple", data := .seq [rawInt m'.start, rawInt m'.handed].toArray }) (ao := .raw _) rfl rfl
    obtain ⟨g1, g2, g3, g4⟩ := S1.fresh
    refine wpAny_newObj_type ?_ (by size_fits)
    have S2 := S1.push (o := { cls := .type "re.Match", data := .fields [.str (S l) t, .ref ap, rawInt i, rawInt l.toArray.size, rawInt m'.lastindex, .ref s.heap.objs.size].toArray }) (ao := .raw _) rfl rfl
    have hne : s.heap.objs.size ≠ (s.heap.push { cls := .type "tuple", data := .seq [rawInt m'.start, rawInt m'.handed].toArray }).objs.size := by rw [Heap.size_push]; exact Nat.ne_of_lt (Nat.lt_succ_self _)
    refine wpAny_pure ⟨_, S2, hq _ _ ((HM.le_set _ f1).trans (HM.le_set _ g1)) ?_ ⟨s.heap.objs.size, _, { cls := .type "tuple", data := .seq [rawInt m'.start, rawInt m'.handed].toArray }, _, [rawInt m'.start, rawInt m'.handed].toArray, 0, HM.set_same .., rfl, rfl, rfl, rfl, ?_, rfl, ?_⟩⟩
    · exact (HM.set_none.mp g1).2
    · rw [HM.set_ne _ _ hne]; exact HM.set_same ..
    · have : (Array.map reRawOf [rawInt m'.start, rawInt m'.handed].toArray).getD 1 (-1) = (m'.handed : Int) := by simp [reRawOf, rawInt]
      rw [this, m2]

theorem slot_end_kp : True := trivial
theorem MethJ.matched {a : Addr} {en : Nat} {Q : Value → List Value → HM → Prop} (hm : MatchAt H a en) (h : Q (.builtin "re.Match.end") [.ref a] H) : MethJ c (.ref a) "end" m H Q X := fun V pl G s e St' => by
  obtain rfl := er_ref e
  obtain ⟨tA, oa, ot, vs, items, k, h1, h2, h3, _⟩ := hm
  obtain ⟨_, _, o, ho, e⟩ := St'.hp _ _ h1
  have e : o = oa := e
  subst e
  exact getMethod_builtin ⟨o, ho, h2⟩ plainAttrs_Match slot_Match_end type_Match_end (fun _ e => by cases e; exact ⟨o, ho, h3⟩) ⟨H, St', h⟩
theorem C_end {a : Addr} {en : Nat} {Q : Value → HM → Prop} (hm : MatchAt H a en) (h : Q (VI en) H) : CallJ c (.builtin "re.Match.end") [.ref a] [] m H Q X := fun Fv Vs Ks e0 e1 e2 G s St' => by
  obtain rfl := er_builtin e0
  obtain ⟨V, rfl, e⟩ := call1 (as := []) e1; obtain rfl := er_ref e; obtain rfl := kw0 e2
  obtain ⟨tA, oa, ot, vs, items, k, h1, h2, h3, h4, h5, h6, h7, h8⟩ := hm
  obtain ⟨_, _, o, ho, e⟩ := St'.hp _ _ h1
  have e : o = oa := e
  subst e
  obtain ⟨_, _, o', ho', e'⟩ := St'.hp _ _ h6
  have e' : o' = ot := e'
  subst e'
  refine wpAny_call_entry slot_Match_end ⟨o, ho, h2⟩ entry_Match_end ?_ (args_Match_end _)
  unfold Builtin.«re.Match.end»
  refine wpAny_bind (m := reOneGroup "Match.end" "end" ⟨[.ref a], []⟩) ?_
  unfold reOneGroup
  refine wpAny_bind (wpAny_pure ?_)
  unfold reFound
  refine wpAny_bind (wpAny_bind (wpAny_fieldsOf ho h4 ?_))
  rw [h5]
  unfold reRawItems
  refine wpAny_bind (wpAny_bind (wpAny_seqItems ho' h7 (wpAny_pure (wpAny_pure ?_))))
  refine wpAny_bind (wpAny_pure (wpAny_pure ?_))
  show wpAny _ _ (retInt ((items.map reRawOf).getD (2 * 0 + 1) (-1))) _ _ s
  rw [show 2 * 0 + 1 = 1 from rfl, h8]
  exact wpAny_bind (wpAny_mkInt (wpAny_pure ⟨_, rfl, H, St'.toks _, h⟩))
end
end Mine
end

section
open PySem PySem.W PySem.Calls PyProof.Rows PySem.Builtin PySem.Builtin.Str
set_option linter.all false
set_option maxRecDepth 100000
namespace Mine

/-! ## a function's call, as code -/
def CodeJ (c : FC) (f : Value) (as : List Value) (ks : List (Str × Value)) (m : LM) (H : HM) (Q : Value → HM → Prop) : Prop :=
  ∀ Fv Vs Ks, er Fv = f → Vs.map er = as → Ks.map (fun p => (p.1, er p.2)) = ks → ∀ F s (R : Result → Shared → Prop), St c m H F s → (∀ V s' H', St c m H' F s' → Q (er V) H' → R (.ok (.ret V)) s') → codeAny (model c.prog c.w) c.A (.call Fv ⟨Vs, Ks⟩) R s
section
variable {c : FC} {K : Frag} {n : Nat} {m : LM} {H F : HM} {X : XM} {s : Shared}
theorem CallJ.ofCode {f : Value} {as : List Value} {ks : List (Str × Value)} {Q : Value → HM → Prop} (h : CodeJ c f as ks m H Q) : CallJ c f as ks m H Q X := fun Fv Vs Ks e0 e1 e2 G s St' =>
  wpAny_call (h Fv Vs Ks e0 e1 e2 G s _ St' fun V s' H' S' q => ⟨H', S', q⟩)

theorem CodeJ.fn {f : Addr} {fd : FuncData} {body : List Stmt} {as : List Value} {ks bs : List (Str × Value)} {Q : Value → HM → Prop} (O : Ok c K (n + 1)) (W : Fn K f fd body) (hb : FnBinds K fd as ks bs)
    (hk : ∀ x ∈ bs, fd.scope.names.lookup x.1 = some .local ∨ fd.scope.names.lookup x.1 = some .cell)
    (h : ∀ L, (∀ k, L ≤ k → H k = none) → Ok (c.call fd L f) K n → Exs (c.call fd L f) body (bindLM (c.call fd L f).env.kindOf bs []) (cellsH H (cellsFrom (L + 1) fd.scope.names []) (bindCM (c.call fd L f).env.kindOf bs fun _ => none)) (EndJ Q) XF) : CodeJ c (.ref f) as ks m H Q := fun Fv Vs Ks e0 e1 e2 G s R St' hR => by
  obtain rfl := er_ref e0
  obtain ⟨binds, hbt, rfl⟩ := hb Vs Ks e1 e2
  obtain ⟨oc, od, osl, hlook⟩ := W.look
  obtain ⟨oL, hL⟩ := St'.frame
  have XK := O.inK St'
  refine codeAny_call_function (fd := fd) (by have := O.dp; show c.A.depth < 1000; omega) (XK _ _ hlook) rfl W.co W.gen W.body (codeRec_of XK W.cd) (hbt s XK _ _ _ _ ?_)
  rw [W.clo]
  refine wpAny_newFunctionEnv_cells W.kind (fun x hx => ?_) fun env he s' x => ?_
  · have := hk (x.1, er x.2) (List.mem_map.mpr ⟨x, hx, rfl⟩)
    exact this.imp _root_.id fun q => ⟨q, cells_have _ _ _ _ (.inl q)⟩
  · obtain ⟨h', t', es'⟩ := x.toInCall.same
    have kp := x.toInCall.keep
    have eenv : env = (c.call fd s.heap.objs.size f).env := he
    subst eenv
    refine ⟨by rw [es'] at kp ⊢; exact (O.nl.keeps St'.base).keeps kp, codeAny_func ?_⟩
    have S1 : St (c.call fd s.heap.objs.size f) (bindLM (c.call fd s.heap.objs.size f).env.kindOf (binds.map fun p => (p.1, er p.2)) [])
        (cellsH H (cellsFrom (s.heap.objs.size + 1) fd.scope.names []) (bindCM (c.call fd s.heap.objs.size f).env.kindOf (binds.map fun p => (p.1, er p.2)) fun _ => none)) (G.set c.env.locals (.raw oL)) s' := by
      subst es'
      refine St'.other (c' := c.call fd s.heap.objs.size f) rfl hL kp (Nat.le_refl _) x.toInCall.ns (bind_rel _ _ _ _ fun y u hy => by cases hy) fun a ao e => ?_
      rcases cellsH_some e with ⟨p, hp, rfl, rfl⟩ | ⟨_, e⟩
      · right
        have hlk := lookup_of_nd (cells_nd fd.scope.names (s.heap.objs.size + 1) [] W.nd (fun _ _ _ hq => nomatch hq) List.Pairwise.nil) hp
        obtain ⟨o, ho, hd⟩ := x.cell p.1 p.2 hlk
        have hab := x.above p.1 p.2 hp
        exact ⟨Nat.le_of_lt hab, Nat.ne_of_gt hab, o, ho, _, hd, (bind_cells _ _ _ _ (fun _ => rfl) p.1).symm⟩
      · exact .inl e
    refine wpAny_mono (h _ (fun k hk => (St'.above hk).1) (O.call W _) _ _ S1) (fun fl s'' ⟨m', H', S', H'', hle, hq⟩ => ?_) fun _ _ z => z.elim
    exact hR _ _ H'' ((St'.home (c' := c.call fd s.heap.objs.size f) rfl hL S').weak hle) (by cases fl <;> exact hq)
theorem CodeJ.run {f : Addr} {fd : FuncData} {body : List Stmt} {as : List Value} {ks bs : List (Str × Value)} {Q : Value → HM → Prop} (O : Ok c K (n + 1)) (W : Fn K f fd body) (hb : FnBinds K fd as ks bs)
    (hk : okBinds fd.scope.names (bs.map (·.1)) = true)
    (h : ∀ L, (∀ k, L ≤ k → H k = none) → Ok (c.call (fdOf K f) L f) K n → Exs (c.call (fdOf K f) L f) body (bindLM (c.call (fdOf K f) L f).env.kindOf bs []) (cellsH H (cellsFrom (L + 1) (fdOf K f).scope.names []) (bindCM (c.call (fdOf K f) L f).env.kindOf bs fun _ => none)) (EndJ Q) XF) : CodeJ c (.ref f) as ks m H Q := by
  have ef : fdOf K f = fd := by
    obtain ⟨_, _, _, e⟩ := W.look
    unfold fdOf; rw [e]
  subst ef
  exact CodeJ.fn O W hb (fun x hx => by
    have := List.all_eq_true.mp hk x.1 (List.mem_map.mpr ⟨x, hx, rfl⟩)
    rw [Bool.or_eq_true, beq_iff_eq, beq_iff_eq] at this
    exact this) h

/-! ## instances -/
def Inst (H : HM) (x C d : Addr) (fs : List (Str × Value)) : Prop := H x = some (.raw (instObj C d)) ∧ H d = some (.dic fs)

theorem find_dic {es : List DictEntry} {fs : List (Str × Value)} (h : es.map (fun e => (er e.key, er e.val)) = fs.map (fun p => (VS p.1, p.2))) (name : Str) :
    (es.any (·.refKey) = false) ∧ (match fs.lookup name with | some v => ∃ e, es.find? (·.key.isStr name) = some e ∧ er e.val = v | none => es.find? (·.key.isStr name) = none) := by
  induction es generalizing fs with
  | nil =>
    cases fs with
    | nil => exact ⟨rfl, rfl⟩
    | cons _ _ => cases h
  | cons e es ih =>
    cases fs with
    | nil => cases h
    | cons p r =>
      obtain ⟨hsh, key, val⟩ := e
      rw [List.map_cons, List.map_cons, List.cons.injEq, Prod.mk.injEq] at h
      obtain ⟨⟨hk, hv⟩, hr⟩ := h
      obtain ⟨t, hk⟩ := er_str hk
      have hk : key = .str p.1 t := hk
      subst hk
      obtain ⟨i1, i2⟩ := ih hr
      refine ⟨by rw [List.any_cons, i1]; rfl, ?_⟩
      have ei : Value.isStr (.str p.1 t) name = (p.1 == name) := rfl
      rw [List.lookup_cons]
      by_cases q : name = p.1
      · subst q
        simp only [beq_self_eq_true]
        exact ⟨_, by rw [List.find?_cons]; simp [ei], hv⟩
      · rw [beq_eq_false_iff_ne.mpr q]
        have : (p.1 == name) = false := beq_eq_false_iff_ne.mpr (Ne.symm q)
        rw [List.find?_cons]
        simp only [ei, this]
        exact i2
theorem getL_some {es : List DictEntry} {fs : List (Str × Value)} (h : es.map (fun e => (er e.key, er e.val)) = fs.map (fun p => (VS p.1, p.2))) {name : Str} {v : Value} (hl : fs.lookup name = some v) : ∃ V, getL name es = some (some V) ∧ er V = v := by
  have := (find_dic h name).2
  rw [hl] at this
  obtain ⟨e, he, hv⟩ := this
  exact ⟨e.val, by unfold getL; rw [he], hv⟩
theorem getL_none {es : List DictEntry} {fs : List (Str × Value)} (h : es.map (fun e => (er e.key, er e.val)) = fs.map (fun p => (VS p.1, p.2))) {name : Str} (hl : fs.lookup name = none) : getL name es = some none := by
  obtain ⟨h1, h2⟩ := find_dic h name
  rw [hl] at h2
  unfold getL; rw [h2]; simp only [h1, Bool.false_eq_true, if_false]
theorem getL_any {es : List DictEntry} {fs : List (Str × Value)} (h : es.map (fun e => (er e.key, er e.val)) = fs.map (fun p => (VS p.1, p.2))) (name : Str) : (getL name es).isSome = true := by
  cases hl : fs.lookup name with
  | none => rw [getL_none h hl]; rfl
  | some v => obtain ⟨V, e, _⟩ := getL_some h hl; rw [e]; rfl
/-- the dict with one entry laid -/
def putF (name : Str) (v : Value) : List (Str × Value) → List (Str × Value)
  | [] => [(name, v)]
  | p :: r => if p.1 == name then (p.1, v) :: r else p :: putF name v r
theorem putL_dic {name : Str} {V : Value} {hsh : Int} {t : Tok} : ∀ {es : List DictEntry} {fs : List (Str × Value)}, es.map (fun e => (er e.key, er e.val)) = fs.map (fun p => (VS p.1, p.2)) →
    (putL name hsh (.str name t) V es).map (fun e => (er e.key, er e.val)) = (putF name (er V) fs).map (fun p => (VS p.1, p.2))
  | [], [], _ => rfl
  | [], _ :: _, h => by cases h
  | _ :: _, [], h => by cases h
  | e :: es, p :: r, h => by
    obtain ⟨hsh', key, val⟩ := e
    rw [List.map_cons, List.map_cons, List.cons.injEq, Prod.mk.injEq] at h
    obtain ⟨⟨hk, hv⟩, hr⟩ := h
    obtain ⟨t', hk⟩ := er_str hk
    have hk : key = .str p.1 t' := hk
    subst hk
    have ei : Value.isStr (.str p.1 t') name = (p.1 == name) := rfl
    unfold putL putF
    rw [ei]
    cases hq : (p.1 == name)
    · simp only [Bool.false_eq_true, if_false, List.map_cons, List.cons.injEq, Prod.mk.injEq]
      exact ⟨⟨rfl, hv⟩, putL_dic hr⟩
    · simp only [if_true, List.map_cons, List.cons.injEq, Prod.mk.injEq]
      refine ⟨⟨?_, ?_⟩, hr⟩ <;> first | rfl | trivial
theorem putF_length (name : Str) (v : Value) : ∀ fs : List (Str × Value), (putF name v fs).length ≤ fs.length + 1
  | [] => Nat.le_refl _
  | p :: r => by
    unfold putF; split
    · simp
    · have := putF_length name v r; simp; omega

theorem St.inst (S : St c m H F s) {x C d : Addr} {fs : List (Str × Value)} (I : Inst H x C d fs) : ∃ es k, es.map (fun e => (er e.key, er e.val)) = fs.map (fun p => (VS p.1, p.2)) ∧ s.heap.get? d = some (dictOf es k) ∧ InstAt s.heap x (instObj C d) C (some (dictOf es k)) := by
  obtain ⟨_, _, ox, hx, e⟩ := S.hp _ _ I.1
  have e : ox = instObj C d := e
  subst e
  obtain ⟨_, _, o, ho, es, k, rfl, he⟩ := S.hp _ _ I.2
  exact ⟨es, k, he, ho, ⟨hx, rfl, rfl, ho⟩⟩

def AttrJ (c : FC) (ov : Value) (attr : Str) (m : LM) (H : HM) (Q : Value → HM → Prop) (X : XM) : Prop := Op1 c (fun V => getAttr V attr true) ov m H Q X
theorem Ev.attr {o attr pos} {Q : Value → HM → Prop} (h : Ev c o m H (fun ov H1 => AttrJ c ov attr m H1 Q X) X)
    (he : eval (.Attribute o attr pos) c.env = (do
      let o' ← eval o c.env
      standAt pos.atName
      let r ← holding [o'] (getAttr o' attr true)
      letTemporaryGo o o' r
      pure r)) : Ev c (.Attribute o attr pos) m H Q X := fun G s S =>
  Attribute_any_ (wpAny_mono (h G s S) (fun V s1 ⟨H1, S1, h1⟩ => h1 V rfl G s1 S1) fun _ _ e => e) he

theorem handed_er {V : Value} (h : handedIn (er V) = true) : handedIn V = true := by cases V <;> first | rfl | exact h
theorem AttrJ.own {x C d : Addr} {attr : Str} {Q : Value → HM → Prop} (fs : List (Str × Value)) (v : Value) (K : Frag) (n : Nat) (av : Option Value) (I : Inst H x C d fs) (hl : fs.lookup attr = some v) (O : Ok c K n) (hg : plainGet K C attr = true) (hh : hasDictIn K C = true)
    (ha : findIn K (.ref C) attr = some av) (hn : noGet K av = true) (hv : handedIn v = true) (h : Q v H) : AttrJ c (.ref x) attr m H Q X := fun V e G s S => by
  obtain rfl := er_ref e
  obtain ⟨es, k, he, hd, IA⟩ := S.inst I
  obtain ⟨mr, Fr0, _⟩ := S.fr
  obtain ⟨W, hW, rfl⟩ := getL_some he hl
  exact get_own Fr0 O.X IA hg hh ha hn hW (handed_er hv) ⟨H, S.toks _, h⟩

theorem SetAttr.own {x C d : Addr} {attr : Str} {A V : Value} {Q : LM → HM → Prop} (fs : List (Str × Value)) (K : Frag) (n : Nat) (I : Inst H x C d fs) (O : Ok c K n)
    (hs : findIn K (.ref C) "__setattr__" = some (some (.builtin "object.__setattr__"))) (hp : plainOver K C = true) (ht : takerIn K C attr = some none) (hh : hasDictIn K C = true) (hz : fs.length < 900)
    (eA : er A = .ref x) (h : Q m (H.set d (.dic (putF attr (er V) fs)))) : Nw c (setAttr A attr V) m H Q X := fun G s S => by
  obtain rfl := er_ref eA
  obtain ⟨es, k, he, hd, IA⟩ := S.inst I
  obtain ⟨mr, Fr0, hm⟩ := S.fr
  obtain ⟨d1, d2, _⟩ := S.hp _ _ I.2
  have hlen : es.length = fs.length := by have := congrArg List.length he; simpa using this
  have hpl : (putL attr (PyData.keyHash c.w.params attr) (.str attr (s.toks + 1)) V es).length = (putF attr (er V) fs).length := by
    have := congrArg List.length (putL_dic (name := attr) (V := V) (hsh := PyData.keyHash c.w.params attr) (t := s.toks + 1) he)
    simpa using this
  refine set_dict (dx := d) Fr0 O.X S.news IA rfl hs hp ht hh (getL_any he attr) rfl (upd_map (full_mem d1 d2 hd) (full_nodup _ _ _)) (by rw [hpl]; have := putF_length attr (er V) fs; omega) fun h' Fr' N' => ?_
  exact ⟨m, _, St.backUpd S (t := s.toks + 2) (ao' := .dic (putF attr (er V) fs)) I.2 Fr' hm N' ⟨_, _, rfl, putL_dic he⟩, h⟩

def StoreA (c : FC) (ov : Value) (attr : Str) (v : Value) (m : LM) (H : HM) (Q : LM → HM → Prop) (X : XM) : Prop := ∀ A V, er A = ov → er V = v → Nw c (setAttr A attr V) m H Q X
theorem StoreA.own {x C d : Addr} {attr : Str} {v : Value} {Q : LM → HM → Prop} (fs : List (Str × Value)) (K : Frag) (n : Nat) (I : Inst H x C d fs) (O : Ok c K n)
    (hs : findIn K (.ref C) "__setattr__" = some (some (.builtin "object.__setattr__"))) (hp : plainOver K C = true) (ht : takerIn K C attr = some none) (hh : hasDictIn K C = true) (hz : fs.length < 900)
    (h : Q m (H.set d (.dic (putF attr v fs)))) : StoreA c (.ref x) attr v m H Q X := fun A V eA eV => SetAttr.own fs K n I O hs hp ht hh hz eA (by rw [eV]; exact h)
theorem Tgt.attr {o attr p v} {Q : LM → HM → Prop} (h : Ev c o m H (fun ov H1 => StoreA c ov attr v m H1 Q X) X) : Tgt c (.Attribute o attr p) v m H Q X := fun V e G s S =>
  kas_attr (wpAny_mono (h G s S) (fun O s1 ⟨H1, S1, h1⟩ => h1 O V rfl e G s1 S1) fun _ _ e => e)
theorem Ex.augA {o value attr tpos op p} {Q : Flow → LM → HM → Prop} (h : Ev c o m H (fun ov H1 => AttrJ c ov attr m H1 (fun old H2 => Ev c value m H2 (fun v H3 => Op2 c (inplaceOp op) old v m H3 (fun r H4 => StoreA c ov attr r m H4 (fun m' H' => Q .next m' H') X) X) X) X) X) :
    Ex c (.AugAssign (.Attribute o attr tpos) op value p) m H Q X := fun G s S =>
  wpAny_AugAssign_AttributeAny (wpAny_mono (h G s S) (fun O s1 ⟨H1, S1, h1⟩ => wpAny_mono (h1 O rfl G s1 S1) (fun Old s2 ⟨H2, S2, h2⟩ => wpAny_mono (h2 G s2 S2) (fun V s3 ⟨H3, S3, h3⟩ => wpAny_mono (h3 Old V rfl rfl G s3 S3) (fun R s4 ⟨H4, S4, h4⟩ =>
    wpAny_mono (h4 O R rfl rfl G s4 S4) (fun _ s5 ⟨m5, H5, S5, h5⟩ => ⟨m5, H5, S5, h5⟩) fun _ _ e => e) fun _ _ e => e) fun _ _ e => e) fun _ _ e => e) fun _ _ e => e)

theorem MethJ.inst {x C d f : Addr} {name : Str} {Q : Value → List Value → HM → Prop} (fs : List (Str × Value)) (K : Frag) (n : Nat) (I : Inst H x C d fs) (O : Ok c K n) (hl : fs.lookup name = none) (hg : plainGet K C name = true) (hf : findIn K (.ref C) name = some (some (.ref f))) (ht : isFn K (.ref f) = true)
    (h : Q (.ref f) [.ref x] H) : MethJ c (.ref x) name m H Q X := fun V pl G s e S => by
  obtain rfl := er_ref e
  obtain ⟨es, k, he, hd, IA⟩ := S.inst I
  obtain ⟨mr, Fr0, _⟩ := S.fr
  exact method_inst Fr0 O.X IA hg hf ht (getL_none he hl) ⟨H, S, h⟩

theorem under_type (A : Around) (C : Addr) (vs : List Value) (ks : List (Str × Value)) : (A.under (.builtin "type.__call__" ⟨.ref C :: vs, ks⟩)).handled = A.handled ∧ (A.under (.builtin "type.__call__" ⟨.ref C :: vs, ks⟩)).depth ≤ A.depth + 1 ∧ (A.under (.builtin "type.__call__" ⟨.ref C :: vs, ks⟩)).units ≤ A.units + 4 := by
  have w1 : (Code.builtin "type.__call__" ⟨.ref C :: vs, ks⟩).weight = 1 := by rfl
  have w2 : (Code.builtin "type.__call__" ⟨.ref C :: vs, ks⟩).cUnits = 1 := by rfl
  refine ⟨rfl, ?_, ?_⟩
  · show A.depth + (Code.builtin "type.__call__" ⟨.ref C :: vs, ks⟩).weight ≤ _
    omega
  · show A.units + (Code.builtin "type.__call__" ⟨.ref C :: vs, ks⟩).cUnits ≤ _
    omega
theorem Ok.under (O : Ok c K (n + 1)) (C : Addr) (vs : List Value) (ks : List (Str × Value)) : Ok { c with A := c.A.under (.builtin "type.__call__" ⟨.ref C :: vs, ks⟩) } K n := by
  obtain ⟨h1, h2, h3⟩ := under_type c.A C vs ks
  exact ⟨O.X, O.g, O.b, O.nl, O.kind, O.eg, O.eb, h1.trans O.hh, by have := O.dp; show (c.A.under _).depth + n < 900; omega, by have := O.un; show (c.A.under _).units + 4 * n < 9000; omega⟩

theorem CallJ.cls {C fI : Addr} {as : List Value} {ks : List (Str × Value)} {Q : Value → HM → Prop} (O : Ok c K (n + 1)) (hm : makesIn K C = true) (hi : findIn K (.ref C) "__init__" = some (some (.ref fI))) (hf : isFn K (.ref fI) = true)
    (h : ∀ c' : FC, Ok c' K n → ∀ x dx, H x = none → H dx = none → x ≠ dx → CodeJ c' (.ref fI) (.ref x :: as) ks m ((H.set dx (.dic [])).set x (.raw (instObj C dx))) (fun v H' => v = .none ∧ Q (.ref x) H')) : CallJ c (.ref C) as ks m H Q X := fun Fv Vs Ks e0 e1 e2 G s S => by
  obtain rfl := er_ref e0
  obtain ⟨mr, Fr0, hm0⟩ := S.fr
  refine call_cls Fr0 O.X S.news hm hi hf fun x dx h' Fr' N' hb hlt => ?_
  have S1 : St c m H G { s with heap := h' } := St.back (t := s.toks) S Fr' hm0 N' fun p hp => List.mem_cons_of_mem _ (List.mem_cons_of_mem _ hp)
  have nx := N' _ List.mem_cons_self
  have ndx := N' _ (List.mem_cons_of_mem _ List.mem_cons_self)
  have fresh : ∀ a, dx ≤ a → H a = none ∧ G a = none := fun a ha => by
    constructor
    · cases q : H a with
      | none => rfl
      | some o => obtain ⟨a1, a2, o', a3, _⟩ := S.hp _ _ q; exact absurd (hb _ (full_mem a1 a2 a3)) (Nat.not_lt.mpr ha)
    · cases q : G a with
      | none => rfl
      | some o => obtain ⟨a1, a2, o', a3, _⟩ := S.fp _ _ q; exact absurd (hb _ (full_mem a1 a2 a3)) (Nat.not_lt.mpr ha)
  have S2 := St.backNew (mr' := mr) (news := []) (ao := .dic []) S1 S1 (fresh dx (Nat.le_refl _)).1 (fresh dx (Nat.le_refl _)).2 ndx.2.1 ndx.2.2 ndx.1 ⟨[], 0, rfl, rfl⟩
  have hx : (H.set dx (.dic [])) x = none := by rw [HM.set_ne _ _ (Nat.ne_of_gt hlt)]; exact (fresh x (Nat.le_of_lt hlt)).1
  have S3 := St.backNew (mr' := mr) (news := []) (ao := .raw (instObj C dx)) S2 S2 hx (fresh x (Nat.le_of_lt hlt)).2 nx.2.1 nx.2.2 nx.1 rfl
  refine h { c with A := c.A.under (.builtin "type.__call__" ⟨.ref C :: Vs, Ks⟩) } (O.under _ _ _) x dx (fresh x (Nat.le_of_lt hlt)).1 (fresh dx (Nat.le_refl _)).1 (Nat.ne_of_gt hlt) (.ref fI) (.ref x :: Vs) Ks rfl (by rw [List.map_cons, e1]; rfl) e2 G _ _ ⟨S3.same, S3.base, S3.ns, S3.lb, S3.dj, S3.hp, S3.fp⟩ fun V s' H' S' q => ?_
  obtain ⟨q1, q2⟩ := q
  exact ⟨er_none q1, H', ⟨S'.same, S'.base, S'.ns, S'.lb, S'.dj, S'.hp, S'.fp⟩, q2⟩
end
end Mine
end

section
open PySem PySem.W PySem.Calls PyProof.Rows PySem.Builtin PySem.Builtin.Str
set_option linter.all false
set_option maxRecDepth 100000
namespace Mine
theorem cut_flat {a b : List Tk} {j : Nat} (h : j = (flatT a).length) : cut (flatT (a ++ b)) none (some j) = flatT a := by
  subst h
  unfold cut
  rw [flatT_append]
  simp
theorem cut_flat2 {a b : List Tk} {j : Nat} (h : j = (flatT a).length) : cut (flatT (a ++ b)) (some j) none = flatT b := by
  subst h
  unfold cut
  rw [flatT_append]
  simp
section
variable {c : FC} {K : Frag} {n : Nat} {m : LM} {H F : HM} {X : XM} {s : Shared}
theorem MethJ.patX {a : Addr} {name : Str} {id : String} {Q : Value → List Value → HM → Prop} (ac : Addr) (hp : PatAt a ac c.s₀.heap) (slot : Slot "re.Pattern" name id) (ty : typeOf (.builtin id) = pure (.type "method_descriptor"))
    (h : Q (.builtin id) [.ref a] H) : MethJ c (.ref a) name m H Q X := MethJ.pat hp slot ty h
theorem C_subX {a : Addr} {l : List Nat} {Q : Value → HM → Prop} (ac : Addr) (ts : List Tk) (hp : PatAt a ac c.s₀.heap) (e : l = flatT ts) (hok : okT ts) (hl : (flatT ts).length ≤ 1000000) (h : Q (VT (signs ts)) H) : CallJ c (.builtin "re.Pattern.sub") [.ref a, VT [], VT l] [] m H Q X := by
  subst e; exact C_sub hp hok hl h
theorem MethJ.matchedX {a : Addr} {Q : Value → List Value → HM → Prop} (en : Nat) (hm : MatchAt H a en) (h : Q (.builtin "re.Match.end") [.ref a] H) : MethJ c (.ref a) "end" m H Q X := MethJ.matched hm h
theorem C_endX {a : Addr} {Q : Value → HM → Prop} (en : Nat) (hm : MatchAt H a en) (h : Q (VI en) H) : CallJ c (.builtin "re.Match.end") [.ref a] [] m H Q X := C_end hm h
theorem Ev.globR {x p} {Q : Value → HM → Prop} (K : Frag) (n : Nat) (a : Addr) (O : Ok c K n) (e : nsIn K mainGlobals x = some (some (.ref a))) (hl : c.env.kindOf x = some .globalImplicit) (hd : (x == ("__debug__" : Str)) = false) (h : Q (.ref a) H) : Ev c (.Name x p) m H Q X := Ev.glob O hl e h hd
theorem Ev.bltB {x p} {Q : Value → HM → Prop} (K : Frag) (n : Nat) (id : String) (hv : bootBuiltins x = some (.builtin id)) (O : Ok c K n) (hl : c.env.kindOf x = some .globalImplicit) (e : nsIn K mainGlobals x = some none) (hn : x ≠ "__name__") (hd : (x == ("__debug__" : Str)) = false) (h : Q (.builtin id) H) : Ev c (.Name x p) m H Q X := Ev.blt O hl e hv hn h hd
theorem Ev.bltT {x p} {Q : Value → HM → Prop} (K : Frag) (n : Nat) (id : String) (hv : bootBuiltins x = some (.type id)) (O : Ok c K n) (hl : c.env.kindOf x = some .globalImplicit) (e : nsIn K mainGlobals x = some none) (hn : x ≠ "__name__") (hd : (x == ("__debug__" : Str)) = false) (h : Q (.type id) H) : Ev c (.Name x p) m H Q X := Ev.blt O hl e hv hn h hd
end
end Mine
end

section
open PySem PySem.W PySem.Calls PyProof.Rows PySem.Builtin PySem.Builtin.Str
set_option linter.all false
set_option maxRecDepth 100000
namespace Mine
theorem snocInd {α : Type} {P : List α → Prop} (h0 : P []) (h1 : ∀ l x, P l → P (l ++ [x])) (l : List α) : P l := by
  rw [← l.reverse_reverse]
  induction l.reverse with
  | nil => exact h0
  | cons x r ih => rw [List.reverse_cons]; exact h1 _ _ ih

/-! ## the texts of the programs -/
theorem t_no : (Str.ofString "") = S [] := rfl
theorem t_blanks : (Str.ofString "\t\n\x0b\x0c\r ") = S [9, 10, 11, 12, 13, 32] := by rfl
theorem t_sp : (Str.ofString " ") = S [32] := by rfl
theorem t_nl : (Str.ofString "\n") = S [10] := by rfl
theorem t_nl2 : (Str.ofString "\n\n") = S [10, 10] := by rfl
theorem t_bs : (Str.ofString "\x08") = S [8] := by rfl
theorem t_sp2 : (Str.ofString "  ") = S [32, 32] := by rfl
theorem t_sp4 : (Str.ofString "    ") = S [32, 32, 32, 32] := by rfl
theorem t_star : (Str.ofString "* ") = S [42, 32] := by rfl
theorem t_usage : (Str.ofString "usage: ") = S [117, 115, 97, 103, 101, 58, 32] := by rfl
theorem t_abc : (Str.ofString "abcdefghijklmnop") = S [97, 98, 99, 100, 101, 102, 103, 104, 105, 106, 107, 108, 109, 110, 111, 112] := by rfl
theorem t_pon : (Str.ofString "ponmlkjihgfedcba") = S [112, 111, 110, 109, 108, 107, 106, 105, 104, 103, 102, 101, 100, 99, 98, 97] := by rfl
theorem t_csi : (Str.ofString "\x1b[") = S [27, 91] := by rfl
theorem t_m : (Str.ofString "m") = S [109] := by rfl
theorem t_b1 : (Str.ofString "\x1b[1m") = S [27, 91, 49, 109] := by rfl
theorem t_b0 : (Str.ofString "\x1b[0m") = S [27, 91, 48, 109] := by rfl
theorem t_314 : (Str.ofString "\x1b[31;4m") = S [27, 91, 51, 49, 59, 52, 109] := by rfl
theorem t_31 : (Str.ofString "\x1b[31m") = S [27, 91, 51, 49, 109] := by rfl
theorem t_14 : (Str.ofString "\x1b[1;4m") = S [27, 91, 49, 59, 52, 109] := by rfl
theorem t_ah : (Str.ofString "abcdefgh") = S [97, 98, 99, 100, 101, 102, 103, 104] := by rfl
theorem t_spnl : (Str.ofString " \n") = S [32, 10] := by rfl
theorem t_dots : (Str.ofString " [...]") = S [32, 91, 46, 46, 46, 93] := by rfl
theorem at_last {α : Type} (vs : List α) (v : α) : at? (vs ++ [v]) (-1) = some v := by
  unfold at?
  rw [if_neg (by decide), if_pos (by rw [List.length_append]; simp; omega)]
  rw [show ((-1 : Int) + ((vs ++ [v]).length : Int)).toNat = vs.length from by rw [List.length_append]; simp; omega]
  simp
theorem setAt_last {α : Type} (vs : List α) (v w : α) : setAt (vs ++ [v]) (-1) w = vs ++ [w] := by
  unfold setAt
  rw [if_neg (by decide), show ((-1 : Int) + ((vs ++ [v]).length : Int)).toNat = vs.length from by rw [List.length_append]; simp; omega]
  simp
theorem delAt_last {α : Type} (vs : List α) (v : α) : delAt (vs ++ [v]) (-1) = vs := by
  unfold delAt
  rw [if_neg (by decide), show ((-1 : Int) + ((vs ++ [v]).length : Int)).toNat = vs.length from by rw [List.length_append]; simp; omega]
  rw [List.eraseIdx_append_of_length_le (Nat.le_refl _)]; simp
theorem iteTe {b : Bool} {A B : Prop} (h : b = true) (hA : A) : if b = true then A else B := by rw [if_pos h]; exact hA
theorem iteFe {b : Bool} {A B : Prop} (h : b = false) (hB : B) : if b = true then A else B := by rw [h, if_neg Bool.false_ne_true]; exact hB
theorem getLast_split {α : Type} {l : List α} {a : α} (h : l.getLast? = some a) : l = l.dropLast ++ [a] := by
  induction l using snocInd with
  | h0 => cases h
  | h1 l x _ => simp at h; subst h; simp
section
variable {c : FC} {K : Frag} {n : Nat} {m : LM} {H F : HM} {X : XM} {s : Shared}
theorem ItemG.lastX {a : Addr} {Q : Value → HM → Prop} (vs : List Value) (v : Value) (hv : H a = some (.list (vs ++ [v]))) (h : Q v H) : ItemG c (.ref a) (VI (-1)) m H Q X := .list hv (at_last vs v) (by decide) h
theorem StoreI.lastX {a : Addr} {w : Value} {Q : LM → HM → Prop} (vs : List Value) (v : Value) (hv : H a = some (.list (vs ++ [v]))) (h : Q m (H.set a (.list (vs ++ [w])))) : StoreI c (.ref a) (VI (-1)) w m H Q :=
  .at hv (by rw [List.length_append]; simp; omega) (by rw [List.length_append]; simp; omega) (by decide) (by rw [setAt_last]; exact h)
theorem DelI.lastX {a : Addr} {Q : LM → HM → Prop} (vs : List Value) (v : Value) (hv : H a = some (.list (vs ++ [v]))) (hl : vs.length < 16000000) (h : Q m (H.set a (.list vs))) : DelI c (.ref a) (VI (-1)) m H Q :=
  .at hv (by rw [List.length_append]; simp; omega) (by rw [List.length_append]; simp; omega) (by rw [List.length_append]; simp; omega) (by rw [delAt_last]; exact h)
theorem Yld.f {k : Nat} {x : Value} {Q : Value → HM → Prop} (h : Q x H) : Yld false k x H Q := h
theorem Yld.t {k : Nat} {x : Value} {Q : Value → HM → Prop} (h : ∀ a, H a = none → Q (.ref a) (H.set a (.tup [VI k, x]))) : Yld true k x H Q := h
theorem ItemG.strX {l : List Nat} {k : Int} {Q : Value → HM → Prop} (x : Nat) (hk : at? l k = some x) (hs : k.natAbs < 2 ^ 62) (h : Q (VT [x]) H) : ItemG c (VT l) (VI k) m H Q X := .str hk hs h
theorem Inst.mk {x : Addr} (C d : Addr) (fs : List (Str × Value)) (h1 : H x = some (.raw (instObj C d))) (h2 : H d = some (.dic fs)) : Inst H x C d fs := ⟨h1, h2⟩
theorem AttrJ.ownX {x : Addr} {attr : Str} {Q : Value → HM → Prop} (C d : Addr) (fs : List (Str × Value)) (v : Value) (K : Frag) (n : Nat) (av : Option Value) (h1 : H x = some (.raw (instObj C d))) (h2 : H d = some (.dic fs)) (hl : fs.lookup attr = some v) (O : Ok c K n) (hg : plainGet K C attr = true) (hh : hasDictIn K C = true)
    (ha : findIn K (.ref C) attr = some av) (hn : noGet K av = true) (hv : handedIn v = true) (h : Q v H) : AttrJ c (.ref x) attr m H Q X := AttrJ.own fs v K n av ⟨h1, h2⟩ hl O hg hh ha hn hv h
theorem StoreA.ownX {x : Addr} {attr : Str} {v : Value} {Q : LM → HM → Prop} (C d : Addr) (fs : List (Str × Value)) (K : Frag) (n : Nat) (h1 : H x = some (.raw (instObj C d))) (h2 : H d = some (.dic fs)) (O : Ok c K n)
    (hs : findIn K (.ref C) "__setattr__" = some (some (.builtin "object.__setattr__"))) (hp : plainOver K C = true) (ht : takerIn K C attr = some none) (hh : hasDictIn K C = true) (hz : fs.length < 900)
    (h : Q m (H.set d (.dic (putF attr v fs)))) : StoreA c (.ref x) attr v m H Q X := StoreA.own fs K n ⟨h1, h2⟩ O hs hp ht hh hz h
theorem MethJ.instX {x : Addr} {name : Str} {Q : Value → List Value → HM → Prop} (C d f : Addr) (fs : List (Str × Value)) (K : Frag) (n : Nat) (h1 : H x = some (.raw (instObj C d))) (h2 : H d = some (.dic fs)) (O : Ok c K n) (hl : fs.lookup name = none) (hg : plainGet K C name = true) (hf : findIn K (.ref C) name = some (some (.ref f))) (ht : isFn K (.ref f) = true)
    (h : Q (.ref f) [.ref x] H) : MethJ c (.ref x) name m H Q X := MethJ.inst fs K n ⟨h1, h2⟩ O hl hg hf ht h
end
end Mine
end

section
open PySem PySem.W PySem.Calls PyProof.Rows PySem.Builtin PySem.Builtin.Str
set_option linter.all false
set_option maxRecDepth 100000
namespace Mine

/-! ## with -/
def WithJ (c : FC) (body : List Stmt) (m : LM) (H : HM) (Q : Flow → LM → HM → Prop) (X : XM) (v : Value) : Prop :=
  ∃ x C d fs fe fx, ∃ (K : Frag) (n : Nat), v = .ref x ∧ H x = some (.raw (instObj C d)) ∧ H d = some (.dic fs) ∧ Ok c K n ∧ findIn K (.ref C) "__enter__" = some (some (.ref fe)) ∧ isFn K (.ref fe) = true ∧ findIn K (.ref C) "__exit__" = some (some (.ref fx)) ∧ isFn K (.ref fx) = true ∧
    CallJ c (.ref fe) [.ref x] [] m H (fun _ H2 => Exs c body m H2 (fun f m3 H3 => CallJ c (.ref fx) [.ref x, .none, .none, .none] [] m3 H3 (fun _ H4 => Q f m3 H4) X) XF) X
section
variable {c : FC} {K : Frag} {n : Nat} {m : LM} {H F : HM} {X : XM} {s : Shared}
theorem Ex.with {ctx : Expr} {body : List Stmt} {pos : Pos} {Q : Flow → LM → HM → Prop} (h : Ev c ctx m H (fun v H1 => WithJ c body m H1 Q X v) X) : Ex c (.With [⟨ctx, none⟩] body pos) m H Q X := fun G s S =>
  kw_exec0 (wpAny_mono (h G s S) (fun V s1 ⟨H1, S1, x, C, d, fs, fe, fx, K, n, ev, h1, h2, O, q1, q2, q3, q4, hb⟩ => by
    obtain rfl := er_ref ev
    obtain ⟨es, k, he, hd, IA⟩ := S1.inst ⟨h1, h2⟩
    obtain ⟨mr, Fr0, _⟩ := S1.fr
    refine kw_in0 Fr0 O.X IA q1 q2 q3 q4 (wpAny_mono (hb (.ref fe) [.ref x] [] rfl rfl rfl G s1 S1) (fun _ s2 ⟨H2, S2, hb2⟩ => ?_) fun _ _ e => e)
    refine wpAny_mono (hb2 G s2 S2) (fun f s3 ⟨m3, H3, S3, hb3⟩ => ?_) fun _ _ e => e
    exact wpAny_mono (hb3 (.ref fx) [.ref x, .none, .none, .none] [] rfl rfl rfl G s3 S3) (fun _ s4 ⟨H4, S4, q⟩ => ⟨m3, H4, S4, q⟩) fun _ _ e => e) fun _ _ e => e)

/-! ## enumerate -/
theorem C_enumerate {a : Addr} {vs : List Value} {Q : Value → HM → Prop} (hv : H a = some (.list vs)) (h : ∀ e it oe oi, H e = none → H it = none → e ≠ it → EnumO oe it → ListItO oi a → Q (.ref e) ((H.set it (.raw oi)).set e (.raw oe))) : CallJ c (.type "enumerate") [.ref a] [] m H Q X := fun Fv Vs Ks e0 e1 e2 G s S => by
  obtain rfl := er_type e0
  obtain ⟨V, rfl, e⟩ := call1 (as := []) e1; obtain rfl := er_ref e; obtain rfl := kw0 e2
  obtain ⟨ws, k, _, hg⟩ := S.list hv
  refine call_enumerate_1 (n := k) hg fun h' he hit hz hk => ?_
  obtain ⟨oi, hoi, hoi2⟩ := hit
  have S1 := S.keeps' hk
  obtain ⟨f1, f2, f3, f4⟩ := S.above (k := s.heap.objs.size) (Nat.le_refl _)
  obtain ⟨g1, g2, g3, g4⟩ := S.above (k := s.heap.objs.size + 1) (Nat.le_succ _)
  have S2 := St.backNew (mr' := fun _ => none) (news := []) (t := s.toks) (ao := .raw oi) S1 S1 f1 f2 f3 f4 hoi rfl
  have hne : s.heap.objs.size + 1 ≠ s.heap.objs.size := Nat.succ_ne_self _
  have S3 := St.backNew (mr' := fun _ => none) (news := []) (t := s.toks) (ao := .raw _) S2 S2 (by rw [HM.set_ne _ _ hne]; exact g1) g2 g3 g4 he rfl
  exact ⟨_, S3, h _ _ _ _ g1 f1 hne rfl hoi2⟩
end

/-! ## map and sum -/
theorem slot_map_next : Slot "map" "__next__" "map.__next__" :=
  .of (owner := "map") (n := "__next__") (by rw [typeLookup_type, builtinLookup_eq_fast]; kernel_rfl) (by decide +kernel) (by decide +kernel) (by decide +kernel)
    (by first | exact .inl (by decide +kernel) | exact .inr (by decide +kernel)) (by rw [isSubtype_type]; kernel_rfl)
theorem slot_map_iter : Slot "map" "__iter__" "map.__iter__" :=
  .of (owner := "map") (n := "__iter__") (by rw [typeLookup_type, builtinLookup_eq_fast]; kernel_rfl) (by decide +kernel) (by decide +kernel) (by decide +kernel)
    (by first | exact .inl (by decide +kernel) | exact .inr (by decide +kernel)) (by rw [isSubtype_type]; kernel_rfl)
theorem entry_map_iter : entryFor table "map.__iter__" = some Builtin.«dict_keyiterator.__iter__» :=
  entryFor_alias (id' := "dict_keyiterator.__iter__") (by kernel_rfl) (by first | rfl | decide +kernel | (unfold String.splitOn; simp +decide [String.splitOnAux])) (by decide +kernel) (by kernel_rfl)
theorem slot_map_init : Slot "map" "__init__" "object.__init__" :=
  .of (owner := "object") (n := "__init__") (by rw [typeLookup_type, builtinLookup_eq_fast]; kernel_rfl) (by decide +kernel) (by decide +kernel) (by decide +kernel)
    (by first | exact .inl (by decide +kernel) | exact .inr (by decide +kernel)) (by rw [isSubtype_type]; kernel_rfl)
theorem entry_map_next : entryFor table "map.__next__" = some Builtin.«map.__next__» := entryFor_of_tree (by kernel_rfl)
theorem entry_map_new : entryFor table "map.__new__" = some Builtin.«map.__new__» := entryFor_of_tree (by kernel_rfl)
theorem mro_map : mroOf (.type "map") = pure [.type "map", .type "object"] := by rw [mroOf_type]; kernel_rfl
theorem lookup_map_new : typeLookup (.type "map") "__new__" = pure (some (.builtin "map.__new__")) := by rw [typeLookup_type, builtinLookup_eq_fast]; kernel_rfl
theorem called_map : TypeCalled "map" "map.__new__" "object.__init__" :=
  ⟨by decide +kernel, by decide +kernel, ⟨_, _, mro_map⟩, madeBy_type mro_map lookup_map_new (by decide +kernel), by decide +kernel, by rw [isSubtype_type]; kernel_rfl, slot_map_init⟩
theorem typeCall_map (a b : Value) : checkTypeCall "map" ⟨[a, b], []⟩ = pure () := by kernel_rfl
theorem newCall_map (a b : Value) : checkBuiltinCall "map.__new__" ⟨[.type "map", a, b], []⟩ = pure () := by kernel_rfl
theorem args_map_next (a : Value) : argsOk "map.__next__" ⟨[a], []⟩ := by unfold argsOk; kernel_rfl
theorem args_map_iter (a : Value) : argsOk "map.__iter__" ⟨[a], []⟩ := by unfold argsOk; kernel_rfl
theorem sub_map : isSubtype (.type "map") (.type "map") = pure true := by rw [isSubtype_type]; kernel_rfl
end Mine
end

section
open PySem PySem.W PySem.Calls PyProof.Rows PySem.Builtin PySem.Builtin.Str
set_option linter.all false
set_option maxRecDepth 100000
namespace Mine

/-! ## a call that keeps the frame's own object -/
def CallR (c : FC) (f : Value) (as : List Value) (m : LM) (H : HM) (Q : Value → HM → Prop) : Prop :=
  ∀ Fv Vs, er Fv = f → Vs.map er = as → ∀ F s (E : Value → Shared → Prop), St c m H F s → wpAny (model c.prog c.w) c.A (call Fv Vs) (fun V s' => ∃ H', St c m H' F s' ∧ s'.heap.get? c.env.locals = s.heap.get? c.env.locals ∧ Q (er V) H') E s
section
variable {c : FC} {K : Frag} {n : Nat} {m : LM} {H F : HM} {X : XM} {s : Shared}
theorem CallR.toJ {f : Value} {as : List Value} {Q : Value → HM → Prop} (h : CallR c f as m H Q) : CallJ c f as [] m H Q X := fun Fv Vs Ks e0 e1 e2 G s S => by
  obtain rfl := kw0 e2
  exact wpAny_mono (h Fv Vs e0 e1 G s _ S) (fun V s' ⟨H', S', _, q⟩ => ⟨H', S', q⟩) fun _ _ e => e
theorem CallR.fn {f : Addr} {fd : FuncData} {body : List Stmt} {as : List Value} {bs : List (Str × Value)} {Q : Value → HM → Prop} (O : Ok c K (n + 1)) (W : Fn K f fd body) (hb : FnBinds K fd as [] bs)
    (hk : ∀ x ∈ bs, fd.scope.names.lookup x.1 = some .local ∨ fd.scope.names.lookup x.1 = some .cell)
    (h : ∀ L, (∀ k, L ≤ k → H k = none) → Ok (c.call fd L f) K n → Exs (c.call fd L f) body (bindLM (c.call fd L f).env.kindOf bs []) (cellsH H (cellsFrom (L + 1) fd.scope.names []) (bindCM (c.call fd L f).env.kindOf bs fun _ => none)) (EndJ Q) XF) : CallR c (.ref f) as m H Q := fun Fv Vs e0 e1 G s E St' => by
  obtain rfl := er_ref e0
  obtain ⟨binds, hbt, rfl⟩ := hb Vs [] e1 rfl
  obtain ⟨oc, od, osl, hlook⟩ := W.look
  obtain ⟨oL, hL⟩ := St'.frame
  have XK := O.inK St'
  refine wpAny_call (codeAny_call_function (fd := fd) (by have := O.dp; show c.A.depth < 1000; omega) (XK _ _ hlook) rfl W.co W.gen W.body (codeRec_of XK W.cd) (hbt s XK _ _ _ _ ?_))
  rw [W.clo]
  refine wpAny_newFunctionEnv_cells W.kind (fun x hx => ?_) fun env he s' x => ?_
  · have := hk (x.1, er x.2) (List.mem_map.mpr ⟨x, hx, rfl⟩)
    exact this.imp _root_.id fun q => ⟨q, cells_have _ _ _ _ (.inl q)⟩
  · obtain ⟨h', t', es'⟩ := x.toInCall.same
    have kp := x.toInCall.keep
    have eenv : env = (c.call fd s.heap.objs.size f).env := he
    subst eenv
    refine ⟨by rw [es'] at kp ⊢; exact (O.nl.keeps St'.base).keeps kp, codeAny_func ?_⟩
    have S1 : St (c.call fd s.heap.objs.size f) (bindLM (c.call fd s.heap.objs.size f).env.kindOf (binds.map fun p => (p.1, er p.2)) [])
        (cellsH H (cellsFrom (s.heap.objs.size + 1) fd.scope.names []) (bindCM (c.call fd s.heap.objs.size f).env.kindOf (binds.map fun p => (p.1, er p.2)) fun _ => none)) (G.set c.env.locals (.raw oL)) s' := by
      subst es'
      refine St'.other (c' := c.call fd s.heap.objs.size f) rfl hL kp (Nat.le_refl _) x.toInCall.ns (bind_rel _ _ _ _ fun y u hy => by cases hy) fun a ao e => ?_
      rcases cellsH_some e with ⟨p, hp, rfl, rfl⟩ | ⟨_, e⟩
      · right
        have hlk := lookup_of_nd (cells_nd fd.scope.names (s.heap.objs.size + 1) [] W.nd (fun _ _ _ hq => nomatch hq) List.Pairwise.nil) hp
        obtain ⟨o, ho, hd⟩ := x.cell p.1 p.2 hlk
        have hab := x.above p.1 p.2 hp
        exact ⟨Nat.le_of_lt hab, Nat.ne_of_gt hab, o, ho, _, hd, (bind_cells _ _ _ _ (fun _ => rfl) p.1).symm⟩
      · exact .inl e
    refine wpAny_mono (h _ (fun k hk => (St'.above hk).1) (O.call W _) _ _ S1) (fun fl s'' ⟨m', H', S', H'', hle, hq⟩ => ?_) fun _ _ z => z.elim
    refine ⟨H'', (St'.home (c' := c.call fd s.heap.objs.size f) rfl hL S').weak hle, ?_, by cases fl <;> exact hq⟩
    obtain ⟨_, _, o, ho, e⟩ := S'.fp c.env.locals (.raw oL) (HM.set_same ..)
    have e : o = oL := e
    rw [hL, ← e]; exact ho
theorem CallR.run {f : Addr} {fd : FuncData} {body : List Stmt} {as : List Value} {bs : List (Str × Value)} {Q : Value → HM → Prop} (O : Ok c K (n + 1)) (W : Fn K f fd body) (hb : FnBinds K fd as [] bs)
    (hk : okBinds fd.scope.names (bs.map (·.1)) = true)
    (h : ∀ L, (∀ k, L ≤ k → H k = none) → Ok (c.call (fdOf K f) L f) K n → Exs (c.call (fdOf K f) L f) body (bindLM (c.call (fdOf K f) L f).env.kindOf bs []) (cellsH H (cellsFrom (L + 1) (fdOf K f).scope.names []) (bindCM (c.call (fdOf K f) L f).env.kindOf bs fun _ => none)) (EndJ Q) XF) : CallR c (.ref f) as m H Q := by
  have ef : fdOf K f = fd := by
    obtain ⟨_, _, _, e⟩ := W.look
    unfold fdOf; rw [e]
  subst ef
  exact CallR.fn O W hb (fun x hx => by
    have := List.all_eq_true.mp hk x.1 (List.mem_map.mpr ⟨x, hx, rfl⟩)
    rw [Bool.or_eq_true, beq_iff_eq, beq_iff_eq] at this
    exact this) h

/-! ## map -/
def MapO (o : Obj) (T f : Addr) : Prop := o = { cls := .type "map", dict := none, data := .fields #[.ref T, .ref f], slots := #[] }
def Tup1O (o : Obj) (a : Addr) : Prop := o = { cls := .type "tuple", data := .seq #[.ref a] }
end
theorem meets_map_new (f l : Addr) (items : Array Value) (n : Nat) :
    Meets (Builtin.«map.__new__» ⟨[.type "map", .ref f, .ref l], []⟩) (fun _ R s => s.heap.get? l = some { cls := .type "list", dict := none, data := .seq items n, slots := #[] } ∧
      R (.ok (.ret (.ref ((s.heap.push { cls := .type "list_iterator", data := .fields #[.ref l, .int 0 0] }).push { cls := .type "tuple", data := .seq #[.ref s.heap.objs.size] }).objs.size)))
        { s with heap := (((s.heap.push { cls := .type "list_iterator", data := .fields #[.ref l, .int 0 0] }).push { cls := .type "tuple", data := .seq #[.ref s.heap.objs.size] }).push { cls := .type "map", data := .fields #[.ref (s.heap.push { cls := .type "list_iterator", data := .fields #[.ref l, .int 0 0] }).objs.size, .ref f] }) }) :=
  .of_wp fun prog w A R s h => by
    obtain ⟨hp, g, d, tk, os⟩ := s; obtain ⟨hl, h⟩ := h
    have hsub := sub_map
    have hL : Heap.IsList (Shared.heap ⟨hp, g, d, tk, os⟩) l items := ⟨_, hl, rfl, n, rfl⟩
    wp_walk using wpAny_pyIter_list hL
    exact ⟨_, rfl, h⟩
end Mine
end

section
open PySem PySem.W PySem.Calls PyProof.Rows PySem.Builtin PySem.Builtin.Str
set_option linter.all false
set_option maxRecDepth 100000
namespace Mine
section
variable {c : FC} {K : Frag} {n : Nat} {m : LM} {H F : HM} {X : XM} {s : Shared}

theorem C_map {f a : Addr} {vs : List Value} {Q : Value → HM → Prop} (hv : H a = some (.list vs))
    (h : ∀ M T it oM oT oi, H M = none → H T = none → H it = none → M ≠ T → M ≠ it → T ≠ it → MapO oM T f → Tup1O oT it → ListItO oi a → Q (.ref M) (((H.set it (.raw oi)).set T (.raw oT)).set M (.raw oM))) :
    CallJ c (.type "map") [.ref f, .ref a] [] m H Q X := fun Fv Vs Ks e0 e1 e2 G s S => by
  obtain rfl := er_type e0
  obtain ⟨V, W, rfl, hV, hW⟩ := call2 e1; obtain rfl := er_ref hV; obtain rfl := er_ref hW; obtain rfl := kw0 e2
  obtain ⟨ws, k, _, hg⟩ := S.list hv
  have hz1 : (s.heap.push { cls := .type "list_iterator", data := .fields #[.ref a, .int 0 0] }).objs.size = s.heap.objs.size + 1 := Heap.size_push ..
  have hz2 : ((s.heap.push { cls := .type "list_iterator", data := .fields #[.ref a, .int 0 0] }).push { cls := .type "tuple", data := .seq #[.ref s.heap.objs.size] }).objs.size = s.heap.objs.size + 2 := by rw [Heap.size_push, hz1]
  refine callType_new called_map (by decide) (typeCall_map _ _) (newCall_map _ _) (fun obj => F.args_object_init_3 obj _ _) entry_map_new (meets_map_new f a _ k) ⟨hg, ?_⟩
  rw [hz2, hz1]
  have S1 := St.push (ao := .raw _) (o := { cls := .type "list_iterator", data := .fields #[.ref a, .int 0 0] }) S rfl rfl
  have S2 := St.push (ao := .raw _) (o := { cls := .type "tuple", data := .seq #[.ref s.heap.objs.size] }) S1 rfl rfl
  have S3 := St.push (ao := .raw _) (o := { cls := .type "map", data := .fields #[.ref (s.heap.objs.size + 1), .ref f] }) S2 rfl rfl
  have f1 := S.above (k := s.heap.objs.size) (Nat.le_refl _)
  have f2 := S.above (k := s.heap.objs.size + 1) (Nat.le_succ _)
  have f3 := S.above (k := s.heap.objs.size + 2) (Nat.le_trans (Nat.le_succ _) (Nat.le_succ _))
  have hT : ((((s.heap.push { cls := .type "list_iterator", data := .fields #[.ref a, .int 0 0] }).push { cls := .type "tuple", data := .seq #[.ref s.heap.objs.size] }).push { cls := .type "map", data := .fields #[.ref (s.heap.objs.size + 1), .ref f] })).get? (s.heap.objs.size + 2) = some { cls := .type "map", data := .fields #[.ref (s.heap.objs.size + 1), .ref f] } := by
    have := Heap.get?_push_size ((s.heap.push { cls := .type "list_iterator", data := .fields #[.ref a, .int 0 0] }).push { cls := .type "tuple", data := .seq #[.ref s.heap.objs.size] }) (o := { cls := .type "map", data := .fields #[.ref (s.heap.objs.size + 1), .ref f] }) rfl
    rw [hz2] at this; exact this
  refine ⟨⟨_, hT, rfl⟩, _, S3, ?_⟩
  show Q (.ref (s.heap.objs.size + 2)) ((((H.set s.heap.objs.size (.raw _)).set (s.heap.push { cls := .type "list_iterator", data := .fields #[.ref a, .int 0 0] }).objs.size (.raw _)).set ((s.heap.push { cls := .type "list_iterator", data := .fields #[.ref a, .int 0 0] }).push { cls := .type "tuple", data := .seq #[.ref s.heap.objs.size] }).objs.size (.raw _)))
  rw [hz2, hz1]
  exact h (s.heap.objs.size + 2) (s.heap.objs.size + 1) s.heap.objs.size _ _ _ f3.1 f2.1 f1.1 (Nat.succ_ne_self (s.heap.objs.size + 1)) (Nat.ne_of_gt (Nat.lt_trans (Nat.lt_succ_self s.heap.objs.size) (Nat.lt_succ_self (s.heap.objs.size + 1)))) (Nat.succ_ne_self s.heap.objs.size) rfl rfl ⟨rfl, rfl⟩
/-! ## sum over a map -/
/-- everything that is there is held fast, but one object -/
def held (c : FC) (h : Heap) : HM := fun b => if b = c.env.locals ∨ (c.s₀.heap.get? b).isSome then none else (h.get? b).map .raw
theorem St.held (S : St c m H F s) {b0 : Addr} {s' : Shared} (hb : b0 ≠ c.env.locals) (hb2 : c.s₀.heap.get? b0 = none) (hs : ∃ h t, s' = { c.s₀ with heap := h, toks := t }) (k : ∀ b o, b ≠ b0 → s.heap.get? b = some o → s'.heap.get? b = some o) :
    St c m (fun _ => none) (held c s'.heap) s' := by
  obtain ⟨mr, n1, n2⟩ := S.ns
  refine ⟨hs, fun b o e => k b o (by rintro rfl; rw [hb2] at e; cases e) (S.base b o e), ⟨mr, n1.at' fun o e => k _ o (Ne.symm hb) e, n2⟩, S.lb, fun _ => .inl rfl, fun a ao e => by (cases e), fun a ao e => ?_⟩
  unfold Mine.held at e
  split at e
  · cases e
  · rename_i q
    obtain ⟨o, ho, rfl⟩ := Option.map_eq_some_iff.mp e
    refine ⟨fun z => q (.inl z), ?_, o, ho, rfl⟩
    cases hz : c.s₀.heap.get? a with
    | none => rfl
    | some _ => exact absurd (.inr (by rw [hz]; rfl)) q
theorem Ok.in1 (O : Ok c K (n + 1)) : Ok { c with A := c.A.in1 } K n :=
  ⟨O.X, O.g, O.b, O.nl, O.kind, O.eg, O.eb, O.hh, by have := O.dp; show c.A.in1.depth + n < 900; simp only [Around.in1] at *; omega, by have := O.un; show c.A.in1.units + 4 * n < 9000; simp only [Around.in1] at *; omega⟩

structure MapAt (h : Heap) (M T LI l : Addr) (f : Addr) (i : Nat) : Prop where
  m : h.get? M = some { cls := .type "map", dict := none, data := .fields #[.ref T, .ref f], slots := #[] }
  t : h.get? T = some { cls := .type "tuple", data := .seq #[.ref LI] }
  li : h.IsListIter LI l i
theorem map_item {prog : Program} {w : World} {A : Around} {E : Value → Shared → Prop} {s : Shared} {M T LI l f : Addr} {i : Nat} {items : Array Value} {x : Value} {Q : Option Value → Shared → Prop} (A1 : MapAt s.heap M T LI l f i) (hl : s.heap.IsList l items) (hx : items[i]? = some x)
    (h : ∀ h' E', h'.IsListIter LI l (i + 1) → Heap.SameBut LI s.heap h' → wpAny (model prog w) A.in1 (call (.ref f) [x]) (fun v s' => Q (some v) s') E' { s with heap := h' }) :
    wpAny (model prog w) A (pyNext (.ref M)) Q E s := by
  have hT : s.TypeIs (.ref M) "map" := ⟨_, A1.m, rfl⟩
  unfold pyNext
  refine wpAny_bind (wpAny_attempt (wpAny_callSpecial?_slot (name := Str.ofString "__next__") hT slot_map_next
    (wpAny_call_entry slot_map_next hT entry_map_next ?_ (args_map_next _))))
  show wpAny _ _ (field (.ref M) 0 >>= _) _ _ _
  refine wpAny_bind (wpAny_field A1.m rfl (x := .ref T) rfl ?_)
  refine wpAny_bind (wpAny_seqItems A1.t rfl ?_)
  simp only [List.forIn_toArray, List.forIn_cons, List.forIn_nil]
  refine wpAny_bind (wpAny_bind (wpAny_bind (wpAny_holding (wpAny_nextOf_list_item A1.li hl hx fun h' q1 q2 => ?_))))
  refine wpAny_pure (wpAny_pure ?_)
  have m' : h'.get? M = some { cls := .type "map", dict := none, data := .fields #[.ref T, .ref f], slots := #[] } := by
    refine (q2.2 M ?_).trans A1.m
    rintro rfl
    obtain ⟨o, ho, e, _⟩ := A1.li
    rw [A1.m] at ho; cases ho
    have e : Value.type "map" = Value.type "list_iterator" := e
    injection e with e; revert e; decide
  refine wpAny_bind (wpAny_field m' rfl (x := .ref f) rfl ?_)
  refine wpAny_bind (wpAny_holding (wpAny_mono (h h' _ q1 q2) (fun v s' q => ?_) fun _ _ e => e))
  refine wpAny_bind (wpAny_letGo ?_)
  exact wpAny_pure ⟨_, rfl, wpAny_pure q⟩
theorem map_end {prog : Program} {w : World} {A : Around} {E : Value → Shared → Prop} {s : Shared} {M T LI l f : Addr} {i : Nat} {items : Array Value} {Q : Option Value → Shared → Prop} (hh : A.handled = none) (A1 : MapAt s.heap M T LI l f i) (hl : s.heap.IsList l items) (hx : items[i]? = none)
    (hQ : ∀ h', Heap.ExtBut LI s.heap h' → Q none { s with heap := h' }) : wpAny (model prog w) A (pyNext (.ref M)) Q E s := by
  have hT : s.TypeIs (.ref M) "map" := ⟨_, A1.m, rfl⟩
  unfold pyNext
  refine wpAny_bind (wpAny_attempt (wpAny_callSpecial?_slot (name := Str.ofString "__next__") hT slot_map_next
    (wpAny_call_entry slot_map_next hT entry_map_next ?_ (args_map_next _))))
  show wpAny _ _ (field (.ref M) 0 >>= _) _ _ _
  refine wpAny_bind (wpAny_field A1.m rfl (x := .ref T) rfl ?_)
  refine wpAny_bind (wpAny_seqItems A1.t rfl ?_)
  simp only [List.forIn_toArray, List.forIn_cons, List.forIn_nil]
  refine wpAny_bind (wpAny_bind (wpAny_bind (wpAny_holding (wpAny_nextOf_list_end hh A1.li hl hx fun h' x he' hx' => ?_))))
  obtain ⟨o, ho, hc⟩ := hx'
  refine wpAny_bind (wpAny_isInstance (T := "StopIteration") (b := true) ⟨o, ho, hc⟩ isSubtype_stop ?_)
  exact wpAny_pure (hQ _ he')
theorem map_self {prog : Program} {w : World} {A : Around} {E : Value → Shared → Prop} {s : Shared} {M T f : Addr} {Q : Value → Shared → Prop} (hm : s.heap.get? M = some { cls := .type "map", dict := none, data := .fields #[.ref T, .ref f], slots := #[] }) (h : Q (.ref M) s) : wpAny (model prog w) A (pyIter (.ref M)) Q E s := by
  have hT : s.TypeIs (.ref M) "map" := ⟨_, hm, rfl⟩
  refine wpAny_pyIter_slot hT slot_map_iter (wpAny_call_entry slot_map_iter hT entry_map_iter ?_ (args_map_iter _))
  show wpAny _ _ (ret (.ref M)) _ _ s
  exact wpAny_pure ⟨_, rfl, "map", _, hT, slot_map_next.lookup, h⟩

theorem St.withA (S : St c m H F s) (A : Around) : St { c with A := A } m H F s := ⟨S.same, S.base, S.ns, S.lb, S.dj, S.hp, S.fp⟩
theorem same_with {c : FC} {s' : Shared} (h : ∃ h t, s' = { c.s₀ with heap := h, toks := t }) (h' : Heap) (tk : Nat) : ∃ h t, ({ s' with heap := h', toks := tk } : Shared) = { c.s₀ with heap := h, toks := t } := by
  obtain ⟨_, _, rfl⟩ := h; exact ⟨h', tk, rfl⟩
theorem same_heap {c : FC} {s' : Shared} (h : ∃ h t, s' = { c.s₀ with heap := h, toks := t }) (h' : Heap) : ∃ h t, ({ s' with heap := h' } : Shared) = { c.s₀ with heap := h, toks := t } := by
  obtain ⟨_, _, rfl⟩ := h; exact ⟨h', _, rfl⟩
theorem St.movedBut {h1 : Heap} {s1 s2 : Shared} {H2 : HM} (S1 : St c m H (Mine.held c h1) s1) (e1 : s1.heap = h1) (S2 : St c m H2 (Mine.held c h1) s2) (hl : s2.heap.get? c.env.locals = s1.heap.get? c.env.locals) : ∀ b o, h1.get? b = some o → s2.heap.get? b = some o := fun b o ho => by
  by_cases q1 : b = c.env.locals
  · subst q1; rw [hl, e1]; exact ho
  · cases hz : c.s₀.heap.get? b with
    | some o' =>
      have := S1.base b o' hz
      rw [e1, ho] at this; cases this
      exact S2.base b o hz
    | none =>
      obtain ⟨_, _, o2, h3, h4⟩ := S2.fp b (.raw o) (by unfold Mine.held; rw [if_neg (by rintro (q | q); exact q1 q; rw [hz] at q; cases q), ho]; rfl)
      have h4 : o2 = o := h4
      rw [h3, h4]
theorem C_sum {M T LI l f : Addr} {oM oT oi : Obj} {vs : List Value} {val : Nat → Int} {Q : Value → HM → Prop} (O : Ok c K (n + 2)) (hM : H M = some (.raw oM)) (hT : H T = some (.raw oT)) (hI : H LI = some (.raw oi)) (hl : H l = some (.list vs))
    (aM : MapO oM T f) (aT : Tup1O oT LI) (aI : ListItO oi l)
    (hf : ∀ c' : FC, c'.env = c.env → c'.s₀ = c.s₀ → c'.prog = c.prog → c'.w = c.w → Ok c' K n → ∀ i v, vs[i]? = some v → CallR c' (.ref f) [v] m (fun _ => none) (fun r _ => r = VI (val i)))
    (h : Q (VI (preSum val vs.length)) (H.del LI)) : CallJ c (.builtin "sum") [.ref M] [] m H Q X := fun Fv Vs Ks e0 e1 e2 G s S => by
  obtain rfl := er_builtin e0
  obtain ⟨V, rfl, e⟩ := call1 (as := []) e1; obtain rfl := er_ref e; obtain rfl := kw0 e2
  obtain ⟨ws, k, ews, hg⟩ := S.list hl
  obtain ⟨_, _, xM, gM, eM⟩ := S.hp _ _ hM
  obtain ⟨_, _, xT, gT, eT⟩ := S.hp _ _ hT
  obtain ⟨nL, n0, xI, gI, eI⟩ := S.hp _ _ hI
  have eM : xM = oM := eM
  have eT : xT = oT := eT
  have eI : xI = oi := eI
  rw [eM, aM] at gM; rw [eT, aT] at gT; rw [eI] at gI
  have hl' : s.heap.IsList l ws.toArray := ⟨_, hg, rfl, k, rfl⟩
  have nM : M ≠ LI := by rintro rfl; rw [gM] at gI; injection gI with gI; have := aI.1; rw [← gI] at this; injection this with e; revert e; decide
  have nT : T ≠ LI := by rintro rfl; rw [gT] at gI; injection gI with gI; have := aI.1; rw [← gI] at this; injection this with e; revert e; decide
  have nl : l ≠ LI := by rintro rfl; rw [hg] at gI; injection gI with gI; have := aI.1; rw [← gI] at this; injection this with e; revert e; decide
  have lsame := S.same
  let Sx : Nat → Shared → Prop := fun i s' => (∀ b o, b ≠ LI → s.heap.get? b = some o → s'.heap.get? b = some o) ∧ s'.heap.IsListIter LI l i ∧ ∃ h t, s' = { c.s₀ with heap := h, toks := t }
  have at' : ∀ i s', Sx i s' → MapAt s'.heap M T LI l f i := fun i s' ⟨q1, q2, _⟩ => ⟨q1 _ _ nM gM, q1 _ _ nT gT, q2⟩
  have li' : ∀ i s', Sx i s' → s'.heap.IsList l ws.toArray := fun i s' ⟨q1, _, _⟩ => ⟨_, q1 _ _ nl hg, rfl, k, rfl⟩
  have hlen : ws.length = vs.length := by rw [← ews, List.length_map]
  have W : WalksS c.prog c.w c.A.in1 M (List.range s.heap.objs.size) [LI] (fun a b => b = a) vs.length (fun i v => ∃ t, v = .int (val i) t) Sx := by
    refine ⟨fun b hb => ?_, fun _ => rfl, fun _ _ _ h1 h2 => h2.trans h1, ?_, ?_, ?_, ?_⟩
    · rw [List.mem_singleton.mp hb]; exact List.mem_range.mpr (Heap.lt_size gI)
    · rintro i s' h' tk ⟨q1, ⟨o, q2, q3⟩, q4⟩ _ kp
      exact ⟨fun b o hb ho => kp b (List.mem_range.mpr (Heap.lt_size ho)) o (q1 b o hb ho), ⟨o, kp LI (List.mem_range.mpr (Heap.lt_size gI)) o q2, q3⟩, same_with q4 _ _⟩
    · intro i s' Q' E' hi hs hq
      obtain ⟨x, hx⟩ : ∃ x, ws.toArray[i]? = some x := ⟨ws[i]'(hlen ▸ hi), by rw [List.getElem?_toArray, List.getElem?_eq_getElem (hlen ▸ hi)]⟩
      have hv : vs[i]? = some (er x) := by
        rw [← ews, List.getElem?_map]; rw [List.getElem?_toArray] at hx; rw [hx]; rfl
      refine wpAny_with_toks (Nat.le_refl s'.toks) (map_item (at' i s' hs) (li' i s' hs) hx fun h' E2 q1 q2 => ?_)
      have kp : ∀ b o, b ≠ LI → s'.heap.get? b = some o → h'.get? b = some o := fun b o hb ho => (q2.2 b hb).trans ho
      have S1 : St c m (fun _ => none) (Mine.held c h') { s' with heap := h' } := S.held (s' := { s' with heap := h' }) nL n0 (same_heap hs.2.2 h') fun b o hb ho => kp b o hb (hs.1 b o hb ho)
      have cr := hf { c with A := c.A.in1.in1 } rfl rfl rfl rfl O.in1.in1 i (er x) hv (.ref f) [x] rfl rfl _ _ E2 (S1.withA _)
      refine wpAny_mono cr (fun V s'' ⟨H'', S'', hL, eV⟩ => ?_) fun _ _ e => e
      intro htk
      have S2 : St c m H'' (Mine.held c h') s'' := ⟨S''.same, S''.base, S''.ns, S''.lb, S''.dj, S''.hp, S''.fp⟩
      have mv := St.movedBut S1 rfl S2 hL
      obtain ⟨tv, eV⟩ := er_int eV
      obtain ⟨h2, t2, e2⟩ := S2.same
      obtain ⟨h3, t3, e3⟩ := hs.2.2
      have mv2 : ∀ b o, b ≠ LI → s'.heap.get? b = some o → s''.heap.get? b = some o := fun b o hb ho => mv b o (kp b o hb ho)
      refine hq V s'' ⟨tv, eV⟩ ⟨fun b o hb ho => mv2 b o hb (hs.1 b o hb ho), ?_, S2.same⟩ ⟨fun b o hb ho => mv2 b o (fun q => hb (List.mem_singleton.mpr q)) ho, ?_, ?_, ?_, htk⟩
      · obtain ⟨o, q3, q4⟩ := q1; exact ⟨o, mv LI o q3, q4⟩
      · rw [e2, e3]
      · rw [e2, e3]
      · rw [e2, e3]
    · intro s' Q' E' hs hq
      refine wpAny_with_toks (Nat.le_refl s'.toks) (map_end (by exact O.hh) (at' _ s' hs) (li' _ s' hs) (by rw [List.getElem?_toArray, List.getElem?_eq_none (Nat.le_of_eq hlen)]) fun h' he htk => ?_)
      exact hq _ ⟨fun b o hb ho => he b o (fun q => hb (List.mem_singleton.mpr q)) ho, rfl, rfl, rfl, htk⟩
    · intro i s' Q' E' hs hq
      exact map_self (at' i s' hs).m hq
  have S0 : Sx 0 s := ⟨fun _ _ _ e => e, ⟨_, gI, aI⟩, lsame⟩
  refine call_sum_walkAnyS (map_self gM ⟨M, _, _, _, _, _, _, val, rfl, W, S0, fun b hb => List.mem_range.mp hb, fun _ _ h => h, fun s' t' hm => ⟨H.del LI, ?_, h⟩⟩)
  obtain ⟨h', g', d', t', o'⟩ := s'
  have hS := (S.weak (HM.del_le H LI)).keepsBut (wr := [LI]) (h' := h') (t := t') (fun b hb => by
    obtain rfl := List.mem_singleton.mp hb
    refine ⟨HM.del_same _ _, ?_, nL, n0⟩
    rcases S.dj b with q | q
    · rw [hI] at q; cases q
    · exact q) fun b o hb ho => hm.heap b o hb ho
  have e1 := hm.gens; have e2 := hm.drawn; have e3 := hm.os
  simp only at e1 e2 e3
  subst e1 e2 e3
  exact hS
end
end Mine
end

section
open PySem PySem.W PySem.Calls PyProof.Rows PySem.Builtin PySem.Builtin.Str
set_option linter.all false
set_option maxRecDepth 100000
namespace Mine
section
variable {c : FC} {K : Frag} {n : Nat} {m : LM} {H F : HM} {X : XM} {s : Shared}
/-! ## a stop after one statement -/
def ViaJ (P : LM → HM → Prop) (f : Flow) (m : LM) (H : HM) : Prop := f = .next ∧ Keep P m H
theorem ViaJ.mk {P : LM → HM → Prop} {m' : LM} (h1 : LM.le m' m) (h : P m' H) : ViaJ P .next m H := ⟨rfl, m', H, h1, HM.le.refl _, h⟩
theorem Exs.weak {body : List Stmt} {Q : Flow → LM → HM → Prop} {m' : LM} {H' : HM} (h : Exs c body m' H' Q X) (h1 : LM.le m' m) (h2 : H'.le H) : Exs c body m H Q X := fun F s S => h F s ((S.weak h2).weakm h1)
theorem Exs.via {st : Stmt} {rest : List Stmt} {Q : Flow → LM → HM → Prop} (P : LM → HM → Prop) (h : Ex c st m H (ViaJ P) X) (h2 : ∀ m' H', P m' H' → Exs c rest m' H' Q X) : Exs c (st :: rest) m H Q X :=
  Exs.go (Fw.mono h (fun f m1 H1 ⟨e, m2, H2, l1, l2, hp⟩ => by subst e; exact ThenJ.next ((h2 m2 H2 hp).weak l1 l2)) fun _ _ _ e => e)

theorem Exs.ifVia {b : Bool} {as bs rest : List Stmt} {Q : Flow → LM → HM → Prop} (P : LM → HM → Prop) (h : if b = true then Exs c as m H (ViaJ P) X else Exs c bs m H (ViaJ P) X) (h2 : ∀ m' H', P m' H' → Exs c rest m' H' Q X) : if b = true then Exs c as m H (ThenJ c rest Q X) X else Exs c bs m H (ThenJ c rest Q X) X := by
  have up : ∀ zs, Exs c zs m H (ViaJ P) X → Exs c zs m H (ThenJ c rest Q X) X := fun zs h =>
    Fw.mono h (fun f m1 H1 ⟨e, m2, H2, l1, l2, hp⟩ => by subst e; exact ThenJ.next ((h2 m2 H2 hp).weak l1 l2)) fun _ _ _ e => e
  cases b
  · rw [if_neg Bool.false_ne_true] at h ⊢; exact up _ h
  · rw [if_pos rfl] at h ⊢; exact up _ h
/-! ## heaps alike but at some places -/
def Upd (l : List Addr) (H H' : HM) : Prop := ∀ a o, a ∉ l → H a = some o → H' a = some o
theorem Upd.refl (l : List Addr) (H : HM) : Upd l H H := fun _ _ _ e => e
theorem Upd.new {l : List Addr} {H H' : HM} {a : Addr} {o : AO} (h : H' a = none) (u : Upd l H H') : Upd l H (H'.set a o) := fun b x hb e => by
  rw [HM.set_ne _ _ (HM.ne_of h (u b x hb e))]; exact u b x hb e
theorem Upd.at {l : List Addr} {H H' : HM} {a : Addr} {o : AO} (h : a ∈ l) (u : Upd l H H') : Upd l H (H'.set a o) := fun b x hb e => by
  rw [HM.set_ne _ _ (by rintro rfl; exact hb h)]; exact u b x hb e
theorem Upd.old {l : List Addr} {H H' : HM} {a : Addr} {o : AO} (h : H a = none) (u : Upd l H H') : Upd l H (H'.set a o) := fun b x hb e => by
  rw [HM.set_ne _ _ (HM.ne_of h e)]; exact u b x hb e
theorem Upd.del {l : List Addr} {H H' : HM} {a : Addr} (h : H a = none) (u : Upd l H H') : Upd l H (H'.del a) := fun b x hb e => by
  rw [HM.del_ne _ (HM.ne_of h e)]; exact u b x hb e
theorem Upd.trans {l : List Addr} {H H' H'' : HM} (u : Upd l H H') (v : Upd l H' H'') : Upd l H H'' := fun b x hb e => v b x hb (u b x hb e)
theorem Upd.cons {l : List Addr} {H H' : HM} {a : Addr} (u : Upd l H H') : Upd (a :: l) H H' := fun b x hb e => u b x (fun q => hb (List.mem_cons_of_mem _ q)) e
theorem Upd.none {l : List Addr} {H H' : HM} (u : Upd l H H') {a : Addr} (ha : a ∉ l) (h : H' a = none) : H a = none := by
  cases q : H a with
  | none => rfl
  | some o => rw [u a o ha q] at h; cases h
theorem Upd.le0 {H H' : HM} (u : Upd [] H H') : H.le H' := fun a o e => u a o (by simp) e
theorem Upd.le1 {H H' : HM} {a : Addr} {A : AO} (u : Upd [a] H H') (h : H' a = some A) : (H.set a A).le H' := fun b o e => by
  by_cases q : b = a
  · subst q; rw [HM.set_same] at e; rw [h]; exact e
  · rw [HM.set_ne _ _ q] at e; exact u b o (by simp [q]) e
theorem Upd.le2 {H H' : HM} {a b : Addr} {A B : AO} (u : Upd [a, b] H H') (h : H' a = some A) (h2 : H' b = some B) (hn : a ≠ b) : ((H.set a A).set b B).le H' := fun x o e => by
  by_cases q : x = b
  · subst q; rw [HM.set_same] at e; rw [h2]; exact e
  · rw [HM.set_ne _ _ q] at e
    by_cases q2 : x = a
    · subst q2; rw [HM.set_same] at e; rw [h]; exact e
    · rw [HM.set_ne _ _ q2] at e; exact u x o (by simp [q, q2]) e
theorem HM.delX {H : HM} {a b : Addr} {o : AO} (hn : b ≠ a) (h : H b = some o) : H.del a b = some o := by rw [HM.del_ne _ hn]; exact h
theorem C_reverseX {a : Addr} {Q : Value → HM → Prop} (vs : List Value) (hv : H a = some (.list vs)) (hl : vs.length ≤ 16000000) (h : Q .none (H.set a (.list vs.reverse))) : CallJ c (.builtin "list.reverse") [.ref a] [] m H Q X := C_reverse hv hl h
theorem C_joinX {a : Addr} {sep : List Nat} {Q : Value → HM → Prop} (ps : List (List Nat)) (hv : H a = some (.list (ps.map VT))) (hl : joinSize sep ps ≤ 16000000) (h : Q (VT (joinL sep ps)) H) : CallJ c (.builtin "str.join") [VT sep, .ref a] [] m H Q X := C_join hv rfl hl h
end

/-! ## what _wrap_chunks does -/
theorem vis_le (ts : List Tk) : vis ts ≤ (flatT ts).length := by
  unfold vis
  induction ts with
  | nil => exact Nat.le_refl _
  | cons t r ih =>
    rw [flatT_cons, List.length_append]
    cases t with
    | ch x => show (signs r).length + 1 ≤ _; simp [Tk.flat]; omega
    | es p => show (signs r).length ≤ _; omega
def restT (k : Int) (t : List Tk) : List Tk := t.drop (truncV k t).length
theorem trunc_rest (k : Int) (t : List Tk) : truncV k t ++ restT k t = t := by
  obtain ⟨z, hz⟩ := truncV_pre k t
  unfold restT
  have e : t.drop (truncV k t).length = z := by
    have := congrArg (List.drop (truncV k t).length) hz
    rw [this, List.drop_left]
  rw [e]; exact hz.symm
def blankT (t : List Tk) : Bool := decide (stripL Unicode.isSpace (flatT t) = [])
def dropB (more : Bool) : List (List Tk) → List (List Tk)
  | t :: r => if (blankT t && more) = true then r else t :: r
  | [] => []
def greedy (wd : Int) : Int → List (List Tk) → List (List Tk) → Int × List (List Tk) × List (List Tk)
  | cur, line, [] => (cur, line, [])
  | cur, line, t :: r => if cur + vis t ≤ wd then greedy wd (cur + vis t) (line ++ [t]) r else (cur, line, t :: r)
def cutLong (wd cur : Int) (line : List (List Tk)) : List (List Tk) → List (List Tk) × List (List Tk)
  | t :: r => if (vis t : Int) > wd then (line ++ [truncV (max (wd - cur) 1) t], restT (max (wd - cur) 1) t :: r) else (line, t :: r)
  | [] => (line, [])

def trimB (line : List (List Tk)) : List (List Tk) := match line.getLast? with
  | some t => if blankT t = true then line.dropLast else line
  | none => line
def lay1 (wd : Int) (more : Bool) (cs : List (List Tk)) : List (List Tk) × List (List Tk) :=
  let g := greedy wd 0 [] (dropB more cs)
  let q := cutLong wd g.1 g.2.1 g.2.2
  (trimB q.1, q.2)
def wrapF (w : Int) (fi fr : List Tk) : Nat → List (List Tk) → List (List Tk) → Option (List (List Tk))
  | _, [], ls => some ls
  | 0, _ :: _, _ => none
  | k + 1, c :: cs, ls =>
    let ind := if ls = [] then fi else fr
    let q := lay1 (w - vis ind) (!ls.isEmpty) (c :: cs)
    wrapF w fi fr k q.2 (if q.1 = [] then ls else ls ++ [ind ++ q.1.flatten])

structure Sized (cs : List (List Tk)) : Prop where
  ok : ∀ t ∈ cs, okT t
  fl : (flatT cs.flatten).length ≤ 100000
  ln : cs.length ≤ 100000
theorem Sized.head {t : List Tk} {cs : List (List Tk)} (h : Sized (t :: cs)) : okT t ∧ (flatT t).length ≤ 100000 ∧ Sized cs := by
  have := h.fl
  rw [List.flatten_cons, flatT_append, List.length_append] at this
  exact ⟨h.ok _ List.mem_cons_self, by omega, fun x hx => h.ok x (List.mem_cons_of_mem _ hx), by omega, Nat.le_of_succ_le h.ln⟩
/-- a line on its way: it may be one longer -/
structure LineOk (line : List (List Tk)) : Prop where
  ok : ∀ t ∈ line, okT t
  fl : (flatT line.flatten).length ≤ 100000
  ln : line.length ≤ 100001
theorem cut_sized {wd cur : Int} {line cs : List (List Tk)} (h : Sized (line ++ cs)) : LineOk (cutLong wd cur line cs).1 ∧ Sized (cutLong wd cur line cs).2 := by
  have hf := h.fl
  have hl := h.ln
  rw [List.flatten_append, flatT_append, List.length_append] at hf
  rw [List.length_append] at hl
  have base : LineOk line ∧ Sized cs := ⟨⟨fun t ht => h.ok t (List.mem_append_left _ ht), by omega, by omega⟩, ⟨fun t ht => h.ok t (List.mem_append_right _ ht), by omega, by omega⟩⟩
  cases cs with
  | nil => exact base
  | cons t r =>
    have ec : cutLong wd cur line (t :: r) = if (vis t : Int) > wd then (line ++ [truncV (max (wd - cur) 1) t], restT (max (wd - cur) 1) t :: r) else (line, t :: r) := rfl
    rw [ec]
    split
    · have e := trunc_rest (max (wd - cur) 1) t
      have okt := h.ok t (by simp)
      rw [← e, okT_append] at okt
      rw [List.flatten_cons, flatT_append, List.length_append] at hf
      have e2 := congrArg (fun z => (flatT z).length) e
      simp only [flatT_append, List.length_append] at e2
      refine ⟨⟨fun x hx => ?_, ?_, ?_⟩, ⟨fun x hx => ?_, ?_, ?_⟩⟩
      · rcases List.mem_append.mp hx with hx | hx
        · exact base.1.ok x hx
        · rw [List.mem_singleton.mp hx]; exact okt.1
      · rw [List.flatten_append, flatT_append, List.length_append]; simp; omega
      · rw [List.length_append]; simp; omega
      · rcases List.mem_cons.mp hx with rfl | hx
        · exact okt.2
        · exact base.2.ok x (List.mem_cons_of_mem _ hx)
      · rw [List.flatten_cons, flatT_append, List.length_append]; omega
      · have := base.2.ln; simpa using this
    · exact base
theorem trimB_snoc (line : List (List Tk)) (t : List Tk) : trimB (line ++ [t]) = if blankT t = true then line else line ++ [t] := by
  unfold trimB
  simp
theorem trim_ok {line : List (List Tk)} (h : LineOk line) : LineOk (trimB line) := by
  rcases List.eq_nil_or_concat line with rfl | ⟨l, t, rfl⟩
  · exact h
  · rw [List.concat_eq_append, trimB_snoc]
    split
    · rw [List.concat_eq_append] at h
      have := h.fl
      have h2 := h.ln
      rw [List.flatten_append, flatT_append, List.length_append] at this
      rw [List.length_append] at h2
      exact ⟨fun x hx => h.ok x (List.mem_append_left _ hx), by omega, by omega⟩
    · rw [List.concat_eq_append] at h; exact h
theorem flatT_flatten (line : List (List Tk)) : (line.map flatT).flatten = flatT line.flatten := by
  induction line with
  | nil => rfl
  | cons x r ih => rw [List.map_cons, List.flatten_cons, ih, List.flatten_cons, flatT_append]
end Mine
end

section
open PySem PySem.W PySem.Calls PyProof.Rows PySem.Builtin PySem.Builtin.Str
set_option linter.all false
set_option maxRecDepth 100000
namespace Mine
section
variable {c : FC} {K : Frag} {n : Nat} {m : LM} {H F : HM} {X : XM} {s : Shared}
/-! ## f'{a}{b}' of two texts -/
def Fmt1 (c : FC) (e2 : Expr) (m : LM) (Q : Value → HM → Prop) (X : XM) (v : Value) (H1 : HM) : Prop :=
  ∃ x, v = VT x ∧ x.length ≤ 16000000 ∧ Ev c e2 m H1 (fun v2 H2 => ∃ y, v2 = VT y ∧ x.length + y.length ≤ 16000000 ∧ Q (VT (x ++ y)) H2) X
theorem Ev.fstr2 {e1 e2 : Expr} {p1 p2 p : Pos} {Q : Value → HM → Prop} (h : Ev c e1 m H (Fmt1 c e2 m Q X) X) : Ev c (.JoinedStr [.FormattedValue e1 (-1) none p1, .FormattedValue e2 (-1) none p2] p) m H Q X := fun G s SS => by
  refine JoinedStr_many (joinParts_cons (FormattedValue_plain (wpAny_mono (h G s SS) (fun V s1 ⟨H1, S1, x, ev, hx, h2⟩ => ?_) fun _ _ e => e)))
  obtain ⟨t, rfl⟩ := er_str ev
  refine formatField_str (fun t' tk => ?_) (S_fits hx)
  refine ⟨?_, joinParts_cons (FormattedValue_plain (wpAny_mono (h2 G _ (S1.toks tk)) (fun W s2 ⟨H2, S2, y, ew, hy, q⟩ => ?_) fun _ _ e => e))⟩
  · rw [show Str.empty = S [] from rfl, S_append]; exact S_fits (by simpa using hx)
  · obtain ⟨u, rfl⟩ := er_str ew
    refine formatField_str (fun t' tk => ?_) (S_fits (by omega))
    rw [show Str.empty = S [] from rfl, S_append]
    show (S ([] ++ x) ++ S y).length ≤ sizeLine ∧ wpAny _ _ (joinParts (S ([] ++ x) ++ S y) []) _ _ _
    rw [S_append]
    have hz : (S ([] ++ x ++ y)).length ≤ sizeLine := S_fits (by simpa using hy)
    exact ⟨hz, joinParts_nil ⟨H2, (S2.toks _).toks _, q⟩ hz⟩
/-! ## two names at once -/
theorem StoreJ.mono {x : Str} {v : Value} {Q Q' : LM → HM → Prop} (h : StoreJ c x v m H Q X) (hq : ∀ m' H', Q m' H' → Q' m' H') : StoreJ c x v m H Q' X := fun V e => Nw.mono (h V e) hq fun _ _ _ e => e
theorem Tgt.two {x y : Str} {k : Nat} {p1 p2 p : Pos} {a : Addr} {Q : LM → HM → Prop} (u v : Value) (hh : c.A.handled = none) (hv : H a = some (.tup [u, v])) (h : StoreJ c x u m H (fun m1 H1 => StoreJ c y v m1 H1 Q X) X) : Tgt c (.Tuple [.Name x p1, .Name y p2] k p) (.ref a) m H Q X :=
  Tgt.tuple hh hv rfl rfl (InOrd.cons (Tgt.name (StoreJ.mono h fun m1 H1 h1 => InOrd.cons (Tgt.name (StoreJ.mono h1 fun _ _ q => InOrd.nil q)))))
theorem Tgt.three {x y z : Str} {k : Nat} {p1 p2 p3 p : Pos} {a : Addr} {Q : LM → HM → Prop} (u v w : Value) (hh : c.A.handled = none) (hv : H a = some (.tup [u, v, w])) (h : StoreJ c x u m H (fun m1 H1 => StoreJ c y v m1 H1 (fun m2 H2 => StoreJ c z w m2 H2 Q X) X) X) : Tgt c (.Tuple [.Name x p1, .Name y p2, .Name z p3] k p) (.ref a) m H Q X :=
  Tgt.tuple hh hv rfl rfl (InOrd.cons (Tgt.name (StoreJ.mono h fun m1 H1 h1 => InOrd.cons (Tgt.name (StoreJ.mono h1 fun m2 H2 h2 => InOrd.cons (Tgt.name (StoreJ.mono h2 fun _ _ q => InOrd.nil q)))))))
end

theorem linesG_len : ∀ (l cur : List Nat), (linesG l cur).length ≤ l.length + 1 ∧ (∀ y ∈ linesG l cur, y.length ≤ cur.length + l.length)
  | [], cur => by
    unfold linesG; split
    · exact ⟨by simp, fun y h => by cases h⟩
    · exact ⟨by simp, fun y h => by rw [List.mem_singleton.mp h]; simp⟩
  | c :: r, cur => by
    unfold linesG; split
    · have ih := linesG_len r []
      refine ⟨by simp; exact ih.1, fun y h => ?_⟩
      rcases List.mem_cons.mp h with rfl | h
      · simp
      · have := ih.2 y h; simp at this ⊢; omega
    · have ih := linesG_len r (cur ++ [c])
      refine ⟨by simp; omega, fun y h => ?_⟩
      have := ih.2 y h; simp at this ⊢; omega
theorem linesL_len (l : List Nat) : (linesL l).length ≤ l.length + 1 := (linesG_len l []).1
theorem linesL_mem {l y : List Nat} (h : y ∈ linesL l) : y.length ≤ l.length := by have := (linesG_len l []).2 y h; simpa using this
end Mine
end

section
open PySem PySem.W PySem.Calls PyProof.Rows PySem.Builtin PySem.Builtin.Str
set_option linter.all false
set_option maxRecDepth 100000
namespace Mine
/-! ## lines and paragraphs, by tokens (what wrap_text does before it lays them) -/
def linesTG : List Tk → List Tk → List (List Tk)
  | [], cur => if cur = [] then [] else [cur]
  | .ch x :: r, cur => if Unicode.isLineBreak x = true then cur :: linesTG r [] else linesTG r (cur ++ [.ch x])
  | .es p :: r, cur => linesTG r (cur ++ [.es p])
def linesT (ts : List Tk) : List (List Tk) := linesTG ts []
theorem linesG_run : ∀ (l r cur : List Nat), (∀ x ∈ l, Unicode.isLineBreak x = false) → linesG (l ++ r) cur = linesG r (cur ++ l)
  | [], r, cur, _ => by simp
  | x :: l, r, cur, h => by
    rw [List.cons_append]
    conv => lhs; unfold linesG
    rw [h x List.mem_cons_self, if_neg Bool.false_ne_true, linesG_run l r _ fun y hy => h y (List.mem_cons_of_mem _ hy)]
    simp
theorem noBreak : ∀ x : Nat, 48 ≤ x → x ≤ 59 → Unicode.isLineBreak x = false := by
  intro x h1 h2
  have : x = 48 ∨ x = 49 ∨ x = 50 ∨ x = 51 ∨ x = 52 ∨ x = 53 ∨ x = 54 ∨ x = 55 ∨ x = 56 ∨ x = 57 ∨ x = 58 ∨ x = 59 := by omega
  rcases this with rfl | rfl | rfl | rfl | rfl | rfl | rfl | rfl | rfl | rfl | rfl | rfl <;> decide +kernel
theorem linesTG_flat : ∀ (ts cur : List Tk), okT ts → (linesTG ts cur).map flatT = linesG (flatT ts) (flatT cur)
  | [], cur, _ => by
    unfold linesTG
    by_cases h : cur = []
    · subst h; rfl
    · rw [if_neg h]
      have : flatT cur ≠ [] := fun e => h (flatT_eq_nil (by rw [e]; rfl))
      show [flatT cur] = linesG [] (flatT cur)
      unfold linesG; rw [if_neg this]
  | .ch x :: r, cur, h => by
    rw [okT_cons] at h
    rw [flatT_cons]
    show (linesTG (.ch x :: r) cur).map flatT = linesG (x :: flatT r) (flatT cur)
    unfold linesTG linesG
    split
    · rw [List.map_cons, linesTG_flat r [] h.2]; rfl
    · rw [linesTG_flat r _ h.2, flatT_append]; rfl
  | .es p :: r, cur, h => by
    rw [okT_cons] at h
    rw [flatT_cons]
    unfold linesTG
    rw [linesTG_flat r _ h.2, flatT_append, linesG_run]
    · simp [flatT]
    · intro x hx
      have hx : x ∈ 27 :: 91 :: (p ++ [109]) := hx
      simp only [List.mem_cons, List.mem_append, List.not_mem_nil, or_false] at hx
      rcases hx with rfl | rfl | hx | rfl
      · decide +kernel
      · decide +kernel
      · have := h.1 x hx; exact noBreak x this.1 this.2
      · decide +kernel
theorem linesT_flat {ts : List Tk} (h : okT ts) : (linesT ts).map flatT = linesL (flatT ts) := linesTG_flat ts [] h
theorem linesT_ok {ts : List Tk} (h : okT ts) : ∀ l ∈ linesT ts, okT l := by
  have go : ∀ (ts cur : List Tk), okT ts → okT cur → ∀ l ∈ linesTG ts cur, okT l := by
    intro ts
    induction ts with
    | nil =>
      intro cur _ hc l hl
      unfold linesTG at hl
      split at hl
      · cases hl
      · rw [List.mem_singleton.mp hl]; exact hc
    | cons t r ih =>
      intro cur h hc l hl
      rw [okT_cons] at h
      have hc' : okT (cur ++ [t]) := okT_append.mpr ⟨hc, fun y hy => by rw [List.mem_singleton.mp hy]; exact h.1⟩
      cases t with
      | ch x =>
        unfold linesTG at hl
        split at hl
        · rcases List.mem_cons.mp hl with rfl | hl
          · exact hc
          · exact ih [] h.2 (fun _ z => by cases z) l hl
        · exact ih _ h.2 hc' l hl
      | es p =>
        unfold linesTG at hl
        exact ih _ h.2 hc' l hl
  exact go ts [] h fun _ z => by cases z
end Mine
end

section
open PySem PySem.W PySem.Calls PyProof.Rows PySem.Builtin PySem.Builtin.Str
set_option linter.all false
set_option maxRecDepth 100000
namespace Mine
/-! ## paragraphs, by tokens -/
def lstripT : List Tk → List Tk
  | .ch x :: r => if Unicode.isSpace x = true then lstripT r else .ch x :: r
  | .es p :: r => .es p :: r
  | [] => []
theorem sp27 : Unicode.isSpace 27 = false := by decide +kernel
theorem lstripT_flat : ∀ ts : List Tk, flatT (lstripT ts) = lstripL Unicode.isSpace (flatT ts)
  | [] => rfl
  | .ch x :: r => by
    unfold lstripT
    rw [flatT_cons]
    show _ = lstripL Unicode.isSpace (x :: flatT r)
    unfold lstripL
    rw [List.dropWhile_cons]
    split
    · rw [lstripT_flat r]; rfl
    · rfl
  | .es p :: r => by
    unfold lstripT
    rw [flatT_cons]
    show _ = lstripL Unicode.isSpace (27 :: (91 :: (p ++ [109]) ++ flatT r))
    unfold lstripL
    rw [List.dropWhile_cons, sp27]; rfl
theorem lstripT_suf : ∀ ts : List Tk, ∃ z, ts = z ++ lstripT ts
  | [] => ⟨[], rfl⟩
  | .ch x :: r => by
    unfold lstripT
    split
    · obtain ⟨z, hz⟩ := lstripT_suf r
      exact ⟨.ch x :: z, by rw [List.cons_append, ← hz]⟩
    · exact ⟨[], rfl⟩
  | .es p :: r => ⟨[], rfl⟩
theorem lstripT_ok {ts : List Tk} (h : okT ts) : okT (lstripT ts) := by
  obtain ⟨z, hz⟩ := lstripT_suf ts
  rw [hz, okT_append] at h; exact h.2
theorem lstripT_len (ts : List Tk) : (flatT (lstripT ts)).length ≤ (flatT ts).length := by
  obtain ⟨z, hz⟩ := lstripT_suf ts
  conv => rhs; rw [hz]
  rw [flatT_append, List.length_append]; omega
theorem lstripT_vis (ts : List Tk) : vis (lstripT ts) ≤ vis ts := by
  obtain ⟨z, hz⟩ := lstripT_suf ts
  conv => rhs; rw [hz]
  unfold vis
  rw [signs_append, List.length_append]; omega
def joinTk (x : Nat) : List (List Tk) → List Tk
  | [] => []
  | [l] => l
  | l :: l2 :: r => l ++ .ch x :: joinTk x (l2 :: r)
theorem joinTk_flat (x : Nat) : ∀ ls : List (List Tk), flatT (joinTk x ls) = joinL [x] (ls.map flatT)
  | [] => rfl
  | [l] => rfl
  | l :: l2 :: r => by
    unfold joinTk
    rw [flatT_append, flatT_cons, joinTk_flat x (l2 :: r)]
    show flatT l ++ ([x] ++ _) = flatT l ++ [x] ++ _
    simp
theorem joinTk_ok {x : Nat} (hx : (Tk.ch x).ok) : ∀ {ls : List (List Tk)}, (∀ l ∈ ls, okT l) → okT (joinTk x ls)
  | [], _ => fun _ h => by cases h
  | [l], h => h l (by simp)
  | l :: l2 :: r, h => by
    unfold joinTk
    exact okT_append.mpr ⟨h l (by simp), okT_cons.mpr ⟨hx, joinTk_ok hx fun y hy => h y (List.mem_cons_of_mem _ hy)⟩⟩
abbrev Par := Nat × Bool × List Tk
def flushP (ind : Nat) : List (List Tk) → List Par
  | [] => []
  | b :: r => [(ind, stripL Unicode.isSpace (flatT b) == [8], if stripL Unicode.isSpace (flatT b) = [8] then joinTk 10 r else joinTk 32 (b :: r))]
def parsGo : List (List Tk) → Nat → List (List Tk) → List Par
  | [], ind, buf => flushP ind buf
  | l :: r, ind, buf => if l = [] then flushP ind buf ++ parsGo r 0 [] else if buf = [] then parsGo r (vis l - vis (lstripT l)) [lstripT l] else parsGo r ind (buf ++ [l])
def parsT (ts : List Tk) : List Par := parsGo (linesT ts) 0 []
def szL (ls : List (List Tk)) : Nat := (ls.map fun l => (flatT l).length + 1).sum
theorem szL_cons (l : List Tk) (ls : List (List Tk)) : szL (l :: ls) = (flatT l).length + 1 + szL ls := by simp [szL]
theorem szL_append (a b : List (List Tk)) : szL (a ++ b) = szL a + szL b := by simp [szL]
theorem szL_len : ∀ ls : List (List Tk), ls.length ≤ szL ls
  | [] => Nat.zero_le _
  | l :: r => by rw [szL_cons, List.length_cons]; have := szL_len r; omega
theorem szL_mem {ls : List (List Tk)} {l : List Tk} (h : l ∈ ls) : (flatT l).length ≤ szL ls := by
  induction ls with
  | nil => cases h
  | cons a r ih =>
    rw [szL_cons]
    rcases List.mem_cons.mp h with rfl | h
    · omega
    · have := ih h; omega
theorem szL_join (x : Nat) (ls : List (List Tk)) : joinSize [x] (ls.map flatT) = szL ls := by
  unfold joinSize szL
  rw [List.map_map]; rfl
theorem szL_linesTG : ∀ (ts cur : List Tk), szL (linesTG ts cur) ≤ (flatT cur).length + (flatT ts).length + 1
  | [], cur => by
    unfold linesTG; split
    · simp [szL]
    · rw [szL_cons]; simp [szL]
  | .ch x :: r, cur => by
    unfold linesTG
    rw [flatT_cons, List.length_append]
    have hx : (Tk.ch x).flat.length = 1 := rfl
    split
    · rw [szL_cons]
      have := szL_linesTG r []
      rw [flatT_nil, List.length_nil] at this; omega
    · have := szL_linesTG r (cur ++ [.ch x])
      rw [flatT_append, List.length_append] at this
      have h2 : (flatT [Tk.ch x]).length = 1 := rfl
      omega
  | .es p :: r, cur => by
    unfold linesTG
    rw [flatT_cons, List.length_append]
    have := szL_linesTG r (cur ++ [.es p])
    rw [flatT_append, List.length_append] at this
    have h2 : (flatT [Tk.es p]).length = (Tk.es p).flat.length := by simp [flatT]
    omega
theorem szL_lines (ts : List Tk) : szL (linesT ts) ≤ (flatT ts).length + 1 := by
  have := szL_linesTG ts []
  rw [flatT_nil, List.length_nil] at this; unfold linesT; omega
theorem ok10 : (Tk.ch 10).ok := ⟨by decide, by decide, by decide, by decide⟩
theorem ok32 : (Tk.ch 32).ok := ⟨by decide, by decide, by decide, by decide⟩
theorem flushP_ok {B : Nat} {ind : Nat} {buf : List (List Tk)} (h : ∀ l ∈ buf, okT l) (hi : ind ≤ B) (hs : szL buf ≤ B) : ∀ q ∈ flushP ind buf, q.1 ≤ B ∧ okT q.2.2 ∧ (flatT q.2.2).length ≤ B := by
  cases buf with
  | nil => exact fun q hq => by cases hq
  | cons b r =>
    intro q hq
    obtain rfl := List.mem_singleton.mp hq
    refine ⟨hi, ?_, ?_⟩
    · show okT (if _ then _ else _)
      split
      · exact joinTk_ok ok10 fun l hl => h l (List.mem_cons_of_mem _ hl)
      · exact joinTk_ok ok32 h
    · show (flatT (if _ then _ else _)).length ≤ _
      split
      · rw [joinTk_flat]
        have := joinL_length [10] (r.map flatT)
        rw [szL_join] at this
        rw [szL_cons] at hs; omega
      · rw [joinTk_flat]
        have := joinL_length [32] ((b :: r).map flatT)
        rw [szL_join] at this; omega
theorem parsGo_ok {B : Nat} : ∀ (ls : List (List Tk)) (ind : Nat) (buf : List (List Tk)), (∀ l ∈ buf, okT l) → (∀ l ∈ ls, okT l) → ind ≤ B → szL buf + szL ls ≤ B → ∀ q ∈ parsGo ls ind buf, q.1 ≤ B ∧ okT q.2.2 ∧ (flatT q.2.2).length ≤ B
  | [], ind, buf, h1, h2, h3, h4 => flushP_ok h1 h3 (by omega)
  | l :: r, ind, buf, h1, h2, h3, h4 => by
    unfold parsGo
    rw [szL_cons] at h4
    have hr : ∀ x ∈ r, okT x := fun x hx => h2 x (List.mem_cons_of_mem _ hx)
    split
    · intro q hq
      rcases List.mem_append.mp hq with hq | hq
      · exact flushP_ok h1 h3 (by omega) q hq
      · exact parsGo_ok r 0 [] (fun _ h => by cases h) hr (by omega) (by simp [szL] at *; omega) q hq
    · split
      · have := vis_le l
        have h5 := lstripT_len l
        refine parsGo_ok r _ _ (fun x hx => by rw [List.mem_singleton.mp hx]; exact lstripT_ok (h2 l List.mem_cons_self)) hr (by omega) ?_
        rw [szL_cons]; simp [szL] at *; omega
      · refine parsGo_ok r _ _ (fun x hx => ?_) hr h3 ?_
        · rcases List.mem_append.mp hx with hx | hx
          · exact h1 x hx
          · rw [List.mem_singleton.mp hx]; exact h2 l List.mem_cons_self
        · rw [szL_append, szL_cons]; simp [szL] at *; omega
theorem parsT_ok {ts : List Tk} (h : okT ts) : ∀ q ∈ parsT ts, q.1 ≤ (flatT ts).length + 1 ∧ okT q.2.2 ∧ (flatT q.2.2).length ≤ (flatT ts).length + 1 :=
  parsGo_ok _ 0 [] (fun _ h => by cases h) (linesT_ok h) (by omega) (by have := szL_lines ts; simp [szL] at *; omega)
end Mine
end

section
open PySem PySem.W PySem.Calls PyProof.Rows PySem.Builtin PySem.Builtin.Str
set_option linter.all false
set_option maxRecDepth 100000
namespace Mine
section
variable {c : FC} {K : Frag} {n : Nat} {m : LM} {H F : HM} {X : XM} {s : Shared}
/-! ## calls with keywords -/
def KVals (c : FC) (kws : List Keyword) (m : LM) (H : HM) (Q : List Value → HM → Prop) (X : XM) : Prop :=
  ∀ pos, Lw c (evalAll ((backToKw pos (keywordEach kws c.env)).map (·.2))) m H Q X
theorem KVals.nil {Q : List Value → HM → Prop} (h : Q [] H) : KVals c [] m H Q X := fun pos G s S => kws_nil ⟨H, S, h⟩
theorem KVals.cons {name : Str} {value : Expr} {kp : Pos} {rest : List Keyword} {Q : List Value → HM → Prop} (h : Ev c value m H (fun v H1 => KVals c rest m H1 (fun vs H2 => Q (v :: vs) H2) X) X) : KVals c (⟨some name, value, kp⟩ :: rest) m H Q X := fun pos G s S =>
  kws_cons (wpAny_mono (h G s S) (fun v s1 ⟨H1, S1, h1⟩ => wpAny_mono (h1 pos G s1 S1) (fun vs s2 ⟨H2, S2, q⟩ => ⟨H2, S2, q⟩) fun _ _ e => e) fun _ _ e => e)
def CallKW (c : FC) (f : Value) (as : List Value) (ks : List (Str × Value)) (m : LM) (H : HM) (Q : Value → HM → Prop) (X : XM) : Prop := Kp c f H ∧ CallJ c f as ks m H Q X
theorem CallKW.k {f : Addr} {as : List Value} {ks : List (Str × Value)} {Q : Value → HM → Prop} (O : Ok c K n) (hk : keepIn K (.ref f) = true) (h : CallJ c (.ref f) as ks m H Q X) : CallKW c (.ref f) as ks m H Q X := ⟨Kp.k O hk, h⟩
theorem zip_er : ∀ (names : List Str) (kvs : List Value), (names.zip kvs).map (fun p => (p.1, er p.2)) = names.zip (kvs.map er)
  | [], _ => rfl
  | _ :: _, [] => rfl
  | x :: r, v :: vs => by rw [List.zip_cons_cons, List.map_cons, zip_er r vs, List.map_cons, List.zip_cons_cons]
theorem Ev.callKW {fe e rest kws pos} {Q : Value → HM → Prop} (names : List Str) (h : Ev c fe m H (fun f H1 => Vals c (e :: rest) m H1 (fun vs H2 => KVals c kws m H2 (fun ks H3 => CallKW c f vs (names.zip ks) m H3 Q X) X) X) X)
    (he : eval (.Call fe (e :: rest) kws pos) c.env = (do callWith pos (← eval fe c.env) [] (backTo pos (starEach (e :: rest) c.env)) (backToKw pos (keywordEach kws c.env))))
    (hs : starEach (e :: rest) c.env = (false, eval e c.env) :: starEach rest c.env) (hp : ((backTo pos (starEach (e :: rest) c.env)).any (·.1) || (backToKw pos (keywordEach kws c.env)).any (·.1.isNone)) = false)
    (hn : (backToKw pos (keywordEach kws c.env)).filterMap (·.1) = names) (hall : (backToKw pos (keywordEach kws c.env)).all (·.1.isSome) = true) : Ev c (.Call fe (e :: rest) kws pos) m H Q X := fun F s St' => by
  rw [he]
  refine wpAny_bind (wpAny_mono (h F s St') (fun V s1 ⟨H1, S1, hv⟩ => ?_) fun _ _ e => e)
  have hv' := hv pos F s1 S1
  refine callWith_of (P := fun h => ∃ k, (k = Keeper.frame ∨ k = Keeper.machine ∨ k = Keeper.boundFrame) ∧ Looks (model c.prog c.w) h (keeperOf V) k) hp (fun _ x => x) (evalArgs_kw2 hall ?_ hs)
  refine wpAny_mono hv' (fun Vs s2 ⟨H2, S2, hk⟩ => wpAny_mono (hk pos F s2 S2) (fun Ks s3 ⟨H3, S3, kp, hc⟩ => ⟨kp F s3 m S3 V rfl, ?_⟩) fun _ _ e => e) fun _ _ e => e
  rw [hn]
  exact hc V Vs _ rfl rfl (zip_er names Ks) F s3 S3
theorem CallKW.kX {f : Addr} {as : List Value} {ks : List (Str × Value)} {Q : Value → HM → Prop} (K : Frag) (n : Nat) (O : Ok c K n) (hk : keepIn K (.ref f) = true) (h : CallJ c (.ref f) as ks m H Q X) : CallKW c (.ref f) as ks m H Q X := .k O hk h
end
end Mine
end

section
open PySem PySem.W PySem.Calls PyProof.Rows PySem.Builtin PySem.Builtin.Str
set_option linter.all false
set_option maxRecDepth 100000
namespace Mine
section
variable {c : FC} {K : Frag} {n : Nat} {m : LM} {H F : HM} {X : XM} {s : Shared}
theorem St.addH (S : St c m H F s) {a : Addr} {o : Obj} {ao : AO} (hF : F a = none) (h1 : a ≠ c.env.locals) (h2 : c.s₀.heap.get? a = none) (h3 : s.heap.get? a = some o) (hi : ao.Is o) : St c m (H.set a ao) F s :=
  ⟨S.same, S.base, S.ns, S.lb, fun b => by
    by_cases q : b = a
    · subst q; exact .inr hF
    · rw [HM.set_ne _ _ q]; exact S.dj b, fun b bo e => by
    by_cases q : b = a
    · subst q; rw [HM.set_same] at e; cases e; exact ⟨h1, h2, o, h3, hi⟩
    · rw [HM.set_ne _ _ q] at e; exact S.hp b bo e, S.fp⟩
theorem HM.del_set' (H : HM) (a : Addr) (o : AO) : (H.del a).set a o = H.set a o := by
  funext b; simp only [HM.set, HM.del]; split <;> rfl

/-- a def in a function: its code is made, and laid into the table of the code around -/
theorem Ex.defNew {p : Program} {loose : List Str} {mean : ExcName → Option Value} {mg mb : Str → Option Value} {name : Str} {params : Arguments} {body : List Stmt} {scope : Scope} {pos : Pos} {P cc : Addr} {ps : Array Value} {clos : List (Str × Addr)} {Q : Flow → LM → HM → Prop}
    (T : Top p loose mean mg mb c.s₀.heap) (C : CodeHd c.s₀.heap cc P) (hg0 : c.env.globals = mainGlobals) (hcode : c.env.code = .ref cc) (hcl : closureFor scope c.env = pure clos) (hd0 : params.defaults = []) (hk0 : params.kw_defaults = []) (ha : annTrees params none c.env = [])
    (hP : H P = some (.raw (tabObj ps))) (ht : TriplesOk ps.toList) (hnf : codeAmong pos ps.toList = none)
    (h : ∀ f c' oc ctv doc, H f = none → H c' = none → f ≠ c' → (∃ vs t, oc.data = .fields vs ∧ vs[1]? = some (.str (qualnameIn c.env name name) t)) →
      StoreJ c name (.ref f) m (((H.set P (.raw (tabObj (ps ++ #[rawInt pos.line, rawInt pos.col, .ref c'])))).set c' (.raw oc)).set f (.raw (fnMade name (qualnameIn c.env name name) params body scope clos doc ((mg "__name__").getD .none) c' ctv))) (fun m2 H2 => Q .next m2 H2) X) :
    Ex c (.FunctionDef name params body [] none [] scope none name pos) m H Q X := fun G s S => by
  obtain ⟨nPL, nP0, xP, gP, eP⟩ := S.hp _ _ hP
  have eP : xP = tabObj ps := eP
  subst eP
  have hgs := T.g.keeps S.base
  obtain ⟨bm, ob, b1, b2, b3, b4, b5, b6⟩ := T.bmain
  have hgP : mainGlobals ≠ P := fun q => by
    obtain ⟨o, es, ep, e, hd, _⟩ := T.g
    rw [q, nP0] at e; cases e
  have hbP : bm ≠ P := fun q => by rw [q, nP0] at b3; cases b3
  have hbG : bm ≠ mainGlobals := fun q => by
    obtain ⟨o, es, ep, e, hd, _⟩ := T.g
    rw [q, e] at b3; cases b3; rw [hd] at b6; cases b6
  refine nestDef_K hd0 hk0 ha (makeFunction_K (mg := mg) hcl hg0 hgs hcode (C.keeps S.base) gP ht hnf hgP ⟨bm, ob, b1, b2, hbG, hbP, S.base _ _ b3, b4, b5, b6⟩ fun c' ctv doc h' tk hx hge hlt hrec htb => ?_)
  obtain ⟨c2, oc, vs, t, e2, hoc, hd, hv⟩ := hrec
  cases e2
  have GP : G P = none := by
    rcases S.dj P with q | q
    · rw [hP] at q; cases q
    · exact q
  have a1 := S.above (k := c') hge
  have hsz : s.heap.objs.size ≤ h'.objs.size := Nat.le_of_lt (Nat.lt_of_le_of_lt hge hlt)
  have a2 := S.above (k := h'.objs.size) hsz
  have S1 : St c m (H.del P) G { s with heap := h', toks := tk } := (S.weak (HM.del_le H P)).keepsBut (wr := [P]) (fun b hb => by
    obtain rfl := List.mem_singleton.mp hb
    exact ⟨HM.del_same _ _, GP, nPL, nP0⟩) fun b o hb ho => hx b o (fun q => hb (List.mem_singleton.mpr q)) ho
  have S2 := S1.addH (ao := .raw _) GP nPL nP0 htb rfl
  have S3 := S2.addH (ao := .raw oc) a1.2.1 a1.2.2.1 a1.2.2.2 hoc rfl
  have S4 := S3.keeps' (h' := h'.push (fnMade name (qualnameIn c.env name name) params body scope clos doc ((mg "__name__").getD .none) c' ctv)) fun b o e => Heap.get?_push_of_some _ e
  have S5 := S4.addH (ao := .raw _) a2.2.1 a2.2.2.1 a2.2.2.2 (Heap.get?_push_size _ rfl) rfl
  rw [HM.del_set'] at S5
  exact wpAny_mono (h h'.objs.size c' oc ctv doc a2.1 a1.1 (Nat.ne_of_gt hlt) ⟨vs, t, hd, hv⟩ (.ref h'.objs.size) rfl G _ S5) (fun _ s2 ⟨m2, H2, S2, q⟩ => ⟨m2, H2, S2, q⟩) fun _ _ e => e

theorem Ex.defHit {p : Program} {loose : List Str} {mean : ExcName → Option Value} {mg mb : Str → Option Value} {name : Str} {params : Arguments} {body : List Stmt} {scope : Scope} {pos : Pos} {P cc c' : Addr} {ps : Array Value} {clos : List (Str × Addr)} {Q : Flow → LM → HM → Prop}
    (T : Top p loose mean mg mb c.s₀.heap) (C : CodeHd c.s₀.heap cc P) (hg0 : c.env.globals = mainGlobals) (hcode : c.env.code = .ref cc) (hcl : closureFor scope c.env = pure clos) (hd0 : params.defaults = []) (hk0 : params.kw_defaults = []) (ha : annTrees params none c.env = [])
    (hP : H P = some (.raw (tabObj ps))) (ht : TriplesOk ps.toList) (hnf : codeAmong pos ps.toList = some (.ref c'))
    (h : ∀ f ctv doc, H f = none →
      StoreJ c name (.ref f) m (H.set f (.raw (fnMade name (qualnameIn c.env name name) params body scope clos doc ((mg "__name__").getD .none) c' ctv))) (fun m2 H2 => Q .next m2 H2) X) :
    Ex c (.FunctionDef name params body [] none [] scope none name pos) m H Q X := fun G s S => by
  obtain ⟨nPL, nP0, xP, gP, eP⟩ := S.hp _ _ hP
  have eP : xP = tabObj ps := eP
  subst eP
  have hgs := T.g.keeps S.base
  obtain ⟨bm, ob, b1, b2, b3, b4, b5, b6⟩ := T.bmain
  have hbP : bm ≠ P := fun q => by rw [q, nP0] at b3; cases b3
  have hbG : bm ≠ mainGlobals := fun q => by
    obtain ⟨o, es, ep, e, hd, _⟩ := T.g
    rw [q, e] at b3; cases b3; rw [hd] at b6; cases b6
  refine nestDef_K hd0 hk0 ha (makeFunction_hit (mg := mg) hcl hg0 hgs hcode (C.keeps S.base) gP ht hnf ⟨bm, ob, b1, b2, hbG, hbP, S.base _ _ b3, b4, b5, b6⟩ fun ctv doc h' tk hk hsz => ?_)
  have a2 := S.above (k := h'.objs.size) hsz
  have S4 : St c m H G { s with heap := h'.push (fnMade name (qualnameIn c.env name name) params body scope clos doc ((mg "__name__").getD .none) c' ctv), toks := tk } := S.keeps fun b o e => Heap.get?_push_of_some _ (hk b o e)
  have S5 := S4.addH (ao := .raw _) a2.2.1 a2.2.2.1 a2.2.2.2 (Heap.get?_push_size _ rfl) rfl
  exact wpAny_mono (h h'.objs.size ctv doc a2.1 (.ref h'.objs.size) rfl G _ S5) (fun _ s2 ⟨m2, H2, S2, q⟩ => ⟨m2, H2, S2, q⟩) fun _ _ e => e

/-! ## a call of a function made in a function -/
def FC.clo (c : FC) (fd : FuncData) (L f : Addr) : FC := { c with A := c.A.deeper (callEnv fd L f), env := callEnv fd L f }
theorem Ok.clo (O : Ok c K (n + 1)) {fd : FuncData} (hk : fd.scope.kind = .function) (hg : fd.globals = mainGlobals) (hb : fd.builtins = builtinsNs) (L f : Addr) : Ok (c.clo fd L f) K n where
  X := O.X
  g := O.g
  b := O.b
  nl := O.nl
  kind := hk
  eg := hg
  eb := hb
  hh := O.hh
  dp := by have := O.dp; show c.A.depth + 1 + n < 900; omega
  un := by have := O.un; show c.A.units + 3 + 4 * n < 9000; omega
theorem CallJ.clo {f c' : Addr} {oc : Obj} {fd : FuncData} {body : List Stmt} {Q : Value → HM → Prop} (O : Ok c K (n + 1)) (hf : H f = some (.raw { cls := .type "function", data := .func fd })) (hc : H c' = some (.raw oc)) (hcd : fd.code = .ref c') (hcr : ∃ vs t, oc.data = .fields vs ∧ vs[1]? = some (.str fd.qualname t))
    (hbody : fd.body = .stmts body) (hbind : bindArgs fd ⟨[], []⟩ = pure []) (hcell : ∀ x ∈ fd.scope.names, x.2 ≠ .cell) (hco : fd.scope.isCoroutine = false) (hgen : fd.scope.isGenerator = false) (hk : fd.scope.kind = .function) (hg : fd.globals = mainGlobals) (hb : fd.builtins = builtinsNs)
    (h : ∀ L, (∀ k, L ≤ k → H k = none) → Ok (c.clo fd L f) K n → Exs (c.clo fd L f) body [] H (EndJ Q) XF) : CallJ c (.ref f) [] [] m H Q X := fun Fv Vs Ks e0 e1 e2 G s S => by
  obtain rfl := er_ref e0
  obtain rfl := kw0 e2
  obtain rfl : Vs = [] := by cases Vs with
    | nil => rfl
    | cons _ _ => cases e1
  obtain ⟨_, _, xf, gf, ef⟩ := S.hp _ _ hf
  obtain ⟨_, _, xc, gc, ec⟩ := S.hp _ _ hc
  have ef : xf = { cls := .type "function", data := .func fd } := ef
  have ec : xc = oc := ec
  subst ef ec
  obtain ⟨vs, t, hd, hv⟩ := hcr
  obtain ⟨oL, hL⟩ := S.frame
  refine wpAny_call (codeAny_call_def (fd := fd) (binds := []) (by have := O.dp; show c.A.depth < 1000; omega) gf rfl (O.nl.keeps S.base) (by rw [hcd]; exact ⟨c', xc, vs, t, rfl, gc, hd, hv⟩) hbody ?_ hcell (fun _ h => by cases h) (fun h₀ hns hkp => ?_) hco hgen hk)
  · exact .of_eq hbind
  · have S1 : St (c.clo fd s.heap.objs.size f) [] H (G.set c.env.locals (.raw oL)) { s with heap := h₀, toks := s.toks + 0 } :=
      S.other (c' := c.clo fd s.heap.objs.size f) rfl hL hkp (Nat.le_refl _) hns (fun y u hy => by cases hy) fun a ao e => .inl e
    refine wpAny_mono (h _ (fun k hk => (S.above hk).1) (O.clo hk hg hb _ _) _ _ S1) (fun fl s'' ⟨m', H', S', H'', hle, hq⟩ => ?_) fun _ _ z => z.elim
    exact ⟨H'', (S.home (c' := c.clo fd s.heap.objs.size f) rfl hL S').weak hle, by cases fl <;> exact hq⟩

/-! ## names in cells -/
theorem Ev.freeX {x p} {Q : Value → HM → Prop} (a : Addr) (v : Value) (hk : c.env.scope.kind = .function) (hl : c.env.kindOf x = some .free) (hc : c.env.cells.lookup x = some a) (hd : (x == ("__debug__" : Str)) = false) (hn : (x == ("__classdict__" : Str)) = false) (hv : H a = some (.cell (some v))) (h : Q v H) : Ev c (.Name x p) m H Q X := Ev.free hk hl hc hv h hd hn
theorem Ev.cellX {x p} {Q : Value → HM → Prop} (a : Addr) (v : Value) (hk : c.env.scope.kind = .function) (hl : c.env.kindOf x = some .cell) (hc : c.env.cells.lookup x = some a) (hd : (x == ("__debug__" : Str)) = false) (hv : H a = some (.cell (some v))) (h : Q v H) : Ev c (.Name x p) m H Q X := Ev.cell hk hl hc hv h hd
theorem StoreJ.cellX {x : Str} {v : Value} {Q : LM → HM → Prop} (a : Addr) (v₀ : Option Value) (hk : c.env.scope.kind = .function) (hl : c.env.kindOf x = some .cell) (hc : c.env.cells.lookup x = some a) (hv : H a = some (.cell v₀)) (h : Q m (H.set a (.cell (some v)))) : StoreJ c x v m H Q X := StoreJ.cell hk hl hc hv h
end
end Mine
end

section
open PySem PySem.W PySem.Calls PyProof.Rows PySem.Builtin PySem.Builtin.Str
set_option linter.all false
set_option maxRecDepth 100000
namespace Mine
section
variable {c : FC} {K : Frag} {n : Nat} {m : LM} {H F : HM} {X : XM} {s : Shared}
/-! ## a or b, a and b as values -/
theorem Ev.or2 {e1 e2 : Expr} {p : Pos} {Q : Value → HM → Prop} (h : Ev c e1 m H (fun v H1 => Tru c v m H1 (fun b H2 => if b = true then Q v H2 else Ev c e2 m H2 Q X) X) X) : Ev c (.BoolOp .Or [e1, e2] p) m H Q X := fun G s S =>
  BoolOp_or (wpAny_mono (h G s S) (fun v s1 ⟨H1, S1, h1⟩ => wpAny_mono (h1 v rfl G s1 S1) (fun b s2 ⟨H2, S2, h2⟩ => by
    cases b with
    | true => exact ⟨H2, S2, by simpa using h2⟩
    | false => exact BoolOp_one ((show Ev c e2 m H2 Q X from by simpa using h2) G s2 S2)) fun _ _ e => e) fun _ _ e => e)
theorem Ev.and2 {e1 e2 : Expr} {p : Pos} {Q : Value → HM → Prop} (h : Ev c e1 m H (fun v H1 => Tru c v m H1 (fun b H2 => if b = true then Ev c e2 m H2 Q X else Q v H2) X) X) : Ev c (.BoolOp .And [e1, e2] p) m H Q X := fun G s S =>
  BoolOp_and (wpAny_mono (h G s S) (fun v s1 ⟨H1, S1, h1⟩ => wpAny_mono (h1 v rfl G s1 S1) (fun b s2 ⟨H2, S2, h2⟩ => by
    cases b with
    | false => exact ⟨H2, S2, by simpa using h2⟩
    | true => exact BoolOp_one ((show Ev c e2 m H2 Q X from by simpa using h2) G s2 S2)) fun _ _ e => e) fun _ _ e => e)
end
end Mine
end

section
open PySem PySem.W PySem.Calls PyProof.Rows PySem.Builtin PySem.Builtin.Str
set_option linter.all false
set_option maxRecDepth 100000
namespace Mine
theorem selAll {items : Array Value} (sel : Value × Nat → Bool) (h : ∀ x, x.2 < items.size → sel x = true) : (items.toList.zipIdx.filterMap fun x => if sel x = true then none else some x.1) = [] := by
  rw [List.filterMap_eq_nil_iff]
  intro x hx
  have := List.mem_zipIdx hx
  rw [if_pos (h x (by simpa using this.2.1))]
theorem past_nil {f : Array Value → Array Value} {o : Obj} {items : Array Value} {n : Nat} (h : o.data = .seq items n) (hf : f items = #[]) : (Obj.mapSeq f o).data.pastItsLine = none := by
  obtain ⟨c, d, dt, sl⟩ := o
  have h : dt = .seq items n := h
  subst h
  show (Data.seq (f items) _).pastItsLine = none
  rw [hf]; rfl
theorem meets_del_all (l sl : Addr) (items : Array Value) (n : Nat) (hz : items.size ≤ sizeLine) :
    Meets (Builtin.«list.__delitem__» ⟨[.ref l, .ref sl], []⟩) (fun _ R s => (s.heap.get? l = some { cls := .type "list", dict := none, data := .seq items n, slots := #[] } ∧ s.heap.get? sl = some { cls := .type "slice", data := .fields #[.none, .none, .none] }) ∧
      ∀ f : Array Value → Array Value, f items = #[] → R (.ok (.ret .none)) { s with heap := s.heap.update l (Obj.mapSeq f) }) :=
  .of_wp fun prog w A R s h => by
    obtain ⟨hp, g, d, tk, os⟩ := s; obtain ⟨⟨hl, hs⟩, h⟩ := h
    wp_walk using wpAny_loadPart' hl
    rw [slice_no_index]
    refine wpAny_pure ?_
    simp only [Option.isNone_none, if_true]
    wp_walk using wpAny_loadPart' hl
    rw [past_nil (items := items) (n := n) rfl ?_]
    · refine wpAny_pure ?_
      wp_walk using wpAny_loadPart' hl
      refine ⟨_, rfl, h _ (congrArg List.toArray (selAll _ fun x hx => ?_))⟩
      show (decide ((0 : Int) ≤ (x.2 : Int)) && decide ((x.2 : Int) < (items.size : Int)) && (((x.2 : Int) - 0) % 1 == 0)) = true
      simp; omega
    · refine congrArg List.toArray (selAll _ fun x hx => ?_)
      show (decide ((0 : Int) ≤ (x.2 : Int)) && decide ((x.2 : Int) < (items.size : Int)) && (((x.2 : Int) - 0) % 1 == 0)) = true
      simp; omega

section
variable {c : FC} {K : Frag} {n : Nat} {m : LM} {H F : HM} {X : XM} {s : Shared}
def DelAll (Q : Flow → LM → HM → Prop) (m : LM) (v : Value) (H : HM) : Prop := ∃ a vs, v = .ref a ∧ H a = some (.list vs) ∧ vs.length ≤ 16000000 ∧ Q .next m (H.set a (.list []))
/-- del l[:] -/
theorem Ex.delAll {o : Expr} {sp dp p : Pos} {Q : Flow → LM → HM → Prop} (h : Ev c o m H (DelAll Q m) X) : Ex c (.Delete [.Subscript o (.Slice none none none sp) dp] p) m H Q X := fun G s St' => by
  refine wpAny_Delete (wpAny_deleteEach_cons (wpAny_delete_Subscript (wpAny_mono (h G s St') (fun O s1 ⟨H1, S1, a, vs, e1, hv, hl, hq⟩ => ?_) fun _ _ e => e)))
  obtain rfl := er_ref e1
  obtain ⟨ws, k, ew, hg⟩ := S1.list hv
  rw [eval_Slice3]
  refine wpAny_bind (wpAny_pure (wpAny_bind (wpAny_holding (wpAny_pure (wpAny_bind (wpAny_holding (wpAny_pure ?_)))))))
  refine wpAny_newObj_type ?_ (by size_fits)
  have S4 := S1.keeps' (h' := s1.heap.push { cls := .type "slice", data := .fields #[.none, .none, .none] }) fun b o e => Heap.get?_push_of_some _ e
  have hg' := Heap.get?_push_of_some { cls := .type "slice", data := .fields #[.none, .none, .none] } hg
  have hz : ws.toArray.size ≤ sizeLine := by rw [List.size_toArray]; exact sizeLine_ge (by rw [← ew, List.length_map] at hl; exact hl)
  refine delItem_meets ⟨_, hg', rfl⟩ (by decide) PySem.F.slot_list_delitem PySem.F.entry_list_delitem (PySem.F.args_list_delitem_2 _ _) (meets_del_all a s1.heap.objs.size ws.toArray k hz) ⟨⟨hg', Heap.get?_push_size _ rfl⟩, fun f hf => ?_⟩
  refine wpAny_deleteEach_nil ⟨m, _, S4.turn (ws' := []) (t := s1.toks) hv hg' f (by rw [hf]), ?_⟩
  exact hq
theorem DelAll.mkX {a : Addr} {Q : Flow → LM → HM → Prop} (vs : List Value) (hv : H a = some (.list vs)) (hl : vs.length ≤ 16000000) (h : Q .next m (H.set a (.list []))) : DelAll Q m (.ref a) H := ⟨a, vs, rfl, hv, hl, h⟩
end
end Mine
end

section
open PySem PySem.W PySem.Calls PyProof.Rows PySem.Builtin PySem.Builtin.Str
set_option linter.all false
set_option maxRecDepth 100000
namespace Mine
section
variable {c : FC} {K : Frag} {n : Nat} {m : LM} {H F : HM} {X : XM} {s : Shared}
/-- a walk over what stays out of the heap meanwhile -/
def ForJN (c : FC) (tgt : Expr) (body : List Stmt) (m : LM) (H1 : HM) (v : Value) (Q : Flow → LM → HM → Prop) : Prop :=
  ∃ xs tup Hd back, Src H1 tgt v xs tup Hd back ∧ ∃ Inv : Nat → LM → HM → Prop, Keep (Inv 0) m Hd ∧
      (∀ k x m' H', xs[k]? = some x → (∀ b, H1 b ≠ none → Hd b = none → H' b = none) → Inv k m' H' → Yld tup k x H' (fun v' H2 => Tgt c tgt v' m' H2 (fun m3 H3 => Exs c body m3 H3 (ForK (Keep (Inv (k + 1))) (fun m4 H4 => Q .next m4 (back H4)) (fun v m4 H4 => Q (.ret v) m4 (back H4))) XF) XF)) ∧
      (∀ m' H', (∀ b, H1 b ≠ none → Hd b = none → H' b = none) → Inv xs.length m' H' → Q .next m' (back H'))
theorem Ex.forGN {tgt iter body p} {Q : Flow → LM → HM → Prop} (hh : c.A.handled = none) (h : Ev c iter m H (fun v H1 => ForJN c tgt body m H1 v Q) X)
    (hs : ∀ x, foldedSetIterable iter c.env x = pure x) : Ex c (.For tgt iter body [] p) m H Q X := by
  refine Ex.forN hh (h.mono (fun v H1 ⟨xs, tup, Hd, back, src, Inv, h0, step, fin⟩ => ⟨xs, tup, Hd, back, src, Inv, h0, fun k x m' H' hx gn iv => ?_, fin⟩) fun _ _ _ x => x) hs
  have st := step k x m' H' hx gn iv
  have up : ∀ v' H2, Tgt c tgt v' m' H2 (fun m3 H3 => Exs c body m3 H3 (ForK (Keep (Inv (k + 1))) (fun m4 H4 => Q .next m4 (back H4)) (fun v m4 H4 => Q (.ret v) m4 (back H4))) XF) XF →
      Tgt c tgt v' m' H2 (fun m3 H3 => Exs c body m3 H3 (fun f m4 H4 => match f with
        | .next | .cont => Keep (Inv (k + 1)) m4 H4
        | .brk => Q .next m4 (back H4)
        | .ret v => Q (.ret v) m4 (back H4)) XF) XF := by
    intro v' H2 h V e
    refine (h V e).mono (fun m3 H3 h3 => h3.mono (fun f m4 H4 h4 => ?_) fun _ _ _ x => x) fun _ _ _ x => x
    cases f <;> exact h4
  cases tup with
  | false => exact up _ _ st
  | true => exact fun a ha => up _ _ (st a ha)
/-- a walk over a list, by names -/
theorem ForJN.list {tgt : Expr} {body : List Stmt} {a : Addr} {vs : List Value} {Q : Flow → LM → HM → Prop} (hv : H a = some (.list vs)) (hl : vs.length ≤ 16000000) (Inv : Nat → LM → HM → Prop) (h0 : Keep (Inv 0) m (H.del a))
    (step : ∀ k x m' H', vs[k]? = some x → H' a = none → Inv k m' H' → Tgt c tgt x m' H' (fun m3 H3 => Exs c body m3 H3 (ForK (Keep (Inv (k + 1))) (fun m4 H4 => Q .next m4 (H4.set a (.list vs))) (fun v m4 H4 => Q (.ret v) m4 (H4.set a (.list vs)))) XF) XF)
    (fin : ∀ m' H', H' a = none → Inv vs.length m' H' → Q .next m' (H'.set a (.list vs))) : ForJN c tgt body m H (.ref a) Q :=
  ⟨vs, false, _, _, .list hv hl, Inv, h0, fun k x m' H' hx gn iv => step k x m' H' hx (gn a (by rw [hv]; simp) (HM.del_same _ _)) iv, fun m' H' gn iv => fin m' H' (gn a (by rw [hv]; simp) (HM.del_same _ _)) iv⟩
end
end Mine
end

section
open PySem PySem.W PySem.Calls PyProof.Rows PySem.Builtin PySem.Builtin.Str
set_option linter.all false
set_option maxRecDepth 100000
namespace Mine
section
variable {c : FC} {K : Frag} {n : Nat} {m : LM} {H F : HM} {X : XM} {s : Shared}
def Swap2 (c : FC) (x y : Str) (m : LM) (Q : LM → HM → Prop) (X : XM) (w : Value) (H1 : HM) : Prop :=
  ∃ a u v, w = .ref a ∧ H1 a = some (.tup [u, v]) ∧ StoreJ c y v m H1 (fun m1 H2 => StoreJ c x u m1 H2 Q X) X
theorem Swap2.mkX {x y : Str} {a : Addr} {Q : LM → HM → Prop} (u v : Value) (hv : H a = some (.tup [u, v])) (h : StoreJ c y v m H (fun m1 H2 => StoreJ c x u m1 H2 Q X) X) : Swap2 c x y m Q X (.ref a) H := ⟨a, u, v, rfl, hv, h⟩
theorem Ex.swap2 {elts k tpos e p} {Q : Flow → LM → HM → Prop} (x y : Str) (hh : c.A.handled = none) (h : Ev c e m H (Swap2 c x y m (fun m2 H2 => Q .next m2 H2) X) X)
    (hs : swapsWithSole [.Tuple elts k tpos] e p.line c.env = pure false) (hw : swappedStores [.Tuple elts k tpos] e c.env = pure (some [x, y])) : Ex c (.Assign [.Tuple elts k tpos] e p) m H Q X :=
  Ex.swap (names := [x, y]) hh (h.mono (fun w H1 ⟨a, u, v, e1, e2, h2⟩ => ⟨a, [u, v], e1, e2, rfl, InOrd.cons (BindJ (StoreJ.mono h2 fun m1 H2 h3 => InOrd.cons (BindJ (StoreJ.mono h3 fun m2 H3 q => InOrd.nil q))))⟩) fun _ _ _ x => x) hs hw
def Swap3 (c : FC) (x y z : Str) (m : LM) (Q : LM → HM → Prop) (X : XM) (w : Value) (H1 : HM) : Prop :=
  ∃ a u v t, w = .ref a ∧ H1 a = some (.tup [u, v, t]) ∧ StoreJ c z t m H1 (fun m1 H2 => StoreJ c y v m1 H2 (fun m2 H3 => StoreJ c x u m2 H3 Q X) X) X
theorem Swap3.mkX {x y z : Str} {a : Addr} {Q : LM → HM → Prop} (u v t : Value) (hv : H a = some (.tup [u, v, t])) (h : StoreJ c z t m H (fun m1 H2 => StoreJ c y v m1 H2 (fun m2 H3 => StoreJ c x u m2 H3 Q X) X) X) : Swap3 c x y z m Q X (.ref a) H := ⟨a, u, v, t, rfl, hv, h⟩
theorem Ex.swap3 {elts k tpos e p} {Q : Flow → LM → HM → Prop} (x y z : Str) (hh : c.A.handled = none) (h : Ev c e m H (Swap3 c x y z m (fun m2 H2 => Q .next m2 H2) X) X)
    (hs : swapsWithSole [.Tuple elts k tpos] e p.line c.env = pure false) (hw : swappedStores [.Tuple elts k tpos] e c.env = pure (some [x, y, z])) : Ex c (.Assign [.Tuple elts k tpos] e p) m H Q X :=
  Ex.swap (names := [x, y, z]) hh (h.mono (fun w H1 ⟨a, u, v, t, e1, e2, h2⟩ => ⟨a, [u, v, t], e1, e2, rfl, InOrd.cons (BindJ (StoreJ.mono h2 fun m1 H2 h3 => InOrd.cons (BindJ (StoreJ.mono h3 fun m2 H3 h4 => InOrd.cons (BindJ (StoreJ.mono h4 fun m3 H4 q => InOrd.nil q))))))⟩) fun _ _ _ x => x) hs hw
end
end Mine
end

section
open PySem PySem.W PySem.Calls PyProof.Rows
set_option linter.all false
set_option maxRecDepth 100000
namespace Mine
section
variable {c : FC} {K : Frag} {n : Nat} {m : LM} {H F F1 : HM} {X : XM} {s : Shared}
/-! ## a comprehension of two clauses -/
theorem codeAny_start2 {prog : Program} {w : World} {A : Around} {R : Result → Shared → Prop} {s : Shared} {elt tgt iter t1 i1 : Expr} {ifs f1 : List Expr} {scope : Scope} {pos : Pos} {it acc : Value} {env : Env}
    (h0 : codeAny (model prog w) A (.compLoop (.ListComp elt [⟨tgt, iter, ifs, 0⟩, ⟨t1, i1, f1, 0⟩] scope pos) 1 it acc env) R s)
    (h : wpAny (model prog w) A (pyIter it) (fun it' s' => codeAny (model prog w) A (.compLoop (.ListComp elt [⟨tgt, iter, ifs, 0⟩, ⟨t1, i1, f1, 0⟩] scope pos) 1 it' acc env) R s')
      (notedBy (model prog w) A env fun x s' => R (.error x) s') s) :
    codeAny (model prog w) A (.compStart (.ListComp elt [⟨tgt, iter, ifs, 0⟩, ⟨t1, i1, f1, 0⟩] scope pos) 1 it acc env) R s := by
  refine codeAny_of_tree ?_
  show wpAny _ _ ((compStart (.ListComp elt [⟨tgt, iter, ifs, 0⟩, ⟨t1, i1, f1, 0⟩] scope pos) 1 it acc env).onRaise (fun x => do noteFrame x env; standAt theWindowsPlace)) _ _ s
  refine wpAny_notedAt ?_
  unfold compStart
  show wpAny _ _ (ask >>= _) _ _ s
  refine wpAny_bind (wpAny_askSetting (wpAny_ite ?_))
  split
  · first
      | exact wpAny_bind (wpAny_pure (wpAny_pure (And.intro rfl h0)))
      | exact wpAny_pure (And.intro rfl h0)
  · first
      | exact wpAny_bind (wpAny_rule (wpAny_bind (wpAny_standAt (wpAny_bind (wpAny_mono h (fun it' s' h' => wpAny_pure (And.intro rfl h')) fun _ _ x => x)))))
      | (refine wpAny_bind (wpAny_rule ?_); show wpAny _ _ (standAt i1.pos >>= _) _ _ s; exact wpAny_bind (wpAny_standAt (wpAny_bind (wpAny_mono h (fun it' s' h' => wpAny_pure (And.intro rfl h')) fun _ _ x => x))))

def NestJ (c : FC) (elt t1 : Expr) (f1 : List Expr) (ys : List Value) (m : LM) (Q : List Value → LM → HM → Prop) (v : Value) (H1 : HM) : Prop :=
  ∃ a vs, v = .ref a ∧ H1 a = some (.list vs) ∧ vs.length ≤ 16000000 ∧ ∃ Inv2 : Nat → List Value → LM → HM → Prop, Keep (Inv2 0 ys) m (H1.del a) ∧
    (∀ k x ys m' H', vs[k]? = some x → Inv2 k ys m' H' → Tgt c t1 x m' H' (fun m3 H3 => TestsJ c f1 m3 H3 (fun ok H4 =>
      if ok = true then ys.length ≤ 16000000 ∧ Ev c elt m3 H4 (fun y H5 => Keep (Inv2 (k + 1) (ys ++ [y])) m3 H5) XF else Keep (Inv2 (k + 1) ys) m3 H4) XF) XF) ∧
    (∀ ys' m' H', Inv2 vs.length ys' m' H' → Q ys' m' (H'.set a (.list vs)))

theorem InnerJ.nest {elt tgt iter t1 i1 : Expr} {ifs f1 : List Expr} {scope : Scope} {pos : Pos} {cd : Code} {D : Addr} {ys : List Value} {Q : List Value → LM → HM → Prop} (hh : c.A.handled = none) (hs : ∀ x, foldedSetIterable i1 c.env x = pure x)
    (h : Ev c i1 m H (NestJ c elt t1 f1 ys m Q) XF) :
    InnerJ c (nestT (.ListComp elt [⟨tgt, iter, ifs, 0⟩, ⟨t1, i1, f1, 0⟩] scope pos) ⟨t1, i1, f1, 0⟩ 0 (.ref D) c.env (again cd)) cd D ys m H Q := fun G s S hD hG => by
  obtain ⟨ws, n, hws, S0⟩ := S.out hD hG
  unfold nestT
  refine wpAny_bind (wpAny_mono (h _ s S0) (fun V s1 ⟨H1, S1, a, vs, ev, ha, hl, Inv2, k0, step, fin⟩ => ?_) fun _ _ e => e.elim)
  have hD1 : H1 D = none := by
    rcases S1.dj D with q | q
    · exact q
    · rw [HM.set_same] at q; cases q
  have naD : a ≠ D := fun q => by rw [q, hD1] at ha; cases ha
  have S2 := S1.fromF (HM.le_set _ hG) (HM.set_same ..) (ao := .list ys) ⟨ws, n, rfl, hws⟩ hG
  refine wpAny_bind (wpAny_standAt ?_)
  show wpAny _ _ (foldedSetIterable i1 c.env V >>= _) _ _ s1
  rw [hs]
  refine wpAny_bind (wpAny_pure ?_)
  have src : Src (H1.set D (.list ys)) t1 (.ref a) vs false ((H1.set D (.list ys)).del a) fun H' => H'.set a (.list vs) := .list (by rw [HM.set_ne _ _ naD]; exact ha) hl
  refine wpAny_bind (wpAny_holding (src.start hh ev S2 fun I fp wr F1 T s2 st => ?_))
  have hdel : (H1.set D (.list ys)).del a = (H1.del a).set D (.list ys) := by
    funext b
    by_cases q : b = a
    · rw [q, HM.del_same, HM.set_ne _ _ naD, HM.del_same]
    · rw [HM.del_ne _ q]
      by_cases q2 : b = D
      · rw [q2, HM.set_same, HM.set_same]
      · rw [HM.set_ne _ _ q2, HM.set_ne _ _ q2, HM.del_ne _ q]
  have stst := st.st
  rw [hdel] at stst
  have hwr : ∀ b ∈ wr, b ≠ D ∧ (H1.del a) b = none := fun b hb => by
    have := (st.wrH b hb).1
    rw [hdel] at this
    have hne : b ≠ D := fun q => by rw [q, HM.set_same] at this; cases this
    rw [HM.set_ne _ _ hne] at this
    exact ⟨hne, this⟩
  have hDw : D ∉ wr := fun q => (hwr D q).1 rfl
  have hDF1 : F1 D = none := by
    rcases stst.dj D with q | q
    · rw [HM.set_same] at q; cases q
    · exact q
  obtain ⟨m6, H6, l1, l2, i6⟩ := k0
  have W := st.walk c.A hh
  refine wpAny_bind (wpAny_runOwn ?_ (by simp))
  refine codeAny_start2 ?_ ?_
  all_goals first
    | refine W.self 0 s2 _ _ st.t0 ?_
    | skip
  all_goals (
    refine comp_turns (c := c) (inner := fun it => emitT elt (.ref D) c.env >>= fun _ => again (.compLoop (.ListComp elt [⟨tgt, iter, ifs, 0⟩, ⟨t1, i1, f1, 0⟩] scope pos) 1 it (.ref D) c.env)) (fun it => turn_two1 ..) W (fun b hb => (st.wrH b hb).2) st.fpF hDw hDF1 Inv2 (fun k x ys m' H' hx iv => ?_) i6 ((stst.weakm l1).weak (HM.set_le _ _ l2)) (l2.none (by rw [HM.del_ne _ (Ne.symm naD)]; exact hD1)) (fun b hb => l2.none (hwr b hb).2) st.t0 fun ys' m' H' s' S' hD' _ iv => ?_
    · intro V' e'
      refine (step k x ys m' H' hx iv V' e').mono (fun m3 H3 h3 => h3.mono (fun ok H4 h4 => ?_) fun _ _ _ x => x) fun _ _ _ x => x
      cases ok with
      | true => rw [if_pos rfl] at h4 ⊢; exact InnerJ.emit h4.1 h4.2
      | false => rw [if_neg Bool.false_ne_true] at h4 ⊢; exact h4
    · refine wpAny_pure ⟨rfl, ys', m', H'.set a (.list vs), ?_, ?_, fin ys' m' H' iv⟩
      · have := st.back c m' _ s' S'
        rw [HM.set_comm _ _ _ (Ne.symm naD)] at this
        exact this
      · rw [HM.set_ne _ _ (Ne.symm naD)]; exact hD')

/-- two clauses -/
theorem Turns.two {c' : FC} {elt tgt iter t1 i1 : Expr} {ifs f1 : List Expr} {scope : Scope} {pos : Pos} {xs : List Value} {tup : Bool} {Hd : HM} {Qf : List Value → HM → Prop} (hh : c'.A.handled = none) (hs : ∀ x, foldedSetIterable i1 c'.env x = pure x) (Inv : Nat → List Value → LM → HM → Prop) (h0 : Keep (Inv 0 []) [] Hd)
    (step : ∀ k x ys m' H', xs[k]? = some x → Inv k ys m' H' → Yld tup k x H' (fun v' H2 => Tgt c' tgt v' m' H2 (fun m3 H3 => TestsJ c' ifs m3 H3 (fun ok H4 =>
      if ok = true then Ev c' i1 m3 H4 (NestJ c' elt t1 f1 ys m3 fun ys' m5 H5 => Keep (Inv (k + 1) ys') m5 H5) XF else Keep (Inv (k + 1) ys) m3 H4) XF) XF))
    (fin : ∀ ys m' H', Inv xs.length ys m' H' → Qf ys H') : Turns c' elt [⟨tgt, iter, ifs, 0⟩, ⟨t1, i1, f1, 0⟩] scope pos tgt xs tup Hd Qf := by
  intro D I fp wr T F1 s W hw hfp hDw hDF S hD hH t0 R hR
  obtain ⟨m6, H6, l1, l2, i6⟩ := h0
  refine comp_turns (c := c') (inner := fun it => nestT (.ListComp elt [⟨tgt, iter, ifs, 0⟩, ⟨t1, i1, f1, 0⟩] scope pos) ⟨t1, i1, f1, 0⟩ 0 (.ref D) c'.env (again (.compLoop (.ListComp elt [⟨tgt, iter, ifs, 0⟩, ⟨t1, i1, f1, 0⟩] scope pos) 0 it (.ref D) c'.env))) (fun it => turn_two0 ..) W hw hfp hDw hDF Inv (fun k x ys m' H' hx iv => ?_) i6 ((S.weakm l1).weak (HM.set_le _ _ l2)) (l2.none hD) (fun b hb => l2.none (hH b hb)) t0 fun ys m' H' s' S' hD' _ iv => hR ys m' H' s' S' hD' (fin ys m' H' iv)
  have st := step k x ys m' H' hx iv
  have up : ∀ v' H2, Tgt c' tgt v' m' H2 (fun m3 H3 => TestsJ c' ifs m3 H3 (fun ok H4 => if ok = true then Ev c' i1 m3 H4 (NestJ c' elt t1 f1 ys m3 fun ys' m5 H5 => Keep (Inv (k + 1) ys') m5 H5) XF else Keep (Inv (k + 1) ys) m3 H4) XF) XF →
      Tgt c' tgt v' m' H2 (fun m3 H3 => TestsJ c' ifs m3 H3 (fun ok H4 => if ok = true then InnerJ c' (nestT (.ListComp elt [⟨tgt, iter, ifs, 0⟩, ⟨t1, i1, f1, 0⟩] scope pos) ⟨t1, i1, f1, 0⟩ 0 (.ref D) c'.env (again (.compLoop (.ListComp elt [⟨tgt, iter, ifs, 0⟩, ⟨t1, i1, f1, 0⟩] scope pos) 0 (.ref I) (.ref D) c'.env))) (.compLoop (.ListComp elt [⟨tgt, iter, ifs, 0⟩, ⟨t1, i1, f1, 0⟩] scope pos) 0 (.ref I) (.ref D) c'.env) D ys m3 H4 (fun ys' m5 H5 => Keep (Inv (k + 1) ys') m5 H5) else Keep (Inv (k + 1) ys) m3 H4) XF) XF := by
    intro v' H2 h V e
    refine (h V e).mono (fun m3 H3 h3 => h3.mono (fun ok H4 h4 => ?_) fun _ _ _ x => x) fun _ _ _ x => x
    cases ok with
    | true => rw [if_pos rfl] at h4 ⊢; exact InnerJ.nest hh hs h4
    | false => rw [if_neg Bool.false_ne_true] at h4 ⊢; exact h4
  cases tup with
  | false => exact up _ _ st
  | true => exact fun a ha => up _ _ (st a ha)

/-! ## any -/
theorem C_any {a : Addr} {bs : List Bool} {Q : Value → HM → Prop} (hh : c.A.handled = none) (hv : H a = some (.list (bs.map VB))) (h : Q (VB (bs.any id)) H) : CallJ c (.builtin "any") [.ref a] [] m H Q X := fun Fv Vs Ks e0 e1 e2 G s S => by
  obtain rfl := er_builtin e0
  obtain ⟨V, rfl, e⟩ := call1 (as := []) e1; obtain rfl := er_ref e; obtain rfl := kw0 e2
  obtain ⟨ws, k, ews, hg⟩ := S.list hv
  obtain ⟨f1, f2, f3, f4⟩ := S.fresh
  have hlt := Heap.lt_size hg
  have hlen : ws.length = bs.length := by have := congrArg List.length ews; simpa using this
  refine call_any_walk (wpAny_pyIter_list (isList_of hg) ⟨s.heap.objs.size, [s.heap.objs.size, a], [s.heap.objs.size], ws.toArray.size, _, _, fun i => bs.getD i false, rfl, Walks.list (by exact hh) s.heap.objs.size a (Nat.ne_of_lt hlt) ws.toArray, ⟨⟨_, Heap.get?_push_size _ rfl, rfl, rfl⟩, isList_of (Heap.get?_push_of_some _ hg)⟩, ?_, ?_⟩)
  · intro i v s' Q' E' hP hQ
    have hP : ws.toArray[i]? = some v := hP
    rw [List.getElem?_toArray] at hP
    have e3 : (bs.map VB)[i]? = some (er v) := by rw [← ews, List.getElem?_map, hP]; rfl
    rw [List.getElem?_map, Option.map_eq_some_iff] at e3
    obtain ⟨b, hb, e4⟩ := e3
    obtain rfl := er_bool e4.symm
    refine wpAny_truthy_bool ?_
    have hQ : Q' (bs.getD i false) s' := hQ
    rw [List.getD_eq_getElem?_getD, hb] at hQ
    exact hQ
  · intro h' tk kp
    have e5 : (List.range ws.toArray.size).any (fun i => bs.getD i false) = bs.any id := by
      rw [List.size_toArray, hlen]
      clear ews hlen h hv
      rw [Bool.eq_iff_iff, List.any_eq_true, List.any_eq_true]
      constructor
      · rintro ⟨i, hi, hb⟩
        rw [List.mem_range] at hi
        rw [List.getD_eq_getElem?_getD, List.getElem?_eq_getElem hi] at hb
        exact ⟨bs[i], List.getElem_mem hi, hb⟩
      · rintro ⟨b, hb, hb2⟩
        obtain ⟨i, hi, e⟩ := List.getElem_of_mem hb
        refine ⟨i, List.mem_range.mpr hi, ?_⟩
        rw [List.getD_eq_getElem?_getD, List.getElem?_eq_getElem hi, e]; exact hb2
    rw [e5]
    refine ⟨H, (S.keepsBut (wr := [s.heap.objs.size]) (h' := h') (t := tk) (fun b hb => by
      obtain rfl := List.mem_singleton.mp hb
      exact ⟨f1, f2, f3, f4⟩) fun b o hb e => kp b o hb (Heap.get?_push_of_some _ e)), h⟩
end
end Mine
end

section
open PySem PySem.W PySem.Calls PyProof.Rows
set_option linter.all false
set_option maxRecDepth 100000
namespace Mine
section
variable {c : FC} {K : Frag} {n : Nat} {m : LM} {H F F1 : HM} {X : XM} {s : Shared}
/-! ## a comprehension, told what stays out of the heap -/
theorem comp_turnsN {G : Addr → Prop} {elt : Expr} {gens : List Comprehension} {scope : Scope} {pos : Pos} {depth : Nat} {p : Pos} {tgt : Expr} {ifs : List Expr} {inner : Value → Sem Fin} {D I : Addr} {fp wr : List Addr} {xs : List Value} {tup : Bool} {T : Nat → Heap → Prop}
    (he : ∀ it, compTurn (.ListComp elt gens scope pos) depth it (.ref D) c.env = turnT (.ListComp elt gens scope pos) p tgt ifs depth it (.ref D) c.env (inner it))
    (W : Walk c.prog c.w c.A tgt I fp wr xs tup T) (hw : ∀ b ∈ wr, F1 b = none ∧ b ≠ c.env.locals ∧ c.s₀.heap.get? b = none) (hfp : ∀ b ∈ fp, b ∉ wr → ∃ o, F1 b = some (.raw o)) (hDw : D ∉ wr) (hDF : F1 D = none) (hG : ∀ b, G b → b ∈ wr ∨ F1 b ≠ none)
    (Inv : Nat → List Value → LM → HM → Prop)
    (step : ∀ k x ys m' H', xs[k]? = some x → (∀ b, G b → H' b = none) → Inv k ys m' H' → Yld tup k x H' (fun v' H2 => Tgt c tgt v' m' H2 (fun m3 H3 => TestsJ c ifs m3 H3 (fun ok H4 =>
      if ok = true then InnerJ c (inner (.ref I)) (.compLoop (.ListComp elt gens scope pos) depth (.ref I) (.ref D) c.env) D ys m3 H4 (fun ys' m5 H5 => Keep (Inv (k + 1) ys') m5 H5) else Keep (Inv (k + 1) ys) m3 H4) XF) XF))
    {ys : List Value} (k0 : Inv 0 ys m H) (S : St c m (H.set D (.list ys)) F1 s) (hD : H D = none) (hH : ∀ b ∈ wr, H b = none) (t0 : T 0 s.heap)
    {R : Result → Shared → Prop} (hR : ∀ ys m' H' s', St c m' (H'.set D (.list ys)) F1 s' → H' D = none → (∀ b ∈ wr, H' b = none) → (∀ b, G b → H' b = none) → Inv xs.length ys m' H' → R (.ok .next) s') :
    codeAny (model c.prog c.w) c.A (.compLoop (.ListComp elt gens scope pos) depth (.ref I) (.ref D) c.env) R s := by
  refine codeAny_loop rfl (fun r s' => ∃ k ys m' H', r = xs.length - k ∧ k ≤ xs.length ∧ St c m' (H'.set D (.list ys)) F1 s' ∧ H' D = none ∧ (∀ b ∈ wr, H' b = none) ∧ T k s'.heap ∧ Inv k ys m' H') ?_ xs.length
    ⟨0, ys, m, H, rfl, Nat.zero_le _, S, hD, hH, t0, k0⟩
  rintro r s' ⟨k, ys, m', H', rfl, hk, S, hD, hH, t, iv⟩
  have gn : ∀ b, G b → H' b = none := fun b hb => (hG b hb).elim (hH b) fun hf => by
    have hbD : b ≠ D := fun q => hf (by rw [q]; exact hDF)
    rcases S.dj b with q | q
    · rw [HM.set_ne _ _ hbD] at q; exact q
    · exact absurd q hf
  show wpAny _ c.A ((compTurn (.ListComp elt gens scope pos) depth (.ref I) (.ref D) c.env).onRaise (fun x => do noteFrame x c.env; theTreesLotGoes x)) _ _ s'
  refine wpAny_noted ?_
  rw [he]
  unfold turnT
  refine wpAny_bind (wpAny_standAt (wpAny_bind ?_))
  obtain ⟨ws, nD, hws, S0⟩ := S.out hD hDF
  have hw' : ∀ b ∈ wr, (F1.set D (.raw { cls := .type "list", data := .seq ws.toArray nD })) b = none ∧ b ≠ c.env.locals ∧ c.s₀.heap.get? b = none := fun b hb => ⟨by rw [HM.set_ne _ _ (fun (e : b = D) => hDw (by rw [← e]; exact hb))]; exact (hw b hb).1, (hw b hb).2⟩
  have hfp' : ∀ b ∈ fp, b ∉ wr → ∃ o, (F1.set D (.raw { cls := .type "list", data := .seq ws.toArray nD })) b = some (.raw o) := fun b hb hbw => by
    obtain ⟨o, ho⟩ := hfp b hb hbw
    exact ⟨o, by rw [HM.set_ne _ _ (fun (e : b = D) => by rw [e, hDF] at ho; cases ho)]; exact ho⟩
  have back : ∀ {m H s}, St c m H (F1.set D (.raw { cls := .type "list", data := .seq ws.toArray nD })) s → St c m (H.set D (.list ys)) F1 s ∧ H D = none := fun S => by
    refine ⟨S.fromF (HM.le_set _ hDF) (HM.set_same ..) ⟨ws, nD, rfl, hws⟩ hDF, ?_⟩
    rcases S.dj D with q | q
    · exact q
    · rw [HM.set_same] at q; cases q
  by_cases hlt : k < xs.length
  · have hx : xs[k]? = some xs[k] := List.getElem?_eq_getElem hlt
    refine wpAny_mono (W.turn hw' hx S0 hH t (step k _ ys m' H' hx gn iv) (P := fun V s3 => wpAny (model c.prog c.w) c.A (do
        assign tgt c.env V
        let ok ← testsT ifs c.env
        if ok then inner (.ref I) else again (.compLoop (.ListComp elt gens scope pos) depth (.ref I) (.ref D) c.env)) _ _ s3) fun V H2 s3 S3 hH3 t3 hq => ?_) (fun r s4 h4 => by obtain ⟨V, e, q⟩ := h4; subst e; exact wpAny_bind q) fun _ _ e => e
    have S3' := S3.frz (wr := wr) fun b hb => ⟨hH3 b hb, (hw b hb).2⟩
    refine wpAny_bind (wpAny_mono (hq V rfl _ s3 S3') (fun _ s4 ⟨m4, H4, S4, h4⟩ => ?_) fun _ _ e => e.elim)
    refine wpAny_bind (wpAny_mono (h4 _ s4 S4) (fun ok s5 ⟨H5, S5, h5⟩ => ?_) fun _ _ e => e.elim)
    cases ok with
    | true =>
      rw [if_pos rfl] at h5 ⊢
      have hHf5 : ∀ b ∈ wr, H5 b = none := (W.body hw' hfp' S3 hH3 t3 S5).2.1
      -- inner with the list back, the iterators still set aside
      have S5D : St c m4 (H5.set D (.list ys)) (F1.frz wr s3.heap) s5 := by
        have hDfz : (F1.frz wr s3.heap) D = none := by simp only [HM.frz, if_neg hDw]; exact hDF
        refine S5.fromF (F0 := F1.frz wr s3.heap) (fun a o e => ?_) (a := D) (o := { cls := .type "list", data := .seq ws.toArray nD }) ?_ ⟨ws, nD, rfl, hws⟩ hDfz
        · have : a ≠ D := by rintro rfl; rw [hDfz] at e; cases e
          unfold HM.frz at e ⊢
          split
          · rename_i q; rw [if_pos q] at e; exact e
          · rename_i q; rw [if_neg q] at e; rw [HM.set_ne _ _ this]; exact e
        · simp only [HM.frz, if_neg hDw, HM.set_same]
      have hD5 : H5 D = none := (back (W.body hw' hfp' S3 hH3 t3 S5).1).2
      have hDfz : (F1.frz wr s3.heap) D = none := by simp only [HM.frz, if_neg hDw]; exact hDF
      refine wpAny_mono (h5 _ s5 S5D hD5 hDfz) (fun fin s6 ⟨efin, ys', m6, H6, S6, hD6, m7, H7, l1, l2, i7⟩ => ?_) fun _ _ e => e.elim
      subst efin
      have S3b := (back S3).1
      have hH3b : ∀ b ∈ wr, (H2.set D (.list ys)) b = none := fun b hb => by rw [HM.set_ne _ _ (fun (e : b = D) => hDw (by rw [← e]; exact hb))]; exact hH3 b hb
      obtain ⟨S6', hH6, t6⟩ := W.body hw hfp S3b hH3b t3 S6
      refine ⟨rfl, xs.length - (k + 1), by omega, k + 1, ys', m7, H7, rfl, hlt, (S6'.weakm l1).weak (HM.set_le _ _ l2), l2.none hD6, fun b hb => l2.none ?_, t6, i7⟩
      have := hH6 b hb
      rwa [HM.set_ne _ _ (fun (e : b = D) => hDw (by rw [← e]; exact hb))] at this
    | false =>
      rw [if_neg Bool.false_ne_true] at h5 ⊢
      obtain ⟨m7, H7, l1, l2, i7⟩ := h5
      obtain ⟨S5', hH5, t5⟩ := W.body hw' hfp' S3 hH3 t3 S5
      obtain ⟨S6, hD6⟩ := back S5'
      exact (wpAny_pure ⟨rfl, xs.length - (k + 1), by omega, k + 1, ys, m7, H7, rfl, hlt, (S6.weakm l1).weak (HM.set_le _ _ l2), l2.none hD6, fun b hb => l2.none (hH5 b hb), t5, i7⟩)
  · have hk' : k = xs.length := by omega
    subst hk'
    refine wpAny_mono (W.done s' (fun s'' => St c m' (H'.set D (.list ys)) F1 s'') _ t fun h' tk kp => S.keepsBut (fun b hb => ⟨?_, hw b hb⟩) kp) (fun r s4 ⟨e, S4⟩ => ?_) fun _ _ e => e
    · rw [HM.set_ne _ _ (fun (e : b = D) => hDw (by rw [← e]; exact hb))]; exact hH b hb
    · subst e
      exact wpAny_pure (hR ys m' H' s4 S4 hD hH gn iv)

/-- the turns of a comprehension, whatever stands in it -/
def TurnsN (c' : FC) (G : Addr → Prop) (elt : Expr) (gens : List Comprehension) (scope : Scope) (pos : Pos) (tgt : Expr) (xs : List Value) (tup : Bool) (Hd : HM) (Qf : List Value → HM → Prop) : Prop :=
  ∀ {D I : Addr} {fp wr : List Addr} {T : Nat → Heap → Prop} {F1 : HM} {s : Shared}, Walk c'.prog c'.w c'.A tgt I fp wr xs tup T → (∀ b ∈ wr, F1 b = none ∧ b ≠ c'.env.locals ∧ c'.s₀.heap.get? b = none) → (∀ b ∈ fp, b ∉ wr → ∃ o, F1 b = some (.raw o)) → D ∉ wr → F1 D = none →
    St c' [] (Hd.set D (.list [])) F1 s → Hd D = none → (∀ b ∈ wr, Hd b = none) → (∀ b, G b → b ∈ wr ∨ F1 b ≠ none) → T 0 s.heap → ∀ {R : Result → Shared → Prop}, (∀ ys m' H' s', St c' m' (H'.set D (.list ys)) F1 s' → H' D = none → (∀ b, G b → H' b = none) → Qf ys H' → R (.ok .next) s') →
    codeAny (model c'.prog c'.w) c'.A (.compLoop (.ListComp elt gens scope pos) 0 (.ref I) (.ref D) c'.env) R s


theorem comp_enterN {elt tgt iter : Expr} {ifs : List Expr} {gens : List Comprehension} {scope : Scope} {cl : List (Str × Addr)} {pos : Pos} {xs : List Value} {tup : Bool} {Hd : HM} {back : HM → HM} {I : Addr} {fp wr : List Addr} {T : Nat → Heap → Prop}
    {H1 : HM} {E : Value → Shared → Prop} {RR : Value → Addr → Result → Shared → Prop} {Qf : List Value → HM → Prop} (hh : c.A.handled = none) (hkind : scope.kind = .function) (hcell : ∀ y ∈ scope.names, y.2 ≠ .cell)
    (st : Start c m H1 Hd F1 F back tgt xs tup I fp wr T s)
    (turns : ∀ C, TurnsN (c.comp scope cl C) (fun b => H1 b ≠ none ∧ Hd b = none) elt (⟨tgt, iter, ifs, 0⟩ :: gens) scope pos tgt xs tup Hd Qf)
    (hRR : ∀ D C ys H' s' mC, H1 D = none → H' D = none → (∀ b, H1 b ≠ none → Hd b = none → H' b = none) → Qf ys H' → s'.heap.Ns C mC → C ≠ c.env.locals → c.s₀.heap.get? C = none → (H'.set D (.list ys)) C = none → F1 C = none → St c m (H'.set D (.list ys)) F1 s' → RR (.ref D) C (.ok .next) s') :
    wpAny (model c.prog c.w) c.A (newList []) (fun acc s₃ => wpAny (model c.prog c.w) c.A (newFunctionEnv scope c.env.globals cl [] c.env.qual none .none (some c.env)) (fun cenv s₄ =>
      codeAny (model c.prog c.w) c.A (.compStart (.ListComp elt (⟨tgt, iter, ifs, 0⟩ :: gens) scope pos) 0 (.ref I) acc { cenv with scope := relabel scope c.env }) (RR acc cenv.locals) s₄) E s₃) E s := by
  have W := st.walk c.A hh
  obtain ⟨oL, hL⟩ := st.st.frame
  obtain ⟨f1, f2, f3, f4⟩ := st.st.fresh
  refine wpAny_newObj_type (wpAny_newFunctionEnv hcell (by intro y hy; simp at hy) (fun h₁ hns₁ hsb₁ => ?_) hkind)
  dsimp only at hns₁ hsb₁ ⊢
  generalize hH2 : s.heap.push { cls := .type "list", dict := none, data := .seq ([] : List Value).toArray } = H2 at hns₁ hsb₁ ⊢
  have hC : H2.objs.size = s.heap.objs.size + 1 := by rw [← hH2, Heap.size_push]
  have hCle : s.heap.objs.size ≤ H2.objs.size := by rw [hC]; exact Nat.le_succ _
  have hDC : s.heap.objs.size ≠ H2.objs.size := by rw [hC]; exact Nat.ne_of_lt (Nat.lt_succ_self _)
  obtain ⟨g1, g2, g3, g4⟩ := st.st.above hCle
  have old : ∀ b o, s.heap.get? b = some o → h₁.get? b = some o := fun b o e => hsb₁.extBut b o (Nat.ne_of_lt (by rw [hC]; exact Nat.lt_succ_of_lt (Heap.lt_size e))) (Heap.get?_push_of_some _ (hH2 ▸ Heap.get?_push_of_some _ e))
  have hDo : h₁.get? s.heap.objs.size = some { cls := .type "list", dict := none, data := .seq ([] : List Value).toArray 0 } := hsb₁.extBut _ _ hDC (Heap.get?_push_of_some _ (hH2 ▸ Heap.get?_push_size _ rfl))
  have below : ∀ b ∈ wr, b < s.heap.objs.size := fun b hb => by obtain ⟨o, ho⟩ := W.obj 0 _ st.t0 b hb; exact Heap.lt_size ho
  have hDw : s.heap.objs.size ∉ wr := fun q => Nat.lt_irrefl _ (below _ q)
  have loop : ∀ s₃ : Shared, s₃ = { s with heap := h₁, toks := s.toks + ([] : List (Str × Value)).length } → T 0 s₃.heap ∧
      codeAny (model c.prog c.w) c.A (.compLoop (.ListComp elt (⟨tgt, iter, ifs, 0⟩ :: gens) scope pos) 0 (.ref I) (.ref s.heap.objs.size) (compEnvC scope cl H2.objs.size c.env)) (RR (.ref s.heap.objs.size) H2.objs.size) s₃ := by
    rintro s₃ rfl
    have t0 : T 0 h₁ := W.frame 0 _ _ st.t0 fun b _ o e => old b o e
    refine ⟨t0, ?_⟩
    have S4 : St (c.comp scope cl H2.objs.size) [] (Hd.set s.heap.objs.size (.list [])) (F1.set c.env.locals (.raw oL)) { s with heap := h₁, toks := s.toks + ([] : List (Str × Value)).length } := by
      refine St.other (c' := c.comp scope cl H2.objs.size) st.st rfl hL old (by exact hCle) hns₁ (fun y u hy => by cases hy) fun a ao e => ?_
      by_cases ha : a = s.heap.objs.size
      · subst ha
        rw [HM.set_same] at e; cases e
        exact .inr ⟨Nat.le_refl _, hDC, _, hDo, [], 0, rfl, rfl⟩
      · rw [HM.set_ne _ _ ha] at e; exact .inl e
    refine turns H2.objs.size W (fun b hb => ⟨?_, Nat.ne_of_lt (Nat.lt_of_lt_of_le (below b hb) hCle), (st.wrH b hb).2.2.2⟩) (fun b hb hbw => ?_) hDw ?_ S4 f1 (fun b hb => (st.wrH b hb).1) (fun b hb => ?_) t0 fun ys m' H' s' S' hD gn hq => ?_
    · rw [HM.set_ne _ _ (st.wrH b hb).2.2.1]; exact (st.wrH b hb).2.1
    · obtain ⟨o, ho⟩ := st.fpF b hb hbw
      exact ⟨o, by rw [HM.set_ne _ _ (st.st.fp _ _ ho).1]; exact ho⟩
    · rw [HM.set_ne _ _ f3]; exact f2
    · refine (st.gone b hb.1 hb.2).imp id fun q => ?_
      by_cases z : b = c.env.locals
      · rw [z, HM.set_same]; simp
      · rw [HM.set_ne _ _ z]; exact q
    · have Sh := St.home (c' := c.comp scope cl H2.objs.size) st.st rfl hL S'
      obtain ⟨mr, n1, _⟩ := S'.ns
      exact hRR _ H2.objs.size ys H' s' mr (st.hi _ (Nat.le_refl _)) hD (fun b h1 h2 => gn b ⟨h1, h2⟩) hq n1 g3 g4 S'.hl g2 Sh
  exact codeAny_compStart_list (loop _ rfl).2 (W.self 0 _ _ _ (loop _ rfl).1 (loop _ rfl).2)


theorem Ex.asgCN {elt tgt iter : Expr} {ifs : List Expr} {gens : List Comprehension} {scope : Scope} {cl : List (Str × Addr)} {pos spos : Pos} {y : Str} {py : Pos} {Q : Flow → LM → HM → Prop} (hh : c.A.handled = none)
    (hsw : swapsWith (.ListComp elt (⟨tgt, iter, ifs, 0⟩ :: gens) scope pos) (some (.Name y py)) spos.line c.env = pure true) (hk : c.env.scope.kind = .function) (hy : c.env.kindOf y = some .local)
    (hclos : closureFor scope c.env = pure cl) (hkind : scope.kind = .function) (hcell : ∀ y ∈ scope.names, y.2 ≠ .cell) (hnames : ∀ y ∈ scope.names, y.2 = .local → scope.names.lookup y.1 = some .local)
    (h : Ev c iter m H (fun v H1 => ∃ xs tup Hd back, Src H1 tgt v xs tup Hd back ∧ ∃ Qf, (∀ C, TurnsN (c.comp scope cl C) (fun b => H1 b ≠ none ∧ Hd b = none) elt (⟨tgt, iter, ifs, 0⟩ :: gens) scope pos tgt xs tup Hd Qf) ∧
      (∀ D ys H', H1 D = none → H' D = none → (∀ b, H1 b ≠ none → Hd b = none → H' b = none) → Qf ys H' → Q .next ((y, .ref D) :: m) (back (H'.set D (.list ys))))) X)
    (hs : ∀ x, foldedSetIterable iter c.env x = pure x) : Ex c (.Assign [.Name y py] (.ListComp elt (⟨tgt, iter, ifs, 0⟩ :: gens) scope pos) spos) m H Q X := fun G s St' => by
  rw [exec_Assign_Name_used _ _ _ _ hsw]
  refine wpAny_bind (wpAny_standAt (wpAny_bind ?_))
  show wpAny _ c.A (do let _ ← comprehension (.ListComp elt (⟨tgt, iter, ifs, 0⟩ :: gens) scope pos) scope c.env _ (newList []) false (eval iter c.env) (some (assign (.Name y py) c.env))) _ _ s
  refine wpAny_bind (wpAny_mono (wpAny_comprehension_free (use := some (assign (.Name y py) c.env)) (Q := fun _ s' => ∃ m' H', St c m' H' G s' ∧ Q .next m' H') rfl hs hclos hkind hnames
    (wpAny_mono (h G s St') (fun V s1 ⟨H1, S1, xs, tup, Hd, back, src, Qf, turns, fin⟩ => ?_) fun _ _ e => e)) (fun _ s' hq => wpAny_pure (wpAny_pure hq)) fun _ _ e => e)
  refine src.start hh rfl S1 fun I fp wr F1 T s2 st => ?_
  refine comp_enterN (RR := fun acc C => compPost (model c.prog c.w) c.A (X G) (some (assign (.Name y py) c.env)) (fun _ s' => ∃ m' H', St c m' H' G s' ∧ Q .next m' H') acc C) hh hkind hcell st turns fun D C ys H' s' mC q1 q2 qg q3 nC q4 q5 q6 q7 S' => ?_
  show wpAny _ c.A (assign (.Name y py) c.env (.ref D)) _ _ s'
  obtain ⟨oC, _, _, hC, _⟩ := id nC
  have S2 := S'.addF q6 q4 q5 hC
  obtain ⟨mr, n1, n2⟩ := S2.ns
  refine wpAny_assign_Name (wpAny_storeName_local hy n1 (fun h' hn hs' => ?_) (by rw [hk]; rfl))
  have S3 := S2.setName (t := s'.toks + 1) n2 (V := .ref D) rfl hn hs'
  refine ⟨mC, nC.sameBut hs' q4, fun h'' hs'' => ?_⟩
  have S4 := (S3.weakF (HM.le_set _ q7)).keepsBut (wr := [C]) (h' := h'') (t := s'.toks + 1) (fun b hb => by obtain rfl := List.mem_singleton.mp hb; exact ⟨q6, q7, q4, q5⟩) fun b o hb e => hs''.extBut b o (fun e' => hb (by rw [e']; exact List.mem_singleton.mpr rfl)) e
  exact ⟨_, _, st.back c _ _ _ S4, fin D ys H' q1 q2 qg q3⟩


/-- one clause -/
theorem TurnsN.one {c' : FC} {G : Addr → Prop} {elt tgt iter : Expr} {ifs : List Expr} {scope : Scope} {pos : Pos} {xs : List Value} {tup : Bool} {Hd : HM} {Qf : List Value → HM → Prop} (Inv : Nat → List Value → LM → HM → Prop) (h0 : Keep (Inv 0 []) [] Hd)
    (step : ∀ k x ys m' H', xs[k]? = some x → (∀ b, G b → H' b = none) → Inv k ys m' H' → Yld tup k x H' (fun v' H2 => Tgt c' tgt v' m' H2 (fun m3 H3 => TestsJ c' ifs m3 H3 (fun ok H4 =>
      if ok = true then ys.length ≤ 16000000 ∧ Ev c' elt m3 H4 (fun y H5 => Keep (Inv (k + 1) (ys ++ [y])) m3 H5) XF else Keep (Inv (k + 1) ys) m3 H4) XF) XF))
    (fin : ∀ ys m' H', Inv xs.length ys m' H' → Qf ys H') : TurnsN c' G elt [⟨tgt, iter, ifs, 0⟩] scope pos tgt xs tup Hd Qf := by
  intro D I fp wr T F1 s W hw hfp hDw hDF S hD hH hG t0 R hR
  obtain ⟨m6, H6, l1, l2, i6⟩ := h0
  refine comp_turnsN (c := c') (G := G) (inner := fun it => emitT elt (.ref D) c'.env >>= fun _ => again (.compLoop (.ListComp elt [⟨tgt, iter, ifs, 0⟩] scope pos) 0 it (.ref D) c'.env)) (fun it => turn_one ..) W hw hfp hDw hDF hG Inv (fun k x ys m' H' hx gn iv => ?_) i6 ((S.weakm l1).weak (HM.set_le _ _ l2)) (l2.none hD) (fun b hb => l2.none (hH b hb)) t0 fun ys m' H' s' S' hD' _ gn iv => hR ys m' H' s' S' hD' gn (fin ys m' H' iv)
  have st := step k x ys m' H' hx gn iv
  have up : ∀ v' H2, Tgt c' tgt v' m' H2 (fun m3 H3 => TestsJ c' ifs m3 H3 (fun ok H4 => if ok = true then ys.length ≤ 16000000 ∧ Ev c' elt m3 H4 (fun y H5 => Keep (Inv (k + 1) (ys ++ [y])) m3 H5) XF else Keep (Inv (k + 1) ys) m3 H4) XF) XF →
      Tgt c' tgt v' m' H2 (fun m3 H3 => TestsJ c' ifs m3 H3 (fun ok H4 => if ok = true then InnerJ c' (emitT elt (.ref D) c'.env >>= fun _ => again (.compLoop (.ListComp elt [⟨tgt, iter, ifs, 0⟩] scope pos) 0 (.ref I) (.ref D) c'.env)) (.compLoop (.ListComp elt [⟨tgt, iter, ifs, 0⟩] scope pos) 0 (.ref I) (.ref D) c'.env) D ys m3 H4 (fun ys' m5 H5 => Keep (Inv (k + 1) ys') m5 H5) else Keep (Inv (k + 1) ys) m3 H4) XF) XF := by
    intro v' H2 h V e
    refine (h V e).mono (fun m3 H3 h3 => h3.mono (fun ok H4 h4 => ?_) fun _ _ _ x => x) fun _ _ _ x => x
    cases ok with
    | true => rw [if_pos rfl] at h4 ⊢; exact InnerJ.emit h4.1 h4.2
    | false => rw [if_neg Bool.false_ne_true] at h4 ⊢; exact h4
  cases tup with
  | false => exact up _ _ st
  | true => exact fun a ha => up _ _ (st a ha)
end
end Mine
end

section
open PySem PySem.W PySem.Calls PyProof.Rows
set_option linter.all false
set_option maxRecDepth 100000
namespace Mine
section
variable {c : FC} {K : Frag} {n : Nat} {m : LM} {H : HM} {X : XM}
/-! ## names, by their kind (found once) -/
def NameJ (c : FC) (k : NameKind) (x : Str) (p : Pos) (m : LM) (H : HM) (Q : Value → HM → Prop) (X : XM) : Prop := c.env.kindOf x = some k → Ev c (.Name x p) m H Q X
theorem Ev.nameK {x p} {Q : Value → HM → Prop} (k : NameKind) (hl : c.env.kindOf x = some k) (h : NameJ c k x p m H Q X) : Ev c (.Name x p) m H Q X := h hl
theorem NameJ.loc {x p} {Q : Value → HM → Prop} (v : Value) (hv : m.lookup x = some v) (hk : c.env.scope.kind = .function) (hd : (x == ("__debug__" : Str)) = false) (h : Q v H) : NameJ c .local x p m H Q X := fun hl => Ev.loc hk hl hv h hd
theorem NameJ.free {x p} {Q : Value → HM → Prop} (a : Addr) (v : Value) (hk : c.env.scope.kind = .function) (hc : c.env.cells.lookup x = some a) (hd : (x == ("__debug__" : Str)) = false) (hn : (x == ("__classdict__" : Str)) = false) (hv : H a = some (.cell (some v))) (h : Q v H) : NameJ c .free x p m H Q X := fun hl => Ev.free hk hl hc hv h hd hn
theorem NameJ.cell {x p} {Q : Value → HM → Prop} (a : Addr) (v : Value) (hk : c.env.scope.kind = .function) (hc : c.env.cells.lookup x = some a) (hd : (x == ("__debug__" : Str)) = false) (hv : H a = some (.cell (some v))) (h : Q v H) : NameJ c .cell x p m H Q X := fun hl => Ev.cell hk hl hc hv h hd
theorem NameJ.glob {x p} {Q : Value → HM → Prop} (K : Frag) (n : Nat) (a : Addr) (O : Ok c K n) (e : nsIn K mainGlobals x = some (some (.ref a))) (hd : (x == ("__debug__" : Str)) = false) (h : Q (.ref a) H) : NameJ c .globalImplicit x p m H Q X := fun hl => Ev.glob O hl e h hd
theorem NameJ.bltB {x p} {Q : Value → HM → Prop} (K : Frag) (n : Nat) (id : String) (hv : bootBuiltins x = some (.builtin id)) (O : Ok c K n) (e : nsIn K mainGlobals x = some none) (hn : x ≠ "__name__") (hd : (x == ("__debug__" : Str)) = false) (h : Q (.builtin id) H) : NameJ c .globalImplicit x p m H Q X := fun hl => Ev.blt O hl e hv hn h hd
theorem NameJ.bltT {x p} {Q : Value → HM → Prop} (K : Frag) (n : Nat) (id : String) (hv : bootBuiltins x = some (.type id)) (O : Ok c K n) (e : nsIn K mainGlobals x = some none) (hn : x ≠ "__name__") (hd : (x == ("__debug__" : Str)) = false) (h : Q (.type id) H) : NameJ c .globalImplicit x p m H Q X := fun hl => Ev.blt O hl e hv hn h hd
end
end Mine
end

section
open PySem PySem.W PySem.Calls PyProof.Rows
set_option linter.all false
set_option maxRecDepth 100000
set_option maxHeartbeats 4000000
namespace Mine
local macro_rules | `(tactic| walk_at "go") => `(tactic| first
  | ((with_reducible show Ev _ _ _ _ _ _); (first
      | ((with_reducible refine Ev.nameK ?_ ?_ ?_); rotate_left; rfl)
      | (with_reducible refine Ev.or2 ?_)
      | (with_reducible refine Ev.and2 ?_)
      | (with_reducible refine Ev.int ?_)
      | (with_reducible refine Ev.bool ?_)
      | (with_reducible refine Ev.non ?_)
      | (with_reducible refine Ev.textX _ t_no ?_)
      | (with_reducible refine Ev.textX _ t_blanks ?_)
      | (with_reducible refine Ev.textX _ t_sp ?_)
      | (with_reducible refine Ev.textX _ t_nl ?_)
      | (with_reducible refine Ev.textX _ t_nl2 ?_)
      | (with_reducible refine Ev.textX _ t_bs ?_)
      | (with_reducible refine Ev.textX _ t_sp2 ?_)
      | (with_reducible refine Ev.textX _ t_sp4 ?_)
      | (with_reducible refine Ev.textX _ t_star ?_)
      | (with_reducible refine Ev.textX _ t_usage ?_)
      | (with_reducible refine Ev.textX _ t_abc ?_)
      | (with_reducible refine Ev.textX _ t_pon ?_)
      | (with_reducible refine Ev.textX _ t_csi ?_)
      | (with_reducible refine Ev.textX _ t_m ?_)
      | (with_reducible refine Ev.textX _ t_b1 ?_)
      | (with_reducible refine Ev.textX _ t_b0 ?_)
      | (with_reducible refine Ev.textX _ t_314 ?_)
      | (with_reducible refine Ev.textX _ t_31 ?_)
      | (with_reducible refine Ev.textX _ t_14 ?_)
      | (with_reducible refine Ev.textX _ t_ah ?_)
      | (with_reducible refine Ev.textX _ t_spnl ?_)
      | (with_reducible refine Ev.textX _ t_dots ?_)
      | (with_reducible refine Ev.bin ?_)
      | ((with_reducible refine Ev.cmp ?_ ?_); rotate_left; rfl)
      | (with_reducible refine Ev.un ?_)
      | (with_reducible refine Ev.ifx ?_)
      | (with_reducible refine Ev.sliceG ?_)
      | ((with_reducible refine Ev.itemG ?_ ?_); rotate_left; intro _ _; rfl)
      | (with_reducible refine Ev.listG ?_)
      | (with_reducible refine Ev.tupleG ?_)
      | ((with_reducible refine Ev.methKX0 ?_ ?_ ?_); rotate_left; rfl)
      | ((with_reducible refine Ev.methKX ?_ ?_ ?_ ?_ ?_); rotate_left; rfl; rfl; rfl)
      | ((with_reducible refine Ev.callK0 ?_ ?_); rotate_left; rfl)
      | ((with_reducible refine Ev.callK ?_ ?_ ?_ ?_); rotate_left; rfl; rfl; rfl)
      | ((with_reducible refine Ev.callKW ?_ ?_ ?_ ?_ ?_ ?_ ?_); rotate_left; rotate_left; rfl; rfl; rfl; rfl; rfl)
      | (with_reducible refine Ev.fstr2 ?_)
      | ((with_reducible refine Ev.attr ?_ ?_); rotate_left; rfl)
    ))
  | ((with_reducible show NameJ _ _ _ _ _ _ _ _); (first
      | ((with_reducible refine NameJ.loc ?_ ?_ ?_ ?_ ?_); rotate_left; rfl; rfl; rfl)
      | ((with_reducible refine NameJ.cell ?_ ?_ ?_ ?_ ?_ ?_ ?_); rotate_left; rotate_left; rfl; rfl; rfl; walk_at "heap")
      | ((with_reducible refine NameJ.free ?_ ?_ ?_ ?_ ?_ ?_ ?_ ?_); rotate_left; rotate_left; rfl; rfl; rfl; rfl; walk_at "heap")
      | ((with_reducible refine NameJ.glob ?_ ?_ ?_ ?_ ?_ ?_ ?_); rotate_left; rotate_left; rotate_left; assumption; rfl; rfl)
      | ((with_reducible refine NameJ.bltB ?_ ?_ ?_ ?_ ?_ ?_ ?_ ?_ ?_); rotate_left; rotate_left; rotate_left; rfl; assumption; rfl; decide; rfl)
      | ((with_reducible refine NameJ.bltT ?_ ?_ ?_ ?_ ?_ ?_ ?_ ?_ ?_); rotate_left; rotate_left; rotate_left; rfl; assumption; rfl; decide; rfl)
    ))
  | ((with_reducible show ThenJ _ _ _ _ _ _ _); (first
      | (with_reducible refine ThenJ.next ?_)
      | (with_reducible refine ThenJ.ret ?_)
      | (with_reducible refine ThenJ.brk ?_)
      | (with_reducible refine ThenJ.cont ?_)
    ))
  | ((with_reducible show Exs _ _ _ _ _ _); (first
      | (with_reducible refine Exs.go ?_)
      | (with_reducible refine Exs.nil ?_)
    ))
  | ((with_reducible show StoreJ _ _ _ _ _ _ _); (first
      | ((with_reducible refine StoreJ.loc ?_ ?_ ?_); rfl; rfl)
      | ((with_reducible refine StoreJ.cellX ?_ ?_ ?_ ?_ ?_ ?_ ?_); rotate_left; rotate_left; rfl; rfl; rfl; walk_at "heap")
    ))
  | ((with_reducible show Vals _ _ _ _ _ _); (first
      | (with_reducible refine Vals.nil ?_)
      | ((with_reducible refine Vals.cons ?_ ?_); rotate_left; rfl)
    ))
  | ((with_reducible show Op2 _ _ _ _ _ _ _ _); (first
      | (with_reducible refine O_add ?_)
      | (with_reducible refine O_sub ?_)
      | (with_reducible refine O_iadd ?_)
      | (with_reducible refine O_isub ?_)
      | (with_reducible refine O_lt ?_)
      | (with_reducible refine O_le ?_)
      | (with_reducible refine O_gt ?_)
      | (with_reducible refine O_ge ?_)
      | (with_reducible refine O_eqI ?_)
      | (with_reducible refine O_neI ?_)
      | (with_reducible refine O_eqT ?_)
      | (with_reducible refine O_neT ?_)
      | (with_reducible refine O_eqB ?_)
      | (with_reducible refine O_eqBN ?_)
      | (with_reducible refine O_in1 ?_)
      | (with_reducible refine O_notin1 ?_)
      | ((with_reducible refine O_addT ?_ ?_); walk_at "side")
      | ((with_reducible refine O_iaddT ?_ ?_); walk_at "side")
      | ((with_reducible refine O_eqLX ?_ ?_ ?_ ?_ ?_ ?_ ?_ ?_ ?_); rotate_left; rotate_left; rotate_left; rotate_left; walk_at "heap"; walk_at "heap"; assumption; walk_at "flat")
      | ((with_reducible refine O_neLX ?_ ?_ ?_ ?_ ?_ ?_ ?_ ?_ ?_); rotate_left; rotate_left; rotate_left; rotate_left; walk_at "heap"; walk_at "heap"; assumption; walk_at "flat")
      | ((with_reducible refine O_addLX ?_ ?_ ?_ ?_ ?_ ?_); rotate_left; rotate_left; walk_at "heap"; walk_at "heap"; walk_at "side")
      | (with_reducible refine O_isNN ?_)
      | (with_reducible refine O_isIN ?_)
      | (with_reducible refine O_isnotNN ?_)
      | (with_reducible refine O_isnotRN ?_)
    ))
  | ((with_reducible show Ex _ _ _ _ _ _); (first
      | (with_reducible refine Ex.ite ?_)
      | (with_reducible refine Ex.ret ?_)
      | (with_reducible refine Ex.retN ?_)
      | (with_reducible refine Ex.brk ?_)
      | (with_reducible refine Ex.cont ?_)
      | (with_reducible refine Ex.pass ?_)
      | ((with_reducible refine Ex.asgN ?_ ?_); rotate_left; rfl)
      | ((with_reducible refine Ex.asg ?_ ?_ ?_ ?_); rotate_left; rfl; rfl; rfl)
      | ((with_reducible refine Ex.swap2 ?_ ?_ ?_ ?_ ?_ ?_); rotate_left; rotate_left; rotate_left; rotate_left; rfl; rfl; (first | assumption | exact Ok.hh (by assumption)))
      | ((with_reducible refine Ex.swap3 ?_ ?_ ?_ ?_ ?_ ?_ ?_); rotate_left; rotate_left; rotate_left; rotate_left; rotate_left; rfl; rfl; (first | assumption | exact Ok.hh (by assumption)))
      | (with_reducible refine Ex.augN ?_)
      | ((with_reducible refine Ex.augI ?_ ?_); rotate_left; intro _ _ _; rfl)
      | (with_reducible refine Ex.delAll ?_)
      | (with_reducible refine Ex.delI ?_)
      | ((with_reducible refine Ex.expr ?_ ?_ ?_); rotate_left; rfl; rfl)
      | (with_reducible refine Ex.augA ?_)
    ))
  | ((with_reducible show CallK _ _ _ _ _ _ _); (first
      | (with_reducible refine CallK.app ?_)
      | (with_reducible refine CallK.b ?_)
      | (with_reducible refine CallK.t ?_)
      | ((with_reducible refine CallK.kX ?_ ?_ ?_ ?_ ?_); rotate_left; rotate_left; assumption; rfl)
    ))
  | ((with_reducible show CallJ _ _ _ _ _ _ _ _); (first
      | ((with_reducible refine C_appendX ?_ ?_ ?_ ?_); rotate_left; walk_at "heap"; walk_at "side")
      | ((with_reducible refine C_pop0X ?_ ?_ ?_ ?_ ?_); rotate_left; rotate_left; walk_at "heap"; walk_at "side")
      | ((with_reducible refine C_popX ?_ ?_ ?_ ?_ ?_); rotate_left; rotate_left; walk_at "heap"; walk_at "side")
      | ((with_reducible refine C_lenLX ?_ ?_ ?_ ?_); rotate_left; walk_at "heap"; walk_at "side")
      | ((with_reducible refine C_lenT ?_ ?_); walk_at "side")
      | ((with_reducible refine C_stripP ?_ ?_); walk_at "side")
      | ((with_reducible refine C_lstripP ?_ ?_); walk_at "side")
      | ((with_reducible refine C_lstripCP ?_ ?_); walk_at "side")
      | ((with_reducible refine C_rstripCP ?_ ?_); walk_at "side")
      | (with_reducible refine C_startswithP ?_)
      | (with_reducible refine C_abs ?_)
      | ((with_reducible refine C_reverseX ?_ ?_ ?_ ?_); rotate_left; walk_at "heap"; walk_at "side")
      | ((with_reducible refine C_joinX ?_ ?_ ?_ ?_); rotate_left; walk_at "heap"; walk_at "side")
      | ((with_reducible refine C_endX ?_ ?_ ?_); rotate_left; assumption)
    ))
  | ((with_reducible show MethJ _ _ _ _ _ _ _); (first
      | ((with_reducible refine MethJ.listX ?_ ?_ PySem.F.slot_list_append PySem.F.type_list_append ?_); rotate_left; walk_at "heap")
      | ((with_reducible refine MethJ.listX ?_ ?_ PySem.F.slot_list_reverse PySem.F.type_list_reverse ?_); rotate_left; walk_at "heap")
      | ((with_reducible refine MethJ.listX ?_ ?_ PySem.F.slot_list_pop PySem.F.type_list_pop ?_); rotate_left; walk_at "heap")
      | (with_reducible refine MethJ.strX PySem.F.slot_str_strip PySem.F.type_str_strip ?_)
      | (with_reducible refine MethJ.strX PySem.F.slot_str_lstrip PySem.F.type_str_lstrip ?_)
      | (with_reducible refine MethJ.strX PySem.F.slot_str_rstrip PySem.F.type_str_rstrip ?_)
      | (with_reducible refine MethJ.strX PySem.F.slot_str_startswith PySem.F.type_str_startswith ?_)
      | (with_reducible refine MethJ.strX PySem.F.slot_str_count PySem.F.type_str_count ?_)
      | (with_reducible refine MethJ.strX PySem.F.slot_str_join PySem.F.type_str_join ?_)
      | (with_reducible refine MethJ.strX PySem.F.slot_str_split PySem.F.type_str_split ?_)
      | (with_reducible refine MethJ.strX PySem.F.slot_str_splitlines PySem.F.type_str_splitlines ?_)
      | (with_reducible refine MethJ.strX PySem.F.slot_str_expandtabs PySem.F.type_str_expandtabs ?_)
      | (with_reducible refine MethJ.strX PySem.F.slot_str_index PySem.F.type_str_index ?_)
      | ((with_reducible refine MethJ.patX ?_ ?_ slot_Pattern_sub type_Pattern_sub ?_); rotate_left; assumption)
      | ((with_reducible refine MethJ.patX ?_ ?_ slot_Pattern_match type_Pattern_match ?_); rotate_left; assumption)
      | ((with_reducible refine MethJ.instX ?_ ?_ ?_ ?_ ?_ ?_ ?_ ?_ ?_ ?_ ?_ ?_ ?_ ?_); rotate_left; rotate_left; rotate_left; rotate_left; rotate_left; rotate_left; walk_at "heap"; walk_at "heap"; assumption; rfl; rfl; rfl; rfl)
      | ((with_reducible refine MethJ.matchedX ?_ ?_ ?_); rotate_left; assumption)
    ))
  | ((with_reducible show Tst _ _ _ _ _ _); (first
      | (with_reducible refine Tst.bop ?_)
      | (with_reducible refine Tst.nt ?_)
      | ((with_reducible refine Tst.cmp ?_ ?_); rotate_left; rfl)
      | ((with_reducible refine Tst.plain ?_ ?_); rotate_left; rfl)
    ))
  | ((with_reducible show TstAll _ _ _ _ _ _ _); (first
      | (with_reducible refine TstAll.and ?_)
      | (with_reducible refine TstAll.or ?_)
      | (with_reducible refine TstAll.andNil ?_)
      | (with_reducible refine TstAll.orNil ?_)
    ))
  | ((with_reducible show Tru _ _ _ _ _ _); (first
      | (with_reducible refine T_bool ?_)
      | (with_reducible refine T_int ?_)
      | (with_reducible refine T_none ?_)
      | ((with_reducible refine T_listX ?_ ?_ ?_ ?_); rotate_left; walk_at "heap"; walk_at "side")
      | ((with_reducible refine T_str ?_ ?_); walk_at "side")
    ))
  | ((with_reducible show Tgt _ _ _ _ _ _ _); (first
      | (with_reducible refine Tgt.name ?_)
      | (with_reducible refine Tgt.subI ?_)
      | ((with_reducible refine Tgt.two ?_ ?_ ?_ ?_ ?_); rotate_left; rotate_left; (first | assumption | exact Ok.hh (by assumption)); walk_at "heap")
      | ((with_reducible refine Tgt.three ?_ ?_ ?_ ?_ ?_ ?_); rotate_left; rotate_left; rotate_left; (first | assumption | exact Ok.hh (by assumption)); walk_at "heap")
      | (with_reducible refine Tgt.attr ?_)
    ))
  | ((with_reducible show ForK _ _ _ _ _ _); (first
      | (with_reducible refine ForK.next ?_)
      | (with_reducible refine ForK.cont ?_)
      | (with_reducible refine ForK.brk ?_)
      | (with_reducible refine ForK.ret ?_)
    ))
  | ((with_reducible show ItemG _ _ _ _ _ _ _); (first
      | ((with_reducible refine ItemG.lastX ?_ ?_ ?_ ?_); rotate_left; rotate_left; walk_at "heap")
      | ((with_reducible refine ItemG.strX ?_ ?_ ?_ ?_); rotate_left; rfl; decide)
      | ((with_reducible refine ItemG.listX ?_ ?_ ?_ ?_ ?_ ?_); rotate_left; rotate_left; walk_at "heap"; rfl; decide)
    ))
  | (with_reducible refine iteT ?_)
  | (with_reducible refine iteF ?_)
  | ((with_reducible show KVals _ _ _ _ _ _); (first
      | (with_reducible refine KVals.nil ?_)
      | (with_reducible refine KVals.cons ?_)
    ))
  | ((with_reducible show EvP _ _ _ _ _ _); (first
      | (with_reducible refine EvP.non ?_)
      | (with_reducible refine EvP.some ?_)
    ))
  | ((with_reducible show Op1 _ _ _ _ _ _ _); (first
      | (with_reducible refine O_not ?_)
      | (with_reducible refine O_neg ?_)
    ))
  | ((with_reducible show StoreI _ _ _ _ _ _ _); (first
      | ((with_reducible refine StoreI.lastX ?_ ?_ ?_ ?_); rotate_left; rotate_left; walk_at "heap")
      | ((with_reducible refine StoreI.atX ?_ ?_ ?_ ?_ ?_ ?_); rotate_left; walk_at "heap"; walk_at "side"; walk_at "side"; walk_at "side")
    ))
  | ((with_reducible show DelI _ _ _ _ _ _); (first
      | ((with_reducible refine DelI.lastX ?_ ?_ ?_ ?_ ?_); rotate_left; rotate_left; walk_at "heap"; walk_at "side")
      | ((with_reducible refine DelI.atX ?_ ?_ ?_ ?_ ?_ ?_); rotate_left; walk_at "heap"; walk_at "side"; walk_at "side"; walk_at "side")
    ))
  | ((with_reducible show Yld _ _ _ _ _); (first
      | (with_reducible refine Yld.f ?_)
      | (with_reducible refine Yld.t ?_)
    ))
  | ((with_reducible refine Swap2.mkX ?_ ?_ ?_ ?_); rotate_left; rotate_left; walk_at "heap")
  | ((with_reducible refine Swap3.mkX ?_ ?_ ?_ ?_ ?_); rotate_left; rotate_left; rotate_left; walk_at "heap")
  | ((with_reducible refine DelAll.mkX ?_ ?_ ?_ ?_); rotate_left; walk_at "heap"; walk_at "side")
  | ((with_reducible refine LoadJ.locX ?_ ?_ ?_ ?_ ?_); rotate_left; rfl; rfl; rfl)
  | ((with_reducible refine CallKW.kX ?_ ?_ ?_ ?_ ?_); rotate_left; rotate_left; assumption; rfl)
  | ((with_reducible refine I_listX ?_ ?_ ?_ ?_ ?_ ?_); rotate_left; rotate_left; walk_at "heap"; rfl; decide)
  | ((with_reducible refine NewL.mk ?_ ?_); walk_at "side")
  | ((with_reducible refine NewT.mk ?_ ?_); walk_at "side")
  | ((with_reducible refine AttrJ.ownX ?_ ?_ ?_ ?_ ?_ ?_ ?_ ?_ ?_ ?_ ?_ ?_ ?_ ?_ ?_ ?_ ?_); rotate_left; rotate_left; rotate_left; rotate_left; rotate_left; rotate_left; rotate_left; walk_at "heap"; walk_at "heap"; rfl; assumption; rfl; rfl; rfl; rfl; rfl)
  | ((with_reducible refine StoreA.ownX ?_ ?_ ?_ ?_ ?_ ?_ ?_ ?_ ?_ ?_ ?_ ?_ ?_ ?_); rotate_left; rotate_left; rotate_left; rotate_left; rotate_left; walk_at "heap"; walk_at "heap"; assumption; rfl; rfl; rfl; rfl; (first | exact of_decide_eq_true rfl | walk_at "side"))
  | ((with_reducible intro r hr); (try simp only [HM.set_none] at hr); (try obtain ⟨h1, hr⟩ := hr); (try obtain ⟨h2, hr⟩ := hr); (try obtain ⟨h3, hr⟩ := hr); (try obtain ⟨h4, hr⟩ := hr); (try obtain ⟨h5, hr⟩ := hr); (try obtain ⟨h6, hr⟩ := hr); (try obtain ⟨h7, hr⟩ := hr); (try obtain ⟨h8, hr⟩ := hr); (try obtain ⟨h9, hr⟩ := hr); (try obtain ⟨h10, hr⟩ := hr); (try obtain ⟨h11, hr⟩ := hr); (try obtain ⟨h12, hr⟩ := hr); (try obtain ⟨h13, hr⟩ := hr); (try obtain ⟨h14, hr⟩ := hr); (try obtain ⟨h15, hr⟩ := hr)))
local macro_rules | `(tactic| walk_at "side") => `(tactic| first | assumption | decide | omega | (simp only [setAt_length, List.length_append, List.length_cons, List.length_nil, List.length_map]; omega) | (simp only [setAt_length, List.length_append, List.length_cons, List.length_nil, List.length_map] at *; omega))
local macro_rules | `(tactic| walk_at "heap") => `(tactic| first
  | assumption
  | exact HM.set_same _ _ _
  | (refine (HM.set_ne _ _ ?_).trans ?_; walk_at "ne"; walk_at "heap"))
local macro_rules | `(tactic| walk_at "ne") => `(tactic| first
  | assumption
  | (apply Ne.symm; assumption)
  | (refine HM.ne_ofX ?_ ?_ ?_ ?_; rotate_left; rotate_left; assumption; assumption)
  | (apply Ne.symm; refine HM.ne_ofX ?_ ?_ ?_ ?_; rotate_left; rotate_left; assumption; assumption)
  | (refine HM.ne_ofY ?_ ?_ ?_ ?_; rotate_left; rotate_left; assumption; assumption)
  | (apply Ne.symm; refine HM.ne_ofY ?_ ?_ ?_ ?_; rotate_left; rotate_left; assumption; assumption)
  | omega)
local macro_rules | `(tactic| walk_at "run") => `(tactic| repeat walk_at "go")
local macro_rules | `(tactic| walk_at "flat") => `(tactic| first | exact flat_nil _ | exact flat_texts _ _ | exact flat_ints _ _)
local macro_rules | `(tactic| walk_at "inst") => `(tactic| first | assumption | (refine ⟨?_, ?_⟩; walk_at "heap"; walk_at "heap"))
local macro_rules | `(tactic| walk_at "le") => `(tactic| first | exact LM.le_nil _ | (refine LM.le_cons rfl ?_; walk_at "le"))

local macro_rules | `(tactic| walk_at "upd") => `(tactic| first | assumption | exact Upd.refl _ _ | ((with_reducible refine Upd.new ?_ ?_); (first | assumption | (simp only [HM.set_none]; refine ⟨?_, ?_⟩ <;> assumption)); walk_at "upd") | ((with_reducible refine Upd.at ?_ ?_); (first | exact List.mem_cons_self | exact List.mem_cons_of_mem _ List.mem_cons_self | exact List.mem_cons_of_mem _ (List.mem_cons_of_mem _ List.mem_cons_self)); walk_at "upd") | ((with_reducible refine Upd.old ?_ ?_); (first | assumption | (refine Upd.none (by assumption) ?_ (by assumption); simp)); walk_at "upd"))

noncomputable abbrev KK (P : Params) : Frag := Mine.hd.heap_39 P
section
variable {c : FC} {P : Params} {n : Nat} {m : LM} {H : HM} {X : XM}
theorem pat_K (O : Ok c (KK P) n) : PatAt 36 35 c.s₀.heap := by
  refine ⟨⟨_, O.X 36 _ rfl, rfl, rfl, _, rfl, rfl, rfl, rfl⟩, ⟨_, _, _, O.X 35 _ rfl, rfl, by simp [Builtin.Re.reRawOf, reCode]⟩⟩
theorem K_strip_ansi {ts : List Tk} {Q : Value → HM → Prop} (O : Ok c (KK P) (n + 1)) (hok : okT ts) (hl : (flatT ts).length ≤ 1000000) (h : Q (VT (signs ts)) H) : CallJ c (.ref 121) [VT (flatT ts)] [] m H Q X := by
  refine CallJ.run O ⟨⟨_, _, _, rfl⟩, rfl, rfl, rfl, rfl, rfl, rfl, rfl, rfl, by decide⟩ (.a1 fun _ => rfl) rfl ?_
  intro L hL Ok'
  have hp := pat_K Ok'
  show Exs _ _ [("value", VT (flatT ts))] H _ _
  walk_at "run"
  refine C_sub hp hok hl ?_
  walk_at "run"
  exact EndJ.retE h

theorem K_ansi_match {l : List Nat} {i : Nat} {Q : Value → HM → Prop} (O : Ok c (KK P) (n + 1)) (hi : i < l.length) (hl : l.length ≤ 1000000)
    (h : (l.getD i 0 ≠ 27 ∧ Q .none H) ∨ ∃ e, EscAt l.toArray i e ∧ ∀ a H', H.le H' → H a = none → MatchAt H' a e → Q (.ref a) H') : CallJ c (.ref 128) [VT l, VI i] [] m H Q X := by
  refine CallJ.run O ⟨⟨_, _, _, rfl⟩, rfl, rfl, rfl, rfl, rfl, rfl, rfl, rfl, by decide⟩ (.a2 fun _ _ => rfl) rfl ?_
  intro L hL Ok'
  have hp := pat_K Ok'
  show Exs _ _ [("i", VI i), ("text", VT l)] H _ _
  walk_at "run"
  refine C_match hp hi hl (h.imp (fun h => ⟨h.1, ?_⟩) fun ⟨e, h1, h2⟩ => ⟨e, h1, fun a H' q1 q2 q3 => ?_⟩)
  · walk_at "run"
    exact EndJ.retE h.2
  · walk_at "run"
    exact EndJ.retE (h2 a H' q1 q2 q3)
theorem K_term_len {ts : List Tk} {Q : Value → HM → Prop} (O : Ok c (KK P) (n + 2)) (hok : okT ts) (hl : (flatT ts).length ≤ 1000000) (hv : vis ts ≤ 1000000) (h : Q (VI (vis ts)) H) : CallJ c (.ref 135) [VT (flatT ts)] [] m H Q X := by
  refine CallJ.run O ⟨⟨_, _, _, rfl⟩, rfl, rfl, rfl, rfl, rfl, rfl, rfl, rfl, by decide⟩ (.a1 fun _ => rfl) rfl ?_
  intro L hL Ok'
  show Exs _ _ [("x", VT (flatT ts))] H _ _
  walk_at "run"
  with_reducible refine K_strip_ansi Ok' hok hl ?_
  unfold vis at hv h
  walk_at "run"
  exact EndJ.retE h
theorem K_truncate {ts : List Tk} {k : Int} {Q : Value → HM → Prop} (O : Ok c (KK P) (n + 2)) (hok : okT ts) (hl : (flatT ts).length ≤ 1000000) (h : Q (VT (flatT (truncV k ts))) H) : CallJ c (.ref 142) [VT (flatT ts), VI k] [] m H Q X := by
  refine CallJ.run O ⟨⟨_, _, _, rfl⟩, rfl, rfl, rfl, rfl, rfl, rfl, rfl, rfl, by decide⟩ (.a2 fun _ _ => rfl) rfl ?_
  intro L hL Ok'
  show Exs _ _ [("n", VI k), ("text", VT (flatT ts))] H _ _
  walk_at "run"
  refine iteD (fun hk => ?_) (fun hk => ?_)
  · walk_at "run"
    unfold truncV at h
    rw [if_pos hk] at h
    exact EndJ.retE h
  · unfold truncV at h
    rw [if_neg hk] at h
    walk_at "run"
    refine Ex.whileG (fun j m' H' => ∃ cp pend rest v, j = rest.length ∧ ts = cp ++ pend ++ rest ∧ truncGo k v cp pend rest = truncGo k 0 [] [] ts ∧ H' = H ∧
      m' = ([("end", VI (flatT ts).length), ("cut", VI (flatT cp).length), ("i", VI (flatT (cp ++ pend)).length), ("visible", VI v), ("n", VI k), ("text", VT (flatT ts))] : LM)) ts.length
      (Keep.here ⟨[], [], ts, 0, rfl, rfl, rfl, rfl, rfl⟩) fun j m' H' hinv => ?_
    obtain ⟨cp, pend, rest, v, rfl, hts, hgo, rfl, rfl⟩ := hinv
    have hlen : (flatT ts).length = (flatT (cp ++ pend)).length + (flatT rest).length := by rw [hts, flatT_append, List.length_append]
    have hcp : (flatT cp).length ≤ (flatT (cp ++ pend)).length := by rw [flatT_append, List.length_append]; omega
    walk_at "run"
    refine iteD (fun hi => ?_) (fun hi => ?_)
    · cases rest with
      | nil => rw [show (flatT []).length = 0 from rfl] at hlen; omega
      | cons t r =>
        have hii : (flatT (cp ++ pend)).length < (flatT ts).length := by omega
        have hat : (flatT ts).getD (flatT (cp ++ pend)).length 0 = (t.flat ++ flatT r).getD 0 0 := by
          rw [hts, flatT_append, flatT_cons]
          exact getD_right (flatT (cp ++ pend)) (t.flat ++ flatT r) 0
        cases t with
        | ch x =>
          have hx : x ≠ 27 := (hok (.ch x) (by rw [hts]; simp)).1
          walk_at "run"
          refine K_ansi_match (by assumption) hii hl (.inl ⟨by rw [hat]; exact hx, ?_⟩)
          walk_at "run"
          refine iteD (fun hv => ?_) (fun hv => ?_)
          · walk_at "run"
            refine SliceG.str .non (Bnd.ofInt (by omega)) (by omega) ?_
            walk_at "run"
            have ex : truncGo k v cp pend (.ch x :: r) = cp ++ pend ++ [.ch x] := by unfold truncGo; rw [if_pos hv]
            rw [← hgo, ex] at h
            have e2 : cut (flatT ts) none (some (((flatT (cp ++ pend)).length : Int) + 1).toNat) = flatT (cp ++ pend ++ [.ch x]) := by
              rw [hts, show cp ++ pend ++ Tk.ch x :: r = (cp ++ pend ++ [.ch x]) ++ r from by simp]
              exact cut_flat (by rw [flatT_append, List.length_append]; simp [flatT, Tk.flat]; omega)
            rw [e2]
            exact EndJ.retE h
          · walk_at "run"
            have ex : truncGo k v cp pend (.ch x :: r) = truncGo k (v + 1) (cp ++ pend ++ [.ch x]) [] r := by
              conv => lhs; unfold truncGo
              rw [if_neg hv]
            have e3 : ((flatT (cp ++ pend ++ [.ch x])).length : Int) = (flatT (cp ++ pend)).length + 1 := by
              rw [flatT_append (cp ++ pend), List.length_append]; simp [flatT, Tk.flat]
            refine ⟨r.length, by simp, _, H', ?_, HM.le.refl _, cp ++ pend ++ [.ch x], [], r, v + 1, rfl, by rw [hts]; simp, by rw [← ex, hgo], rfl, rfl⟩
            rw [List.append_nil, e3]
            walk_at "le"
        | es p =>
          have hp : (Tk.es p).ok := hok (.es p) (by rw [hts]; simp)
          have hesc := esc_at (pre := flatT (cp ++ pend)) (post := flatT r) hp
          walk_at "run"
          refine K_ansi_match (by assumption) hii hl (.inr ⟨(flatT (cp ++ pend)).length + (p.length + 3), by rw [hts, flatT_append, flatT_cons]; exact hesc, fun a H' q1 q2 q3 => ?_⟩)
          walk_at "run"
          have ex : truncGo k v cp pend (.es p :: r) = truncGo k v cp (pend ++ [.es p]) r := by
            conv => lhs; unfold truncGo
          have e3 : ((flatT (cp ++ (pend ++ [.es p]))).length : Int) = ((flatT (cp ++ pend)).length + (p.length + 3) : Nat) := by
            rw [← List.append_assoc, flatT_append (cp ++ pend), List.length_append]; simp [flatT, Tk.flat]; omega
          refine ⟨r.length, by simp, _, _, ?_, q1, cp, pend ++ [.es p], r, v, rfl, by rw [hts]; simp, by rw [← ex, hgo], rfl, rfl⟩
          rw [e3]
          walk_at "le"
    · have : rest = [] := flatT_eq_nil (by omega)
      subst this
      walk_at "run"
      refine SliceG.str .non (Bnd.ofInt (by omega)) (by omega) ?_
      walk_at "run"
      have ex : truncGo k v cp pend [] = cp := by unfold truncGo; rfl
      rw [← hgo, ex] at h
      have e2 : cut (flatT ts) none (some ((flatT cp).length : Int).toNat) = flatT cp := by
        rw [hts, List.append_nil]
        exact cut_flat (by omega)
      rw [e2]
      exact EndJ.retE h
end

section
variable {c : FC} {P : Params} {n : Nat} {m : LM} {H : HM} {X : XM}

/-! ## _split -/
def isB (x : Nat) : Bool := decide (x ∈ [9, 10, 11, 12, 13, 32])
def chunkStep (acc : List (List Nat)) (x : Nat) : List (List Nat) := match acc.getLast? with
  | some (z :: zs) => if isB z == isB x then acc.dropLast ++ [(z :: zs) ++ [x]] else acc ++ [[x]]
  | _ => acc ++ [[x]]
def chunkL (l : List Nat) : List (List Nat) := l.foldl chunkStep []
theorem chunkL_snoc (l : List Nat) (x : Nat) : chunkL (l ++ [x]) = chunkStep (chunkL l) x := by unfold chunkL; rw [List.foldl_append]; rfl
theorem chunkStep_ne {acc : List (List Nat)} (h : ∀ z ∈ acc, z ≠ []) (x : Nat) : ∀ z ∈ chunkStep acc x, z ≠ [] := by
  intro z hz
  unfold chunkStep at hz
  split at hz
  · split at hz
    · rcases List.mem_append.mp hz with hz | hz
      · exact h z (List.dropLast_subset _ hz)
      · rw [List.mem_singleton.mp hz]; simp
    · rcases List.mem_append.mp hz with hz | hz
      · exact h z hz
      · rw [List.mem_singleton.mp hz]; simp
  · rcases List.mem_append.mp hz with hz | hz
    · exact h z hz
    · rw [List.mem_singleton.mp hz]; simp
theorem chunkL_ne (l : List Nat) : ∀ z ∈ chunkL l, z ≠ [] := by
  induction l using snocInd with
  | h0 => intro z hz; cases hz
  | h1 l x ih => rw [chunkL_snoc]; exact chunkStep_ne ih x
theorem chunkL_sum (l : List Nat) : (chunkL l).flatten = l := by
  induction l using snocInd with
  | h0 => rfl
  | h1 l x ih =>
    rw [chunkL_snoc]
    unfold chunkStep
    split
    · rename_i z zs e
      have e2 : chunkL l = (chunkL l).dropLast ++ [z :: zs] := getLast_split e
      split
      · rw [e2] at ih
        simp only [List.flatten_append, List.flatten_cons, List.flatten_nil, List.append_nil] at ih ⊢
        rw [← List.append_assoc, ih]
      · simp [ih]
    · simp [ih]
theorem chunkL_len (l : List Nat) : (chunkL l).length ≤ l.length := by
  induction l using snocInd with
  | h0 => simp [chunkL]
  | h1 l x ih =>
    rw [chunkL_snoc, List.length_append]
    unfold chunkStep
    split
    · rename_i z zs e
      split
      · simp; have : (chunkL l).length ≠ 0 := by intro q; rw [List.length_eq_zero_iff.mp q] at e; cases e
        omega
      · simp; omega
    · simp; omega
theorem K_split {x : Addr} {l : List Nat} {Q : Value → HM → Prop} (O : Ok c (KK P) (n + 1)) (hl : l.length ≤ 1000000) (h : ∀ r, H r = none → Q (.ref r) (H.set r (.list ((chunkL l).map VT)))) : CallJ c (.ref 58) [.ref x, VT l] [] m H Q X := by
  refine CallJ.run O ⟨⟨_, _, _, rfl⟩, rfl, rfl, rfl, rfl, rfl, rfl, rfl, rfl, by decide⟩ (.a2 fun _ _ => rfl) rfl ?_
  intro L hL Ok'
  show Exs _ _ [("text", VT l), ("self", .ref x)] H _ _
  walk_at "run"
  rename_i r hr
  refine Ex.forG Ok'.hh ?_ (fun _ => rfl)
  walk_at "run"
  refine ⟨_, _, _, _, Src.str l (by omega), fun k m' H' => H' = H.set r (.list ((chunkL (l.take k)).map VT)) ∧ m' = ([("chunks", .ref r), ("text", VT l), ("self", .ref x)] : LM), Keep.here ⟨rfl, rfl⟩, ?_, ?_⟩
  · rintro k v m' H' hx ⟨rfl, rfl⟩
    rw [List.getElem?_map, Option.map_eq_some_iff] at hx
    obtain ⟨y, hy, rfl⟩ := hx
    have htk : l.take (k + 1) = l.take k ++ [y] := by rw [List.take_add_one, hy]; rfl
    have hkl : k < l.length := (List.getElem?_eq_some_iff.mp hy).1
    have hcl : (chunkL (l.take k)).length ≤ 1000000 := by have := chunkL_len (l.take k); simp at this; omega
    have hne := chunkL_ne (l.take k)
    have hsum := chunkL_sum (l.take k)
    generalize hC : chunkL (l.take k) = C at *
    rcases List.eq_nil_or_concat C with rfl | ⟨C', z, rfl⟩
    · walk_at "run"
      refine iteFe rfl ?_
      walk_at "run"
      refine ⟨_, _, ?_, HM.le.refl _, ?_, rfl⟩
      · walk_at "le"
      · rw [htk, chunkL_snoc, hC, HM.set_set]; rfl
    · cases z with
      | nil => exact absurd rfl (hne [] (by simp))
      | cons z zs =>
        have hcl' : (C'.map VT).length + 1 ≤ 1000000 := by rw [List.concat_eq_append, List.length_append] at hcl; simpa using hcl
        have hzl : (z :: zs).length ≤ 1000000 := by
          have := congrArg List.length hsum
          rw [List.concat_eq_append, List.flatten_append, List.length_append, List.length_take] at this
          simp at this ⊢; omega
        rw [List.concat_eq_append, List.map_append, List.map_cons, List.map_nil]
        have hcl2 : (List.map VT C' ++ [VT (z :: zs)]).length ≤ 16000000 := by rw [List.length_append]; simp at hcl' ⊢; omega
        walk_at "run"
        refine iteTe (by simp) ?_
        walk_at "run"
        have hst : chunkL (l.take (k + 1)) = if isB z == isB y then C' ++ [(z :: zs) ++ [y]] else (C' ++ [z :: zs]) ++ [[y]] := by
          rw [htk, chunkL_snoc, hC]
          unfold chunkStep
          rw [List.concat_eq_append, List.getLast?_append]
          simp
        refine iteB (fun hb => ?_) (fun hb => ?_)
        · walk_at "run"
          refine ⟨_, _, ?_, HM.le.refl _, ?_, rfl⟩
          · walk_at "le"
          · rw [hst, if_pos (show (isB z == isB y) = true from hb), HM.set_set, List.map_append]; rfl
        · walk_at "run"
          refine ⟨_, _, ?_, HM.le.refl _, ?_, rfl⟩
          · walk_at "le"
          · rw [hst, if_neg (by rw [show (isB z == isB y) = false from hb]; exact Bool.false_ne_true), HM.set_set, List.map_append, List.map_append]; rfl
  · rintro m' H' ⟨rfl, rfl⟩
    walk_at "run"
    rw [List.length_map, List.take_length]
    exact EndJ.retE (h r hr)
end

section
variable {c : FC} {P : Params} {n : Nat} {m : LM} {H : HM} {X : XM}

def tw (w : Int) (a b : List Nat) : List (Str × Value) := [("width", VI w), ("initial_indent", VT a), ("subsequent_indent", VT b), ("replace_whitespace", VB false), ("drop_whitespace", VB true), ("break_long_words", VB true), ("max_lines", .none), ("placeholder", VT [32, 91, 46, 46, 46, 93])]
theorem kcons {Ks : List (Str × Value)} {x : Str} {v : Value} {r : List (Str × Value)} (h : Ks.map (fun p => (p.1, er p.2)) = (x, v) :: r) : ∃ V Kr, Ks = (x, V) :: Kr ∧ er V = v ∧ Kr.map (fun p => (p.1, er p.2)) = r := by
  cases Ks with
  | nil => cases h
  | cons p Kr =>
    rw [List.map_cons, List.cons.injEq, Prod.mk.injEq] at h
    obtain ⟨⟨rfl, h2⟩, h3⟩ := h
    exact ⟨p.2, Kr, rfl, h2, h3⟩
theorem K_init {x d : Addr} {w : Int} {a b : List Nat} {Q : Value → HM → Prop} (O : Ok c (KK P) (n + 1)) (hx : H x = some (.raw (instObj 180 d))) (hd : H d = some (.dic [])) (hxd : x ≠ d) (h : Q .none (H.set d (.dic (tw w a b)))) :
    CodeJ c (.ref 51) [.ref x, VI w] [("initial_indent", VT a), ("subsequent_indent", VT b), ("replace_whitespace", VB false)] m H Q := by
  refine CodeJ.run (bs := [("self", .ref x), ("width", VI w), ("initial_indent", VT a), ("subsequent_indent", VT b), ("replace_whitespace", VB false), ("drop_whitespace", VB true), ("break_long_words", VB true), ("max_lines", .none), ("placeholder", VT [32, 91, 46, 46, 46, 93])])
    O ⟨⟨_, _, _, rfl⟩, rfl, rfl, rfl, rfl, rfl, rfl, rfl, rfl, by decide⟩ ?_ rfl ?_
  · intro Vs Ks e1 e2
    obtain ⟨V, W, rfl, hV, hW⟩ := call2 e1
    obtain ⟨A, Kr, rfl, hA, e2⟩ := kcons e2
    obtain ⟨B, Kr, rfl, hB, e2⟩ := kcons e2
    obtain ⟨C, Kr, rfl, hC, e2⟩ := kcons e2
    obtain rfl := kw0 e2
    refine ⟨[("self", V), ("width", W), ("initial_indent", A), ("subsequent_indent", B), ("replace_whitespace", C), ("drop_whitespace", .bool true), ("break_long_words", .bool true), ("max_lines", .none), ("placeholder", .str (S [32, 91, 46, 46, 46, 93]) _)], fun s X => binds_K X rfl rfl rfl rfl rfl, ?_⟩
    simp only [List.map_cons, List.map_nil, hV, hW, hA, hB, hC]
    rfl
  · intro L hL Ok'
    show Exs _ _ [("placeholder", VT [32, 91, 46, 46, 46, 93]), ("max_lines", .none), ("break_long_words", VB true), ("drop_whitespace", VB true), ("replace_whitespace", VB false), ("subsequent_indent", VT b), ("initial_indent", VT a), ("width", VI w), ("self", .ref x)] H _ _
    walk_at "run"
    simp only [HM.set_set]
    exact EndJ.nextE h
end

section
variable {c : FC} {P : Params} {n : Nat} {m : LM} {H : HM} {X : XM}

theorem K_term_lenR {ts : List Tk} {Q : Value → HM → Prop} (O : Ok c (KK P) (n + 2)) (hok : okT ts) (hl : (flatT ts).length ≤ 1000000) (h : Q (VI (vis ts)) H) : CallR c (.ref 135) [VT (flatT ts)] m H Q := by
  with_reducible refine CallR.run O ⟨⟨_, _, _, rfl⟩, rfl, rfl, rfl, rfl, rfl, rfl, rfl, rfl, by decide⟩ (.a1 fun _ => rfl) rfl ?_
  intro L hL Ok'
  show Exs _ _ [("x", VT (flatT ts))] H _ _
  walk_at "run"
  with_reducible refine K_strip_ansi Ok' hok hl ?_
  have hv := vis_le ts
  unfold vis at hv h
  walk_at "run"
  exact EndJ.retE h
theorem K_handle {x d rc cl : Addr} {w : Int} {a b : List Nat} {us vs : List Value} {t : List Tk} {cur wd : Int} {Q : Value → HM → Prop} (O : Ok c (KK P) (n + 3)) (hx : H x = some (.raw (instObj 180 d))) (hd : H d = some (.dic (tw w a b)))
    (hr : H rc = some (.list (vs ++ [VT (flatT t)]))) (hc : H cl = some (.list us)) (hne : rc ≠ cl) (hok : okT t) (hl : (flatT t).length ≤ 1000000) (lv : vs.length ≤ 1000000) (lu : us.length ≤ 1000000)
    (h : Q .none ((H.set cl (.list (us ++ [VT (flatT (truncV (max (wd - cur) 1) t))]))).set rc (.list (vs ++ [VT (flatT (restT (max (wd - cur) 1) t))])))) :
    CallJ c (.ref 156) [.ref x, .ref rc, .ref cl, VI cur, VI wd] [] m H Q X := by
  refine CallJ.run O ⟨⟨_, _, _, rfl⟩, rfl, rfl, rfl, rfl, rfl, rfl, rfl, rfl, by decide⟩ (.a5 fun _ _ _ _ _ => rfl) rfl ?_
  intro L hL Ok'
  show Exs _ _ [("width", VI wd), ("cur_len", VI cur), ("cur_line", .ref cl), ("reversed_chunks", .ref rc), ("self", .ref x)] H _ _
  walk_at "run"
  refine C_max Ok'.hh ?_
  walk_at "run"
  with_reducible refine K_truncate Ok' hok hl ?_
  have ht := trunc_rest (max (wd - cur) 1) t
  have hcl := congrArg (fun z => (flatT z).length) ht
  simp only [flatT_append, List.length_append] at hcl
  walk_at "run"
  refine SliceG.str (Bnd.ofInt (by omega)) .non (by omega) ?_
  walk_at "run"
  refine EndJ.nextE ?_
  rw [show cut (flatT t) (some ((flatT (truncV (max (wd - cur) 1) t)).length : Int).toNat) none = flatT (restT (max (wd - cur) 1) t) from by
    conv => lhs; arg 1; rw [← ht]
    exact cut_flat2 (by omega)]
  exact h
end

section
variable {c : FC} {P : Params} {n : Nat} {m : LM} {H : HM} {X : XM}
def VTs (cs : List (List Tk)) : List Value := cs.map fun t => VT (flatT t)
/-- the lists of _wrap_chunks -/
structure ChF (rc ln cl : Addr) (H H2 : HM) (cs ls line : List (List Tk)) : Prop where
  u : Upd [rc] H H2
  r : H2 rc = some (.list (VTs cs).reverse)
  l : H2 ln = some (.list (VTs ls))
  c : H2 cl = some (.list (VTs line))
theorem VTs_rev (t : List Tk) (cs : List (List Tk)) : (VTs (t :: cs)).reverse = (VTs cs).reverse ++ [VT (flatT t)] := by unfold VTs; simp
theorem VTs_snoc (t : List Tk) (cs : List (List Tk)) : VTs (cs ++ [t]) = VTs cs ++ [VT (flatT t)] := by unfold VTs; simp
theorem Sized.vlen {cs : List (List Tk)} (h : Sized cs) : (VTs cs).length ≤ 100000 := by unfold VTs; rw [List.length_map]; exact h.ln
set_option maxHeartbeats 2000000 in
theorem K_chunks {x d rc : Addr} {w : Int} {fi fr : List Tk} {cs out : List (List Tk)} {k : Nat} {Q : Value → HM → Prop} (O : Ok c (KK P) (n + 5)) (hx : H x = some (.raw (instObj 180 d))) (hd : H d = some (.dic (tw w (flatT fi) (flatT fr))))
    (hr : H rc = some (.list (VTs cs))) (hw : 0 < w) (oi : okT fi) (or : okT fr) (li : (flatT fi).length ≤ 100000) (lr : (flatT fr).length ≤ 100000) (hs : Sized cs) (hk : k ≤ 100000) (hf : wrapF w fi fr k cs [] = some out)
    (h : ∀ H' ln, H ln = none → Upd [rc] H H' → H' ln = some (.list (VTs out)) → Q (.ref ln) H') : CallJ c (.ref 163) [.ref x, .ref rc] [] m H Q X := by
  have nxr : x ≠ rc := by rintro rfl; rw [hx] at hr; cases hr
  have ndr : d ≠ rc := by rintro rfl; rw [hd] at hr; cases hr
  have lcs : (VTs cs).length ≤ 100000 := by unfold VTs; rw [List.length_map]; exact hs.ln
  refine CallJ.run O ⟨⟨_, _, _, rfl⟩, rfl, rfl, rfl, rfl, rfl, rfl, rfl, rfl, by decide⟩ (.a2 fun _ _ => rfl) rfl ?_
  intro L hL Ok'
  show Exs _ _ [("chunks", .ref rc), ("self", .ref x)] H _ _
  walk_at "run"
  rename_i ln hln
  refine iteD (fun hk => absurd hk (by omega)) (fun _ => ?_)
  walk_at "run"
  refine Ex.whileG (fun j m' H' => ∃ cs ls, Sized cs ∧ wrapF w fi fr j cs ls = some out ∧ ls.length + j ≤ 100000 ∧ Upd [rc] H H' ∧ H' rc = some (.list (VTs cs).reverse) ∧ H' ln = some (.list (VTs ls)) ∧
      m' = ([("lines", .ref ln), ("chunks", .ref rc), ("self", .ref x)] : LM)) k ?_ fun j m' H' hinv => ?_
  · refine Keep.here ⟨cs, [], hs, hf, by simpa using hk, ?_, ?_, ?_, rfl⟩
    · walk_at "upd"
    · walk_at "heap"
    · walk_at "heap"
  · obtain ⟨cs, ls, hs, hf, hj, hu, hrc, hl, rfl⟩ := hinv
    have hx' := hu x _ (by simp [nxr]) hx
    have hd' := hu d _ (by simp [ndr]) hd
    have lcs : (VTs cs).reverse.length ≤ 100000 := by unfold VTs; rw [List.length_reverse, List.length_map]; exact hs.ln
    have lls : (VTs ls).length ≤ 100000 := by unfold VTs; rw [List.length_map]; omega
    walk_at "run"
    cases cs with
    | nil =>
      have hf : some ls = some out := by cases j <;> exact hf
      cases hf
      refine iteFe rfl ?_
      walk_at "run"
      exact EndJ.retE (h _ _ hln hu hl)
    | cons t cs =>
      refine iteTe (by simp [VTs]) ?_
      walk_at "run"
      rename_i cl hcl
      have hcl0 : H cl = none := by
        have n1 : cl ≠ rc := by rintro rfl; rw [hcl] at hrc; cases hrc
        exact hu.none (by simp [n1]) hcl
      have n1 : cl ≠ rc := by rintro rfl; rw [hcl] at hrc; cases hrc
      have n2 : cl ≠ ln := by rintro rfl; rw [hcl] at hl; cases hl
      have n3 : ln ≠ rc := by rintro rfl; rw [hln] at hr; cases hr
      have f0 : ChF rc ln cl H (H'.set cl (.list [])) (t :: cs) ls [] := ⟨by walk_at "upd", by walk_at "heap", by walk_at "heap", by walk_at "heap"⟩
      have xd : ∀ {H2 cs' ls' line'}, ChF rc ln cl H H2 cs' ls' line' → H2 x = some (.raw (instObj 180 d)) ∧ H2 d = some (.dic (tw w (flatT fi) (flatT fr))) := fun f => ⟨f.u x _ (by simp [nxr]) hx, f.u d _ (by simp [ndr]) hd⟩
      generalize H'.set cl (.list []) = H2 at f0
      obtain ⟨ind, hind⟩ : ∃ ind, ind = if ls = [] then fi else fr := ⟨_, rfl⟩
      have oind : okT ind := by rw [hind]; split <;> assumption
      have lind : (flatT ind).length ≤ 100000 := by rw [hind]; split <;> assumption
      with_reducible refine Exs.ifVia (fun m2 H2 => ChF rc ln cl H H2 (t :: cs) ls [] ∧ m2 = ([("indent", VT (flatT ind)), ("cur_len", VI 0), ("cur_line", .ref cl), ("lines", .ref ln), ("chunks", .ref rc), ("self", .ref x)] : LM)) ?_ ?_
      · obtain ⟨hx2, hd2⟩ := xd f0
        refine iteB (fun hb => ?_) (fun hb => ?_)
        · have : ls ≠ [] := by rintro rfl; cases hb
          rw [if_neg this] at hind; subst hind
          walk_at "run"
          exact ViaJ.mk (by walk_at "le") ⟨f0, rfl⟩
        · have : ls = [] := by cases ls with
            | nil => rfl
            | cons => cases hb
          rw [if_pos this] at hind; subst hind
          walk_at "run"
          exact ViaJ.mk (by walk_at "le") ⟨f0, rfl⟩
      rintro m2 H2 ⟨f1, rfl⟩
      with_reducible refine Exs.via (fun m2 H2 => ChF rc ln cl H H2 (t :: cs) ls [] ∧ m2 = ([("width", VI (w - vis ind)), ("indent", VT (flatT ind)), ("cur_len", VI 0), ("cur_line", .ref cl), ("lines", .ref ln), ("chunks", .ref rc), ("self", .ref x)] : LM)) ?_ ?_
      · obtain ⟨hx2, hd2⟩ := xd f1
        walk_at "run"
        with_reducible refine K_term_len Ok' oind (by omega) (by have := vis_le ind; omega) ?_
        walk_at "run"
        exact ViaJ.mk (by walk_at "le") ⟨f1, rfl⟩
      rintro m2 H3 ⟨f2, rfl⟩
      generalize hwd : w - vis ind = wd
      obtain ⟨ot, lt, hs'⟩ := hs.head
      with_reducible refine Exs.via (fun m2 H2 => ChF rc ln cl H H2 (dropB (!ls.isEmpty) (t :: cs)) ls [] ∧ m2 = ([("width", VI wd), ("indent", VT (flatT ind)), ("cur_len", VI 0), ("cur_line", .ref cl), ("lines", .ref ln), ("chunks", .ref rc), ("self", .ref x)] : LM)) ?_ ?_
      · obtain ⟨hx2, hd2⟩ := xd f2
        have hr2 := f2.r
        have hl2 := f2.l
        rw [VTs_rev] at hr2
        have := hs'.vlen
        have lrv : (VTs cs).reverse.length < 16000000 := by rw [List.length_reverse]; omega
        have dB : dropB (!ls.isEmpty) (t :: cs) = if (blankT t && !ls.isEmpty) = true then cs else t :: cs := rfl
        walk_at "run"
        refine iteD (fun hb => ?_) (fun hb => ?_)
        · have hb' : blankT t = true := decide_eq_true hb
          walk_at "run"
          refine iteB (fun hb2 => ?_) (fun hb2 => ?_)
          · have e2 : (!ls.isEmpty) = true := by cases ls with
              | nil => cases hb2
              | cons => rfl
            walk_at "run"
            refine ViaJ.mk (by walk_at "le") ⟨?_, rfl⟩
            rw [dB, hb', e2, Bool.and_self, if_pos rfl]
            have f2u := f2.u
            have f2l := f2.l
            have f2c := f2.c
            exact ⟨by walk_at "upd", by walk_at "heap", by walk_at "heap", by walk_at "heap"⟩
          · have e2 : (!ls.isEmpty) = false := by cases ls with
              | nil => rfl
              | cons => cases hb2
            walk_at "run"
            refine ViaJ.mk (by walk_at "le") ⟨?_, rfl⟩
            rw [dB, e2, Bool.and_false, if_neg Bool.false_ne_true]
            exact f2
        · have hb' : blankT t = false := decide_eq_false hb
          walk_at "run"
          refine ViaJ.mk (by walk_at "le") ⟨?_, rfl⟩
          rw [dB, hb', Bool.false_and, if_neg Bool.false_ne_true]
          exact f2
      rintro m2 H4 ⟨f3, rfl⟩
      have hsd : Sized (dropB (!ls.isEmpty) (t :: cs)) := by
        show Sized (if (blankT t && !ls.isEmpty) = true then cs else t :: cs)
        split
        · exact hs'
        · exact hs
      have hlay : lay1 wd (!ls.isEmpty) (t :: cs) = (trimB (cutLong wd (greedy wd 0 [] (dropB (!ls.isEmpty) (t :: cs))).1 (greedy wd 0 [] (dropB (!ls.isEmpty) (t :: cs))).2.1 (greedy wd 0 [] (dropB (!ls.isEmpty) (t :: cs))).2.2).1, (cutLong wd (greedy wd 0 [] (dropB (!ls.isEmpty) (t :: cs))).1 (greedy wd 0 [] (dropB (!ls.isEmpty) (t :: cs))).2.1 (greedy wd 0 [] (dropB (!ls.isEmpty) (t :: cs))).2.2).2) := rfl
      generalize dropB (!ls.isEmpty) (t :: cs) = ds at f3 hsd hlay
      generalize hg : greedy wd 0 [] ds = g at hlay
      with_reducible refine Exs.via (fun m2 H2 => ChF rc ln cl H H2 g.2.2 ls g.2.1 ∧ Sized (g.2.1 ++ g.2.2) ∧ m2 = ([("width", VI wd), ("indent", VT (flatT ind)), ("cur_len", VI g.1), ("cur_line", .ref cl), ("lines", .ref ln), ("chunks", .ref rc), ("self", .ref x)] : LM)) ?_ ?_
      · walk_at "run"
        refine Ex.whileG (fun j m' H' => ∃ cur line cs, j = cs.length ∧ greedy wd cur line cs = g ∧ Sized (line ++ cs) ∧ ChF rc ln cl H H' cs ls line ∧
          m' = ([("width", VI wd), ("indent", VT (flatT ind)), ("cur_len", VI cur), ("cur_line", .ref cl), ("lines", .ref ln), ("chunks", .ref rc), ("self", .ref x)] : LM)) ds.length (Keep.here ⟨0, [], ds, rfl, hg, hsd, f3, rfl⟩) fun j m' H' hinv => ?_
        obtain ⟨cur, line, es, rfl, hgr, hse, fc, rfl⟩ := hinv
        have fr := fc.r
        have fcc := fc.c
        have fu := fc.u
        have fl := fc.l
        have lln := hse.ln
        rw [List.length_append] at lln
        have lrv : (VTs es).reverse.length < 16000000 := by unfold VTs; rw [List.length_reverse, List.length_map]; omega
        have lvl : (VTs line).length ≤ 100000 := by unfold VTs; rw [List.length_map]; omega
        cases es with
        | nil =>
          walk_at "run"
          refine iteFe rfl ?_
          have hgr : (cur, line, []) = g := hgr
          subst hgr
          exact ViaJ.mk (by walk_at "le") ⟨fc, hse, rfl⟩
        | cons e es =>
          have hoe : okT e := hse.ok _ (by simp)
          have hle : (flatT e).length ≤ 100000 := by
            have := hse.fl
            simp only [List.flatten_append, List.flatten_cons, flatT_append, List.length_append] at this
            omega
          rw [VTs_rev] at fr
          have lrv3 : ((VTs es).reverse ++ [VT (flatT e)]).length ≤ 16000000 := by rw [← VTs_rev]; omega
          walk_at "run"
          refine iteTe (by simp) ?_
          have lrv2 : (VTs es).reverse.length < 16000000 := by unfold VTs at lrv ⊢; simp at lrv ⊢; omega
          walk_at "run"
          with_reducible refine K_term_len Ok' hoe (by omega) (by have := vis_le e; omega) ?_
          walk_at "run"
          have gu : greedy wd cur line (e :: es) = if cur + vis e ≤ wd then greedy wd (cur + vis e) (line ++ [e]) es else (cur, line, e :: es) := rfl
          refine iteD (fun hb => ?_) (fun hb => ?_)
          · rw [if_pos hb] at gu
            walk_at "run"
            refine ⟨es.length, Nat.lt_succ_self _, _, _, ?_, HM.le.refl _, cur + vis e, line ++ [e], es, rfl, by rw [← gu]; exact hgr, by simpa using hse, ⟨by walk_at "upd", by walk_at "heap", by walk_at "heap", by rw [VTs_snoc]; walk_at "heap"⟩, rfl⟩
            walk_at "le"
          · rw [if_neg hb] at gu
            walk_at "run"
            rw [gu] at hgr
            subst hgr
            exact ViaJ.mk (by walk_at "le") ⟨fc, hse, rfl⟩
      rintro m2 H5 ⟨f4, hs4, rfl⟩
      have hcut := cut_sized (wd := wd) (cur := g.1) hs4
      obtain ⟨gcur, gline, gcs⟩ := g
      simp only at f4 hs4 hcut hlay
      generalize hq : cutLong wd gcur gline gcs = q at hcut hlay
      have hlay : lay1 wd (!ls.isEmpty) (t :: cs) = (trimB q.1, q.2) := hlay
      with_reducible refine Exs.via (fun m2 H2 => ChF rc ln cl H H2 q.2 ls q.1 ∧ ∃ cur', m2 = ([("width", VI wd), ("indent", VT (flatT ind)), ("cur_len", VI cur'), ("cur_line", .ref cl), ("lines", .ref ln), ("chunks", .ref rc), ("self", .ref x)] : LM)) ?_ ?_
      · obtain ⟨hx2, hd2⟩ := xd f4
        have fr := f4.r
        have fcc := f4.c
        have fu := f4.u
        have fl := f4.l
        have lln := hs4.ln
        rw [List.length_append] at lln
        have lrv : (VTs gcs).reverse.length < 16000000 := by unfold VTs; rw [List.length_reverse, List.length_map]; omega
        cases gcs with
        | nil =>
          walk_at "run"
          refine iteFe rfl ?_
          walk_at "run"
          have hq : (gline, []) = q := hq
          subst hq
          exact ViaJ.mk (by walk_at "le") ⟨f4, _, rfl⟩
        | cons e es =>
          have hoe : okT e := hs4.ok _ (by simp)
          have hle : (flatT e).length ≤ 100000 := by
            have := hs4.fl
            simp only [List.flatten_append, List.flatten_cons, flatT_append, List.length_append] at this
            omega
          rw [VTs_rev] at fr
          have lrv3 : ((VTs es).reverse ++ [VT (flatT e)]).length ≤ 16000000 := by rw [← VTs_rev]; omega
          have lrv2 : (VTs es).reverse.length < 16000000 := by unfold VTs at lrv ⊢; simp at lrv ⊢; omega
          walk_at "run"
          refine iteTe (by simp) ?_
          walk_at "run"
          with_reducible refine K_term_len Ok' hoe (by omega) (by have := vis_le e; omega) ?_
          walk_at "run"
          refine iteD (fun hb => ?_) (fun hb => ?_)
          · have hq : (if (vis e : Int) > wd then (gline ++ [truncV (max (wd - gcur) 1) e], restT (max (wd - gcur) 1) e :: es) else (gline, e :: es)) = q := hq
            rw [if_pos hb] at hq
            subst hq
            obtain ⟨hlo, hso⟩ := hcut
            walk_at "run"
            with_reducible refine K_handle (n := n + 1) (by assumption) hx2 hd2 fr fcc (Ne.symm n1) hoe (by omega) (by unfold VTs; rw [List.length_reverse, List.length_map]; simp at lln; omega) (by unfold VTs; rw [List.length_map]; omega) ?_
            have f5 : ChF rc ln cl H ((H5.set cl (.list (VTs gline ++ [VT (flatT (truncV (max (wd - gcur) 1) e))]))).set rc (.list ((VTs es).reverse ++ [VT (flatT (restT (max (wd - gcur) 1) e))]))) (restT (max (wd - gcur) 1) e :: es) ls (gline ++ [truncV (max (wd - gcur) 1) e]) :=
              ⟨by walk_at "upd", by rw [VTs_rev]; walk_at "heap", by walk_at "heap", by rw [VTs_snoc]; walk_at "heap"⟩
            generalize (H5.set cl (.list (VTs gline ++ [VT (flatT (truncV (max (wd - gcur) 1) e))]))).set rc (.list ((VTs es).reverse ++ [VT (flatT (restT (max (wd - gcur) 1) e))])) = H6 at f5
            simp only at hlo hso
            generalize gline ++ [truncV (max (wd - gcur) 1) e] = line3 at f5 hlo
            generalize restT (max (wd - gcur) 1) e :: es = cs3 at f5 hso
            have hc6 := f5.c
            have hu6 := f5.u
            have hr6 := f5.r
            have hl6 := f5.l
            walk_at "run"
            refine C_map hc6 ?_
            intro M T it oM oT oi hM hT hit e1 e2 e3 aM aT aI
            have m1 : it ≠ cl := by rintro rfl; rw [hc6] at hit; cases hit
            have m2 : it ≠ rc := by rintro rfl; rw [hr6] at hit; cases hit
            have m3 : it ≠ ln := by rintro rfl; rw [hl6] at hit; cases hit
            have m4 : T ≠ cl := by rintro rfl; rw [hc6] at hT; cases hT
            have m5 : T ≠ rc := by rintro rfl; rw [hr6] at hT; cases hT
            have m6 : T ≠ ln := by rintro rfl; rw [hl6] at hT; cases hT
            have m7 : M ≠ cl := by rintro rfl; rw [hc6] at hM; cases hM
            have m8 : M ≠ rc := by rintro rfl; rw [hr6] at hM; cases hM
            have m9 : M ≠ ln := by rintro rfl; rw [hl6] at hM; cases hM
            have hit0 : H it = none := hu6.none (by simp [m2]) hit
            have hT0 : H T = none := hu6.none (by simp [m5]) hT
            have hM0 : H M = none := hu6.none (by simp [m8]) hM
            walk_at "run"
            refine C_sum (val := fun i => vis (line3.getD i [])) (n := n + 2) (by assumption) (HM.set_same _ _ _) ((HM.set_ne _ _ (Ne.symm e1)).trans (HM.set_same _ _ _)) ((HM.set_ne _ _ (Ne.symm e2)).trans ((HM.set_ne _ _ (Ne.symm e3)).trans (HM.set_same _ _ _))) ((HM.set_ne _ _ (Ne.symm m7)).trans ((HM.set_ne _ _ (Ne.symm m4)).trans ((HM.set_ne _ _ (Ne.symm m1)).trans hc6))) aM aT aI (fun c' _ _ _ _ O' i v hv => ?_) ?_
            · unfold VTs at hv
              rw [List.getElem?_map, Option.map_eq_some_iff] at hv
              obtain ⟨y, hy, rfl⟩ := hv
              have hmem := List.mem_of_getElem? hy
              with_reducible refine K_term_lenR O' (hlo.ok y hmem) ?_ ?_
              · have := hlo.fl
                have h2 : (flatT y).length ≤ (flatT line3.flatten).length := by
                  obtain ⟨s1, s2, rfl⟩ := List.append_of_mem hmem
                  simp only [List.flatten_append, List.flatten_cons, flatT_append, List.length_append]; omega
                omega
              · show VI _ = VI _
                rw [List.getD_eq_getElem?_getD, hy]; rfl
            · walk_at "run"
              refine ViaJ.mk (by walk_at "le") ⟨⟨?_, ?_, ?_, ?_⟩, _, rfl⟩
              · exact Upd.del hit0 (Upd.old hM0 (Upd.old hT0 (Upd.old hit0 hu6)))
              · exact HM.delX (Ne.symm m2) ((HM.set_ne _ _ (Ne.symm m8)).trans ((HM.set_ne _ _ (Ne.symm m5)).trans ((HM.set_ne _ _ (Ne.symm m2)).trans hr6)))
              · exact HM.delX (Ne.symm m3) ((HM.set_ne _ _ (Ne.symm m9)).trans ((HM.set_ne _ _ (Ne.symm m6)).trans ((HM.set_ne _ _ (Ne.symm m3)).trans hl6)))
              · exact HM.delX (Ne.symm m1) ((HM.set_ne _ _ (Ne.symm m7)).trans ((HM.set_ne _ _ (Ne.symm m4)).trans ((HM.set_ne _ _ (Ne.symm m1)).trans hc6)))
          · walk_at "run"
            have hq : (if (vis e : Int) > wd then (gline ++ [truncV (max (wd - gcur) 1) e], restT (max (wd - gcur) 1) e :: es) else (gline, e :: es)) = q := hq
            rw [if_neg hb] at hq
            subst hq
            exact ViaJ.mk (by walk_at "le") ⟨f4, _, rfl⟩
      rintro m2 H6 ⟨f5, cur2, rfl⟩
      with_reducible refine Exs.via (fun m2 H2 => ChF rc ln cl H H2 q.2 ls (trimB q.1) ∧ ∃ cur', m2 = ([("width", VI wd), ("indent", VT (flatT ind)), ("cur_len", VI cur'), ("cur_line", .ref cl), ("lines", .ref ln), ("chunks", .ref rc), ("self", .ref x)] : LM)) ?_ ?_
      · obtain ⟨hx2, hd2⟩ := xd f5
        obtain ⟨hlo, hso⟩ := hcut
        have fr := f5.r
        have fcc := f5.c
        have fu := f5.u
        have fl := f5.l
        have lvl : (VTs q.1).length ≤ 1000000 := by have := hlo.ln; unfold VTs; rw [List.length_map]; omega
        generalize q.1 = line at f5 hlo fcc lvl
        rcases List.eq_nil_or_concat line with rfl | ⟨l0, e, rfl⟩
        · walk_at "run"
          refine iteFe rfl ?_
          walk_at "run"
          exact ViaJ.mk (by walk_at "le") ⟨f5, _, rfl⟩
        · rw [List.concat_eq_append] at f5 hlo fcc lvl ⊢
          rw [VTs_snoc] at fcc lvl
          rw [trimB_snoc]
          have hoe : okT e := hlo.ok _ (by simp)
          have hle : (flatT e).length ≤ 100000 := by
            have := hlo.fl
            simp only [List.flatten_append, List.flatten_cons, flatT_append, List.length_append] at this
            omega
          have lv0 : (VTs l0).length < 16000000 := by rw [List.length_append] at lvl; omega
          walk_at "run"
          refine iteTe (by simp) ?_
          walk_at "run"
          refine iteD (fun hb => ?_) (fun hb => ?_)
          · rw [if_pos (show blankT e = true from decide_eq_true hb)]
            walk_at "run"
            with_reducible refine K_term_len (by assumption) hoe (by omega) (by have := vis_le e; omega) ?_
            walk_at "run"
            exact ViaJ.mk (by walk_at "le") ⟨⟨by walk_at "upd", by walk_at "heap", by walk_at "heap", by walk_at "heap"⟩, _, rfl⟩
          · rw [if_neg (show ¬ blankT e = true from fun z => hb (of_decide_eq_true z))]
            walk_at "run"
            exact ViaJ.mk (by walk_at "le") ⟨f5, _, rfl⟩
      rintro m2 H7 ⟨f6, cur3, rfl⟩
      obtain ⟨hx2, hd2⟩ := xd f6
      have htr := trim_ok hcut.1
      have hso := hcut.2
      cases j with
      | zero => cases hf
      | succ j =>
        have hf : wrapF w fi fr j (lay1 (w - vis (if ls = [] then fi else fr)) (!ls.isEmpty) (t :: cs)).2 (if (lay1 (w - vis (if ls = [] then fi else fr)) (!ls.isEmpty) (t :: cs)).1 = [] then ls else ls ++ [(if ls = [] then fi else fr) ++ (lay1 (w - vis (if ls = [] then fi else fr)) (!ls.isEmpty) (t :: cs)).1.flatten]) = some out := hf
        rw [← hind, hwd, hlay] at hf
        simp only at hf
        generalize q.2 = cs3 at f6 hso hf
        generalize trimB q.1 = line at f6 htr hf
        have fr := f6.r
        have fcc := f6.c
        have fu := f6.u
        have fl := f6.l
        have lvl : (VTs line).length ≤ 1000000 := by have := htr.ln; unfold VTs; rw [List.length_map]; omega
        cases line with
        | nil =>
          walk_at "run"
          refine iteFe rfl ?_
          walk_at "run"
          rw [if_pos rfl] at hf
          exact ⟨j, Nat.lt_succ_self _, _, _, by walk_at "le", HM.le.refl _, cs3, ls, hso, hf, by omega, fu, fr, fl, rfl⟩
        | cons e es =>
          have fj : H7 cl = some (.list (((e :: es).map flatT).map VT)) := by rw [List.map_map]; exact fcc
          have ff := htr.fl
          have hl3 : (((e :: es).map flatT).map VT).length ≤ 16000000 := by have := htr.ln; rw [List.length_map, List.length_map]; omega
          have hjs : joinSize [] ((e :: es).map flatT) ≤ 16000000 := by rw [joinSize_nil, flatT_flatten]; omega
          have hjl : joinL [] ((e :: es).map flatT) = flatT (e :: es).flatten := by rw [joinL_nil, flatT_flatten]
          have hjn : (joinL [] ((e :: es).map flatT)).length ≤ 100000 := by rw [hjl]; exact ff
          walk_at "run"
          refine iteTe (by simp) ?_
          walk_at "run"
          rw [if_neg (by simp)] at hf
          refine ⟨j, Nat.lt_succ_self _, _, _, ?_, HM.le.refl _, cs3, ls ++ [ind ++ (e :: es).flatten], hso, hf, by rw [List.length_append, List.length_singleton]; omega, ?_, ?_, ?_, rfl⟩
          · walk_at "le"
          · walk_at "upd"
          · walk_at "heap"
          · rw [VTs_snoc, flatT_append, ← hjl]; walk_at "heap"
end

/-! ## chunks of tokens -/
def Tk.b : Tk → Bool
  | .ch x => isB x
  | .es _ => false
def chunkTS (acc : List (List Tk)) (t : Tk) : List (List Tk) := match acc.getLast? with
  | some (z :: zs) => if z.b == t.b then acc.dropLast ++ [(z :: zs) ++ [t]] else acc ++ [[t]]
  | _ => acc ++ [[t]]
def chunkT (ts : List Tk) : List (List Tk) := ts.foldl chunkTS []
theorem chunkT_snoc (ts : List Tk) (t : Tk) : chunkT (ts ++ [t]) = chunkTS (chunkT ts) t := by unfold chunkT; rw [List.foldl_append]; rfl
theorem chunkTS_cases (acc : List (List Tk)) (t : Tk) : (∃ a z zs, acc = a ++ [z :: zs] ∧ z.b = t.b ∧ chunkTS acc t = a ++ [(z :: zs) ++ [t]]) ∨ (∃ a z zs, acc = a ++ [z :: zs] ∧ z.b ≠ t.b ∧ chunkTS acc t = acc ++ [[t]]) ∨ ((acc = [] ∨ ∃ a, acc = a ++ [[]]) ∧ chunkTS acc t = acc ++ [[t]]) := by
  rcases List.eq_nil_or_concat acc with rfl | ⟨a, y, rfl⟩
  · exact .inr (.inr ⟨.inl rfl, rfl⟩)
  · rw [List.concat_eq_append]
    cases y with
    | nil => exact .inr (.inr ⟨.inr ⟨a, rfl⟩, by unfold chunkTS; simp⟩)
    | cons z zs =>
      by_cases h : z.b = t.b
      · exact .inl ⟨a, z, zs, rfl, h, by unfold chunkTS; simp [h]⟩
      · exact .inr (.inl ⟨a, z, zs, rfl, h, by unfold chunkTS; simp [h]⟩)
theorem chunkT_ne (ts : List Tk) : ∀ z ∈ chunkT ts, z ≠ [] := by
  induction ts using snocInd with
  | h0 => intro z hz; cases hz
  | h1 l x ih =>
    rw [chunkT_snoc]
    rcases chunkTS_cases (chunkT l) x with ⟨a, z, zs, e, _, e2⟩ | ⟨a, z, zs, e, _, e2⟩ | ⟨_, e2⟩ <;> rw [e2] <;> intro y hy <;> rcases List.mem_append.mp hy with hy | hy
    · exact ih y (by rw [e]; exact List.mem_append_left _ hy)
    · rw [List.mem_singleton.mp hy]; simp
    · exact ih y hy
    · rw [List.mem_singleton.mp hy]; simp
    · exact ih y hy
    · rw [List.mem_singleton.mp hy]; simp
theorem chunkT_sum (ts : List Tk) : (chunkT ts).flatten = ts := by
  induction ts using snocInd with
  | h0 => rfl
  | h1 l x ih =>
    rw [chunkT_snoc]
    rcases chunkTS_cases (chunkT l) x with ⟨a, z, zs, e, _, e2⟩ | ⟨a, z, zs, e, _, e2⟩ | ⟨_, e2⟩ <;> rw [e2]
    · rw [e] at ih
      simp only [List.flatten_append, List.flatten_cons, List.flatten_nil, List.append_nil] at ih ⊢
      rw [← List.append_assoc, ih]
    · simp [ih]
    · simp [ih]
theorem chunkT_len (ts : List Tk) : (chunkT ts).length ≤ ts.length := by
  induction ts using snocInd with
  | h0 => simp [chunkT]
  | h1 l x ih =>
    rw [chunkT_snoc, List.length_append]
    rcases chunkTS_cases (chunkT l) x with ⟨a, z, zs, e, _, e2⟩ | ⟨a, z, zs, e, _, e2⟩ | ⟨_, e2⟩ <;> rw [e2]
    · rw [e] at ih; simp at ih ⊢; omega
    · simp; omega
    · simp; omega
theorem foldl_in {a : List (List Nat)} {y ys : List Nat} {v : Nat} : ∀ (l : List Nat), (∀ x ∈ l, isB x = isB v) → List.foldl chunkStep (a ++ [v :: ys]) l = a ++ [(v :: ys) ++ l]
  | [], _ => by simp
  | x :: r, h => by
    rw [List.foldl_cons]
    have e : chunkStep (a ++ [v :: ys]) x = a ++ [v :: (ys ++ [x])] := by
      unfold chunkStep
      simp [h x List.mem_cons_self]
    rw [e, foldl_in (y := y) r fun z hz => h z (List.mem_cons_of_mem _ hz)]
    simp
theorem Tk.flat_b {t : Tk} (h : t.ok) : ∃ v vs, t.flat = v :: vs ∧ isB v = t.b ∧ ∀ x ∈ vs, isB x = isB v := by
  cases t with
  | ch x => exact ⟨x, [], rfl, rfl, fun _ h => by cases h⟩
  | es p =>
    refine ⟨27, 91 :: (p ++ [109]), rfl, show isB 27 = false by decide, fun x hx => ?_⟩
    rcases List.mem_cons.mp hx with rfl | hx
    · decide
    · rcases List.mem_append.mp hx with hx | hx
      · have hb := h x hx
        have : ∀ k, 48 ≤ k → k ≤ 59 → isB k = isB 27 := by
          intro k h1 h2
          have : isB k = false := by
            unfold isB; rw [decide_eq_false_iff_not]; simp; omega
          rw [this]; decide
        exact this x hb.1 hb.2
      · rw [List.mem_singleton.mp hx]; decide
theorem chunk_map (ts : List Tk) (h : okT ts) : chunkL (flatT ts) = (chunkT ts).map flatT := by
  induction ts using snocInd with
  | h0 => rfl
  | h1 l t ih =>
    rw [okT_append] at h
    have ot : t.ok := h.2 t List.mem_cons_self
    have ih := ih h.1
    obtain ⟨v, vs, e1, e2, e3⟩ := t.flat_b ot
    have ef : flatT [t] = v :: vs := by rw [flatT_cons, e1]; simp [flatT]
    have ec : chunkL (flatT (l ++ [t])) = List.foldl chunkStep (chunkL (flatT l)) (v :: vs) := by
      rw [flatT_append, ef]; unfold chunkL; rw [List.foldl_append]
    rw [ec, chunkT_snoc, ih, List.foldl_cons]
    have okz : ∀ z ∈ (chunkT l).flatten, z.ok := by rw [chunkT_sum]; exact h.1
    rcases chunkTS_cases (chunkT l) t with ⟨a, z, zs, e, hb, e2'⟩ | ⟨a, z, zs, e, hb, e2'⟩ | ⟨e, e2'⟩ <;> rw [e2']
    · have oz : z.ok := okz z (by rw [e]; simp)
      obtain ⟨u, us, z1, z2, z3⟩ := z.flat_b oz
      have st : chunkStep ((chunkT l).map flatT) v = a.map flatT ++ [(u :: (us ++ flatT zs)) ++ [v]] := by
        rw [e]; unfold chunkStep
        simp [flatT_cons, z1, z2, e2, hb]
      rw [st]
      have hin := foldl_in (a := a.map flatT) (y := []) (ys := (us ++ flatT zs) ++ [v]) (v := u) vs (fun x hx => by rw [e3 x hx, e2, ← hb, z2])
      rw [show ((u :: (us ++ flatT zs)) ++ [v]) = u :: ((us ++ flatT zs) ++ [v]) from rfl, hin]
      rw [List.map_append, List.map_cons, List.map_nil, flatT_append, ef, flatT_cons, z1]
      simp
    · have oz : z.ok := okz z (by rw [e]; simp)
      obtain ⟨u, us, z1, z2, z3⟩ := z.flat_b oz
      have st : chunkStep ((chunkT l).map flatT) v = (chunkT l).map flatT ++ [[v]] := by
        rw [e]; unfold chunkStep
        simp [flatT_cons, z1, z2, e2, hb]
      rw [st, foldl_in (y := []) vs e3, List.map_append, List.map_cons, List.map_nil, ef]
      simp
    · have st : chunkStep ((chunkT l).map flatT) v = (chunkT l).map flatT ++ [[v]] := by
        rcases e with e | ⟨a, e⟩ <;> rw [e] <;> unfold chunkStep <;> simp [flatT]
      rw [st, foldl_in (y := []) vs e3, List.map_append, List.map_cons, List.map_nil, ef]
      simp
theorem chunkT_sized {ts : List Tk} (h : okT ts) (hl : (flatT ts).length ≤ 100000) : Sized (chunkT ts) := by
  refine ⟨fun t ht x hx => ?_, by rw [chunkT_sum]; exact hl, ?_⟩
  · have : x ∈ (chunkT ts).flatten := List.mem_flatten.mpr ⟨t, ht, hx⟩
    rw [chunkT_sum] at this; exact h x this
  · have h1 := chunkT_len ts
    have : ts.length ≤ (flatT ts).length := by
      clear h hl h1
      induction ts with
      | nil => exact Nat.le_refl _
      | cons t r ih => rw [flatT_cons, List.length_append, List.length_cons]; have := t.flat_pos; omega
    omega

theorem flat_mem {ts : List Tk} (h : okT ts) {k : Nat} (hk : k ∈ flatT ts) : k ≠ 9 ∧ k ≠ 13 ∧ k < 128 := by
  obtain ⟨t, ht, hm⟩ := List.mem_flatMap.mp hk
  have := h t ht
  cases t with
  | ch x =>
    rw [show k = x from List.mem_singleton.mp hm]
    exact ⟨this.2.2.1, this.2.2.2, this.2.1⟩
  | es p =>
    have hm : k ∈ 27 :: 91 :: (p ++ [109]) := hm
    simp only [List.mem_cons, List.mem_append, List.not_mem_nil, or_false] at hm
    rcases hm with rfl | rfl | hm | rfl
    · decide
    · decide
    · have := this k hm; omega
    · decide

section
variable {c : FC} {P : Params} {n : Nat} {m : LM} {H : HM} {X : XM}
theorem K_wrap {x d : Addr} {w : Int} {fi fr ts : List Tk} {out : List (List Tk)} {k : Nat} {Q : Value → HM → Prop} (O : Ok c (KK P) (n + 6)) (hx : H x = some (.raw (instObj 180 d))) (hd : H d = some (.dic (tw w (flatT fi) (flatT fr))))
    (hw : 0 < w) (oi : okT fi) (or : okT fr) (ot : okT ts) (li : (flatT fi).length ≤ 100000) (lr : (flatT fr).length ≤ 100000) (lt : (flatT ts).length ≤ 100000) (hk : k ≤ 100000) (hf : wrapF w fi fr k (chunkT ts) [] = some out)
    (h : ∀ H' ln, H ln = none → H.le H' → H' ln = some (.list (VTs out)) → Q (.ref ln) H') : CallJ c (.ref 65) [.ref x, VT (flatT ts)] [] m H Q X := by
  refine CallJ.run O ⟨⟨_, _, _, rfl⟩, rfl, rfl, rfl, rfl, rfl, rfl, rfl, rfl, by decide⟩ (.a2 fun _ _ => rfl) rfl ?_
  intro L hL Ok'
  show Exs _ _ [("text", VT (flatT ts)), ("self", .ref x)] H _ _
  walk_at "run"
  refine C_expandtabs (fun h9 => (flat_mem ot h9).1 rfl) ?_
  walk_at "run"
  with_reducible refine K_split (n := n + 4) (by assumption) (by omega) (fun r hr => ?_)
  have hx' : (H.set r (.list ((chunkL (flatT ts)).map VT))) x = some (.raw (instObj 180 d)) := by walk_at "heap"
  have hd' : (H.set r (.list ((chunkL (flatT ts)).map VT))) d = some (.dic (tw w (flatT fi) (flatT fr))) := by walk_at "heap"
  have hr' : (H.set r (.list ((chunkL (flatT ts)).map VT))) r = some (.list (VTs (chunkT ts))) := by
    rw [HM.set_same, chunk_map ts ot, List.map_map]; rfl
  walk_at "run"
  with_reducible refine K_chunks (n := n) (by assumption) hx' hd' hr' hw oi or li lr (chunkT_sized ot lt) hk hf (fun H' ln h1 h2 h3 => ?_)
  walk_at "run"
  rw [HM.set_none] at h1
  refine EndJ.retE (h H' ln h1.2 ?_ h3)
  intro a o e
  exact h2 a o (by rw [List.mem_singleton]; exact HM.ne_of hr e) (by rw [HM.set_ne _ _ (HM.ne_of hr e)]; exact e)
theorem K_fill {x d : Addr} {w : Int} {fi fr ts : List Tk} {out : List (List Tk)} {k : Nat} {Q : Value → HM → Prop} (O : Ok c (KK P) (n + 7)) (hx : H x = some (.raw (instObj 180 d))) (hd : H d = some (.dic (tw w (flatT fi) (flatT fr))))
    (hw : 0 < w) (oi : okT fi) (or : okT fr) (ot : okT ts) (li : (flatT fi).length ≤ 100000) (lr : (flatT fr).length ≤ 100000) (lt : (flatT ts).length ≤ 100000) (hk : k ≤ 100000) (hf : wrapF w fi fr k (chunkT ts) [] = some out)
    (hj : joinSize [10] (out.map flatT) ≤ 16000000) (h : Q (VT (joinL [10] (out.map flatT))) H) : CallJ c (.ref 72) [.ref x, VT (flatT ts)] [] m H Q X := by
  refine CallJ.run O ⟨⟨_, _, _, rfl⟩, rfl, rfl, rfl, rfl, rfl, rfl, rfl, rfl, by decide⟩ (.a2 fun _ _ => rfl) rfl ?_
  intro L hL Ok'
  show Exs _ _ [("text", VT (flatT ts)), ("self", .ref x)] H _ _
  walk_at "run"
  with_reducible refine K_wrap (n := n) (by assumption) hx hd hw oi or ot li lr lt hk hf (fun H' ln h1 h2 h3 => ?_)
  have h4 : H' ln = some (.list ((out.map flatT).map VT)) := by rw [List.map_map]; exact h3
  walk_at "run"
  exact EndJ.ret H h2 h
end

section
variable {c : FC} {P : Params} {n : Nat} {m : LM} {H : HM} {X : XM}
theorem K_einit {e d x : Addr} {l : List Nat} {Q : Value → HM → Prop} (O : Ok c (KK P) (n + 1)) (he : H e = some (.raw (instObj 110 d))) (hd : H d = some (.dic [])) (hed : e ≠ d) (h : Q .none (H.set d (.dic [("wrapper", .ref x), ("indent", VT l)]))) :
    CodeJ c (.ref 93) [.ref e, .ref x, VT l] [] m H Q := by
  refine CodeJ.run O ⟨⟨_, _, _, rfl⟩, rfl, rfl, rfl, rfl, rfl, rfl, rfl, rfl, by decide⟩ (.a3 fun _ _ _ => rfl) rfl ?_
  intro L hL Ok'
  show Exs _ _ [("indent", VT l), ("wrapper", .ref x), ("self", .ref e)] H _ _
  walk_at "run"
  simp only [HM.set_set]
  exact EndJ.nextE h
theorem K_extra {x : Addr} {l : List Nat} {Q : Value → HM → Prop} (O : Ok c (KK P) (n + 3))
    (h : ∀ e d, H e = none → H d = none → e ≠ d → Q (.ref e) ((H.set d (.dic [("wrapper", .ref x), ("indent", VT l)])).set e (.raw (instObj 110 d)))) : CallJ c (.ref 170) [.ref x, VT l] [] m H Q X := by
  refine CallJ.run O ⟨⟨_, _, _, rfl⟩, rfl, rfl, rfl, rfl, rfl, rfl, rfl, rfl, by decide⟩ (.a2 fun _ _ => rfl) rfl ?_
  intro L hL Ok'
  show Exs _ _ [("indent", VT l), ("self", .ref x)] H _ _
  walk_at "run"
  refine CallJ.cls (fI := 93) (by assumption) rfl rfl rfl (fun c' O' e d he hd hed => ?_)
  with_reducible refine K_einit O' (HM.set_same _ _ _) ((HM.set_ne _ _ (Ne.symm hed)).trans (HM.set_same _ _ _)) hed ⟨rfl, ?_⟩
  walk_at "run"
  rw [HM.set_comm _ _ _ hed, HM.set_set]
  exact EndJ.retE (h e d he hd hed)
def ei (x : Addr) (l a b : List Nat) : List (Str × Value) := [("wrapper", .ref x), ("indent", VT l), ("old_initial_indent", VT a), ("old_subsequent_indent", VT b)]
theorem K_enter {e d x dx : Addr} {w : Int} {l a b : List Nat} {Q : Value → HM → Prop} (O : Ok c (KK P) (n + 1)) (he : H e = some (.raw (instObj 110 d))) (hd : H d = some (.dic [("wrapper", .ref x), ("indent", VT l)])) (hx : H x = some (.raw (instObj 180 dx))) (hdx : H dx = some (.dic (tw w a b)))
    (n1 : d ≠ e) (n2 : d ≠ x) (n3 : d ≠ dx) (n4 : dx ≠ e) (n5 : dx ≠ x) (la : a.length + l.length ≤ 16000000) (lb : b.length + l.length ≤ 16000000)
    (h : Q .none ((H.set d (.dic (ei x l a b))).set dx (.dic (tw w (a ++ l) (b ++ l))))) : CallJ c (.ref 100) [.ref e] [] m H Q X := by
  refine CallJ.run O ⟨⟨_, _, _, rfl⟩, rfl, rfl, rfl, rfl, rfl, rfl, rfl, rfl, by decide⟩ (.a1 fun _ => rfl) rfl ?_
  intro L hL Ok'
  show Exs _ _ [("self", .ref e)] H _ _
  walk_at "run"
  simp only [HM.set_set]
  exact EndJ.nextE h
theorem K_exit {e d x dx : Addr} {w : Int} {l a b a' b' : List Nat} {Q : Value → HM → Prop} (O : Ok c (KK P) (n + 1)) (he : H e = some (.raw (instObj 110 d))) (hd : H d = some (.dic (ei x l a b))) (hx : H x = some (.raw (instObj 180 dx))) (hdx : H dx = some (.dic (tw w a' b')))
    (n1 : d ≠ e) (n2 : d ≠ x) (n3 : d ≠ dx) (n4 : dx ≠ e) (n5 : dx ≠ x)
    (h : Q .none (H.set dx (.dic (tw w a b)))) : CallJ c (.ref 107) [.ref e, .none, .none, .none] [] m H Q X := by
  refine CallJ.run O ⟨⟨_, _, _, rfl⟩, rfl, rfl, rfl, rfl, rfl, rfl, rfl, rfl, by decide⟩ (.a4 fun _ _ _ _ => rfl) rfl ?_
  intro L hL Ok'
  show Exs _ _ [("tb", .none), ("exc_value", .none), ("exc_type", .none), ("self", .ref e)] H _ _
  walk_at "run"
  simp only [HM.set_set]
  exact EndJ.nextE h
theorem K_only {x d : Addr} {w : Int} {a b l : List Nat} {Q : Value → HM → Prop} (O : Ok c (KK P) (n + 2)) (hx : H x = some (.raw (instObj 180 d))) (hd : H d = some (.dic (tw w a b)))
    (ha : a.length ≤ 100000) (hb : b.length ≤ 100000) (hl : l.length ≤ 100000) (h13 : 13 ∉ l) (hj : joinSize [10] ((linesL l).mapIdx fun i y => (if i = 0 then a else b) ++ y) ≤ 16000000)
    (h : Q (VT (joinL [10] ((linesL l).mapIdx fun i y => (if i = 0 then a else b) ++ y))) H) : CallJ c (.ref 177) [.ref x, VT l] [] m H Q X := by
  refine CallJ.run O ⟨⟨_, _, _, rfl⟩, rfl, rfl, rfl, rfl, rfl, rfl, rfl, rfl, by decide⟩ (.a2 fun _ _ => rfl) rfl ?_
  intro L hL Ok'
  show Exs _ _ [("text", VT l), ("self", .ref x)] H _ _
  walk_at "run"
  rename_i rv hrv
  have hh := Ok'.hh
  refine Ex.forG hh ?_ (fun _ => rfl)
  walk_at "run"
  refine C_splitlines h13 (by omega) (fun li hli => ?_)
  rw [HM.set_none] at hli
  walk_at "run"
  refine C_enumerate (HM.set_same _ _ _) (fun e it oe oi he hit hne ho hi => ?_)
  rw [HM.set_none, HM.set_none] at he hit
  have hx1 : H x = some _ := hx
  walk_at "run"
  refine ⟨_, _, _, _, Src.enum (H := (((((H.set rv (.list [])).set li (.list ((linesL l).map VT)))).set it (.raw oi)).set e (.raw oe))) (HM.set_same _ _ _) ((HM.set_ne _ _ (Ne.symm hne)).trans (HM.set_same _ _ _)) ho hi (vs := (linesL l).map VT) ((HM.set_ne _ _ (Ne.symm he.1)).trans ((HM.set_ne _ _ (Ne.symm hit.1)).trans (HM.set_same _ _ _))) (by have := linesL_len l; rw [List.length_map]; omega),
    fun k m' H' => H' rv = some (.list (((linesL l).take k).mapIdx fun i y => VT ((if i = 0 then a else b) ++ y))) ∧ H.le H' ∧ m' = ([("rv", .ref rv), ("text", VT l), ("self", .ref x)] : LM), Keep.here ⟨?_, ?_, rfl⟩, ?_, ?_⟩
  · show (((((((H.set rv (.list [])).set li _).set it _).set e _).del e).del it).del li) rv = some (.list [])
    rw [HM.del_ne _ (Ne.symm hli.1), HM.del_ne _ (Ne.symm hit.2.1), HM.del_ne _ (Ne.symm he.2.1), HM.set_ne _ _ (Ne.symm he.2.1), HM.set_ne _ _ (Ne.symm hit.2.1), HM.set_ne _ _ (Ne.symm hli.1), HM.set_same]
  · intro z o hz
    have z1 : z ≠ rv := HM.ne_of hrv hz
    have z2 : z ≠ li := HM.ne_of hli.2 hz
    have z3 : z ≠ it := HM.ne_of hit.2.2 hz
    have z4 : z ≠ e := HM.ne_of he.2.2 hz
    rw [HM.del_ne _ z2, HM.del_ne _ z3, HM.del_ne _ z4, HM.set_ne _ _ z4, HM.set_ne _ _ z3, HM.set_ne _ _ z2, HM.set_ne _ _ z1]; exact hz
  · rintro k v m' H' hx ⟨h1, h2, rfl⟩
    rw [List.getElem?_map, Option.map_eq_some_iff] at hx
    obtain ⟨y, hy, rfl⟩ := hx
    have hx' := h2 _ _ hx1
    have hd' := h2 _ _ hd
    have hyl := linesL_mem (List.mem_of_getElem? hy)
    have hll := linesL_len l
    have hvl : (((linesL l).take k).mapIdx fun i y => VT ((if i = 0 then a else b) ++ y)).length ≤ 200000 := by rw [List.length_mapIdx, List.length_take]; omega
    have htk : (linesL l).take (k + 1) = (linesL l).take k ++ [y] := by rw [List.take_add_one, hy]; rfl
    have hkl : ((linesL l).take k).length = k := by rw [List.length_take]; have := (List.getElem?_eq_some_iff.mp hy).1; omega
    have hstep : ((linesL l).take (k + 1)).mapIdx (fun i y => VT ((if i = 0 then a else b) ++ y)) = ((linesL l).take k).mapIdx (fun i y => VT ((if i = 0 then a else b) ++ y)) ++ [VT ((if k = 0 then a else b) ++ y)] := by
      rw [htk, List.mapIdx_append, hkl]; simp
    walk_at "run"
    refine iteD (fun hk => ?_) (fun hk => ?_)
    · walk_at "run"
      refine ⟨_, rfl, by omega, ?_⟩
      walk_at "run"
      refine ⟨_, rfl, by omega, ?_⟩
      walk_at "run"
      refine ⟨_, _, by walk_at "le", HM.le.refl _, ?_, ?_, rfl⟩
      · rw [HM.set_same, hstep, if_neg (by omega)]
      · rename_i r0 hr0
        intro z o hz
        rw [HM.set_ne _ _ (HM.ne_of hrv hz), HM.set_ne _ _ (HM.ne_of hr0 (h2 z o hz))]; exact h2 z o hz
    · walk_at "run"
      refine ⟨_, rfl, by omega, ?_⟩
      walk_at "run"
      refine ⟨_, rfl, by omega, ?_⟩
      walk_at "run"
      refine ⟨_, _, by walk_at "le", HM.le.refl _, ?_, ?_, rfl⟩
      · rw [HM.set_same, hstep, if_pos (by omega)]
      · rename_i r0 hr0
        intro z o hz
        rw [HM.set_ne _ _ (HM.ne_of hrv hz), HM.set_ne _ _ (HM.ne_of hr0 (h2 z o hz))]; exact h2 z o hz
  · rintro m' H' ⟨h1, h2, rfl⟩
    rw [List.length_map, List.take_length] at h1
    have h3 : (H'.set li (.list ((linesL l).map VT))) rv = some (.list (((linesL l).mapIdx fun i y => ((if i = 0 then a else b) ++ y)).map VT)) := by
      rw [HM.set_ne _ _ (Ne.symm hli.1), h1]; congr 2; apply List.ext_getElem?; intro i; simp; rfl
    walk_at "run"
    exact EndJ.ret H (fun z o hz => by rw [HM.set_ne _ _ (HM.ne_of hli.2 hz)]; exact h2 z o hz) h
end

section
variable {c : FC} {P : Params} {n : Nat} {m : LM} {H : HM} {X : XM}
theorem cellsH_le {H : HM} {cs : List (Str × Addr)} {cm : Str → Option Value} (h : ∀ p ∈ cs, H p.2 = none) : H.le (cellsH H cs cm) := fun a o e => by
  rw [cellsH_none (fun p hp q => by rw [← q, h p hp] at e; cases e)]; exact e
theorem K_text0 {w : Int} {fi fr ts : List Tk} {out : List (List Tk)} {k : Nat} {Q : Value → HM → Prop} (O : Ok c (KK P) (n + 8))
    (hw : 0 < w) (oi : okT fi) (or : okT fr) (ot : okT ts) (li : (flatT fi).length ≤ 100000) (lr : (flatT fr).length ≤ 100000) (lt : (flatT ts).length ≤ 100000) (hk : k ≤ 100000) (hf : wrapF w fi fr k (chunkT ts) [] = some out)
    (hj : joinSize [10] (out.map flatT) ≤ 16000000) (h : Q (VT (joinL [10] (out.map flatT))) H) : CallJ c (.ref 190) [VT (flatT ts), VI w, VT (flatT fi), VT (flatT fr)] [] m H Q X := by
  refine CallJ.run (bs := [("text", VT (flatT ts)), ("width", VI w), ("initial_indent", VT (flatT fi)), ("subsequent_indent", VT (flatT fr)), ("preserve_paragraphs", VB false)]) O ⟨⟨_, _, _, rfl⟩, rfl, rfl, rfl, rfl, rfl, rfl, rfl, rfl, by decide⟩ ?_ rfl ?_
  · intro Vs Ks e1 e2
    obtain ⟨A, B, C, D, rfl, hA, hB, hC, hD⟩ := call4 e1
    obtain rfl := kw0 e2
    refine ⟨[("text", A), ("width", B), ("initial_indent", C), ("subsequent_indent", D), ("preserve_paragraphs", .bool false)], fun s X => binds_K X rfl rfl rfl rfl rfl, ?_⟩
    simp only [List.map_cons, List.map_nil, hA, hB, hC, hD]
    rfl
  · intro L hL Ok'
    show Exs _ _ [("preserve_paragraphs", VB false), ("subsequent_indent", VT (flatT fr)), ("initial_indent", VT (flatT fi)), ("width", VI w), ("text", VT (flatT ts))] _ _ _
    have hle : H.le (cellsH H (cellsFrom (L + 1) (fdOf (KK P) 190).scope.names []) (bindCM (c.call (fdOf (KK P) 190) L 190).env.kindOf [("text", VT (flatT ts)), ("width", VI w), ("initial_indent", VT (flatT fi)), ("subsequent_indent", VT (flatT fr)), ("preserve_paragraphs", VB false)] fun x => none)) := by
      refine cellsH_le (List.forall_mem_cons.mpr ⟨?_, List.forall_mem_cons.mpr ⟨?_, List.forall_mem_cons.mpr ⟨?_, List.forall_mem_nil _⟩⟩⟩)
      all_goals refine hL _ ?_
      all_goals (first | exact Nat.le_add_right L 1 | exact Nat.le_add_right L 2 | exact Nat.le_add_right L 3)
    generalize cellsH H (cellsFrom (L + 1) (fdOf (KK P) 190).scope.names []) (bindCM (c.call (fdOf (KK P) 190) L 190).env.kindOf [("text", VT (flatT ts)), ("width", VI w), ("initial_indent", VT (flatT fi)), ("subsequent_indent", VT (flatT fr)), ("preserve_paragraphs", VB false)] fun x => none) = HC at hle
    walk_at "run"
    refine C_expandtabs (fun h9 => (flat_mem ot h9).1 rfl) ?_
    walk_at "run"
    refine CallJ.cls (fI := 51) (by assumption) rfl rfl rfl (fun c' O' e d he hd hed => ?_)
    refine K_init O' (HM.set_same _ _ _) ((HM.set_ne _ _ (Ne.symm hed)).trans (HM.set_same _ _ _)) hed ⟨rfl, ?_⟩
    rw [HM.set_comm _ _ _ hed, HM.set_set]
    have hx' : ((HC.set d (.dic (tw w (flatT fi) (flatT fr)))).set e (.raw (instObj 180 d))) e = some (.raw (instObj 180 d)) := HM.set_same _ _ _
    have hd' : ((HC.set d (.dic (tw w (flatT fi) (flatT fr)))).set e (.raw (instObj 180 d))) d = some (.dic (tw w (flatT fi) (flatT fr))) := (HM.set_ne _ _ (Ne.symm hed)).trans (HM.set_same _ _ _)
    have hle2 : H.le ((HC.set d (.dic (tw w (flatT fi) (flatT fr)))).set e (.raw (instObj 180 d))) := fun a o z => by
      rw [HM.set_ne _ _ (HM.ne_of he (hle a o z)), HM.set_ne _ _ (HM.ne_of hd (hle a o z))]; exact hle a o z
    generalize (HC.set d (.dic (tw w (flatT fi) (flatT fr)))).set e (.raw (instObj 180 d)) = H2 at hx' hd' hle2
    walk_at "run"
    refine iteTe rfl ?_
    walk_at "run"
    with_reducible refine K_fill (n := n) (by assumption) hx' hd' hw oi or ot li lr lt hk hf hj ?_
    walk_at "run"
    exact EndJ.ret H hle2 h
end

section
variable {c : FC} {P : Params} {n : Nat} {m : LM} {H : HM} {X : XM}
def defOf : Option Stmt → Option (Arguments × List Stmt × Scope)
  | some (.FunctionDef _ ps b _ _ _ sc _ _ _) => some (ps, b, sc)
  | _ => none
noncomputable def flushOf (P : Params) : Option (Arguments × List Stmt × Scope) := match (fdOf (KK P) 190).body with
  | .stmts l => defOf l[6]?
  | _ => none
theorem K_flush {prm : Arguments} {body : List Stmt} {scope : Scope} (hd : flushOf P = some (prm, body, scope)) {nm qual : Str} {f c' bA iA pA bl pl : Addr} {oc : Obj} {doc pm ctv : Value} {bs : List (List Nat)} {ps : List Value} {ind : Nat} {Q : Value → HM → Prop}
    (O : Ok c (KK P) (n + 2)) (hf : H f = some (.raw (fnMade nm qual prm body scope [("p", pA), ("indent", iA), ("buf", bA)] doc pm c' ctv))) (hc : H c' = some (.raw oc)) (hoc : ∃ vs t, oc.data = .fields vs ∧ vs[1]? = some (.str qual t))
    (hb : H bA = some (.cell (some (.ref bl)))) (hi : H iA = some (.cell (some (VI ind)))) (hp : H pA = some (.cell (some (.ref pl)))) (hbl : H bl = some (.list (bs.map VT))) (hpl : H pl = some (.list ps)) (hne : bl ≠ pl) (hbn : bs ≠ [])
    (lb : ∀ x ∈ bs, x.length ≤ 100000) (ln : bs.length ≤ 100000) (lp : ps.length ≤ 100000) (j1 : joinSize [10] bs.tail ≤ 16000000) (j2 : joinSize [32] bs ≤ 16000000)
    (h : ∀ t, H t = none → Q .none (((H.set t (.tup [VI ind, VB (stripL Unicode.isSpace (bs.headD []) == [8]), VT (if stripL Unicode.isSpace (bs.headD []) = [8] then joinL [10] bs.tail else joinL [32] bs)])).set pl (.list (ps ++ [.ref t]))).set bl (.list []))) : CallJ c (.ref f) [] [] m H Q X := by
  have nb : bA ≠ pl := by rintro rfl; rw [hb] at hpl; cases hpl
  have nb2 : bA ≠ bl := by rintro rfl; rw [hb] at hbl; cases hbl
  have e : flushOf P = some (_, _, _) := rfl
  rw [hd] at e
  cases e
  refine CallJ.clo O hf hc rfl hoc rfl rfl ?_ rfl rfl rfl rfl rfl ?_
  · intro x hx
    simp at hx
    rcases hx with rfl | rfl | rfl <;> nofun
  · intro L hL Ok'
    cases bs with
    | nil => exact absurd rfl hbn
    | cons x xs =>
      have lbl : ((x :: xs).map VT).length ≤ 16000000 := by rw [List.length_map]; omega
      have lx := lb x List.mem_cons_self
      have hbl : H bl = some (.list (VT x :: xs.map VT)) := hbl
      walk_at "run"
      refine iteFe rfl ?_
      walk_at "run"
      refine iteD (fun hk => ?_) (fun hk => ?_)
      · rw [show (stripL Unicode.isSpace ((x :: xs).headD []) == [8]) = true from beq_iff_eq.mpr hk] at h
        walk_at "run"
        have h : ∀ t, H t = none → Q .none (((H.set t (.tup [VI ind, VB true, VT (joinL [10] xs)])).set pl (.list (ps ++ [.ref t]))).set bl (.list [])) := fun t ht => by
          have := h t ht
          rw [if_pos (show stripL Unicode.isSpace ((x :: xs).headD []) = [8] from hk)] at this
          exact this
        refine iteN (fun h0 => ?_) (fun h0 => ?_)
        · walk_at "run"
          refine SliceG.list (Bnd.ofInt (by decide)) .non hbl (by simp at lbl ⊢; omega) (fun q hq => ?_)
          walk_at "run"
          rename_i t t1 ht
          exact ⟨_, HM.set_le _ _ (HM.set_le _ _ (HM.set_le _ _ (HM.le_fresh hq))), h t ht⟩
        · obtain rfl : ind = 0 := by omega
          walk_at "run"
          refine SliceG.list (Bnd.ofInt (by decide)) .non hbl (by simp at lbl ⊢; omega) (fun q hq => ?_)
          walk_at "run"
          rename_i t t1 ht
          exact ⟨_, HM.set_le _ _ (HM.set_le _ _ (HM.set_le _ _ (HM.le_fresh hq))), h t ht⟩
      · have h : ∀ t, H t = none → Q .none (((H.set t (.tup [VI ind, VB false, VT (joinL [32] (x :: xs))])).set pl (.list (ps ++ [.ref t]))).set bl (.list [])) := fun t ht => by
          have := h t ht
          rw [show (stripL Unicode.isSpace ((x :: xs).headD []) == [8]) = false from beq_eq_false_iff_ne.mpr hk, if_neg (show ¬ stripL Unicode.isSpace ((x :: xs).headD []) = [8] from hk)] at this
          exact this
        walk_at "run"
        refine iteN (fun h0 => ?_) (fun h0 => ?_)
        · walk_at "run"
          rename_i t ht
          exact EndJ.nextE (h t ht)
        · obtain rfl : ind = 0 := by omega
          walk_at "run"
          rename_i t ht
          exact EndJ.nextE (h t ht)
theorem K_flush0 {prm : Arguments} {body : List Stmt} {scope : Scope} (hd : flushOf P = some (prm, body, scope)) {nm qual : Str} {f c' bA iA pA bl : Addr} {oc : Obj} {doc pm ctv : Value} {Q : Value → HM → Prop}
    (O : Ok c (KK P) (n + 2)) (hf : H f = some (.raw (fnMade nm qual prm body scope [("p", pA), ("indent", iA), ("buf", bA)] doc pm c' ctv))) (hc : H c' = some (.raw oc)) (hoc : ∃ vs t, oc.data = .fields vs ∧ vs[1]? = some (.str qual t))
    (hb : H bA = some (.cell (some (.ref bl)))) (hbl : H bl = some (.list [])) (h : Q .none H) : CallJ c (.ref f) [] [] m H Q X := by
  have e : flushOf P = some (_, _, _) := rfl
  rw [hd] at e
  cases e
  refine CallJ.clo O hf hc rfl hoc rfl rfl ?_ rfl rfl rfl rfl rfl ?_
  · intro x hx
    simp at hx
    rcases hx with rfl | rfl | rfl <;> nofun
  · intro L hL Ok'
    have hz : ([] : List Value).length ≤ 16000000 := by decide
    walk_at "run"
    refine iteTe rfl ?_
    walk_at "run"
    exact EndJ.retE h
end

section
variable {c : FC} {P : Params} {n : Nat} {m : LM} {H : HM} {X : XM}
theorem Ex.via {st : Stmt} {rest : List Stmt} {Q : Flow → LM → HM → Prop} (P : LM → HM → Prop) (h : Ex c st m H (ViaJ P) X) (h2 : ∀ m' H', P m' H' → Exs c rest m' H' Q X) : Ex c st m H (ThenJ c rest Q X) X :=
  Fw.mono h (fun f m1 H1 ⟨e, m2, H2, l1, l2, hp⟩ => by subst e; exact ThenJ.next ((h2 m2 H2 hp).weak l1 l2)) fun _ _ _ e => e
def fpos : Pos := { line := 165, col := 4, endLine := 172, endCol := 18 }
noncomputable def qualF (P : Params) : Str := (fdOf (KK P) 190).qualname ++ ".<locals>." ++ "_flush_par"
/-- the table of wrap_text's code: empty, or with _flush_par's -/
def TabSt (P : Params) (H : HM) : Prop := ∃ ps : Array Value, H 185 = some (.raw (tabObj ps)) ∧ TriplesOk ps.toList ∧ (codeAmong fpos ps.toList = none ∨ ∃ c' oc, codeAmong fpos ps.toList = some (.ref c') ∧ H c' = some (.raw oc) ∧ ∃ vs t, oc.data = .fields vs ∧ vs[1]? = some (.str (qualF P) t))
def FnF (P : Params) (H : HM) (f bA iA pA : Addr) : Prop := ∃ prm body scope nm qual doc pm ctv c' oc, flushOf P = some (prm, body, scope) ∧ H f = some (.raw (fnMade nm qual prm body scope [("p", pA), ("indent", iA), ("buf", bA)] doc pm c' ctv)) ∧ H c' = some (.raw oc) ∧ ∃ vs t, oc.data = .fields vs ∧ vs[1]? = some (.str qual t)
theorem FnF.upd {P : Params} {H H' : HM} {f bA iA pA : Addr} {l : List Addr} (h : FnF P H f bA iA pA) (u : Upd l H H') (hl : ∀ a ∈ l, ∀ o, H a ≠ some (.raw o)) : FnF P H' f bA iA pA := by
  obtain ⟨prm, body, scope, nm, qual, doc, pm, ctv, c', oc, e1, e2, e3, e4⟩ := h
  exact ⟨prm, body, scope, nm, qual, doc, pm, ctv, c', oc, e1, u _ _ (fun q => hl _ q _ e2) e2, u _ _ (fun q => hl _ q _ e3) e3, e4⟩
inductive F2 {α β : Type} (R : α → β → Prop) : List α → List β → Prop
  | nil : F2 R [] []
  | cons {a b as bs} (h : R a b) (t : F2 R as bs) : F2 R (a :: as) (b :: bs)
theorem FnF.kp {P : Params} {H : HM} {f bA iA pA : Addr} (h : FnF P H f bA iA pA) : Kp c (.ref f) H := by
  obtain ⟨prm, body, scope, nm, qual, doc, pm, ctv, c', oc, e1, e2, e3, e4⟩ := h
  exact Kp.raw e2 rfl
def ParAt (H : HM) (a : Addr) (q : Par) : Prop := H a = some (.tup [VI q.1, VB q.2.1, VT (flatT q.2.2)])
structure PS (H : HM) (bA iA pA bl pl : Addr) (ind : Nat) (buf : List (List Tk)) (as : List Addr) (ps : List Par) : Prop where
  b : H bA = some (.cell (some (.ref bl)))
  i : H iA = some (.cell (some (if buf = [] then .none else VI ind)))
  p : H pA = some (.cell (some (.ref pl)))
  bl : H bl = some (.list (buf.map fun l => VT (flatT l)))
  pl : H pl = some (.list (as.map .ref))
  q : F2 (ParAt H) as ps
theorem ParAt.upd {H H' : HM} {l : List Addr} (u : Upd l H H') (hl : ∀ a ∈ l, ∀ o, H a ≠ some (.tup o)) {as : List Addr} {ps : List Par} (h : F2 (ParAt H) as ps) : F2 (ParAt H') as ps := by
  induction h with
  | nil => exact .nil
  | cons h _ ih => exact .cons (u _ _ (fun q => hl _ q _ h) h) ih
theorem F2.snoc {α β : Type} {R : α → β → Prop} {as : List α} {bs : List β} {a : α} {b : β} (h : F2 R as bs) (h2 : R a b) : F2 R (as ++ [a]) (bs ++ [b]) := by
  induction h with
  | nil => exact .cons h2 .nil
  | cons h _ ih => exact .cons h ih
theorem PS.upd {H H' : HM} {bA iA pA bl pl : Addr} {ind : Nat} {buf : List (List Tk)} {as : List Addr} {ps : List Par} (S : PS H bA iA pA bl pl ind buf as ps) (u : Upd [] H H') : PS H' bA iA pA bl pl ind buf as ps :=
  ⟨u _ _ (by simp) S.b, u _ _ (by simp) S.i, u _ _ (by simp) S.p, u _ _ (by simp) S.bl, u _ _ (by simp) S.pl, ParAt.upd u (by simp) S.q⟩
theorem Upd.comp {l l' l'' : List Addr} {H H' H'' : HM} (u : Upd l H H') (v : Upd l' H' H'') (h : ∀ a, a ∈ l ∨ a ∈ l' → a ∈ l'' ∨ H a = Option.none) : Upd l'' H H'' := fun b o hb e => by
  have n1 : b ∉ l := fun q => (h b (.inl q)).elim (fun q => hb q) fun q => by rw [q] at e; cases e
  have n2 : b ∉ l' := fun q => (h b (.inr q)).elim (fun q => hb q) fun q => by rw [q] at e; cases e
  exact v b o n2 (u b o n1 e)
theorem Upd.delAt {l : List Addr} {H H' : HM} {a : Addr} (h : a ∈ l) (u : Upd l H H') : Upd l H (H'.del a) := fun b x hb e => by
  rw [HM.del_ne _ (by rintro rfl; exact hb h)]; exact u b x hb e
theorem TabSt.upd {P : Params} {H H' : HM} {l : List Addr} (h : TabSt P H) (u : Upd l H H') (hl : ∀ a ∈ l, ∀ o, H a ≠ some (.raw o)) : TabSt P H' := by
  obtain ⟨ps, h1, h2, h3⟩ := h
  refine ⟨ps, u _ _ (fun q => hl _ q _ h1) h1, h2, h3.imp id ?_⟩
  rintro ⟨c', oc, e1, e2, e3⟩
  exact ⟨c', oc, e1, u _ _ (fun q => hl _ q _ e2) e2, e3⟩
theorem F2.get {α β : Type} {R : α → β → Prop} {as : List α} {bs : List β} (h : F2 R as bs) : ∀ {k : Nat} {a : α}, as[k]? = some a → ∃ b, bs[k]? = some b ∧ R a b := by
  induction h with
  | nil => intro k a h; simp at h
  | cons h _ ih =>
    intro k x hx
    cases k with
    | zero => rw [List.getElem?_cons_zero] at hx; cases hx; exact ⟨_, rfl, h⟩
    | succ k => rw [List.getElem?_cons_succ] at hx ⊢; exact ih hx
theorem F2.len {α β : Type} {R : α → β → Prop} {as : List α} {bs : List β} (h : F2 R as bs) : as.length = bs.length := by
  induction h with
  | nil => rfl
  | cons _ _ ih => rw [List.length_cons, List.length_cons, ih]
/-- what a paragraph is laid as -/
def ParRes (w : Int) (fi fr : List Tk) (q : Par) (x : List Nat) : Prop :=
  if q.2.1 = true then joinSize [10] ((linesL (flatT q.2.2)).mapIdx fun i y => (if i = 0 then flatT fi ++ List.replicate q.1 32 else flatT fr ++ List.replicate q.1 32) ++ y) ≤ 16000000 ∧ x = joinL [10] ((linesL (flatT q.2.2)).mapIdx fun i y => (if i = 0 then flatT fi ++ List.replicate q.1 32 else flatT fr ++ List.replicate q.1 32) ++ y)
  else ∃ k out, k ≤ 100000 ∧ wrapF w (fi ++ plain (List.replicate q.1 32)) (fr ++ plain (List.replicate q.1 32)) k (chunkT q.2.2) [] = some out ∧ joinSize [10] (out.map flatT) ≤ 16000000 ∧ x = joinL [10] (out.map flatT)
/-- a flush, by tokens -/
theorem K_flushP {f bA iA pA bl pl : Addr} {ind : Nat} {buf : List (List Tk)} {as : List Addr} {ps : List Par} {Q : Value → HM → Prop} (O : Ok c (KK P) (n + 2)) (hf : FnF P H f bA iA pA) (S : PS H bA iA pA bl pl ind buf as ps)
    (lb : szL buf ≤ 90001) (lp : as.length ≤ 90001)
    (h : ∀ H' as', Upd [bl, pl] H H' → H' bA = some (.cell (some (.ref bl))) → H' pA = some (.cell (some (.ref pl))) → H' bl = some (.list []) → H' pl = some (.list (as'.map .ref)) → F2 (ParAt H') as' (ps ++ flushP ind buf) → as'.length ≤ as.length + (if buf = [] then 0 else 1) → (∀ o, H iA = some o → H' iA = some o) → Q .none H') : CallJ c (.ref f) [] [] m H Q X := by
  obtain ⟨prm, body, scope, nm, qual, doc, pm, ctv, c', oc, e1, e2, e3, e4⟩ := hf
  cases buf with
  | nil =>
    refine K_flush0 e1 O e2 e3 e4 S.b S.bl ?_
    exact h H as (Upd.refl _ _) S.b S.p S.bl S.pl (by show F2 _ _ (ps ++ []); rw [List.append_nil]; exact S.q) (by simp) fun _ e => e
  | cons x r =>
    have hi := S.i
    rw [if_neg (by simp)] at hi
    have hbl := S.bl
    have hlen : ∀ y ∈ (x :: r).map flatT, y.length ≤ 100000 := fun y hy => by
      obtain ⟨l, hl, rfl⟩ := List.mem_map.mp hy
      exact Nat.le_trans (szL_mem hl) (by omega)
    have hln : ((x :: r).map flatT).length ≤ 100000 := by
      rw [List.length_map]; have := szL_len (x :: r); omega
    have hne : bl ≠ pl := by
      intro q
      have h1 := S.bl
      rw [q, S.pl] at h1
      cases as with
      | nil => simp at h1
      | cons a as => simp only [List.map_cons, Option.some.injEq, AO.list.injEq, List.cons.injEq] at h1; exact absurd h1.1 (by simp [VT])
    have hbl' : H bl = some (.list (((x :: r).map flatT).map VT)) := by rw [hbl, List.map_map]; rfl
    have hbn : bA ≠ bl := fun q => by have := S.b; rw [q, hbl] at this; cases this
    have hbn2 : bA ≠ pl := fun q => by have := S.b; rw [q, S.pl] at this; cases this
    have hpn : pA ≠ bl := fun q => by have := S.p; rw [q, hbl] at this; cases this
    have hpn2 : pA ≠ pl := fun q => by have := S.p; rw [q, S.pl] at this; cases this
    have hin : iA ≠ bl := fun q => by rw [q, hbl] at hi; cases hi
    have hin2 : iA ≠ pl := fun q => by rw [q, S.pl] at hi; cases hi
    have js : joinSize [10] ((x :: r).map flatT).tail ≤ 16000000 := by
      rw [List.map_cons, List.tail_cons, szL_join]; rw [szL_cons] at lb; omega
    with_reducible refine K_flush (bs := (x :: r).map flatT) (ind := ind) e1 O e2 e3 e4 S.b hi S.p hbl' S.pl hne (by simp) hlen hln (by rw [List.length_map]; omega) js (by rw [szL_join]; omega) fun t ht => ?_
    have u : Upd [bl, pl] H (((H.set t (.tup [VI ind, VB (stripL Unicode.isSpace (((x :: r).map flatT).headD []) == [8]), VT (if stripL Unicode.isSpace (((x :: r).map flatT).headD []) = [8] then joinL [10] ((x :: r).map flatT).tail else joinL [32] ((x :: r).map flatT))])).set pl (.list (as.map .ref ++ [.ref t]))).set bl (.list [])) :=
      Upd.at (by simp) (Upd.at (by simp) (Upd.old ht (Upd.refl _ _)))
    have tn : ∀ a o, H a = some o → a ≠ t := fun a o e => HM.ne_of ht e
    have tl : t ≠ bl := Ne.symm (tn _ _ hbl)
    have tp : t ≠ pl := Ne.symm (tn _ _ S.pl)
    refine h _ (as ++ [t]) u (u _ _ (by simp [hbn, hbn2]) S.b) (u _ _ (by simp [hpn, hpn2]) S.p) (HM.set_same _ _ _) ?_ ?_ (by simp) (fun o e => u _ _ (by simp [hin, hin2]) e)
    · rw [HM.set_ne _ _ (Ne.symm hne), HM.set_same, List.map_append]; rfl
    · refine F2.snoc (ParAt.upd u (fun a ha o e => ?_) S.q) ?_
      · rcases List.mem_cons.mp ha with rfl | ha
        · rw [hbl] at e; cases e
        · rw [List.mem_singleton.mp ha, S.pl] at e; cases e
      · show _ = _
        rw [HM.set_ne _ _ tl, HM.set_ne _ _ tp, HM.set_same]
        show some (AO.tup [_, VB (stripL Unicode.isSpace (flatT x) == [8]), VT (if stripL Unicode.isSpace (flatT x) = [8] then joinL [10] (r.map flatT) else joinL [32] ((x :: r).map flatT))]) = some (AO.tup [_, _, VT (flatT (if stripL Unicode.isSpace (flatT x) = [8] then joinTk 10 r else joinTk 32 (x :: r)))])
        split
        · rw [joinTk_flat]
        · rw [joinTk_flat]
end

section
variable {c : FC} {P : Params} {n : Nat} {m : Value} {H : HM} {X : XM}
noncomputable def textBody (P : Params) : List Stmt := match (fdOf (KK P) 190).body with
  | .stmts l => l
  | _ => []
noncomputable def stN (P : Params) (k : Nat) : Stmt := match (textBody P)[k]? with
  | some s => s
  | none => .Pass ⟨0, 0, 0, 0⟩
theorem plain_flat_rep (fi : List Tk) (k : Nat) : flatT (fi ++ plain (List.replicate k 32)) = flatT fi ++ List.replicate k 32 := by rw [flatT_append, flatT_plain]
theorem plain_ok {l : List Nat} (h : ∀ x ∈ l, (Tk.ch x).ok) : okT (plain l) := fun t ht => by
  obtain ⟨x, hx, rfl⟩ := List.mem_map.mp ht
  exact h x hx
set_option maxHeartbeats 4000000 in
theorem K_pars {w : Int} {fi fr : List Tk} {ps : List Par} {res : List (List Nat)} {as : List Addr} {L rv r1 d e f : Addr} {Q : Value → HM → Prop}
    (O' : Ok (c.call (fdOf (KK P) 190) L 190) (KK P) (n + 7)) (v3 : H (L + 1 + 1 + 1) = some (.cell (some (.ref r1)))) (v5 : H r1 = some (.list (as.map .ref))) (v6 : F2 (ParAt H) as ps) (v9 : ∃ v, H (L + 1 + 1) = some (.cell v))
    (w6 : H d = some (.dic (tw w (flatT fi) (flatT fr)))) (w7 : H e = some (.raw (instObj 180 d))) (hrv : H rv = some (.list [])) (las : as.length ≤ 90002) (hrd : rv ≠ r1)
    (hres : F2 (ParRes w fi fr) ps res) (hok : ∀ q ∈ ps, q.1 ≤ 80001 ∧ okT q.2.2 ∧ (flatT q.2.2).length ≤ 80001) (hw : 0 < w) (oi : okT fi) (or : okT fr) (li : (flatT fi).length ≤ 10000) (lr : (flatT fr).length ≤ 10000) (hjr : joinSize [10, 10] res ≤ 16000000)
    (h : ∀ H', Upd [rv, d, L + 1 + 1] H H' → Q (VT (joinL [10, 10] res)) H') :
    Ex (c.call (fdOf (KK P) 190) L 190) (stN P 10) ([("rv", .ref rv), ("_flush_par", .ref f), ("wrapper", .ref e), ("preserve_paragraphs", VB true), ("subsequent_indent", VT (flatT fr)), ("initial_indent", VT (flatT fi)), ("width", VI w), ("text", m)] : LM) H (ThenJ (c.call (fdOf (KK P) 190) L 190) [stN P 11] (EndJ Q) XF) XF := by
  have e1 : stN P 10 = .For _ _ _ _ _ := rfl
  have e2 : stN P 11 = .Return _ _ := rfl
  rw [e1, e2]
  have nrd : rv ≠ d := fun q => by rw [q, w6] at hrv; cases hrv
  obtain ⟨v0, v9⟩ := v9
  have nri : rv ≠ L + 1 + 1 := fun q => by rw [q, v9] at hrv; cases hrv
  have ndi : d ≠ L + 1 + 1 := fun q => by rw [q, v9] at w6; cases w6
  have nr1d : r1 ≠ d := fun q => by rw [q, w6] at v5; cases v5
  have nr1i : r1 ≠ L + 1 + 1 := fun q => by rw [q, v9] at v5; cases v5
  have nre : rv ≠ e := fun q => by rw [q, w7] at hrv; cases hrv
  have nde : d ≠ e := fun q => by rw [q, w7] at w6; cases w6
  have nie : e ≠ L + 1 + 1 := fun q => by rw [q, v9] at w7; cases w7
  have nr1e : r1 ≠ e := fun q => by rw [q, w7] at v5; cases v5
  refine Ex.forGN O'.hh ?_ (fun _ => rfl)
  walk_at "run"
  have u5 : Upd [r1] H (H.del r1) := Upd.delAt (by simp) (Upd.refl _ _)
  refine ForJN.list v5 (by rw [List.length_map]; omega) (fun k m' H' => m' = ([("rv", .ref rv), ("wrapper", .ref e)] : LM) ∧ Upd [rv, d, L + 1 + 1, r1] H H' ∧ H' rv = some (.list ((res.take k).map VT)) ∧ H' d = some (.dic (tw w (flatT fi) (flatT fr))) ∧ ∃ v, H' (L + 1 + 1) = some (.cell v))
    ⟨_, _, by walk_at "le", HM.le.refl _, rfl, Upd.delAt (by simp) (Upd.refl _ _), by rw [HM.del_ne _ hrd]; exact hrv, by rw [HM.del_ne _ (Ne.symm nr1d)]; exact w6, _, by rw [HM.del_ne _ (Ne.symm nr1i)]; exact v9⟩ ?_ ?_
  · rintro k x m' H' hx hn ⟨rfl, u2, g1, g2, v1, g3⟩
    rw [List.getElem?_map, Option.map_eq_some_iff] at hx
    obtain ⟨t, ht, rfl⟩ := hx
    obtain ⟨q, hq, hqa⟩ := v6.get ht
    obtain ⟨y, hy, hyr⟩ := hres.get hq
    obtain ⟨ok1, ok2, ok3⟩ := hok q (List.mem_of_getElem? hq)
    have g4 : H' t = some (.tup [VI q.1, VB q.2.1, VT (flatT q.2.2)]) := u2 _ _ (by
      simp only [List.mem_cons, List.not_mem_nil, or_false, not_or]
      unfold ParAt at hqa
      refine ⟨fun z => ?_, fun z => ?_, fun z => ?_, fun z => ?_⟩
      · rw [z, hrv] at hqa; cases hqa
      · rw [z, w6] at hqa; cases hqa
      · rw [z, v9] at hqa; cases hqa
      · rw [z, v5] at hqa; cases hqa) hqa
    have g5 : H' e = some (.raw (instObj 180 d)) := u2 _ _ (by simp [Ne.symm nre, Ne.symm nde, nie, Ne.symm nr1e]) w7
    walk_at "run"
    refine Ex.with ?_
    have k1 : (H'.set (L + 1 + 1) (.cell (some (VI (q.1 : Int))))) (L + 1 + 1) = some (.cell (some (VI (q.1 : Int)))) := HM.set_same _ _ _
    have k2 : (H'.set (L + 1 + 1) (.cell (some (VI (q.1 : Int))))) e = some (.raw (instObj 180 d)) := by rw [HM.set_ne _ _ nie]; exact g5
    have k3 : (H'.set (L + 1 + 1) (.cell (some (VI (q.1 : Int))))) d = some (.dic (tw w (flatT fi) (flatT fr))) := by rw [HM.set_ne _ _ ndi]; exact g2
    have k4 : (H'.set (L + 1 + 1) (.cell (some (VI (q.1 : Int))))) rv = some (.list ((res.take k).map VT)) := by rw [HM.set_ne _ _ nri]; exact g1
    have k5 : Upd [rv, d, L + 1 + 1, r1] H (H'.set (L + 1 + 1) (.cell (some (VI (q.1 : Int))))) := Upd.at (by simp) u2
    generalize H'.set (L + 1 + 1) (.cell (some (VI (q.1 : Int)))) = H5 at *
    walk_at "run"
    refine O_mulT (by omega) (by simp; omega) ?_
    rw [Int.toNat_natCast, times_one]
    walk_at "run"
    with_reducible refine K_extra (n := n + 4) (by assumption) fun e2 d2 he2 hd2 hed2 => ?_
    have dn : ∀ {a o}, H5 a = some o → a ≠ d2 := fun z => HM.ne_of hd2 z
    have en : ∀ {a o}, H5 a = some o → a ≠ e2 := fun z => HM.ne_of he2 z
    refine ⟨e2, 110, d2, _, 100, 107, KK P, n + 7, rfl, HM.set_same _ _ _, (HM.set_ne _ _ (Ne.symm hed2)).trans (HM.set_same _ _ _), by assumption, rfl, rfl, rfl, rfl, ?_⟩
    have k6 : Upd [] H5 ((H5.set d2 (.dic [("wrapper", .ref e), ("indent", VT (List.replicate q.1 32))])).set e2 (.raw (instObj 110 d2))) := Upd.old he2 (Upd.old hd2 (Upd.refl _ _))
    refine K_enter (n := n + 6) (w := w) (by assumption) (HM.set_same _ _ _) ((HM.set_ne _ _ (Ne.symm hed2)).trans (HM.set_same _ _ _)) (k6 _ _ (by simp) k2) (k6 _ _ (by simp) k3) (Ne.symm hed2) (Ne.symm (dn k2)) (Ne.symm (dn k3)) (en k3) nde (by simp; omega) (by simp; omega) ?_
    have k7 : Upd [d] H5 ((((H5.set d2 (.dic [("wrapper", .ref e), ("indent", VT (List.replicate q.1 32))])).set e2 (.raw (instObj 110 d2))).set d2 (.dic (ei e (List.replicate q.1 32) (flatT fi) (flatT fr)))).set d (.dic (tw w (flatT fi ++ List.replicate q.1 32) (flatT fr ++ List.replicate q.1 32)))) :=
      Upd.at (by simp) (Upd.old hd2 (Upd.old he2 (Upd.old hd2 (Upd.refl _ _))))
    have k8 : ((((H5.set d2 (.dic [("wrapper", .ref e), ("indent", VT (List.replicate q.1 32))])).set e2 (.raw (instObj 110 d2))).set d2 (.dic (ei e (List.replicate q.1 32) (flatT fi) (flatT fr)))).set d (.dic (tw w (flatT fi ++ List.replicate q.1 32) (flatT fr ++ List.replicate q.1 32)))) d = _ := HM.set_same _ _ _
    have k9 : ((((H5.set d2 (.dic [("wrapper", .ref e), ("indent", VT (List.replicate q.1 32))])).set e2 (.raw (instObj 110 d2))).set d2 (.dic (ei e (List.replicate q.1 32) (flatT fi) (flatT fr)))).set d (.dic (tw w (flatT fi ++ List.replicate q.1 32) (flatT fr ++ List.replicate q.1 32)))) d2 = some (.dic (ei e (List.replicate q.1 32) (flatT fi) (flatT fr))) := (HM.set_ne _ _ (Ne.symm (dn k3))).trans (HM.set_same _ _ _)
    have k10 : ((((H5.set d2 (.dic [("wrapper", .ref e), ("indent", VT (List.replicate q.1 32))])).set e2 (.raw (instObj 110 d2))).set d2 (.dic (ei e (List.replicate q.1 32) (flatT fi) (flatT fr)))).set d (.dic (tw w (flatT fi ++ List.replicate q.1 32) (flatT fr ++ List.replicate q.1 32)))) e2 = some (.raw (instObj 110 d2)) := (HM.set_ne _ _ (Ne.symm (en k3))).trans ((HM.set_ne _ _ hed2).trans (HM.set_same _ _ _))
    have nrd2 : rv ≠ d2 := dn k4
    have nre2 : rv ≠ e2 := en k4
    have nd2 : d2 ≠ e := Ne.symm (dn k2)
    have nd3 : d2 ≠ d := Ne.symm (dn k3)
    have nd4 : d ≠ e2 := en k3
    generalize ((((H5.set d2 (.dic [("wrapper", .ref e), ("indent", VT (List.replicate q.1 32))])).set e2 (.raw (instObj 110 d2))).set d2 (.dic (ei e (List.replicate q.1 32) (flatT fi) (flatT fr)))).set d (.dic (tw w (flatT fi ++ List.replicate q.1 32) (flatT fr ++ List.replicate q.1 32)))) = H7 at *
    have k11 : H7 e = some (.raw (instObj 180 d)) := k7 _ _ (by simp [Ne.symm nde]) k2
    have k12 : H7 rv = some (.list ((res.take k).map VT)) := k7 _ _ (by simp [nrd]) k4
    have hvl : ((res.take k).map VT).length < 16000000 := by
      rw [List.length_map, List.length_take, ← hres.len, ← v6.len]; omega
    have htk : (res.take (k + 1)).map VT = (res.take k).map VT ++ [VT y] := by rw [List.take_add_one, hy]; simp
    have fin : ∀ m2, LM.le ([("rv", .ref rv), ("wrapper", .ref e)] : LM) m2 → Keep (fun m' H' => m' = ([("rv", .ref rv), ("wrapper", .ref e)] : LM) ∧ Upd [rv, d, L + 1 + 1, r1] H H' ∧ H' rv = some (.list ((res.take (k + 1)).map VT)) ∧ H' d = some (.dic (tw w (flatT fi) (flatT fr))) ∧ ∃ v, H' (L + 1 + 1) = some (.cell v)) m2 ((H7.set rv (.list ((res.take k).map VT ++ [VT y]))).set d (.dic (tw w (flatT fi) (flatT fr)))) := fun m2 hm2 => by
      refine ⟨_, _, hm2, HM.le.refl _, rfl, ?_, ?_, HM.set_same _ _ _, ?_⟩
      · exact Upd.at (by simp) (Upd.at (by simp) (k5.comp k7 (fun a ha => .inl (by simp at ha ⊢; rcases ha with (z | z | z | z) | z <;> simp [z]))))
      · rw [HM.set_ne _ _ nrd, HM.set_same, htk]
      · exact ⟨_, by rw [HM.set_ne _ _ (Ne.symm ndi), HM.set_ne _ _ (Ne.symm nri)]; exact k7 _ _ (by simp [Ne.symm ndi]) k1⟩
    cases hraw : q.2.1 with
    | true =>
      unfold ParRes at hyr
      rw [hraw, if_pos rfl] at hyr
      obtain ⟨z1, rfl⟩ := hyr
      walk_at "run"
      refine K_only (n := n + 5) (by assumption) k11 k8 (by simp; omega) (by simp; omega) (by omega) (fun z => (flat_mem ok2 z).2.1 rfl) z1 ?_
      walk_at "run"
      with_reducible refine K_exit (n := n + 6) (w := w) (by assumption) ((HM.set_ne _ _ (Ne.symm nre2)).trans k10) ((HM.set_ne _ _ (Ne.symm nrd2)).trans k9) ((HM.set_ne _ _ (Ne.symm nre)).trans k11) ((HM.set_ne _ _ (Ne.symm nrd)).trans k8) (Ne.symm hed2) nd2 nd3 nd4 nde ?_
      walk_at "run"
      exact fin _ (by walk_at "le")
    | false =>
      unfold ParRes at hyr
      rw [hraw, if_neg (by simp)] at hyr
      obtain ⟨kf, out, z1, z2, z3, rfl⟩ := hyr
      walk_at "run"
      have rok : ∀ k, okT (plain (List.replicate k 32)) := fun k => plain_ok fun x hx => by rw [(List.mem_replicate.mp hx).2]; exact ok32
      with_reducible refine K_fill (n := n) (fi := fi ++ plain (List.replicate q.1 32)) (fr := fr ++ plain (List.replicate q.1 32)) (by assumption) k11 (by rw [plain_flat_rep, plain_flat_rep]; exact k8) hw (okT_append.mpr ⟨oi, rok _⟩) (okT_append.mpr ⟨or, rok _⟩) ok2 (by rw [plain_flat_rep]; simp; omega) (by rw [plain_flat_rep]; simp; omega) (by omega) z1 z2 z3 ?_
      walk_at "run"
      with_reducible refine K_exit (n := n + 6) (w := w) (by assumption) ((HM.set_ne _ _ (Ne.symm nre2)).trans k10) ((HM.set_ne _ _ (Ne.symm nrd2)).trans k9) ((HM.set_ne _ _ (Ne.symm nre)).trans k11) ((HM.set_ne _ _ (Ne.symm nrd)).trans k8) (Ne.symm hed2) nd2 nd3 nd4 nde ?_
      walk_at "run"
      exact fin _ (by walk_at "le")
  · rintro m' H' hn ⟨rfl, u2, g1, g2, v1, g3⟩
    have hl : as.length = res.length := by rw [v6.len, hres.len]
    rw [List.length_map, hl, List.take_length] at g1
    have g1' : (H'.set r1 (.list (as.map .ref))) rv = some (.list (res.map VT)) := by rw [HM.set_ne _ _ hrd]; exact g1
    walk_at "run"
    refine EndJ.retE (h _ fun a o ha e => ?_)
    by_cases q : a = r1
    · subst q; rw [v5] at e; rw [HM.set_same]; exact e
    · rw [HM.set_ne _ _ q]; exact u2 a o (by simp at ha ⊢; exact ⟨ha.1, ha.2.1, ha.2.2, q⟩) e
end

section
variable {c : FC} {P : Params} {n : Nat} {m : LM} {H : HM} {X : XM}
theorem qual_eq (L f : Addr) : qualnameIn (c.call (fdOf (KK P) 190) L f).env (Str.ofString "_flush_par") (Str.ofString "_flush_par") = qualF P := rfl
set_option maxHeartbeats 4000000 in
theorem K_text1 {p : Program} {loose : List Str} {mean : ExcName → Option Value} {mg mb : Str → Option Value} (T : Top p loose mean mg mb c.s₀.heap) (C : ∀ cc, (fdOf (KK P) 190).code = .ref cc → CodeHd c.s₀.heap cc 185) {w : Int} {fi fr ts : List Tk} {Q : Value → HM → Prop} (O : Ok c (KK P) (n + 8))
    (hw : 0 < w) (oi : okT fi) (or : okT fr) (ot : okT ts) (li : (flatT fi).length ≤ 10000) (lr : (flatT fr).length ≤ 10000) (lt : (flatT ts).length ≤ 80000)
    (hT : TabSt P H)
    {res : List (List Nat)} (hres : F2 (ParRes w fi fr) (parsT ts) res) (hjr : joinSize [10, 10] res ≤ 16000000)
    (h : ∀ H', Upd [185] H H' → TabSt P H' → Q (VT (joinL [10, 10] res)) H') : CallJ c (.ref 190) [VT (flatT ts), VI w, VT (flatT fi), VT (flatT fr), VB true] [] m H Q X := by
  refine CallJ.run (bs := [("text", VT (flatT ts)), ("width", VI w), ("initial_indent", VT (flatT fi)), ("subsequent_indent", VT (flatT fr)), ("preserve_paragraphs", VB true)]) O ⟨⟨_, _, _, rfl⟩, rfl, rfl, rfl, rfl, rfl, rfl, rfl, rfl, by decide⟩ (fun Vs Ks e1 e2 => by
    obtain ⟨A, B, C, D, E, rfl, hA, hB, hC, hD, hE⟩ := call5 e1
    obtain rfl := kw0 e2
    refine ⟨[("text", A), ("width", B), ("initial_indent", C), ("subsequent_indent", D), ("preserve_paragraphs", E)], fun s X => binds_K X rfl rfl rfl rfl rfl, ?_⟩
    simp only [List.map_cons, List.map_nil, hA, hB, hC, hD, hE]) rfl ?_
  intro L hL Ok'
  show Exs _ _ [("preserve_paragraphs", VB true), ("subsequent_indent", VT (flatT fr)), ("initial_indent", VT (flatT fi)), ("width", VI w), ("text", VT (flatT ts))] (((H.set (L + 1) (.cell none)).set (L + 1 + 1) (.cell none)).set (L + 1 + 1 + 1) (.cell none)) _ _
  have h1 := hL (L + 1) (Nat.le_add_right L 1)
  have h2 := hL (L + 1 + 1) (Nat.le_add_right L 2)
  have h3 := hL (L + 1 + 1 + 1) (Nat.le_add_right L 3)
  have n1 : L + 1 ≠ L + 1 + 1 := Nat.ne_of_lt (Nat.lt_succ_self _)
  have n2 : L + 1 + 1 ≠ L + 1 + 1 + 1 := Nat.ne_of_lt (Nat.lt_succ_self _)
  have n3 : L + 1 ≠ L + 1 + 1 + 1 := Nat.ne_of_lt (Nat.lt_trans (Nat.lt_succ_self _) (Nat.lt_succ_self _))
  walk_at "run"
  refine C_expandtabs (fun h9 => (flat_mem ot h9).1 rfl) ?_
  walk_at "run"
  refine CallJ.cls (fI := 51) (by assumption) rfl rfl rfl (fun c' O' e d he hd hed => ?_)
  refine K_init O' (HM.set_same _ _ _) ((HM.set_ne _ _ (Ne.symm hed)).trans (HM.set_same _ _ _)) hed ⟨rfl, ?_⟩
  rw [HM.set_comm _ _ _ hed, HM.set_set]
  simp only [HM.set_none] at he hd
  obtain ⟨he1, he2', he3, he⟩ := he
  obtain ⟨hd1, hd2, hd3, hd⟩ := hd
  walk_at "run"
  refine iteFe rfl ?_
  walk_at "run"
  rename_i r1 k1 k2 k3 k4 k5 k0 r2 j1 j2 j3 j4 j5 j6 j7 j0
  have u0 : Upd [] H ((((((((((H.set (L + 1) (.cell none)).set (L + 1 + 1) (.cell none)).set (L + 1 + 1 + 1) (.cell none)).set d (.dic (tw w (flatT fi) (flatT fr)))).set e (.raw (instObj 180 d))).set r1 (.list [])).set (L + 1 + 1 + 1) (.cell (some (.ref r1)))).set r2 (.list [])).set (L + 1) (.cell (some (.ref r2)))).set (L + 1 + 1) (.cell (some .none))) :=
    Upd.old h2 (Upd.old h1 (Upd.old j0 (Upd.old h3 (Upd.old k0 (Upd.old he (Upd.old hd (Upd.old h3 (Upd.old h2 (Upd.old h1 (Upd.refl _ _))))))))))
  have f1 : ((((((((((H.set (L + 1) (.cell none)).set (L + 1 + 1) (.cell none)).set (L + 1 + 1 + 1) (.cell none)).set d (.dic (tw w (flatT fi) (flatT fr)))).set e (.raw (instObj 180 d))).set r1 (.list [])).set (L + 1 + 1 + 1) (.cell (some (.ref r1)))).set r2 (.list [])).set (L + 1) (.cell (some (.ref r2)))).set (L + 1 + 1) (.cell (some .none))) (L + 1) = some (.cell (some (.ref r2))) := by walk_at "heap"
  have f2 : ((((((((((H.set (L + 1) (.cell none)).set (L + 1 + 1) (.cell none)).set (L + 1 + 1 + 1) (.cell none)).set d (.dic (tw w (flatT fi) (flatT fr)))).set e (.raw (instObj 180 d))).set r1 (.list [])).set (L + 1 + 1 + 1) (.cell (some (.ref r1)))).set r2 (.list [])).set (L + 1) (.cell (some (.ref r2)))).set (L + 1 + 1) (.cell (some .none))) (L + 1 + 1) = some (.cell (some .none)) := by walk_at "heap"
  have f3 : ((((((((((H.set (L + 1) (.cell none)).set (L + 1 + 1) (.cell none)).set (L + 1 + 1 + 1) (.cell none)).set d (.dic (tw w (flatT fi) (flatT fr)))).set e (.raw (instObj 180 d))).set r1 (.list [])).set (L + 1 + 1 + 1) (.cell (some (.ref r1)))).set r2 (.list [])).set (L + 1) (.cell (some (.ref r2)))).set (L + 1 + 1) (.cell (some .none))) (L + 1 + 1 + 1) = some (.cell (some (.ref r1))) := by walk_at "heap"
  have f4 : ((((((((((H.set (L + 1) (.cell none)).set (L + 1 + 1) (.cell none)).set (L + 1 + 1 + 1) (.cell none)).set d (.dic (tw w (flatT fi) (flatT fr)))).set e (.raw (instObj 180 d))).set r1 (.list [])).set (L + 1 + 1 + 1) (.cell (some (.ref r1)))).set r2 (.list [])).set (L + 1) (.cell (some (.ref r2)))).set (L + 1 + 1) (.cell (some .none))) r1 = some (.list []) := by walk_at "heap"
  have f5 : ((((((((((H.set (L + 1) (.cell none)).set (L + 1 + 1) (.cell none)).set (L + 1 + 1 + 1) (.cell none)).set d (.dic (tw w (flatT fi) (flatT fr)))).set e (.raw (instObj 180 d))).set r1 (.list [])).set (L + 1 + 1 + 1) (.cell (some (.ref r1)))).set r2 (.list [])).set (L + 1) (.cell (some (.ref r2)))).set (L + 1 + 1) (.cell (some .none))) r2 = some (.list []) := by walk_at "heap"
  have f6 : ((((((((((H.set (L + 1) (.cell none)).set (L + 1 + 1) (.cell none)).set (L + 1 + 1 + 1) (.cell none)).set d (.dic (tw w (flatT fi) (flatT fr)))).set e (.raw (instObj 180 d))).set r1 (.list [])).set (L + 1 + 1 + 1) (.cell (some (.ref r1)))).set r2 (.list [])).set (L + 1) (.cell (some (.ref r2)))).set (L + 1 + 1) (.cell (some .none))) d = some (.dic (tw w (flatT fi) (flatT fr))) := by walk_at "heap"
  have f7 : ((((((((((H.set (L + 1) (.cell none)).set (L + 1 + 1) (.cell none)).set (L + 1 + 1 + 1) (.cell none)).set d (.dic (tw w (flatT fi) (flatT fr)))).set e (.raw (instObj 180 d))).set r1 (.list [])).set (L + 1 + 1 + 1) (.cell (some (.ref r1)))).set r2 (.list [])).set (L + 1) (.cell (some (.ref r2)))).set (L + 1 + 1) (.cell (some .none))) e = some (.raw (instObj 180 d)) := by walk_at "heap"
  have f8 : ∀ x, (((((((((((H.set (L + 1) (.cell none)).set (L + 1 + 1) (.cell none)).set (L + 1 + 1 + 1) (.cell none)).set d (.dic (tw w (flatT fi) (flatT fr)))).set e (.raw (instObj 180 d))).set r1 (.list [])).set (L + 1 + 1 + 1) (.cell (some (.ref r1)))).set r2 (.list [])).set (L + 1) (.cell (some (.ref r2)))).set (L + 1 + 1) (.cell (some .none))) x = none → x ≠ L + 1 ∧ x ≠ L + 1 + 1) := fun x hx => by
    simp only [HM.set_none] at hx; exact ⟨hx.2.1, hx.1⟩
  generalize ((((((((((H.set (L + 1) (.cell none)).set (L + 1 + 1) (.cell none)).set (L + 1 + 1 + 1) (.cell none)).set d (.dic (tw w (flatT fi) (flatT fr)))).set e (.raw (instObj 180 d))).set r1 (.list [])).set (L + 1 + 1 + 1) (.cell (some (.ref r1)))).set r2 (.list [])).set (L + 1) (.cell (some (.ref r2)))).set (L + 1 + 1) (.cell (some .none))) = H1 at *
  obtain ⟨ps, t1, t2, t3⟩ := hT
  with_reducible refine Ex.via (fun m' H' => ∃ f, m' = ([("_flush_par", .ref f), ("wrapper", .ref e), ("preserve_paragraphs", VB true), ("subsequent_indent", VT (flatT fr)), ("initial_indent", VT (flatT fi)), ("width", VI w), ("text", VT (flatT ts))] : LM) ∧ Upd [185] H1 H' ∧ TabSt P H' ∧ FnF P H' f (L + 1) (L + 1 + 1) (L + 1 + 1 + 1)) ?_ ?_
  · rcases t3 with t3 | ⟨c1, oc, t3, t4, t5⟩
    · refine Ex.defNew (P := 185) (ps := ps) (clos := [("p", L + 1 + 1 + 1), ("indent", L + 1 + 1), ("buf", L + 1)]) T (C _ rfl) rfl rfl rfl rfl rfl rfl (u0 _ _ (by simp) t1) t2 t3 ?_
      intro f c' oc ctv doc hf hc' hfc hoc
      have e1 : (185 : Addr) ≠ f := HM.ne_of hf (u0 _ _ (by simp) t1)
      have e2 : (185 : Addr) ≠ c' := HM.ne_of hc' (u0 _ _ (by simp) t1)
      walk_at "run"
      refine ViaJ.mk (by walk_at "le") ⟨f, rfl, ?_, ?_, ?_⟩
      · exact Upd.old hf (Upd.old hc' (Upd.at (by simp) (Upd.refl _ _)))
      · refine ⟨ps ++ #[rawInt fpos.line, rawInt fpos.col, .ref c'], ?_, ?_, .inr ⟨c', oc, ?_, ?_, hoc⟩⟩
        · rw [HM.set_ne _ _ e1, HM.set_ne _ _ e2, HM.set_same]; rfl
        · rw [Array.toList_append]; exact TriplesOk_snoc _ _ _ _ t2
        · rw [Array.toList_append]; exact codeAmong_snoc _ t2 t3
        · rw [HM.set_ne _ _ (Ne.symm hfc), HM.set_same]
      · exact ⟨_, _, _, _, _, _, _, _, c', oc, rfl, HM.set_same _ _ _, by rw [HM.set_ne _ _ (Ne.symm hfc), HM.set_same], hoc⟩
    · refine Ex.defHit (P := 185) (ps := ps) (clos := [("p", L + 1 + 1 + 1), ("indent", L + 1 + 1), ("buf", L + 1)]) T (C _ rfl) rfl rfl rfl rfl rfl rfl (u0 _ _ (by simp) t1) t2 t3 ?_
      intro f ctv doc hf
      walk_at "run"
      refine ViaJ.mk (by walk_at "le") ⟨f, rfl, ?_, ?_, ?_⟩
      · exact Upd.old hf (Upd.refl _ _)
      · refine ⟨ps, ?_, t2, .inr ⟨c1, oc, t3, ?_, t5⟩⟩
        · rw [HM.set_ne _ _ (HM.ne_of hf (u0 _ _ (by simp) t1))]; exact u0 _ _ (by simp) t1
        · rw [HM.set_ne _ _ (HM.ne_of hf (u0 _ _ (by simp) t4))]; exact u0 _ _ (by simp) t4
      · exact ⟨_, _, _, _, _, _, _, _, c1, oc, rfl, HM.set_same _ _ _, by rw [HM.set_ne _ _ (HM.ne_of hf (u0 _ _ (by simp) t4))]; exact u0 _ _ (by simp) t4, t5⟩
  · rintro m' H2 ⟨f, rfl, u1, hT2, hF2⟩
    have q1 : L + 1 ∉ ([185] : List Addr) := fun q => HM.ne_of h1 t1 (List.mem_singleton.mp q).symm
    have q2 : L + 1 + 1 ∉ ([185] : List Addr) := fun q => HM.ne_of h2 t1 (List.mem_singleton.mp q).symm
    have q3 : L + 1 + 1 + 1 ∉ ([185] : List Addr) := fun q => HM.ne_of h3 t1 (List.mem_singleton.mp q).symm
    have q4 : r1 ∉ ([185] : List Addr) := fun q => HM.ne_of k0 t1 (List.mem_singleton.mp q).symm
    have q5 : r2 ∉ ([185] : List Addr) := fun q => HM.ne_of j0 t1 (List.mem_singleton.mp q).symm
    have q6 : d ∉ ([185] : List Addr) := fun q => HM.ne_of hd t1 (List.mem_singleton.mp q).symm
    have q7 : e ∉ ([185] : List Addr) := fun q => HM.ne_of he t1 (List.mem_singleton.mp q).symm
    have f1 := u1 _ _ q1 f1
    have f2 := u1 _ _ q2 f2
    have f3 := u1 _ _ q3 f3
    have f4 := u1 _ _ q4 f4
    have f5 := u1 _ _ q5 f5
    have f6 := u1 _ _ q6 f6
    have f7 := u1 _ _ q7 f7
    have S0 : PS H2 (L + 1) (L + 1 + 1) (L + 1 + 1 + 1) r2 r1 0 [] [] [] := ⟨f1, f2, f3, f5, f4, .nil⟩
    have fo : ∀ a ∈ [r2, r1, L + 1 + 1], ∀ o, H2 a ≠ some (.raw o) := by
      intro a ha o e
      simp only [List.mem_cons, List.not_mem_nil, or_false] at ha
      rcases ha with rfl | rfl | rfl
      · rw [f5] at e; cases e
      · rw [f4] at e; cases e
      · rw [f2] at e; cases e
    clear f1 f2 f3 f4 f5
    walk_at "run"
    with_reducible refine Ex.via (fun m' H' => m' = ([("_flush_par", .ref f), ("wrapper", .ref e), ("preserve_paragraphs", VB true), ("subsequent_indent", VT (flatT fr)), ("initial_indent", VT (flatT fi)), ("width", VI w), ("text", VT (flatT ts))] : LM) ∧ Upd [r2, r1, L + 1 + 1] H2 H' ∧ ∃ ind buf as ps, PS H' (L + 1) (L + 1 + 1) (L + 1 + 1 + 1) r2 r1 ind buf as ps ∧ (∀ l ∈ buf, okT l) ∧ szL buf + as.length ≤ 90001 ∧ ps ++ flushP ind buf = parsT ts) ?_ ?_
    · refine Ex.forGN Ok'.hh ?_ (fun _ => rfl)
      walk_at "run"
      refine C_splitlines (fun h13 => (flat_mem ot h13).2.1 rfl) (by omega) (fun la hla => ?_)
      have hll := szL_len (linesT ts)
      have hsl := szL_lines ts
      have hlk : (linesL (flatT ts)).length = (linesT ts).length := by rw [← linesT_flat ot, List.length_map]
      refine ForJN.list (HM.set_same _ _ _) (by rw [List.length_map]; omega) (fun k m' H' => m' = ([("_flush_par", .ref f), ("wrapper", .ref e), ("preserve_paragraphs", VB true), ("subsequent_indent", VT (flatT fr)), ("initial_indent", VT (flatT fi)), ("width", VI w), ("text", VT (flatT ts))] : LM) ∧ Upd [r2, r1, L + 1 + 1] H2 H' ∧ ∃ ind buf as ps, PS H' (L + 1) (L + 1 + 1) (L + 1 + 1 + 1) r2 r1 ind buf as ps ∧ (∀ l ∈ buf, okT l) ∧ szL buf + szL ((linesT ts).drop k) + as.length ≤ 90001 ∧ ps ++ parsGo ((linesT ts).drop k) ind buf = parsT ts) (Keep.here ⟨rfl, Upd.del hla (Upd.old hla (Upd.refl _ _)), 0, [], [], [], ?_, ?_, ?_, ?_⟩) ?_ ?_
      · have u : Upd [] H2 ((H2.set la (.list ((linesL (flatT ts)).map VT))).del la) := Upd.del hla (Upd.old hla (Upd.refl _ _))
        exact S0.upd u
      · exact fun _ h => by cases h
      · rw [List.drop_zero]; simp [szL] at *; omega
      · rw [List.drop_zero]; rfl
      · rintro k x m' H' hx hn ⟨rfl, u2, ind, buf, as, ps, S, hb, hs, he2⟩
        rw [List.getElem?_map, ← linesT_flat ot, List.getElem?_map, Option.map_map, Option.map_eq_some_iff] at hx
        obtain ⟨l, hx, rfl⟩ := hx
        have hdr : (linesT ts).drop k = l :: (linesT ts).drop (k + 1) := by
          obtain ⟨hk, rfl⟩ := List.getElem?_eq_some_iff.mp hx
          exact List.drop_eq_getElem_cons hk
        rw [hdr] at hs he2
        rw [szL_cons] at hs
        have okl := linesT_ok ot l (List.mem_of_getElem? hx)
        have hF := hF2.upd u2 fo
        have sb := S.b
        have si := S.i
        have sbl := S.bl
        show Tgt _ _ (VT (flatT l)) _ _ _ _
        have hl1 : (flatT l).length ≤ 16000000 := by omega
        walk_at "run"
        have bne : L + 1 ≠ r2 := fun q => by rw [q, sbl] at sb; cases sb
        have ine : r2 ≠ L + 1 + 1 := fun q => by rw [q] at sbl; rw [sbl] at si; cases si
        have ine2 : r1 ≠ L + 1 + 1 := fun q => by have := S.pl; rw [q] at this; rw [this] at si; cases si
        cases l with
        | nil =>
          refine iteTe rfl ?_
          walk_at "run"
          refine ⟨hF.kp, ?_⟩
          with_reducible refine K_flushP (n := n + 5) (by assumption) hF S (by omega) (by omega) fun H'' as' v1 v2 v3 v4 v5 v6 v7 v8 => ?_
          have v9 := v8 _ si
          walk_at "run"
          have u3 : Upd [L + 1 + 1] H'' (H''.set (L + 1 + 1) (.cell (some .none))) := Upd.at (by simp) (Upd.refl _ _)
          refine ⟨_, _, by walk_at "le", HM.le.refl _, rfl, ?_, 0, [], as', ps ++ flushP ind buf, ⟨?_, ?_, ?_, ?_, ?_, ?_⟩, ?_, ?_, ?_⟩
          · exact Upd.at (by simp) (u2.trans (fun a o ha e => v1 a o (by simp at ha ⊢; exact ⟨ha.1, ha.2.1⟩) e))
          · rw [HM.set_ne _ _ n1]; exact v2
          · rw [HM.set_same, if_pos rfl]
          · rw [HM.set_ne _ _ (Ne.symm n2)]; exact v3
          · rw [HM.set_ne _ _ ine]; exact v4
          · rw [HM.set_ne _ _ ine2]; exact v5
          · exact ParAt.upd u3 (fun a ha o e => by rw [List.mem_singleton.mp ha, v9] at e; cases e) v6
          · exact fun _ h => by cases h
          · simp [szL, flatT] at hs ⊢
            split at v7
            · omega
            · rename_i hbn
              have : 0 < szL buf := by have := szL_len buf; have := List.length_pos_iff.mpr hbn; omega
              simp [szL] at this
              omega
          · rw [← he2]
            conv => rhs; unfold parsGo
            rw [if_pos rfl, List.append_assoc]
        | cons t l' =>
          have hne : t :: l' ≠ [] := by simp
          have hfe : (flatT (t :: l')).isEmpty = false := by
            cases q : flatT (t :: l') with
            | nil => exact absurd (flatT_eq_nil (by rw [q]; rfl)) hne
            | cons _ _ => rfl
          generalize t :: l' = l at *
          refine iteFe (by rw [hfe]; rfl) ?_
          by_cases hbn : buf = []
          · subst hbn
            rw [if_pos rfl] at si
            walk_at "run"
            with_reducible refine K_term_len (n := n + 5) (by assumption) okl (by omega) (Nat.le_trans (vis_le l) (by omega)) ?_
            walk_at "run"
            rw [← lstripT_flat]
            with_reducible refine K_term_len (ts := lstripT l) (n := n + 5) (by assumption) (lstripT_ok okl) (by have := lstripT_len l; omega) (Nat.le_trans (vis_le _) (by have := lstripT_len l; omega)) ?_
            have hsub : (vis l : Int) - (vis (lstripT l) : Int) = ((vis l - vis (lstripT l) : Nat) : Int) := by have := lstripT_vis l; omega
            walk_at "run"
            rw [hsub]
            have sbl2 : (H'.set (L + 1 + 1) (.cell (some (VI ((vis l - vis (lstripT l) : Nat) : Int))))) r2 = some (.list []) := by rw [HM.set_ne _ _ ine]; exact sbl
            have sb2 : (H'.set (L + 1 + 1) (.cell (some (VI ((vis l - vis (lstripT l) : Nat) : Int))))) (L + 1) = some (.cell (some (.ref r2))) := by rw [HM.set_ne _ _ n1]; exact sb
            have hz : ([] : List Value).length < 16000000 := by decide
            walk_at "run"
            have u3 : Upd [L + 1 + 1, r2] H' ((H'.set (L + 1 + 1) (.cell (some (VI ((vis l - vis (lstripT l) : Nat) : Int))))).set r2 (.list ([] ++ [VT (flatT (lstripT l))]))) := Upd.at (by simp) (Upd.at (by simp) (Upd.refl _ _))
            refine ⟨_, _, by walk_at "le", HM.le.refl _, rfl, ?_, vis l - vis (lstripT l), [lstripT l], as, ps, ⟨?_, ?_, ?_, ?_, ?_, ?_⟩, ?_, ?_, ?_⟩
            · exact Upd.at (by simp) (Upd.at (by simp) u2)
            · rw [HM.set_ne _ _ bne]; exact sb2
            · rw [HM.set_ne _ _ (Ne.symm ine), HM.set_same, if_neg (by simp)]
            · exact u3 _ _ (by simp [Ne.symm n2]; exact fun q => by have := S.p; rw [q, sbl] at this; cases this) S.p
            · rw [HM.set_same]; rfl
            · exact u3 _ _ (by simp; exact ⟨ine2, fun q => j2 q.symm⟩) S.pl
            · exact ParAt.upd u3 (fun a ha o e => by
                simp only [List.mem_cons, List.not_mem_nil, or_false] at ha
                rcases ha with rfl | rfl
                · rw [si] at e; cases e
                · rw [sbl] at e; cases e) S.q
            · exact fun x hx => by rw [List.mem_singleton.mp hx]; exact lstripT_ok okl
            · have := lstripT_len l
              simp [szL] at hs ⊢; omega
            · rw [← he2]
              conv => rhs; unfold parsGo
              rw [if_neg hne, if_pos rfl]
          · rw [if_neg hbn] at si
            have hbl : (buf.map fun l => VT (flatT l)).length < 16000000 := by rw [List.length_map]; have := szL_len buf; omega
            walk_at "run"
            have u3 : Upd [r2] H' (H'.set r2 (.list ((buf.map fun l => VT (flatT l)) ++ [VT (flatT l)]))) := Upd.at (by simp) (Upd.refl _ _)
            refine ⟨_, _, by walk_at "le", HM.le.refl _, rfl, ?_, ind, buf ++ [l], as, ps, ⟨?_, ?_, ?_, ?_, ?_, ?_⟩, ?_, ?_, ?_⟩
            · exact Upd.at (by simp) u2
            · rw [HM.set_ne _ _ bne]; exact sb
            · rw [HM.set_ne _ _ (Ne.symm ine), if_neg (by simp)]; exact si
            · exact u3 _ _ (by simp; exact fun q => by have := S.p; rw [q, sbl] at this; cases this) S.p
            · rw [HM.set_same, List.map_append]; rfl
            · exact u3 _ _ (by simp; exact fun q => j2 q.symm) S.pl
            · exact ParAt.upd u3 (fun a ha o e => by rw [List.mem_singleton.mp ha, sbl] at e; cases e) S.q
            · intro x hx
              rcases List.mem_append.mp hx with hx | hx
              · exact hb x hx
              · rw [List.mem_singleton.mp hx]; exact okl
            · rw [szL_append, szL_cons]; simp [szL] at hs ⊢; omega
            · rw [← he2]
              conv => rhs; unfold parsGo
              rw [if_neg hne, if_neg hbn]
      · rintro m' H' hn ⟨rfl, u2, ind, buf, as, ps, S, hb, hs, he2⟩
        rw [List.length_map, hlk, List.drop_length] at hs he2
        refine ViaJ.mk (LM.le_refl _) ⟨rfl, Upd.old hla u2, ind, buf, as, ps, S.upd (Upd.new hn (Upd.refl _ _)), hb, ?_, he2⟩
        simp [szL] at *; omega
    · rintro m' H3 ⟨rfl, u2, ind, buf, as, ps, S, hb, hs, he2⟩
      have hF := hF2.upd u2 fo
      walk_at "run"
      refine ⟨hF.kp, ?_⟩
      have si := S.i
      with_reducible refine K_flushP (n := n + 5) (by assumption) hF S (by omega) (by omega) fun H4 as' v1 v2 v3 v4 v5 v6 v7 v8 => ?_
      rw [he2] at v6
      have v9 := v8 _ si
      have uA : Upd [r2, r1, L + 1 + 1] H2 H4 := u2.trans (fun a o ha e => v1 a o (by simp at ha ⊢; exact ⟨ha.1, ha.2.1⟩) e)
      have w6 : H4 d = some (.dic (tw w (flatT fi) (flatT fr))) := uA _ _ (by
        simp only [List.mem_cons, List.not_mem_nil, or_false, not_or]
        exact ⟨fun q => j4 q.symm, fun q => k2 q.symm, hd2⟩) f6
      have w7 : H4 e = some (.raw (instObj 180 d)) := uA _ _ (by
        simp only [List.mem_cons, List.not_mem_nil, or_false, not_or]
        exact ⟨fun q => j3 q.symm, fun q => k1 q.symm, he2'⟩) f7
      have hT4 := hT2.upd uA fo
      have u04 : Upd [185] H H4 := u0.comp (u1.comp (l'' := [185, r2, r1, L + 1 + 1]) uA (fun a ha => .inl (by simp only [List.mem_cons, List.not_mem_nil, or_false] at ha ⊢; exact ha))) (fun a ha => by
        simp only [List.mem_cons, List.not_mem_nil, or_false, false_or] at ha
        rcases ha with rfl | rfl | rfl | rfl
        · exact .inl (by simp)
        · exact .inr j0
        · exact .inr k0
        · exact .inr h2)
      clear u1 uA u2 v1 v2 v8 hT2 hF2 hF S S0
      walk_at "run"
      rename_i rv hrv
      have u5 : Upd [] H4 (H4.set rv (.list [])) := Upd.new hrv (Upd.refl _ _)
      have hpk := parsT_ok ot
      refine K_pars (n := n) (H := H4.set rv (.list [])) (f := f) (r1 := r1) (e := e) (d := d) (rv := rv) (as := as') (by assumption) (u5 _ _ (by simp) v3) (u5 _ _ (by simp) v5) (ParAt.upd u5 (by simp) v6) ⟨_, u5 _ _ (by simp) v9⟩ (u5 _ _ (by simp) w6) (u5 _ _ (by simp) w7) (HM.set_same _ _ _) (by split at v7 <;> omega) (Ne.symm (HM.ne_of hrv v5)) hres (fun q hq => by have := hpk q hq; exact ⟨by omega, this.2.1, by omega⟩) hw oi or li lr hjr fun H' u6 => ?_
      refine h H' ?_ ?_
      · refine (u04.comp u5 (l'' := [185]) (fun a ha => .inl (by simpa using ha))).comp u6 fun a ha => ?_
        simp only [List.mem_cons, List.not_mem_nil, or_false] at ha
        rcases ha with rfl | rfl | rfl | rfl
        · exact .inl (by simp)
        · exact .inr (Upd.none u04 (fun q => HM.ne_of hrv hT4.choose_spec.1 (List.mem_singleton.mp q).symm) hrv)
        · exact .inr hd
        · exact .inr h2
      · refine TabSt.upd (l := [rv, d, L + 1 + 1]) (H := H4.set rv (.list [])) (TabSt.upd hT4 u5 (by simp)) u6 fun a ha o e => ?_
        simp only [List.mem_cons, List.not_mem_nil, or_false] at ha
        rcases ha with rfl | rfl | rfl
        · rw [HM.set_same] at e; cases e
        · rw [u5 _ _ (by simp) w6] at e; cases e
        · rw [u5 _ _ (by simp) v9] at e; cases e
end

end Mine
end

section
open PySem PySem.W PySem.Calls PyProof.Rows PySem.Builtin PySem.Builtin.Str
set_option linter.all false
set_option maxRecDepth 100000
namespace Mine
/-! ## law 2, plain: words with one blank between -/
def Tk.wd : Tk → Prop
  | .ch c => 97 ≤ c ∧ c ≤ 104
  | .es ps => ∀ x ∈ ps, 48 ≤ x ∧ x ≤ 59
/-- a word, by tokens -/
structure WdT (t : List Tk) : Prop where
  tk : ∀ x ∈ t, x.wd
  v1 : 1 ≤ vis t
  v5 : vis t ≤ 5
  fl : (flatT t).length ≤ 30
theorem let_facts {c : Nat} (h1 : 97 ≤ c) (h2 : c ≤ 104) : Unicode.isLineBreak c = false ∧ Unicode.isSpace c = false := by
  have : c = 97 ∨ c = 98 ∨ c = 99 ∨ c = 100 ∨ c = 101 ∨ c = 102 ∨ c = 103 ∨ c = 104 := by omega
  rcases this with rfl | rfl | rfl | rfl | rfl | rfl | rfl | rfl <;> decide +kernel
theorem noSpace : ∀ x : Nat, 48 ≤ x → x ≤ 59 → Unicode.isSpace x = false := by
  intro x h1 h2
  have : x = 48 ∨ x = 49 ∨ x = 50 ∨ x = 51 ∨ x = 52 ∨ x = 53 ∨ x = 54 ∨ x = 55 ∨ x = 56 ∨ x = 57 ∨ x = 58 ∨ x = 59 := by omega
  rcases this with rfl | rfl | rfl | rfl | rfl | rfl | rfl | rfl | rfl | rfl | rfl | rfl <;> decide +kernel
theorem Tk.wd_ok {t : Tk} (h : t.wd) : t.ok := by
  cases t with
  | ch c => exact ⟨by have := h.1; omega, by have := h.2; omega, by have := h.1; omega, by have := h.1; omega⟩
  | es ps => exact h
theorem Tk.wd_b {t : Tk} (h : t.wd) : t.b = false := by
  cases t with
  | ch c =>
    have := h.1
    show decide (c ∈ [9, 10, 11, 12, 13, 32]) = false
    rw [decide_eq_false_iff_not]
    simp only [List.mem_cons, List.not_mem_nil, or_false]
    omega
  | es ps => rfl
theorem Tk.wd_flat {t : Tk} (h : t.wd) : ∀ x ∈ t.flat, Unicode.isSpace x = false ∧ x ≠ 8 := by
  cases t with
  | ch c =>
    intro x hx
    obtain rfl := List.mem_singleton.mp hx
    exact ⟨(let_facts h.1 h.2).2, by have := h.1; omega⟩
  | es ps =>
    intro x hx
    have hx : x ∈ 27 :: 91 :: (ps ++ [109]) := hx
    simp only [List.mem_cons, List.mem_append, List.not_mem_nil, or_false] at hx
    rcases hx with rfl | rfl | hx | rfl
    · exact ⟨by decide +kernel, by decide⟩
    · exact ⟨by decide +kernel, by decide⟩
    · have := h x hx
      exact ⟨noSpace x this.1 this.2, by omega⟩
    · exact ⟨by decide +kernel, by decide⟩
theorem WdT.ok {t : List Tk} (h : WdT t) : okT t := fun x hx => (Tk.wd_ok (h.tk x hx))
theorem WdT.ne {t : List Tk} (h : WdT t) : t ≠ [] := by rintro rfl; exact absurd h.v1 (by decide)
theorem WdT.fs {t : List Tk} (h : WdT t) : ∀ x ∈ flatT t, Unicode.isSpace x = false ∧ x ≠ 8 := by
  intro x hx
  obtain ⟨y, hy, hx⟩ := List.mem_flatMap.mp hx
  exact (Tk.wd_flat (h.tk y hy)) x hx
theorem lstripL_id {p : Nat → Bool} {l : List Nat} (h : ∀ x ∈ l, p x = false) : lstripL p l = l := by
  cases l with
  | nil => rfl
  | cons x r =>
    unfold lstripL
    rw [List.dropWhile_cons, h x List.mem_cons_self]; rfl
theorem rstripL_id {p : Nat → Bool} {l : List Nat} (h : ∀ x ∈ l, p x = false) : rstripL p l = l := by
  have := lstripL_id (p := p) (l := l.reverse) fun x hx => h x (List.mem_reverse.mp hx)
  unfold rstripL
  unfold lstripL at this
  rw [this, List.reverse_reverse]
theorem stripL_id {p : Nat → Bool} {l : List Nat} (h : ∀ x ∈ l, p x = false) : stripL p l = l := by
  unfold stripL; rw [lstripL_id h, rstripL_id h]
theorem stripL_mem {p : Nat → Bool} {l : List Nat} {x : Nat} (h : x ∈ stripL p l) : x ∈ l := by
  unfold stripL rstripL at h
  rw [List.mem_reverse] at h
  have := (List.dropWhile_sublist _).subset h
  rw [List.mem_reverse] at this
  exact (List.dropWhile_sublist _).subset this
theorem blank_word {t : List Tk} (h : WdT t) : blankT t = false := by
  unfold blankT
  rw [stripL_id fun x hx => (h.fs x hx).1, decide_eq_false_iff_not]
  intro q
  exact h.ne (flatT_eq_nil (by rw [q]; rfl))
theorem blank_sp : blankT [.ch 32] = true := by
  unfold blankT; rw [decide_eq_true_iff]; decide +kernel
theorem vis_append (a b : List Tk) : vis (a ++ b) = vis a + vis b := by unfold vis; rw [signs_append, List.length_append]
theorem vis_cons_ch (x : Nat) (b : List Tk) : vis (.ch x :: b) = 1 + vis b := by
  show vis ([.ch x] ++ b) = _
  rw [vis_append]; rfl

/-- words behind blanks -/
def spd (r : List (List Tk)) : List (List Tk) := r.flatMap fun y => [[.ch 32], y]
theorem spd_cons (y : List Tk) (r : List (List Tk)) : spd (y :: r) = [.ch 32] :: y :: spd r := rfl
theorem spd_append (a b : List (List Tk)) : spd (a ++ b) = spd a ++ spd b := List.flatMap_append
theorem joinTk_spd (x : List Tk) : ∀ r : List (List Tk), joinTk 32 (x :: r) = x ++ (spd r).flatten
  | [] => by simp [joinTk, spd]
  | y :: r => by
    unfold joinTk
    rw [joinTk_spd y r, spd_cons]
    simp
theorem chunk_ne (a : List (List Tk)) {z t : Tk} (zs : List Tk) (h : z.b ≠ t.b) : chunkTS (a ++ [z :: zs]) t = a ++ [z :: zs] ++ [[t]] := by
  unfold chunkTS
  rw [List.getLast?_concat]
  simp only [beq_iff_eq, if_neg h]
theorem chunk_eq (a : List (List Tk)) {z t : Tk} (zs : List Tk) (h : z.b = t.b) : chunkTS (a ++ [z :: zs]) t = a ++ [(z :: zs) ++ [t]] := by
  unfold chunkTS
  rw [List.getLast?_concat]
  simp only [beq_iff_eq, if_pos h, List.dropLast_concat]
theorem chunk_in : ∀ (l : List Tk) (a : List (List Tk)) (z : Tk) (zs : List Tk), (∀ x ∈ l, x.b = z.b) → l.foldl chunkTS (a ++ [z :: zs]) = a ++ [(z :: zs) ++ l]
  | [], a, z, zs, _ => by simp
  | y :: l, a, z, zs, h => by
    rw [List.foldl_cons, chunk_eq a zs (h y List.mem_cons_self).symm]
    have := chunk_in l a z (zs ++ [y]) fun x hx => h x (List.mem_cons_of_mem _ hx)
    rw [List.cons_append] at this ⊢
    rw [this]; simp
theorem chunk_spd : ∀ (r a : List (List Tk)) (z : Tk) (zs : List Tk), z.b = false → (∀ y ∈ r, WdT y) → ((spd r).flatten).foldl chunkTS (a ++ [z :: zs]) = a ++ [z :: zs] ++ spd r
  | [], a, z, zs, _, _ => by simp [spd]
  | y :: r, a, z, zs, hz, h => by
    have hy := h y List.mem_cons_self
    obtain ⟨y0, ys, rfl⟩ := List.exists_cons_of_ne_nil hy.ne
    have hb0 : y0.b = false := (Tk.wd_b (hy.tk y0 List.mem_cons_self))
    rw [spd_cons]
    simp only [List.flatten_cons, List.cons_append, List.nil_append, List.foldl_cons, List.foldl_append]
    have b32 : (Tk.ch 32).b = true := rfl
    rw [chunk_ne a zs (t := .ch 32) (by rw [hz, b32]; decide)]
    rw [chunk_ne (a ++ [z :: zs]) [] (z := .ch 32) (t := y0) (by rw [b32, hb0]; decide)]
    rw [chunk_in ys _ y0 [] fun x hx => by rw [(Tk.wd_b (hy.tk x (List.mem_cons_of_mem _ hx))), hb0]]
    rw [List.cons_append, List.nil_append, chunk_spd r _ y0 ys hb0 fun t ht => h t (List.mem_cons_of_mem _ ht)]
    simp
theorem chunk_words {x : List Tk} {r : List (List Tk)} (hx : WdT x) (h : ∀ y ∈ r, WdT y) : chunkT (joinTk 32 (x :: r)) = x :: spd r := by
  obtain ⟨y0, ys, rfl⟩ := List.exists_cons_of_ne_nil hx.ne
  have hb0 : y0.b = false := (Tk.wd_b (hx.tk y0 List.mem_cons_self))
  rw [joinTk_spd]
  unfold chunkT
  rw [List.foldl_append, List.foldl_cons]
  have e : chunkTS [] y0 = [] ++ [[y0]] := rfl
  rw [e, chunk_in ys _ y0 [] fun x' hx' => by rw [(Tk.wd_b (hx.tk x' (List.mem_cons_of_mem _ hx'))), hb0]]
  have := chunk_spd r [] y0 ys hb0 h
  simpa using this

/-- as many words as go there -/
def fitT (wd : Int) : Int → List (List Tk) → List (List Tk) × List (List Tk)
  | _, [] => ([], [])
  | cur, y :: r => if cur + 1 + vis y ≤ wd then (y :: (fitT wd (cur + 1 + vis y) r).1, (fitT wd (cur + 1 + vis y) r).2) else ([], y :: r)
theorem fitT_all (wd : Int) : ∀ (r : List (List Tk)) (cur : Int), (fitT wd cur r).1 ++ (fitT wd cur r).2 = r
  | [], _ => rfl
  | y :: r, cur => by
    unfold fitT
    split
    · show y :: ((fitT wd _ r).1 ++ (fitT wd _ r).2) = _
      rw [fitT_all]
    · rfl
theorem greedy_spd (wd : Int) : ∀ (r : List (List Tk)) (cur : Int) (line : List (List Tk)), ∃ cur' tail restc, greedy wd cur line (spd r) = (cur', line ++ spd (fitT wd cur r).1 ++ tail, restc) ∧
    ((tail = [] ∧ restc = spd (fitT wd cur r).2) ∨ (tail = [[.ch 32]] ∧ ∃ y r', (fitT wd cur r).2 = y :: r' ∧ restc = y :: spd r'))
  | [], cur, line => ⟨cur, [], [], by simp [spd, greedy, fitT], .inl ⟨rfl, rfl⟩⟩
  | y :: r, cur, line => by
    have v1 : vis [.ch 32] = 1 := rfl
    rw [spd_cons]
    unfold greedy fitT
    rw [v1]
    by_cases h1 : cur + (1 : Nat) ≤ wd
    · rw [if_pos h1]
      unfold greedy
      by_cases h2 : cur + (1 : Nat) + vis y ≤ wd
      · rw [if_pos h2, if_pos (by simpa using h2)]
        obtain ⟨cur', tail, restc, e, c⟩ := greedy_spd wd r (cur + (1 : Nat) + vis y) (line ++ [[.ch 32]] ++ [y])
        refine ⟨cur', tail, restc, ?_, c⟩
        rw [e]
        simp [spd_cons]
      · rw [if_neg h2, if_neg (by simpa using h2)]
        exact ⟨cur + (1 : Nat), [[.ch 32]], y :: spd r, by simp [spd], .inr ⟨rfl, y, r, rfl, rfl⟩⟩
    · rw [if_neg h1, if_neg (by have := Int.ofNat_nonneg (vis y); simp at h1; omega)]
      exact ⟨cur, [], [.ch 32] :: y :: spd r, by simp [spd], .inl ⟨rfl, rfl⟩⟩
theorem spd_last {x : List Tk} {r : List (List Tk)} (hx : WdT x) (h : ∀ y ∈ r, WdT y) : trimB (x :: spd r) = x :: spd r := by
  rcases List.eq_nil_or_concat r with rfl | ⟨a, y, rfl⟩
  · show trimB ([] ++ [x]) = _
    rw [trimB_snoc, blank_word hx]; rfl
  · rw [List.concat_eq_append, spd_append]
    have e : x :: (spd a ++ spd [y]) = (x :: (spd a ++ [[.ch 32]])) ++ [y] := by simp [spd]
    rw [e, trimB_snoc, blank_word (h y (by simp))]; rfl
theorem lay_words {wd : Int} {more : Bool} {x : List Tk} {r cs : List (List Tk)} (hx : WdT x) (h : ∀ y ∈ r, WdT y) (hw : 5 ≤ wd) (hc : cs = x :: spd r ∨ (more = true ∧ cs = [.ch 32] :: x :: spd r)) :
    ∃ restc, lay1 wd more cs = (x :: spd (fitT wd (vis x) r).1, restc) ∧ (restc = spd (fitT wd (vis x) r).2 ∨ ∃ y r', (fitT wd (vis x) r).2 = y :: r' ∧ restc = y :: spd r') := by
  have hd : dropB more cs = x :: spd r := by
    rcases hc with rfl | ⟨rfl, rfl⟩
    · simp [dropB, blank_word hx]
    · simp [dropB, blank_sp]
  have hall := fitT_all wd r (vis x)
  have h1 : ∀ y ∈ (fitT wd (vis x) r).1, WdT y := fun y hy => h y (by rw [← hall]; exact List.mem_append_left _ hy)
  have h2 : ∀ y ∈ (fitT wd (vis x) r).2, WdT y := fun y hy => h y (by rw [← hall]; exact List.mem_append_right _ hy)
  obtain ⟨cur', tail, restc, e, c⟩ := greedy_spd wd r (vis x) [x]
  have v1 : vis [.ch 32] = 1 := rfl
  have hg : greedy wd 0 [] (x :: spd r) = (cur', [x] ++ spd (fitT wd (vis x) r).1 ++ tail, restc) := by
    conv => lhs; unfold greedy
    rw [Int.zero_add, if_pos (by have := hx.v5; omega)]
    exact e
  have hq : cutLong wd cur' ([x] ++ spd (fitT wd (vis x) r).1 ++ tail) restc = ([x] ++ spd (fitT wd (vis x) r).1 ++ tail, restc) := by
    cases restc with
    | nil => rfl
    | cons t ts =>
      unfold cutLong
      refine if_neg ?_
      rcases c with ⟨_, c⟩ | ⟨_, y, r', c1, c2⟩
      · cases hf : (fitT wd (vis x) r).2 with
        | nil => rw [hf] at c; cases c
        | cons y r' =>
          rw [hf, spd_cons] at c
          simp only [List.cons.injEq] at c
          rw [c.1, v1]; omega
      · simp only [List.cons.injEq] at c2
        have := (h2 y (by rw [c1]; exact List.mem_cons_self)).v5
        rw [c2.1]
        omega
  refine ⟨restc, ?_, c.imp (fun q => q.2) fun q => q.2⟩
  unfold lay1
  rw [hd, hg]
  show (trimB (cutLong wd cur' _ restc).1, (cutLong wd cur' _ restc).2) = _
  rw [hq]
  rcases c with ⟨rfl, _⟩ | ⟨rfl, _⟩
  · rw [List.append_nil]
    show (trimB (x :: spd _), _) = _
    rw [spd_last hx h1]
  · rw [trimB_snoc, blank_sp]; rfl

/-- lines, as a plain walk lays them: what is done, and the line at hand -/
def laidT (w : Int) (fr : List Tk) : List (List Tk) → List Tk → List (List Tk) → List (List Tk)
  | done, cur, [] => done ++ [cur]
  | done, cur, x :: r => if vis cur + 1 + vis x > w then laidT w fr (done ++ [cur]) (fr ++ x) r else laidT w fr done (cur ++ .ch 32 :: x) r
theorem laidT_cons (w : Int) (fr : List Tk) (done : List (List Tk)) (cur x : List Tk) (r : List (List Tk)) : laidT w fr done cur (x :: r) = if vis cur + 1 + vis x > w then laidT w fr (done ++ [cur]) (fr ++ x) r else laidT w fr done (cur ++ .ch 32 :: x) r := rfl
theorem fitT_cons (wd cur : Int) (y : List Tk) (r : List (List Tk)) : fitT wd cur (y :: r) = if cur + 1 + vis y ≤ wd then (y :: (fitT wd (cur + 1 + vis y) r).1, (fitT wd (cur + 1 + vis y) r).2) else ([], y :: r) := rfl
theorem laid_fit (w : Int) (fr : List Tk) (k : Int) : ∀ (r : List (List Tk)) (done : List (List Tk)) (cur : List Tk) (c : Int), c = vis cur - k →
    laidT w fr done cur r = match (fitT (w - k) c r).2 with
      | [] => done ++ [cur ++ (spd (fitT (w - k) c r).1).flatten]
      | y :: r' => laidT w fr (done ++ [cur ++ (spd (fitT (w - k) c r).1).flatten]) (fr ++ y) r'
  | [], done, cur, c, _ => by simp [laidT, fitT, spd]
  | x :: r, done, cur, c, hc => by
    rw [laidT_cons, fitT_cons]
    by_cases h : c + 1 + vis x ≤ w - k
    · rw [if_neg (by omega), if_pos h]
      have := laid_fit w fr k r done (cur ++ .ch 32 :: x) (c + 1 + vis x) (by rw [vis_append, vis_cons_ch]; push_cast; omega)
      rw [this]
      simp only [spd_cons, List.flatten_cons]
      simp
    · rw [if_pos (by omega), if_neg h]
      simp [spd]
theorem wrap_laid {w : Int} {fi fr : List Tk} (h1 : 5 ≤ w - vis fi) (h2 : 5 ≤ w - vis fr) : ∀ (k : Nat) (x : List Tk) (r cs ls : List (List Tk)), WdT x → (∀ y ∈ r, WdT y) → r.length < k → (cs = x :: spd r ∨ (ls ≠ [] ∧ cs = [.ch 32] :: x :: spd r)) →
    wrapF w fi fr k cs ls = some (laidT w fr ls ((if ls = [] then fi else fr) ++ x) r)
  | 0, _, _, _, _, _, _, hk, _ => absurd hk (Nat.not_lt_zero _)
  | k + 1, x, r, cs, ls, hx, h, hk, hc => by
    obtain ⟨c0, cs', e0⟩ : ∃ c0 cs', cs = c0 :: cs' := by rcases hc with rfl | ⟨_, rfl⟩ <;> exact ⟨_, _, rfl⟩
    have ew : wrapF w fi fr (k + 1) cs ls = wrapF w fi fr k (lay1 (w - vis (if ls = [] then fi else fr)) (!ls.isEmpty) cs).2 (if (lay1 (w - vis (if ls = [] then fi else fr)) (!ls.isEmpty) cs).1 = [] then ls else ls ++ [(if ls = [] then fi else fr) ++ (lay1 (w - vis (if ls = [] then fi else fr)) (!ls.isEmpty) cs).1.flatten]) := by
      rw [e0]; rfl
    have hi : 5 ≤ w - vis (if ls = [] then fi else fr) := by split <;> assumption
    generalize (if ls = [] then fi else fr) = ind at *
    have hall := fitT_all (w - vis ind) r (vis x)
    obtain ⟨restc, l1, l2⟩ := lay_words (wd := w - vis ind) (more := !ls.isEmpty) (cs := cs) hx h hi (hc.imp id fun q => ⟨by cases ls with
      | nil => exact absurd rfl q.1
      | cons _ _ => rfl, q.2⟩)
    rw [ew, l1, laid_fit w fr (vis ind) r ls (ind ++ x) (vis x) (by rw [vis_append]; push_cast; omega)]
    simp only [List.flatten_cons, List.append_assoc]
    rw [if_neg (List.cons_ne_nil _ _)]
    cases hf : (fitT (w - vis ind) (vis x) r).2 with
    | nil =>
      have : restc = [] := by
        rcases l2 with q | ⟨y, r', q, _⟩
        · rw [q, hf]; rfl
        · rw [hf] at q; cases q
      subst this
      cases k <;> rfl
    | cons y r' =>
      have hy : WdT y := h y (by rw [← hall, hf]; simp)
      have hr : ∀ z ∈ r', WdT z := fun z hz => h z (by rw [← hall, hf]; simp [hz])
      have hl : r'.length < k := by
        have := congrArg List.length hall
        rw [hf, List.length_append, List.length_cons] at this; omega
      have := wrap_laid h1 h2 k y r' restc (ls ++ [ind ++ (x ++ (spd (fitT (w - vis ind) (vis x) r).1).flatten)]) hy hr hl (by
        rcases l2 with q | ⟨y', r'', q1, q2⟩
        · right; exact ⟨by simp, by rw [q, hf]; rfl⟩
        · rw [hf] at q1; cases q1; exact .inl q2)
      rw [this, if_neg (by simp)]
end Mine
end

section
open PySem PySem.W PySem.Calls PyProof.Rows PySem.Builtin PySem.Builtin.Str
set_option linter.all false
set_option maxRecDepth 100000
namespace Mine
/-! ## law 2, plain: paragraphs, their text and their page -/
/-- a paragraph: raw, inset, rows of words -/
abbrev Prt := Bool × Nat × List (List (List Tk))
def blk (k : Nat) : List Tk := plain (List.replicate k 32)
def rowT (row : List (List Tk)) : List Tk := joinTk 32 row
def prtRows (q : Prt) : List (List Tk) := (if q.1 = true then [[.ch 8]] else []) ++ q.2.2.map rowT
def prtLines (q : Prt) : List (List Tk) := match prtRows q with
  | [] => []
  | l :: r => (blk q.2.1 ++ l) :: r
def prtT (q : Prt) : List Tk := joinTk 10 (prtLines q)
def joinT2 : List (List Tk) → List Tk
  | [] => []
  | [l] => l
  | l :: l2 :: r => l ++ .ch 10 :: .ch 10 :: joinT2 (l2 :: r)
def textT (qs : List Prt) : List Tk := joinT2 (qs.map prtT)
structure PrtOk (q : Prt) : Prop where
  ins : q.2.1 ≤ 2
  ne : q.2.2 ≠ []
  rne : ∀ row ∈ q.2.2, row ≠ []
  wd : ∀ row ∈ q.2.2, ∀ t ∈ row, WdT t
  ln : q.2.2.flatten.length ≤ 8
def laidP (w : Int) (fi fr : List Tk) (ws : List (List Tk)) : List (List Tk) := match ws with
  | [] => [fi]
  | x :: r => laidT w fr [] (fi ++ x) r
def pageLines (w : Int) (fi fr : List Tk) (q : Prt) : List (List Tk) :=
  if q.1 = true then q.2.2.mapIdx fun i row => (if i = 0 then fi else fr) ++ blk q.2.1 ++ rowT row else laidP w (fi ++ blk q.2.1) (fr ++ blk q.2.1) q.2.2.flatten
def pageP (w : Int) (fi fr : List Tk) (q : Prt) : List Tk := joinTk 10 (pageLines w fi fr q)
def parOf (q : Prt) : Par := (q.2.1, q.1, if q.1 = true then joinTk 10 (q.2.2.map rowT) else joinTk 32 (q.2.2.map rowT))

theorem joinT2_flat : ∀ ls : List (List Tk), flatT (joinT2 ls) = joinL [10, 10] (ls.map flatT)
  | [] => rfl
  | [l] => rfl
  | l :: l2 :: r => by
    unfold joinT2
    rw [flatT_append, flatT_cons, flatT_cons, joinT2_flat (l2 :: r)]
    show flatT l ++ ([10] ++ ([10] ++ _)) = flatT l ++ [10, 10] ++ _
    simp
theorem joinTk_cons (x : Nat) (l : List Tk) {r : List (List Tk)} (h : r ≠ []) : joinTk x (l :: r) = l ++ .ch x :: joinTk x r := by
  cases r with
  | nil => exact absurd rfl h
  | cons _ _ => rfl
theorem joinTk_append (x : Nat) : ∀ {a b : List (List Tk)}, a ≠ [] → b ≠ [] → joinTk x (a ++ b) = joinTk x a ++ .ch x :: joinTk x b
  | [], _, h, _ => absurd rfl h
  | [l], b, _, hb => joinTk_cons x l hb
  | l :: l2 :: r, b, _, hb => by
    have := joinTk_append x (a := l2 :: r) (b := b) (by simp) hb
    rw [List.cons_append, joinTk_cons x l (by simp), this, joinTk_cons x l (by simp)]
    simp
theorem joinTk_join (x : Nat) : ∀ (rows : List (List (List Tk))), (∀ r ∈ rows, r ≠ []) → joinTk x (rows.map (joinTk x)) = joinTk x rows.flatten
  | [], _ => rfl
  | [r], _ => by simp [joinTk]
  | r :: r2 :: rs, h => by
    have ih := joinTk_join x (r2 :: rs) fun y hy => h y (List.mem_cons_of_mem _ hy)
    have hn : (r2 :: rs).flatten ≠ [] := by
      intro q
      have := h r2 (by simp)
      rw [List.flatten_cons] at q
      exact this (List.append_eq_nil_iff.mp q).1
    rw [List.map_cons, joinTk_cons x _ (by simp), ih, List.flatten_cons (l := r), joinTk_append x (h r List.mem_cons_self) hn]

/-! ### lines -/
def noBr (l : List Tk) : Prop := ∀ c, Tk.ch c ∈ l → Unicode.isLineBreak c = false
theorem noBr_append {a b : List Tk} (ha : noBr a) (hb : noBr b) : noBr (a ++ b) := fun c hc => (List.mem_append.mp hc).elim (ha c) (hb c)
theorem br10 : Unicode.isLineBreak 10 = true := by decide +kernel
theorem br32 : Unicode.isLineBreak 32 = false := by decide +kernel
theorem br8 : Unicode.isLineBreak 8 = false := by decide +kernel
theorem linesTG_run : ∀ (l r cur : List Tk), noBr l → linesTG (l ++ r) cur = linesTG r (cur ++ l)
  | [], r, cur, _ => by simp
  | .ch x :: l, r, cur, h => by
    rw [List.cons_append]
    conv => lhs; unfold linesTG
    rw [h x List.mem_cons_self, if_neg Bool.false_ne_true, linesTG_run l r _ fun c hc => h c (List.mem_cons_of_mem _ hc)]
    simp
  | .es p :: l, r, cur, h => by
    rw [List.cons_append]
    conv => lhs; unfold linesTG
    rw [linesTG_run l r _ fun c hc => h c (List.mem_cons_of_mem _ hc)]
    simp
theorem linesTG_10 (r cur : List Tk) : linesTG (.ch 10 :: r) cur = cur :: linesTG r [] := by
  conv => lhs; unfold linesTG
  rw [br10, if_pos rfl]
theorem lines_more : ∀ (ls : List (List Tk)) (R : List Tk), ls ≠ [] → (∀ l ∈ ls, noBr l) → linesTG (joinTk 10 ls ++ .ch 10 :: R) [] = ls ++ linesTG R []
  | [], _, h, _ => absurd rfl h
  | [l], R, _, h => by
    show linesTG (l ++ .ch 10 :: R) [] = _
    rw [linesTG_run l _ _ (h l (by simp)), linesTG_10]; rfl
  | l :: l2 :: r, R, _, h => by
    rw [joinTk_cons 10 l (by simp), List.append_assoc, linesTG_run l _ _ (h l (by simp)), List.cons_append, linesTG_10, lines_more (l2 :: r) R (by simp) fun y hy => h y (List.mem_cons_of_mem _ hy)]
    rfl
theorem lines_all : ∀ (ls : List (List Tk)), ls ≠ [] → (∀ l ∈ ls, noBr l ∧ l ≠ []) → linesTG (joinTk 10 ls) [] = ls
  | [], h, _ => absurd rfl h
  | [l], _, h => by
    show linesTG l [] = _
    have := linesTG_run l [] [] (h l (by simp)).1
    rw [List.append_nil, List.nil_append] at this
    rw [this]
    unfold linesTG
    rw [if_neg (h l (by simp)).2]
  | l :: l2 :: r, _, h => by
    rw [joinTk_cons 10 l (by simp), linesTG_run l _ _ (h l (by simp)).1, linesTG_10, lines_all (l2 :: r) (by simp) fun y hy => h y (List.mem_cons_of_mem _ hy)]
    rfl
theorem noBr_joinTk : ∀ (ls : List (List Tk)), (∀ l ∈ ls, noBr l) → noBr (joinTk 32 ls)
  | [], _ => fun _ h => by cases h
  | [l], h => h l (by simp)
  | l :: l2 :: r, h => by
    rw [joinTk_cons 32 l (by simp)]
    refine noBr_append (h l (by simp)) fun c hc => ?_
    rcases List.mem_cons.mp hc with q | q
    · cases q; exact br32
    · exact noBr_joinTk (l2 :: r) (fun y hy => h y (List.mem_cons_of_mem _ hy)) c q
theorem WdT.noBr {t : List Tk} (h : WdT t) : Mine.noBr t := fun c hc => by
  have := h.tk _ hc
  exact (let_facts this.1 this.2).1
theorem blk_noBr (k : Nat) : noBr (blk k) := fun c hc => by
  obtain ⟨x, hx, e⟩ := List.mem_map.mp hc
  have := (List.mem_replicate.mp hx).2
  cases e; rw [this]; exact br32
theorem rowT_ne {row : List (List Tk)} (h : row ≠ []) (hw : ∀ t ∈ row, WdT t) : ∃ t r, rowT row = t :: r ∧ t.wd := by
  obtain ⟨x, r, rfl⟩ := List.exists_cons_of_ne_nil h
  have hx := hw x List.mem_cons_self
  obtain ⟨y, ys, rfl⟩ := List.exists_cons_of_ne_nil hx.ne
  unfold rowT
  rw [joinTk_spd]
  exact ⟨y, _, rfl, hx.tk y List.mem_cons_self⟩
theorem rowT_noBr {row : List (List Tk)} (hw : ∀ t ∈ row, WdT t) : noBr (rowT row) := noBr_joinTk row fun t ht => (hw t ht).noBr
theorem rowT_ok {row : List (List Tk)} (hw : ∀ t ∈ row, WdT t) : okT (rowT row) := joinTk_ok ok32 fun t ht => (hw t ht).ok
theorem ok8 : (Tk.ch 8).ok := ⟨by decide, by decide, by decide, by decide⟩
theorem blk_ok (k : Nat) : okT (blk k) := plain_ok fun x hx => by rw [(List.mem_replicate.mp hx).2]; exact ok32

theorem prtRows_cons {q : Prt} (h : PrtOk q) : ∃ l r, prtRows q = l :: r ∧ noBr l ∧ okT l ∧ (∃ t z, l = t :: z ∧ (t.wd ∨ t = .ch 8)) ∧ (∀ x ∈ r, noBr x ∧ x ≠ [] ∧ okT x) ∧ (q.1 = true → l = [.ch 8] ∧ r = q.2.2.map rowT) ∧ (q.1 = false → prtRows q = q.2.2.map rowT ∧ 8 ∉ flatT l) := by
  obtain ⟨raw, ins, rows⟩ := q
  have hrow : ∀ row ∈ rows, noBr (rowT row) ∧ rowT row ≠ [] ∧ okT (rowT row) := fun row hr => by
    obtain ⟨t, z, e, _⟩ := rowT_ne (h.rne row hr) (h.wd row hr)
    exact ⟨rowT_noBr (h.wd row hr), by rw [e]; simp, rowT_ok (h.wd row hr)⟩
  cases raw with
  | true =>
    refine ⟨[.ch 8], rows.map rowT, rfl, fun c hc => ?_, fun t ht => ?_, ⟨_, _, rfl, .inr rfl⟩, fun x hx => ?_, fun _ => ⟨rfl, rfl⟩, fun q => by cases q⟩
    · cases List.mem_singleton.mp hc; exact br8
    · rw [List.mem_singleton.mp ht]; exact ok8
    · obtain ⟨row, hr, rfl⟩ := List.mem_map.mp hx
      exact hrow row hr
  | false =>
    obtain ⟨r0, rs, e⟩ := List.exists_cons_of_ne_nil h.ne
    have e : rows = r0 :: rs := e
    subst e
    obtain ⟨t, z, e2, e3⟩ := rowT_ne (h.rne r0 (by simp)) (h.wd r0 (by simp))
    have h0 := hrow r0 (by simp)
    refine ⟨rowT r0, rs.map rowT, rfl, h0.1, h0.2.2, ⟨t, z, e2, .inl e3⟩, fun x hx => ?_, (fun q => by cases q), fun _ => ⟨rfl, ?_⟩⟩
    · obtain ⟨row, hr, rfl⟩ := List.mem_map.mp hx
      exact hrow row (List.mem_cons_of_mem _ hr)
    · intro h8
      unfold rowT at h8
      obtain ⟨x, r, e4⟩ := List.exists_cons_of_ne_nil (h.rne r0 (by simp))
      have hw := h.wd r0 (by simp)
      rw [e4] at h8 hw
      rw [joinTk_spd, flatT_append] at h8
      rcases List.mem_append.mp h8 with q | q
      · exact ((hw x (by simp)).fs 8 q).2 rfl
      · obtain ⟨y, hy, q⟩ := List.mem_flatMap.mp q
        obtain ⟨l, hl, hy⟩ := List.mem_flatten.mp hy
        obtain ⟨v, hv, hl⟩ := List.mem_flatMap.mp hl
        rcases List.mem_cons.mp hl with rfl | hl
        · rw [List.mem_singleton.mp hy] at q
          exact absurd (List.mem_singleton.mp q) (by decide)
        · rw [List.mem_singleton.mp hl] at hy
          exact ((hw v (List.mem_cons_of_mem _ hv)).fs 8 (List.mem_flatMap.mpr ⟨y, hy, q⟩)).2 rfl
theorem prtLines_ok {q : Prt} (h : PrtOk q) : prtLines q ≠ [] ∧ ∀ x ∈ prtLines q, noBr x ∧ x ≠ [] ∧ okT x := by
  obtain ⟨l, r, e, h1, h2, ⟨t, z, h3, _⟩, h4, _, _⟩ := prtRows_cons h
  have e2 : prtLines q = (blk q.2.1 ++ l) :: r := by unfold prtLines; rw [e]
  rw [e2]
  refine ⟨by simp, fun x hx => ?_⟩
  rcases List.mem_cons.mp hx with rfl | hx
  · exact ⟨noBr_append (blk_noBr _) h1, by rw [h3]; simp, okT_append.mpr ⟨blk_ok _, h2⟩⟩
  · exact h4 x hx
theorem textT_cons (q : Prt) {qs : List Prt} (h : qs ≠ []) : textT (q :: qs) = prtT q ++ .ch 10 :: .ch 10 :: textT qs := by
  cases qs with
  | nil => exact absurd rfl h
  | cons _ _ => rfl
theorem textT_lines : ∀ (qs : List Prt), (∀ q ∈ qs, PrtOk q) → ∀ q, PrtOk q → linesT (textT (q :: qs)) = prtLines q ++ (qs.flatMap fun q => [] :: prtLines q)
  | [], _, q, h => by
    obtain ⟨h1, h2⟩ := prtLines_ok h
    show linesTG (prtT q) [] = _
    unfold prtT
    rw [lines_all _ h1 fun l hl => ⟨(h2 l hl).1, (h2 l hl).2.1⟩]
    simp
  | q2 :: qs, hs, q, h => by
    obtain ⟨h1, h2⟩ := prtLines_ok h
    rw [textT_cons q (by simp)]
    unfold linesT prtT
    rw [lines_more _ _ h1 fun l hl => (h2 l hl).1, linesTG_10]
    have := textT_lines qs (fun y hy => hs y (List.mem_cons_of_mem _ hy)) q2 (hs q2 (by simp))
    unfold linesT at this
    rw [this]; simp
theorem textT_ok : ∀ (qs : List Prt), (∀ q ∈ qs, PrtOk q) → okT (textT qs)
  | [], _ => fun _ h => by cases h
  | [q], h => joinTk_ok ok10 fun l hl => ((prtLines_ok (h q (by simp))).2 l hl).2.2
  | q :: q2 :: r, h => by
    rw [textT_cons q (by simp)]
    exact okT_append.mpr ⟨joinTk_ok ok10 fun l hl => ((prtLines_ok (h q (by simp))).2 l hl).2.2, okT_cons.mpr ⟨ok10, okT_cons.mpr ⟨ok10, textT_ok (q2 :: r) fun y hy => h y (List.mem_cons_of_mem _ hy)⟩⟩⟩

/-! ### paragraphs -/
theorem parsGo_buf : ∀ (ls R : List (List Tk)) (ind : Nat) (buf : List (List Tk)), buf ≠ [] → (∀ l ∈ ls, l ≠ []) → parsGo (ls ++ R) ind buf = parsGo R ind (buf ++ ls)
  | [], R, ind, buf, _, _ => by simp
  | l :: ls, R, ind, buf, hb, h => by
    rw [List.cons_append]
    conv => lhs; unfold parsGo
    rw [if_neg (h l List.mem_cons_self), if_neg hb, parsGo_buf ls R ind _ (by simp) fun x hx => h x (List.mem_cons_of_mem _ hx)]
    simp
theorem lstripT_blk : ∀ (k : Nat) (b : List Tk), lstripT (blk k ++ b) = lstripT b
  | 0, b => rfl
  | k + 1, b => by
    have e : blk (k + 1) ++ b = .ch 32 :: (blk k ++ b) := rfl
    rw [e]
    conv => lhs; unfold lstripT
    rw [if_pos (by decide +kernel), lstripT_blk k b]
theorem sp8 : Unicode.isSpace 8 = false := by decide +kernel
theorem lstripT_id {t : Tk} {z : List Tk} (h : t.wd ∨ t = .ch 8) : lstripT (t :: z) = t :: z := by
  cases t with
  | es p => rfl
  | ch c =>
    have : Unicode.isSpace c = false := by
      rcases h with h | h
      · exact (let_facts h.1 h.2).2
      · cases h; exact sp8
    unfold lstripT
    rw [this]; rfl
theorem vis_plain (l : List Nat) : vis (plain l) = l.length := by unfold vis; rw [signs_plain]
theorem vis_blk (k : Nat) : vis (blk k) = k := by unfold blk; rw [vis_plain]; simp
theorem parsGo_prt {q : Prt} (h : PrtOk q) (R : List (List Tk)) : ∃ ind buf, parsGo (prtLines q ++ R) 0 [] = parsGo R ind buf ∧ flushP ind buf = [parOf q] := by
  obtain ⟨l, r, e, h1, h2, ⟨t, z, h3, h3'⟩, h4, h5, h6⟩ := prtRows_cons h
  have e2 : prtLines q = (blk q.2.1 ++ l) :: r := by unfold prtLines; rw [e]
  have hs : lstripT (blk q.2.1 ++ l) = l := by rw [lstripT_blk, h3, lstripT_id h3']
  refine ⟨q.2.1, l :: r, ?_, ?_⟩
  · rw [e2, List.cons_append]
    conv => lhs; unfold parsGo
    rw [if_neg (by rw [h3]; simp), if_pos rfl, hs, parsGo_buf r R _ _ (by simp) fun x hx => (h4 x hx).2.1]
    rw [vis_append, vis_blk, Nat.add_sub_cancel]; rfl
  · show [(q.2.1, stripL Unicode.isSpace (flatT l) == [8], if stripL Unicode.isSpace (flatT l) = [8] then joinTk 10 r else joinTk 32 (l :: r))] = _
    unfold parOf
    by_cases hr : q.1 = true
    · obtain ⟨e3, e4⟩ := h5 hr
      have e5 : stripL Unicode.isSpace (flatT l) = [8] := by
        rw [e3]
        exact stripL_id (l := [8]) fun x hx => by rw [List.mem_singleton.mp hx]; exact sp8
      rw [e5, hr, e4]; rfl
    · have hr : q.1 = false := by simpa using hr
      obtain ⟨e3, e4⟩ := h6 hr
      have e5 : stripL Unicode.isSpace (flatT l) ≠ [8] := fun q => e4 (stripL_mem (by rw [q]; simp))
      rw [hr, if_neg e5, if_neg Bool.false_ne_true, ← e3, e]
      simp [e5]
theorem pars_more : ∀ (qs : List Prt), (∀ q ∈ qs, PrtOk q) → ∀ ind buf, parsGo (qs.flatMap fun q => [] :: prtLines q) ind buf = flushP ind buf ++ qs.map parOf
  | [], _, ind, buf => by simp [parsGo]
  | q :: qs, h, ind, buf => by
    rw [List.flatMap_cons, List.cons_append]
    conv => lhs; unfold parsGo
    rw [if_pos rfl]
    obtain ⟨ind', buf', e1, e2⟩ := parsGo_prt (h q (by simp)) (qs.flatMap fun q => [] :: prtLines q)
    rw [e1, pars_more qs (fun y hy => h y (List.mem_cons_of_mem _ hy)) ind' buf', e2]; rfl
theorem textT_pars {q : Prt} {qs : List Prt} (h : ∀ y ∈ q :: qs, PrtOk y) : parsT (textT (q :: qs)) = (q :: qs).map parOf := by
  unfold parsT
  rw [textT_lines qs (fun y hy => h y (List.mem_cons_of_mem _ hy)) q (h q (by simp))]
  obtain ⟨ind', buf', e1, e2⟩ := parsGo_prt (h q (by simp)) (qs.flatMap fun q => [] :: prtLines q)
  rw [e1, pars_more qs (fun y hy => h y (List.mem_cons_of_mem _ hy)) ind' buf', e2]; rfl

/-! ### sizes -/
theorem joinTk_len (x : Nat) (ls : List (List Tk)) : (flatT (joinTk x ls)).length ≤ szL ls := by
  rw [joinTk_flat, ← szL_join x]; exact joinL_length _ _
theorem szL_words {row : List (List Tk)} (h : ∀ t ∈ row, WdT t) : szL row ≤ 31 * row.length := by
  induction row with
  | nil => simp [szL]
  | cons t r ih =>
    rw [szL_cons, List.length_cons]
    have h1 := (h t (by simp)).fl
    have h2 := ih fun y hy => h y (List.mem_cons_of_mem _ hy)
    omega
theorem szL_rows {rows : List (List (List Tk))} (h : ∀ row ∈ rows, ∀ t ∈ row, WdT t) (h2 : ∀ row ∈ rows, row ≠ []) : szL (rows.map rowT) ≤ 32 * rows.flatten.length ∧ rows.length ≤ rows.flatten.length := by
  induction rows with
  | nil => simp [szL]
  | cons row r ih =>
    obtain ⟨i1, i2⟩ := ih (fun y hy => h y (List.mem_cons_of_mem _ hy)) fun y hy => h2 y (List.mem_cons_of_mem _ hy)
    rw [List.map_cons, szL_cons, List.flatten_cons, List.length_append, List.length_cons]
    have l1 : (flatT (rowT row)).length ≤ szL row := joinTk_len 32 row
    have l2 := szL_words (h row (by simp))
    have l3 : 0 < row.length := List.length_pos_iff.mpr (h2 row (by simp))
    omega
theorem blk_len (k : Nat) : (flatT (blk k)).length = k := by unfold blk; rw [flatT_plain]; simp
theorem prtT_len {q : Prt} (h : PrtOk q) : (flatT (prtT q)).length ≤ 300 := by
  obtain ⟨i1, i2⟩ := szL_rows h.wd h.rne
  have h8 := h.ln
  have hi := h.ins
  refine Nat.le_trans (joinTk_len 10 _) ?_
  have e : szL (prtLines q) ≤ q.2.1 + szL (prtRows q) := by
    unfold prtLines
    cases prtRows q with
    | nil => simp [szL]
    | cons l r => simp only [szL_cons, flatT_append, List.length_append, blk_len]; omega
  have e2 : szL (prtRows q) ≤ 2 + szL (q.2.2.map rowT) := by
    unfold prtRows
    rw [szL_append]
    split
    · have : szL [[Tk.ch 8]] = 2 := rfl
      omega
    · simp [szL]
  omega
theorem textT_len : ∀ (qs : List Prt), (∀ q ∈ qs, PrtOk q) → (flatT (textT qs)).length ≤ 302 * qs.length
  | [], _ => by simp [textT, joinT2, flatT]
  | [q], h => by have := prtT_len (h q (by simp)); show (flatT (prtT q)).length ≤ _; simp; omega
  | q :: q2 :: r, h => by
    rw [textT_cons q (by simp), flatT_append, flatT_cons, flatT_cons]
    have h1 := prtT_len (h q (by simp))
    have h2 := textT_len (q2 :: r) fun y hy => h y (List.mem_cons_of_mem _ hy)
    have e : (Tk.ch 10).flat.length = 1 := rfl
    rw [List.length_append, List.length_append, List.length_append, e, List.length_cons]; omega
theorem laid_sz (w : Int) (fr : List Tk) : ∀ (r done : List (List Tk)) (cur : List Tk), szL (laidT w fr done cur r) ≤ szL done + (flatT cur).length + 1 + szL r + r.length * ((flatT fr).length + 1)
  | [], done, cur => by
    show szL (done ++ [cur]) ≤ _
    rw [szL_append, szL_cons]; simp [szL]; omega
  | x :: r, done, cur => by
    rw [laidT_cons]
    have e1 : (r.length + 1) * ((flatT fr).length + 1) = r.length * ((flatT fr).length + 1) + ((flatT fr).length + 1) := Nat.succ_mul _ _
    split
    · have := laid_sz w fr r (done ++ [cur]) (fr ++ x)
      rw [szL_append, szL_cons, flatT_append, List.length_append] at this
      have e0 : szL [] = 0 := rfl
      rw [szL_cons, List.length_cons]; omega
    · have := laid_sz w fr r done (cur ++ .ch 32 :: x)
      rw [flatT_append, flatT_cons, List.length_append, List.length_append] at this
      have e : (Tk.ch 32).flat.length = 1 := rfl
      rw [szL_cons, List.length_cons]; omega
theorem laidP_sz {w : Int} {fi fr : List Tk} {ws : List (List Tk)} (h : ∀ t ∈ ws, WdT t) (hl : ws.length ≤ 8) (h1 : (flatT fi).length ≤ 12) (h2 : (flatT fr).length ≤ 12) : szL (laidP w fi fr ws) ≤ 500 := by
  cases ws with
  | nil => show szL [fi] ≤ _; rw [szL_cons]; simp [szL]; omega
  | cons x r =>
    have := laid_sz w fr r [] (fi ++ x)
    show szL (laidT w fr [] (fi ++ x) r) ≤ _
    have h3 := szL_words h
    rw [szL_cons] at h3
    rw [flatT_append, List.length_append] at this
    rw [List.length_cons] at hl h3
    have h4 : r.length * ((flatT fr).length + 1) ≤ 7 * 13 := Nat.mul_le_mul (by omega) (by omega)
    have e0 : szL [] = 0 := rfl
    omega
end Mine
end

section
open PySem PySem.W PySem.Calls PyProof.Rows PySem.Builtin PySem.Builtin.Str
set_option linter.all false
set_option maxRecDepth 100000
namespace Mine
/-! ## law 2, plain: what a paragraph is laid as -/
theorem PrtOk.words {q : Prt} (h : PrtOk q) : (∀ t ∈ q.2.2.flatten, WdT t) ∧ q.2.2.flatten ≠ [] := by
  refine ⟨fun t ht => ?_, ?_⟩
  · obtain ⟨row, hr, ht⟩ := List.mem_flatten.mp ht
    exact h.wd row hr t ht
  · obtain ⟨r0, rs, e⟩ := List.exists_cons_of_ne_nil h.ne
    rw [e]
    intro q2
    rw [List.flatten_cons] at q2
    exact h.rne r0 (by rw [e]; simp) (List.append_eq_nil_iff.mp q2).1
theorem szL_mapIdx {K : Nat} : ∀ (rows : List (List (List Tk))) (f : Nat → List (List Tk) → List Tk), (∀ i, ∀ row ∈ rows, (flatT (f i row)).length ≤ K + (flatT (rowT row)).length) → szL (rows.mapIdx f) ≤ rows.length * K + szL (rows.map rowT)
  | [], f, _ => by simp [szL]
  | r :: rs, f, h => by
    rw [List.mapIdx_cons, List.map_cons, szL_cons, szL_cons, List.length_cons, Nat.succ_mul]
    have h1 := h 0 r (by simp)
    have h2 := szL_mapIdx rs (fun i => f (i + 1)) fun i row hr => h (i + 1) row (List.mem_cons_of_mem _ hr)
    omega
theorem pageLines_sz {w : Int} {fi fr : List Tk} {q : Prt} (h : PrtOk q) (li : (flatT fi).length ≤ 10) (lr : (flatT fr).length ≤ 10) : szL (pageLines w fi fr q) ≤ 600 := by
  have hi := h.ins
  have hl := h.ln
  unfold pageLines
  split
  · obtain ⟨i1, i2⟩ := szL_rows h.wd h.rne
    have := szL_mapIdx (K := 12) q.2.2 (fun i row => (if i = 0 then fi else fr) ++ blk q.2.1 ++ rowT row) fun i row hr => by
      rw [flatT_append, flatT_append, List.length_append, List.length_append, blk_len]
      split <;> omega
    omega
  · have := laidP_sz (w := w) (fi := fi ++ blk q.2.1) (fr := fr ++ blk q.2.1) h.words.1 hl (by rw [flatT_append, List.length_append, blk_len]; omega) (by rw [flatT_append, List.length_append, blk_len]; omega)
    omega
theorem wrap_words {w : Int} {fi fr : List Tk} {ws : List (List Tk)} (hws : ∀ t ∈ ws, WdT t) (hne : ws ≠ []) (hl : ws.length ≤ 8) (h1 : 5 ≤ w - vis fi) (h2 : 5 ≤ w - vis fr) : wrapF w fi fr 100000 (chunkT (joinTk 32 ws)) [] = some (laidP w fi fr ws) := by
  obtain ⟨x, r, rfl⟩ := List.exists_cons_of_ne_nil hne
  have hx := hws x (by simp)
  have hr : ∀ y ∈ r, WdT y := fun y hy => hws y (List.mem_cons_of_mem _ hy)
  rw [chunk_words hx hr, wrap_laid h1 h2 100000 x r _ [] hx hr (by rw [List.length_cons] at hl; omega) (.inl rfl)]
  rfl
theorem par_res {w : Int} {fi fr : List Tk} {q : Prt} (h : PrtOk q) (hi : vis fi ≤ 3) (hr : vis fr ≤ 3) (li : (flatT fi).length ≤ 10) (lr : (flatT fr).length ≤ 10) (hw : 10 ≤ w) : ParRes w fi fr (parOf q) (flatT (pageP w fi fr q)) := by
  have hsz := pageLines_sz (w := w) h li lr
  have hin := h.ins
  obtain ⟨raw, ins, rows⟩ := q
  have hin : ins ≤ 2 := hin
  have hpg : flatT (pageP w fi fr (raw, ins, rows)) = joinL [10] ((pageLines w fi fr (raw, ins, rows)).map flatT) := joinTk_flat _ _
  cases raw with
  | true =>
    have ef : linesL (flatT (joinTk 10 (rows.map rowT))) = rows.map fun row => flatT (rowT row) := by
      have hok : ∀ l ∈ rows.map rowT, noBr l ∧ l ≠ [] ∧ okT l := fun l hl => by
        obtain ⟨row, hr, rfl⟩ := List.mem_map.mp hl
        obtain ⟨t, z, e, _⟩ := rowT_ne (h.rne row hr) (h.wd row hr)
        exact ⟨rowT_noBr (h.wd row hr), by rw [e]; simp, rowT_ok (h.wd row hr)⟩
      rw [← linesT_flat (joinTk_ok ok10 fun l hl => (hok l hl).2.2)]
      unfold linesT
      have hn : rows.map rowT ≠ [] := by
        intro q; exact h.ne (List.map_eq_nil_iff.mp q)
      rw [lines_all _ hn fun l hl => ⟨(hok l hl).1, (hok l hl).2.1⟩, List.map_map]; rfl
    have e2 : ((rows.map fun row => flatT (rowT row)).mapIdx fun i y => (if i = 0 then flatT fi ++ List.replicate ins 32 else flatT fr ++ List.replicate ins 32) ++ y) = (pageLines w fi fr (true, ins, rows)).map flatT := by
      show _ = (rows.mapIdx fun i row => (if i = 0 then fi else fr) ++ blk ins ++ rowT row).map flatT
      refine List.ext_getElem? fun i => ?_
      rw [List.getElem?_mapIdx, List.getElem?_map, List.getElem?_map, List.getElem?_mapIdx]
      cases rows[i]? with
      | none => rfl
      | some row =>
        show some _ = some (flatT _)
        rw [flatT_append, flatT_append]
        unfold blk
        rw [flatT_plain]
        split <;> rfl
    unfold ParRes
    have e3 : (parOf (true, ins, rows)).2.1 = true := rfl
    rw [if_pos e3]
    show joinSize [10] ((linesL (flatT (joinTk 10 (rows.map rowT)))).mapIdx fun i y => (if i = 0 then flatT fi ++ List.replicate ins 32 else flatT fr ++ List.replicate ins 32) ++ y) ≤ 16000000 ∧ _ = joinL [10] ((linesL (flatT (joinTk 10 (rows.map rowT)))).mapIdx fun i y => (if i = 0 then flatT fi ++ List.replicate ins 32 else flatT fr ++ List.replicate ins 32) ++ y)
    rw [ef, e2, hpg, szL_join]
    exact ⟨by omega, rfl⟩
  | false =>
    unfold ParRes
    have e3 : ¬ (parOf (false, ins, rows)).2.1 = true := fun q => by cases q
    rw [if_neg e3]
    refine ⟨100000, pageLines w fi fr (false, ins, rows), Nat.le_refl _, ?_, by rw [szL_join]; omega, hpg⟩
    show wrapF w (fi ++ blk ins) (fr ++ blk ins) 100000 (chunkT (joinTk 32 (rows.map (joinTk 32)))) [] = _
    rw [joinTk_join 32 rows h.rne]
    exact wrap_words h.words.1 h.words.2 h.ln (by rw [vis_append, vis_blk]; push_cast; omega) (by rw [vis_append, vis_blk]; push_cast; omega)
theorem pars_res {w : Int} {fi fr : List Tk} (hi : vis fi ≤ 3) (hr : vis fr ≤ 3) (li : (flatT fi).length ≤ 10) (lr : (flatT fr).length ≤ 10) (hw : 10 ≤ w) : ∀ {qs : List Prt}, (∀ q ∈ qs, PrtOk q) → F2 (ParRes w fi fr) (qs.map parOf) (qs.map fun q => flatT (pageP w fi fr q))
  | [], _ => .nil
  | q :: qs, h => .cons (par_res (h q (by simp)) hi hr li lr hw) (pars_res hi hr li lr hw fun y hy => h y (List.mem_cons_of_mem _ hy))
def pageT (w : Int) (fi fr : List Tk) (qs : List Prt) : List Tk := joinT2 (qs.map (pageP w fi fr))
theorem pageT_flat (w : Int) (fi fr : List Tk) (qs : List Prt) : flatT (pageT w fi fr qs) = joinL [10, 10] (qs.map fun q => flatT (pageP w fi fr q)) := by
  unfold pageT; rw [joinT2_flat, List.map_map]; rfl
theorem page_sz {w : Int} {fi fr : List Tk} (li : (flatT fi).length ≤ 10) (lr : (flatT fr).length ≤ 10) : ∀ {qs : List Prt}, (∀ q ∈ qs, PrtOk q) → joinSize [10, 10] (qs.map fun q => flatT (pageP w fi fr q)) ≤ 602 * qs.length
  | [], _ => by simp [joinSize]
  | q :: qs, h => by
    have h1 := page_sz (w := w) li lr fun y hy => h y (List.mem_cons_of_mem _ hy)
    have h2 := pageLines_sz (w := w) (h q (by simp)) li lr
    have h3 : (flatT (pageP w fi fr q)).length ≤ szL (pageLines w fi fr q) := joinTk_len 10 _
    simp only [joinSize, List.map_cons, List.sum_cons, List.length_cons, List.length_nil] at h1 ⊢
    omega

/-! ### without colours -/
def bare (t : List Tk) : List Tk := plain (signs t)
theorem bare_append (a b : List Tk) : bare (a ++ b) = bare a ++ bare b := by unfold bare; rw [signs_append, plain_append]
theorem bare_ch (c : Nat) (t : List Tk) : bare (.ch c :: t) = .ch c :: bare t := rfl
theorem bare_plain (l : List Nat) : bare (plain l) = plain l := by unfold bare; rw [signs_plain]
theorem vis_bare (t : List Tk) : vis (bare t) = vis t := by unfold bare; rw [vis_plain]; rfl
theorem flat_bare (t : List Tk) : flatT (bare t) = signs t := flatT_plain _
def bareP (q : Prt) : Prt := (q.1, q.2.1, q.2.2.map fun row => row.map bare)
theorem bare_joinTk (x : Nat) : ∀ ls : List (List Tk), bare (joinTk x ls) = joinTk x (ls.map bare)
  | [] => rfl
  | [l] => rfl
  | l :: l2 :: r => by
    rw [joinTk_cons x l (by simp), bare_append, bare_ch, bare_joinTk x (l2 :: r)]
    exact (joinTk_cons x (bare l) (r := (l2 :: r).map bare) (by simp)).symm
theorem bare_joinT2 : ∀ ls : List (List Tk), bare (joinT2 ls) = joinT2 (ls.map bare)
  | [] => rfl
  | [l] => rfl
  | l :: l2 :: r => by
    have e : joinT2 (l :: l2 :: r) = l ++ .ch 10 :: .ch 10 :: joinT2 (l2 :: r) := rfl
    rw [e, bare_append, bare_ch, bare_ch, bare_joinT2 (l2 :: r)]
    rfl
theorem bare_blk (k : Nat) : bare (blk k) = blk k := bare_plain _
theorem bare_laid (w : Int) (fr : List Tk) : ∀ (r done : List (List Tk)) (cur : List Tk), (laidT w fr done cur r).map bare = laidT w (bare fr) (done.map bare) (bare cur) (r.map bare)
  | [], done, cur => by
    show (done ++ [cur]).map bare = _
    rw [List.map_append]; rfl
  | x :: r, done, cur => by
    rw [List.map_cons, laidT_cons, laidT_cons, vis_bare, vis_bare]
    split
    · rw [bare_laid w fr r, List.map_append, bare_append]; rfl
    · rw [bare_laid w fr r, bare_append, bare_ch]
theorem bare_laidP (w : Int) (fi fr : List Tk) (ws : List (List Tk)) : (laidP w fi fr ws).map bare = laidP w (bare fi) (bare fr) (ws.map bare) := by
  cases ws with
  | nil => rfl
  | cons x r =>
    show (laidT w fr [] (fi ++ x) r).map bare = _
    rw [bare_laid, bare_append]; rfl
theorem bare_rowT (row : List (List Tk)) : bare (rowT row) = rowT (row.map bare) := bare_joinTk _ _
theorem bare_pageLines (w : Int) (fi fr : List Tk) (q : Prt) : (pageLines w fi fr q).map bare = pageLines w (bare fi) (bare fr) (bareP q) := by
  obtain ⟨raw, ins, rows⟩ := q
  cases raw with
  | true =>
    show (rows.mapIdx fun i row => (if i = 0 then fi else fr) ++ blk ins ++ rowT row).map bare = (rows.map fun row => row.map bare).mapIdx fun i row => (if i = 0 then bare fi else bare fr) ++ blk ins ++ rowT row
    refine List.ext_getElem? fun i => ?_
    rw [List.getElem?_map, List.getElem?_mapIdx, List.getElem?_mapIdx, List.getElem?_map]
    cases rows[i]? with
    | none => rfl
    | some row =>
      show some (bare _) = some _
      rw [bare_append, bare_append, bare_blk, bare_rowT]
      split <;> rfl
  | false =>
    show (laidP w (fi ++ blk ins) (fr ++ blk ins) rows.flatten).map bare = laidP w (bare fi ++ blk ins) (bare fr ++ blk ins) (rows.map fun row => row.map bare).flatten
    rw [bare_laidP, bare_append, bare_append, bare_blk, List.map_flatten]
theorem bare_pageP (w : Int) (fi fr : List Tk) (q : Prt) : bare (pageP w fi fr q) = pageP w (bare fi) (bare fr) (bareP q) := by
  unfold pageP; rw [bare_joinTk, bare_pageLines]
theorem bare_prtT (q : Prt) : bare (prtT q) = prtT (bareP q) := by
  unfold prtT
  rw [bare_joinTk]
  congr 1
  have e : (prtRows q).map bare = prtRows (bareP q) := by
    unfold prtRows bareP
    rw [List.map_append, List.map_map, List.map_map]
    congr 1
    · show _ = if q.1 = true then _ else _
      split <;> rfl
    · exact List.map_congr_left fun row _ => bare_rowT row
  unfold prtLines
  rw [← e]
  cases prtRows q with
  | nil => rfl
  | cons l r =>
    show bare (blk q.2.1 ++ l) :: _ = (blk q.2.1 ++ bare l) :: _
    rw [bare_append, bare_blk]
theorem bare_textT (qs : List Prt) : bare (textT qs) = textT (qs.map bareP) := by
  unfold textT
  rw [bare_joinT2, List.map_map, List.map_map]
  congr 1
  exact List.map_congr_left fun q _ => bare_prtT q
theorem bare_pageT (w : Int) (fi fr : List Tk) (qs : List Prt) : bare (pageT w fi fr qs) = pageT w (bare fi) (bare fr) (qs.map bareP) := by
  unfold pageT
  rw [bare_joinT2, List.map_map, List.map_map]
  congr 1
  exact List.map_congr_left fun q _ => bare_pageP w fi fr q

/-! ### the colours alone -/
def Tk.isE : Tk → Bool
  | .ch _ => false
  | .es _ => true
def escs (t : List Tk) : List Tk := t.filter Tk.isE
theorem escs_append (a b : List Tk) : escs (a ++ b) = escs a ++ escs b := List.filter_append ..
theorem escs_ch (c : Nat) (t : List Tk) : escs (.ch c :: t) = escs t := rfl
theorem escs_plain (l : List Nat) : escs (plain l) = [] := by
  induction l with
  | nil => rfl
  | cons x r ih => exact ih
theorem escs_joinTk (x : Nat) : ∀ ls : List (List Tk), escs (joinTk x ls) = ls.flatMap escs
  | [] => rfl
  | [l] => by simp [joinTk]
  | l :: l2 :: r => by
    rw [joinTk_cons x l (by simp), escs_append, escs_ch, escs_joinTk x (l2 :: r), List.flatMap_cons (x := l)]
theorem escs_joinT2 : ∀ ls : List (List Tk), escs (joinT2 ls) = ls.flatMap escs
  | [] => rfl
  | [l] => by simp [joinT2]
  | l :: l2 :: r => by
    have e : joinT2 (l :: l2 :: r) = l ++ .ch 10 :: .ch 10 :: joinT2 (l2 :: r) := rfl
    rw [e, escs_append, escs_ch, escs_ch, escs_joinT2 (l2 :: r), List.flatMap_cons (x := l)]
theorem escs_laid (w : Int) (fr : List Tk) (hf : escs fr = []) : ∀ (r done : List (List Tk)) (cur : List Tk), (laidT w fr done cur r).flatMap escs = done.flatMap escs ++ escs cur ++ r.flatMap escs
  | [], done, cur => by
    show (done ++ [cur]).flatMap escs = _
    simp
  | x :: r, done, cur => by
    rw [laidT_cons]
    split
    · rw [escs_laid w fr hf r, escs_append, hf]; simp
    · rw [escs_laid w fr hf r, escs_append, escs_ch]; simp
theorem escs_rows (rows : List (List (List Tk))) : (rows.map rowT).flatMap escs = rows.flatten.flatMap escs := by
  induction rows with
  | nil => rfl
  | cons row r ih =>
    rw [List.map_cons, List.flatMap_cons, ih, List.flatten_cons, List.flatMap_append]
    congr 1
    exact escs_joinTk 32 row
theorem escs_mapIdx : ∀ (rows : List (List (List Tk))) (f : Nat → List (List Tk) → List Tk), (∀ i, ∀ row, escs (f i row) = escs (rowT row)) → (rows.mapIdx f).flatMap escs = (rows.map rowT).flatMap escs
  | [], f, _ => rfl
  | r :: rs, f, h => by
    rw [List.mapIdx_cons, List.map_cons, List.flatMap_cons, List.flatMap_cons, h 0 r, escs_mapIdx rs _ fun i row => h (i + 1) row]
theorem escs_pageP {w : Int} {fi fr : List Tk} (h1 : escs fi = []) (h2 : escs fr = []) (q : Prt) : escs (pageP w fi fr q) = q.2.2.flatten.flatMap escs := by
  unfold pageP
  rw [escs_joinTk]
  obtain ⟨raw, ins, rows⟩ := q
  cases raw with
  | true =>
    show (rows.mapIdx fun i row => (if i = 0 then fi else fr) ++ blk ins ++ rowT row).flatMap escs = _
    rw [escs_mapIdx rows _ fun i row => by
      rw [escs_append, escs_append]
      have : escs (blk ins) = [] := escs_plain _
      rw [this]
      split
      · rw [h1]; rfl
      · rw [h2]; rfl]
    exact escs_rows rows
  | false =>
    show (laidP w (fi ++ blk ins) (fr ++ blk ins) rows.flatten).flatMap escs = rows.flatten.flatMap escs
    have hb : escs (blk ins) = [] := escs_plain _
    cases rows.flatten with
    | nil =>
      show escs (fi ++ blk ins) ++ [] = []
      rw [escs_append, h1, hb]; rfl
    | cons x r =>
      show (laidT w (fr ++ blk ins) [] (fi ++ blk ins ++ x) r).flatMap escs = (x :: r).flatMap escs
      rw [escs_laid _ _ (by rw [escs_append, h2, hb]; rfl), escs_append, escs_append, h1, hb]; rfl
theorem escs_prtT (q : Prt) : escs (prtT q) = q.2.2.flatten.flatMap escs := by
  unfold prtT
  rw [escs_joinTk, ← escs_rows]
  have e : (prtRows q).flatMap escs = (q.2.2.map rowT).flatMap escs := by
    unfold prtRows
    rw [List.flatMap_append]
    split <;> rfl
  rw [← e]
  unfold prtLines
  cases prtRows q with
  | nil => rfl
  | cons l r =>
    rw [List.flatMap_cons, List.flatMap_cons, escs_append]
    have : escs (blk q.2.1) = [] := escs_plain _
    rw [this]; rfl
theorem escs_page {w : Int} {fi fr : List Tk} (h1 : escs fi = []) (h2 : escs fr = []) (qs : List Prt) : escs (pageT w fi fr qs) = escs (textT qs) := by
  unfold pageT textT
  rw [escs_joinT2, escs_joinT2]
  induction qs with
  | nil => rfl
  | cons q r ih =>
    rw [List.map_cons, List.map_cons, List.flatMap_cons, List.flatMap_cons, ih, escs_pageP h1 h2, escs_prtT]

/-! ### counting marks -/
theorem occ_skip (y : List Nat) : ∀ (a b : List Nat) (i : Nat), occG y (a ++ b) i a.length = occG y b (i + a.length) 0
  | [], b, i => rfl
  | x :: a, b, i => by
    show occG y (a ++ b) (i + 1) a.length = _
    rw [occ_skip y a b (i + 1), List.length_cons]
    congr 1; omega
theorem occ_none (z : List Nat) : ∀ (a b : List Nat) (i : Nat), (∀ x ∈ a, x ≠ 27) → occG (27 :: z) (a ++ b) i 0 = occG (27 :: z) b (i + a.length) 0
  | [], b, i, _ => rfl
  | x :: a, b, i, h => by
    have hx := h x List.mem_cons_self
    have e : (27 :: z : List Nat).isPrefixOf (x :: (a ++ b)) = false := by
      rw [List.isPrefixOf]
      have : ((27 : Nat) == x) = false := by rw [beq_eq_false_iff_ne]; exact Ne.symm hx
      rw [this]; rfl
    rw [List.cons_append]
    conv => lhs; unfold occG
    rw [e, if_neg Bool.false_ne_true, occ_none z a b (i + 1) fun y hy => h y (List.mem_cons_of_mem _ hy), List.length_cons]
    congr 1; omega
theorem mark_eq : ∀ (ps qs R : List Nat), (∀ x ∈ ps, x ≤ 59) → (∀ x ∈ qs, x ≤ 59) → (ps ++ [109]) <+: (qs ++ [109]) ++ R → ps = qs
  | [], [], _, _, _, _ => rfl
  | [], q :: qs, R, _, h2, h => by
    have := (List.cons_prefix_cons.mp h).1
    have := h2 q (by simp); omega
  | p :: ps, [], R, h1, _, h => by
    have := (List.cons_prefix_cons.mp h).1
    have := h1 p (by simp); omega
  | p :: ps, q :: qs, R, h1, h2, h => by
    obtain ⟨e, h⟩ := List.cons_prefix_cons.mp h
    rw [e, mark_eq ps qs R (fun x hx => h1 x (List.mem_cons_of_mem _ hx)) (fun x hx => h2 x (List.mem_cons_of_mem _ hx)) h]
theorem cnt_run {ps : List Nat} (hp : ∀ x ∈ ps, 48 ≤ x ∧ x ≤ 59) : ∀ (ts : List Tk) (i : Nat), okT ts → (occG (27 :: 91 :: (ps ++ [109])) (flatT ts) i 0).length = (escs ts).count (.es ps)
  | [], i, _ => rfl
  | .ch c :: r, i, h => by
    rw [okT_cons] at h
    rw [flatT_cons, escs_ch, ← cnt_run hp r (i + 1) h.2]
    have := occ_none (91 :: (ps ++ [109])) [c] (flatT r) i fun x hx => by rw [List.mem_singleton.mp hx]; exact h.1.1
    show (occG _ ([c] ++ flatT r) i 0).length = _
    rw [this]; rfl
  | .es qs :: r, i, h => by
    rw [okT_cons] at h
    have hq : ∀ x ∈ qs, 48 ≤ x ∧ x ≤ 59 := h.1
    rw [flatT_cons]
    have ee : escs (.es qs :: r) = .es qs :: escs r := rfl
    rw [ee, List.count_cons]
    show (occG _ (27 :: (91 :: (qs ++ [109]) ++ flatT r)) i 0).length = _
    by_cases he : ps = qs
    · subst he
      conv => lhs; unfold occG
      have e : (27 :: 91 :: (ps ++ [109]) : List Nat).isPrefixOf (27 :: (91 :: (ps ++ [109]) ++ flatT r)) = true := by
        rw [List.isPrefixOf_iff_prefix]
        exact ⟨flatT r, by simp⟩
      rw [if_pos e, List.length_cons]
      have := occ_skip (27 :: 91 :: (ps ++ [109])) (91 :: (ps ++ [109])) (flatT r) (i + 1)
      have e2 : (27 :: 91 :: (ps ++ [109]) : List Nat).length - 1 = (91 :: (ps ++ [109]) : List Nat).length := rfl
      rw [e2, this, cnt_run hp r _ h.2]
      simp
    · conv => lhs; unfold occG
      have e : (27 :: 91 :: (ps ++ [109]) : List Nat).isPrefixOf (27 :: (91 :: (qs ++ [109]) ++ flatT r)) = false := by
        rw [Bool.eq_false_iff]
        intro q
        rw [List.isPrefixOf_iff_prefix] at q
        have q := (List.cons_prefix_cons.mp q).2
        have q := (List.cons_prefix_cons.mp q).2
        exact he (mark_eq ps qs (flatT r) (fun x hx => (hp x hx).2) (fun x hx => (hq x hx).2) q)
      rw [e, if_neg Bool.false_ne_true, occ_none (91 :: (ps ++ [109])) (91 :: (qs ++ [109])) (flatT r) (i + 1) (fun x hx => by
        simp only [List.mem_cons, List.mem_append, List.not_mem_nil, or_false] at hx
        rcases hx with rfl | hx | rfl
        · decide
        · have := hq x hx; omega
        · decide), cnt_run hp r _ h.2]
      have : (Tk.es qs == Tk.es ps) = false := by
        rw [beq_eq_false_iff_ne]
        intro q; cases q; exact he rfl
      rw [this]; simp
theorem cnt_marks {ps : List Nat} (hp : ∀ x ∈ ps, 48 ≤ x ∧ x ≤ 59) {a b : List Tk} (ha : okT a) (hb : okT b) (h : escs a = escs b) : cntL (27 :: 91 :: (ps ++ [109])) (flatT a) = cntL (27 :: 91 :: (ps ++ [109])) (flatT b) := by
  unfold cntL
  rw [cnt_run hp a 0 ha, cnt_run hp b 0 hb, h]
end Mine
end

section
open PySem PySem.W PySem.Calls PyProof.Rows PySem.Builtin PySem.Builtin.Str
set_option linter.all false
set_option maxRecDepth 100000
namespace Mine
/-! ## law 2, plain: as few lines as any laying -/
def szF (ws : List (List Nat)) (a b : Int) (j k : Nat) : Int := ((joinL [32] ((ws.take k).drop j)).length : Int) + (if j = 0 then a else b)
def bestF (ws : List (List Nat)) (a b w : Int) (lst : List Int) (k : Nat) : Nat → Int
  | 0 => 99
  | j + 1 => if szF ws a b j k ≤ w then min (bestF ws a b w lst k j) (lst.getD j 0 + 1) else bestF ws a b w lst k j
def leastF (ws : List (List Nat)) (a b w : Int) : Nat → List Int
  | 0 => [0]
  | k + 1 => leastF ws a b w k ++ [bestF ws a b w (leastF ws a b w k) (k + 1) (k + 1)]
def gs (ws : List (List Nat)) (a b w : Int) : Nat → Nat × Nat
  | 0 => (0, 0)
  | 1 => (1, 0)
  | n + 2 => if szF ws a b (gs ws a b w (n + 1)).2 (n + 2) ≤ w then gs ws a b w (n + 1) else ((gs ws a b w (n + 1)).1 + 1, n + 1)
theorem leastF_len (ws : List (List Nat)) (a b w : Int) : ∀ k, (leastF ws a b w k).length = k + 1
  | 0 => rfl
  | k + 1 => by
    show (leastF ws a b w k ++ [_]).length = _
    rw [List.length_append, leastF_len ws a b w k]; rfl
theorem joinL_snoc (s : List Nat) : ∀ (l : List (List Nat)) (x : List Nat), l ≠ [] → joinL s (l ++ [x]) = joinL s l ++ s ++ x
  | [], _, h => absurd rfl h
  | [y], x, _ => rfl
  | y :: z :: r, x, _ => by
    have := joinL_snoc s (z :: r) x (by simp)
    show y ++ s ++ joinL s ((z :: r) ++ [x]) = _
    rw [this]
    show _ = y ++ s ++ joinL s (z :: r) ++ s ++ x
    simp
theorem joinL_tail_len (s : List Nat) (x : List Nat) (l : List (List Nat)) : (joinL s l).length ≤ (joinL s (x :: l)).length := by
  cases l with
  | nil => exact Nat.zero_le _
  | cons y r =>
    show _ ≤ (x ++ s ++ joinL s (y :: r)).length
    rw [List.length_append]; omega
theorem joinL_drop_len (s : List Nat) : ∀ (l : List (List Nat)) (i : Nat), (joinL s (l.drop i)).length ≤ (joinL s l).length
  | [], i => by simp
  | x :: l, 0 => Nat.le_refl _
  | x :: l, i + 1 => Nat.le_trans (joinL_drop_len s l i) (joinL_tail_len s x l)
section
variable {ws : List (List Nat)} {a b w : Int}
theorem slice_snoc {j k : Nat} (hj : j ≤ k) (hk : k < ws.length) : (ws.take (k + 1)).drop j = (ws.take k).drop j ++ [ws[k]] := by
  rw [List.take_add_one, List.getElem?_eq_getElem hk, List.drop_append_of_le_length (by rw [List.length_take]; omega)]; rfl
theorem slice_len {j k : Nat} (hk : k ≤ ws.length) : ((ws.take k).drop j).length = k - j := by
  rw [List.length_drop, List.length_take]; omega
theorem szF_step {j k : Nat} (hj : j < k) (hk : k < ws.length) : szF ws a b j (k + 1) = szF ws a b j k + 1 + ws[k].length := by
  unfold szF
  rw [slice_snoc (Nat.le_of_lt hj) hk, joinL_snoc [32] _ _ (by
    intro q
    have := slice_len (ws := ws) (j := j) (Nat.le_of_lt hk)
    rw [q] at this
    simp only [List.length_nil] at this; omega)]
  simp only [List.length_append, List.length_singleton]
  push_cast; omega
theorem szF_new {k : Nat} (hk : k < ws.length) : szF ws a b k (k + 1) = (if k = 0 then a else b) + ws[k].length := by
  unfold szF
  rw [slice_snoc (Nat.le_refl k) hk]
  have : (ws.take k).drop k = [] := by rw [List.drop_eq_nil_iff, List.length_take]; omega
  rw [this]
  show ((ws[k].length : Nat) : Int) + _ = _
  omega
theorem szF_mono {j k : Nat} (hj : j ≤ k) (hk : k < ws.length) : szF ws a b j k ≤ szF ws a b j (k + 1) := by
  rcases Nat.lt_or_ge j k with h | h
  · rw [szF_step h hk]; omega
  · have : j = k := by omega
    subst this
    rw [szF_new hk]
    unfold szF
    have : (ws.take j).drop j = [] := by rw [List.drop_eq_nil_iff, List.length_take]; omega
    rw [this]
    show ((0 : Nat) : Int) + _ ≤ _
    omega
theorem szF_later {j s k : Nat} (h1 : 1 ≤ j) (hs : j ≤ s) : szF ws a b s k ≤ szF ws a b j k := by
  unfold szF
  rw [if_neg (by omega), if_neg (by omega)]
  have : (ws.take k).drop s = ((ws.take k).drop j).drop (s - j) := by rw [List.drop_drop]; congr 1; omega
  rw [this]
  have := joinL_drop_len [32] ((ws.take k).drop j) (s - j)
  omega
theorem gs_succ {n : Nat} (h : 1 ≤ n) : gs ws a b w (n + 1) = if szF ws a b (gs ws a b w n).2 (n + 1) ≤ w then gs ws a b w n else ((gs ws a b w n).1 + 1, n) := by
  obtain ⟨m, rfl⟩ : ∃ m, n = m + 1 := ⟨n - 1, by omega⟩
  rfl
theorem gs_pos : ∀ n, 1 ≤ n → 1 ≤ (gs ws a b w n).1
  | 0, h => absurd h (by decide)
  | 1, _ => Nat.le_refl _
  | n + 2, _ => by
    rw [gs_succ (by omega)]
    have := gs_pos (n + 1) (by omega)
    split
    · exact this
    · exact Nat.le_trans this (Nat.le_succ _)
theorem gs_le : ∀ n, (gs ws a b w n).1 ≤ n
  | 0 => Nat.le_refl _
  | 1 => Nat.le_refl _
  | n + 2 => by
    rw [gs_succ (by omega)]
    have := gs_le (n + 1)
    split
    · omega
    · show (gs ws a b w (n + 1)).1 + 1 ≤ _
      omega
/-- every word goes on a line -/
def Fits (ws : List (List Nat)) (a b w : Int) : Prop := ∀ k (h : k < ws.length), a + ws[k].length ≤ w ∧ b + ws[k].length ≤ w
theorem gs_last (hf : Fits ws a b w) : ∀ n, 1 ≤ n → n ≤ ws.length → (gs ws a b w n).2 < n ∧ szF ws a b (gs ws a b w n).2 n ≤ w ∧ (gs ws a b w (gs ws a b w n).2).1 + 1 = (gs ws a b w n).1
  | 0, h, _ => absurd h (by decide)
  | 1, _, hl => by
    refine ⟨Nat.zero_lt_one, ?_, rfl⟩
    show szF ws a b 0 (0 + 1) ≤ w
    rw [szF_new (show 0 < ws.length from hl)]
    exact (hf 0 hl).1
  | n + 2, _, hl => by
    obtain ⟨h1, h2, h3⟩ := gs_last hf (n + 1) (by omega) (by omega)
    rw [gs_succ (by omega)]
    split
    · rename_i h
      exact ⟨by omega, h, h3⟩
    · refine ⟨Nat.lt_succ_self _, ?_, rfl⟩
      show szF ws a b (n + 1) (n + 1 + 1) ≤ w
      rw [szF_new (show n + 1 < ws.length from hl), if_neg (by omega)]
      exact (hf (n + 1) hl).2
theorem gs_low (j : Nat) : ∀ d, j + d ≤ ws.length → szF ws a b j (j + d) ≤ w → (gs ws a b w (j + d)).1 = (gs ws a b w j).1 ∨ ((gs ws a b w (j + d)).1 = (gs ws a b w j).1 + 1 ∧ ((gs ws a b w (j + d)).2 = j ∨ (1 ≤ j ∧ j ≤ (gs ws a b w (j + d)).2)))
  | 0, _, _ => .inl rfl
  | d + 1, hl, hz => by
    have hz0 : szF ws a b j (j + d) ≤ w := Int.le_trans (szF_mono (Nat.le_add_right j d) (by omega)) hz
    have ih := gs_low j d (by omega) hz0
    have e : j + (d + 1) = j + d + 1 := rfl
    rw [e] at hz ⊢
    by_cases h0 : j + d = 0
    · have h1 : j = 0 := by omega
      have h2 : d = 0 := by omega
      subst h1 h2
      exact .inr ⟨rfl, .inl rfl⟩
    · rw [gs_succ (by omega)]
      rcases ih with ih | ⟨i1, i2⟩
      · split
        · exact .inl ih
        · refine .inr ⟨by show _ + 1 = _; rw [ih], ?_⟩
          by_cases hj : j = 0
          · subst hj
            have := gs_pos (ws := ws) (a := a) (b := b) (w := w) (0 + d) (by omega)
            rw [ih] at this
            have e0 : (gs ws a b w 0).1 = 0 := rfl
            rw [e0] at this
            exact absurd this (by decide)
          · exact .inr ⟨by omega, Nat.le_add_right j d⟩
      · have : szF ws a b (gs ws a b w (j + d)).2 (j + d + 1) ≤ w := by
          rcases i2 with i2 | ⟨i2, i3⟩
          · rw [i2]; exact hz
          · exact Int.le_trans (szF_later i2 i3) hz
        rw [if_pos this]
        exact .inr ⟨i1, i2⟩
theorem gs_least {j k : Nat} (hj : j < k) (hk : k ≤ ws.length) (hz : szF ws a b j k ≤ w) : (gs ws a b w k).1 ≤ (gs ws a b w j).1 + 1 := by
  obtain ⟨d, rfl⟩ : ∃ d, k = j + d := ⟨k - j, by omega⟩
  rcases gs_low j d hk hz with h | ⟨h, _⟩ <;> omega
theorem leastF_get (hf : Fits ws a b w) (hs : ws.length ≤ 90) : ∀ n, n ≤ ws.length → ∀ k, k ≤ n → (leastF ws a b w n).getD k 0 = ((gs ws a b w k).1 : Int)
  | 0, _, k, hk => by
    have : k = 0 := by omega
    subst this; rfl
  | n + 1, hn, k, hk => by
    have ih := leastF_get hf hs n (by omega)
    show (leastF ws a b w n ++ [_]).getD k 0 = _
    rcases Nat.lt_or_ge k (n + 1) with h | h
    · rw [List.getD_eq_getElem?_getD, List.getElem?_append_left (by rw [leastF_len]; exact h), ← List.getD_eq_getElem?_getD]
      exact ih k (by omega)
    · have : k = n + 1 := by omega
      subst this
      rw [List.getD_eq_getElem?_getD, List.getElem?_append_right (by rw [leastF_len]; omega), leastF_len, Nat.sub_self]
      show bestF ws a b w (leastF ws a b w n) (n + 1) (n + 1) = _
      have low : ∀ j, j ≤ n + 1 → ((gs ws a b w (n + 1)).1 : Int) ≤ bestF ws a b w (leastF ws a b w n) (n + 1) j := by
        intro j
        induction j with
        | zero =>
          intro _
          have := gs_le (ws := ws) (a := a) (b := b) (w := w) (n + 1)
          show _ ≤ (99 : Int)
          omega
        | succ j ihj =>
          intro hj
          have i1 := ihj (by omega)
          show _ ≤ if szF ws a b j (n + 1) ≤ w then min (bestF ws a b w (leastF ws a b w n) (n + 1) j) ((leastF ws a b w n).getD j 0 + 1) else bestF ws a b w (leastF ws a b w n) (n + 1) j
          split
          · rename_i hz
            have := gs_least (show j < n + 1 by omega) hn hz
            rw [ih j (by omega)]
            omega
          · exact i1
      obtain ⟨l1, l2, l3⟩ := gs_last hf (n + 1) (by omega) hn
      have up : ∀ j, (gs ws a b w (n + 1)).2 < j → bestF ws a b w (leastF ws a b w n) (n + 1) j ≤ ((gs ws a b w (n + 1)).1 : Int) := by
        intro j
        induction j with
        | zero => intro h; exact absurd h (Nat.not_lt_zero _)
        | succ j ihj =>
          intro hj
          show (if szF ws a b j (n + 1) ≤ w then min (bestF ws a b w (leastF ws a b w n) (n + 1) j) ((leastF ws a b w n).getD j 0 + 1) else bestF ws a b w (leastF ws a b w n) (n + 1) j) ≤ _
          rcases Nat.lt_or_ge (gs ws a b w (n + 1)).2 j with h | h
          · have := ihj h
            split
            · omega
            · exact this
          · have e : j = (gs ws a b w (n + 1)).2 := by omega
            rw [e, if_pos l2, ih _ (by omega)]
            omega
      exact Int.le_antisymm (up (n + 1) l1) (low (n + 1) (Nat.le_refl _))
end
/-! ### the law's own laying, without colours -/
def laidN (w : Int) (fr : List Nat) : List (List Nat) → List Nat → List (List Nat) → List (List Nat)
  | done, cur, [] => done ++ [cur]
  | done, cur, x :: r => if (cur.length : Int) + 1 + x.length > w then laidN w fr (done ++ [cur]) (fr ++ x) r else laidN w fr done (cur ++ [32] ++ x) r
theorem laidN_cons (w : Int) (fr : List Nat) (done : List (List Nat)) (cur x : List Nat) (r : List (List Nat)) : laidN w fr done cur (x :: r) = if (cur.length : Int) + 1 + x.length > w then laidN w fr (done ++ [cur]) (fr ++ x) r else laidN w fr done (cur ++ [32] ++ x) r := rfl
def lawLaid (w : Int) (fi fr : List Nat) : List (List Nat) → List (List Nat)
  | [] => [fi]
  | x :: r => laidN w fr [] (fi ++ x) r
theorem laidN_T (w : Int) (fr : List Nat) : ∀ (r done : List (List Nat)) (cur : List Nat), laidT w (plain fr) (done.map plain) (plain cur) (r.map plain) = (laidN w fr done cur r).map plain
  | [], done, cur => by
    show done.map plain ++ [plain cur] = (done ++ [cur]).map plain
    rw [List.map_append]; rfl
  | x :: r, done, cur => by
    rw [List.map_cons, laidT_cons, laidN_cons, vis_plain, vis_plain]
    split
    · rw [← laidN_T w fr r, List.map_append, plain_append]; rfl
    · rw [← laidN_T w fr r, List.append_assoc, plain_append]; rfl
theorem lawLaid_T (w : Int) (fi fr : List Nat) (ws : List (List Nat)) : laidP w (plain fi) (plain fr) (ws.map plain) = (lawLaid w fi fr ws).map plain := by
  cases ws with
  | nil => rfl
  | cons x r =>
    show laidT w (plain fr) [] (plain fi ++ plain x) (r.map plain) = _
    rw [← plain_append]
    exact laidN_T w fr r [] (fi ++ x)
theorem laidN_count {ws : List (List Nat)} {w : Int} {fi fr : List Nat} : ∀ (d n : Nat) (done : List (List Nat)) (cur : List Nat), ws.length = n + d → 1 ≤ n → (gs ws fi.length fr.length w n).2 < n → done.length + 1 = (gs ws fi.length fr.length w n).1 → (cur.length : Int) = szF ws fi.length fr.length (gs ws fi.length fr.length w n).2 n →
    (laidN w fr done cur (ws.drop n)).length = (gs ws fi.length fr.length w ws.length).1
  | 0, n, done, cur, hd, h1, hs, h2, h3 => by
    have e : ws.drop n = [] := by rw [List.drop_eq_nil_iff]; omega
    rw [e, hd]
    show (done ++ [cur]).length = _
    rw [List.length_append, List.length_singleton, h2, Nat.add_zero]
  | d + 1, n, done, cur, hd, h1, hs, h2, h3 => by
    have hn : n < ws.length := by omega
    rw [List.drop_eq_getElem_cons hn, laidN_cons]
    have e1 := szF_step (ws := ws) (a := fi.length) (b := fr.length) hs hn
    have e2 := gs_succ (ws := ws) (a := fi.length) (b := fr.length) (w := w) h1
    split
    · rename_i hgt
      rw [if_neg (by omega)] at e2
      refine laidN_count d (n + 1) _ _ (by omega) (by omega) (by rw [e2]; exact Nat.lt_succ_self n) (by rw [e2, List.length_append, List.length_singleton, h2]) ?_
      rw [e2]
      show _ = szF ws _ _ n (n + 1)
      rw [szF_new hn, if_neg (by omega), List.length_append]
      push_cast; rfl
    · rename_i hgt
      rw [if_pos (by omega)] at e2
      refine laidN_count d (n + 1) _ _ (by omega) (by omega) (by rw [e2]; omega) (by rw [e2]; exact h2) ?_
      rw [e2, e1, ← h3, List.length_append, List.length_append, List.length_singleton]
      push_cast; rfl
theorem lawLaid_count {ws : List (List Nat)} {w : Int} {fi fr : List Nat} (hne : ws ≠ []) : (lawLaid w fi fr ws).length = (gs ws fi.length fr.length w ws.length).1 := by
  obtain ⟨x, r, rfl⟩ := List.exists_cons_of_ne_nil hne
  show (laidN w fr [] (fi ++ x) ((x :: r).drop 1)).length = _
  refine laidN_count r.length 1 [] (fi ++ x) (by rw [List.length_cons]; omega) (Nat.le_refl _) Nat.zero_lt_one rfl ?_
  show _ = szF (x :: r) _ _ 0 (0 + 1)
  rw [szF_new (by simp), if_pos rfl, List.length_append]
  push_cast; rfl
theorem lawLaid_few {ws : List (List Nat)} {w : Int} {fi fr : List Nat} (hne : ws ≠ []) (hs : ws.length ≤ 90) (hf : Fits ws fi.length fr.length w) : ((lawLaid w fi fr ws).length : Int) = (leastF ws fi.length fr.length w ws.length).getD ws.length 0 := by
  rw [leastF_get hf hs ws.length (Nat.le_refl _) ws.length (Nat.le_refl _), lawLaid_count hne]
/-! ### no line is wider than told -/
theorem laidN_wide {w : Int} {fr : List Nat} : ∀ (r done : List (List Nat)) (cur : List Nat), (∀ l ∈ done, (l.length : Int) ≤ w) → (cur.length : Int) ≤ w → (∀ x ∈ r, (fr.length : Int) + x.length ≤ w) → ∀ l ∈ laidN w fr done cur r, (l.length : Int) ≤ w
  | [], done, cur, h1, h2, _ => by
    intro l hl
    rcases List.mem_append.mp hl with hl | hl
    · exact h1 l hl
    · rw [List.mem_singleton.mp hl]; exact h2
  | x :: r, done, cur, h1, h2, h3 => by
    rw [laidN_cons]
    have hx := h3 x List.mem_cons_self
    split
    · exact laidN_wide r _ _ (fun l hl => by
        rcases List.mem_append.mp hl with hl | hl
        · exact h1 l hl
        · rw [List.mem_singleton.mp hl]; exact h2) (by rw [List.length_append]; push_cast; omega) fun y hy => h3 y (List.mem_cons_of_mem _ hy)
    · exact laidN_wide r _ _ h1 (by simp only [List.length_append, List.length_singleton]; push_cast; omega) fun y hy => h3 y (List.mem_cons_of_mem _ hy)
theorem lawLaid_wide {ws : List (List Nat)} {w : Int} {fi fr : List Nat} (hne : ws ≠ []) (hf : ∀ x ∈ ws, (fi.length : Int) + x.length ≤ w ∧ (fr.length : Int) + x.length ≤ w) : ∀ l ∈ lawLaid w fi fr ws, (l.length : Int) ≤ w := by
  obtain ⟨x, r, rfl⟩ := List.exists_cons_of_ne_nil hne
  exact laidN_wide r [] (fi ++ x) (fun _ h => by cases h) (by rw [List.length_append]; push_cast; exact (hf x (by simp)).1) fun y hy => (hf y (List.mem_cons_of_mem _ hy)).2
end Mine
end

section
open PySem PySem.W PySem.Calls PyProof.Rows
set_option linter.all false
set_option maxRecDepth 100000
set_option maxHeartbeats 4000000
namespace Mine
local macro_rules | `(tactic| walk_at "go") => `(tactic| first
  | ((with_reducible show Ev _ _ _ _ _ _); (first
      | ((with_reducible refine Ev.nameK ?_ ?_ ?_); rotate_left; rfl)
      | (with_reducible refine Ev.or2 ?_)
      | (with_reducible refine Ev.and2 ?_)
      | (with_reducible refine Ev.int ?_)
      | (with_reducible refine Ev.bool ?_)
      | (with_reducible refine Ev.non ?_)
      | (with_reducible refine Ev.textX _ t_no ?_)
      | (with_reducible refine Ev.textX _ t_blanks ?_)
      | (with_reducible refine Ev.textX _ t_sp ?_)
      | (with_reducible refine Ev.textX _ t_nl ?_)
      | (with_reducible refine Ev.textX _ t_nl2 ?_)
      | (with_reducible refine Ev.textX _ t_bs ?_)
      | (with_reducible refine Ev.textX _ t_sp2 ?_)
      | (with_reducible refine Ev.textX _ t_sp4 ?_)
      | (with_reducible refine Ev.textX _ t_star ?_)
      | (with_reducible refine Ev.textX _ t_usage ?_)
      | (with_reducible refine Ev.textX _ t_abc ?_)
      | (with_reducible refine Ev.textX _ t_pon ?_)
      | (with_reducible refine Ev.textX _ t_csi ?_)
      | (with_reducible refine Ev.textX _ t_m ?_)
      | (with_reducible refine Ev.textX _ t_b1 ?_)
      | (with_reducible refine Ev.textX _ t_b0 ?_)
      | (with_reducible refine Ev.textX _ t_314 ?_)
      | (with_reducible refine Ev.textX _ t_31 ?_)
      | (with_reducible refine Ev.textX _ t_14 ?_)
      | (with_reducible refine Ev.textX _ t_ah ?_)
      | (with_reducible refine Ev.textX _ t_spnl ?_)
      | (with_reducible refine Ev.textX _ t_dots ?_)
      | (with_reducible refine Ev.bin ?_)
      | ((with_reducible refine Ev.cmp ?_ ?_); rotate_left; rfl)
      | (with_reducible refine Ev.un ?_)
      | (with_reducible refine Ev.ifx ?_)
      | (with_reducible refine Ev.sliceG ?_)
      | ((with_reducible refine Ev.itemG ?_ ?_); rotate_left; intro _ _; rfl)
      | (with_reducible refine Ev.listG ?_)
      | (with_reducible refine Ev.tupleG ?_)
      | ((with_reducible refine Ev.methKX0 ?_ ?_ ?_); rotate_left; rfl)
      | ((with_reducible refine Ev.methKX ?_ ?_ ?_ ?_ ?_); rotate_left; rfl; rfl; rfl)
      | ((with_reducible refine Ev.callK0 ?_ ?_); rotate_left; rfl)
      | ((with_reducible refine Ev.callK ?_ ?_ ?_ ?_); rotate_left; rfl; rfl; rfl)
      | ((with_reducible refine Ev.callKW ?_ ?_ ?_ ?_ ?_ ?_ ?_); rotate_left; rotate_left; rfl; rfl; rfl; rfl; rfl)
      | (with_reducible refine Ev.fstr2 ?_)
      | ((with_reducible refine Ev.attr ?_ ?_); rotate_left; rfl)
    ))
  | ((with_reducible show NameJ _ _ _ _ _ _ _ _); (first
      | ((with_reducible refine NameJ.loc ?_ ?_ ?_ ?_ ?_); rotate_left; rfl; rfl; rfl)
      | ((with_reducible refine NameJ.cell ?_ ?_ ?_ ?_ ?_ ?_ ?_); rotate_left; rotate_left; rfl; rfl; rfl; walk_at "heap")
      | ((with_reducible refine NameJ.free ?_ ?_ ?_ ?_ ?_ ?_ ?_ ?_); rotate_left; rotate_left; rfl; rfl; rfl; rfl; walk_at "heap")
      | ((with_reducible refine NameJ.glob ?_ ?_ ?_ ?_ ?_ ?_ ?_); rotate_left; rotate_left; rotate_left; assumption; rfl; rfl)
      | ((with_reducible refine NameJ.bltB ?_ ?_ ?_ ?_ ?_ ?_ ?_ ?_ ?_); rotate_left; rotate_left; rotate_left; rfl; assumption; rfl; decide; rfl)
      | ((with_reducible refine NameJ.bltT ?_ ?_ ?_ ?_ ?_ ?_ ?_ ?_ ?_); rotate_left; rotate_left; rotate_left; rfl; assumption; rfl; decide; rfl)
    ))
  | ((with_reducible show ThenJ _ _ _ _ _ _ _); (first
      | (with_reducible refine ThenJ.next ?_)
      | (with_reducible refine ThenJ.ret ?_)
      | (with_reducible refine ThenJ.brk ?_)
      | (with_reducible refine ThenJ.cont ?_)
    ))
  | ((with_reducible show Exs _ _ _ _ _ _); (first
      | (with_reducible refine Exs.go ?_)
      | (with_reducible refine Exs.nil ?_)
    ))
  | ((with_reducible show StoreJ _ _ _ _ _ _ _); (first
      | ((with_reducible refine StoreJ.loc ?_ ?_ ?_); rfl; rfl)
      | ((with_reducible refine StoreJ.cellX ?_ ?_ ?_ ?_ ?_ ?_ ?_); rotate_left; rotate_left; rfl; rfl; rfl; walk_at "heap")
    ))
  | ((with_reducible show Vals _ _ _ _ _ _); (first
      | (with_reducible refine Vals.nil ?_)
      | ((with_reducible refine Vals.cons ?_ ?_); rotate_left; rfl)
    ))
  | ((with_reducible show Op2 _ _ _ _ _ _ _ _); (first
      | (with_reducible refine O_add ?_)
      | (with_reducible refine O_sub ?_)
      | (with_reducible refine O_iadd ?_)
      | (with_reducible refine O_isub ?_)
      | (with_reducible refine O_lt ?_)
      | (with_reducible refine O_le ?_)
      | (with_reducible refine O_gt ?_)
      | (with_reducible refine O_ge ?_)
      | (with_reducible refine O_eqI ?_)
      | (with_reducible refine O_neI ?_)
      | (with_reducible refine O_eqT ?_)
      | (with_reducible refine O_neT ?_)
      | (with_reducible refine O_eqB ?_)
      | (with_reducible refine O_eqBN ?_)
      | (with_reducible refine O_in1 ?_)
      | (with_reducible refine O_notin1 ?_)
      | ((with_reducible refine O_addT ?_ ?_); walk_at "side")
      | ((with_reducible refine O_iaddT ?_ ?_); walk_at "side")
      | ((with_reducible refine O_eqLX ?_ ?_ ?_ ?_ ?_ ?_ ?_ ?_ ?_); rotate_left; rotate_left; rotate_left; rotate_left; walk_at "heap"; walk_at "heap"; assumption; walk_at "flat")
      | ((with_reducible refine O_neLX ?_ ?_ ?_ ?_ ?_ ?_ ?_ ?_ ?_); rotate_left; rotate_left; rotate_left; rotate_left; walk_at "heap"; walk_at "heap"; assumption; walk_at "flat")
      | ((with_reducible refine O_addLX ?_ ?_ ?_ ?_ ?_ ?_); rotate_left; rotate_left; walk_at "heap"; walk_at "heap"; walk_at "side")
      | (with_reducible refine O_isNN ?_)
      | (with_reducible refine O_isIN ?_)
      | (with_reducible refine O_isnotNN ?_)
      | (with_reducible refine O_isnotRN ?_)
    ))
  | ((with_reducible show Ex _ _ _ _ _ _); (first
      | (with_reducible refine Ex.ite ?_)
      | (with_reducible refine Ex.ret ?_)
      | (with_reducible refine Ex.retN ?_)
      | (with_reducible refine Ex.brk ?_)
      | (with_reducible refine Ex.cont ?_)
      | (with_reducible refine Ex.pass ?_)
      | ((with_reducible refine Ex.asgN ?_ ?_); rotate_left; rfl)
      | ((with_reducible refine Ex.asg ?_ ?_ ?_ ?_); rotate_left; rfl; rfl; rfl)
      | ((with_reducible refine Ex.swap2 ?_ ?_ ?_ ?_ ?_ ?_); rotate_left; rotate_left; rotate_left; rotate_left; rfl; rfl; (first | assumption | exact Ok.hh (by assumption)))
      | ((with_reducible refine Ex.swap3 ?_ ?_ ?_ ?_ ?_ ?_ ?_); rotate_left; rotate_left; rotate_left; rotate_left; rotate_left; rfl; rfl; (first | assumption | exact Ok.hh (by assumption)))
      | (with_reducible refine Ex.augN ?_)
      | ((with_reducible refine Ex.augI ?_ ?_); rotate_left; intro _ _ _; rfl)
      | (with_reducible refine Ex.delAll ?_)
      | (with_reducible refine Ex.delI ?_)
      | ((with_reducible refine Ex.expr ?_ ?_ ?_); rotate_left; rfl; rfl)
      | (with_reducible refine Ex.augA ?_)
    ))
  | ((with_reducible show CallK _ _ _ _ _ _ _); (first
      | (with_reducible refine CallK.app ?_)
      | (with_reducible refine CallK.b ?_)
      | (with_reducible refine CallK.t ?_)
      | ((with_reducible refine CallK.kX ?_ ?_ ?_ ?_ ?_); rotate_left; rotate_left; assumption; rfl)
    ))
  | ((with_reducible show CallJ _ _ _ _ _ _ _ _); (first
      | ((with_reducible refine C_appendX ?_ ?_ ?_ ?_); rotate_left; walk_at "heap"; walk_at "side")
      | ((with_reducible refine C_pop0X ?_ ?_ ?_ ?_ ?_); rotate_left; rotate_left; walk_at "heap"; walk_at "side")
      | ((with_reducible refine C_popX ?_ ?_ ?_ ?_ ?_); rotate_left; rotate_left; walk_at "heap"; walk_at "side")
      | ((with_reducible refine C_lenLX ?_ ?_ ?_ ?_); rotate_left; walk_at "heap"; walk_at "side")
      | ((with_reducible refine C_lenT ?_ ?_); walk_at "side")
      | ((with_reducible refine C_stripP ?_ ?_); walk_at "side")
      | ((with_reducible refine C_lstripP ?_ ?_); walk_at "side")
      | ((with_reducible refine C_lstripCP ?_ ?_); walk_at "side")
      | ((with_reducible refine C_rstripCP ?_ ?_); walk_at "side")
      | (with_reducible refine C_startswithP ?_)
      | (with_reducible refine C_abs ?_)
      | ((with_reducible refine C_reverseX ?_ ?_ ?_ ?_); rotate_left; walk_at "heap"; walk_at "side")
      | ((with_reducible refine C_joinX ?_ ?_ ?_ ?_); rotate_left; walk_at "heap"; walk_at "side")
      | ((with_reducible refine C_endX ?_ ?_ ?_); rotate_left; assumption)
    ))
  | ((with_reducible show MethJ _ _ _ _ _ _ _); (first
      | ((with_reducible refine MethJ.listX ?_ ?_ PySem.F.slot_list_append PySem.F.type_list_append ?_); rotate_left; walk_at "heap")
      | ((with_reducible refine MethJ.listX ?_ ?_ PySem.F.slot_list_reverse PySem.F.type_list_reverse ?_); rotate_left; walk_at "heap")
      | ((with_reducible refine MethJ.listX ?_ ?_ PySem.F.slot_list_pop PySem.F.type_list_pop ?_); rotate_left; walk_at "heap")
      | (with_reducible refine MethJ.strX PySem.F.slot_str_strip PySem.F.type_str_strip ?_)
      | (with_reducible refine MethJ.strX PySem.F.slot_str_lstrip PySem.F.type_str_lstrip ?_)
      | (with_reducible refine MethJ.strX PySem.F.slot_str_rstrip PySem.F.type_str_rstrip ?_)
      | (with_reducible refine MethJ.strX PySem.F.slot_str_startswith PySem.F.type_str_startswith ?_)
      | (with_reducible refine MethJ.strX PySem.F.slot_str_count PySem.F.type_str_count ?_)
      | (with_reducible refine MethJ.strX PySem.F.slot_str_join PySem.F.type_str_join ?_)
      | (with_reducible refine MethJ.strX PySem.F.slot_str_split PySem.F.type_str_split ?_)
      | (with_reducible refine MethJ.strX PySem.F.slot_str_splitlines PySem.F.type_str_splitlines ?_)
      | (with_reducible refine MethJ.strX PySem.F.slot_str_expandtabs PySem.F.type_str_expandtabs ?_)
      | (with_reducible refine MethJ.strX PySem.F.slot_str_index PySem.F.type_str_index ?_)
      | ((with_reducible refine MethJ.patX ?_ ?_ slot_Pattern_sub type_Pattern_sub ?_); rotate_left; assumption)
      | ((with_reducible refine MethJ.patX ?_ ?_ slot_Pattern_match type_Pattern_match ?_); rotate_left; assumption)
      | ((with_reducible refine MethJ.instX ?_ ?_ ?_ ?_ ?_ ?_ ?_ ?_ ?_ ?_ ?_ ?_ ?_ ?_); rotate_left; rotate_left; rotate_left; rotate_left; rotate_left; rotate_left; walk_at "heap"; walk_at "heap"; assumption; rfl; rfl; rfl; rfl)
      | ((with_reducible refine MethJ.matchedX ?_ ?_ ?_); rotate_left; assumption)
    ))
  | ((with_reducible show Tst _ _ _ _ _ _); (first
      | (with_reducible refine Tst.bop ?_)
      | (with_reducible refine Tst.nt ?_)
      | ((with_reducible refine Tst.cmp ?_ ?_); rotate_left; rfl)
      | ((with_reducible refine Tst.plain ?_ ?_); rotate_left; rfl)
    ))
  | ((with_reducible show TstAll _ _ _ _ _ _ _); (first
      | (with_reducible refine TstAll.and ?_)
      | (with_reducible refine TstAll.or ?_)
      | (with_reducible refine TstAll.andNil ?_)
      | (with_reducible refine TstAll.orNil ?_)
    ))
  | ((with_reducible show Tru _ _ _ _ _ _); (first
      | (with_reducible refine T_bool ?_)
      | (with_reducible refine T_int ?_)
      | (with_reducible refine T_none ?_)
      | ((with_reducible refine T_listX ?_ ?_ ?_ ?_); rotate_left; walk_at "heap"; walk_at "side")
      | ((with_reducible refine T_str ?_ ?_); walk_at "side")
    ))
  | ((with_reducible show Tgt _ _ _ _ _ _ _); (first
      | (with_reducible refine Tgt.name ?_)
      | (with_reducible refine Tgt.subI ?_)
      | ((with_reducible refine Tgt.two ?_ ?_ ?_ ?_ ?_); rotate_left; rotate_left; (first | assumption | exact Ok.hh (by assumption)); walk_at "heap")
      | ((with_reducible refine Tgt.three ?_ ?_ ?_ ?_ ?_ ?_); rotate_left; rotate_left; rotate_left; (first | assumption | exact Ok.hh (by assumption)); walk_at "heap")
      | (with_reducible refine Tgt.attr ?_)
    ))
  | ((with_reducible show ForK _ _ _ _ _ _); (first
      | (with_reducible refine ForK.next ?_)
      | (with_reducible refine ForK.cont ?_)
      | (with_reducible refine ForK.brk ?_)
      | (with_reducible refine ForK.ret ?_)
    ))
  | ((with_reducible show ItemG _ _ _ _ _ _ _); (first
      | ((with_reducible refine ItemG.lastX ?_ ?_ ?_ ?_); rotate_left; rotate_left; walk_at "heap")
      | ((with_reducible refine ItemG.strX ?_ ?_ ?_ ?_); rotate_left; rfl; decide)
      | ((with_reducible refine ItemG.listX ?_ ?_ ?_ ?_ ?_ ?_); rotate_left; rotate_left; walk_at "heap"; rfl; decide)
    ))
  | (with_reducible refine iteT ?_)
  | (with_reducible refine iteF ?_)
  | ((with_reducible show KVals _ _ _ _ _ _); (first
      | (with_reducible refine KVals.nil ?_)
      | (with_reducible refine KVals.cons ?_)
    ))
  | ((with_reducible show EvP _ _ _ _ _ _); (first
      | (with_reducible refine EvP.non ?_)
      | (with_reducible refine EvP.some ?_)
    ))
  | ((with_reducible show Op1 _ _ _ _ _ _ _); (first
      | (with_reducible refine O_not ?_)
      | (with_reducible refine O_neg ?_)
    ))
  | ((with_reducible show StoreI _ _ _ _ _ _ _); (first
      | ((with_reducible refine StoreI.lastX ?_ ?_ ?_ ?_); rotate_left; rotate_left; walk_at "heap")
      | ((with_reducible refine StoreI.atX ?_ ?_ ?_ ?_ ?_ ?_); rotate_left; walk_at "heap"; walk_at "side"; walk_at "side"; walk_at "side")
    ))
  | ((with_reducible show DelI _ _ _ _ _ _); (first
      | ((with_reducible refine DelI.lastX ?_ ?_ ?_ ?_ ?_); rotate_left; rotate_left; walk_at "heap"; walk_at "side")
      | ((with_reducible refine DelI.atX ?_ ?_ ?_ ?_ ?_ ?_); rotate_left; walk_at "heap"; walk_at "side"; walk_at "side"; walk_at "side")
    ))
  | ((with_reducible show Yld _ _ _ _ _); (first
      | (with_reducible refine Yld.f ?_)
      | (with_reducible refine Yld.t ?_)
    ))
  | ((with_reducible refine Swap2.mkX ?_ ?_ ?_ ?_); rotate_left; rotate_left; walk_at "heap")
  | ((with_reducible refine Swap3.mkX ?_ ?_ ?_ ?_ ?_); rotate_left; rotate_left; rotate_left; walk_at "heap")
  | ((with_reducible refine DelAll.mkX ?_ ?_ ?_ ?_); rotate_left; walk_at "heap"; walk_at "side")
  | ((with_reducible refine LoadJ.locX ?_ ?_ ?_ ?_ ?_); rotate_left; rfl; rfl; rfl)
  | ((with_reducible refine CallKW.kX ?_ ?_ ?_ ?_ ?_); rotate_left; rotate_left; assumption; rfl)
  | ((with_reducible refine I_listX ?_ ?_ ?_ ?_ ?_ ?_); rotate_left; rotate_left; walk_at "heap"; rfl; decide)
  | ((with_reducible refine NewL.mk ?_ ?_); walk_at "side")
  | ((with_reducible refine NewT.mk ?_ ?_); walk_at "side")
  | ((with_reducible refine AttrJ.ownX ?_ ?_ ?_ ?_ ?_ ?_ ?_ ?_ ?_ ?_ ?_ ?_ ?_ ?_ ?_ ?_ ?_); rotate_left; rotate_left; rotate_left; rotate_left; rotate_left; rotate_left; rotate_left; walk_at "heap"; walk_at "heap"; rfl; assumption; rfl; rfl; rfl; rfl; rfl)
  | ((with_reducible refine StoreA.ownX ?_ ?_ ?_ ?_ ?_ ?_ ?_ ?_ ?_ ?_ ?_ ?_ ?_ ?_); rotate_left; rotate_left; rotate_left; rotate_left; rotate_left; walk_at "heap"; walk_at "heap"; assumption; rfl; rfl; rfl; rfl; (first | exact of_decide_eq_true rfl | walk_at "side"))
  | ((with_reducible intro r hr); (try simp only [HM.set_none] at hr); (try obtain ⟨h1, hr⟩ := hr); (try obtain ⟨h2, hr⟩ := hr); (try obtain ⟨h3, hr⟩ := hr); (try obtain ⟨h4, hr⟩ := hr); (try obtain ⟨h5, hr⟩ := hr); (try obtain ⟨h6, hr⟩ := hr); (try obtain ⟨h7, hr⟩ := hr); (try obtain ⟨h8, hr⟩ := hr); (try obtain ⟨h9, hr⟩ := hr); (try obtain ⟨h10, hr⟩ := hr); (try obtain ⟨h11, hr⟩ := hr); (try obtain ⟨h12, hr⟩ := hr); (try obtain ⟨h13, hr⟩ := hr); (try obtain ⟨h14, hr⟩ := hr); (try obtain ⟨h15, hr⟩ := hr)))
local macro_rules | `(tactic| walk_at "side") => `(tactic| first | assumption | decide | omega | (simp only [setAt_length, List.length_append, List.length_cons, List.length_nil, List.length_map]; omega) | (simp only [setAt_length, List.length_append, List.length_cons, List.length_nil, List.length_map] at *; omega))
local macro_rules | `(tactic| walk_at "heap") => `(tactic| first
  | assumption
  | exact HM.set_same _ _ _
  | (refine (HM.set_ne _ _ ?_).trans ?_; walk_at "ne"; walk_at "heap"))
local macro_rules | `(tactic| walk_at "ne") => `(tactic| first
  | assumption
  | (apply Ne.symm; assumption)
  | (refine HM.ne_ofX ?_ ?_ ?_ ?_; rotate_left; rotate_left; assumption; assumption)
  | (apply Ne.symm; refine HM.ne_ofX ?_ ?_ ?_ ?_; rotate_left; rotate_left; assumption; assumption)
  | (refine HM.ne_ofY ?_ ?_ ?_ ?_; rotate_left; rotate_left; assumption; assumption)
  | (apply Ne.symm; refine HM.ne_ofY ?_ ?_ ?_ ?_; rotate_left; rotate_left; assumption; assumption)
  | omega)
local macro_rules | `(tactic| walk_at "run") => `(tactic| repeat walk_at "go")
local macro_rules | `(tactic| walk_at "flat") => `(tactic| first | exact flat_nil _ | exact flat_texts _ _ | exact flat_ints _ _)
local macro_rules | `(tactic| walk_at "inst") => `(tactic| first | assumption | (refine ⟨?_, ?_⟩; walk_at "heap"; walk_at "heap"))
local macro_rules | `(tactic| walk_at "le") => `(tactic| first | exact LM.le_nil _ | (refine LM.le_cons rfl ?_; walk_at "le"))

local macro_rules | `(tactic| walk_at "upd") => `(tactic| first | assumption | exact Upd.refl _ _ | ((with_reducible refine Upd.new ?_ ?_); (first | assumption | (simp only [HM.set_none]; refine ⟨?_, ?_⟩ <;> assumption)); walk_at "upd") | ((with_reducible refine Upd.at ?_ ?_); (first | exact List.mem_cons_self | exact List.mem_cons_of_mem _ List.mem_cons_self | exact List.mem_cons_of_mem _ (List.mem_cons_of_mem _ List.mem_cons_self)); walk_at "upd") | ((with_reducible refine Upd.old ?_ ?_); (first | assumption | (refine Upd.none (by assumption) ?_ (by assumption); simp)); walk_at "upd"))

section
variable {c : FC} {P : Params} {n : Nat} {m : LM} {H : HM} {X : XM}
/-- law 2's drawing state: the list of the draws, and how many are drawn -/
def DrS (H : HM) (d e : Addr) : Prop := d ≠ e ∧ ∃ (i : Nat) (ns : List Int), H d = some (.list [.ref e, VI i]) ∧ H e = some (.list (ns.map VI)) ∧ ns.length ≤ 100
theorem DrS.upd {H H' : HM} {d e : Addr} {l : List Addr} (D : DrS H d e) (u : Upd l H H') (h1 : d ∉ l) (h2 : e ∉ l) : DrS H' d e := by
  obtain ⟨h0, i, ns, hd, he, hn⟩ := D
  exact ⟨h0, i, ns, u _ _ h1 hd, u _ _ h2 he, hn⟩
def marksV : List Value := [VT [27, 91, 51, 49, 109], VT [27, 91, 48, 109], VT [27, 91, 49, 59, 52, 109]]
theorem K_marks {Q : Value → HM → Prop} (O : Ok c (KK P) (n + 1)) (h : ∀ r, H r = none → Q (.ref r) (H.set r (.list marksV))) : CallJ c (.ref 197) [] [] m H Q X := by
  refine CallJ.run O ⟨⟨_, _, _, rfl⟩, rfl, rfl, rfl, rfl, rfl, rfl, rfl, rfl, by decide⟩ (.a0 rfl) rfl ?_
  intro L hL Ok'
  show Exs _ _ [] H _ _
  walk_at "run"
  rename_i r hr
  exact EndJ.retE (h r hr)
theorem K_next {d e : Addr} {k : Int} {Q : Value → HM → Prop} (O : Ok c (KK P) (n + 1)) (D : DrS H d e) (hk : 0 < k)
    (h : ∀ (v : Nat) H', (v : Int) < k → Upd [d] H H' → DrS H' d e → Q (VI v) H') :
    CallJ c (.ref 204) [.ref d, VI k] [] m H Q X := by
  obtain ⟨hde, i, ns, hd, he, hns⟩ := D
  have fm : ∀ x : Int, ∃ v : Nat, x.fmod k = v ∧ (v : Int) < k := fun x => by
    have h1 := Int.fmod_nonneg_of_pos x hk
    exact ⟨(x.fmod k).toNat, (Int.toNat_of_nonneg h1).symm, by rw [Int.toNat_of_nonneg h1]; exact Int.fmod_lt_of_pos x hk⟩
  refine CallJ.run O ⟨⟨_, _, _, rfl⟩, rfl, rfl, rfl, rfl, rfl, rfl, rfl, rfl, by decide⟩ (.a2 fun _ _ => rfl) rfl ?_
  intro L hL Ok'
  show Exs _ _ [("limit", VI k), ("state", .ref d)] H _ _
  with_reducible refine Exs.via (fun m' H' => m' = ([("limit", VI k), ("state", .ref d)] : LM) ∧ H' = H.set d (.list [.ref e, VI ((i + 1 : Nat) : Int)])) ?_ ?_
  · walk_at "run"
    exact ViaJ.mk (by walk_at "le") ⟨rfl, rfl⟩
  rintro _ _ ⟨rfl, q⟩
  rw [q]; clear q
  have hd1 : (H.set d (.list [.ref e, VI ((i + 1 : Nat) : Int)])) d = some (.list [.ref e, VI ((i + 1 : Nat) : Int)]) := HM.set_same _ _ _
  have he1 : (H.set d (.list [.ref e, VI ((i + 1 : Nat) : Int)])) e = some (.list (ns.map VI)) := by rw [HM.set_ne _ _ (Ne.symm hde)]; exact he
  have u : Upd [d] H (H.set d (.list [.ref e, VI ((i + 1 : Nat) : Int)])) := Upd.at (by simp) (Upd.refl _ _)
  have D1 : DrS (H.set d (.list [.ref e, VI ((i + 1 : Nat) : Int)])) d e := ⟨hde, i + 1, ns, hd1, he1, hns⟩
  generalize H.set d (.list [.ref e, VI ((i + 1 : Nat) : Int)]) = H1 at *
  have hl : (ns.map VI).length ≤ 16000000 := by rw [List.length_map]; omega
  walk_at "run"
  rw [List.length_map]
  refine iteD (fun hi => ?_) (fun hi => ?_)
  · walk_at "run"
    exact EndJ.retE (h 0 _ (by omega) u D1)
  · walk_at "run"
    have hi2 : i < ns.length := by omega
    have e1 : ((i + 1 : Nat) : Int) - 1 = (i : Int) := by omega
    rw [e1]
    refine ItemG.list he1 (v := VI ns[i]) ?_ (by omega) ?_
    · unfold at?
      rw [if_pos (by omega), Int.toNat_natCast, List.getElem?_map, List.getElem?_eq_getElem hi2]; rfl
    walk_at "run"
    refine O_mod (by omega) ?_
    walk_at "run"
    obtain ⟨v, e1, e2⟩ := fm ns[i]
    rw [e1]
    exact EndJ.retE (h v _ e2 u D1)
end

section
variable {c : FC} {P : Params} {n : Nat} {m : LM} {H : HM} {X : XM}
/-! ## paragraphs in the heap -/
abbrev FPart := Bool × Nat × List (List (List Nat))
def RowAt (H : HM) (a : Addr) (row : List (List Nat)) : Prop := H a = some (.list (row.map VT))
def RowsAt (H : HM) (rr : Addr) (rows : List (List (List Nat))) : Prop := ∃ as : List Addr, H rr = some (.list (as.map .ref)) ∧ F2 (RowAt H) as rows
def PartAt (H : HM) (a : Addr) (p : FPart) : Prop := ∃ rr, H a = some (.tup [VB p.1, VI p.2.1, .ref rr]) ∧ RowsAt H rr p.2.2
/-- no object of a paragraph -/
structure NoPart (H : HM) (x : Addr) : Prop where
  t : ∀ vs, H x ≠ some (.tup vs)
  r : ∀ as : List Addr, H x ≠ some (.list (as.map .ref))
  w : ∀ row : List (List Nat), H x ≠ some (.list (row.map VT))
theorem F2.mono {α β : Type} {R R' : α → β → Prop} {as : List α} {bs : List β} (h : F2 R as bs) (k : ∀ a b, R a b → R' a b) : F2 R' as bs := by
  induction h with
  | nil => exact .nil
  | cons h _ ih => exact .cons (k _ _ h) ih
theorem RowAt.upd {H H' : HM} {l : List Addr} (u : Upd l H H') (hl : ∀ x ∈ l, NoPart H x) {a : Addr} {row : List (List Nat)} (h : RowAt H a row) : RowAt H' a row := u _ _ (fun q => (hl _ q).w _ h) h
theorem RowsAt.upd {H H' : HM} {l : List Addr} (u : Upd l H H') (hl : ∀ x ∈ l, NoPart H x) {a : Addr} {rows : List (List (List Nat))} (h : RowsAt H a rows) : RowsAt H' a rows := by
  obtain ⟨as, h1, h2⟩ := h
  exact ⟨as, u _ _ (fun q => (hl _ q).r _ h1) h1, h2.mono fun a b => RowAt.upd u hl⟩
theorem PartAt.upd {H H' : HM} {l : List Addr} (u : Upd l H H') (hl : ∀ x ∈ l, NoPart H x) {a : Addr} {p : FPart} (h : PartAt H a p) : PartAt H' a p := by
  obtain ⟨rr, h1, h2⟩ := h
  exact ⟨rr, u _ _ (fun q => (hl _ q).t _ h1) h1, h2.upd u hl⟩
theorem NoPart.draw {d e : Addr} (D : DrS H d e) : NoPart H d := by
  obtain ⟨_, i, ns, hd, _, _⟩ := D
  refine ⟨fun vs q => (by rw [hd] at q; cases q), fun as q => ?_, fun row q => ?_⟩
  · rw [hd] at q
    match as with
    | [] => simp at q
    | [a] => simp at q
    | a :: b :: r => simp only [List.map_cons, Option.some.injEq, AO.list.injEq, List.cons.injEq] at q; exact absurd q.2.1 (by simp [VI])
  · rw [hd] at q
    cases row with
    | nil => simp at q
    | cons a r => simp only [List.map_cons, Option.some.injEq, AO.list.injEq, List.cons.injEq] at q; exact absurd q.1 (by simp [VT])
theorem NoPart.cell {x : Addr} {v : Option Value} (h : H x = some (.cell v)) : NoPart H x := ⟨fun vs q => (by rw [h] at q; cases q), fun as q => (by rw [h] at q; cases q), fun row q => (by rw [h] at q; cases q)⟩
theorem NoPart.raw {x : Addr} {o : Obj} (h : H x = some (.raw o)) : NoPart H x := ⟨fun vs q => (by rw [h] at q; cases q), fun as q => (by rw [h] at q; cases q), fun row q => (by rw [h] at q; cases q)⟩
theorem NoPart.none {x : Addr} (h : H x = Option.none) : NoPart H x := ⟨fun vs q => (by rw [h] at q; cases q), fun as q => (by rw [h] at q; cases q), fun row q => (by rw [h] at q; cases q)⟩

/-- a word -/
def WdN (w : List Nat) : Prop := w ≠ [] ∧ w.length ≤ 5 ∧ ∀ x ∈ w, 97 ≤ x ∧ x ≤ 104
structure FOk (p : FPart) : Prop where
  ins : p.2.1 ≤ 2
  ne : p.2.2 ≠ []
  rne : ∀ row ∈ p.2.2, row ≠ []
  wd : ∀ row ∈ p.2.2, ∀ t ∈ row, WdN t
  ln : p.2.2.flatten.length ≤ 8
theorem flatten_filter (rows : List (List (List Nat))) : (rows.filter fun r => !r.isEmpty).flatten = rows.flatten := by
  induction rows with
  | nil => rfl
  | cons r rs ih =>
    rw [List.filter_cons]
    cases r with
    | nil => exact ih
    | cons x xs =>
      have e : (!(x :: xs).isEmpty) = true := rfl
      rw [if_pos e, List.flatten_cons, List.flatten_cons, ih]
theorem F2.append {α β : Type} {R : α → β → Prop} {as as' : List α} {bs bs' : List β} (h : F2 R as bs) (h' : F2 R as' bs') : F2 R (as ++ as') (bs ++ bs') := by
  induction h with
  | nil => exact h'
  | cons h _ ih => exact .cons h ih
theorem K_par {d e : Addr} {Q : Value → HM → Prop} (O : Ok c (KK P) (n + 2)) (D : DrS H d e)
    (h : ∀ a p H', FOk p → PartAt H' a p → Upd [d] H H' → DrS H' d e → Q (.ref a) H') : CallJ c (.ref 209) [.ref d] [] m H Q X := by
  refine CallJ.run O ⟨⟨_, _, _, rfl⟩, rfl, rfl, rfl, rfl, rfl, rfl, rfl, rfl, by decide⟩ (.a1 fun _ => rfl) rfl ?_
  intro L hL Ok'
  show Exs _ _ [("state", .ref d)] H _ _
  with_reducible refine Exs.via (fun m' H' => ∃ raw : Bool, m' = ([("raw", VB raw), ("state", .ref d)] : LM) ∧ Upd [d] H H' ∧ DrS H' d e) ?_ ?_
  · walk_at "run"
    with_reducible refine K_next (n := n) (by assumption) D (by decide) fun v H1 hv u1 D1 => ?_
    walk_at "run"
    exact ViaJ.mk (by walk_at "le") ⟨_, rfl, u1, D1⟩
  rintro _ H1 ⟨raw, rfl, u1, D1⟩
  with_reducible refine Exs.via (fun m' H' => ∃ ins : Nat, m' = ([("inset", VI ins), ("raw", VB raw), ("state", .ref d)] : LM) ∧ ins ≤ 2 ∧ Upd [d] H H' ∧ DrS H' d e) ?_ ?_
  · walk_at "run"
    with_reducible refine K_next (n := n) (by assumption) D1 (by decide) fun v H2 hv u2 D2 => ?_
    walk_at "run"
    exact ViaJ.mk (by walk_at "le") ⟨v, rfl, by omega, u1.trans u2, D2⟩
  rintro _ H2 ⟨ins, rfl, hins, u2, D2⟩
  have hdn : ∃ o, H d = some o := by obtain ⟨_, i, ns, hd, _, _⟩ := D; exact ⟨_, hd⟩
  obtain ⟨od, hod⟩ := hdn
  with_reducible refine Exs.via (fun m' H' => ∃ r al, m' = ([("rows", .ref r), ("inset", VI ins), ("raw", VB raw), ("state", .ref d)] : LM) ∧ H' r = some (.list [.ref al]) ∧ H' al = some (.list []) ∧ H al = none ∧ H r = none ∧ Upd [d] H H' ∧ DrS H' d e) ?_ ?_
  · walk_at "run"
    rename_i al hal r hr1 hr2
    have nal : al ≠ d := fun q => by
      obtain ⟨_, i, ns, hd, _, _⟩ := D2
      rw [q, hd] at hal; cases hal
    have nr : r ≠ d := fun q => by
      obtain ⟨_, i, ns, hd, _, _⟩ := D2
      rw [q, hd] at hr2; cases hr2
    have hr3 : (H2.set al (.list [])) r = none := HM.set_none.mpr ⟨hr1, hr2⟩
    have u3 : Upd [] H2 ((H2.set al (.list [])).set r (.list [.ref al])) := Upd.new hr3 (Upd.new hal (Upd.refl _ _))
    refine ViaJ.mk (by walk_at "le") ⟨r, al, rfl, HM.set_same _ _ _, by rw [HM.set_ne _ _ (Ne.symm hr1), HM.set_same], Upd.none u2 (by simpa using nal) hal, Upd.none u2 (by simpa using nr) hr2, u2.trans fun a o ha => u3 a o (by simp), D2.upd u3 (by simp) (by simp)⟩
  rintro _ H3 ⟨r, al0, rfl, g1, g2, g3, g4, u3, D3⟩
  clear u1 D1 u2 D2
  with_reducible refine Exs.via (fun m' H' => ∃ as rws, m' = ([("rows", .ref r), ("inset", VI ins), ("raw", VB raw), ("state", .ref d)] : LM) ∧ H' r = some (.list (as.map .ref)) ∧ F2 (RowAt H') as rws ∧ as ≠ [] ∧ as.length ≤ 20 ∧ rws.flatten ≠ [] ∧ rws.flatten.length ≤ 8 ∧ (∀ x ∈ rws, ∀ t ∈ x, WdN t) ∧ Upd [d] H H' ∧ DrS H' d e) ?_ ?_
  · refine Ex.forG Ok'.hh ?_ (fun _ => rfl)
    walk_at "run"
    with_reducible refine K_next (n := n) (by assumption) D3 (by decide) fun cnt H4 hcnt u4 D4 => ?_
    walk_at "run"
    refine C_range1 fun rg o hrg ho => ?_
    have hd3 : ∃ o, H3 d = some o := by obtain ⟨_, i, ns, hd, _, _⟩ := D3; exact ⟨_, hd⟩
    have nrd : r ≠ d := fun q => by rw [q, hod] at g4; cases g4
    have nad : al0 ≠ d := fun q => by rw [q, hod] at g3; cases g3
    have g1' := u4 _ _ (by simpa using nrd) g1
    have g2' := u4 _ _ (by simpa using nad) g2
    refine ⟨_, _, _, _, Src.range (HM.set_same _ _ _) ho (by omega) (by omega) (by omega), fun k m' H' => ∃ ini al rws last, m' = ([("rows", .ref r), ("inset", VI ins), ("raw", VB raw), ("state", .ref d)] : LM) ∧ H' r = some (.list ((ini ++ [al]).map .ref)) ∧ F2 (RowAt H') ini rws ∧ RowAt H' al last ∧ al ∉ ini ∧ (∀ a ∈ ini ++ [al], H a = none) ∧ (ini ++ [al]).length ≤ k + 1 ∧ (rws ++ [last]).flatten.length = k ∧ (∀ x ∈ rws ++ [last], ∀ t ∈ x, WdN t) ∧ Upd [d] H H' ∧ DrS H' d e,
      ⟨_, _, by walk_at "le", HM.le_fresh hrg, [], al0, [], [], rfl, g1', .nil, g2', by simp, by simpa using g3, by simp, rfl, by simp, u3.trans u4, D4⟩, ?_, ?_⟩
    · rintro k x m' H' hx ⟨ini, al, rws, last, rfl, i1, i2, i3, i4, i5, i6, i7, i8, iu, iD⟩
      rw [List.getElem?_map, Option.map_eq_some_iff] at hx
      obtain ⟨k', hk', rfl⟩ := hx
      obtain ⟨q1, q2⟩ := List.getElem?_eq_some_iff.mp hk'
      rw [List.getElem_range] at q2
      subst q2
      rw [List.length_range] at q1
      have hk : k < 8 := by omega
      have hal : H al = none := i5 al (by simp)
      have nald : al ≠ d := fun q => by rw [q, hod] at hal; cases hal
      have hlen : ((ini ++ [al]).map Value.ref).length ≤ 16000000 := by rw [List.length_map]; omega
      have hat : at? ((ini ++ [al]).map Value.ref) ((((ini ++ [al]).map Value.ref).length : Int) - 1) = some (.ref al) := by
        unfold at?
        rw [List.length_map, List.length_append, List.length_singleton, if_pos (by push_cast; omega), List.map_append, show (((ini.length + 1 : Nat) : Int) - 1).toNat = ini.length from by omega, List.getElem?_append_right (by simp)]
        simp
      walk_at "run"
      refine ItemG.list i1 hat (by rw [List.length_map] at *; omega) ?_
      have i3' : H' al = some (.list (last.map VT)) := i3
      walk_at "run"
      have hab : at? [97, 98, 99, 100, 101, 102, 103, 104] (0 + (k : Int)) = some (97 + k) := by
        match k, hk with
        | 0, _ => rfl
        | 1, _ => rfl
        | 2, _ => rfl
        | 3, _ => rfl
        | 4, _ => rfl
        | 5, _ => rfl
        | 6, _ => rfl
        | 7, _ => rfl
        | k + 8, h => omega
      refine ItemG.str hab (by omega) ?_
      walk_at "run"
      with_reducible refine K_next (n := n) (by assumption) iD (by decide) fun b H5 hb u5 D5 => ?_
      walk_at "run"
      have eb : (1 + (b : Int)).toNat = 1 + b := by omega
      refine O_mulT (by omega) (by rw [eb]; simp; omega) ?_
      rw [eb, times_one]
      have j3 : H5 al = some (.list (last.map VT)) := u5 _ _ (by simpa using nald) i3'
      have j1 : H5 r = some (.list ((ini ++ [al]).map .ref)) := u5 _ _ (by simpa using nrd) i1
      have hnp : ∀ x ∈ [d], NoPart H' x := fun x hx => by rw [List.mem_singleton.mp hx]; exact NoPart.draw iD
      have j2 : F2 (RowAt H5) ini rws := i2.mono fun a b => RowAt.upd u5 hnp
      have hll : (last.map VT).length ≤ 16000000 := by
        have : last.length ≤ (rws ++ [last]).flatten.length := by simp
        rw [List.length_map]; omega
      have hll2 : (last.map VT).length < 16000000 := by
        have : last.length ≤ (rws ++ [last]).flatten.length := by simp
        rw [List.length_map]; omega
      walk_at "run"
      have hrne : r ≠ al := fun q => by
        rw [q, j3] at j1
        cases ini with
        | nil =>
          cases last with
          | nil => simp at j1
          | cons w ws => simp [VT] at j1
        | cons y ys =>
          cases last with
          | nil => simp at j1
          | cons w ws => simp [VT] at j1
      have newl : (last.map VT ++ [VT (List.replicate (1 + b) (97 + k))]) = (last ++ [List.replicate (1 + b) (97 + k)]).map VT := by rw [List.map_append]; rfl
      rw [newl]
      have u6 : Upd [al] H5 (H5.set al (.list ((last ++ [List.replicate (1 + b) (97 + k)]).map VT))) := Upd.at (by simp) (Upd.refl _ _)
      have uH6 : Upd [d] H (H5.set al (.list ((last ++ [List.replicate (1 + b) (97 + k)]).map VT))) := Upd.old hal (iu.trans u5)
      have k1 := u6 _ _ (by simpa using hrne) j1
      have k2 : F2 (RowAt (H5.set al (.list ((last ++ [List.replicate (1 + b) (97 + k)]).map VT)))) ini rws := by
        clear i2 newl
        have : ∀ {as : List Addr} {bs : List (List (List Nat))}, F2 (RowAt H5) as bs → al ∉ as → F2 (RowAt (H5.set al (.list ((last ++ [List.replicate (1 + b) (97 + k)]).map VT)))) as bs := by
          intro as bs hh
          induction hh with
          | nil => intro _; exact .nil
          | cons h1 _ ih =>
            intro hn
            simp only [List.mem_cons, not_or] at hn
            exact .cons (u6 _ _ (by simpa using fun q => hn.1 q.symm) h1) (ih hn.2)
        exact this j2 i4
      have k3 : RowAt (H5.set al (.list ((last ++ [List.replicate (1 + b) (97 + k)]).map VT))) al (last ++ [List.replicate (1 + b) (97 + k)]) := HM.set_same _ _ _
      have D6 : DrS (H5.set al (.list ((last ++ [List.replicate (1 + b) (97 + k)]).map VT))) d e := by
        refine D5.upd u6 (by simpa using Ne.symm nald) ?_
        simp only [List.mem_singleton]
        intro q
        obtain ⟨_, i, ns, _, he, _⟩ := D
        rw [q, hal] at he; cases he
      have k7 : (rws ++ [last ++ [List.replicate (1 + b) (97 + k)]]).flatten.length = k + 1 := by
        simp only [List.flatten_append, List.length_append, List.flatten_cons, List.flatten_nil, List.append_nil, List.length_singleton] at i7 ⊢
        omega
      have k8 : ∀ x ∈ rws ++ [last ++ [List.replicate (1 + b) (97 + k)]], ∀ t ∈ x, WdN t := by
        intro x hx t ht
        rcases List.mem_append.mp hx with hx | hx
        · exact i8 x (List.mem_append_left _ hx) t ht
        · rw [List.mem_singleton.mp hx] at ht
          rcases List.mem_append.mp ht with ht | ht
          · exact i8 last (by simp) t ht
          · rw [List.mem_singleton.mp ht]
            refine ⟨by simp, by simp; omega, fun y hy => ?_⟩
            rw [(List.mem_replicate.mp hy).2]; omega
      generalize H5.set al (.list ((last ++ [List.replicate (1 + b) (97 + k)]).map VT)) = H6 at *
      walk_at "run"
      with_reducible refine K_next (n := n) (by assumption) D6 (by decide) fun b2 H7 hb2 u7 D7 => ?_
      have l1 : H7 r = some (.list ((ini ++ [al]).map .ref)) := u7 _ _ (by simpa using nrd) k1
      have hnp6 : ∀ x ∈ [d], NoPart H6 x := fun x hx => by rw [List.mem_singleton.mp hx]; exact NoPart.draw D6
      have l2 : F2 (RowAt H7) ini rws := k2.mono fun a b => RowAt.upd u7 hnp6
      have l3 : RowAt H7 al _ := RowAt.upd u7 hnp6 k3
      have hlen2 : ((ini ++ [al]).map Value.ref).length < 16000000 := by rw [List.length_map]; omega
      walk_at "run"
      refine iteD (fun hi => ?_) (fun hi => ?_)
      · walk_at "run"
        rename_i q hq
        have hqr : q ≠ r := fun z => by rw [z, l1] at hq; cases hq
        have hqd : q ≠ d := fun z => by obtain ⟨_, i, ns, hd, _, _⟩ := D7; rw [z, hd] at hq; cases hq
        have hqH : H q = none := Upd.none (uH6.trans u7) (by simpa using hqd) hq
        have hq2 : ∀ a ∈ ini ++ [al], q ≠ a := by
          intro a ha z
          rcases List.mem_append.mp ha with ha | ha
          · have : ∀ {as : List Addr} {bs : List (List (List Nat))}, F2 (RowAt H7) as bs → a ∈ as → H7 a ≠ none := by
              intro as bs hh
              induction hh with
              | nil => intro h; cases h
              | cons h1 _ ih =>
                intro hm
                rcases List.mem_cons.mp hm with rfl | hm
                · intro z; rw [h1] at z; cases z
                · exact ih hm
            exact this l2 ha (by rw [← z]; exact hq)
          · rw [z, List.mem_singleton.mp ha, l3] at hq; cases hq
        have u8 : Upd [r] H7 ((H7.set q (.list [])).set r (.list ((ini ++ [al]).map .ref ++ [.ref q]))) := Upd.at (by simp) (Upd.new hq (Upd.refl _ _))
        have hnr : ∀ a ∈ ini ++ [al], a ≠ r := by
          intro a ha z
          have := i5 a ha
          rcases List.mem_append.mp ha with ha | ha
          · have : ∀ {as : List Addr} {bs : List (List (List Nat))}, F2 (RowAt H7) as bs → a ∈ as → ∃ row, RowAt H7 a row := by
              intro as bs hh
              induction hh with
              | nil => intro h; cases h
              | cons h1 _ ih =>
                intro hm
                rcases List.mem_cons.mp hm with rfl | hm
                · exact ⟨_, h1⟩
                · exact ih hm
            obtain ⟨row, hrow⟩ := this l2 ha
            have hrow : H7 a = _ := hrow
            rw [z, l1] at hrow
            cases ini with
            | nil => cases row <;> simp [VT] at hrow
            | cons y ys => cases row <;> simp [VT] at hrow
          · exact hrne (by rw [← z, List.mem_singleton.mp ha])
        refine ⟨_, _, by walk_at "le", HM.le.refl _, ini ++ [al], q, rws ++ [last ++ [List.replicate (1 + b) (97 + k)]], [], rfl, ?_, F2.snoc ?_ (u8 _ _ (by simpa using hnr al (by simp)) l3), ?_, fun z => hq2 q z rfl, ?_, ?_, ?_, ?_, ?_, ?_⟩
        · rw [HM.set_same, List.map_append (l₁ := ini ++ [al])]; rfl
        · have : ∀ {as : List Addr} {bs : List (List (List Nat))}, F2 (RowAt H7) as bs → (∀ a ∈ as, a ≠ r) → F2 (RowAt ((H7.set q (.list [])).set r (.list ((ini ++ [al]).map .ref ++ [.ref q])))) as bs := by
            intro as bs hh
            induction hh with
            | nil => intro _; exact .nil
            | cons h1 _ ih =>
              intro hn
              exact .cons (u8 _ _ (by simpa using hn _ List.mem_cons_self) h1) (ih fun a ha => hn a (List.mem_cons_of_mem _ ha))
          exact this l2 fun a ha => hnr a (List.mem_append_left _ ha)
        · show _ = _
          rw [HM.set_ne _ _ hqr, HM.set_same]; rfl
        · intro a ha
          rcases List.mem_append.mp ha with ha | ha
          · exact i5 a ha
          · rw [List.mem_singleton.mp ha]; exact hqH
        · simp only [List.length_append, List.length_singleton] at i6 ⊢; omega
        · rw [List.flatten_append, List.length_append, k7]; rfl
        · intro x hx t ht
          rcases List.mem_append.mp hx with hx | hx
          · exact k8 x hx t ht
          · rw [List.mem_singleton.mp hx] at ht; cases ht
        · exact Upd.old g4 (Upd.old hqH (uH6.trans u7))
        · refine D7.upd u8 (by simpa using Ne.symm nrd) ?_
          simp only [List.mem_singleton]
          intro q
          obtain ⟨_, i, ns, _, he, _⟩ := D
          rw [q, g4] at he; cases he
      · walk_at "run"
        exact ⟨_, _, by walk_at "le", HM.le.refl _, ini, al, rws, _, rfl, l1, l2, l3, i4, i5, by omega, k7, k8, uH6.trans u7, D7⟩
    · rintro m' H' ⟨ini, al, rws, last, rfl, i1, i2, i3, i4, i5, i6, i7, i8, iu, iD⟩
      rw [List.length_map, List.length_range] at i6 i7
      refine ViaJ.mk (by walk_at "le") ⟨ini ++ [al], rws ++ [last], rfl, i1, F2.snoc i2 i3, by simp, by omega, fun q => ?_, by omega, i8, iu, iD⟩
      rw [q] at i7
      simp only [List.length_nil] at i7
      omega
  rintro _ H4 ⟨as, rws, rfl, g1, g2, g3, g5, g6, g7, g8, u4, D4⟩
  have nr : ∀ a row, RowAt H4 a row → a ≠ r := by
    intro a row hrow z
    have hrow : H4 a = _ := hrow
    rw [z, g1] at hrow
    cases as with
    | nil => exact g3 rfl
    | cons y ys => cases row <;> simp [VT] at hrow
  walk_at "run"
  refine Ev.compG Ok'.hh rfl rfl (by decide) (by decide) ?_ (fun _ => rfl)
  walk_at "run"
  refine ⟨_, _, _, _, Src.list g1 (by rw [List.length_map]; omega), fun ys H' => H' = H4.del r ∧ ∃ bs : List Addr, ys = bs.map .ref ∧ F2 (RowAt H4) bs (rws.filter fun x => !x.isEmpty), fun C => ?_, ?_⟩
  · have Oc := Ok'.comp (scope := { kind := ScopeKind.function, names := [(Str.ofString ".0", NameKind.local), (Str.ofString "row", NameKind.local), (Str.ofString "len", NameKind.globalImplicit)], isGenerator := false, isCoroutine := false }) rfl [] C
    with_reducible refine Turns.one (fun k ys m' H' => H' = H4.del r ∧ m' = ([] : LM) ∧ ∃ bs : List Addr, ys = bs.map .ref ∧ bs.length ≤ k ∧ F2 (RowAt H4) bs ((rws.take k).filter fun x => !x.isEmpty)) ?_ ?_ ?_
    · exact Keep.here ⟨rfl, rfl, [], rfl, Nat.le_refl _, .nil⟩
    · rintro k x ys m' H' hx ⟨rfl, rfl, bs, rfl, hbl, hb⟩
      rw [List.getElem?_map, Option.map_eq_some_iff] at hx
      obtain ⟨a, ha, rfl⟩ := hx
      have hk : k < 20 := by have := (List.getElem?_eq_some_iff.mp ha).1; omega
      obtain ⟨row, hr, hrow⟩ := g2.get ha
      have hdel : (H4.del r) a = some (.list (row.map VT)) := by rw [HM.del_ne _ (nr a row hrow)]; exact hrow
      have hrl : (row.map VT).length ≤ 16000000 := by
        have h1 : row ∈ rws := List.mem_of_getElem? hr
        have h2 : row.length ≤ rws.flatten.length := by
          obtain ⟨s, t, e⟩ := List.append_of_mem h1
          rw [e]; simp; omega
        rw [List.length_map]; omega
      have htk : (rws.take (k + 1)).filter (fun x => !x.isEmpty) = (rws.take k).filter (fun x => !x.isEmpty) ++ (if (!row.isEmpty) = true then [row] else []) := by
        rw [List.take_add_one, hr, List.filter_append]
        congr 1
        simp only [Option.toList_some, List.filter_cons, List.filter_nil]
      walk_at "run"
      refine TestsJ.one ?_
      walk_at "run"
      have hd : decide ((0 : Int) < ((row.map VT).length : Int)) = !row.isEmpty := by
        rw [List.length_map]
        cases row with
        | nil => rfl
        | cons y ys => simp
      rw [hd]
      cases hb0 : (!row.isEmpty) with
      | true =>
        rw [hb0, if_pos rfl] at htk
        rw [if_pos rfl]
        refine ⟨by rw [List.length_map]; omega, ?_⟩
        walk_at "run"
        refine ⟨_, _, by walk_at "le", HM.le.refl _, rfl, rfl, bs ++ [a], by rw [List.map_append]; rfl, by rw [List.length_append, List.length_singleton]; omega, ?_⟩
        rw [htk]; exact hb.snoc hrow
      | false =>
        rw [hb0, if_neg Bool.false_ne_true, List.append_nil] at htk
        rw [if_neg Bool.false_ne_true]
        exact ⟨_, _, by walk_at "le", HM.le.refl _, rfl, rfl, bs, rfl, by omega, by rw [htk]; exact hb⟩
    · rintro ys m' H' ⟨rfl, rfl, bs, rfl, hbl, hb⟩
      rw [List.length_map, g2.len, List.take_length] at hb
      exact ⟨rfl, bs, rfl, hb⟩
  · rintro D ys H' hD1 hD2 ⟨rfl, bs, rfl, hb⟩
    have nDr : D ≠ r := fun q => by rw [q, g1] at hD1; cases hD1
    have u5 : Upd [] H4 (((H4.del r).set D (.list (bs.map .ref))).set r (.list (as.map .ref))) := fun b o _ eb => by
      by_cases q : b = r
      · rw [q, HM.set_same, ← g1, ← q]; exact eb
      · rw [HM.set_ne _ _ q, HM.set_ne _ _ (HM.ne_of hD1 eb), HM.del_ne _ q]; exact eb
    have gD : (((H4.del r).set D (.list (bs.map .ref))).set r (.list (as.map .ref))) D = some (.list (bs.map .ref)) := by rw [HM.set_ne _ _ nDr, HM.set_same]
    generalize (((H4.del r).set D (.list (bs.map .ref))).set r (.list (as.map .ref))) = H5 at *
    walk_at "run"
    rename_i t ht
    have u6 : Upd [] H5 (H5.set t (.tup [VB raw, VI ins, .ref D])) := Upd.new ht (Upd.refl _ _)
    have u7 := u5.trans u6
    refine EndJ.retE (h t (raw, ins, rws.filter fun x => !x.isEmpty) _ ⟨hins, ?_, ?_, ?_, ?_⟩ ⟨D, HM.set_same _ _ _, bs, u6 _ _ (by simp) gD, hb.mono fun a b => RowAt.upd u7 (by simp)⟩ (u4.trans fun a o ha => u7 a o (by simp)) (D4.upd u7 (by simp) (by simp)))
    · intro q
      have := flatten_filter rws
      have q : (rws.filter fun x => !x.isEmpty) = [] := q
      rw [q] at this
      exact g6 this.symm
    · intro row hrow q
      have := (List.mem_filter.mp hrow).2
      rw [q] at this; cases this
    · intro row hrow
      exact g8 row (List.mem_filter.mp hrow).1
    · show (rws.filter fun x => !x.isEmpty).flatten.length ≤ 8
      rw [flatten_filter]; exact g7
end

section
variable {c : FC} {P : Params} {n : Nat} {m : LM} {H : HM} {X : XM}
theorem Upd.back {l : List Addr} {H H' : HM} {a : Addr} {o : AO} (u : Upd (a :: l) H H') (h : H a = some o) : Upd l H (H'.set a o) := fun b x hb e => by
  by_cases q : b = a
  · subst q; rw [HM.set_same, ← h]; exact e
  · rw [HM.set_ne _ _ q]; exact u b x (by simp only [List.mem_cons, not_or]; exact ⟨q, hb⟩) e
/-! ## colours -/
def colW (pick : Nat) (w : List Nat) : List Tk :=
  if pick = 1 then [.es [51, 49]] ++ plain w ++ [.es [48]] else if pick = 2 then plain (w.take 1) ++ [.es [49, 59, 52]] ++ plain (w.drop 1) ++ [.es [48]] else plain w
def colRow (cs : List Nat) : Nat → List (List Nat) → List (List Tk)
  | _, [] => []
  | k, w :: r => colW (cs.getD (k % 4) 0) w :: colRow cs (k + 1) r
def colRows (cs : List Nat) : Nat → List (List (List Nat)) → List (List (List Tk))
  | _, [] => []
  | k, row :: r => colRow cs k row :: colRows cs (k + row.length) r
theorem colRow_snoc (cs : List Nat) : ∀ (r : List (List Nat)) (k : Nat) (w : List Nat), colRow cs k (r ++ [w]) = colRow cs k r ++ [colW (cs.getD ((k + r.length) % 4) 0) w]
  | [], k, w => rfl
  | x :: r, k, w => by
    show colW _ x :: colRow cs (k + 1) (r ++ [w]) = _
    rw [colRow_snoc cs r (k + 1) w, List.length_cons, show k + 1 + r.length = k + (r.length + 1) from by omega]; rfl
theorem colRows_snoc (cs : List Nat) : ∀ (rs : List (List (List Nat))) (k : Nat) (row : List (List Nat)), colRows cs k (rs ++ [row]) = colRows cs k rs ++ [colRow cs (k + rs.flatten.length) row]
  | [], k, row => rfl
  | x :: r, k, row => by
    show colRow cs k x :: colRows cs (k + x.length) (r ++ [row]) = _
    rw [colRows_snoc cs r (k + x.length) row, List.flatten_cons, List.length_append, show k + x.length + r.flatten.length = k + (x.length + r.flatten.length) from by omega]; rfl
theorem colRow_len (cs : List Nat) : ∀ (r : List (List Nat)) (k : Nat), (colRow cs k r).length = r.length
  | [], k => rfl
  | x :: r, k => by
    show (colW _ x :: colRow cs (k + 1) r).length = _
    rw [List.length_cons, colRow_len cs r (k + 1), List.length_cons]
theorem colRows_len (cs : List Nat) : ∀ (r : List (List (List Nat))) (k : Nat), (colRows cs k r).length = r.length
  | [], k => rfl
  | x :: r, k => by
    show (colRow cs k x :: colRows cs (k + x.length) r).length = _
    rw [List.length_cons, colRows_len cs r _, List.length_cons]
def flatRows (rows : List (List (List Tk))) : List (List (List Nat)) := rows.map fun row => row.map flatT
theorem flatRows_snoc (rows : List (List (List Tk))) (row : List (List Tk)) : flatRows (rows ++ [row]) = flatRows rows ++ [row.map flatT] := by unfold flatRows; rw [List.map_append]; rfl
theorem take_flat_len {rows : List (List (List Nat))} (k : Nat) : (rows.take k).flatten.length ≤ rows.flatten.length := by
  conv => rhs; rw [← List.take_append_drop k rows]
  rw [List.flatten_append, List.length_append]; omega
theorem mem_flat_len {rows : List (List (List Nat))} {row : List (List Nat)} (h : row ∈ rows) : row.length ≤ rows.flatten.length := by
  obtain ⟨s, t, e⟩ := List.append_of_mem h
  rw [e]; simp; omega
theorem rows_len {rows : List (List (List Nat))} (h : ∀ row ∈ rows, row ≠ []) : rows.length ≤ rows.flatten.length := by
  induction rows with
  | nil => exact Nat.le_refl _
  | cons r rs ih =>
    have h1 := ih fun x hx => h x (List.mem_cons_of_mem _ hx)
    have h2 : 0 < r.length := List.length_pos_iff.mpr (h r (by simp))
    rw [List.flatten_cons, List.length_append, List.length_cons]; omega
theorem ref_ne_txt {H : HM} {a b : Addr} {as : List Addr} {row : List (List Nat)} (h1 : H a = some (.list (as.map .ref))) (h2 : H b = some (.list (row.map VT))) (hn : row ≠ []) : a ≠ b := by
  rintro rfl
  rw [h1] at h2
  cases row with
  | nil => exact hn rfl
  | cons w ws => cases as <;> simp [VT] at h2
theorem int_ne_txt {H : HM} {a b : Addr} {cs : List Nat} {row : List (List Nat)} (h1 : H a = some (.list (cs.map fun (x : Nat) => VI x))) (h2 : H b = some (.list (row.map VT))) (hn : row ≠ []) : a ≠ b := by
  rintro rfl
  rw [h1] at h2
  cases row with
  | nil => exact hn rfl
  | cons w ws => cases cs <;> simp [VT, VI] at h2
theorem int_ne_ref {H : HM} {a b : Addr} {cs : List Nat} {as : List Addr} (h1 : H a = some (.list (cs.map fun (x : Nat) => VI x))) (h2 : H b = some (.list (as.map .ref))) (hn : cs ≠ []) : a ≠ b := by
  rintro rfl
  rw [h1] at h2
  cases cs with
  | nil => exact hn rfl
  | cons w ws => cases as <;> simp [VI] at h2
theorem F2.updAll {H H' : HM} {as : List Addr} {rows : List (List (List Nat))} (h : F2 (RowAt H) as rows) (k : ∀ a row, a ∈ as → RowAt H a row → RowAt H' a row) : F2 (RowAt H') as rows := by
  induction h with
  | nil => exact .nil
  | cons h _ ih => exact .cons (k _ _ List.mem_cons_self h) (ih fun a row ha => k a row (List.mem_cons_of_mem _ ha))
theorem F2.mem {H : HM} {as : List Addr} {rows : List (List (List Nat))} (h : F2 (RowAt H) as rows) : ∀ a ∈ as, ∃ row, RowAt H a row := by
  induction h with
  | nil => intro a h; cases h
  | cons h1 _ ih =>
    intro a hm
    rcases List.mem_cons.mp hm with rfl | hm
    · exact ⟨_, h1⟩
    · exact ih a hm
theorem K_coloured {rr cr : Addr} {rows : List (List (List Nat))} {cs : List Nat} {Q : Value → HM → Prop} (O : Ok c (KK P) (n + 2)) (hr : RowsAt H rr rows) (hc : H cr = some (.list (cs.map fun (x : Nat) => VI x))) (hcs : cs.length = 4)
    (hne : ∀ row ∈ rows, row ≠ []) (hwd : ∀ row ∈ rows, ∀ t ∈ row, WdN t) (hln : rows.flatten.length ≤ 8)
    (h : ∀ r' H', Upd [] H H' → RowsAt H' r' (flatRows (colRows cs 0 rows)) → Q (.ref r') H') : CallJ c (.ref 216) [.ref rr, .ref cr] [] m H Q X := by
  obtain ⟨as, hr1, hr2⟩ := hr
  have hasl : as.length = rows.length := hr2.len
  have hrl := rows_len hne
  have ncr : cr ≠ rr := int_ne_ref hc hr1 (by intro q; rw [q] at hcs; cases hcs)
  refine CallJ.run O ⟨⟨_, _, _, rfl⟩, rfl, rfl, rfl, rfl, rfl, rfl, rfl, rfl, by decide⟩ (.a2 fun _ _ => rfl) rfl ?_
  intro L hL Ok'
  show Exs _ _ [("colours", .ref cr), ("rows", .ref rr)] H _ _
  walk_at "run"
  rename_i md hmd
  have nmd : ∀ {b o}, H b = some o → b ≠ md := fun e => HM.ne_of hmd e
  with_reducible refine Ex.via (fun m' H' => ∃ bs, m' = ([("made", .ref md)] : LM) ∧ Upd [] H H' ∧ H' md = some (.list (bs.map .ref)) ∧ F2 (RowAt H') bs (flatRows (colRows cs 0 rows))) ?_ ?_
  · refine Ex.forGN Ok'.hh ?_ (fun _ => rfl)
    walk_at "run"
    have hr1' : (H.set md (.list [])) rr = some (.list (as.map .ref)) := by rw [HM.set_ne _ _ (nmd hr1)]; exact hr1
    refine ForJN.list hr1' (by rw [List.length_map]; omega) (fun j m' H' => ∃ bs, m' = ([("k", VI ((rows.take j).flatten.length : Nat)), ("made", .ref md), ("colours", .ref cr)] : LM) ∧ Upd [rr] H H' ∧ H' md = some (.list (bs.map .ref)) ∧ bs.length ≤ j ∧ F2 (RowAt H') bs (flatRows (colRows cs 0 (rows.take j))))
      ⟨_, _, by walk_at "le", HM.le.refl _, [], rfl, Upd.delAt (by simp) (Upd.new hmd (Upd.refl _ _)), by rw [HM.del_ne _ (Ne.symm (nmd hr1)), HM.set_same]; rfl, Nat.le_refl _, .nil⟩ ?_ ?_
    · rintro j x m' H' hx hn ⟨bs, rfl, u, g1, gb, g2⟩
      rw [List.getElem?_map, Option.map_eq_some_iff] at hx
      obtain ⟨a, ha, rfl⟩ := hx
      have hj : j < 8 := by have := (List.getElem?_eq_some_iff.mp ha).1; omega
      obtain ⟨row, hrow, hat⟩ := hr2.get ha
      have hrm : row ∈ rows := List.mem_of_getElem? hrow
      have hrn := hne row hrm
      have hrw := hwd row hrm
      have hrlen := mem_flat_len hrm
      have nar : a ≠ rr := Ne.symm (ref_ne_txt hr1 hat hrn)
      have hat' : H' a = some (.list (row.map VT)) := u _ _ (by simpa using nar) hat
      have hc' : H' cr = some (.list (cs.map fun (x : Nat) => VI x)) := u _ _ (by simpa using ncr) hc
      have hk0 := take_flat_len (rows := rows) j
      have htk : rows.take (j + 1) = rows.take j ++ [row] := by rw [List.take_add_one, hrow]; rfl
      walk_at "run"
      rename_i wr hwr
      have hwra : wr ≠ a := Ne.symm (HM.ne_of hwr hat')
      have hwrm : wr ≠ md := Ne.symm (HM.ne_of hwr g1)
      have hwrc : wr ≠ cr := Ne.symm (HM.ne_of hwr hc')
      generalize hk0e : (rows.take j).flatten.length = k0 at *
      with_reducible refine Ex.via (fun m2 H2 => m2 = ([("k", VI ((k0 + row.length : Nat) : Int)), ("words", .ref wr), ("made", .ref md), ("colours", .ref cr)] : LM) ∧ Upd [wr] H' H2 ∧ H2 wr = some (.list ((colRow cs k0 row).map fun t => VT (flatT t)))) ?_ ?_
      · refine Ex.forGN Ok'.hh ?_ (fun _ => rfl)
        walk_at "run"
        have hat2 : (H'.set wr (.list [])) a = some (.list (row.map VT)) := by rw [HM.set_ne _ _ (Ne.symm hwra)]; exact hat'
        refine ForJN.list hat2 (by rw [List.length_map]; omega) (fun i m2 H2 => m2 = ([("k", VI ((k0 + i : Nat) : Int)), ("words", .ref wr), ("made", .ref md), ("colours", .ref cr)] : LM) ∧ Upd [a, wr] H' H2 ∧ H2 wr = some (.list ((colRow cs k0 (row.take i)).map fun t => VT (flatT t))))
          ⟨_, _, by walk_at "le", HM.le.refl _, rfl, Upd.delAt (by simp) (Upd.at (by simp) (Upd.refl _ _)), by rw [HM.del_ne _ hwra, HM.set_same]; rfl⟩ ?_ ?_
        · rintro i x m2 H2 hx hn2 ⟨rfl, u2, f1⟩
          rw [List.getElem?_map, Option.map_eq_some_iff] at hx
          obtain ⟨w, hw, rfl⟩ := hx
          have hi : i < row.length := (List.getElem?_eq_some_iff.mp hw).1
          obtain ⟨w1, w2, w3⟩ := hrw w (List.mem_of_getElem? hw)
          have hca : cr ≠ a := int_ne_txt hc' hat' hrn
          have hc2 : H2 cr = some (.list (cs.map fun (x : Nat) => VI x)) := u2 _ _ (by simp [hca, Ne.symm hwrc]) hc'
          have hcl : (cs.map fun (x : Nat) => VI x).length ≤ 16000000 := by rw [List.length_map]; omega
          have hpk : ∃ p, at? (cs.map fun (x : Nat) => VI x) (((k0 + i : Nat) : Int).fmod ((cs.map fun (x : Nat) => VI x).length : Int)) = some (VI (p : Nat)) ∧ p = cs.getD ((k0 + i) % 4) 0 := by
            rw [List.length_map, hcs]
            have e : ((k0 + i : Nat) : Int).fmod ((4 : Nat) : Int) = (((k0 + i) % 4 : Nat) : Int) := by rw [Int.fmod_eq_emod_of_nonneg _ (by decide)]; rfl
            rw [e]
            have hlt : (k0 + i) % 4 < cs.length := by omega
            refine ⟨cs[(k0 + i) % 4], ?_, by rw [List.getD_eq_getElem?_getD, List.getElem?_eq_getElem hlt]; rfl⟩
            unfold at?
            rw [if_pos (by omega), Int.toNat_natCast, List.getElem?_map, List.getElem?_eq_getElem hlt]; rfl
          obtain ⟨p, hp1, hp2⟩ := hpk
          have hcol : row.take (i + 1) = row.take i ++ [w] := by rw [List.take_add_one, hw]; rfl
          have hcr : colRow cs k0 (row.take (i + 1)) = colRow cs k0 (row.take i) ++ [colW p w] := by
            rw [hcol, colRow_snoc, List.length_take, Nat.min_eq_left (by omega), hp2]
          have hll : ((colRow cs k0 (row.take i)).map fun t => VT (flatT t)).length < 16000000 := by
            rw [List.length_map, colRow_len, List.length_take]; omega
          have fin : ∀ (H3 : HM) (m3 : LM) (z : List Nat), Upd [a, wr] H' H3 → H3 wr = some (.list ((colRow cs k0 (row.take i)).map fun t => VT (flatT t))) → flatT (colW p w) = z → LM.le ([("k", VI ((k0 + (i + 1) : Nat) : Int)), ("words", .ref wr), ("made", .ref md), ("colours", .ref cr)] : LM) m3 →
              Keep (fun m2 H2 => m2 = ([("k", VI ((k0 + (i + 1) : Nat) : Int)), ("words", .ref wr), ("made", .ref md), ("colours", .ref cr)] : LM) ∧ Upd [a, wr] H' H2 ∧ H2 wr = some (.list ((colRow cs k0 (row.take (i + 1))).map fun t => VT (flatT t)))) m3 (H3.set wr (.list (((colRow cs k0 (row.take i)).map fun t => VT (flatT t)) ++ [VT z]))) := by
            intro H3 m3 z z1 z2 z3 z4
            refine ⟨_, _, z4, HM.le.refl _, rfl, Upd.at (by simp) z1, ?_⟩
            rw [HM.set_same, hcr, List.map_append, ← z3]; rfl
          have ek : ((k0 + i : Nat) : Int) + 1 = ((k0 + (i + 1) : Nat) : Int) := by omega
          walk_at "run"
          refine O_mod (by rw [List.length_map, hcs]; decide) ?_
          walk_at "run"
          refine ItemG.list hc2 hp1 (by
            rw [List.length_map, hcs, Int.fmod_eq_emod_of_nonneg _ (by decide)]
            omega) ?_
          walk_at "run"
          rw [ek]
          walk_at "run"
          refine iteD (fun h1 => ?_) (fun h1 => ?_)
          · have e1 : flatT (colW p w) = [27, 91, 51, 49, 109] ++ w ++ [27, 91, 48, 109] := by
              have : p = 1 := by omega
              unfold colW
              rw [if_pos this, flatT_append, flatT_append, flatT_plain]; rfl
            walk_at "run"
            with_reducible refine K_marks (n := n) (by assumption) fun q hq => ?_
            walk_at "run"
            with_reducible refine K_marks (n := n) (by assumption) fun q2 hq2 => ?_
            obtain ⟨hq3, hq4⟩ := HM.set_none.mp hq2
            have f2 : ((H2.set q (.list marksV)).set q2 (.list marksV)) wr = some (.list ((colRow cs k0 (row.take i)).map fun t => VT (flatT t))) := by
              rw [HM.set_ne _ _ (HM.ne_of hq4 f1), HM.set_ne _ _ (HM.ne_of hq f1)]; exact f1
            have f3 : Upd [a, wr] H' ((H2.set q (.list marksV)).set q2 (.list marksV)) := Upd.new hq2 (Upd.new hq u2)
            walk_at "run"
            exact fin _ _ _ f3 f2 e1 (by walk_at "le")
          · walk_at "run"
            refine iteD (fun h2 => ?_) (fun h2 => ?_)
            · have e1 : flatT (colW p w) = w.take 1 ++ [27, 91, 49, 59, 52, 109] ++ w.drop 1 ++ [27, 91, 48, 109] := by
                have : p = 2 := by omega
                unfold colW
                rw [if_neg (by omega), if_pos this, flatT_append, flatT_append, flatT_append, flatT_plain, flatT_plain]; rfl
              have l1 : (w.take 1).length ≤ 5 := by rw [List.length_take]; omega
              have l2 : (w.drop 1).length ≤ 5 := by rw [List.length_drop]; omega
              walk_at "run"
              refine SliceG.str .non (Bnd.ofInt (by decide)) (by omega) ?_
              rw [show cut w none (some (1 : Int).toNat) = w.take 1 from rfl]
              walk_at "run"
              with_reducible refine K_marks (n := n) (by assumption) fun q hq => ?_
              walk_at "run"
              refine SliceG.str (Bnd.ofInt (by decide)) .non (by omega) ?_
              rw [show cut w (some (1 : Int).toNat) none = w.drop 1 from rfl]
              walk_at "run"
              with_reducible refine K_marks (n := n) (by assumption) fun q2 hq2 => ?_
              obtain ⟨hq3, hq4⟩ := HM.set_none.mp hq2
              have f2 : ((H2.set q (.list marksV)).set q2 (.list marksV)) wr = some (.list ((colRow cs k0 (row.take i)).map fun t => VT (flatT t))) := by
                rw [HM.set_ne _ _ (HM.ne_of hq4 f1), HM.set_ne _ _ (HM.ne_of hq f1)]; exact f1
              have f3 : Upd [a, wr] H' ((H2.set q (.list marksV)).set q2 (.list marksV)) := Upd.new hq2 (Upd.new hq u2)
              walk_at "run"
              exact fin _ _ _ f3 f2 e1 (by walk_at "le")
            · have e1 : flatT (colW p w) = w := by
                unfold colW
                rw [if_neg (by omega), if_neg (by omega), flatT_plain]
              walk_at "run"
              exact fin _ _ _ u2 f1 e1 (by walk_at "le")
        · rintro m2 H2 hn2 ⟨rfl, u2, f1⟩
          rw [List.length_map, List.take_length] at f1
          rw [List.length_map]
          refine ViaJ.mk (by walk_at "le") ⟨rfl, Upd.back u2 hat', ?_⟩
          rw [HM.set_ne _ _ hwra]; exact f1
      rintro _ H3 ⟨rfl, u3, f1⟩
      have gmd : H3 md = some (.list (bs.map .ref)) := u3 _ _ (by simpa using Ne.symm hwrm) g1
      have hbl : (bs.map Value.ref).length ≤ 16000000 := by rw [List.length_map]; omega
      walk_at "run"
      have ecr : flatRows (colRows cs 0 (rows.take (j + 1))) = flatRows (colRows cs 0 (rows.take j)) ++ [(colRow cs k0 row).map flatT] := by
        rw [htk, colRows_snoc, flatRows_snoc, hk0e, Nat.zero_add]
      have ekk : (rows.take (j + 1)).flatten.length = k0 + row.length := by rw [htk, List.flatten_append, List.length_append, hk0e]; simp
      have u4 : Upd [rr] H H3 := fun b o hb e => u3 _ _ (by simpa using HM.ne_of hwr (u b o hb e)) (u b o hb e)
      refine ⟨_, _, ?_, HM.le.refl _, bs ++ [wr], rfl, Upd.old hmd u4, ?_, ?_, ?_⟩
      · rw [ekk]; walk_at "le"
      · rw [HM.set_same, List.map_append]; rfl
      · rw [List.length_append, List.length_singleton]; omega
      · rw [ecr]
        refine F2.snoc (g2.updAll fun b brow hb hbr => ?_) ?_
        · have hbr' : H' b = some (.list (brow.map VT)) := hbr
          have nbm : b ≠ md := by
            rintro rfl
            rw [g1] at hbr'
            cases bs with
            | nil => cases hb
            | cons y ys => cases brow <;> simp [VT] at hbr'
          show _ = _
          rw [HM.set_ne _ _ nbm]
          exact u3 _ _ (by simpa using HM.ne_of hwr hbr') hbr'
        · show _ = _
          rw [HM.set_ne _ _ hwrm, f1, List.map_map]; rfl
    · rintro m' H' hn ⟨bs, rfl, u, g1, gb, g2⟩
      rw [List.length_map, hasl, List.take_length] at g2
      refine ViaJ.mk (by walk_at "le") ⟨bs, rfl, Upd.back u hr1, ?_, ?_⟩
      · rw [HM.set_ne _ _ (Ne.symm (nmd hr1))]; exact g1
      · refine g2.updAll fun a row ha hrow => ?_
        show _ = _
        rw [HM.set_ne _ _ (fun q => by
          have hrow : H' a = _ := hrow
          rw [q, hn] at hrow; cases hrow)]
        exact hrow
  rintro _ H2 ⟨bs, rfl, u, g1, g2⟩
  walk_at "run"
  exact EndJ.retE (h md H2 u ⟨bs, g1, g2⟩)
end

section
variable {c : FC} {P : Params} {n : Nat} {m : LM} {H : HM} {X : XM}
/-! ## the text of paragraphs -/
def prtRF (p : FPart) : List (List Nat) := (if p.1 = true then [[8]] else []) ++ p.2.2.map (joinL [32])
def prtLF (p : FPart) : List (List Nat) := match prtRF p with
  | [] => []
  | l :: r => (List.replicate p.2.1 32 ++ l) :: r
def prtF (p : FPart) : List Nat := joinL [10] (prtLF p)
def textF (ps : List FPart) : List Nat := joinL [10, 10] (ps.map prtF)
structure FSz (p : FPart) : Prop where
  ins : p.2.1 ≤ 2
  ne : p.2.2 ≠ []
  ln : p.2.2.length ≤ 8
  rw : ∀ row ∈ p.2.2, joinSize [32] row ≤ 1000
theorem prtRF_sz {p : FPart} (h : FSz p) : (prtRF p).length ≤ 9 ∧ ∀ l ∈ prtRF p, l.length ≤ 1000 := by
  have h2 := h.ln
  refine ⟨?_, fun l hl => ?_⟩
  · unfold prtRF
    rw [List.length_append, List.length_map]
    split <;> simp <;> omega
  · unfold prtRF at hl
    rcases List.mem_append.mp hl with hl | hl
    · split at hl
      · rw [List.mem_singleton.mp hl]; decide
      · cases hl
    · obtain ⟨row, hr, rfl⟩ := List.mem_map.mp hl
      exact Nat.le_trans (joinL_length _ _) (h.rw row hr)
theorem joinSize_le {sep : List Nat} {B : Nat} : ∀ {ls : List (List Nat)}, (∀ l ∈ ls, l.length ≤ B) → joinSize sep ls ≤ ls.length * (B + sep.length)
  | [], _ => by simp [joinSize]
  | l :: r, h => by
    have h1 := h l (by simp)
    have h2 := joinSize_le (sep := sep) fun y hy => h y (List.mem_cons_of_mem _ hy)
    simp only [joinSize, List.map_cons, List.sum_cons, List.length_cons] at h2 ⊢
    rw [Nat.succ_mul]; omega
theorem prtLF_sz {p : FPart} (h : FSz p) : joinSize [10] (prtLF p) ≤ 10000 := by
  obtain ⟨h1, h2⟩ := prtRF_sz h
  have h3 := h.ins
  have h4 : (prtLF p).length ≤ 9 ∧ ∀ l ∈ prtLF p, l.length ≤ 1002 := by
    unfold prtLF
    cases he : prtRF p with
    | nil => simp
    | cons l r =>
      rw [he] at h1 h2
      refine ⟨by simpa using h1, fun y hy => ?_⟩
      rcases List.mem_cons.mp hy with rfl | hy
      · have := h2 l (by simp)
        rw [List.length_append, List.length_replicate]; omega
      · have := h2 y (List.mem_cons_of_mem _ hy); omega
  have h5 := joinSize_le (sep := [10]) h4.2
  have h6 : (prtLF p).length * (1002 + [10].length) ≤ 9 * 1003 := Nat.mul_le_mul h4.1 (Nat.le_refl _)
  omega
theorem ref_ne_txt' {H : HM} {a b : Addr} {as : List Addr} {row : List (List Nat)} (h1 : H a = some (.list (as.map .ref))) (h2 : H b = some (.list (row.map VT))) (hn : as ≠ []) : a ≠ b := by
  rintro rfl
  rw [h1] at h2
  cases as with
  | nil => exact hn rfl
  | cons w ws => cases row <;> simp [VT] at h2
theorem K_ltxt {pr : Addr} {as : List Addr} {ps : List FPart} {Q : Value → HM → Prop} (O : Ok c (KK P) (n + 1)) (hp : H pr = some (.list (as.map .ref))) (hps : F2 (PartAt H) as ps) (hl : ps.length ≤ 8) (hsz : ∀ p ∈ ps, FSz p)
    (h : Q (VT (textF ps)) H) : CallJ c (.ref 221) [.ref pr] [] m H Q X := by
  have hasl : as.length = ps.length := hps.len
  refine CallJ.run O ⟨⟨_, _, _, rfl⟩, rfl, rfl, rfl, rfl, rfl, rfl, rfl, rfl, by decide⟩ (.a1 fun _ => rfl) rfl ?_
  intro L hL Ok'
  show Exs _ _ [("parts", .ref pr)] H _ _
  walk_at "run"
  rename_i md hmd
  have nmd : ∀ {b o}, H b = some o → b ≠ md := fun e => HM.ne_of hmd e
  with_reducible refine Ex.via (fun m' H' => m' = ([("made", .ref md)] : LM) ∧ Upd [] H H' ∧ H' md = some (.list ((ps.map prtF).map VT))) ?_ ?_
  · refine Ex.forGN Ok'.hh ?_ (fun _ => rfl)
    walk_at "run"
    have hp1 : (H.set md (.list [])) pr = some (.list (as.map .ref)) := by rw [HM.set_ne _ _ (nmd hp)]; exact hp
    refine ForJN.list hp1 (by rw [List.length_map]; omega) (fun j m' H' => m' = ([("made", .ref md)] : LM) ∧ Upd [pr] H H' ∧ H' md = some (.list (((ps.take j).map prtF).map VT)))
      ⟨_, _, by walk_at "le", HM.le.refl _, rfl, Upd.delAt (by simp) (Upd.new hmd (Upd.refl _ _)), by rw [HM.del_ne _ (Ne.symm (nmd hp)), HM.set_same]; rfl⟩ ?_ ?_
    · rintro j x m' H' hx hn ⟨rfl, u, g1⟩
      rw [List.getElem?_map, Option.map_eq_some_iff] at hx
      obtain ⟨a, ha, rfl⟩ := hx
      have hj : j < 8 := by have := (List.getElem?_eq_some_iff.mp ha).1; omega
      obtain ⟨p, hpj, rr, h1, bs, h2, h3⟩ := hps.get ha
      have hpm : p ∈ ps := List.mem_of_getElem? hpj
      have hs := hsz p hpm
      have hbl : bs.length = p.2.2.length := h3.len
      have hln := hs.ln
      have hin := hs.ins
      have nap : a ≠ pr := fun q => by rw [q, hp] at h1; cases h1
      have h1' : H' a = some (.tup [VB p.1, VI p.2.1, .ref rr]) := u _ _ (by simpa using nap) h1
      have htk : (ps.take (j + 1)).map prtF = (ps.take j).map prtF ++ [prtF p] := by rw [List.take_add_one, hpj, List.map_append]; rfl
      have hlines := prtRF_sz hs
      have hlsz := prtLF_sz hs
      obtain ⟨l0, ls, hle⟩ : ∃ l0 ls, prtRF p = l0 :: ls := by
        obtain ⟨r0, rs, e⟩ := List.exists_cons_of_ne_nil hs.ne
        unfold prtRF
        rw [e]
        split <;> exact ⟨_, _, rfl⟩
      have hasn : as ≠ [] := fun q => by rw [q] at ha; simp at ha
      have nrp : rr ≠ pr := by
        intro q
        have e2 := h2
        rw [q, hp] at e2
        simp only [Option.some.injEq, AO.list.injEq] at e2
        have e3 : (as.map Value.ref)[j]? = (bs.map Value.ref)[j]? := by rw [e2]
        rw [List.getElem?_map, List.getElem?_map, ha] at e3
        obtain ⟨b, hb, e4⟩ := Option.map_eq_some_iff.mp e3.symm
        obtain ⟨row, _, hrow⟩ := h3.get hb
        have hrow : H b = _ := hrow
        cases e4
        rw [h1] at hrow; cases hrow
      have h2' : H' rr = some (.list (bs.map .ref)) := u _ _ (by simpa using nrp) h2
      have h3' : F2 (RowAt H') bs p.2.2 := h3.mono fun b row hrow => u _ _ (by simpa using Ne.symm (ref_ne_txt' hp hrow hasn)) hrow
      have hbsn : bs ≠ [] := fun q => by rw [q] at hbl; exact hs.ne (List.length_eq_zero_iff.mp hbl.symm)
      iterate 4 walk_at "go"
      with_reducible refine Exs.via (fun m2 H2 => ∃ lr, m2 = ([("lines", .ref lr), ("inset", VI p.2.1), ("made", .ref md)] : LM) ∧ Upd [] H' H2 ∧ H2 lr = some (.list ((prtRF p).map VT))) ?_ ?_
      · walk_at "run"
        refine iteB (fun hb => ?_) (fun hb => ?_)
        all_goals (
          walk_at "run"
          rename_i q hq
          first
          | (have hpt : p.1 = true := hb
             obtain ⟨pre, hpre, hpl, A1⟩ : ∃ pre : List (List Nat), pre = (if p.1 = true then [[8]] else []) ∧ pre.length ≤ 1 ∧ (H'.set q (.list [VT [8]])) q = some (.list (pre.map VT)) := ⟨[[8]], by rw [hb]; rfl, Nat.le_refl _, HM.set_same _ _ _⟩
             have u1 : Upd [] H' (H'.set q (.list [VT [8]])) := Upd.new hq (Upd.refl _ _)
             generalize H'.set q (.list [VT [8]]) = H1 at *)
          | (obtain ⟨pre, hpre, hpl, A1⟩ : ∃ pre : List (List Nat), pre = (if p.1 = true then [[8]] else []) ∧ pre.length ≤ 1 ∧ (H'.set q (.list [])) q = some (.list (pre.map VT)) := ⟨[], by rw [hb]; rfl, Nat.zero_le _, HM.set_same _ _ _⟩
             have u1 : Upd [] H' (H'.set q (.list [])) := Upd.new hq (Upd.refl _ _)
             generalize H'.set q (.list []) = H1 at *)
          have A2 : H1 rr = some (.list (bs.map .ref)) := u1 _ _ (by simp) h2'
          have A3 : F2 (RowAt H1) bs p.2.2 := h3'.mono fun b row hrow => u1 _ _ (by simp) hrow
          refine Ev.compG Ok'.hh rfl rfl (by decide) (by decide) ?_ (fun _ => rfl)
          walk_at "run"
          refine ⟨_, _, _, _, Src.list A2 (by rw [List.length_map]; omega), fun ys H2 => H2 = H1.del rr ∧ ys = (p.2.2.map (joinL [32])).map VT, fun C => ?_, ?_⟩
          · have Oc := Ok'.comp (scope := { kind := ScopeKind.function, names := [(Str.ofString ".0", NameKind.local), (Str.ofString "row", NameKind.local)], isGenerator := false, isCoroutine := false }) rfl [] C
            with_reducible refine Turns.one (fun k ys m' H2 => H2 = H1.del rr ∧ m' = ([] : LM) ∧ ys = ((p.2.2.take k).map (joinL [32])).map VT) ?_ ?_ ?_
            · exact Keep.here ⟨rfl, rfl, rfl⟩
            · rintro k x ys m' H2 hx ⟨rfl, rfl, rfl⟩
              rw [List.getElem?_map, Option.map_eq_some_iff] at hx
              obtain ⟨b, hbk, rfl⟩ := hx
              obtain ⟨row, hrk, hrow⟩ := A3.get hbk
              have hjs := hs.rw row (List.mem_of_getElem? hrk)
              have hdel : (H1.del rr) b = some (.list (row.map VT)) := by rw [HM.del_ne _ (Ne.symm (ref_ne_txt' A2 hrow hbsn))]; exact hrow
              have hk8 : k < 8 := by have := (List.getElem?_eq_some_iff.mp hrk).1; omega
              have htk2 : (p.2.2.take (k + 1)).map (joinL [32]) = (p.2.2.take k).map (joinL [32]) ++ [joinL [32] row] := by rw [List.take_add_one, hrk, List.map_append]; rfl
              walk_at "run"
              refine TestsJ.nil ?_
              rw [if_pos rfl]
              refine ⟨by rw [List.length_map, List.length_map, List.length_take]; omega, ?_⟩
              walk_at "run"
              exact ⟨_, _, by walk_at "le", HM.le.refl _, rfl, rfl, by rw [htk2, List.map_append]; rfl⟩
            · rintro ys m' H2 ⟨rfl, rfl, rfl⟩
              rw [List.length_map, hbl, List.take_length]
              exact ⟨rfl, rfl⟩
          · rintro D ys H2 hD1 hD2 ⟨rfl, rfl⟩
            have nDr : D ≠ rr := fun z => by rw [z, A2] at hD1; cases hD1
            have u5 : Upd [] H1 (((H1.del rr).set D (.list ((p.2.2.map (joinL [32])).map VT))).set rr (.list (bs.map .ref))) := fun b o _ eb => by
              by_cases z : b = rr
              · rw [z, HM.set_same, ← A2, ← z]; exact eb
              · rw [HM.set_ne _ _ z, HM.set_ne _ _ (HM.ne_of hD1 eb), HM.del_ne _ z]; exact eb
            have gD : (((H1.del rr).set D (.list ((p.2.2.map (joinL [32])).map VT))).set rr (.list (bs.map .ref))) D = some (.list ((p.2.2.map (joinL [32])).map VT)) := by rw [HM.set_ne _ _ nDr, HM.set_same]
            have gq := u5 _ _ (by simp) A1
            have u6 := u1.trans u5
            generalize (((H1.del rr).set D (.list ((p.2.2.map (joinL [32])).map VT))).set rr (.list (bs.map .ref))) = H5 at *
            refine O_addLX _ _ gq gD (by rw [List.length_map, List.length_map, List.length_map]; omega) fun z hz => ?_
            walk_at "run"
            refine ViaJ.mk (by walk_at "le") ⟨z, rfl, Upd.new hz u6, ?_⟩
            rw [HM.set_same, ← List.map_append]
            unfold prtRF
            rw [hpre])
      rintro _ H2 ⟨lr, rfl, u2, g3⟩
      have gmd : H2 md = _ := u2 _ _ (by simp) g1
      have ntm : md ≠ lr → True := fun _ => trivial
      rw [hle] at g3 hlines
      have hl0 := hlines.2 l0 (by simp)
      have hlsl : ls.length ≤ 8 := by have := hlines.1; simpa using this
      have y1 : (List.replicate p.2.1 32).length + l0.length ≤ 16000000 := by rw [List.length_replicate]; omega
      have g3' : H2 lr = some (.list (VT l0 :: ls.map VT)) := g3
      walk_at "run"
      refine O_mulT (by omega) (by simp; omega) ?_
      rw [Int.toNat_natCast, times_one]
      walk_at "run"
      rename_i q hq
      have g4 : (H2.set q (.list [VT (List.replicate p.2.1 32 ++ l0)])) lr = some (.list (VT l0 :: ls.map VT)) := by rw [HM.set_ne _ _ (HM.ne_of hq g3')]; exact g3'
      refine SliceG.list (Bnd.ofInt (by decide)) .non g4 (by simp; omega) fun z hz => ?_
      have hzq := HM.set_none.mp hz
      have g5 : ((H2.set q (.list [VT (List.replicate p.2.1 32 ++ l0)])).set z (.list (cut (VT l0 :: ls.map VT) (some (1 : Int).toNat) none))) z = some (.list (ls.map VT)) := HM.set_same _ _ _
      have g6 : ((H2.set q (.list [VT (List.replicate p.2.1 32 ++ l0)])).set z (.list (cut (VT l0 :: ls.map VT) (some (1 : Int).toNat) none))) q = some (.list [VT (List.replicate p.2.1 32 ++ l0)]) := by rw [HM.set_ne _ _ (Ne.symm hzq.1), HM.set_same]
      have u5 : Upd [] H2 ((H2.set q (.list [VT (List.replicate p.2.1 32 ++ l0)])).set z (.list (cut (VT l0 :: ls.map VT) (some (1 : Int).toNat) none))) := Upd.new hz (Upd.new hq (Upd.refl _ _))
      generalize ((H2.set q (.list [VT (List.replicate p.2.1 32 ++ l0)])).set z (.list (cut (VT l0 :: ls.map VT) (some (1 : Int).toNat) none))) = H3 at *
      refine O_addLX _ _ g6 g5 (by rw [List.length_map, List.length_singleton]; omega) fun y hy => ?_
      have g7 : (H3.set y (.list ([VT (List.replicate p.2.1 32 ++ l0)] ++ ls.map VT))) y = some (.list ((prtLF p).map VT)) := by
        rw [HM.set_same]
        unfold prtLF
        rw [hle]; rfl
      have u6 : Upd [] H2 (H3.set y (.list ([VT (List.replicate p.2.1 32 ++ l0)] ++ ls.map VT))) := Upd.new hy u5
      have gmd2 : (H3.set y (.list ([VT (List.replicate p.2.1 32 ++ l0)] ++ ls.map VT))) md = _ := u6 _ _ (by simp) gmd
      generalize (H3.set y (.list ([VT (List.replicate p.2.1 32 ++ l0)] ++ ls.map VT))) = H4 at *
      have hml : (((ps.take j).map prtF).map VT).length ≤ 16000000 := by rw [List.length_map, List.length_map, List.length_take]; omega
      walk_at "run"
      refine ⟨_, _, by walk_at "le", HM.le.refl _, rfl, Upd.old hmd (u.trans fun a o _ e => (u2.trans u6) a o (by simp) e), ?_⟩
      rw [HM.set_same, htk, List.map_append]; rfl
    · rintro m' H' hn ⟨rfl, u, g1⟩
      rw [List.length_map, hasl, List.take_length] at g1
      refine ViaJ.mk (by walk_at "le") ⟨rfl, Upd.back u hp, ?_⟩
      rw [HM.set_ne _ _ (Ne.symm (nmd hp))]; exact g1
  rintro _ H2 ⟨rfl, u, g1⟩
  have hj : joinSize [10, 10] (ps.map prtF) ≤ 16000000 := by
    have := joinSize_le (sep := [10, 10]) (B := 10000) (ls := ps.map prtF) fun l hl => by
      obtain ⟨p, hp, rfl⟩ := List.mem_map.mp hl
      exact Nat.le_trans (joinL_length _ _) (prtLF_sz (hsz p hp))
    rw [List.length_map] at this
    have h2 : ps.length * (10000 + [10, 10].length) ≤ 8 * 10002 := Nat.mul_le_mul hl (Nat.le_refl _)
    omega
  walk_at "run"
  exact EndJ.ret H (fun a o e => u a o (by simp) e) h
end

section
variable {c : FC} {P : Params} {n : Nat} {m : LM} {H : HM} {X : XM}
/-! ## _law_laid -/
theorem K_laid2 {wr : Addr} {ws : List (List Nat)} {fi fr : List Nat} {w : Int} {Q : Value → HM → Prop} (O : Ok c (KK P) (n + 1)) (hw : H wr = some (.list (ws.map VT))) (hl : ws.length ≤ 8) (hws : ∀ x ∈ ws, x.length ≤ 5) (li : fi.length ≤ 100) (lr : fr.length ≤ 100)
    (h : ∀ r, H r = none → Q (.ref r) (H.set r (.list ((lawLaid w fi fr ws).map VT)))) : CallJ c (.ref 228) [.ref wr, VT fi, VT fr, VI w] [] m H Q X := by
  refine CallJ.run O ⟨⟨_, _, _, rfl⟩, rfl, rfl, rfl, rfl, rfl, rfl, rfl, rfl, by decide⟩ (.a4 fun _ _ _ _ => rfl) rfl ?_
  intro L hL Ok'
  show Exs _ _ [("width", VI w), ("further", VT fr), ("first", VT fi), ("words", .ref wr)] H _ _
  walk_at "run"
  rename_i r hr
  have nrw : wr ≠ r := HM.ne_of hr hw
  have hw1 : (H.set r (.list [VT fi])) wr = some (.list (ws.map VT)) := by rw [HM.set_ne _ _ nrw]; exact hw
  with_reducible refine Ex.via (fun m' H' => m' = ([("lines", .ref r)] : LM) ∧ H' = H.set r (.list ((lawLaid w fi fr ws).map VT))) ?_ ?_
  · refine Ex.forGN Ok'.hh ?_ (fun _ => rfl)
    walk_at "run"
    refine ForJN.list hw1 (by rw [List.length_map]; omega) (fun k m' H' => ∃ done cur, ∃ hd : Nat, m' = ([("held", VI hd), ("lines", .ref r), ("width", VI w), ("further", VT fr)] : LM) ∧ H' = (H.del wr).set r (.list (done.map VT ++ [VT cur])) ∧ done.length ≤ k ∧ cur.length ≤ 100 + 6 * k ∧ ((hd = 0 ∧ done = [] ∧ cur = fi ∧ k = 0) ∨ (1 ≤ hd ∧ 1 ≤ k ∧ laidN w fr done cur (ws.drop k) = lawLaid w fi fr ws)))
      ⟨_, _, by walk_at "le", HM.le.refl _, [], fi, 0, rfl, ?_, Nat.le_refl _, by omega, .inl ⟨rfl, rfl, rfl, rfl⟩⟩ ?_ ?_
    · funext b
      by_cases q : b = wr
      · rw [q, HM.del_same, HM.set_ne _ _ nrw, HM.del_same]
      · rw [HM.del_ne _ q]
        by_cases q2 : b = r
        · rw [q2, HM.set_same, HM.set_same]; rfl
        · rw [HM.set_ne _ _ q2, HM.set_ne _ _ q2, HM.del_ne _ q]
    · rintro k x m' H' hx hn ⟨done, cur, hd, rfl, rfl, hdl, hcl, hc⟩
      rw [List.getElem?_map, Option.map_eq_some_iff] at hx
      obtain ⟨x, hxk, rfl⟩ := hx
      have hk : k < 8 := by have := (List.getElem?_eq_some_iff.mp hxk).1; omega
      have hkl := (List.getElem?_eq_some_iff.mp hxk).1
      have hx5 := hws x (List.mem_of_getElem? hxk)
      have hdr : ws.drop k = x :: ws.drop (k + 1) := by rw [List.drop_eq_getElem_cons hkl, (List.getElem?_eq_some_iff.mp hxk).2]
      have g : ((H.del wr).set r (.list (done.map VT ++ [VT cur]))) r = some (.list (done.map VT ++ [VT cur])) := HM.set_same _ _ _
      have hcl2 : cur.length ≤ 1000 := by omega
      have hdl2 : (done.map VT ++ [VT cur]).length < 16000000 := by rw [List.length_append, List.length_map, List.length_singleton]; omega
      have hdl3 : (done.map VT).length ≤ 16000000 := by rw [List.length_map]; omega
      rcases hc with ⟨rfl, rfl, rfl, rfl⟩ | ⟨h1, h2, h3⟩
      · have efin : laidN w fr [] (cur ++ [] ++ x) (ws.drop 1) = lawLaid w cur fr ws := by
          have : ws = x :: ws.drop 1 := hdr
          conv => rhs; rw [this]
          rw [List.append_nil]; rfl
        walk_at "run"
        refine iteFe (by decide) ?_
        walk_at "run"
        refine iteFe (by decide) ?_
        walk_at "run"
        refine ⟨_, _, by walk_at "le", HM.le.refl _, [], cur ++ [] ++ x, 1, rfl, ?_, Nat.zero_le _, ?_, .inr ⟨Nat.le_refl _, Nat.le_refl _, efin⟩⟩
        · rw [HM.set_set]
        · simp only [List.length_append, List.length_nil]; omega
      · rw [hdr, laidN_cons] at h3
        walk_at "run"
        refine iteTe (by simp; omega) ?_
        walk_at "run"
        refine iteD (fun hgt => ?_) (fun hgt => ?_)
        · rw [if_pos (by omega)] at h3
          have g2 : (((H.del wr).set r (.list (done.map VT ++ [VT cur]))).set r (.list ((done.map VT ++ [VT cur]) ++ [VT fr]))) r = some (.list ((done.map VT ++ [VT cur]) ++ [VT fr])) := HM.set_same _ _ _
          walk_at "run"
          refine iteFe (by decide) ?_
          walk_at "run"
          refine ⟨_, _, by walk_at "le", HM.le.refl _, done ++ [cur], fr ++ [] ++ x, 1, rfl, ?_, ?_, ?_, .inr ⟨Nat.le_refl _, by omega, by rw [List.append_nil]; exact h3⟩⟩
          · rw [HM.set_set, HM.set_set, List.map_append]; rfl
          · rw [List.length_append, List.length_singleton]; omega
          · simp only [List.length_append, List.length_nil]; omega
        · rw [if_neg (by omega)] at h3
          walk_at "run"
          refine iteTe (by simp; omega) ?_
          walk_at "run"
          refine ⟨_, _, by walk_at "le", HM.le.refl _, done, cur ++ [32] ++ x, hd + 1, rfl, ?_, by omega, ?_, .inr ⟨by omega, by omega, h3⟩⟩
          · rw [HM.set_set]
          · simp only [List.length_append, List.length_cons, List.length_nil]; omega
    · rintro m' H' hn ⟨done, cur, hd, rfl, rfl, hdl, hcl, hc⟩
      refine ViaJ.mk (by walk_at "le") ⟨rfl, ?_⟩
      have e : lawLaid w fi fr ws = done ++ [cur] := by
        rw [List.length_map] at hc
        rcases hc with ⟨rfl, rfl, rfl, h0⟩ | ⟨_, _, h3⟩
        · have : ws = [] := List.length_eq_zero_iff.mp h0
          subst this; rfl
        · rw [List.drop_length] at h3
          exact h3.symm
      rw [e, List.map_append]
      funext b
      by_cases q : b = wr
      · rw [q, HM.set_same, HM.set_ne _ _ nrw, hw]
      · rw [HM.set_ne _ _ q]
        by_cases q2 : b = r
        · rw [q2, HM.set_same, HM.set_same]; rfl
        · rw [HM.set_ne _ _ q2, HM.set_ne _ _ q2, HM.del_ne _ q]
  rintro _ _ ⟨rfl, q⟩
  rw [q]
  walk_at "run"
  exact EndJ.retE (h r hr)
end

section
variable {c : FC} {P : Params} {n : Nat} {m : LM} {H : HM} {X : XM}
/-! ## _law_fewest -/
theorem K_fewest {wr : Addr} {ws : List (List Nat)} {a b w : Int} {Q : Value → HM → Prop} (O : Ok c (KK P) (n + 1)) (hw : H wr = some (.list (ws.map VT))) (hl : ws.length ≤ 8) (hws : ∀ x ∈ ws, x.length ≤ 5)
    (h : Q (VI ((leastF ws a b w ws.length).getD ws.length 0)) H) : CallJ c (.ref 235) [.ref wr, VI a, VI b, VI w] [] m H Q X := by
  refine CallJ.run O ⟨⟨_, _, _, rfl⟩, rfl, rfl, rfl, rfl, rfl, rfl, rfl, rfl, by decide⟩ (.a4 fun _ _ _ _ => rfl) rfl ?_
  intro L hL Ok'
  show Exs _ _ [("width", VI w), ("further", VI b), ("first", VI a), ("words", .ref wr)] H _ _
  walk_at "run"
  rename_i r hr
  have nrw : wr ≠ r := HM.ne_of hr hw
  have hw1 : (H.set r (.list [VI 0])) wr = some (.list (ws.map VT)) := by rw [HM.set_ne _ _ nrw]; exact hw
  have hwl : (ws.map VT).length ≤ 16000000 := by rw [List.length_map]; omega
  with_reducible refine Ex.via (fun m' H' => m' = ([("least", .ref r), ("words", .ref wr)] : LM) ∧ Upd [] H H' ∧ H' r = some (.list ((leastF ws a b w ws.length).map VI))) ?_ ?_
  · refine Ex.forG Ok'.hh ?_ (fun _ => rfl)
    walk_at "run"
    rw [List.length_map]
    refine C_range2 fun rg o hrg ho => ?_
    refine ⟨_, _, _, _, Src.range (HM.set_same _ _ _) ho (by omega) (by omega) (by omega), fun i m' H' => m' = ([("least", .ref r), ("width", VI w), ("further", VI b), ("first", VI a), ("words", .ref wr)] : LM) ∧ Upd [] H H' ∧ H r = none ∧ H' r = some (.list ((leastF ws a b w i).map VI)),
      ⟨_, _, by walk_at "le", HM.le_fresh hrg, rfl, Upd.new hr (Upd.refl _ _), hr, HM.set_same _ _ _⟩, ?_, ?_⟩
    · rintro i x m' H' hx ⟨rfl, u, hrn, g⟩
      rw [List.getElem?_map, Option.map_eq_some_iff] at hx
      obtain ⟨i', hi', rfl⟩ := hx
      obtain ⟨q1, q2⟩ := List.getElem?_eq_some_iff.mp hi'
      rw [List.getElem_range] at q2
      subst q2
      rw [List.length_range] at q1
      have hi : i < ws.length := by omega
      have hll : ((leastF ws a b w i).map VI).length ≤ 16000000 := by rw [List.length_map, leastF_len]; omega
      walk_at "run"
      with_reducible refine Ex.via (fun m2 H2 => m2 = ([("best", VI (bestF ws a b w (leastF ws a b w i) (i + 1) (i + 1))), ("least", .ref r), ("width", VI w), ("further", VI b), ("first", VI a), ("words", .ref wr)] : LM) ∧ Upd [] H' H2) ?_ ?_
      · refine Ex.forG Ok'.hh ?_ (fun _ => rfl)
        walk_at "run"
        refine C_range1 fun rg2 o2 hrg2 ho2 => ?_
        refine ⟨_, _, _, _, Src.range (HM.set_same _ _ _) ho2 (by omega) (by omega) (by omega), fun j m2 H2 => m2 = ([("best", VI (bestF ws a b w (leastF ws a b w i) (i + 1) j)), ("k", VI (1 + (i : Int))), ("least", .ref r), ("width", VI w), ("further", VI b), ("first", VI a), ("words", .ref wr)] : LM) ∧ Upd [] H' H2,
          ⟨_, _, by walk_at "le", HM.le_fresh hrg2, rfl, Upd.refl _ _⟩, ?_, ?_⟩
        · rintro j x m2 H2 hx ⟨rfl, u2⟩
          rw [List.getElem?_map, Option.map_eq_some_iff] at hx
          obtain ⟨j', hj', rfl⟩ := hx
          obtain ⟨q1, q2⟩ := List.getElem?_eq_some_iff.mp hj'
          rw [List.getElem_range] at q2
          subst q2
          rw [List.length_range] at q1
          have hj : j ≤ i := by omega
          have g2 : H2 r = some (.list ((leastF ws a b w i).map VI)) := u2 _ _ (by simp) g
          have w2 : H2 wr = some (.list (ws.map VT)) := u2 _ _ (by simp) (u _ _ (by simp) hw)
          have e1 : (0 + (j : Int)).toNat = j := by omega
          have e2 : (1 + (i : Int)).toNat = i + 1 := by omega
          have hcut : cut (ws.map VT) (some (0 + (j : Int)).toNat) (some (1 + (i : Int)).toNat) = ((ws.take (i + 1)).drop j).map VT := by
            rw [e1, e2]
            show ((ws.map VT).take (i + 1)).drop j = _
            rw [← List.map_take, ← List.map_drop]
          have hsl : ∀ y ∈ (ws.take (i + 1)).drop j, y.length ≤ 5 := fun y hy => hws y (List.mem_of_mem_take (List.mem_of_mem_drop hy))
          have hjs : joinSize [32] ((ws.take (i + 1)).drop j) ≤ 16000000 := by
            have h1 := joinSize_le (sep := [32]) hsl
            rw [slice_len (by omega)] at h1
            have h2 : (i + 1 - j) * (5 + [32].length) ≤ 8 * 6 := Nat.mul_le_mul (by omega) (Nat.le_refl _)
            omega
          have hjl : (joinL [32] ((ws.take (i + 1)).drop j)).length ≤ 16000000 := Nat.le_trans (joinL_length _ _) hjs
          have hat : at? ((leastF ws a b w i).map VI) (0 + (j : Int)) = some (VI ((leastF ws a b w i).getD j 0)) := by
            unfold at?
            rw [if_pos (by omega), e1, List.getElem?_map, List.getD_eq_getElem?_getD, List.getElem?_eq_getElem (by rw [leastF_len]; omega)]; rfl
          have fin : ∀ (H3 : HM) (m3 : LM) (v : Int), Upd [] H' H3 → v = bestF ws a b w (leastF ws a b w i) (i + 1) (j + 1) → LM.le ([("best", VI v), ("k", VI (1 + (i : Int))), ("least", .ref r), ("width", VI w), ("further", VI b), ("first", VI a), ("words", .ref wr)] : LM) m3 →
              Keep (fun m2 H2 => m2 = ([("best", VI (bestF ws a b w (leastF ws a b w i) (i + 1) (j + 1))), ("k", VI (1 + (i : Int))), ("least", .ref r), ("width", VI w), ("further", VI b), ("first", VI a), ("words", .ref wr)] : LM) ∧ Upd [] H' H2) m3 H3 := by
            rintro H3 m3 v z1 rfl z3
            exact ⟨_, _, z3, HM.le.refl _, rfl, z1⟩
          walk_at "run"
          refine SliceG.list (Bnd.ofInt (by omega)) (Bnd.ofInt (by omega)) w2 (by rw [List.length_map]; omega) fun q hq => ?_
          rw [hcut]
          have g3 : (H2.set q (.list (((ws.take (i + 1)).drop j).map VT))) r = some (.list ((leastF ws a b w i).map VI)) := by rw [HM.set_ne _ _ (HM.ne_of hq g2)]; exact g2
          have u3 : Upd [] H' (H2.set q (.list (((ws.take (i + 1)).drop j).map VT))) := Upd.new hq u2
          have gq : (H2.set q (.list (((ws.take (i + 1)).drop j).map VT))) q = some (.list (((ws.take (i + 1)).drop j).map VT)) := HM.set_same _ _ _
          generalize (H2.set q (.list (((ws.take (i + 1)).drop j).map VT))) = H3 at *
          walk_at "run"
          have hb : bestF ws a b w (leastF ws a b w i) (i + 1) (j + 1) = if szF ws a b j (i + 1) ≤ w then min (bestF ws a b w (leastF ws a b w i) (i + 1) j) ((leastF ws a b w i).getD j 0 + 1) else bestF ws a b w (leastF ws a b w i) (i + 1) j := rfl
          refine iteD (fun h0 => ?_) (fun h0 => ?_)
          · have hz : szF ws a b j (i + 1) = (joinL [32] ((ws.take (i + 1)).drop j)).length + a := by unfold szF; rw [if_pos (by omega)]
            walk_at "run"
            refine iteD (fun h1 => ?_) (fun h1 => ?_)
            · walk_at "run"
              refine ItemG.list g3 hat (by omega) ?_
              walk_at "run"
              refine C_min Ok'.hh ?_
              walk_at "run"
              exact fin _ _ _ u3 (by rw [hb, if_pos (by omega)]) (by walk_at "le")
            · walk_at "run"
              exact fin _ _ _ u3 (by rw [hb, if_neg (by omega)]) (by walk_at "le")
          · have hz : szF ws a b j (i + 1) = (joinL [32] ((ws.take (i + 1)).drop j)).length + b := by unfold szF; rw [if_neg (by omega)]
            walk_at "run"
            refine iteD (fun h1 => ?_) (fun h1 => ?_)
            · walk_at "run"
              refine ItemG.list g3 hat (by omega) ?_
              walk_at "run"
              refine C_min Ok'.hh ?_
              walk_at "run"
              exact fin _ _ _ u3 (by rw [hb, if_pos (by omega)]) (by walk_at "le")
            · walk_at "run"
              exact fin _ _ _ u3 (by rw [hb, if_neg (by omega)]) (by walk_at "le")
        · rintro m2 H2 ⟨rfl, u2⟩
          rw [List.length_map, List.length_range, show (1 + (i : Int) - 0).toNat = i + 1 from by omega]
          exact ViaJ.mk (by walk_at "le") ⟨rfl, u2⟩
      rintro _ H2 ⟨rfl, u2⟩
      have g2 : H2 r = some (.list ((leastF ws a b w i).map VI)) := u2 _ _ (by simp) g
      walk_at "run"
      refine ⟨_, _, by walk_at "le", HM.le.refl _, rfl, Upd.old hrn (u.trans u2), hrn, ?_⟩
      rw [HM.set_same]
      show _ = some (AO.list ((leastF ws a b w i ++ [_]).map VI))
      rw [List.map_append]; rfl
    · rintro m' H' ⟨rfl, u, hrn, g⟩
      rw [List.length_map, List.length_range, show ((ws.length : Int) + 1 - 1).toNat = ws.length from by omega] at g
      exact ViaJ.mk (by walk_at "le") ⟨rfl, u, g⟩
  rintro _ H2 ⟨rfl, u, g⟩
  have w2 : H2 wr = some (.list (ws.map VT)) := u _ _ (by simp) hw
  have hat : at? ((leastF ws a b w ws.length).map VI) (ws.length : Int) = some (VI ((leastF ws a b w ws.length).getD ws.length 0)) := by
    unfold at?
    rw [if_pos (by omega), Int.toNat_natCast, List.getElem?_map, List.getD_eq_getElem?_getD, List.getElem?_eq_getElem (by rw [leastF_len]; omega)]; rfl
  walk_at "run"
  rw [List.length_map]
  refine ItemG.list g hat (by omega) ?_
  walk_at "run"
  exact EndJ.ret H (fun a o e => u a o (by simp) e) h
end

section
/-! ## law 2: paragraphs by signs and by tokens -/
def tokP (p : FPart) : Prt := (p.1, p.2.1, p.2.2.map fun row => row.map plain)
def flatP (q : Prt) : FPart := (q.1, q.2.1, flatRows q.2.2)
def colP (cs : List Nat) (p : FPart) : Prt := (p.1, p.2.1, colRows cs 0 p.2.2)
theorem plain_ne {w : List Nat} (h : w ≠ []) : plain w ≠ [] := fun q => h (List.map_eq_nil_iff.mp q)
theorem wdt_plain {w : List Nat} (h : WdN w) : WdT (plain w) := by
  refine ⟨fun x hx => ?_, ?_, ?_, ?_⟩
  · obtain ⟨y, hy, rfl⟩ := List.mem_map.mp hx
    exact h.2.2 y hy
  · rw [vis_plain]; exact List.length_pos_iff.mpr h.1
  · rw [vis_plain]; exact h.2.1
  · rw [flatT_plain]; have := h.2.1; omega
theorem wd_plain {w : List Nat} (h : ∀ x ∈ w, 97 ≤ x ∧ x ≤ 104) : ∀ x ∈ plain w, x.wd := fun x hx => by
  obtain ⟨y, hy, rfl⟩ := List.mem_map.mp hx
  exact h y hy
theorem bare_colW (p : Nat) (w : List Nat) : bare (colW p w) = plain w := by
  have e1 : ∀ ps, bare [Tk.es ps] = [] := fun _ => rfl
  unfold colW
  split
  · rw [bare_append, bare_append, bare_plain, e1, e1]; simp
  · split
    · rw [bare_append, bare_append, bare_append, bare_plain, bare_plain, e1, e1, List.append_nil, List.append_nil, ← plain_append, List.take_append_drop]
    · exact bare_plain w
theorem wdt_col {w : List Nat} (p : Nat) (h : WdN w) : WdT (colW p w) := by
  have hv : vis (colW p w) = w.length := by rw [← vis_bare, bare_colW, vis_plain]
  have h5 := h.2.1
  have e48 : (Tk.es [48]).wd := fun x hx => by rw [List.mem_singleton.mp hx]; decide
  refine ⟨?_, by rw [hv]; exact List.length_pos_iff.mpr h.1, by rw [hv]; exact h5, ?_⟩
  · unfold colW
    split
    · intro x hx
      simp only [List.mem_append, List.mem_singleton] at hx
      rcases hx with (rfl | hx) | rfl
      · intro y hy
        simp only [List.mem_cons, List.not_mem_nil, or_false] at hy
        rcases hy with rfl | rfl <;> decide
      · exact wd_plain h.2.2 x hx
      · exact e48
    · split
      · intro x hx
        simp only [List.mem_append, List.mem_singleton] at hx
        rcases hx with ((hx | rfl) | hx) | rfl
        · exact wd_plain (fun y hy => h.2.2 y (List.mem_of_mem_take hy)) x hx
        · intro y hy
          simp only [List.mem_cons, List.not_mem_nil, or_false] at hy
          rcases hy with rfl | rfl | rfl <;> decide
        · exact wd_plain (fun y hy => h.2.2 y (List.mem_of_mem_drop hy)) x hx
        · exact e48
      · exact wd_plain h.2.2
  · unfold colW
    split
    · rw [flatT_append, flatT_append, flatT_plain]
      have e1 : (flatT [Tk.es [51, 49]]).length = 5 := rfl
      have e2 : (flatT [Tk.es [48]]).length = 4 := rfl
      simp only [List.length_append, e1, e2]; omega
    · split
      · rw [flatT_append, flatT_append, flatT_append, flatT_plain, flatT_plain]
        have e1 : (flatT [Tk.es [49, 59, 52]]).length = 6 := rfl
        have e2 : (flatT [Tk.es [48]]).length = 4 := rfl
        simp only [List.length_append, e1, e2, List.length_take, List.length_drop]; omega
      · rw [flatT_plain]; omega
theorem colRow_mem (cs : List Nat) : ∀ (r : List (List Nat)) (k : Nat), ∀ t ∈ colRow cs k r, ∃ p, ∃ w ∈ r, t = colW p w
  | [], k => fun t h => by cases h
  | x :: r, k => fun t h => by
    rcases List.mem_cons.mp h with rfl | h
    · exact ⟨_, x, by simp, rfl⟩
    · obtain ⟨p, w, hw, e⟩ := colRow_mem cs r (k + 1) t h
      exact ⟨p, w, List.mem_cons_of_mem _ hw, e⟩
theorem colRows_mem (cs : List Nat) : ∀ (rs : List (List (List Nat))) (k : Nat), ∀ row ∈ colRows cs k rs, ∃ k', ∃ r ∈ rs, row = colRow cs k' r
  | [], k => fun t h => by cases h
  | x :: r, k => fun t h => by
    rcases List.mem_cons.mp h with rfl | h
    · exact ⟨k, x, by simp, rfl⟩
    · obtain ⟨p, w, hw, e⟩ := colRows_mem cs r _ t h
      exact ⟨p, w, List.mem_cons_of_mem _ hw, e⟩
theorem colRows_flat_len (cs : List Nat) : ∀ (rs : List (List (List Nat))) (k : Nat), (colRows cs k rs).flatten.length = rs.flatten.length
  | [], k => rfl
  | x :: r, k => by
    show (colRow cs k x :: colRows cs (k + x.length) r).flatten.length = _
    rw [List.flatten_cons, List.flatten_cons, List.length_append, List.length_append, colRow_len, colRows_flat_len cs r]
theorem bare_colRow (cs : List Nat) : ∀ (r : List (List Nat)) (k : Nat), (colRow cs k r).map bare = r.map plain
  | [], k => rfl
  | x :: r, k => by
    show bare (colW _ x) :: (colRow cs (k + 1) r).map bare = _
    rw [bare_colW, bare_colRow cs r]; rfl
theorem bare_colRows (cs : List Nat) : ∀ (rs : List (List (List Nat))) (k : Nat), (colRows cs k rs).map (fun row => row.map bare) = rs.map fun row => row.map plain
  | [], k => rfl
  | x :: r, k => by
    show (colRow cs k x).map bare :: (colRows cs (k + x.length) r).map (fun row => row.map bare) = _
    rw [bare_colRow, bare_colRows cs r]; rfl
theorem bare_colP (cs : List Nat) (p : FPart) : bareP (colP cs p) = tokP p := by
  unfold bareP colP tokP
  rw [bare_colRows]
theorem tok_ok {p : FPart} (h : FOk p) : PrtOk (tokP p) := by
  refine ⟨h.ins, fun q => h.ne (List.map_eq_nil_iff.mp q), fun row hr => ?_, fun row hr t ht => ?_, ?_⟩
  · obtain ⟨r, hr2, rfl⟩ := List.mem_map.mp hr
    exact fun q => h.rne r hr2 (List.map_eq_nil_iff.mp q)
  · obtain ⟨r, hr2, rfl⟩ := List.mem_map.mp hr
    obtain ⟨w, hw, rfl⟩ := List.mem_map.mp ht
    exact wdt_plain (h.wd r hr2 w hw)
  · show (p.2.2.map fun row => row.map plain).flatten.length ≤ 8
    rw [← List.map_flatten, List.length_map]; exact h.ln
theorem col_ok {p : FPart} (cs : List Nat) (h : FOk p) : PrtOk (colP cs p) := by
  refine ⟨h.ins, fun q => ?_, fun row hr => ?_, fun row hr t ht => ?_, ?_⟩
  · have q : colRows cs 0 p.2.2 = [] := q
    have := colRows_len cs p.2.2 0
    rw [q] at this
    exact h.ne (List.length_eq_zero_iff.mp this.symm)
  · obtain ⟨k, r, hr2, rfl⟩ := colRows_mem cs _ _ row hr
    intro q
    have := colRow_len cs r k
    rw [q] at this
    exact h.rne r hr2 (List.length_eq_zero_iff.mp this.symm)
  · obtain ⟨k, r, hr2, rfl⟩ := colRows_mem cs _ _ row hr
    obtain ⟨p', w, hw, rfl⟩ := colRow_mem cs _ _ t ht
    exact wdt_col p' (h.wd r hr2 w hw)
  · show (colRows cs 0 p.2.2).flatten.length ≤ 8
    rw [colRows_flat_len]; exact h.ln
theorem flat_tokP (p : FPart) : flatP (tokP p) = p := by
  obtain ⟨raw, ins, rows⟩ := p
  show (raw, ins, (rows.map fun row => row.map plain).map fun row => row.map flatT) = _
  rw [List.map_map]
  have : (rows.map ((fun row => row.map flatT) ∘ fun row => row.map plain)) = rows := by
    conv => rhs; rw [← List.map_id rows]
    refine List.map_congr_left fun row _ => ?_
    show (row.map plain).map flatT = row
    rw [List.map_map]
    conv => rhs; rw [← List.map_id row]
    exact List.map_congr_left fun w _ => flatT_plain w
  rw [this]
theorem flat_prtT (q : Prt) : prtF (flatP q) = flatT (prtT q) := by
  unfold prtF prtT
  rw [joinTk_flat]
  congr 1
  have e : prtRF (flatP q) = (prtRows q).map flatT := by
    unfold prtRF prtRows flatP
    rw [List.map_append]
    congr 1
    · show (if q.1 = true then _ else _) = _
      split <;> rfl
    · show (flatRows q.2.2).map (joinL [32]) = _
      unfold flatRows
      rw [List.map_map, List.map_map]
      exact List.map_congr_left fun row _ => (joinTk_flat 32 row).symm
  unfold prtLF prtLines
  rw [e]
  cases prtRows q with
  | nil => rfl
  | cons l r =>
    show (List.replicate q.2.1 32 ++ flatT l) :: _ = flatT (blk q.2.1 ++ l) :: _
    rw [flatT_append]
    unfold blk
    rw [flatT_plain]
theorem flat_textT (qs : List Prt) : textF (qs.map flatP) = flatT (textT qs) := by
  unfold textF textT
  rw [joinT2_flat, List.map_map, List.map_map]
  congr 1
  exact List.map_congr_left fun q _ => flat_prtT q
theorem textF_tok (ps : List FPart) : textF ps = flatT (textT (ps.map tokP)) := by
  rw [← flat_textT, List.map_map]
  congr 1
  conv => lhs; rw [← List.map_id ps]
  exact List.map_congr_left fun p _ => (flat_tokP p).symm
theorem prt_sz {q : Prt} (h : PrtOk q) : FSz (flatP q) := by
  refine ⟨h.ins, fun q2 => h.ne (List.map_eq_nil_iff.mp q2), ?_, fun row hr => ?_⟩
  · show (flatRows q.2.2).length ≤ 8
    unfold flatRows
    rw [List.length_map]
    exact Nat.le_trans (szL_rows h.wd h.rne).2 h.ln
  · obtain ⟨r, hr2, rfl⟩ := List.mem_map.mp hr
    rw [szL_join]
    have h1 := szL_words (h.wd r hr2)
    have h2 : r.length ≤ q.2.2.flatten.length := by
      obtain ⟨s, t, e⟩ := List.append_of_mem hr2
      rw [e]; simp; omega
    have := h.ln
    omega
theorem fok_sz {p : FPart} (h : FOk p) : FSz p := by
  have := prt_sz (tok_ok h)
  rw [flat_tokP] at this; exact this

/-! ### what is due -/
def dueLines (w : Int) (fi fr : List Nat) (p : FPart) : List (List Nat) :=
  if p.1 = true then p.2.2.mapIdx fun i row => (if i = 0 then fi else fr) ++ List.replicate p.2.1 32 ++ joinL [32] row else lawLaid w (fi ++ List.replicate p.2.1 32) (fr ++ List.replicate p.2.1 32) p.2.2.flatten
def dueF (w : Int) (fi fr : List Nat) (p : FPart) : List Nat := joinL [10] (dueLines w fi fr p)
theorem due_lines (w : Int) (fi fr : List Nat) (p : FPart) : pageLines w (plain fi) (plain fr) (tokP p) = (dueLines w fi fr p).map plain := by
  obtain ⟨raw, ins, rows⟩ := p
  cases raw with
  | true =>
    show (rows.map fun row => row.map plain).mapIdx (fun i row => (if i = 0 then plain fi else plain fr) ++ blk ins ++ rowT row) = (rows.mapIdx fun i row => (if i = 0 then fi else fr) ++ List.replicate ins 32 ++ joinL [32] row).map plain
    refine List.ext_getElem? fun i => ?_
    rw [List.getElem?_mapIdx, List.getElem?_map, List.getElem?_map, List.getElem?_mapIdx]
    cases rows[i]? with
    | none => rfl
    | some row =>
      show some ((if i = 0 then plain fi else plain fr) ++ blk ins ++ rowT (row.map plain)) = some (plain ((if i = 0 then fi else fr) ++ List.replicate ins 32 ++ joinL [32] row))
      have e : rowT (row.map plain) = plain (joinL [32] row) := by
        have h1 : bare (rowT (row.map plain)) = rowT (row.map plain) := by
          rw [bare_rowT, List.map_map]
          congr 1
          exact List.map_congr_left fun w _ => bare_plain w
        have h2 : flatT (rowT (row.map plain)) = joinL [32] row := by
          unfold rowT
          rw [joinTk_flat, List.map_map]
          congr 1
          conv => rhs; rw [← List.map_id row]
          exact List.map_congr_left fun w _ => flatT_plain w
        rw [← h1] at h2
        rw [flat_bare] at h2
        rw [← h2]
        exact h1.symm
      rw [e, plain_append, plain_append]
      split <;> rfl
  | false =>
    show laidP w (plain fi ++ blk ins) (plain fr ++ blk ins) (rows.map fun row => row.map plain).flatten = (lawLaid w (fi ++ List.replicate ins 32) (fr ++ List.replicate ins 32) rows.flatten).map plain
    rw [← List.map_flatten]
    unfold blk
    rw [← plain_append, ← plain_append]
    exact lawLaid_T w _ _ _
theorem due_page (w : Int) (fi fr : List Nat) (p : FPart) : flatT (pageP w (plain fi) (plain fr) (tokP p)) = dueF w fi fr p := by
  unfold pageP dueF
  rw [joinTk_flat, due_lines, List.map_map]
  congr 1
  conv => rhs; rw [← List.map_id (dueLines w fi fr p)]
  exact List.map_congr_left fun l _ => flatT_plain l
theorem due_sz {w : Int} {fi fr : List Nat} {p : FPart} (h : FOk p) (li : fi.length ≤ 10) (lr : fr.length ≤ 10) : joinSize [10] (dueLines w fi fr p) ≤ 600 := by
  have h1 := pageLines_sz (w := w) (fi := plain fi) (fr := plain fr) (tok_ok h) (by rw [flatT_plain]; exact li) (by rw [flatT_plain]; exact lr)
  rw [← szL_join 10, due_lines, List.map_map] at h1
  have e : (dueLines w fi fr p).map (flatT ∘ plain) = dueLines w fi fr p := by
    conv => rhs; rw [← List.map_id (dueLines w fi fr p)]
    exact List.map_congr_left fun l _ => flatT_plain l
  rw [e] at h1; exact h1
theorem FOk.words {p : FPart} (h : FOk p) : p.2.2.flatten ≠ [] ∧ ∀ t ∈ p.2.2.flatten, WdN t := by
  refine ⟨fun q => ?_, fun t ht => ?_⟩
  · obtain ⟨r0, rs, e⟩ := List.exists_cons_of_ne_nil h.ne
    rw [e, List.flatten_cons] at q
    exact h.rne r0 (by rw [e]; simp) (List.append_eq_nil_iff.mp q).1
  · obtain ⟨r, hr, ht⟩ := List.mem_flatten.mp ht
    exact h.wd r hr t ht
theorem pageT_due (w : Int) (fi fr : List Nat) (ps : List FPart) : flatT (pageT w (plain fi) (plain fr) (ps.map tokP)) = joinL [10, 10] (ps.map (dueF w fi fr)) := by
  rw [pageT_flat, List.map_map]
  congr 1
  exact List.map_congr_left fun p _ => due_page w fi fr p
/-- the painted page without its colours is the page -/
theorem page_bare (w : Int) (fi fr cs : List Nat) (ps : List FPart) : signs (pageT w (plain fi) (plain fr) (ps.map (colP cs))) = joinL [10, 10] (ps.map (dueF w fi fr)) := by
  rw [← flat_bare, bare_pageT, bare_plain, bare_plain, List.map_map, ← pageT_due]
  congr 2
  exact List.map_congr_left fun p _ => bare_colP cs p
theorem text_bare (cs : List Nat) (ps : List FPart) : signs (textT (ps.map (colP cs))) = textF ps := by
  rw [← flat_bare, bare_textT, List.map_map, textF_tok]
  congr 2
  exact List.map_congr_left fun p _ => bare_colP cs p
/-- no line is too wide, and they are as few as can be -/
theorem due_laid {w : Int} {fi fr : List Nat} {p : FPart} (h : FOk p) (hw : 10 ≤ w) (li : fi.length ≤ 3) (lr : fr.length ≤ 3) :
    (∀ l ∈ lawLaid w (fi ++ List.replicate p.2.1 32) (fr ++ List.replicate p.2.1 32) p.2.2.flatten, (l.length : Int) ≤ w) ∧
    ((lawLaid w (fi ++ List.replicate p.2.1 32) (fr ++ List.replicate p.2.1 32) p.2.2.flatten).length : Int) = (leastF p.2.2.flatten ((fi.length : Int) + (p.2.1 : Int)) ((fr.length : Int) + (p.2.1 : Int)) w p.2.2.flatten.length).getD p.2.2.flatten.length 0 := by
  obtain ⟨h1, h2⟩ := h.words
  have hi := h.ins
  have hl := h.ln
  have e1 : ((fi ++ List.replicate p.2.1 32).length : Int) = (fi.length : Int) + (p.2.1 : Int) := by rw [List.length_append, List.length_replicate]; push_cast; rfl
  have e2 : ((fr ++ List.replicate p.2.1 32).length : Int) = (fr.length : Int) + (p.2.1 : Int) := by rw [List.length_append, List.length_replicate]; push_cast; rfl
  refine ⟨lawLaid_wide h1 fun x hx => ?_, ?_⟩
  · have := (h2 x hx).2.1
    rw [e1, e2]; omega
  · rw [← e1, ← e2]
    refine lawLaid_few h1 (by omega) fun k hk => ?_
    have := (h2 _ (List.getElem_mem hk)).2.1
    rw [e1, e2]; omega
end

section
variable {c : FC} {P : Params} {n : Nat} {m : LM} {H : HM} {X : XM}
/-! ## law 2: the frame's cells -/
def CellsAt (H : HM) (L : Addr) (vs : List (Option Value)) : Prop := ∀ (i : Nat) v, vs[i]? = some v → H (L + 1 + i) = some (.cell v)
theorem CellsAt.upd {H H' : HM} {L : Addr} {vs : List (Option Value)} {l : List Addr} (C : CellsAt H L vs) (u : Upd l H H') (hl : ∀ x ∈ l, ∀ v, H x ≠ some (.cell v)) : CellsAt H' L vs := fun i v e =>
  u _ _ (fun q => hl _ q _ (C i v e)) (C i v e)
theorem addNe (L i j : Nat) (h : j ≠ i) : L + 1 + j ≠ L + 1 + i := by omega
theorem CellsAt.put {L : Addr} {vs : List (Option Value)} {i : Nat} {v : Option Value} (C : CellsAt H L vs) (hi : i < vs.length) : CellsAt (H.set (L + 1 + i) (.cell v)) L (vs.set i v) := fun j u e => by
  by_cases q : j = i
  · subst q
    rw [List.getElem?_set_self hi] at e
    rw [HM.set_same]
    cases e; rfl
  · rw [List.getElem?_set_ne (Ne.symm q)] at e
    rw [HM.set_ne _ _ (addNe L i j q)]
    exact C j u e
structure LS1 (P : Params) (L d e : Addr) (vs : List (Option Value)) (H : HM) : Prop where
  C : CellsAt H L vs
  D : DrS H d e
  T : TabSt P H
theorem DrS.dn {d e : Addr} (D : DrS H d e) : (∀ v, H d ≠ some (.cell v)) ∧ (∀ v, H e ≠ some (.cell v)) ∧ (∀ o, H d ≠ some (.raw o)) ∧ ∀ o, H e ≠ some (.raw o) := by
  obtain ⟨_, i, ns, hd, he, _⟩ := D
  refine ⟨fun v q => ?_, fun v q => ?_, fun v q => ?_, fun v q => ?_⟩
  · rw [hd] at q; cases q
  · rw [he] at q; cases q
  · rw [hd] at q; cases q
  · rw [he] at q; cases q
theorem LS1.pure {H' : HM} {L d e : Addr} {vs : List (Option Value)} (S : LS1 P L d e vs H) (u : Upd [] H H') : LS1 P L d e vs H' := ⟨S.C.upd u (by simp), S.D.upd u (by simp) (by simp), S.T.upd u (by simp)⟩
theorem LS1.draw {H' : HM} {L d e : Addr} {vs : List (Option Value)} (S : LS1 P L d e vs H) (u : Upd [d] H H') (D : DrS H' d e) : LS1 P L d e vs H' :=
  ⟨S.C.upd u fun x hx v => by rw [List.mem_singleton.mp hx]; exact S.D.dn.1 v, D, S.T.upd u fun x hx o => by rw [List.mem_singleton.mp hx]; exact S.D.dn.2.2.1 o⟩
theorem LS1.tab {H' : HM} {L d e : Addr} {vs : List (Option Value)} (S : LS1 P L d e vs H) (u : Upd [185] H H') (T : TabSt P H') : LS1 P L d e vs H' := by
  obtain ⟨ps, t1, _⟩ := S.T
  refine ⟨S.C.upd u fun x hx v q => ?_, S.D.upd u (fun q => ?_) fun q => ?_, T⟩
  · rw [List.mem_singleton.mp hx, t1] at q; cases q
  · exact S.D.dn.2.2.1 _ (by rw [List.mem_singleton.mp q]; exact t1)
  · exact S.D.dn.2.2.2 _ (by rw [List.mem_singleton.mp q]; exact t1)
theorem LS1.put {L d e : Addr} {vs : List (Option Value)} (S : LS1 P L d e vs H) (i : Nat) (v : Option Value) {w : Option Value} (hi : vs[i]? = some w) : LS1 P L d e (vs.set i v) (H.set (L + 1 + i) (.cell v)) := by
  have hc := S.C i w hi
  have u : Upd [L + 1 + i] H (H.set (L + 1 + i) (.cell v)) := Upd.at (by simp) (Upd.refl _ _)
  refine ⟨S.C.put (List.getElem?_eq_some_iff.mp hi).1, S.D.upd u (fun q => ?_) fun q => ?_, S.T.upd u fun x hx o q => ?_⟩
  · exact S.D.dn.1 _ (by rw [List.mem_singleton.mp q]; exact hc)
  · exact S.D.dn.2.1 _ (by rw [List.mem_singleton.mp q]; exact hc)
  · rw [List.mem_singleton.mp hx, hc] at q; cases q
/-- the parts in the heap -/
def PA (pr : Addr) (ps : List FPart) (H : HM) : Prop := ∃ as : List Addr, H pr = some (.list (as.map .ref)) ∧ F2 (PartAt H) as ps
theorem PA.upd {H' : HM} {pr : Addr} {ps : List FPart} {l : List Addr} (A : PA pr ps H) (u : Upd l H H') (hl : ∀ x ∈ l, NoPart H x) : PA pr ps H' := by
  obtain ⟨as, h1, h2⟩ := A
  exact ⟨as, u _ _ (fun q => (hl _ q).r _ h1) h1, h2.mono fun a b => PartAt.upd u hl⟩
theorem Turns.ok {K : Frag} {scope : Scope} {cl : List (Str × Addr)} {elt tgt : Expr} {gens : List Comprehension} {pos : Pos} {xs : List Value} {tup : Bool} {Hd : HM} {Qf : List Value → HM → Prop} (O : Ok c K n) (hk : scope.kind = .function)
    (h : ∀ C, Ok (c.comp scope cl C) K n → Turns (c.comp scope cl C) elt gens scope pos tgt xs tup Hd Qf) : ∀ C, Turns (c.comp scope cl C) elt gens scope pos tgt xs tup Hd Qf := fun C => h C (O.comp hk cl C)
theorem Ev.sliceB {value : Expr} {lower upper : Option Expr} {p pos : Pos} {ws : List Value} {r : Addr} {Q : Value → HM → Prop} (hb : c.s₀.heap.IsList r ws.toArray) (hl : ws.length ≤ 16000000)
    (h : Ev c value m H (fun o H1 => EvP c lower m H1 (fun l H2 => EvP c upper m H2 (fun u H3 => ∃ a b, Bnd l a ∧ Bnd u b ∧ o = .ref r ∧ ∀ q, H3 q = none → Q (.ref q) (H3.set q (.list (cut (ws.map er) a b)))) X) X) X) : Ev c (.Subscript value (.Slice lower upper none p) pos) m H Q X := fun G s St' => by
  refine Subscript_ (wpAny_mono (h G s St') (fun O s1 ⟨H1, S1, h1⟩ => ?_) fun _ _ e => e)
  rw [eval_Slice3]
  refine wpAny_bind (wpAny_mono (h1 G s1 S1) (fun L s2 ⟨H2, S2, h2⟩ => wpAny_bind (wpAny_holding (wpAny_mono (h2 G s2 S2) (fun U s3 ⟨H3, S3, a, b, ba, bb, e, hq⟩ => wpAny_bind (wpAny_holding (wpAny_pure ?_))) fun _ _ e => e))) fun _ _ e => e)
  obtain ⟨pa, qa, rfl, ea⟩ := ba.part
  obtain ⟨pb, qb, rfl, eb⟩ := bb.part
  refine wpAny_newObj_type ?_ (by size_fits)
  have S4 := S3.keeps' (h' := s3.heap.push { cls := .type "slice", data := .fields #[partValue qa, partValue qb, .none] }) fun b o e => Heap.get?_push_of_some _ e
  obtain rfl := er_ref e
  obtain ⟨ol, hol, hcl, nl, hdl⟩ := hb
  have hg' := Heap.get?_push_of_some { cls := .type "slice", data := .fields #[partValue qa, partValue qb, .none] } (S3.base _ _ hol)
  refine tail_any (T := "list") ⟨_, hg', hcl⟩ slot_list_getitem.lookup (wpAny_getItem_list_slice ⟨ol, hg', hcl, nl, hdl⟩ (Heap.IsSliceOf.new ..) pa pb .none (by simp) ?_ (by rw [List.size_toArray]; exact sizeLine_ge hl)) rfl
  rw [slicePick_cut]
  exact ⟨_, S4.push (ao := .list ((cut ws a b).map er)) ⟨_, 0, rfl, rfl⟩ rfl, by rw [cut_map]; exact hq _ S4.fresh.1⟩
noncomputable def lawBody (P : Params) : List Stmt := match (fdOf (KK P) 240).body with
  | .stmts l => l
  | _ => []
noncomputable def lawR (P : Params) (k : Nat) : List Stmt := (lawBody P).drop k
/-- width, and the two indents -/
theorem law1 {sc L : Addr} {ns : List Int} {ws : List Value} {Q : Value → HM → Prop} (O : Ok (c.call (fdOf (KK P) 240) L 240) (KK P) (n + 12)) (hC : CellsAt H L [none, none, none, none, none, none, none, none, none]) (hT : TabSt P H) (hsc : c.s₀.heap.IsList sc ws.toArray) (hws : ws.map er = ns.map VI) (hl : ns.length ≤ 1000)
    (h : ∀ (d e : Addr) (w : Int) (a b : Nat) H', 10 ≤ w → w ≤ 17 → a ≤ 3 → b ≤ 3 → LS1 P L d e [some (.ref d), some (VI w), some (VT (List.replicate a 32)), some (VT (List.replicate b 32)), none, none, none, none, none] H' → Exs (c.call (fdOf (KK P) 240) L 240) (lawR P 4) [] H' (EndJ Q) XF) :
    Exs (c.call (fdOf (KK P) 240) L 240) (lawR P 0) [("script", .ref sc)] H (EndJ Q) XF := by
  have e0 : lawR P 0 = _ :: lawR P 1 := rfl
  have e1 : lawR P 1 = _ :: lawR P 2 := rfl
  have e2 : lawR P 2 = _ :: lawR P 3 := rfl
  have e3 : lawR P 3 = _ :: lawR P 4 := rfl
  rw [e0]
  with_reducible refine Exs.via (fun m' H' => ∃ d e, m' = ([] : LM) ∧ LS1 P L d e [some (.ref d), none, none, none, none, none, none, none, none] H') ?_ ?_
  · have c1 : H (L + 1) = some (.cell none) := hC 0 _ rfl
    have hwl : ws.length = ns.length := by have := congrArg List.length hws; simpa using this
    iterate 3 walk_at "go"
    refine Ev.sliceB hsc (by omega) ?_
    walk_at "run"
    refine ⟨none, some 60, .non, Bnd.ofInt (by decide), rfl, fun q hq => ?_⟩
    have hcut : cut (ws.map er) none (some 60) = (ns.take 60).map VI := by
      rw [hws]
      show ((ns.map VI).take 60).drop 0 = _
      rw [List.drop_zero, List.map_take]
    rw [hcut]
    have c2 : (H.set q (.list ((ns.take 60).map VI))) (L + 1) = some (.cell none) := by rw [HM.set_ne _ _ (HM.ne_of hq c1)]; exact c1
    walk_at "run"
    rename_i d hd1 hd2
    have hdn : (H.set q (.list ((ns.take 60).map VI))) d = none := HM.set_none.mpr ⟨hd1, hd2⟩
    have u : Upd [] H ((H.set q (.list ((ns.take 60).map VI))).set d (.list [.ref q, VI 0])) := Upd.new hdn (Upd.new hq (Upd.refl _ _))
    have S : LS1 P L d q [none, none, none, none, none, none, none, none, none] ((H.set q (.list ((ns.take 60).map VI))).set d (.list [.ref q, VI 0])) :=
      ⟨hC.upd u (by simp), ⟨hd1, 0, ns.take 60, HM.set_same _ _ _, by rw [HM.set_ne _ _ (Ne.symm hd1), HM.set_same], by rw [List.length_take]; omega⟩, hT.upd u (by simp)⟩
    exact ViaJ.mk (by walk_at "le") ⟨d, q, rfl, S.put 0 (some (.ref d)) rfl⟩
  rintro _ H1 ⟨d, e, rfl, S1⟩
  rw [e1]
  with_reducible refine Exs.via (fun m' H' => ∃ w : Int, m' = ([] : LM) ∧ 10 ≤ w ∧ w ≤ 17 ∧ LS1 P L d e [some (.ref d), some (VI w), none, none, none, none, none, none, none] H') ?_ ?_
  · have c1 : H1 (L + 1) = some (.cell (some (.ref d))) := S1.C 0 _ rfl
    walk_at "run"
    with_reducible refine K_next (n := n + 11) (by assumption) S1.D (by decide) fun v H2 hv u D2 => ?_
    have S2 := S1.draw u D2
    have c2 : H2 (L + 1 + 1) = some (.cell none) := S2.C 1 _ rfl
    walk_at "run"
    exact ViaJ.mk (by walk_at "le") ⟨10 + (v : Int), rfl, by omega, by omega, S2.put 1 (some (VI (10 + (v : Int)))) rfl⟩
  rintro _ H2 ⟨w, rfl, w1, w2, S2⟩
  rw [e2]
  with_reducible refine Exs.via (fun m' H' => ∃ a : Nat, m' = ([] : LM) ∧ a ≤ 3 ∧ LS1 P L d e [some (.ref d), some (VI w), some (VT (List.replicate a 32)), none, none, none, none, none, none] H') ?_ ?_
  · have c1 : H2 (L + 1) = some (.cell (some (.ref d))) := S2.C 0 _ rfl
    walk_at "run"
    with_reducible refine K_next (n := n + 11) (by assumption) S2.D (by decide) fun v H3 hv u D3 => ?_
    have S3 := S2.draw u D3
    have c2 : H3 (L + 1 + 1 + 1) = some (.cell none) := S3.C 2 _ rfl
    walk_at "run"
    refine O_mulT (by omega) (by simp; omega) ?_
    rw [Int.toNat_natCast, times_one]
    walk_at "run"
    exact ViaJ.mk (by walk_at "le") ⟨v, rfl, by omega, S3.put 2 (some (VT (List.replicate v 32))) rfl⟩
  rintro _ H3 ⟨a, rfl, ha, S3⟩
  rw [e3]
  with_reducible refine Exs.via (fun m' H' => ∃ b : Nat, m' = ([] : LM) ∧ b ≤ 3 ∧ LS1 P L d e [some (.ref d), some (VI w), some (VT (List.replicate a 32)), some (VT (List.replicate b 32)), none, none, none, none, none] H') ?_ ?_
  · have c1 : H3 (L + 1) = some (.cell (some (.ref d))) := S3.C 0 _ rfl
    walk_at "run"
    with_reducible refine K_next (n := n + 11) (by assumption) S3.D (by decide) fun v H4 hv u D4 => ?_
    have S4 := S3.draw u D4
    have c2 : H4 (L + 1 + 1 + 1 + 1) = some (.cell none) := S4.C 3 _ rfl
    walk_at "run"
    refine O_mulT (by omega) (by simp; omega) ?_
    rw [Int.toNat_natCast, times_one]
    walk_at "run"
    exact ViaJ.mk (by walk_at "le") ⟨v, rfl, by omega, S4.put 3 (some (VT (List.replicate v 32))) rfl⟩
  rintro _ H4 ⟨b, rfl, hb, S4⟩
  exact h d e w a b H4 w1 w2 ha hb S4
end

section
variable {c : FC} {P : Params} {n : Nat} {m : LM} {H : HM} {X : XM}
variable {p : Program} {loose : List Str} {mean : ExcName → Option Value} {mg mb : Str → Option Value}
/-- the cells at the law's stages -/
def vsL (d : Addr) (w : Int) (a b : Nat) (i r co t br : Option Value) : List (Option Value) := [some (.ref d), some (VI w), some (VT (List.replicate a 32)), some (VT (List.replicate b 32)), i, r, co, t, br]
theorem law2 {d e L : Addr} {w : Int} {a b : Nat} {Q : Value → HM → Prop} (O : Ok (c.call (fdOf (KK P) 240) L 240) (KK P) (n + 12)) (S : LS1 P L d e (vsL d w a b none none none none none) H)
    (h : ∀ (pr : Addr) (ps : List FPart) H', ps ≠ [] → ps.length ≤ 3 → (∀ q ∈ ps, FOk q) → PA pr ps H' → LS1 P L d e (vsL d w a b none none none none none) H' → Exs (c.call (fdOf (KK P) 240) L 240) (lawR P 5) [("parts", .ref pr)] H' (EndJ Q) XF) :
    Exs (c.call (fdOf (KK P) 240) L 240) (lawR P 4) [] H (EndJ Q) XF := by
  have e4 : lawR P 4 = _ :: lawR P 5 := rfl
  rw [e4]
  with_reducible refine Exs.via (fun m' H' => ∃ pr ps, m' = ([("parts", .ref pr)] : LM) ∧ ps ≠ [] ∧ ps.length ≤ 3 ∧ (∀ q ∈ ps, FOk q) ∧ PA pr ps H' ∧ LS1 P L d e (vsL d w a b none none none none none) H') ?_ ?_
  · refine Ex.asgC O.hh rfl rfl rfl rfl rfl (by decide) (by decide) ?_ (fun _ => rfl)
    have c1 : H (L + 1) = some (.cell (some (.ref d))) := S.C 0 _ rfl
    walk_at "run"
    with_reducible refine K_next (n := n + 11) (by assumption) S.D (by decide) fun v H1 hv u D1 => ?_
    have S1 := S.draw u D1
    walk_at "run"
    refine C_range1 fun rg o hrg ho => ?_
    have S2 : LS1 P L d e (vsL d w a b none none none none none) (H1.set rg (.raw o)) := S1.pure (Upd.new hrg (Upd.refl _ _))
    refine ⟨_, _, _, _, Src.range (HM.set_same _ _ _) ho (by omega) (by omega) (by omega), fun ys H' => ∃ as ps, ys = as.map .ref ∧ F2 (PartAt H') as ps ∧ ps ≠ [] ∧ ps.length ≤ 3 ∧ (∀ q ∈ ps, FOk q) ∧ LS1 P L d e (vsL d w a b none none none none none) H', Turns.ok (by assumption) rfl fun C Oc => ?_, ?_⟩
    · with_reducible refine Turns.one (fun k ys m' H' => m' = ([] : LM) ∧ ∃ as ps, ys = as.map .ref ∧ F2 (PartAt H') as ps ∧ ps.length = k ∧ (∀ q ∈ ps, FOk q) ∧ LS1 P L d e (vsL d w a b none none none none none) H') ?_ ?_ ?_
      · exact Keep.here ⟨rfl, [], [], rfl, .nil, rfl, by simp, S2⟩
      · rintro k x ys m' H' hx ⟨rfl, as, ps, rfl, g1, g2, g3, S3⟩
        rw [List.getElem?_map, Option.map_eq_some_iff] at hx
        obtain ⟨k', hk', rfl⟩ := hx
        have hk : k < 3 := by
          have := (List.getElem?_eq_some_iff.mp hk').1
          rw [List.length_range] at this; omega
        have c1 : H' (L + 1) = some (.cell (some (.ref d))) := S3.C 0 _ rfl
        walk_at "run"
        refine TestsJ.nil ?_
        rw [if_pos rfl]
        refine ⟨by rw [List.length_map, g1.len]; omega, ?_⟩
        walk_at "run"
        with_reducible refine K_par (n := n + 10) (by assumption) S3.D fun t q H2 hq hat u2 D2 => ?_
        have hnp : ∀ x ∈ [d], NoPart H' x := fun x hx => by rw [List.mem_singleton.mp hx]; exact NoPart.draw S3.D
        refine ⟨_, _, by walk_at "le", HM.le.refl _, rfl, as ++ [t], ps ++ [q], by rw [List.map_append]; rfl, F2.snoc (g1.mono fun a b => PartAt.upd u2 hnp) hat, by rw [List.length_append, g2]; rfl, fun y hy => ?_, S3.draw u2 D2⟩
        rcases List.mem_append.mp hy with hy | hy
        · exact g3 y hy
        · rw [List.mem_singleton.mp hy]; exact hq
      · rintro ys m' H' ⟨rfl, as, ps, rfl, g1, g2, g3, S3⟩
        rw [List.length_map, List.length_range] at g2
        exact ⟨as, ps, rfl, g1, fun q => by rw [q] at g2; simp only [List.length_nil] at g2; omega, by omega, g3, S3⟩
    · rintro D ys H' hD1 hD2 ⟨as, ps, rfl, g1, g2, g3, g4, S3⟩
      have u3 : Upd [] H' (H'.set D (.list (as.map .ref))) := Upd.new hD2 (Upd.refl _ _)
      exact ViaJ.mk (by walk_at "le") ⟨D, ps, rfl, g2, g3, g4, ⟨as, HM.set_same _ _ _, g1.mono fun a b => PartAt.upd u3 (by simp)⟩, S3.pure u3⟩
  rintro _ H1 ⟨pr, ps, rfl, g2, g3, g4, A1, S1⟩
  exact h pr ps H1 g2 g3 g4 A1 S1
/-- wrap_text of paragraphs, by tokens -/
theorem K_textP (T : Top p loose mean mg mb c.s₀.heap) (C : ∀ cc, (fdOf (KK P) 190).code = .ref cc → CodeHd c.s₀.heap cc 185) {w : Int} {a b : Nat} {qs : List Prt} {Q : Value → HM → Prop} (O : Ok c (KK P) (n + 8)) (hw : 10 ≤ w) (ha : a ≤ 3) (hb : b ≤ 3) (hn : qs ≠ []) (hl : qs.length ≤ 3) (hq : ∀ q ∈ qs, PrtOk q) (hT : TabSt P H)
    (h : ∀ H', Upd [185] H H' → TabSt P H' → Q (VT (flatT (pageT w (blk a) (blk b) qs))) H') : CallJ c (.ref 190) [VT (flatT (textT qs)), VI w, VT (List.replicate a 32), VT (List.replicate b 32), VB true] [] m H Q X := by
  have ea : flatT (blk a) = List.replicate a 32 := flatT_plain _
  have eb : flatT (blk b) = List.replicate b 32 := flatT_plain _
  obtain ⟨q0, qr, rfl⟩ := List.exists_cons_of_ne_nil hn
  have hsz := textT_len _ hq
  have hps := page_sz (w := w) (fi := blk a) (fr := blk b) (by rw [blk_len]; omega) (by rw [blk_len]; omega) hq
  have hres : F2 (ParRes w (blk a) (blk b)) (parsT (textT (q0 :: qr))) ((q0 :: qr).map fun q => flatT (pageP w (blk a) (blk b) q)) := by
    rw [textT_pars hq]
    exact pars_res (by rw [vis_blk]; exact ha) (by rw [vis_blk]; exact hb) (by rw [blk_len]; omega) (by rw [blk_len]; omega) hw hq
  have := K_text1 (ts := textT (q0 :: qr)) (fi := blk a) (fr := blk b) (m := m) (H := H) (Q := Q) (X := X) (w := w) (n := n) T C O (by omega) (blk_ok a) (blk_ok b) (textT_ok _ hq) (by rw [blk_len]; omega) (by rw [blk_len]; omega) (by omega) hT hres (by omega) (fun H' u t => by
    have := h H' u t
    rw [pageT_flat] at this; exact this)
  rw [ea, eb] at this
  exact this
/-- .. of plain paragraphs -/
theorem K_textF (T : Top p loose mean mg mb c.s₀.heap) (C : ∀ cc, (fdOf (KK P) 190).code = .ref cc → CodeHd c.s₀.heap cc 185) {w : Int} {a b : Nat} {ps : List FPart} {Q : Value → HM → Prop} (O : Ok c (KK P) (n + 8)) (hw : 10 ≤ w) (ha : a ≤ 3) (hb : b ≤ 3) (hn : ps ≠ []) (hl : ps.length ≤ 3) (hq : ∀ q ∈ ps, FOk q) (hT : TabSt P H)
    (h : ∀ H', Upd [185] H H' → TabSt P H' → Q (VT (joinL [10, 10] (ps.map (dueF w (List.replicate a 32) (List.replicate b 32))))) H') : CallJ c (.ref 190) [VT (textF ps), VI w, VT (List.replicate a 32), VT (List.replicate b 32), VB true] [] m H Q X := by
  rw [textF_tok]
  refine K_textP T C O hw ha hb (fun q => hn (List.map_eq_nil_iff.mp q)) (by rw [List.length_map]; exact hl) (fun q hq' => ?_) hT fun H' u t => ?_
  · obtain ⟨y, hy, rfl⟩ := List.mem_map.mp hq'
    exact tok_ok (hq y hy)
  · have := h H' u t
    rw [← pageT_due] at this; exact this
theorem PA.sz {pr : Addr} {ps : List FPart} {H : HM} (A : PA pr ps H) : ∃ as : List Addr, as.length = ps.length ∧ H pr = some (.list (as.map .ref)) ∧ F2 (PartAt H) as ps := by
  obtain ⟨as, h1, h2⟩ := A
  exact ⟨as, h2.len, h1, h2⟩
theorem TabSt.np (T : TabSt P H) : ∀ x ∈ [185], NoPart H x := fun x hx => by
  obtain ⟨ps, t1, _⟩ := T
  rw [List.mem_singleton.mp hx]; exact NoPart.raw t1
theorem law3 (T : Top p loose mean mg mb c.s₀.heap) (C : ∀ cc, (fdOf (KK P) 190).code = .ref cc → CodeHd c.s₀.heap cc 185) {d e L pr : Addr} {w : Int} {a b : Nat} {ps : List FPart} {Q : Value → HM → Prop} (O : Ok (c.call (fdOf (KK P) 240) L 240) (KK P) (n + 12)) (S : LS1 P L d e (vsL d w a b none none none none none) H) (hw : 10 ≤ w) (ha : a ≤ 3) (hb : b ≤ 3)
    (hn : ps ≠ []) (hl : ps.length ≤ 3) (hq : ∀ q ∈ ps, FOk q) (A : PA pr ps H)
    (h : ∀ H', PA pr ps H' → LS1 P L d e (vsL d w a b none none none none none) H' → Exs (c.call (fdOf (KK P) 240) L 240) (lawR P 6) [("page", VT (joinL [10, 10] (ps.map (dueF w (List.replicate a 32) (List.replicate b 32))))), ("parts", .ref pr)] H' (EndJ Q) XF) :
    Exs (c.call (fdOf (KK P) 240) L 240) (lawR P 5) [("parts", .ref pr)] H (EndJ Q) XF := by
  have e5 : lawR P 5 = _ :: lawR P 6 := rfl
  rw [e5]
  with_reducible refine Exs.via (fun m' H' => m' = ([("page", VT (joinL [10, 10] (ps.map (dueF w (List.replicate a 32) (List.replicate b 32))))), ("parts", .ref pr)] : LM) ∧ PA pr ps H' ∧ LS1 P L d e (vsL d w a b none none none none none) H') ?_ ?_
  · have c2 : H (L + 1 + 1) = some (.cell (some (VI w))) := S.C 1 _ rfl
    have c3 : H (L + 1 + 1 + 1) = some (.cell (some (VT (List.replicate a 32)))) := S.C 2 _ rfl
    have c4 : H (L + 1 + 1 + 1 + 1) = some (.cell (some (VT (List.replicate b 32)))) := S.C 3 _ rfl
    obtain ⟨as, _, A1, A2⟩ := A.sz
    walk_at "run"
    with_reducible refine K_ltxt (n := n + 11) (by assumption) A1 A2 (by omega) (fun q hq' => fok_sz (hq q hq')) ?_
    walk_at "run"
    with_reducible refine K_textF (n := n + 4) (c := c.call (fdOf (KK P) 240) L 240) T C (by assumption) hw ha hb hn hl hq S.T fun H2 u2 T2 => ?_
    walk_at "run"
    exact ViaJ.mk (by walk_at "le") ⟨rfl, A.upd u2 S.T.np, S.tab u2 T2⟩
  rintro _ H1 ⟨rfl, A1, S1⟩
  exact h H1 A1 S1
end

section
variable {c : FC} {P : Params} {n : Nat} {m : LM} {H : HM} {X : XM}
/-- all words of rows -/
theorem words_turns {c' : FC} {iter : Expr} {scope : Scope} {pos p1 p2 p3 p4 : Pos} {rr : Addr} {bs : List Addr} {rows : List (List (List Nat))} {H1 : HM} (hh : c'.A.handled = none) (hk : c'.env.scope.kind = .function) (hr : c'.env.kindOf (Str.ofString "row") = some .local) (hw : c'.env.kindOf (Str.ofString "word") = some .local)
    (g1 : H1 rr = some (.list (bs.map .ref))) (g2 : F2 (RowAt H1) bs rows) (hl : rows.flatten.length ≤ 1000) :
    Turns c' (.Name (Str.ofString "word") p1) [⟨.Name (Str.ofString "row") p2, iter, [], 0⟩, ⟨.Name (Str.ofString "word") p3, .Name (Str.ofString "row") p4, [], 0⟩] scope pos (.Name (Str.ofString "row") p2) (bs.map .ref) false (H1.del rr) fun ys H' => H' = H1.del rr ∧ ys = rows.flatten.map VT := by
  with_reducible refine Turns.two hh (fun _ => rfl) (fun k ys m' H' => H' = H1.del rr ∧ m' = ([] : LM) ∧ ys = (rows.take k).flatten.map VT) ?_ ?_ ?_
  · exact Keep.here ⟨rfl, rfl, rfl⟩
  · rintro k x ys m' H' hx ⟨rfl, rfl, rfl⟩
    rw [List.getElem?_map, Option.map_eq_some_iff] at hx
    obtain ⟨b, hb, rfl⟩ := hx
    obtain ⟨row, hrow, hat⟩ := g2.get hb
    have hbs : bs ≠ [] := fun q => by rw [q] at hb; simp at hb
    have hdel : (H1.del rr) b = some (.list (row.map VT)) := by rw [HM.del_ne _ (Ne.symm (ref_ne_txt' g1 hat hbs))]; exact hat
    have hrl := mem_flat_len (List.mem_of_getElem? hrow)
    have htk : (rows.take (k + 1)).flatten = (rows.take k).flatten ++ row := by rw [List.take_add_one, hrow, List.flatten_append]; simp
    have hkl := take_flat_len (rows := rows) k
    show Tgt c' _ _ _ _ _ _
    refine Tgt.name (StoreJ.loc hk hr ?_)
    refine TestsJ.nil ?_
    rw [if_pos rfl]
    refine Ev.loc hk hr rfl ?_ rfl
    refine ⟨b, _, rfl, hdel, by rw [List.length_map]; omega, fun i ys m' H' => H' = (H1.del rr).del b ∧ m' = ([] : LM) ∧ ys = ((rows.take k).flatten ++ row.take i).map VT, ⟨[], _, LM.le_nil _, HM.le.refl _, rfl, rfl, by simp⟩, ?_, ?_⟩
    · rintro i x ys m' H' hx ⟨rfl, rfl, rfl⟩
      rw [List.getElem?_map, Option.map_eq_some_iff] at hx
      obtain ⟨y, hy, rfl⟩ := hx
      refine Tgt.name (StoreJ.loc hk hw ?_)
      refine TestsJ.nil ?_
      rw [if_pos rfl]
      refine ⟨by rw [List.length_map, List.length_append, List.length_take]; omega, ?_⟩
      refine Ev.loc hk hw rfl ?_ rfl
      refine ⟨[], _, LM.le_nil _, HM.le.refl _, rfl, rfl, ?_⟩
      rw [List.take_add_one, hy]
      simp
    · rintro ys' m' H' ⟨rfl, rfl, rfl⟩
      rw [List.length_map, List.take_length, HM.del_set _ hdel]
      exact Keep.here ⟨rfl, rfl, by rw [htk]⟩
  · rintro ys m' H' ⟨rfl, rfl, rfl⟩
    rw [List.length_map, g2.len, List.take_length]
    exact ⟨rfl, rfl⟩
theorem back_upd {H1 : HM} {rr D : Addr} {o X : AO} (g1 : H1 rr = some o) (hD : H1 D = none) : Upd [] H1 (((H1.del rr).set D X).set rr o) ∧ (((H1.del rr).set D X).set rr o) D = some X := by
  have nDr : D ≠ rr := fun z => by rw [z, g1] at hD; cases hD
  refine ⟨fun b o' _ eb => ?_, by rw [HM.set_ne _ _ nDr, HM.set_same]⟩
  by_cases z : b = rr
  · rw [z, HM.set_same, ← g1, ← z]; exact eb
  · rw [HM.set_ne _ _ z, HM.set_ne _ _ (HM.ne_of hD eb), HM.del_ne _ z]; exact eb
end

section
variable {c : FC} {P : Params} {n : Nat} {m : LM} {H : HM} {X : XM}
noncomputable def forB (P : Params) : List Stmt := match ((lawBody P)[7]? : Option Stmt) with
  | some (Stmt.For _ _ b _ _) => b
  | _ => []
noncomputable def fR (P : Params) (k : Nat) : List Stmt := (forB P).drop k
theorem due_raw {w : Int} {fi fr : List Nat} {q : FPart} (hr : q.1 = true) : dueLines w fi fr q = q.2.2.mapIdx fun i row => (if i = 0 then fi else fr) ++ List.replicate q.2.1 32 ++ joinL [32] row := by
  unfold dueLines; rw [if_pos hr]
theorem due_not {w : Int} {fi fr : List Nat} {q : FPart} (hr : q.1 = false) : dueLines w fi fr q = lawLaid w (fi ++ List.replicate q.2.1 32) (fr ++ List.replicate q.2.1 32) q.2.2.flatten := by
  unfold dueLines; rw [hr, if_neg Bool.false_ne_true]
set_option maxRecDepth 200000 in
theorem lines_if {d e L pr du rr wr : Addr} {pg : Value} {w : Int} {a b : Nat} {q : FPart} {bs : List Addr} {Q' : Flow → LM → HM → Prop} (O : Ok (c.call (fdOf (KK P) 240) L 240) (KK P) (n + 12)) (S : LS1 P L d e (vsL d w a b (some (VI q.2.1)) (some (.ref rr)) none none none) H) (hw : 10 ≤ w) (ha : a ≤ 3) (hb : b ≤ 3) (hq : FOk q)
    (g1 : H rr = some (.list (bs.map .ref))) (g2 : F2 (RowAt H) bs q.2.2) (gw : H wr = some (.list (q.2.2.flatten.map VT)))
    (h : ∀ lr H', Upd [] H H' → H' lr = some (.list ((dueLines w (List.replicate a 32) (List.replicate b 32) q).map VT)) → Exs (c.call (fdOf (KK P) 240) L 240) (fR P 2) [("lines", .ref lr), ("raw", VB q.1), ("due", .ref du), ("page", pg), ("parts", .ref pr)] H' Q' XF) :
    Exs (c.call (fdOf (KK P) 240) L 240) (fR P 1) [("words", .ref wr), ("raw", VB q.1), ("due", .ref du), ("page", pg), ("parts", .ref pr)] H Q' XF := by
  have e1 : fR P 1 = _ :: fR P 2 := rfl
  have c2 : H (L + 1 + 1) = some (.cell (some (VI w))) := S.C 1 _ rfl
  have c3 : H (L + 1 + 1 + 1) = some (.cell (some (VT (List.replicate a 32)))) := S.C 2 _ rfl
  have c4 : H (L + 1 + 1 + 1 + 1) = some (.cell (some (VT (List.replicate b 32)))) := S.C 3 _ rfl
  have c5 : H (L + 1 + 1 + 1 + 1 + 1) = some (.cell (some (VI q.2.1))) := S.C 4 _ rfl
  have c6 : H (L + 1 + 1 + 1 + 1 + 1 + 1) = some (.cell (some (.ref rr))) := S.C 5 _ rfl
  have hbl : bs.length = q.2.2.length := g2.len
  have hrl := rows_len hq.rne
  have hln := hq.ln
  have hin := hq.ins
  have hsz := fok_sz hq
  rw [e1]
  with_reducible refine Exs.via (fun m' H' => ∃ lr, m' = ([("lines", .ref lr), ("raw", VB q.1), ("due", .ref du), ("page", pg), ("parts", .ref pr)] : LM) ∧ Upd [] H H' ∧ H' lr = some (.list ((dueLines w (List.replicate a 32) (List.replicate b 32) q).map VT))) ?_ ?_
  · walk_at "run"
    refine iteB (fun hr => ?_) (fun hr => ?_)
    · walk_at "go"
      refine Ex.asgC O.hh rfl rfl rfl rfl rfl (by decide) (by decide) ?_ (fun _ => rfl)
      walk_at "run"
      rw [List.length_map]
      refine C_range1 fun rg o hrg ho => ?_
      have u0 : Upd [] H (H.set rg (.raw o)) := Upd.new hrg (Upd.refl _ _)
      refine ⟨_, _, _, _, Src.range (HM.set_same _ _ _) ho (by omega) (by omega) (by omega), fun ys H' => Upd [] H H' ∧ ys = (dueLines w (List.replicate a 32) (List.replicate b 32) q).map VT, Turns.ok (by assumption) rfl fun C Oc => ?_, ?_⟩
      · with_reducible refine Turns.one (fun k ys m' H' => m' = ([] : LM) ∧ Upd [] H H' ∧ ys = ((dueLines w (List.replicate a 32) (List.replicate b 32) q).take k).map VT) ?_ ?_ ?_
        · exact Keep.here ⟨rfl, u0, rfl⟩
        · rintro k x ys m' H' hx ⟨rfl, u, rfl⟩
          rw [List.getElem?_map, Option.map_eq_some_iff] at hx
          obtain ⟨k', hk', rfl⟩ := hx
          obtain ⟨q1, q2⟩ := List.getElem?_eq_some_iff.mp hk'
          rw [List.getElem_range] at q2
          subst q2
          rw [List.length_range] at q1
          have hk : k < bs.length := by omega
          have hkq : k < q.2.2.length := by omega
          obtain ⟨row, hrow, hat⟩ := g2.get (List.getElem?_eq_getElem hk)
          have hat' : H' bs[k] = some (.list (row.map VT)) := u _ _ (by simp) hat
          have g1' : H' rr = some (.list (bs.map .ref)) := u _ _ (by simp) g1
          have d3 := u _ _ (by simp) c3
          have d4 := u _ _ (by simp) c4
          have d5 := u _ _ (by simp) c5
          have d6 := u _ _ (by simp) c6
          have hjs := hsz.rw row (List.mem_of_getElem? hrow)
          have hjl : (joinL [32] row).length ≤ 1000 := Nat.le_trans (joinL_length _ _) hjs
          have e0 : (0 + (k : Int)).toNat = k := by omega
          have hat2 : at? (bs.map Value.ref) (0 + (k : Int)) = some (.ref bs[k]) := by
            unfold at?
            rw [if_pos (by omega), e0, List.getElem?_map, List.getElem?_eq_getElem hk]; rfl
          have hmin : at? [VT (List.replicate a 32), VT (List.replicate b 32)] (min (0 + (k : Int)) 1) = some (VT (if k = 0 then List.replicate a 32 else List.replicate b 32)) := by
            by_cases h0 : k = 0
            · rw [h0]; rfl
            · rw [if_neg h0, show min (0 + (k : Int)) 1 = 1 from by omega]; rfl
          have htk : (dueLines w (List.replicate a 32) (List.replicate b 32) q).take (k + 1) = (dueLines w (List.replicate a 32) (List.replicate b 32) q).take k ++ [(if k = 0 then List.replicate a 32 else List.replicate b 32) ++ List.replicate q.2.1 32 ++ joinL [32] row] := by
            rw [List.take_add_one, due_raw hr, List.getElem?_mapIdx, hrow]; rfl
          have hl1 : (if k = 0 then List.replicate a 32 else List.replicate b 32).length ≤ 3 := by split <;> rw [List.length_replicate] <;> assumption
          have hl2 : (List.replicate q.2.1 32).length ≤ 2 := by rw [List.length_replicate]; exact hin
          generalize (if k = 0 then List.replicate a 32 else List.replicate b 32) = mk at *
          walk_at "run"
          refine TestsJ.nil ?_
          rw [if_pos rfl]
          refine ⟨by rw [List.length_map, List.length_take]; omega, ?_⟩
          walk_at "run"
          rename_i z hz
          have z1 : (H'.set z (.list [VT (List.replicate a 32), VT (List.replicate b 32)])) z = some (.list [VT (List.replicate a 32), VT (List.replicate b 32)]) := HM.set_same _ _ _
          have uz : Upd [] H' (H'.set z (.list [VT (List.replicate a 32), VT (List.replicate b 32)])) := Upd.new hz (Upd.refl _ _)
          have uz2 := u.trans uz
          have f5 := uz _ _ (by simp) d5
          have f6 := uz _ _ (by simp) d6
          have f1 := uz _ _ (by simp) g1'
          have fat := uz _ _ (by simp) hat'
          generalize (H'.set z (.list [VT (List.replicate a 32), VT (List.replicate b 32)])) = H3 at *
          refine C_min Oc.hh ?_
          refine ItemG.list z1 hmin (by omega) ?_
          walk_at "run"
          refine O_mulT (by omega) (by simp; omega) ?_
          rw [Int.toNat_natCast, times_one]
          walk_at "run"
          refine ItemG.list f1 hat2 (by omega) ?_
          walk_at "run"
          exact ⟨_, _, by walk_at "le", HM.le.refl _, rfl, uz2, by rw [htk, List.map_append]; rfl⟩
        · rintro ys m' H' ⟨rfl, u, rfl⟩
          rw [List.length_map, List.length_range, List.take_of_length_le (by rw [due_raw hr, List.length_mapIdx]; omega)]
          exact ⟨u, rfl⟩
      · rintro D ys H' hD1 hD2 ⟨u, rfl⟩
        walk_at "run"
        exact ViaJ.mk (by walk_at "le") ⟨D, rfl, Upd.new hD2 u, HM.set_same _ _ _⟩
    · obtain ⟨wide, few⟩ := due_laid (w := w) (fi := List.replicate a 32) (fr := List.replicate b 32) hq hw (by rw [List.length_replicate]; exact ha) (by rw [List.length_replicate]; exact hb)
      have la : (List.replicate a 32).length ≤ 3 := by rw [List.length_replicate]; exact ha
      have lb : (List.replicate b 32).length ≤ 3 := by rw [List.length_replicate]; exact hb
      have li : (List.replicate q.2.1 32).length ≤ 2 := by rw [List.length_replicate]; exact hin
      have hw5 : ∀ x ∈ q.2.2.flatten, x.length ≤ 5 := fun x hx => (hq.words.2 x hx).2.1
      rw [← due_not hr] at wide few
      with_reducible refine Exs.via (fun m' H' => ∃ lr, m' = ([("lines", .ref lr), ("words", .ref wr), ("raw", VB q.1), ("due", .ref du), ("page", pg), ("parts", .ref pr)] : LM) ∧ Upd [] H H' ∧ H' lr = some (.list ((dueLines w (List.replicate a 32) (List.replicate b 32) q).map VT))) ?_ ?_
      · walk_at "run"
        refine O_mulT (by omega) (by simp; omega) ?_
        rw [Int.toNat_natCast, times_one]
        walk_at "run"
        refine O_mulT (by omega) (by simp; omega) ?_
        rw [Int.toNat_natCast, times_one]
        walk_at "run"
        with_reducible refine K_laid2 (n := n + 11) (by assumption) gw hln hw5 (by rw [List.length_append]; omega) (by rw [List.length_append]; omega) fun lr hlr => ?_
        rw [← due_not hr]
        walk_at "run"
        exact ViaJ.mk (by walk_at "le") ⟨lr, rfl, Upd.new hlr (Upd.refl _ _), HM.set_same _ _ _⟩
      rintro _ H1 ⟨lr, rfl, u1, gl⟩
      have dl : (dueLines w (List.replicate a 32) (List.replicate b 32) q).length ≤ 1000 := by
        have h1 := due_sz (w := w) (fi := List.replicate a 32) (fr := List.replicate b 32) hq (by omega) (by omega)
        have : ∀ zs : List (List Nat), zs.length ≤ joinSize [10] zs := fun zs => by
          induction zs with
          | nil => simp
          | cons a b ih => simp [joinSize] at ih ⊢; omega
        have := this (dueLines w (List.replicate a 32) (List.replicate b 32) q)
        omega
      have dl2 : ∀ l ∈ dueLines w (List.replicate a 32) (List.replicate b 32) q, l.length ≤ 1000 := by
        have h1 := due_sz (w := w) (fi := List.replicate a 32) (fr := List.replicate b 32) hq (by omega) (by omega)
        have : ∀ zs : List (List Nat), ∀ l ∈ zs, l.length ≤ joinSize [10] zs := fun zs => by
          induction zs with
          | nil => intro l hl; cases hl
          | cons a b ih =>
            intro l hl
            rcases List.mem_cons.mp hl with rfl | hl
            · simp [joinSize]; omega
            · have := ih l hl; simp [joinSize] at this ⊢; omega
        intro l hl
        have := this _ l hl
        omega
      generalize dueLines w (List.replicate a 32) (List.replicate b 32) q = ls at *
      have d2 := u1 _ _ (by simp) c2
      have hll : (ls.map VT).length ≤ 16000000 := by rw [List.length_map]; omega
      have hdel : (H1.del lr) (L + 1 + 1) = some (.cell (some (VI w))) := by rw [HM.del_ne _ (fun z => by rw [z, gl] at d2; cases d2)]; exact d2
      walk_at "run"
      refine Ev.compG O.hh rfl rfl (by decide) (by decide) ?_ (fun _ => rfl)
      walk_at "run"
      refine ⟨_, _, _, _, Src.list gl hll, fun ys H' => H' = H1.del lr ∧ ys = (ls.map fun l => decide (w < (l.length : Int))).map VB, Turns.ok (by assumption) rfl fun C Oc => ?_, ?_⟩
      · with_reducible refine Turns.one (fun k ys m' H' => m' = ([] : LM) ∧ H' = H1.del lr ∧ ys = ((ls.take k).map fun l => decide (w < (l.length : Int))).map VB) ?_ ?_ ?_
        · exact Keep.here ⟨rfl, rfl, rfl⟩
        · rintro k x ys m' H' hx ⟨rfl, rfl, rfl⟩
          rw [List.getElem?_map, Option.map_eq_some_iff] at hx
          obtain ⟨l, hlk, rfl⟩ := hx
          have hl1 := dl2 l (List.mem_of_getElem? hlk)
          have hl16 : l.length ≤ 16000000 := by omega
          have htk : ls.take (k + 1) = ls.take k ++ [l] := by rw [List.take_add_one, hlk]; rfl
          walk_at "run"
          refine TestsJ.nil ?_
          rw [if_pos rfl]
          refine ⟨by rw [List.length_map, List.length_map, List.length_take]; omega, ?_⟩
          walk_at "run"
          exact ⟨_, _, by walk_at "le", HM.le.refl _, rfl, rfl, by rw [htk, List.map_append, List.map_append]; rfl⟩
        · rintro ys m' H' ⟨rfl, rfl, rfl⟩
          rw [List.length_map, List.take_length]
          exact ⟨rfl, rfl⟩
      · rintro D ys H' hD1 hD2 ⟨rfl, rfl⟩
        obtain ⟨u2, gD⟩ := back_upd (X := .list ((ls.map fun l => decide (w < (l.length : Int))).map VB)) gl hD1
        have u3 := u1.trans u2
        have hlr := u2 _ _ (by simp) gl
        have w3 := u3 _ _ (by simp) gw
        have f3 := u3 _ _ (by simp) c3
        have f4 := u3 _ _ (by simp) c4
        have f5 := u3 _ _ (by simp) c5
        have f2 := u3 _ _ (by simp) c2
        show Vals _ _ _ (((H1.del lr).set D (.list ((ls.map fun l => decide (w < (l.length : Int))).map VB))).set lr (.list (ls.map VT))) _ _
        generalize (((H1.del lr).set D (.list ((ls.map fun l => decide (w < (l.length : Int))).map VB))).set lr (.list (ls.map VT))) = H3 at *
        walk_at "run"
        refine C_any O.hh gD ?_
        have hany : (ls.map fun l => decide (w < (l.length : Int))).any id = false := by
          rw [List.any_eq_false]
          intro x hx
          obtain ⟨l, hl, rfl⟩ := List.mem_map.mp hx
          have := wide l hl
          simp; omega
        rw [hany]
        walk_at "run"
        with_reducible refine K_fewest (n := n + 11) (by assumption) w3 hln hw5 ?_
        walk_at "run"
        rw [List.length_map]
        refine iteFe (by rw [← few]; simp) ?_
        walk_at "run"
        exact ViaJ.mk (by walk_at "le") ⟨lr, rfl, u3, hlr⟩
  rintro _ H1 ⟨lr, rfl, u1, g3⟩
  exact h lr H1 u1 g3
end

section
variable {c : FC} {P : Params} {n : Nat} {m : LM} {H : HM} {X : XM}
variable {p : Program} {loose : List Str} {mean : ExcName → Option Value} {mg mb : Str → Option Value}
set_option maxRecDepth 200000 in
/-- one turn of the law's walk over its parts -/
theorem one_part (T : Top p loose mean mg mb c.s₀.heap) (C : ∀ cc, (fdOf (KK P) 190).code = .ref cc → CodeHd c.s₀.heap cc 185) {d e L pr du rr : Addr} {pg : Value} {w : Int} {a b : Nat} {q : FPart} {prev : List (List Nat)} {Q' : Flow → LM → HM → Prop} (O : Ok (c.call (fdOf (KK P) 240) L 240) (KK P) (n + 12)) (S : LS1 P L d e (vsL d w a b (some (VI q.2.1)) (some (.ref rr)) none none none) H) (hw : 10 ≤ w) (ha : a ≤ 3) (hb : b ≤ 3) (hq : FOk q)
    {bs : List Addr} (g1 : H rr = some (.list (bs.map .ref))) (g2 : F2 (RowAt H) bs q.2.2) (nde : e ≠ du) (ndr : rr ≠ du) (ndb : ∀ x ∈ bs, x ≠ du) (gdu : H du = some (.list (prev.map VT))) (hpl : prev.length ≤ 10)
    (h : ∀ m' H', LM.le [("due", .ref du), ("page", pg), ("parts", .ref pr)] m' → Upd [du, 185] H H' → H' du = some (.list ((prev ++ [dueF w (List.replicate a 32) (List.replicate b 32) q]).map VT)) → LS1 P L d e (vsL d w a b (some (VI q.2.1)) (some (.ref rr)) none none none) H' → Q' .next m' H') :
    Exs (c.call (fdOf (KK P) 240) L 240) (fR P 0) [("raw", VB q.1), ("due", .ref du), ("page", pg), ("parts", .ref pr)] H Q' XF := by
  have e0 : fR P 0 = _ :: fR P 1 := rfl
  have e2 : fR P 2 = _ :: fR P 3 := rfl
  have e3 : fR P 3 = _ :: fR P 4 := rfl
  have e4 : fR P 4 = _ :: [] := rfl
  have hbl : bs.length = q.2.2.length := g2.len
  have hrl := rows_len hq.rne
  have hln := hq.ln
  rw [e0]
  with_reducible refine Exs.via (fun m' H' => ∃ wr, m' = ([("words", .ref wr), ("raw", VB q.1), ("due", .ref du), ("page", pg), ("parts", .ref pr)] : LM) ∧ Upd [] H H' ∧ H' wr = some (.list (q.2.2.flatten.map VT))) ?_ ?_
  · refine Ex.asgC O.hh rfl rfl rfl rfl rfl (by decide) (by decide) ?_ (fun _ => rfl)
    have c6 : H (L + 1 + 1 + 1 + 1 + 1 + 1) = some (.cell (some (.ref rr))) := S.C 5 _ rfl
    walk_at "run"
    refine ⟨_, _, _, _, Src.list g1 (by rw [List.length_map]; omega), _, Turns.ok (by assumption) rfl fun C Oc => words_turns Oc.hh rfl rfl rfl g1 g2 (by omega), ?_⟩
    rintro D ys H' hD1 hD2 ⟨rfl, rfl⟩
    obtain ⟨u2, gD⟩ := back_upd (X := .list (q.2.2.flatten.map VT)) g1 hD1
    exact ViaJ.mk (by walk_at "le") ⟨D, rfl, u2, gD⟩
  rintro _ H1 ⟨wr, rfl, u1, gw⟩
  have g11 := u1 _ _ (by simp) g1
  have g21 : F2 (RowAt H1) bs q.2.2 := g2.mono fun a b => RowAt.upd u1 (by simp)
  with_reducible refine lines_if O (S.pure u1) hw ha hb hq g11 g21 gw fun lr H2 u2 gl => ?_
  have u12 := u1.trans u2
  have S2 := S.pure u12
  have gdu2 := u12 _ _ (by simp) gdu
  have hsz := due_sz (w := w) (fi := List.replicate a 32) (fr := List.replicate b 32) hq (by rw [List.length_replicate]; omega) (by rw [List.length_replicate]; omega)
  have hj16 : joinSize [10] (dueLines w (List.replicate a 32) (List.replicate b 32) q) ≤ 16000000 := by omega
  have hpl2 : (prev.map VT).length ≤ 16000000 := by rw [List.length_map]; omega
  have c5 : H2 (L + 1 + 1 + 1 + 1 + 1) = some (.cell (some (VI q.2.1))) := S2.C 4 _ rfl
  have g12 := u12 _ _ (by simp) g1
  have g22 : F2 (RowAt H2) bs q.2.2 := g2.mono fun a b => RowAt.upd u12 (by simp)
  rw [e2]
  with_reducible refine Exs.via (fun m' H' => m' = ([("lines", .ref lr), ("raw", VB q.1), ("due", .ref du), ("page", pg), ("parts", .ref pr)] : LM) ∧ H' = H2.set du (.list ((prev ++ [dueF w (List.replicate a 32) (List.replicate b 32) q]).map VT))) ?_ ?_
  · walk_at "run"
    exact ViaJ.mk (by walk_at "le") ⟨rfl, by rw [List.map_append]; rfl⟩
  rintro _ _ ⟨rfl, z⟩
  rw [z]; clear z
  have u3 : Upd [du] H2 (H2.set du (.list ((prev ++ [dueF w (List.replicate a 32) (List.replicate b 32) q]).map VT))) := Upd.at (by simp) (Upd.refl _ _)
  have S3 : LS1 P L d e (vsL d w a b (some (VI q.2.1)) (some (.ref rr)) none none none) (H2.set du (.list ((prev ++ [dueF w (List.replicate a 32) (List.replicate b 32) q]).map VT))) := by
    refine ⟨S2.C.upd u3 fun x hx v z => ?_, S2.D.upd u3 (fun z => ?_) (fun z => nde (List.mem_singleton.mp z)), S2.T.upd u3 fun x hx o z => ?_⟩
    · rw [List.mem_singleton.mp hx, gdu2] at z; cases z
    · obtain ⟨_, i, ns, hd, _, _⟩ := S2.D
      rw [List.mem_singleton.mp z, gdu2] at hd
      cases prev <;> simp [VT] at hd
    · rw [List.mem_singleton.mp hx, gdu2] at z; cases z
  have g13 := u3 _ _ (by simpa using ndr) g12
  have g23 : F2 (RowAt (H2.set du (.list ((prev ++ [dueF w (List.replicate a 32) (List.replicate b 32) q]).map VT)))) bs q.2.2 := g22.updAll fun x row hx hr => u3 _ _ (by simpa using ndb x hx) hr
  have gdu3 : (H2.set du (.list ((prev ++ [dueF w (List.replicate a 32) (List.replicate b 32) q]).map VT))) du = some (.list ((prev ++ [dueF w (List.replicate a 32) (List.replicate b 32) q]).map VT)) := HM.set_same _ _ _
  have u03 : Upd [du, 185] H (H2.set du (.list ((prev ++ [dueF w (List.replicate a 32) (List.replicate b 32) q]).map VT))) := Upd.at (by simp) fun x o _ z => u12 x o (by simp) z
  generalize (H2.set du (.list ((prev ++ [dueF w (List.replicate a 32) (List.replicate b 32) q]).map VT))) = H3 at *
  rw [e3]
  with_reducible refine Exs.via (fun m' H' => m' = ([("alone", VT (dueF w (List.replicate a 32) (List.replicate b 32) q)), ("due", .ref du), ("page", pg), ("parts", .ref pr)] : LM) ∧ Upd [du, 185] H H' ∧ H' du = some (.list ((prev ++ [dueF w (List.replicate a 32) (List.replicate b 32) q]).map VT)) ∧ LS1 P L d e (vsL d w a b (some (VI q.2.1)) (some (.ref rr)) none none none) H') ?_ ?_
  · have d2 : H3 (L + 1 + 1) = some (.cell (some (VI w))) := S3.C 1 _ rfl
    have d3 : H3 (L + 1 + 1 + 1) = some (.cell (some (VT (List.replicate a 32)))) := S3.C 2 _ rfl
    have d4 : H3 (L + 1 + 1 + 1 + 1) = some (.cell (some (VT (List.replicate b 32)))) := S3.C 3 _ rfl
    have d5 : H3 (L + 1 + 1 + 1 + 1 + 1) = some (.cell (some (VI q.2.1))) := S3.C 4 _ rfl
    have d6 : H3 (L + 1 + 1 + 1 + 1 + 1 + 1) = some (.cell (some (.ref rr))) := S3.C 5 _ rfl
    walk_at "run"
    rename_i t ht y hy1 hy2
    have hyn : (H3.set t (.tup [VB q.1, VI q.2.1, .ref rr])) y = none := HM.set_none.mpr ⟨hy1, hy2⟩
    have u4 : Upd [] H3 ((H3.set t (.tup [VB q.1, VI q.2.1, .ref rr])).set y (.list [.ref t])) := Upd.new hyn (Upd.new ht (Upd.refl _ _))
    have k1 : ((H3.set t (.tup [VB q.1, VI q.2.1, .ref rr])).set y (.list [.ref t])) y = some (.list ([t].map .ref)) := HM.set_same _ _ _
    have k2 : F2 (PartAt ((H3.set t (.tup [VB q.1, VI q.2.1, .ref rr])).set y (.list [.ref t]))) [t] [q] :=
      .cons ⟨rr, by rw [HM.set_ne _ _ (Ne.symm hy1), HM.set_same], bs, u4 _ _ (by simp) g13, g23.mono fun a b => RowAt.upd u4 (by simp)⟩ .nil
    have S4 := S3.pure u4
    have d2 := u4 _ _ (by simp) d2
    have d3 := u4 _ _ (by simp) d3
    have d4 := u4 _ _ (by simp) d4
    have gdu4 := u4 _ _ (by simp) gdu3
    have u04 : Upd [du, 185] H ((H3.set t (.tup [VB q.1, VI q.2.1, .ref rr])).set y (.list [.ref t])) := u03.trans fun x o _ z => u4 x o (by simp) z
    generalize ((H3.set t (.tup [VB q.1, VI q.2.1, .ref rr])).set y (.list [.ref t])) = H4 at *
    with_reducible refine K_ltxt (n := n + 11) (by assumption) k1 k2 (by simp) (fun x hx => by rw [List.mem_singleton.mp hx]; exact fok_sz hq) ?_
    walk_at "run"
    with_reducible refine K_textF (n := n + 4) (c := c.call (fdOf (KK P) 240) L 240) T C (by assumption) hw ha hb (by simp) (by simp) (fun x hx => by rw [List.mem_singleton.mp hx]; exact hq) S4.T fun H5 u5 T5 => ?_
    walk_at "run"
    have ndt : du ≠ 185 := by
      intro z
      obtain ⟨ps, t1, _⟩ := S4.T
      rw [z, t1] at gdu4; cases gdu4
    exact ViaJ.mk (by walk_at "le") ⟨rfl, u04.trans fun x o hx z => u5 x o (by simp at hx ⊢; exact hx.2) z, u5 _ _ (by simpa using ndt) gdu4, S4.tab u5 T5⟩
  rintro _ H4 ⟨rfl, u4, gdu4, S4⟩
  rw [List.map_append] at gdu4
  have gdu4' : H4 du = some (.list (prev.map VT ++ [VT (dueF w (List.replicate a 32) (List.replicate b 32) q)])) := gdu4
  rw [e4]
  walk_at "run"
  refine iteFe (by simp) ?_
  walk_at "run"
  exact h _ H4 (by walk_at "le") u4 (by rw [List.map_append]; exact gdu4) S4
end

section
variable {c : FC} {P : Params} {n : Nat} {m : LM} {H : HM} {X : XM}
variable {p : Program} {loose : List Str} {mean : ExcName → Option Value} {mg mb : Str → Option Value}
theorem due_js {w : Int} {a b : Nat} {ps : List FPart} (ha : a ≤ 3) (hb : b ≤ 3) (hq : ∀ q ∈ ps, FOk q) : joinSize [10, 10] (ps.map (dueF w (List.replicate a 32) (List.replicate b 32))) ≤ 602 * ps.length := by
  have h1 := page_sz (w := w) (fi := plain (List.replicate a 32)) (fr := plain (List.replicate b 32)) (by rw [flatT_plain, List.length_replicate]; omega) (by rw [flatT_plain, List.length_replicate]; omega) (qs := ps.map tokP) fun q hq' => by
    obtain ⟨y, hy, rfl⟩ := List.mem_map.mp hq'
    exact tok_ok (hq y hy)
  rw [List.map_map, List.length_map] at h1
  have e : (ps.map ((fun q => flatT (pageP w (plain (List.replicate a 32)) (plain (List.replicate b 32)) q)) ∘ tokP)) = ps.map (dueF w (List.replicate a 32) (List.replicate b 32)) := List.map_congr_left fun q _ => due_page w _ _ q
  rw [e] at h1; exact h1
theorem c56 (L : Nat) : L + 1 + 1 + 1 + 1 + 1 ≠ L + 1 + 1 + 1 + 1 + 1 + 1 ∧ L + 1 + 1 + 1 + 1 + 1 + 1 ≠ L + 1 + 1 + 1 + 1 + 1 := by omega
set_option maxRecDepth 200000 in
theorem law4 (T : Top p loose mean mg mb c.s₀.heap) (C : ∀ cc, (fdOf (KK P) 190).code = .ref cc → CodeHd c.s₀.heap cc 185) {d e L pr : Addr} {w : Int} {a b : Nat} {ps : List FPart} {Q : Value → HM → Prop} (O : Ok (c.call (fdOf (KK P) 240) L 240) (KK P) (n + 12)) (S : LS1 P L d e (vsL d w a b none none none none none) H) (hw : 10 ≤ w) (ha : a ≤ 3) (hb : b ≤ 3)
    (hn : ps ≠ []) (hl : ps.length ≤ 3) (hq : ∀ q ∈ ps, FOk q) (A : PA pr ps H)
    (h : ∀ H' i r, PA pr ps H' → LS1 P L d e (vsL d w a b i r none none none) H' → Exs (c.call (fdOf (KK P) 240) L 240) (lawR P 9) [("page", VT (joinL [10, 10] (ps.map (dueF w (List.replicate a 32) (List.replicate b 32))))), ("parts", .ref pr)] H' (EndJ Q) XF) :
    Exs (c.call (fdOf (KK P) 240) L 240) (lawR P 6) [("page", VT (joinL [10, 10] (ps.map (dueF w (List.replicate a 32) (List.replicate b 32))))), ("parts", .ref pr)] H (EndJ Q) XF := by
  have e6 : lawR P 6 = _ :: lawR P 7 := rfl
  have e7 : lawR P 7 = _ :: lawR P 8 := rfl
  have e8 : lawR P 8 = _ :: lawR P 9 := rfl
  have hjs := due_js (w := w) ha hb hq
  obtain ⟨n56, n65⟩ := c56 L
  generalize hpg : joinL [10, 10] (ps.map (dueF w (List.replicate a 32) (List.replicate b 32))) = pg at *
  rw [e6]
  with_reducible refine Exs.via (fun m' H' => ∃ du, m' = ([("due", .ref du), ("page", VT pg), ("parts", .ref pr)] : LM) ∧ H du = none ∧ H' = H.set du (.list [])) ?_ ?_
  · walk_at "run"
    rename_i du hdu
    exact ViaJ.mk (by walk_at "le") ⟨du, rfl, hdu, rfl⟩
  rintro _ _ ⟨du, rfl, hdu, z⟩
  rw [z]; clear z
  obtain ⟨as, hal, A1, A2⟩ := A.sz
  have npdu : pr ≠ du := HM.ne_of hdu A1
  have hnp : ∀ x ∈ [185, L + 1 + 4, L + 1 + 5], NoPart H x := by
    intro x hx
    simp only [List.mem_cons, List.not_mem_nil, or_false] at hx
    rcases hx with rfl | rfl | rfl
    · exact S.T.np _ (by simp)
    · exact NoPart.cell (S.C 4 _ rfl)
    · exact NoPart.cell (S.C 5 _ rfl)
  have hde : ∃ oe, H e = some oe := by obtain ⟨_, i, ns, _, he, _⟩ := S.D; exact ⟨_, he⟩
  obtain ⟨oe, hoe⟩ := hde
  rw [e7]
  with_reducible refine Exs.via (fun m' H' => ∃ i r, m' = ([("due", .ref du), ("page", VT pg), ("parts", .ref pr)] : LM) ∧ PA pr ps H' ∧ H' du = some (.list ((ps.map (dueF w (List.replicate a 32) (List.replicate b 32))).map VT)) ∧ LS1 P L d e (vsL d w a b i r none none none) H') ?_ ?_
  · refine Ex.forGN O.hh ?_ (fun _ => rfl)
    walk_at "run"
    have A1' : (H.set du (.list [])) pr = some (.list (as.map .ref)) := by rw [HM.set_ne _ _ npdu]; exact A1
    have u0 : Upd [] H (H.set du (.list [])) := Upd.new hdu (Upd.refl _ _)
    refine ForJN.list A1' (by rw [List.length_map]; omega) (fun k m' H' => m' = ([("due", .ref du), ("page", VT pg), ("parts", .ref pr)] : LM) ∧ Upd [pr, 185, L + 1 + 4, L + 1 + 5] H H' ∧ H' du = some (.list (((ps.take k).map (dueF w (List.replicate a 32) (List.replicate b 32))).map VT)) ∧ ∃ i r, LS1 P L d e (vsL d w a b i r none none none) H')
      ⟨_, _, by walk_at "le", HM.le.refl _, rfl, Upd.delAt (by simp) fun x o _ z => u0 x o (by simp) z, by rw [HM.del_ne _ (Ne.symm npdu), HM.set_same]; rfl, none, none, ?_⟩ ?_ ?_
    · have S0 := S.pure u0
      obtain ⟨ti, t1, _⟩ := S0.T
      refine ⟨fun i v z => ?_, ?_, ?_⟩
      · rw [HM.del_ne _ (fun q => by have := S0.C i v z; rw [q, A1'] at this; cases this)]
        exact S0.C i v z
      · obtain ⟨q0, i, ns, hd, he, hns⟩ := S0.D
        refine ⟨q0, i, ns, ?_, ?_, hns⟩
        · rw [HM.del_ne _ (fun q => ?_)]
          · exact hd
          · have := (NoPart.draw S.D).r as
            rw [q] at this
            exact this A1
        · rw [HM.del_ne _ (fun q => ?_)]
          · exact he
          · rw [q, A1'] at he
            obtain ⟨y, ys, hy⟩ : ∃ y ys, as = y :: ys := List.exists_cons_of_ne_nil (fun z => by rw [z] at hal; exact hn (List.length_eq_zero_iff.mp hal.symm))
            rw [hy] at he
            cases ns <;> simp [VI] at he
      · refine S0.T.upd (l := [pr]) (Upd.delAt (by simp) (Upd.refl _ _)) fun x hx o z => ?_
        rw [List.mem_singleton.mp hx, A1'] at z; cases z
    · rintro k x m' H' hx hnpr ⟨rfl, u, gdu, i0, r0, S'⟩
      rw [List.getElem?_map, Option.map_eq_some_iff] at hx
      obtain ⟨t, ht, rfl⟩ := hx
      obtain ⟨q, hqk, rr, h1, bs, h2, h3⟩ := A2.get ht
      have hqm := List.mem_of_getElem? hqk
      have hk : k < 3 := by have := (List.getElem?_eq_some_iff.mp hqk).1; omega
      have hasn : as ≠ [] := fun z => by rw [z] at ht; simp at ht
      have inl : ∀ x, x ∈ [pr, 185, L + 1 + 4, L + 1 + 5] → x = pr ∨ x ∈ [185, L + 1 + 4, L + 1 + 5] := fun x hx => List.mem_cons.mp hx
      have h1' : H' t = some (.tup [VB q.1, VI q.2.1, .ref rr]) := u _ _ (fun z => (inl _ z).elim (fun z => by rw [z, A1] at h1; cases h1) fun z => (hnp _ z).t _ h1) h1
      have nrp : rr ≠ pr := by
        intro z
        have e2 := h2
        rw [z, A1] at e2
        simp only [Option.some.injEq, AO.list.injEq] at e2
        have e3 : (as.map Value.ref)[k]? = (bs.map Value.ref)[k]? := by rw [e2]
        rw [List.getElem?_map, List.getElem?_map, ht] at e3
        obtain ⟨b, hb, e4⟩ := Option.map_eq_some_iff.mp e3.symm
        obtain ⟨row, _, hrow⟩ := h3.get hb
        have hrow : H b = _ := hrow
        cases e4
        rw [h1] at hrow; cases hrow
      have h2' : H' rr = some (.list (bs.map .ref)) := u _ _ (fun z => (inl _ z).elim nrp fun z => (hnp _ z).r _ h2) h2
      have h3' : F2 (RowAt H') bs q.2.2 := h3.mono fun b row hrow => u _ _ (fun z => (inl _ z).elim (fun z => ref_ne_txt' A1 hrow hasn z.symm) fun z => (hnp _ z).w _ hrow) hrow
      have c5 : H' (L + 1 + 1 + 1 + 1 + 1) = some (.cell i0) := S'.C 4 _ rfl
      have c6 : H' (L + 1 + 1 + 1 + 1 + 1 + 1) = some (.cell r0) := S'.C 5 _ rfl
      iterate 4 walk_at "go"
      have S1 := (S'.put 4 (some (VI q.2.1)) (w := i0) rfl).put 5 (some (.ref rr)) (w := r0) rfl
      have S1 : LS1 P L d e (vsL d w a b (some (VI q.2.1)) (some (.ref rr)) none none none) ((H'.set (L + 1 + 1 + 1 + 1 + 1) (.cell (some (VI q.2.1)))).set (L + 1 + 1 + 1 + 1 + 1 + 1) (.cell (some (.ref rr)))) := S1
      have v1 : Upd [L + 1 + 4, L + 1 + 5] H' ((H'.set (L + 1 + 1 + 1 + 1 + 1) (.cell (some (VI q.2.1)))).set (L + 1 + 1 + 1 + 1 + 1 + 1) (.cell (some (.ref rr)))) := Upd.at (by simp) (Upd.at (by simp) (Upd.refl _ _))
      have hnp' : ∀ x ∈ [L + 1 + 4, L + 1 + 5], NoPart H' x := by
        intro x hx
        simp only [List.mem_cons, List.not_mem_nil, or_false] at hx
        rcases hx with rfl | rfl
        · exact NoPart.cell c5
        · exact NoPart.cell c6
      have h2'' := v1 _ _ (fun z => (hnp' _ z).r _ h2') h2'
      have h3'' := h3'.mono fun b row hrow => RowAt.upd v1 hnp' hrow
      have gdu' := v1 _ _ (fun z => by
        simp only [List.mem_cons, List.not_mem_nil, or_false] at z
        rcases z with z | z
        · rw [z] at gdu
          have := c5.symm.trans gdu
          cases this
        · rw [z] at gdu
          have := c6.symm.trans gdu
          cases this) gdu
      have v2 : Upd [pr, 185, L + 1 + 4, L + 1 + 5] H ((H'.set (L + 1 + 1 + 1 + 1 + 1) (.cell (some (VI q.2.1)))).set (L + 1 + 1 + 1 + 1 + 1 + 1) (.cell (some (.ref rr)))) := u.trans fun x o hx z => v1 x o (by simp at hx ⊢; exact hx.2.2) z
      generalize ((H'.set (L + 1 + 1 + 1 + 1 + 1) (.cell (some (VI q.2.1)))).set (L + 1 + 1 + 1 + 1 + 1 + 1) (.cell (some (.ref rr)))) = H1 at *
      have htk : (ps.take (k + 1)).map (dueF w (List.replicate a 32) (List.replicate b 32)) = (ps.take k).map (dueF w (List.replicate a 32) (List.replicate b 32)) ++ [dueF w (List.replicate a 32) (List.replicate b 32) q] := by rw [List.take_add_one, hqk, List.map_append]; rfl
      show Exs _ (fR P 0) _ _ _ _
      with_reducible refine one_part T C O S1 hw ha hb (hq q hqm) h2'' h3'' (HM.ne_of hdu hoe) (HM.ne_of hdu h2) (fun x hx => ?_) gdu' (by rw [List.length_map, List.length_take]; omega) fun m2 H2 l2 v3 gdu2 S2 => ?_
      · obtain ⟨row, hrow⟩ := h3.mem x hx
        exact HM.ne_of hdu hrow
      · refine ForK.next ⟨_, _, l2, HM.le.refl _, rfl, ?_, by rw [htk]; exact gdu2, _, _, S2⟩
        intro x o hx z
        refine v3 x o ?_ (v2 x o hx z)
        simp only [List.mem_cons, List.not_mem_nil, or_false, not_or] at hx ⊢
        exact ⟨fun y => (by rw [y, hdu] at z; cases z), hx.2.1⟩
    · rintro m' H' hnpr ⟨rfl, u, gdu, i0, r0, S'⟩
      rw [List.length_map, hal, List.take_length] at gdu
      have u2 := Upd.back u A1
      exact ViaJ.mk (by walk_at "le") ⟨i0, r0, rfl, A.upd u2 hnp, by rw [HM.set_ne _ _ (fun z => by rw [z, hnpr] at gdu; cases gdu)]; exact gdu, S'.pure (Upd.new hnpr (Upd.refl _ _))⟩
  rintro _ H1 ⟨i, r, rfl, A', gdu, S'⟩
  have hj16 : joinSize [10, 10] (ps.map (dueF w (List.replicate a 32) (List.replicate b 32))) ≤ 16000000 := by omega
  rw [e8]
  with_reducible refine Exs.via (fun m' H' => m' = ([("page", VT pg), ("parts", .ref pr)] : LM) ∧ H' = H1) ?_ ?_
  · walk_at "run"
    rw [hpg]
    refine iteFe (by simp) ?_
    walk_at "run"
    exact ViaJ.mk (by walk_at "le") ⟨rfl, rfl⟩
  rintro _ _ ⟨rfl, z⟩
  rw [z]
  exact h H1 i r A' S'
end

section
variable {c : FC} {P : Params} {n : Nat} {m : LM} {H : HM} {X : XM}
variable {p : Program} {loose : List Str} {mean : ExcName → Option Value} {mg mb : Str → Option Value}
theorem TurnsN.ok {K : Frag} {G : Addr → Prop} {scope : Scope} {cl : List (Str × Addr)} {elt tgt : Expr} {gens : List Comprehension} {pos : Pos} {xs : List Value} {tup : Bool} {Hd : HM} {Qf : List Value → HM → Prop} (O : Ok c K n) (hk : scope.kind = .function)
    (h : ∀ C, Ok (c.comp scope cl C) K n → TurnsN (c.comp scope cl C) G elt gens scope pos tgt xs tup Hd Qf) : ∀ C, TurnsN (c.comp scope cl C) G elt gens scope pos tgt xs tup Hd Qf := fun C => h C (O.comp hk cl C)
set_option maxRecDepth 200000 in
theorem law5 {d e L pr : Addr} {w : Int} {a b : Nat} {i r : Option Value} {ps : List FPart} {pg : Value} {Q : Value → HM → Prop} (O : Ok (c.call (fdOf (KK P) 240) L 240) (KK P) (n + 12)) (S : LS1 P L d e (vsL d w a b i r none none none) H)
    (hn : ps ≠ []) (hl : ps.length ≤ 3) (hq : ∀ q ∈ ps, FOk q) (A : PA pr ps H)
    (h : ∀ (cs : List Nat) (cr pt : Addr) H', PA pr ps H' → PA pt (ps.map fun q => flatP (colP cs q)) H' → LS1 P L d e (vsL d w a b i r (some (.ref cr)) none none) H' → Exs (c.call (fdOf (KK P) 240) L 240) (lawR P 11) [("painted", .ref pt), ("page", pg), ("parts", .ref pr)] H' (EndJ Q) XF) :
    Exs (c.call (fdOf (KK P) 240) L 240) (lawR P 9) [("page", pg), ("parts", .ref pr)] H (EndJ Q) XF := by
  have e9 : lawR P 9 = _ :: lawR P 10 := rfl
  have e10 : lawR P 10 = _ :: lawR P 11 := rfl
  rw [e9]
  with_reducible refine Exs.via (fun m' H' => ∃ cr, ∃ cs : List Nat, m' = ([("page", pg), ("parts", .ref pr)] : LM) ∧ cs.length = 4 ∧ H' cr = some (.list (cs.map fun (x : Nat) => VI x)) ∧ PA pr ps H' ∧ LS1 P L d e (vsL d w a b i r (some (.ref cr)) none none) H') ?_ ?_
  · walk_at "run"
    refine Ev.compG O.hh rfl rfl (by decide) (by decide) ?_ (fun _ => rfl)
    walk_at "run"
    refine C_range1 fun rg o hrg ho => ?_
    have u0 : Upd [] H (H.set rg (.raw o)) := Upd.new hrg (Upd.refl _ _)
    refine ⟨_, _, _, _, Src.range (HM.set_same _ _ _) ho (by decide) (by decide) (by decide), fun ys H' => ∃ cs : List Nat, ys = (cs.map fun (x : Nat) => VI x) ∧ cs.length = 4 ∧ PA pr ps H' ∧ LS1 P L d e (vsL d w a b i r none none none) H', Turns.ok (by assumption) rfl fun C Oc => ?_, ?_⟩
    · with_reducible refine Turns.one (fun k ys m' H' => m' = ([] : LM) ∧ ∃ cs : List Nat, ys = (cs.map fun (x : Nat) => VI x) ∧ cs.length = k ∧ PA pr ps H' ∧ LS1 P L d e (vsL d w a b i r none none none) H') ?_ ?_ ?_
      · exact Keep.here ⟨rfl, [], rfl, rfl, A.upd u0 (by simp), S.pure u0⟩
      · rintro k x ys m' H' hx ⟨rfl, cs, rfl, g1, A', S'⟩
        rw [List.getElem?_map, Option.map_eq_some_iff] at hx
        obtain ⟨k', hk', rfl⟩ := hx
        have hk : k < 4 := by
          have := (List.getElem?_eq_some_iff.mp hk').1
          rw [List.length_range] at this; omega
        have c1 : H' (L + 1) = some (.cell (some (.ref d))) := S'.C 0 _ rfl
        walk_at "run"
        refine TestsJ.nil ?_
        rw [if_pos rfl]
        refine ⟨by rw [List.length_map]; omega, ?_⟩
        walk_at "run"
        with_reducible refine K_next (n := n + 11) (by assumption) S'.D (by decide) fun v H2 hv u2 D2 => ?_
        exact ⟨_, _, by walk_at "le", HM.le.refl _, rfl, cs ++ [v], by rw [List.map_append]; rfl, by rw [List.length_append, g1]; rfl, A'.upd u2 fun x hx => by rw [List.mem_singleton.mp hx]; exact NoPart.draw S'.D, S'.draw u2 D2⟩
      · rintro ys m' H' ⟨rfl, cs, rfl, g1, A', S'⟩
        exact ⟨cs, rfl, g1, A', S'⟩
    · rintro D ys H' hD1 hD2 ⟨cs, rfl, g1, A', S'⟩
      have u2 : Upd [] H' (H'.set D (.list (cs.map fun (x : Nat) => VI x))) := Upd.new hD2 (Upd.refl _ _)
      have S2 := S'.pure u2
      have A2 := A'.upd u2 (by simp)
      have gD : (H'.set D (.list (cs.map fun (x : Nat) => VI x))) D = some (.list (cs.map fun (x : Nat) => VI x)) := HM.set_same _ _ _
      show StoreJ _ _ _ _ (H'.set D (.list (cs.map fun (x : Nat) => VI x))) _ _
      generalize H'.set D (.list (cs.map fun (x : Nat) => VI x)) = H2 at *
      have c7 : H2 (L + 1 + 1 + 1 + 1 + 1 + 1 + 1) = some (.cell none) := S2.C 6 _ rfl
      walk_at "run"
      have v2 : Upd [L + 1 + 6] H2 (H2.set (L + 1 + 6) (.cell (some (.ref D)))) := Upd.at (by simp) (Upd.refl _ _)
      exact ViaJ.mk (by walk_at "le") ⟨D, cs, rfl, g1, v2 _ _ (fun z => by rw [List.mem_singleton.mp z] at gD; have := c7.symm.trans gD; cases this) gD, A2.upd v2 fun x hx => by rw [List.mem_singleton.mp hx]; exact NoPart.cell c7, S2.put 6 (some (.ref D)) rfl⟩
  rintro _ H1 ⟨cr, cs, rfl, hcs, gcr, A1, S1⟩
  obtain ⟨as, hal, P1, P2⟩ := A1.sz
  have hasn : as ≠ [] := fun z => by rw [z] at hal; exact hn (List.length_eq_zero_iff.mp hal.symm)
  have ncr : cr ≠ pr := int_ne_ref gcr P1 (by intro z; rw [z] at hcs; cases hcs)
  rw [e10]
  with_reducible refine Exs.via (fun m' H' => ∃ pt, m' = ([("painted", .ref pt), ("page", pg), ("parts", .ref pr)] : LM) ∧ PA pt (ps.map fun q => flatP (colP cs q)) H' ∧ Upd [] H1 H') ?_ ?_
  · refine Ex.asgCN O.hh rfl rfl rfl rfl rfl (by decide) (by decide) ?_ (fun _ => rfl)
    walk_at "run"
    refine ⟨_, _, _, _, Src.list P1 (by rw [List.length_map]; omega), fun ys H' => ∃ bs : List Addr, ys = bs.map .ref ∧ F2 (PartAt H') bs (ps.map fun q => flatP (colP cs q)) ∧ Upd [pr] H1 H', TurnsN.ok (by assumption) rfl fun C Oc => ?_, ?_⟩
    · with_reducible refine TurnsN.one (fun k ys m' H' => m' = ([] : LM) ∧ ∃ bs : List Addr, ys = bs.map .ref ∧ F2 (PartAt H') bs ((ps.take k).map fun q => flatP (colP cs q)) ∧ Upd [pr] H1 H') ?_ ?_ ?_
      · exact Keep.here ⟨rfl, [], rfl, .nil, Upd.delAt (by simp) (Upd.refl _ _)⟩
      · rintro k x ys m' H' hx gn ⟨rfl, bs, rfl, g1, u⟩
        rw [List.getElem?_map, Option.map_eq_some_iff] at hx
        obtain ⟨t, ht, rfl⟩ := hx
        obtain ⟨q, hqk, rr, h1, cs', h2, h3⟩ := P2.get ht
        have hqm := List.mem_of_getElem? hqk
        have hk : k < 3 := by have := (List.getElem?_eq_some_iff.mp hqk).1; omega
        have hqo := hq q hqm
        have h1' : H' t = some (.tup [VB q.1, VI q.2.1, .ref rr]) := u _ _ (by
          simp only [List.mem_singleton]
          rintro rfl
          rw [P1] at h1; cases h1) h1
        have nrp : rr ≠ pr := by
          intro z
          have e2 := h2
          rw [z, P1] at e2
          simp only [Option.some.injEq, AO.list.injEq] at e2
          have e3 : (as.map Value.ref)[k]? = (cs'.map Value.ref)[k]? := by rw [e2]
          rw [List.getElem?_map, List.getElem?_map, ht] at e3
          obtain ⟨b, hb, e4⟩ := Option.map_eq_some_iff.mp e3.symm
          obtain ⟨row, _, hrow⟩ := h3.get hb
          have hrow : H1 b = _ := hrow
          cases e4
          rw [h1] at hrow; cases hrow
        have h2' : H' rr = some (.list (cs'.map .ref)) := u _ _ (by simpa using nrp) h2
        have h3' : F2 (RowAt H') cs' q.2.2 := h3.mono fun b row hrow => u _ _ (by simpa using Ne.symm (ref_ne_txt' P1 hrow hasn)) hrow
        have gcr' : H' cr = some (.list (cs.map fun (x : Nat) => VI x)) := u _ _ (by simpa using ncr) gcr
        have c7 : H' (L + 1 + 1 + 1 + 1 + 1 + 1 + 1) = some (.cell (some (.ref cr))) := u _ _ (by
          simp only [List.mem_singleton]
          intro z
          have := S1.C 6 _ rfl
          rw [z, P1] at this; cases this) (S1.C 6 _ rfl)
        walk_at "run"
        refine TestsJ.nil ?_
        rw [if_pos rfl]
        refine ⟨by rw [List.length_map, g1.len, List.length_map, List.length_take]; omega, ?_⟩
        walk_at "run"
        refine K_coloured (n := n + 10) (by assumption) ⟨cs', h2', h3'⟩ gcr' hcs hqo.rne hqo.wd hqo.ln fun r' H2 u2 hr2 => ?_
        walk_at "run"
        rename_i z hz
        have u3 : Upd [] H' (H2.set z (.tup [VB q.1, VI q.2.1, .ref r'])) := Upd.new hz u2
        have u4 : Upd [] H2 (H2.set z (.tup [VB q.1, VI q.2.1, .ref r'])) := Upd.new hz (Upd.refl _ _)
        refine ⟨_, _, by walk_at "le", HM.le.refl _, rfl, bs ++ [z], by rw [List.map_append]; rfl, ?_, u.trans fun x o _ y => u3 x o (by simp) y⟩
        rw [List.take_add_one, hqk, List.map_append]
        exact F2.snoc (g1.mono fun a b => PartAt.upd u3 (by simp)) ⟨r', HM.set_same _ _ _, hr2.upd u4 (by simp)⟩
      · rintro ys m' H' ⟨rfl, bs, rfl, g1, u⟩
        rw [List.length_map, hal, List.take_length] at g1
        exact ⟨bs, rfl, g1, u⟩
    · rintro D ys H' hD1 hD2 gn ⟨bs, rfl, g1, u⟩
      have hpn : H' pr = none := gn pr (by rw [P1]; simp) (HM.del_same _ _)
      have nDp : D ≠ pr := fun z => by rw [z, P1] at hD1; cases hD1
      have u2 : Upd [pr] H1 (H'.set D (.list (bs.map .ref))) := Upd.new hD2 u
      have u3 : Upd [pr] H' ((H'.set D (.list (bs.map .ref))).set pr (.list (as.map .ref))) := Upd.at (by simp) (Upd.new hD2 (Upd.refl _ _))
      exact ViaJ.mk (by walk_at "le") ⟨D, rfl, ⟨bs, by rw [HM.set_ne _ _ nDp, HM.set_same], g1.mono fun a b => PartAt.upd u3 fun x hx => by rw [List.mem_singleton.mp hx]; exact NoPart.none hpn⟩, Upd.back u2 P1⟩
  rintro _ H2 ⟨pt, rfl, A2, u2⟩
  exact h cs cr pt H2 (A1.upd u2 (by simp)) A2 (S1.pure u2)
set_option maxRecDepth 200000 in
theorem law6 (T : Top p loose mean mg mb c.s₀.heap) (C : ∀ cc, (fdOf (KK P) 190).code = .ref cc → CodeHd c.s₀.heap cc 185) {d e L pr pt cr : Addr} {w : Int} {a b : Nat} {i r : Option Value} {ps : List FPart} {cs : List Nat} {pg : Value} {Q : Value → HM → Prop} (O : Ok (c.call (fdOf (KK P) 240) L 240) (KK P) (n + 12)) (S : LS1 P L d e (vsL d w a b i r (some (.ref cr)) none none) H) (hw : 10 ≤ w) (ha : a ≤ 3) (hb : b ≤ 3)
    (hn : ps ≠ []) (hl : ps.length ≤ 3) (hq : ∀ q ∈ ps, FOk q) (A : PA pr ps H) (A2 : PA pt (ps.map fun q => flatP (colP cs q)) H)
    (h : ∀ H', PA pr ps H' → LS1 P L d e (vsL d w a b i r (some (.ref cr)) (some (VT (flatT (textT (ps.map (colP cs)))))) (some (VT (flatT (pageT w (blk a) (blk b) (ps.map (colP cs))))))) H' → Exs (c.call (fdOf (KK P) 240) L 240) (lawR P 13) [("page", pg), ("parts", .ref pr)] H' (EndJ Q) XF) :
    Exs (c.call (fdOf (KK P) 240) L 240) (lawR P 11) [("painted", .ref pt), ("page", pg), ("parts", .ref pr)] H (EndJ Q) XF := by
  have e11 : lawR P 11 = _ :: lawR P 12 := rfl
  have e12 : lawR P 12 = _ :: lawR P 13 := rfl
  have hqc : ∀ y ∈ ps.map (colP cs), PrtOk y := fun y hy => by
    obtain ⟨q, hq', rfl⟩ := List.mem_map.mp hy
    exact col_ok cs (hq q hq')
  rw [e11]
  with_reducible refine Exs.via (fun m' H' => m' = ([("page", pg), ("parts", .ref pr)] : LM) ∧ PA pr ps H' ∧ LS1 P L d e (vsL d w a b i r (some (.ref cr)) (some (VT (flatT (textT (ps.map (colP cs)))))) none) H') ?_ ?_
  · obtain ⟨as, _, B1, B2⟩ := A2.sz
    have c8 : H (L + 1 + 1 + 1 + 1 + 1 + 1 + 1 + 1) = some (.cell none) := S.C 7 _ rfl
    walk_at "run"
    with_reducible refine K_ltxt (n := n + 11) (by assumption) B1 B2 (by rw [List.length_map]; omega) (fun y hy => ?_) ?_
    · obtain ⟨q, hq', rfl⟩ := List.mem_map.mp hy
      exact prt_sz (col_ok cs (hq q hq'))
    · have ht : textF (ps.map fun q => flatP (colP cs q)) = flatT (textT (ps.map (colP cs))) := by
        rw [← flat_textT, List.map_map]; rfl
      rw [ht]
      walk_at "run"
      have v2 : Upd [L + 1 + 7] H (H.set (L + 1 + 7) (.cell (some (VT (flatT (textT (ps.map (colP cs)))))))) := Upd.at (by simp) (Upd.refl _ _)
      exact ViaJ.mk (by walk_at "le") ⟨rfl, A.upd v2 fun x hx => by rw [List.mem_singleton.mp hx]; exact NoPart.cell c8, S.put 7 (some (VT (flatT (textT (ps.map (colP cs)))))) rfl⟩
  rintro _ H1 ⟨rfl, A1, S1⟩
  rw [e12]
  with_reducible refine Exs.via (fun m' H' => m' = ([("page", pg), ("parts", .ref pr)] : LM) ∧ PA pr ps H' ∧ LS1 P L d e (vsL d w a b i r (some (.ref cr)) (some (VT (flatT (textT (ps.map (colP cs)))))) (some (VT (flatT (pageT w (blk a) (blk b) (ps.map (colP cs))))))) H') ?_ ?_
  · have c2 : H1 (L + 1 + 1) = some (.cell (some (VI w))) := S1.C 1 _ rfl
    have c3 : H1 (L + 1 + 1 + 1) = some (.cell (some (VT (List.replicate a 32)))) := S1.C 2 _ rfl
    have c4 : H1 (L + 1 + 1 + 1 + 1) = some (.cell (some (VT (List.replicate b 32)))) := S1.C 3 _ rfl
    have c8 : H1 (L + 1 + 1 + 1 + 1 + 1 + 1 + 1 + 1) = some (.cell (some (VT (flatT (textT (ps.map (colP cs))))))) := S1.C 7 _ rfl
    walk_at "run"
    refine K_textP (n := n + 4) (c := c.call (fdOf (KK P) 240) L 240) T C (by assumption) hw ha hb (fun z => hn (List.map_eq_nil_iff.mp z)) (by rw [List.length_map]; exact hl) hqc S1.T fun H2 u2 T2 => ?_
    have S2 := S1.tab u2 T2
    have A3 := A1.upd u2 S1.T.np
    have c9 : H2 (L + 1 + 1 + 1 + 1 + 1 + 1 + 1 + 1 + 1) = some (.cell none) := S2.C 8 _ rfl
    walk_at "run"
    have v2 : Upd [L + 1 + 8] H2 (H2.set (L + 1 + 8) (.cell (some (VT (flatT (pageT w (blk a) (blk b) (ps.map (colP cs)))))))) := Upd.at (by simp) (Upd.refl _ _)
    exact ViaJ.mk (by walk_at "le") ⟨rfl, A3.upd v2 fun x hx => by rw [List.mem_singleton.mp hx]; exact NoPart.cell c9, S2.put 8 (some (VT (flatT (pageT w (blk a) (blk b) (ps.map (colP cs)))))) rfl⟩
  rintro _ H2 ⟨rfl, A3, S3⟩
  exact h H2 A3 S3
end

section
/-! ## pages are proper texts -/
theorem laidT_ok (w : Int) {fr : List Tk} (hf : okT fr) : ∀ (r done : List (List Tk)) (cur : List Tk), (∀ l ∈ done, okT l) → okT cur → (∀ x ∈ r, okT x) → ∀ l ∈ laidT w fr done cur r, okT l
  | [], done, cur, h1, h2, _ => by
    intro l hl
    rcases List.mem_append.mp hl with hl | hl
    · exact h1 l hl
    · rw [List.mem_singleton.mp hl]; exact h2
  | x :: r, done, cur, h1, h2, h3 => by
    rw [laidT_cons]
    have hx := h3 x List.mem_cons_self
    have hr : ∀ y ∈ r, okT y := fun y hy => h3 y (List.mem_cons_of_mem _ hy)
    split
    · exact laidT_ok w hf r _ _ (fun l hl => by
        rcases List.mem_append.mp hl with hl | hl
        · exact h1 l hl
        · rw [List.mem_singleton.mp hl]; exact h2) (okT_append.mpr ⟨hf, hx⟩) hr
    · exact laidT_ok w hf r _ _ h1 (okT_append.mpr ⟨h2, okT_cons.mpr ⟨ok32, hx⟩⟩) hr
theorem pageP_ok {w : Int} {fi fr : List Tk} {q : Prt} (h : PrtOk q) (hi : okT fi) (hr : okT fr) : okT (pageP w fi fr q) := by
  refine joinTk_ok ok10 fun l hl => ?_
  unfold pageLines at hl
  split at hl
  · obtain ⟨i, hi2, e⟩ := List.getElem_of_mem hl
    rw [List.length_mapIdx] at hi2
    rw [List.getElem_mapIdx] at e
    rw [← e]
    refine okT_append.mpr ⟨okT_append.mpr ⟨by split <;> assumption, blk_ok _⟩, rowT_ok (h.wd _ (List.getElem_mem hi2))⟩
  · obtain ⟨h1, h2⟩ := h.words
    obtain ⟨x, r, e⟩ := List.exists_cons_of_ne_nil h2
    rw [e] at hl h1
    exact laidT_ok w (okT_append.mpr ⟨hr, blk_ok _⟩) r [] _ (fun _ h => by cases h) (okT_append.mpr ⟨okT_append.mpr ⟨hi, blk_ok _⟩, (h1 x (by simp)).ok⟩) (fun y hy => (h1 y (List.mem_cons_of_mem _ hy)).ok) l hl
theorem pageT_ok {w : Int} {fi fr : List Tk} (hi : okT fi) (hr : okT fr) : ∀ {qs : List Prt}, (∀ q ∈ qs, PrtOk q) → okT (pageT w fi fr qs)
  | [], _ => fun _ h => by cases h
  | [q], h => pageP_ok (h q (by simp)) hi hr
  | q :: q2 :: r, h => by
    have e : pageT w fi fr (q :: q2 :: r) = pageP w fi fr q ++ .ch 10 :: .ch 10 :: pageT w fi fr (q2 :: r) := rfl
    rw [e]
    exact okT_append.mpr ⟨pageP_ok (h q (by simp)) hi hr, okT_cons.mpr ⟨ok10, okT_cons.mpr ⟨ok10, pageT_ok hi hr fun y hy => h y (List.mem_cons_of_mem _ hy)⟩⟩⟩
theorem pageT_len {w : Int} {fi fr : List Tk} (li : (flatT fi).length ≤ 10) (lr : (flatT fr).length ≤ 10) {qs : List Prt} (h : ∀ q ∈ qs, PrtOk q) : (flatT (pageT w fi fr qs)).length ≤ 602 * qs.length := by
  rw [pageT_flat]
  exact Nat.le_trans (joinL_length _ _) (page_sz li lr h)
def marksL : List (List Nat) := [[27, 91, 51, 49, 109], [27, 91, 48, 109], [27, 91, 49, 59, 52, 109]]
theorem marks_V : marksV = marksL.map VT := rfl
theorem marks_cnt {a b : List Tk} (ha : okT a) (hb : okT b) (h : escs a = escs b) : (marksL.map fun y => ((cntL y (flatT a) : Nat) : Int)) = marksL.map fun y => ((cntL y (flatT b) : Nat) : Int) := by
  have h1 := cnt_marks (ps := [51, 49]) (by decide) ha hb h
  have h2 := cnt_marks (ps := [48]) (by decide) ha hb h
  have h3 := cnt_marks (ps := [49, 59, 52]) (by decide) ha hb h
  have h1 : cntL [27, 91, 51, 49, 109] (flatT a) = cntL [27, 91, 51, 49, 109] (flatT b) := h1
  have h2 : cntL [27, 91, 48, 109] (flatT a) = cntL [27, 91, 48, 109] (flatT b) := h2
  have h3 : cntL [27, 91, 49, 59, 52, 109] (flatT a) = cntL [27, 91, 49, 59, 52, 109] (flatT b) := h3
  unfold marksL
  simp only [List.map_cons, List.map_nil, h1, h2, h3]
end
section
variable {c : FC} {P : Params} {n : Nat} {m : LM} {H : HM} {X : XM}
variable {p : Program} {loose : List Str} {mean : ExcName → Option Value} {mg mb : Str → Option Value}
set_option maxRecDepth 200000 in
theorem law7 {d e L pr cr : Addr} {w : Int} {a b : Nat} {i r : Option Value} {ps : List FPart} {cs : List Nat} {Q : Value → HM → Prop} (O : Ok (c.call (fdOf (KK P) 240) L 240) (KK P) (n + 12)) (S : LS1 P L d e (vsL d w a b i r (some (.ref cr)) (some (VT (flatT (textT (ps.map (colP cs)))))) (some (VT (flatT (pageT w (blk a) (blk b) (ps.map (colP cs))))))) H) (hw : 10 ≤ w) (ha : a ≤ 3) (hb : b ≤ 3)
    (hn : ps ≠ []) (hl : ps.length ≤ 3) (hq : ∀ q ∈ ps, FOk q) (A : PA pr ps H)
    (h : ∀ H', PA pr ps H' → LS1 P L d e (vsL d w a b i r (some (.ref cr)) (some (VT (flatT (textT (ps.map (colP cs)))))) (some (VT (flatT (pageT w (blk a) (blk b) (ps.map (colP cs))))))) H' → Exs (c.call (fdOf (KK P) 240) L 240) (lawR P 14) [("page", VT (joinL [10, 10] (ps.map (dueF w (List.replicate a 32) (List.replicate b 32))))), ("parts", .ref pr)] H' (EndJ Q) XF) :
    Exs (c.call (fdOf (KK P) 240) L 240) (lawR P 13) [("page", VT (joinL [10, 10] (ps.map (dueF w (List.replicate a 32) (List.replicate b 32))))), ("parts", .ref pr)] H (EndJ Q) XF := by
  have e13 : lawR P 13 = _ :: lawR P 14 := rfl
  have hqc : ∀ y ∈ ps.map (colP cs), PrtOk y := fun y hy => by
    obtain ⟨q, hq', rfl⟩ := List.mem_map.mp hy
    exact col_ok cs (hq q hq')
  have okp := pageT_ok (w := w) (blk_ok a) (blk_ok b) hqc
  have lep := pageT_len (w := w) (fi := blk a) (fr := blk b) (by rw [blk_len]; omega) (by rw [blk_len]; omega) hqc
  have okt := textT_ok _ hqc
  have let' := textT_len _ hqc
  rw [List.length_map] at lep let'
  have hsg : signs (pageT w (blk a) (blk b) (ps.map (colP cs))) = joinL [10, 10] (ps.map (dueF w (List.replicate a 32) (List.replicate b 32))) := page_bare w _ _ cs ps
  have hcnt := marks_cnt okp okt (escs_page (w := w) (fi := blk a) (fr := blk b) (escs_plain _) (escs_plain _) (ps.map (colP cs)))
  generalize hpg : joinL [10, 10] (ps.map (dueF w (List.replicate a 32) (List.replicate b 32))) = pg at *
  generalize hbr : pageT w (blk a) (blk b) (ps.map (colP cs)) = br at *
  generalize htx : textT (ps.map (colP cs)) = tx at *
  rw [e13]
  with_reducible refine Exs.via (fun m' H' => m' = ([("page", VT pg), ("parts", .ref pr)] : LM) ∧ Upd [] H H') ?_ ?_
  · have c8 : H (L + 1 + 1 + 1 + 1 + 1 + 1 + 1 + 1) = some (.cell (some (VT (flatT tx)))) := S.C 7 _ rfl
    have c9 : H (L + 1 + 1 + 1 + 1 + 1 + 1 + 1 + 1 + 1) = some (.cell (some (VT (flatT br)))) := S.C 8 _ rfl
    walk_at "run"
    with_reducible refine K_strip_ansi (n := n + 11) (by assumption) okp (by omega) ?_
    rw [hsg]
    walk_at "run"
    refine iteFe (by simp) ?_
    walk_at "run"
    refine Ev.compG O.hh rfl rfl (by decide) (by decide) ?_ (fun _ => rfl)
    walk_at "run"
    with_reducible refine K_marks (n := n + 11) (by assumption) fun q1 hq1 => ?_
    rw [marks_V]
    have d9 : ((H.set q1 (.list (marksL.map VT))).del q1) (L + 1 + 1 + 1 + 1 + 1 + 1 + 1 + 1 + 1) = some (.cell (some (VT (flatT br)))) := by
      rw [HM.del_ne _ (HM.ne_of hq1 c9), HM.set_ne _ _ (HM.ne_of hq1 c9)]; exact c9
    refine ⟨_, _, _, _, Src.list (HM.set_same _ _ _) (by decide), fun ys H' => H' = (H.set q1 (.list (marksL.map VT))).del q1 ∧ ys = (marksL.map fun y => ((cntL y (flatT br) : Nat) : Int)).map VI, Turns.ok (by assumption) rfl fun C Oc => ?_, ?_⟩
    · with_reducible refine Turns.one (fun k ys m' H' => m' = ([] : LM) ∧ H' = (H.set q1 (.list (marksL.map VT))).del q1 ∧ ys = ((marksL.take k).map fun y => ((cntL y (flatT br) : Nat) : Int)).map VI) ?_ ?_ ?_
      · exact Keep.here ⟨rfl, rfl, rfl⟩
      · rintro k x ys m' H' hx ⟨rfl, rfl, rfl⟩
        rw [List.getElem?_map, Option.map_eq_some_iff] at hx
        obtain ⟨y, hy, rfl⟩ := hx
        have hyn : y ≠ [] := by
          have : y ∈ marksL := List.mem_of_getElem? hy
          simp only [marksL, List.mem_cons, List.not_mem_nil, or_false] at this
          rcases this with rfl | rfl | rfl <;> simp
        walk_at "run"
        refine TestsJ.nil ?_
        rw [if_pos rfl]
        refine ⟨by rw [List.length_map, List.length_map, List.length_take]; have : marksL.length = 3 := rfl; omega, ?_⟩
        walk_at "run"
        refine C_countP hyn ?_
        exact ⟨_, _, by walk_at "le", HM.le.refl _, rfl, rfl, by rw [List.take_add_one, hy, List.map_append, List.map_append]; rfl⟩
      · rintro ys m' H' ⟨rfl, rfl, rfl⟩
        exact ⟨rfl, rfl⟩
    rintro D ys H' hD1 hD2 ⟨rfl, rfl⟩
    obtain ⟨u2, gD⟩ := back_upd (X := .list ((marksL.map fun y => ((cntL y (flatT br) : Nat) : Int)).map VI)) (HM.set_same H q1 (.list (marksL.map VT))) hD1
    have u3 : Upd [] H _ := (Upd.new hq1 (Upd.refl _ _)).trans u2
    show Ev _ _ _ ((((H.set q1 (.list (marksL.map VT))).del q1).set D (.list ((marksL.map fun y => ((cntL y (flatT br) : Nat) : Int)).map VI))).set q1 (.list (marksL.map VT))) _ _
    generalize ((((H.set q1 (.list (marksL.map VT))).del q1).set D (.list ((marksL.map fun y => ((cntL y (flatT br) : Nat) : Int)).map VI))).set q1 (.list (marksL.map VT))) = H1 at *
    have c81 := u3 _ _ (by simp) c8
    refine Ev.compG O.hh rfl rfl (by decide) (by decide) ?_ (fun _ => rfl)
    walk_at "run"
    with_reducible refine K_marks (n := n + 11) (by assumption) fun q2 hq2 => ?_
    rw [marks_V]
    have d8 : ((H1.set q2 (.list (marksL.map VT))).del q2) (L + 1 + 1 + 1 + 1 + 1 + 1 + 1 + 1) = some (.cell (some (VT (flatT tx)))) := by
      rw [HM.del_ne _ (HM.ne_of hq2 c81), HM.set_ne _ _ (HM.ne_of hq2 c81)]; exact c81
    refine ⟨_, _, _, _, Src.list (HM.set_same _ _ _) (by decide), fun ys H' => H' = (H1.set q2 (.list (marksL.map VT))).del q2 ∧ ys = (marksL.map fun y => ((cntL y (flatT tx) : Nat) : Int)).map VI, Turns.ok (by assumption) rfl fun C Oc => ?_, ?_⟩
    · with_reducible refine Turns.one (fun k ys m' H' => m' = ([] : LM) ∧ H' = (H1.set q2 (.list (marksL.map VT))).del q2 ∧ ys = ((marksL.take k).map fun y => ((cntL y (flatT tx) : Nat) : Int)).map VI) ?_ ?_ ?_
      · exact Keep.here ⟨rfl, rfl, rfl⟩
      · rintro k x ys m' H' hx ⟨rfl, rfl, rfl⟩
        rw [List.getElem?_map, Option.map_eq_some_iff] at hx
        obtain ⟨y, hy, rfl⟩ := hx
        have hyn : y ≠ [] := by
          have : y ∈ marksL := List.mem_of_getElem? hy
          simp only [marksL, List.mem_cons, List.not_mem_nil, or_false] at this
          rcases this with rfl | rfl | rfl <;> simp
        walk_at "run"
        refine TestsJ.nil ?_
        rw [if_pos rfl]
        refine ⟨by rw [List.length_map, List.length_map, List.length_take]; have : marksL.length = 3 := rfl; omega, ?_⟩
        walk_at "run"
        refine C_countP hyn ?_
        exact ⟨_, _, by walk_at "le", HM.le.refl _, rfl, rfl, by rw [List.take_add_one, hy, List.map_append, List.map_append]; rfl⟩
      · rintro ys m' H' ⟨rfl, rfl, rfl⟩
        exact ⟨rfl, rfl⟩
    rintro D2 ys H' hD3 hD4 ⟨rfl, rfl⟩
    obtain ⟨u4, gD2⟩ := back_upd (X := .list ((marksL.map fun y => ((cntL y (flatT tx) : Nat) : Int)).map VI)) (HM.set_same H1 q2 (.list (marksL.map VT))) hD3
    have u5 : Upd [] H1 _ := (Upd.new hq2 (Upd.refl _ _)).trans u4
    have gD1 := u5 _ _ (by simp) gD
    refine O_neL (by assumption) gD1 gD2 (flat_ints _ _) ?_
    rw [hcnt]
    walk_at "run"
    refine iteFe (by simp) ?_
    walk_at "run"
    exact ViaJ.mk (by walk_at "le") ⟨rfl, u3.trans u5⟩
  rintro _ H1 ⟨rfl, u1⟩
  exact h H1 (A.upd u1 (by simp)) (S.pure u1)
end

section
variable {c : FC} {P : Params} {n : Nat} {m : LM} {H : HM} {X : XM}
variable {p : Program} {loose : List Str} {mean : ExcName → Option Value} {mg mb : Str → Option Value}
theorem words_text {ws : List (List Nat)} : flatT (joinTk 32 (ws.map plain)) = joinL [32] ws := by
  rw [joinTk_flat, List.map_map]
  congr 1
  conv => rhs; rw [← List.map_id ws]
  exact List.map_congr_left fun w _ => flatT_plain w
/-- wrap_text of words alone -/
theorem K_text0w {w : Int} {a b ins : Nat} {ws : List (List Nat)} {Q : Value → HM → Prop} (O : Ok c (KK P) (n + 8)) (hw : 10 ≤ w) (ha : a ≤ 3) (hb : b ≤ 3) (hi : ins ≤ 2) (hn : ws ≠ []) (hl : ws.length ≤ 8) (hws : ∀ x ∈ ws, WdN x)
    (h : Q (VT (joinL [10] (lawLaid w (List.replicate a 32 ++ List.replicate ins 32) (List.replicate b 32 ++ List.replicate ins 32) ws))) H) : CallJ c (.ref 190) [VT (joinL [32] ws), VI w, VT (List.replicate a 32 ++ List.replicate ins 32), VT (List.replicate b 32 ++ List.replicate ins 32)] [] m H Q X := by
  have ea : flatT (plain (List.replicate a 32 ++ List.replicate ins 32)) = List.replicate a 32 ++ List.replicate ins 32 := flatT_plain _
  have eb : flatT (plain (List.replicate b 32 ++ List.replicate ins 32)) = List.replicate b 32 ++ List.replicate ins 32 := flatT_plain _
  have la : (flatT (plain (List.replicate a 32 ++ List.replicate ins 32))).length ≤ 5 := by rw [ea, List.length_append, List.length_replicate, List.length_replicate]; omega
  have lb : (flatT (plain (List.replicate b 32 ++ List.replicate ins 32))).length ≤ 5 := by rw [eb, List.length_append, List.length_replicate, List.length_replicate]; omega
  have va : vis (plain (List.replicate a 32 ++ List.replicate ins 32)) ≤ 5 := by rw [vis_plain, List.length_append, List.length_replicate, List.length_replicate]; omega
  have vb : vis (plain (List.replicate b 32 ++ List.replicate ins 32)) ≤ 5 := by rw [vis_plain, List.length_append, List.length_replicate, List.length_replicate]; omega
  have oka : okT (plain (List.replicate a 32 ++ List.replicate ins 32)) := plain_ok fun x hx => by
    rcases List.mem_append.mp hx with hx | hx <;> rw [(List.mem_replicate.mp hx).2] <;> exact ok32
  have okb : okT (plain (List.replicate b 32 ++ List.replicate ins 32)) := plain_ok fun x hx => by
    rcases List.mem_append.mp hx with hx | hx <;> rw [(List.mem_replicate.mp hx).2] <;> exact ok32
  have hwt : ∀ t ∈ ws.map plain, WdT t := fun t ht => by
    obtain ⟨x, hx, rfl⟩ := List.mem_map.mp ht
    exact wdt_plain (hws x hx)
  have hwr := wrap_words (w := w) (fi := plain (List.replicate a 32 ++ List.replicate ins 32)) (fr := plain (List.replicate b 32 ++ List.replicate ins 32)) hwt (fun q => hn (List.map_eq_nil_iff.mp q)) (by rw [List.length_map]; exact hl) (by omega) (by omega)
  have hsz := laidP_sz (w := w) (fi := plain (List.replicate a 32 ++ List.replicate ins 32)) (fr := plain (List.replicate b 32 ++ List.replicate ins 32)) hwt (by rw [List.length_map]; exact hl) (by omega) (by omega)
  have hout : (laidP w (plain (List.replicate a 32 ++ List.replicate ins 32)) (plain (List.replicate b 32 ++ List.replicate ins 32)) (ws.map plain)).map flatT = lawLaid w (List.replicate a 32 ++ List.replicate ins 32) (List.replicate b 32 ++ List.replicate ins 32) ws := by
    rw [lawLaid_T, List.map_map]
    conv => rhs; rw [← List.map_id (lawLaid w _ _ ws)]
    exact List.map_congr_left fun l _ => flatT_plain l
  have hok : okT (joinTk 32 (ws.map plain)) := joinTk_ok ok32 fun t ht => (hwt t ht).ok
  have hlen : (flatT (joinTk 32 (ws.map plain))).length ≤ 100000 := by
    have h1 := joinTk_len 32 (ws.map plain)
    have h2 := szL_words hwt
    rw [List.length_map] at h2
    omega
  have := K_text0 (ts := joinTk 32 (ws.map plain)) (fi := plain (List.replicate a 32 ++ List.replicate ins 32)) (fr := plain (List.replicate b 32 ++ List.replicate ins 32)) (m := m) (H := H) (Q := Q) (X := X) (w := w) (n := n) O (by omega) oka okb hok (by omega) (by omega) hlen (Nat.le_refl _) hwr (by rw [szL_join]; omega) (by rw [hout]; exact h)
  rw [ea, eb, words_text] at this
  exact this
set_option maxRecDepth 200000 in
theorem law8 (T : Top p loose mean mg mb c.s₀.heap) (C : ∀ cc, (fdOf (KK P) 190).code = .ref cc → CodeHd c.s₀.heap cc 185) {d e L pr cr : Addr} {w : Int} {a b : Nat} {i r br : Option Value} {ps : List FPart} {cs : List Nat} {Q : Value → HM → Prop} (O : Ok (c.call (fdOf (KK P) 240) L 240) (KK P) (n + 12)) (S : LS1 P L d e (vsL d w a b i r (some (.ref cr)) (some (VT (flatT (textT (ps.map (colP cs)))))) br) H) (hw : 10 ≤ w) (ha : a ≤ 3) (hb : b ≤ 3)
    (hn : ps ≠ []) (hl : ps.length ≤ 3) (hq : ∀ q ∈ ps, FOk q) (A : PA pr ps H)
    (h : ∀ H', TabSt P H' → Q (VB true) H') :
    Exs (c.call (fdOf (KK P) 240) L 240) (lawR P 14) [("page", VT (joinL [10, 10] (ps.map (dueF w (List.replicate a 32) (List.replicate b 32))))), ("parts", .ref pr)] H (EndJ Q) XF := by
  have e14 : lawR P 14 = _ :: lawR P 15 := rfl
  have e15 : lawR P 15 = _ :: lawR P 16 := rfl
  have e16 : lawR P 16 = _ :: lawR P 17 := rfl
  have e17 : lawR P 17 = _ :: [] := rfl
  have hqc : ∀ y ∈ ps.map (colP cs), PrtOk y := fun y hy => by
    obtain ⟨q, hq', rfl⟩ := List.mem_map.mp hy
    exact col_ok cs (hq q hq')
  have okt := textT_ok _ hqc
  have let' := textT_len _ hqc
  rw [List.length_map] at let'
  obtain ⟨as, hal, A1, A2⟩ := A.sz
  have htb := text_bare cs ps
  have c8 : H (L + 1 + 1 + 1 + 1 + 1 + 1 + 1 + 1) = some (.cell (some (VT (flatT (textT (ps.map (colP cs))))))) := S.C 7 _ rfl
  obtain ⟨t0, tr, hat⟩ : ∃ t0 tr, as = t0 :: tr := List.exists_cons_of_ne_nil (fun z => by rw [z] at hal; exact hn (List.length_eq_zero_iff.mp hal.symm))
  obtain ⟨q0, qr, hqt⟩ := List.exists_cons_of_ne_nil hn
  have hfirst : PartAt H t0 q0 := by
    obtain ⟨q, hq1, hq2⟩ := A2.get (k := 0) (a := t0) (by rw [hat]; rfl)
    rw [hqt] at hq1
    cases hq1; exact hq2
  have hq0 : FOk q0 := hq q0 (by rw [hqt]; simp)
  have A1c : H pr = some (.list (.ref t0 :: tr.map .ref)) := by rw [A1, hat]; rfl
  obtain ⟨rr, hr1, bs, hr2, hr3⟩ := hfirst
  have hall : (Value.ref t0 :: tr.map Value.ref).length = ps.length := by rw [← hal, hat, List.length_cons, List.length_cons, List.length_map]
  have hall2 : (Value.ref t0 :: tr.map Value.ref).length ≤ 16000000 := by omega
  rw [e14]
  refine Exs.go ?_
  walk_at "run"
  rw [hall]
  refine iteD (fun hgt => ?_) (fun hgt => ?_)
  · walk_at "run"
    with_reducible refine K_strip_ansi (n := n + 11) (by assumption) okt (by omega) ?_
    rw [htb]
    walk_at "run"
    with_reducible refine K_ltxt (n := n + 11) (by assumption) A1 A2 (by omega) (fun q hq' => fok_sz (hq q hq')) ?_
    walk_at "run"
    rw [decide_eq_true rfl]
    exact EndJ.retE (h _ S.T)
  · have hq1 : ps = [q0] := by
      rw [hqt]
      cases qr with
      | nil => rfl
      | cons y z =>
        rw [hqt] at hgt
        simp only [List.length_cons] at hgt
        omega
    walk_at "run"
    refine ItemG.tup hr1 rfl (by decide) ?_
    walk_at "run"
    refine iteB (fun hraw => ?_) (fun hraw => ?_)
    · walk_at "run"
      with_reducible refine K_strip_ansi (n := n + 11) (by assumption) okt (by omega) ?_
      rw [htb]
      walk_at "run"
      with_reducible refine K_ltxt (n := n + 11) (by assumption) A1 A2 (by omega) (fun q hq' => fok_sz (hq q hq')) ?_
      walk_at "run"
      rw [decide_eq_true rfl]
      exact EndJ.retE (h _ S.T)
    · obtain ⟨wne, wwd⟩ := hq0.words
      have hln := hq0.ln
      have hin := hq0.ins
      have hbl : bs.length = q0.2.2.length := hr3.len
      have hrl := rows_len hq0.rne
      have hjs : joinSize [32] q0.2.2.flatten ≤ 16000000 := by
        have h1 := joinSize_le (sep := [32]) (B := 5) fun x hx => (wwd x hx).2.1
        have h2 : q0.2.2.flatten.length * (5 + [32].length) ≤ 8 * 6 := Nat.mul_le_mul hln (Nat.le_refl _)
        omega
      have hpg : joinL [10, 10] (ps.map (dueF w (List.replicate a 32) (List.replicate b 32))) = joinL [10] (lawLaid w (List.replicate a 32 ++ List.replicate q0.2.1 32) (List.replicate b 32 ++ List.replicate q0.2.1 32) q0.2.2.flatten) := by
        rw [hq1, ← due_not hraw]; rfl
      generalize joinL [10, 10] (ps.map (dueF w (List.replicate a 32) (List.replicate b 32))) = pg at *
      walk_at "run"
      rw [e15]
      with_reducible refine Exs.via (fun m' H' => m' = ([("words", VT (joinL [32] q0.2.2.flatten)), ("page", VT pg), ("parts", .ref pr)] : LM) ∧ Upd [] H H') ?_ ?_
      · walk_at "run"
        refine Ev.compG O.hh rfl rfl (by decide) (by decide) ?_ (fun _ => rfl)
        walk_at "run"
        refine ItemG.tup hr1 rfl (by decide) ?_
        refine ⟨_, _, _, _, Src.list hr2 (by rw [List.length_map]; omega), _, Turns.ok (by assumption) rfl fun C Oc => words_turns Oc.hh rfl rfl rfl hr2 hr3 (by omega), ?_⟩
        rintro D ys H' hD1 hD2 ⟨rfl, rfl⟩
        obtain ⟨u2, gD⟩ := back_upd (X := .list (q0.2.2.flatten.map VT)) hr2 hD1
        show Vals _ _ _ (((H.del rr).set D (.list (q0.2.2.flatten.map VT))).set rr (.list (bs.map .ref))) _ _
        generalize (((H.del rr).set D (.list (q0.2.2.flatten.map VT))).set rr (.list (bs.map .ref))) = H1 at *
        walk_at "run"
        exact ViaJ.mk (by walk_at "le") ⟨rfl, u2⟩
      rintro _ H1 ⟨rfl, u1⟩
      have S1 := S.pure u1
      have A11 := u1 _ _ (by simp) A1c
      have hr11 := u1 _ _ (by simp) hr1
      have c5 : H1 (L + 1 + 1 + 1 + 1 + 1) = some (.cell i) := S1.C 4 _ rfl
      rw [e16]
      with_reducible refine Exs.via (fun m' H' => m' = ([("words", VT (joinL [32] q0.2.2.flatten)), ("page", VT pg), ("parts", .ref pr)] : LM) ∧ LS1 P L d e (vsL d w a b (some (VT (List.replicate q0.2.1 32))) r (some (.ref cr)) (some (VT (flatT (textT (ps.map (colP cs)))))) br) H') ?_ ?_
      · walk_at "run"
        refine ItemG.tup hr11 rfl (by decide) ?_
        walk_at "run"
        refine O_mulT (by omega) (by simp; omega) ?_
        rw [Int.toNat_natCast, times_one]
        walk_at "run"
        exact ViaJ.mk (by walk_at "le") ⟨rfl, S1.put 4 (some (VT (List.replicate q0.2.1 32))) (w := i) rfl⟩
      rintro _ H2 ⟨rfl, S2⟩
      have d2 : H2 (L + 1 + 1) = some (.cell (some (VI w))) := S2.C 1 _ rfl
      have d3 : H2 (L + 1 + 1 + 1) = some (.cell (some (VT (List.replicate a 32)))) := S2.C 2 _ rfl
      have d4 : H2 (L + 1 + 1 + 1 + 1) = some (.cell (some (VT (List.replicate b 32)))) := S2.C 3 _ rfl
      have d5 : H2 (L + 1 + 1 + 1 + 1 + 1) = some (.cell (some (VT (List.replicate q0.2.1 32)))) := S2.C 4 _ rfl
      have la : (List.replicate a 32).length ≤ 3 := by rw [List.length_replicate]; exact ha
      have lb : (List.replicate b 32).length ≤ 3 := by rw [List.length_replicate]; exact hb
      have li : (List.replicate q0.2.1 32).length ≤ 2 := by rw [List.length_replicate]; exact hin
      rw [e17]
      walk_at "run"
      with_reducible refine K_text0w (n := n + 4) (by assumption) hw ha hb hin wne hln wwd ?_
      rw [← hpg]
      walk_at "run"
      rw [decide_eq_true rfl]
      exact EndJ.retE (h _ S2.T)
theorem K_lawB (T : Top p loose mean mg mb c.s₀.heap) (C : ∀ cc, (fdOf (KK P) 190).code = .ref cc → CodeHd c.s₀.heap cc 185) {sc L : Addr} {ns : List Int} {ws : List Value} {Q : Value → HM → Prop} (O : Ok (c.call (fdOf (KK P) 240) L 240) (KK P) (n + 12)) (hC : CellsAt H L [none, none, none, none, none, none, none, none, none]) (hT : TabSt P H) (hsc : c.s₀.heap.IsList sc ws.toArray) (hws : ws.map er = ns.map VI) (hl : ns.length ≤ 1000)
    (h : ∀ H', TabSt P H' → Q (VB true) H') : Exs (c.call (fdOf (KK P) 240) L 240) (lawR P 0) [("script", .ref sc)] H (EndJ Q) XF := by
  with_reducible refine law1 O hC hT hsc hws hl fun d e w a b H1 w1 w2 ha hb S1 => ?_
  with_reducible refine law2 O S1 fun pr ps H2 p1 p2 p3 A2 S2 => ?_
  with_reducible refine law3 T C O S2 w1 ha hb p1 p2 p3 A2 fun H3 A3 S3 => ?_
  with_reducible refine law4 T C O S3 w1 ha hb p1 p2 p3 A3 fun H4 i r A4 S4 => ?_
  with_reducible refine law5 O S4 p1 p2 p3 A4 fun cs cr pt H5 A5 B5 S5 => ?_
  with_reducible refine law6 T C O S5 w1 ha hb p1 p2 p3 A5 B5 fun H6 A6 S6 => ?_
  with_reducible refine law7 O S6 w1 ha hb p1 p2 p3 A6 fun H7 A7 S7 => ?_
  exact law8 T C O S7 w1 ha hb p1 p2 p3 A7 h
end

section
variable {p : Program} {loose : List Str} {mean : ExcName → Option Value} {mg mb : Str → Option Value}
theorem CellsAt.more {H : HM} {L : Addr} {vs : List (Option Value)} {v : Option Value} (C : CellsAt H L vs) : CellsAt (H.set (L + 1 + vs.length) (.cell v)) L (vs ++ [v]) := fun j u e => by
  by_cases q : j = vs.length
  · rw [q, HM.set_same]
    rw [q, List.getElem?_append_right (Nat.le_refl _), Nat.sub_self] at e
    cases e; rfl
  · rw [HM.set_ne _ _ (addNe L _ _ q)]
    have hj : j < (vs ++ [v]).length := (List.getElem?_eq_some_iff.mp e).1
    rw [List.length_append, List.length_singleton] at hj
    rw [List.getElem?_append_left (by omega)] at e
    exact C j u e
theorem cells9 (H : HM) (L : Addr) : CellsAt (((((((((H.set (L + 1) (.cell none)).set (L + 1 + 1) (.cell none)).set (L + 1 + 1 + 1) (.cell none)).set (L + 1 + 1 + 1 + 1) (.cell none)).set (L + 1 + 1 + 1 + 1 + 1) (.cell none)).set (L + 1 + 1 + 1 + 1 + 1 + 1) (.cell none)).set (L + 1 + 1 + 1 + 1 + 1 + 1 + 1) (.cell none)).set (L + 1 + 1 + 1 + 1 + 1 + 1 + 1 + 1) (.cell none)).set (L + 1 + 1 + 1 + 1 + 1 + 1 + 1 + 1 + 1) (.cell none)) L [none, none, none, none, none, none, none, none, none] := by
  have h0 : CellsAt H L [] := fun j u e => by simp at e
  exact ((((((((h0.more (v := none)).more (v := none)).more (v := none)).more (v := none)).more (v := none)).more (v := none)).more (v := none)).more (v := none)).more (v := none)
def tabH : HM := fun b => if b = 185 then some (.raw (tabObj #[])) else none
theorem law_top {P : Params} {prog : Program} {w : World} {s₁ : Shared} (KX : (KK P).In s₁.heap) (T : Top p loose mean mg mb s₁.heap) (hT9 : TabsAt [(189, 185)] s₁.heap) {a : Addr} {ws : List Value} {ns : List Int} (hL : s₁.heap.IsList a ws.toArray) (hws : ws.map er = ns.map VI) (hl : ns.length ≤ 1000)
    {R : Result → Shared → Prop} (hR : ∀ h' t, (∀ b o, (ghostOf s₁.heap [(189, 185)]).get? b = some o → h'.get? b = some o) → GrownAt 185 h' → R (.ok (.ret (.bool true))) { s₁ with heap := h', toks := t }) :
    codeAny (model prog w) callerA (.call (.ref 240) ⟨[.ref a], []⟩) R s₁ := by
  have T' := ghost_top hT9 T
  have C' := ghost_code hT9
  have X' := ghost_K hT9 KX (by kernel_rfl)
  have hsz : (ghostOf s₁.heap [(189, 185)]).objs.size = s₁.heap.objs.size := hideAll_size _ _
  have h185 : s₁.heap.get? 185 = some (tabObj #[]) := (hT9 (189, 185) (by simp)).2
  have g185 : (ghostOf s₁.heap [(189, 185)]).get? 185 = none := hideAll_none _ (by simp)
  have go : ∀ {fd : FuncData} {body : List Stmt} {bs : List (Str × Value)} (W : Fn (KK P) 240 fd body) (hb : FnBinds (KK P) fd [.ref a] [] bs)
      (hk : okBinds fd.scope.names (bs.map (·.1)) = true) (hbs : bindLM (callEnvC (fdOf (KK P) 240) s₁.heap.objs.size 240).kindOf bs [] = ([("script", .ref a)] : LM))
      (hcs : ∀ H : HM, cellsH H (cellsFrom (s₁.heap.objs.size + 1) fd.scope.names []) (bindCM (callEnvC (fdOf (KK P) 240) s₁.heap.objs.size 240).kindOf bs fun _ => none) = (((((((((H.set (s₁.heap.objs.size + 1) (.cell none)).set (s₁.heap.objs.size + 1 + 1) (.cell none)).set (s₁.heap.objs.size + 1 + 1 + 1) (.cell none)).set (s₁.heap.objs.size + 1 + 1 + 1 + 1) (.cell none)).set (s₁.heap.objs.size + 1 + 1 + 1 + 1 + 1) (.cell none)).set (s₁.heap.objs.size + 1 + 1 + 1 + 1 + 1 + 1) (.cell none)).set (s₁.heap.objs.size + 1 + 1 + 1 + 1 + 1 + 1 + 1) (.cell none)).set (s₁.heap.objs.size + 1 + 1 + 1 + 1 + 1 + 1 + 1 + 1) (.cell none)).set (s₁.heap.objs.size + 1 + 1 + 1 + 1 + 1 + 1 + 1 + 1 + 1) (.cell none)))
      (hbody : body = lawR P 0), codeAny (model prog w) callerA (.call (.ref 240) ⟨[.ref a], []⟩) R s₁ := by
    intro fd body bs W hb hk hbs hcs hbody
    have ef : fdOf (KK P) 240 = fd := by
      obtain ⟨_, _, _, e⟩ := W.look
      unfold fdOf; rw [e]
    subst ef hbody
    obtain ⟨binds, hbt, rfl⟩ := hb [.ref a] [] rfl rfl
    obtain ⟨oc, od, osl, hlook⟩ := W.look
    let c : FC := { prog := prog, w := w, s₀ := { s₁ with heap := ghostOf s₁.heap [(189, 185)] }, A := callerA, env := callEnvC (fdOf (KK P) 240) 0 0 }
    have Ok' : Ok (c.call (fdOf (KK P) 240) s₁.heap.objs.size 240) (KK P) (8 + 12) := by
      refine ⟨X', ⟨_, T'.g⟩, ⟨_, T'.b, T'.builtins⟩, T'.nolimit, W.kind, W.g, W.b, rfl, ?_, ?_⟩
      · show callerA.depth + 1 + (8 + 12) < 900
        decide
      · show callerA.units + 3 + 4 * (8 + 12) < 9000
        decide
    refine codeAny_call_function (fd := fdOf (KK P) 240) (by decide) (KX _ _ hlook) rfl W.co W.gen W.body (codeRec_of KX W.cd) (hbt s₁ KX _ _ _ _ ?_)
    rw [W.clo]
    refine wpAny_newFunctionEnv_cells W.kind (fun x hx => ?_) fun env he s' x => ?_
    · have := List.all_eq_true.mp hk x.1 (by rw [List.map_map]; exact List.mem_map.mpr ⟨x, hx, rfl⟩)
      rw [Bool.or_eq_true, beq_iff_eq, beq_iff_eq] at this
      exact this.imp id fun q => ⟨q, cells_have _ _ _ _ (.inl q)⟩
    · obtain ⟨h', t', es'⟩ := x.toInCall.same
      have kp := x.toInCall.keep
      have eenv : env = (c.call (fdOf (KK P) 240) s₁.heap.objs.size 240).env := he
      subst eenv
      refine ⟨by rw [es'] at kp ⊢; exact T.nolimit.keeps kp, codeAny_func ?_⟩
      have S1 : St (c.call (fdOf (KK P) 240) s₁.heap.objs.size 240) [("script", .ref a)] (cellsH tabH (cellsFrom (s₁.heap.objs.size + 1) (fdOf (KK P) 240).scope.names []) (bindCM (callEnvC (fdOf (KK P) 240) s₁.heap.objs.size 240).kindOf (binds.map fun p => (p.1, er p.2)) fun _ => none)) (fun _ => none) s' := by
        rw [← hbs]
        refine ⟨⟨h', t', es'⟩, fun b o e => kp b o (of_hideAll _ e), ⟨_, x.toInCall.ns, bind_rel _ _ _ _ fun y u hy => by cases hy⟩, Nat.le_of_eq hsz, fun _ => .inr rfl, fun b ao e => ?_, fun b ao e => by cases e⟩
        rcases cellsH_some e with ⟨q, hq, rfl, rfl⟩ | ⟨_, e⟩
        · have hlk := lookup_of_nd (cells_nd (fdOf (KK P) 240).scope.names (s₁.heap.objs.size + 1) [] W.nd (fun _ _ _ hq => nomatch hq) List.Pairwise.nil) hq
          obtain ⟨o, ho, hd⟩ := x.cell q.1 q.2 hlk
          have hab := x.above q.1 q.2 hq
          refine ⟨Nat.ne_of_gt hab, ?_, o, ho, _, hd, ?_⟩
          · show (ghostOf s₁.heap [(189, 185)]).get? q.2 = none
            cases ge : (ghostOf s₁.heap [(189, 185)]).get? q.2 with
            | none => rfl
            | some o' =>
              have h1 := Heap.lt_size ge
              rw [hsz] at h1
              exact absurd (Nat.lt_trans h1 hab) (Nat.lt_irrefl _)
          · exact (bind_cells _ _ _ _ (fun _ => rfl) q.1).symm
        · by_cases q : b = 185
          · subst q
            have e : (if (185 : Addr) = 185 then some (AO.raw (tabObj #[])) else none) = some ao := e
            rw [if_pos rfl] at e
            cases e
            exact ⟨Nat.ne_of_lt (Heap.lt_size h185), g185, _, kp _ _ h185, rfl⟩
          · have e : (if b = 185 then some (AO.raw (tabObj #[])) else none) = some ao := e
            rw [if_neg q] at e; cases e
      rw [hcs] at S1
      have hlt : (185 : Nat) < s₁.heap.objs.size := Heap.lt_size h185
      have n185 : ∀ k : Nat, (185 : Addr) ≠ s₁.heap.objs.size + 1 + k := fun k q => by
        have q : (185 : Nat) = s₁.heap.objs.size + 1 + k := q
        omega
      have hTS : TabSt P (((((((((tabH.set (s₁.heap.objs.size + 1) (.cell none)).set (s₁.heap.objs.size + 1 + 1) (.cell none)).set (s₁.heap.objs.size + 1 + 1 + 1) (.cell none)).set (s₁.heap.objs.size + 1 + 1 + 1 + 1) (.cell none)).set (s₁.heap.objs.size + 1 + 1 + 1 + 1 + 1) (.cell none)).set (s₁.heap.objs.size + 1 + 1 + 1 + 1 + 1 + 1) (.cell none)).set (s₁.heap.objs.size + 1 + 1 + 1 + 1 + 1 + 1 + 1) (.cell none)).set (s₁.heap.objs.size + 1 + 1 + 1 + 1 + 1 + 1 + 1 + 1) (.cell none)).set (s₁.heap.objs.size + 1 + 1 + 1 + 1 + 1 + 1 + 1 + 1 + 1) (.cell none)) := by
        refine ⟨#[], ?_, trivial, .inl rfl⟩
        rw [HM.set_ne _ _ (n185 8), HM.set_ne _ _ (n185 7), HM.set_ne _ _ (n185 6), HM.set_ne _ _ (n185 5), HM.set_ne _ _ (n185 4), HM.set_ne _ _ (n185 3), HM.set_ne _ _ (n185 2), HM.set_ne _ _ (n185 1), HM.set_ne _ _ (n185 0)]
        exact if_pos rfl
      refine wpAny_mono (K_lawB (c := c) (n := 8) (Q := fun v H' => v = VB true ∧ TabSt P H') T' (fun cc e => ?_) Ok' (cells9 _ _) hTS (ghost_list hT9 hL) hws hl (fun H' t => ⟨rfl, t⟩) _ _ S1) (fun fl s'' ⟨m', H', S', H'', hle, hv, ps, ht, _⟩ => ?_) fun _ _ z => z.elim
      · have : (fdOf (KK P) 190).code = .ref 189 := rfl
        rw [this] at e; cases e
        exact C'.1
      · obtain ⟨ha, ta, es''⟩ := S'.same
        obtain ⟨_, _, og, hog, eog⟩ := S'.hp _ _ (hle _ _ ht)
        have eog : og = tabObj ps := eog
        subst eog
        rw [es''] at hog
        have hb := S'.base
        rw [es''] at hb
        rw [es'']
        cases fl with
        | ret v =>
          obtain rfl := er_bool hv
          exact hR ha ta hb ⟨ps, hog⟩
        | next => cases hv
        | brk => cases hv
        | cont => cases hv
  exact go ⟨⟨_, _, _, rfl⟩, rfl, rfl, rfl, rfl, rfl, rfl, rfl, rfl, by decide⟩ (.a1 fun _ => rfl) rfl rfl (fun _ => rfl) rfl
theorem ints_er {vs : List Value} {ns : List Int} (h : IntsAre vs ns) : vs.map er = ns.map VI := by
  induction h with
  | nil => rfl
  | cons n t _ ih => rw [List.map_cons, List.map_cons, ih]; rfl
end
theorem jj : PySem.Challenge.rw_dt5003_02.Holds := by
  refine hd ?_
  intro w s₀ s₁ mg mb G Y fa o pm cd doc dV kV ho hd' hcd hD hmg hg args vals as hpre hlay hrd hwl hlo
  have KX := km_in_of Y
  have hT8 := km_tabs_of Y
  refine Ground.open G ?_
  intro T B D TE TW
  have hm2 := mg_of KX T.g (n := Str.ofString "law") (v := .ref 240) (by kernel_rfl)
  have hfa : fa = 240 := by
    have hmg : mg (Str.ofString "law") = some (.ref fa) := hmg
    rw [hm2] at hmg; cases hmg; rfl
  subst hfa
  clear ho hd' hcd hD hmg hm2 TE TW D B
  wrow_args hpre hlay hrd hwl hlo
  rename_i ns _ _ _ _ _ _ _ a ws _ hL _ _ _ hI _ hc _
  have hT9 : TabsAt ([(189, 185)] : List (Addr × Addr)) s₁.heap := List.forall_mem_cons.mpr ⟨⟨codeHd_of_K (c := 189) (P := 185) KX (by kernel_rfl), hT8 185 (by simp)⟩, fun _ h => nomatch h⟩
  refine enter_call ?_
  refine kn_post hT9 (fun _ _ => rfl) ?_
  refine law_top (P := w.params) KX T hT9 hL (ints_er hI) (by omega) fun h' t hk hgr => ⟨⟨.inl ⟨_, .bool true, [], rfl, fun _ => rfl, .bool true, (by first | kernel_rfl | rfl | (simp; done)), fun _ => ⟨List.nodup_nil, fun _ h => nomatch h⟩⟩, hk, rfl, hg⟩, hgr, trivial⟩

end Mine
end

theorem PySem.Challenge.cw_dt5003_02_holds : PySem.Challenge.rw_dt5003_02.Holds := by
  exact Mine.jj
