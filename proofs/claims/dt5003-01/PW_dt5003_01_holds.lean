import PyProof.Rows.All
import PyProof.ExcFactsAll.ValueError
import PyProof.Rows.Catch
import PyProof.Rows.FStr
import KE.KNest
import KE.KNestM
import Wide.FinOn
import OpenK.AllK
import Wide.All
import Lean
import PySem.Challenge.RW_dt5003_01
set_option Elab.async false

section
open PySem PySem.W PyProof.Rows
namespace Mine
set_option maxRecDepth 100000 in
set_option maxHeartbeats 8000000 in
open_top hd for PySem.Challenge.rw_dt5003_01
end Mine
end

section
open PySem PySem.W PySem.Calls PyProof.Rows
set_option linter.all false
namespace Mine

/-! ## values without tokens -/
def er : Value → Value
  | .int i _ => .int i 0
  | .float b _ => .float b 0
  | .str x _ => .str x 0
  | .bytes b _ => .bytes b 0
  | v => v
abbrev VI (i : Int) : Value := .int i 0
abbrev VS (x : Str) : Value := .str x 0
abbrev VB (b : Bool) : Value := .bool b
abbrev VN : Value := .none

theorem er_int {V : Value} {i : Int} (h : er V = VI i) : ∃ t, V = .int i t := by
  cases V <;> simp only [er] at h <;> cases h; exact ⟨_, rfl⟩
theorem er_str {V : Value} {x : Str} (h : er V = VS x) : ∃ t, V = .str x t := by
  cases V <;> simp only [er] at h <;> cases h; exact ⟨_, rfl⟩
theorem er_bool {V : Value} {b : Bool} (h : er V = .bool b) : V = .bool b := by
  cases V <;> simp only [er] at h <;> cases h; rfl
theorem er_none {V : Value} (h : er V = .none) : V = .none := by
  cases V <;> simp only [er] at h <;> cases h; rfl
theorem er_ref {V : Value} {a : Addr} (h : er V = .ref a) : V = .ref a := by
  cases V <;> simp only [er] at h <;> cases h; rfl
theorem er_builtin {V : Value} {a : String} (h : er V = .builtin a) : V = .builtin a := by
  cases V <;> simp only [er] at h <;> cases h; rfl
theorem er_type {V : Value} {a : String} (h : er V = .type a) : V = .type a := by
  cases V <;> simp only [er] at h <;> cases h; rfl
theorem er_er (V : Value) : er (er V) = er V := by cases V <;> rfl
theorem ers_cons {Vs : List Value} {v : Value} {vs : List Value} (h : Vs.map er = v :: vs) : ∃ V Vr, Vs = V :: Vr ∧ er V = v ∧ Vr.map er = vs := by
  cases Vs with
  | nil => cases h
  | cons V Vr => simp only [List.map_cons, List.cons.injEq] at h; exact ⟨V, Vr, rfl, h⟩
theorem ers_nil {Vs : List Value} (h : Vs.map er = []) : Vs = [] := List.map_eq_nil_iff.mp h

def erF : Flow → Flow
  | .ret v => .ret (er v)
  | f => f

/-! ## objects without tokens -/
inductive AO where
  | list (vs : List Value)
  | tup (vs : List Value)
  | cell (v : Option Value)
  | dic (fs : List (Str × Value))
  | raw (o : Obj)

def AO.Is : AO → Obj → Prop
  | .list vs, o => ∃ (ws : List Value) (n : Nat), o = { cls := .type "list", data := .seq ws.toArray n } ∧ ws.map er = vs
  | .tup vs, o => ∃ (ws : List Value) (n : Nat), (o.cls = .type "tuple" ∧ o.data = .seq ws.toArray n) ∧ ws.map er = vs
  | .cell v, o => ∃ w, o.data = .cell w ∧ w.map er = v
  | .dic fs, o => ∃ (es : List DictEntry) (n : Nat), o = dictOf es n ∧ es.map (fun e => (er e.key, er e.val)) = fs.map (fun p => (VS p.1, p.2))
  | .raw o', o => o = o'

abbrev LM := List (Str × Value)
abbrev HM := Addr → Option AO
abbrev XM := HM → Value → Shared → Prop

def HM.set (H : HM) (a : Addr) (o : AO) : HM := fun b => if b = a then some o else H b
theorem HM.set_same (H : HM) (a : Addr) (o : AO) : H.set a o a = some o := by simp [HM.set]
theorem HM.set_ne (H : HM) {a b : Addr} (o : AO) (h : b ≠ a) : H.set a o b = H b := by simp [HM.set, h]
theorem HM.set_set (H : HM) (a : Addr) (o o' : AO) : (H.set a o).set a o' = H.set a o' := by
  funext b; simp only [HM.set]; split <;> rfl
theorem HM.set_comm (H : HM) {a b : Addr} (o o' : AO) (h : a ≠ b) : (H.set a o).set b o' = (H.set b o').set a o := by
  funext x; simp only [HM.set]; split <;> split <;> first | rfl | (rename_i h1 h2; exact absurd (h2.symm.trans h1) h)
theorem HM.set_id (H : HM) {a : Addr} {o : AO} (h : H a = some o) : H.set a o = H := by
  funext x; simp only [HM.set]; split
  · rename_i e; rw [e, h]
  · rfl
theorem HM.ne_of {H : HM} {a b : Addr} {o : AO} (ha : H a = none) (hb : H b = some o) : b ≠ a := by
  rintro rfl; rw [ha] at hb; cases hb
def HM.le (H H' : HM) : Prop := ∀ a o, H a = some o → H' a = some o
theorem HM.le.refl (H : HM) : H.le H := fun _ _ h => h
theorem HM.le.trans {H H' H'' : HM} (h : H.le H') (h' : H'.le H'') : H.le H'' := fun a o e => h' a o (h a o e)
theorem HM.le_set {H : HM} {a : Addr} (o : AO) (h : H a = none) : H.le (H.set a o) := fun b x e => by
  rw [HM.set_ne _ _ (HM.ne_of h e)]; exact e
theorem HM.set_le {H H' : HM} (a : Addr) (o : AO) (h : H.le H') : (H.set a o).le (H'.set a o) := fun b x e => by
  simp only [HM.set] at e ⊢
  split
  · rename_i e'; rw [if_pos e'] at e; exact e
  · rename_i e'; rw [if_neg e'] at e; exact h b x e

/-! ## the frame at hand -/
structure FC where
  prog : Program
  w : World
  s₀ : Shared
  A : Around
  env : Env

def FC.HasAt (c : FC) (h : Heap) (a : Addr) (ao : AO) : Prop :=
  a ≠ c.env.locals ∧ c.s₀.heap.get? a = none ∧ ∃ o, h.get? a = some o ∧ ao.Is o

def MRel (m : LM) (mr : Str → Option Value) : Prop := ∀ x v, m.lookup x = some v → ∃ V, mr x = some V ∧ er V = v

structure St (c : FC) (m : LM) (H F : HM) (s : Shared) : Prop where
  same : ∃ h t, s = { c.s₀ with heap := h, toks := t }
  base : ∀ b o, c.s₀.heap.get? b = some o → s.heap.get? b = some o
  ns : ∃ mr, s.heap.Ns c.env.locals mr ∧ MRel m mr
  lb : c.s₀.heap.objs.size ≤ c.env.locals
  dj : ∀ a, H a = none ∨ F a = none
  hp : ∀ a ao, H a = some ao → c.HasAt s.heap a ao
  fp : ∀ a ao, F a = some ao → c.HasAt s.heap a ao

theorem FC.HasAt.keeps {c : FC} {h h' : Heap} {a : Addr} {ao : AO} (x : c.HasAt h a ao) (k : ∀ b o, b ≠ c.env.locals → h.get? b = some o → h'.get? b = some o) : c.HasAt h' a ao :=
  let ⟨h1, h2, o, h3, h4⟩ := x; ⟨h1, h2, o, k _ _ h1 h3, h4⟩

section
variable {c : FC} {m : LM} {H F : HM} {s : Shared}

theorem St.toks (S : St c m H F s) (t : Nat) : St c m H F { s with toks := t } := by
  obtain ⟨h, t', rfl⟩ := S.same
  exact ⟨⟨_, _, rfl⟩, S.base, S.ns, S.lb, S.dj, S.hp, S.fp⟩

theorem St.keeps (S : St c m H F s) {h' : Heap} {t : Nat} (k : ∀ b o, s.heap.get? b = some o → h'.get? b = some o) : St c m H F { s with heap := h', toks := t } := by
  obtain ⟨h, t', rfl⟩ := S.same
  obtain ⟨mr, n1, n2⟩ := S.ns
  exact ⟨⟨_, _, rfl⟩, fun b o e => k _ _ (S.base b o e), ⟨mr, n1.keeps k, n2⟩, S.lb, S.dj, fun a o e => (S.hp a o e).keeps fun _ _ _ => k _ _, fun a o e => (S.fp a o e).keeps fun _ _ _ => k _ _⟩

theorem St.keeps' (S : St c m H F s) {h' : Heap} (k : ∀ b o, s.heap.get? b = some o → h'.get? b = some o) : St c m H F { s with heap := h' } := S.keeps k

theorem St.setName (S : St c m H F s) {h' : Heap} {t : Nat} {x : Str} {V v : Value} {mr : Str → Option Value} (hm : MRel m mr) (hv : er V = v)
    (n : h'.Ns c.env.locals (fun y => if y = x then some V else mr y)) (k : Heap.SameBut c.env.locals s.heap h') : St c ((x, v) :: m) H F { s with heap := h', toks := t } := by
  obtain ⟨h, t', rfl⟩ := S.same
  refine ⟨⟨_, _, rfl⟩, fun b o e => (k.2 b ?_).trans (S.base b o e), ⟨_, n, ?_⟩, S.lb, S.dj, fun a o e => (S.hp a o e).keeps fun b o' hb e' => (k.2 b hb).trans e', fun a o e => (S.fp a o e).keeps fun b o' hb e' => (k.2 b hb).trans e'⟩
  · rintro rfl; exact absurd (Heap.lt_size e) (Nat.not_lt.mpr S.lb)
  · intro y u hy
    rw [List.lookup_cons] at hy
    by_cases hyx : y = x
    · subst hyx; simp only [beq_self_eq_true] at hy; cases hy; exact ⟨V, by simp, hv⟩
    · rw [beq_eq_false_iff_ne.mpr hyx] at hy
      obtain ⟨W, w1, w2⟩ := hm y u hy
      exact ⟨W, by simp [hyx, w1], w2⟩

theorem St.fresh (S : St c m H F s) : H s.heap.objs.size = none ∧ F s.heap.objs.size = none ∧ s.heap.objs.size ≠ c.env.locals ∧ c.s₀.heap.get? s.heap.objs.size = none := by
  have no : ∀ o, s.heap.get? s.heap.objs.size ≠ some o := fun o e => Nat.lt_irrefl _ (Heap.lt_size e)
  refine ⟨?_, ?_, ?_, ?_⟩
  · cases e : H s.heap.objs.size with
    | none => rfl
    | some o => obtain ⟨_, _, o', e', _⟩ := S.hp _ _ e; exact absurd e' (no o')
  · cases e : F s.heap.objs.size with
    | none => rfl
    | some o => obtain ⟨_, _, o', e', _⟩ := S.fp _ _ e; exact absurd e' (no o')
  · intro e
    obtain ⟨mr, ⟨o, _, _, ho, _⟩, _⟩ := S.ns
    rw [← e] at ho; exact no o ho
  · cases e : c.s₀.heap.get? s.heap.objs.size with
    | none => rfl
    | some o => exact absurd (S.base _ _ e) (no o)

theorem St.push (S : St c m H F s) {o : Obj} {ao : AO} (ho : ao.Is o) (hf : o.isFreed = false) : St c m (H.set s.heap.objs.size ao) F { s with heap := s.heap.push o } := by
  obtain ⟨h1, h2, h3, h4⟩ := S.fresh
  have S' := S.keeps' (h' := s.heap.push o) fun b o' e => Heap.get?_push_of_some _ e
  refine ⟨S'.same, S'.base, S'.ns, S'.lb, fun a => ?_, fun a ao' e => ?_, S'.fp⟩
  · by_cases ha : a = s.heap.objs.size
    · subst ha; exact .inr h2
    · rw [HM.set_ne _ _ ha]; exact S'.dj a
  · by_cases ha : a = s.heap.objs.size
    · subst ha; rw [HM.set_same] at e; cases e
      exact ⟨h3, h4, o, Heap.get?_push_size _ hf, ho⟩
    · rw [HM.set_ne _ _ ha] at e; exact S'.hp a ao' e

theorem St.upd (S : St c m H F s) {a : Addr} {ao ao' : AO} {h' : Heap} {o' : Obj} {t : Nat} (ha : H a = some ao) (hk : Heap.SameBut a s.heap h') (ho : h'.get? a = some o') (hi : ao'.Is o') :
    St c m (H.set a ao') F { s with heap := h', toks := t } := by
  obtain ⟨h, t', rfl⟩ := S.same
  obtain ⟨aL, aB, oa, eoa, _⟩ := S.hp a ao ha
  have kb : ∀ b o, b ≠ a → h.get? b = some o → h'.get? b = some o := fun b o hb e => (hk.2 b hb).trans e
  obtain ⟨mr, n1, n2⟩ := S.ns
  refine ⟨⟨_, _, rfl⟩, fun b o e => kb b o ?_ (S.base b o e), ⟨mr, n1.sameBut hk (Ne.symm aL), n2⟩, S.lb, fun b => ?_, fun b bo e => ?_, fun b bo e => ?_⟩
  · rintro rfl; rw [aB] at e; cases e
  · by_cases hb : b = a
    · subst hb; rcases S.dj b with q | q
      · rw [q] at ha; cases ha
      · exact .inr q
    · rw [HM.set_ne _ _ hb]; exact S.dj b
  · by_cases hb : b = a
    · subst hb; rw [HM.set_same] at e; cases e; exact ⟨aL, aB, o', ho, hi⟩
    · rw [HM.set_ne _ _ hb] at e
      obtain ⟨x1, x2, o, x3, x4⟩ := S.hp b bo e
      exact ⟨x1, x2, o, kb b o hb x3, x4⟩
  · have hb : b ≠ a := by
      rintro rfl; rcases S.dj b with q | q
      · rw [q] at ha; cases ha
      · rw [q] at e; cases e
    obtain ⟨x1, x2, o, x3, x4⟩ := S.fp b bo e
    exact ⟨x1, x2, o, kb b o hb x3, x4⟩

theorem St.weak (S : St c m H F s) {H' : HM} (h : H'.le H) : St c m H' F s :=
  ⟨S.same, S.base, S.ns, S.lb, fun a => (S.dj a).imp (fun e => by
    cases q : H' a with
    | none => rfl
    | some o => rw [h a o q] at e; cases e) id, fun a o e => S.hp a o (h a o e), S.fp⟩

def LM.le (m' m : LM) : Prop := ∀ x v, m'.lookup x = some v → m.lookup x = some v
theorem St.weakm (S : St c m H F s) {m' : LM} (h : LM.le m' m) : St c m' H F s :=
  let ⟨mr, n1, n2⟩ := S.ns
  ⟨S.same, S.base, ⟨mr, n1, fun x v e => n2 x v (h x v e)⟩, S.lb, S.dj, S.hp, S.fp⟩

theorem LM.le_nil (m : LM) : LM.le [] m := fun _ _ h => by cases h
theorem LM.le_cons {m' m : LM} {x : Str} {v : Value} (h : m.lookup x = some v) (h' : LM.le m' m) : LM.le ((x, v) :: m') m := fun y u e => by
  rw [List.lookup_cons] at e
  by_cases hy : y = x
  · subst hy; simp only [beq_self_eq_true] at e; cases e; exact h
  · rw [beq_eq_false_iff_ne.mpr hy] at e; exact h' y u e
theorem LM.le_refl (m : LM) : LM.le m m := fun _ _ h => h
end

/-! ## the judgements -/
def Wp (c : FC) {α : Type} (t : Sem α) (m : LM) (H : HM) (Q : α → LM → HM → Prop) (X : XM) : Prop :=
  ∀ F s, St c m H F s → wpAny (model c.prog c.w) c.A t (fun v s' => ∃ m' H', St c m' H' F s' ∧ Q v m' H') (X F) s

def Ew (c : FC) (t : Sem Value) (m : LM) (H : HM) (Q : Value → HM → Prop) (X : XM) : Prop :=
  ∀ F s, St c m H F s → wpAny (model c.prog c.w) c.A t (fun V s' => ∃ H', St c m H' F s' ∧ Q (er V) H') (X F) s
def Uw (c : FC) (t : Sem Unit) (m : LM) (H : HM) (Q : HM → Prop) (X : XM) : Prop :=
  ∀ F s, St c m H F s → wpAny (model c.prog c.w) c.A t (fun _ s' => ∃ H', St c m H' F s' ∧ Q H') (X F) s
def Bw (c : FC) (t : Sem Bool) (m : LM) (H : HM) (Q : Bool → HM → Prop) (X : XM) : Prop :=
  ∀ F s, St c m H F s → wpAny (model c.prog c.w) c.A t (fun b s' => ∃ H', St c m H' F s' ∧ Q b H') (X F) s
def Lw (c : FC) (t : Sem (List Value)) (m : LM) (H : HM) (Q : List Value → HM → Prop) (X : XM) : Prop :=
  ∀ F s, St c m H F s → wpAny (model c.prog c.w) c.A t (fun Vs s' => ∃ H', St c m H' F s' ∧ Q (Vs.map er) H') (X F) s
def Fw (c : FC) (t : Sem Flow) (m : LM) (H : HM) (Q : Flow → LM → HM → Prop) (X : XM) : Prop :=
  ∀ F s, St c m H F s → wpAny (model c.prog c.w) c.A t (fun f s' => ∃ m' H', St c m' H' F s' ∧ Q (erF f) m' H') (X F) s
def Nw (c : FC) (t : Sem Unit) (m : LM) (H : HM) (Q : LM → HM → Prop) (X : XM) : Prop :=
  ∀ F s, St c m H F s → wpAny (model c.prog c.w) c.A t (fun _ s' => ∃ m' H', St c m' H' F s' ∧ Q m' H') (X F) s

def XF : XM := fun _ _ _ => False

abbrev Ev (c : FC) (e : Expr) := Ew c (eval e c.env)
abbrev Ex (c : FC) (st : Stmt) := Fw c (exec st c.env)
abbrev Exs (c : FC) (sts : List Stmt) := Fw c (execs sts c.env)
abbrev Tst (c : FC) (e : Expr) := Bw c (isTrue e c.env (eval e c.env))
def Vals (c : FC) (es : List Expr) (m : LM) (H : HM) (Q : List Value → HM → Prop) (X : XM) : Prop :=
  ∀ pos, Lw c (spliced (backTo pos (starEach es c.env))) m H Q X
def Op1 (c : FC) (f : Value → Sem Value) (a : Value) (m : LM) (H : HM) (Q : Value → HM → Prop) (X : XM) : Prop :=
  ∀ A, er A = a → Ew c (f A) m H Q X
def Op2 (c : FC) (f : Value → Value → Sem Value) (a b : Value) (m : LM) (H : HM) (Q : Value → HM → Prop) (X : XM) : Prop :=
  ∀ A B, er A = a → er B = b → Ew c (f A B) m H Q X
def Tru (c : FC) (a : Value) (m : LM) (H : HM) (Q : Bool → HM → Prop) (X : XM) : Prop :=
  ∀ A, er A = a → Bw c (truthy A) m H Q X
def CallJ (c : FC) (f : Value) (as : List Value) (ks : List (Str × Value)) (m : LM) (H : HM) (Q : Value → HM → Prop) (X : XM) : Prop :=
  ∀ Fv Vs Ks, er Fv = f → Vs.map er = as → Ks.map (fun p => (p.1, er p.2)) = ks → Ew c (call Fv Vs Ks) m H Q X
def SetJ (c : FC) (f : Value → Sem Unit) (a : Value) (m : LM) (H : HM) (Q : LM → HM → Prop) (X : XM) : Prop :=
  ∀ A, er A = a → Nw c (f A) m H Q X

section
variable {c : FC} {m : LM} {H : HM} {X : XM}

theorem Ew.mono {t : Sem Value} {Q Q' : Value → HM → Prop} {X' : XM} (h : Ew c t m H Q X) (hq : ∀ v H', Q v H' → Q' v H') (hx : ∀ F e s, X F e s → X' F e s) : Ew c t m H Q' X' :=
  fun F s S => wpAny_mono (h F s S) (fun _ _ ⟨H', S', q⟩ => ⟨H', S', hq _ _ q⟩) (hx F)
theorem Fw.mono {t : Sem Flow} {Q Q' : Flow → LM → HM → Prop} {X' : XM} (h : Fw c t m H Q X) (hq : ∀ f m' H', Q f m' H' → Q' f m' H') (hx : ∀ F e s, X F e s → X' F e s) : Fw c t m H Q' X' :=
  fun F s S => wpAny_mono (h F s S) (fun _ _ ⟨m', H', S', q⟩ => ⟨m', H', S', hq _ _ _ q⟩) (hx F)
theorem Bw.mono {t : Sem Bool} {Q Q' : Bool → HM → Prop} {X' : XM} (h : Bw c t m H Q X) (hq : ∀ v H', Q v H' → Q' v H') (hx : ∀ F e s, X F e s → X' F e s) : Bw c t m H Q' X' :=
  fun F s S => wpAny_mono (h F s S) (fun _ _ ⟨H', S', q⟩ => ⟨H', S', hq _ _ q⟩) (hx F)
theorem Lw.mono {t : Sem (List Value)} {Q Q' : List Value → HM → Prop} {X' : XM} (h : Lw c t m H Q X) (hq : ∀ v H', Q v H' → Q' v H') (hx : ∀ F e s, X F e s → X' F e s) : Lw c t m H Q' X' :=
  fun F s S => wpAny_mono (h F s S) (fun _ _ ⟨H', S', q⟩ => ⟨H', S', hq _ _ q⟩) (hx F)
theorem Nw.mono {t : Sem Unit} {Q Q' : LM → HM → Prop} {X' : XM} (h : Nw c t m H Q X) (hq : ∀ m' H', Q m' H' → Q' m' H') (hx : ∀ F e s, X F e s → X' F e s) : Nw c t m H Q' X' :=
  fun F s S => wpAny_mono (h F s S) (fun _ _ ⟨m', H', S', q⟩ => ⟨m', H', S', hq _ _ q⟩) (hx F)
theorem CallJ.mono {f : Value} {as : List Value} {ks : List (Str × Value)} {Q Q' : Value → HM → Prop} {X' : XM} (h : CallJ c f as ks m H Q X) (hq : ∀ v H', Q v H' → Q' v H') (hx : ∀ F e s, X F e s → X' F e s) : CallJ c f as ks m H Q' X' :=
  fun Fv Vs Ks e0 e1 e2 => (h Fv Vs Ks e0 e1 e2).mono hq hx
theorem CallJ.of {f : Value} {as : List Value} {ks : List (Str × Value)} {Q Q' : Value → HM → Prop} (h : CallJ c f as ks m H Q XF) (hq : ∀ v H', Q v H' → Q' v H') : CallJ c f as ks m H Q' X :=
  h.mono hq fun _ _ _ x => x.elim

/-! ### expressions -/
theorem Ev.int {i k p} {Q : Value → HM → Prop} (h : Q (VI i) H) : Ev c (.Constant (.int i) k p) m H Q X :=
  fun F s S => wpAny_Constant_int ⟨H, S.toks _, h⟩
theorem Ev.str {x k p} {Q : Value → HM → Prop} (h : Q (VS x) H) : Ev c (.Constant (.str x) k p) m H Q X :=
  fun F s S => Constant_str ⟨H, S.toks _, h⟩
theorem Ev.bool {b k p} {Q : Value → HM → Prop} (h : Q (.bool b) H) : Ev c (.Constant (.bool b) k p) m H Q X :=
  fun F s S => wpAny_pure ⟨H, S, h⟩
theorem Ev.non {k p} {Q : Value → HM → Prop} (h : Q .none H) : Ev c (.Constant .none k p) m H Q X :=
  fun F s S => wpAny_pure ⟨H, S, h⟩

theorem Ev.loc {x p v} {Q : Value → HM → Prop} (hk : c.env.scope.kind = .function) (hl : c.env.kindOf x = some .local) (hv : m.lookup x = some v) (h : Q v H)
    (hd : (x == ("__debug__" : Str)) = false) : Ev c (.Name x p) m H Q X := fun F s S => by
  obtain ⟨mr, n1, n2⟩ := S.ns
  obtain ⟨V, v1, v2⟩ := n2 x v hv
  exact wpAny_Name (wpAny_loadName_local hk hl n1 v1 ⟨H, S, v2 ▸ h⟩) hd
theorem Ev.cell {x p v} {a : Addr} {Q : Value → HM → Prop} (hk : c.env.scope.kind = .function) (hl : c.env.kindOf x = some .cell) (hc : c.env.cells.lookup x = some a) (hv : H a = some (.cell (some v))) (h : Q v H)
    (hd : (x == ("__debug__" : Str)) = false) : Ev c (.Name x p) m H Q X := fun F s S => by
  obtain ⟨_, _, o, ho, w, hw, hv'⟩ := S.hp _ _ hv
  obtain ⟨W, rfl, rfl⟩ := Option.map_eq_some_iff.mp hv'
  exact wpAny_Name (wpAny_loadName_cell hk hl hc ⟨o, ho, hw⟩ ⟨H, S, h⟩) hd
theorem Ev.free {x p v} {a : Addr} {Q : Value → HM → Prop} (hk : c.env.scope.kind = .function) (hl : c.env.kindOf x = some .free) (hc : c.env.cells.lookup x = some a) (hv : H a = some (.cell (some v))) (h : Q v H)
    (hd : (x == ("__debug__" : Str)) = false) (hn : (x == ("__classdict__" : Str)) = false) : Ev c (.Name x p) m H Q X := fun F s S => by
  obtain ⟨_, _, o, ho, w, hw, hv'⟩ := S.hp _ _ hv
  obtain ⟨W, rfl, rfl⟩ := Option.map_eq_some_iff.mp hv'
  exact wpAny_Name (wpAny_loadName_free hk hl hc ⟨o, ho, hw⟩ ⟨H, S, h⟩ hn) hd

theorem Ev.bin {l op r p} {Q : Value → HM → Prop} (h : Ev c l m H (fun a H1 => Ev c r m H1 (fun b H2 => Op2 c (binaryOp op) a b m H2 Q X) X) X) : Ev c (.BinOp l op r p) m H Q X :=
  fun F s S => wpAny_BinOp (wpAny_mono (h F s S) (fun A s1 ⟨H1, S1, h1⟩ => wpAny_mono (h1 F s1 S1) (fun B s2 ⟨H2, S2, h2⟩ => h2 A B rfl rfl F s2 S2) fun _ _ e => e) fun _ _ e => e)
theorem Ev.cmp {l op r p} {Q : Value → HM → Prop} (h : Ev c l m H (fun a H1 => Ev c r m H1 (fun b H2 => Op2 c (compareOp op) a b m H2 Q X) X) X) (hm : behindInMarks op r = false) : Ev c (.Compare l [op] [r] p) m H Q X :=
  fun F s S => wpAny_Compare1 (wpAny_mono (h F s S) (fun A s1 ⟨H1, S1, h1⟩ => wpAny_mono (h1 F s1 S1) (fun B s2 ⟨H2, S2, h2⟩ => h2 A B rfl rfl F s2 S2) fun _ _ e => e) fun _ _ e => e) hm
theorem Ev.un {op x p} {Q : Value → HM → Prop} (h : Ev c x m H (fun a H1 => Op1 c (unaryOp op) a m H1 Q X) X) : Ev c (.UnaryOp op x p) m H Q X :=
  fun F s S => UnaryOp_ (wpAny_mono (h F s S) (fun A s1 ⟨H1, S1, h1⟩ => h1 A rfl F s1 S1) fun _ _ e => e)
theorem Ev.ifx {t b o p} {Q : Value → HM → Prop} (h : Tst c t m H (fun r H1 => if r = true then Ev c b m H1 Q X else Ev c o m H1 Q X) X) : Ev c (.IfExp t b o p) m H Q X :=
  fun F s S => IfExp_ (wpAny_mono (h F s S) (fun r s1 ⟨H1, S1, h1⟩ => by
    cases r with
    | true => rw [if_pos rfl] at h1 ⊢; exact h1 F s1 S1
    | false => rw [if_neg Bool.false_ne_true] at h1 ⊢; exact h1 F s1 S1) fun _ _ e => e)
theorem Ev.and1 {e p op} {Q : Value → HM → Prop} (h : Ev c e m H Q X) : Ev c (.BoolOp op [e] p) m H Q X := h
theorem Ev.and {e₁ e₂ rest p} {Q : Value → HM → Prop} (h : Ev c e₁ m H (fun v H1 => Tru c v m H1 (fun r H2 => if r = true then Ev c (.BoolOp .And (e₂ :: rest) p) m H2 Q X else Q v H2) X) X) : Ev c (.BoolOp .And (e₁ :: e₂ :: rest) p) m H Q X :=
  fun F s S => BoolOp_and (wpAny_mono (h F s S) (fun V s1 ⟨H1, S1, h1⟩ => wpAny_mono (h1 V rfl F s1 S1) (fun r s2 ⟨H2, S2, h2⟩ => by
    cases r with
    | true => rw [if_pos rfl] at h2 ⊢; exact h2 F s2 S2
    | false => rw [if_neg Bool.false_ne_true] at h2 ⊢; exact ⟨H2, S2, h2⟩) fun _ _ e => e) fun _ _ e => e)
theorem Ev.or {e₁ e₂ rest p} {Q : Value → HM → Prop} (h : Ev c e₁ m H (fun v H1 => Tru c v m H1 (fun r H2 => if r = true then Q v H2 else Ev c (.BoolOp .Or (e₂ :: rest) p) m H2 Q X) X) X) : Ev c (.BoolOp .Or (e₁ :: e₂ :: rest) p) m H Q X :=
  fun F s S => BoolOp_or (wpAny_mono (h F s S) (fun V s1 ⟨H1, S1, h1⟩ => wpAny_mono (h1 V rfl F s1 S1) (fun r s2 ⟨H2, S2, h2⟩ => by
    cases r with
    | true => rw [if_pos rfl] at h2 ⊢; exact ⟨H2, S2, h2⟩
    | false => rw [if_neg Bool.false_ne_true] at h2 ⊢; exact h2 F s2 S2) fun _ _ e => e) fun _ _ e => e)

theorem Vals.nil {Q : List Value → HM → Prop} (h : Q [] H) : Vals c [] m H Q X := fun pos F s S => args_nil ⟨H, S, h⟩
theorem Vals.cons {e rest} {Q : List Value → HM → Prop} (h : Ev c e m H (fun v H1 => Vals c rest m H1 (fun vs H2 => Q (v :: vs) H2) X) X)
    (he : starEach (e :: rest) c.env = (false, eval e c.env) :: starEach rest c.env) : Vals c (e :: rest) m H Q X :=
  fun pos F s S => args_cons (wpAny_mono (h F s S) (fun V s1 ⟨H1, S1, h1⟩ => wpAny_mono (h1 pos F s1 S1) (fun Vs s2 ⟨H2, S2, h2⟩ => ⟨H2, S2, h2⟩) fun _ _ e => e) fun _ _ e => e) he

/-! ### tests -/
theorem Tst.cmp {l op r p} {Q : Bool → HM → Prop} (h : Ev c l m H (fun a H1 => Ev c r m H1 (fun b H2 => Op2 c (compareOp op) a b m H2 (fun v H3 => Tru c v m H3 Q X) X) X) X) (hm : behindInMarks op r = false) : Tst c (.Compare l [op] [r] p) m H Q X :=
  fun F s S => wpAny_isTrue_Compare1 (wpAny_mono (h F s S) (fun A s1 ⟨H1, S1, h1⟩ => wpAny_mono (h1 F s1 S1) (fun B s2 ⟨H2, S2, h2⟩ => wpAny_mono (h2 A B rfl rfl F s2 S2) (fun V s3 ⟨H3, S3, h3⟩ => h3 V rfl F s3 S3) fun _ _ e => e) fun _ _ e => e) fun _ _ e => e) hm
theorem Tst.nt {x p} {Q : Bool → HM → Prop} (h : Tst c x m H (fun b H1 => Q (!b) H1) X) : Tst c (.UnaryOp .Not x p) m H Q X :=
  fun F s S => isTrue_not (h F s S)
def TstAll (c : FC) (op : BoolOp) (es : List Expr) (m : LM) (H : HM) (Q : Bool → HM → Prop) (X : XM) : Prop := Bw c (allTrue op es c.env) m H Q X
theorem Tst.bop {op es p} {Q : Bool → HM → Prop} (h : TstAll c op es m H Q X) : Tst c (.BoolOp op es p) m H Q X := h
theorem TstAll.andNil {Q : Bool → HM → Prop} (h : Q true H) : TstAll c .And [] m H Q X := fun F s S => wpAny_pure ⟨H, S, h⟩
theorem TstAll.orNil {Q : Bool → HM → Prop} (h : Q false H) : TstAll c .Or [] m H Q X := fun F s S => wpAny_pure ⟨H, S, h⟩
theorem TstAll.and {x rest} {Q : Bool → HM → Prop} (h : Tst c x m H (fun b H1 => if b = true then TstAll c .And rest m H1 Q X else Q false H1) X) : TstAll c .And (x :: rest) m H Q X :=
  fun F s S => isTrue_and (pos := default) (whole := eval (.BoolOp .And (x :: rest) default) c.env) (wpAny_mono (h F s S) (fun b s1 ⟨H1, S1, h1⟩ => by
    cases b with
    | true => rw [if_pos rfl] at h1 ⊢; exact h1 F s1 S1
    | false => rw [if_neg Bool.false_ne_true] at h1 ⊢; exact ⟨H1, S1, h1⟩) fun _ _ e => e)
theorem TstAll.or {x rest} {Q : Bool → HM → Prop} (h : Tst c x m H (fun b H1 => if b = true then Q true H1 else TstAll c .Or rest m H1 Q X) X) : TstAll c .Or (x :: rest) m H Q X :=
  fun F s S => isTrue_or (pos := default) (whole := eval (.BoolOp .Or (x :: rest) default) c.env) (wpAny_mono (h F s S) (fun b s1 ⟨H1, S1, h1⟩ => by
    cases b with
    | true => rw [if_pos rfl] at h1 ⊢; exact ⟨H1, S1, h1⟩
    | false => rw [if_neg Bool.false_ne_true] at h1 ⊢; exact h1 F s1 S1) fun _ _ e => e)
theorem Tst.plain {e} {Q : Bool → HM → Prop} (h : Ev c e m H (fun v H1 => Tru c v m H1 Q X) X)
    (he : isTrue e c.env (eval e c.env) = (do let v ← eval e c.env; standAt e.pos; holding [v] (truthy v))) : Tst c e m H Q X :=
  fun F s S => isTrue_plain (wpAny_mono (h F s S) (fun V s1 ⟨H1, S1, h1⟩ => h1 V rfl F s1 S1) fun _ _ e => e) he

/-! ### statements -/
theorem Exs.nil {Q : Flow → LM → HM → Prop} (h : Q .next m H) : Exs c [] m H Q X := fun F s S => wpAny_execs_nil ⟨m, H, S, h⟩
theorem Exs.cons {st rest} {Q : Flow → LM → HM → Prop} (h : Ex c st m H (fun f m1 H1 => match f with | .next => Exs c rest m1 H1 Q X | f => Q f m1 H1) X) : Exs c (st :: rest) m H Q X :=
  fun F s S => wpAny_execs_cons (wpAny_mono (h F s S) (fun f s1 ⟨m1, H1, S1, h1⟩ => by
    cases f with
    | next => exact h1 F s1 S1
    | brk => exact ⟨m1, H1, S1, h1⟩
    | cont => exact ⟨m1, H1, S1, h1⟩
    | ret v => exact ⟨m1, H1, S1, h1⟩) fun _ _ e => e)
theorem Ex.ret {e p} {Q : Flow → LM → HM → Prop} (h : Ev c e m H (fun v H1 => Q (.ret v) m H1) X) : Ex c (.Return (some e) p) m H Q X :=
  fun F s S => wpAny_Return_some (wpAny_mono (h F s S) (fun V s1 ⟨H1, S1, h1⟩ => ⟨m, H1, S1, h1⟩) fun _ _ e => e)
theorem Ex.retN {p} {Q : Flow → LM → HM → Prop} (h : Q (.ret .none) m H) : Ex c (.Return none p) m H Q X :=
  fun F s S => wpAny_Return_none ⟨m, H, S, h⟩
theorem Ex.ite {t b o p} {Q : Flow → LM → HM → Prop} (h : Tst c t m H (fun r H1 => if r = true then Exs c b m H1 Q X else Exs c o m H1 Q X) X) : Ex c (.If t b o p) m H Q X :=
  fun F s S => wpAny_If (wpAny_mono (h F s S) (fun r s1 ⟨H1, S1, h1⟩ => by
    cases r with
    | true => rw [if_pos rfl] at h1 ⊢; exact h1 F s1 S1
    | false => rw [if_neg Bool.false_ne_true] at h1 ⊢; exact h1 F s1 S1) fun _ _ e => e)
theorem Ex.brk {p} {Q : Flow → LM → HM → Prop} (h : Q .brk m H) : Ex c (.Break p) m H Q X := fun F s S => wpAny_Break ⟨m, H, S, h⟩
theorem Ex.cont {p} {Q : Flow → LM → HM → Prop} (h : Q .cont m H) : Ex c (.Continue p) m H Q X := fun F s S => wpAny_Continue ⟨m, H, S, h⟩

def StoreJ (c : FC) (x : Str) (v : Value) (m : LM) (H : HM) (Q : LM → HM → Prop) (X : XM) : Prop := SetJ c (storeName c.env x) v m H Q X

theorem StoreJ.loc {x : Str} {v : Value} {Q : LM → HM → Prop} (hk : c.env.scope.kind = .function) (hl : c.env.kindOf x = some .local) (h : Q ((x, v) :: m) H) : StoreJ c x v m H Q X :=
  fun V hV F s S => by
    obtain ⟨mr, n1, n2⟩ := S.ns
    exact wpAny_storeName_local hl n1 (fun h' hn hs => ⟨_, H, S.setName n2 hV hn hs, h⟩) (by rw [hk]; rfl)
theorem StoreJ.cell {x : Str} {v : Value} {v₀} {a : Addr} {Q : LM → HM → Prop} (hk : c.env.scope.kind = .function) (hl : c.env.kindOf x = some .cell) (hc : c.env.cells.lookup x = some a) (hv : H a = some (.cell v₀))
    (h : Q m (H.set a (.cell (some v)))) : StoreJ c x v m H Q X :=
  fun V hV F s S => by
    obtain ⟨_, _, o, ho, w, hw, _⟩ := S.hp _ _ hv
    refine wpAny_storeName_cell hk hl hc ⟨o, ho, hw⟩ fun h' hv' hs => ?_
    obtain ⟨o', ho', hd'⟩ := hv'
    exact ⟨m, _, S.upd (ao' := .cell (some v)) (t := s.toks) hv hs ho' ⟨_, hd', by rw [← hV]; rfl⟩, h⟩

theorem Ex.asgN {x p' e p} {Q : Flow → LM → HM → Prop} (h : Ev c e m H (fun v H1 => StoreJ c x v m H1 (fun m2 H2 => Q .next m2 H2) X) X)
    (hs : swapsWith e (some (.Name x p')) p.line c.env = pure false) : Ex c (.Assign [.Name x p'] e p) m H Q X :=
  fun F s S => wpAny_Assign_Name (wpAny_mono (h F s S) (fun V s1 ⟨H1, S1, h1⟩ => wpAny_mono (h1 V rfl F s1 S1) (fun _ s2 ⟨m2, H2, S2, h2⟩ => ⟨m2, H2, S2, h2⟩) fun _ _ e => e) fun _ _ e => e) hs
end

/-! ## to the library's frames and ledgers, and back -/
def full (b h : Heap) (L : Addr) : List (Addr × Obj) :=
  (List.range h.objs.size).filterMap fun a => if a = L then none else match b.get? a with
    | some _ => none
    | none => (h.get? a).map fun o => (a, o)
theorem full_mem {b h : Heap} {L a : Addr} {o : Obj} (h1 : a ≠ L) (h2 : b.get? a = none) (h3 : h.get? a = some o) : (a, o) ∈ full b h L := by
  refine List.mem_filterMap.mpr ⟨a, List.mem_range.mpr (Heap.lt_size h3), ?_⟩
  simp [h1, h2, h3]
theorem full_news (b h : Heap) (L : Addr) : News b L h (full b h L) := by
  intro p hp
  obtain ⟨a, _, e⟩ := List.mem_filterMap.mp hp
  split at e
  · cases e
  · rename_i hL
    split at e
    · cases e
    · rename_i hb
      obtain ⟨o, ho, rfl⟩ := Option.map_eq_some_iff.mp e
      exact ⟨ho, hL, hb⟩
theorem full_nodup (b h : Heap) (L : Addr) : ((full b h L).map (·.1)).Nodup := by
  have hsub : ∀ l : List Nat, ((l.filterMap fun a => if a = L then none else match b.get? a with
    | some _ => none
    | none => (h.get? a).map fun o => (a, o)).map (·.1)).Sublist l := by
    intro l
    induction l with
    | nil => exact List.Sublist.slnil
    | cons a l ih =>
      rw [List.filterMap_cons]
      split
      · exact ih.cons a
      · rename_i p hp
        have : p.1 = a := by
          split at hp
          · cases hp
          · split at hp
            · cases hp
            · obtain ⟨o, _, rfl⟩ := Option.map_eq_some_iff.mp hp; rfl
        rw [List.map_cons, this]
        exact ih.cons₂ a
  exact List.Nodup.sublist (hsub _) List.nodup_range

section
variable {c : FC} {m : LM} {H F : HM} {s : Shared}
theorem St.fr (S : St c m H F s) : ∃ mr, Fr c.s₀.heap c.env.locals s.heap mr ∧ MRel m mr :=
  let ⟨mr, n1, n2⟩ := S.ns; ⟨mr, ⟨n1, S.base, S.lb⟩, n2⟩
theorem St.news (S : St c m H F s) : News c.s₀.heap c.env.locals s.heap (full c.s₀.heap s.heap c.env.locals) := full_news _ _ _
theorem St.back (S : St c m H F s) {h' : Heap} {t : Nat} {m' : LM} {mr' : Str → Option Value} {news : List (Addr × Obj)} (Fr' : Fr c.s₀.heap c.env.locals h' mr') (hm : MRel m' mr')
    (N : News c.s₀.heap c.env.locals h' news) (hs : ∀ p ∈ full c.s₀.heap s.heap c.env.locals, p ∈ news) : St c m' H F { s with heap := h', toks := t } := by
  obtain ⟨h, t', rfl⟩ := S.same
  refine ⟨⟨_, _, rfl⟩, Fr'.keep, ⟨mr', Fr'.ns, hm⟩, Fr'.above, S.dj, fun a ao e => ?_, fun a ao e => ?_⟩
  · obtain ⟨h1, h2, o, h3, h4⟩ := S.hp a ao e
    exact ⟨h1, h2, o, (N (a, o) (hs _ (full_mem h1 h2 h3))).1, h4⟩
  · obtain ⟨h1, h2, o, h3, h4⟩ := S.fp a ao e
    exact ⟨h1, h2, o, (N (a, o) (hs _ (full_mem h1 h2 h3))).1, h4⟩
/-- one new object besides -/
theorem St.backNew (S : St c m H F s) {h' : Heap} {t : Nat} {m' : LM} {mr' : Str → Option Value} {news : List (Addr × Obj)} {a : Addr} {o : Obj} {ao : AO} (S' : St c m' H F { s with heap := h', toks := t })
    (hn : H a = none) (hf : F a = none) (h1 : a ≠ c.env.locals) (h2 : c.s₀.heap.get? a = none) (h3 : h'.get? a = some o) (hi : ao.Is o) : St c m' (H.set a ao) F { s with heap := h', toks := t } := by
  refine ⟨S'.same, S'.base, S'.ns, S'.lb, fun b => ?_, fun b bo e => ?_, S'.fp⟩
  · by_cases hb : b = a
    · subst hb; exact .inr hf
    · rw [HM.set_ne _ _ hb]; exact S'.dj b
  · by_cases hb : b = a
    · subst hb; rw [HM.set_same] at e; cases e; exact ⟨h1, h2, o, h3, hi⟩
    · rw [HM.set_ne _ _ hb] at e; exact S'.hp b bo e

theorem upd_map {d : Addr} {o o' : Obj} : ∀ {l : List (Addr × Obj)}, (d, o) ∈ l → (l.map (·.1)).Nodup → Upd d o o' l (l.map fun p => if p.1 = d then (d, o') else p)
  | [], h, _ => nomatch h
  | p :: r, h, nd => by
    rw [List.map_cons] at nd
    obtain ⟨n1, n2⟩ := List.nodup_cons.mp nd
    rw [List.map_cons]
    rcases List.mem_cons.mp h with e | h
    · subst e
      have hr : ∀ q ∈ r, q.1 ≠ d := fun q hq e => n1 (e ▸ List.mem_map_of_mem (f := (·.1)) hq)
      rw [if_pos rfl, show (r.map fun p => if p.1 = d then (d, o') else p) = r from (List.map_congr_left fun q hq => if_neg (hr q hq)).trans (List.map_id _)]
      exact .head hr
    · have hp : p.1 ≠ d := fun e => n1 (e ▸ List.mem_map_of_mem (f := (·.1)) h)
      rw [if_neg hp]
      exact .tail hp (upd_map h n2)
/-- one object turned -/
theorem St.backUpd (S : St c m H F s) {h' : Heap} {t : Nat} {m' : LM} {mr' : Str → Option Value} {a : Addr} {ao ao' : AO} {o' : Obj} (ha : H a = some ao) (Fr' : Fr c.s₀.heap c.env.locals h' mr') (hm : MRel m' mr')
    (N : News c.s₀.heap c.env.locals h' ((full c.s₀.heap s.heap c.env.locals).map fun p => if p.1 = a then (a, o') else p)) (hi : ao'.Is o') : St c m' (H.set a ao') F { s with heap := h', toks := t } := by
  obtain ⟨h, t', rfl⟩ := S.same
  obtain ⟨a1, a2, oa, a3, _⟩ := S.hp a ao ha
  have other : ∀ b o, b ≠ a → b ≠ c.env.locals → c.s₀.heap.get? b = none → h.get? b = some o → h'.get? b = some o := fun b o hb h1 h2 h3 =>
    (N (b, o) (List.mem_map.mpr ⟨(b, o), full_mem h1 h2 h3, if_neg hb⟩)).1
  have this := (N (a, o') (List.mem_map.mpr ⟨(a, oa), full_mem a1 a2 a3, if_pos rfl⟩)).1
  refine ⟨⟨_, _, rfl⟩, Fr'.keep, ⟨mr', Fr'.ns, hm⟩, Fr'.above, fun b => ?_, fun b bo e => ?_, fun b bo e => ?_⟩
  · by_cases hb : b = a
    · subst hb; rcases S.dj b with q | q
      · rw [q] at ha; cases ha
      · exact .inr q
    · rw [HM.set_ne _ _ hb]; exact S.dj b
  · by_cases hb : b = a
    · subst hb; rw [HM.set_same] at e; cases e; exact ⟨a1, a2, o', this, hi⟩
    · rw [HM.set_ne _ _ hb] at e
      obtain ⟨h1, h2, o, h3, h4⟩ := S.hp b bo e
      exact ⟨h1, h2, o, other b o hb h1 h2 h3, h4⟩
  · have hb : b ≠ a := by
      rintro rfl; rcases S.dj b with q | q
      · rw [q] at ha; cases ha
      · rw [q] at e; cases e
    obtain ⟨h1, h2, o, h3, h4⟩ := S.fp b bo e
    exact ⟨h1, h2, o, other b o hb h1 h2 h3, h4⟩
end
end Mine
end

section
open PySem PySem.W PySem.Calls PyProof.Rows
set_option linter.all false
namespace Mine

/-! ## texts as lists of signs -/
def S (l : List Nat) : Str := ⟨l.toArray⟩
abbrev VT (l : List Nat) : Value := .str (S l) 0
theorem S_cps (l : List Nat) : (S l).cps = l.toArray := rfl
theorem S_toList (l : List Nat) : (S l).cps.toList = l := rfl
theorem S_length (l : List Nat) : (S l).length = l.length := by simp [S, Str.length]
theorem S_of (x : Str) : x = S x.cps.toList := by cases x; simp [S]
theorem S_inj {l l' : List Nat} : S l = S l' ↔ l = l' := by simp [S]
theorem S_append (l l' : List Nat) : S l ++ S l' = S (l ++ l') := by
  show Str.append (S l) (S l') = _
  simp [Str.append, S]
theorem sizeLine_ge {n : Nat} (h : n ≤ 16000000) : n ≤ sizeLine := by rw [sizeLine_eq]; omega
theorem S_fits {l : List Nat} (h : l.length ≤ 16000000) : (S l).length ≤ sizeLine := by rw [S_length]; exact sizeLine_ge h

/-! ## what every frame has -/
structure Ok (c : FC) (K : Frag) (n : Nat) : Prop where
  X : K.In c.s₀.heap
  g : ∃ mg, c.s₀.heap.Ns mainGlobals mg
  b : ∃ mb, c.s₀.heap.Ns builtinsNs mb ∧ ∀ x : Str, x ≠ "__name__" → mb x = bootBuiltins x
  nl : c.s₀.heap.NoLimit
  kind : c.env.scope.kind = .function
  eg : c.env.globals = mainGlobals
  eb : c.env.builtins = builtinsNs
  hh : c.A.handled = none
  dp : c.A.depth + n < 900
  un : c.A.units + 4 * n < 9000

section
variable {c : FC} {K : Frag} {n : Nat} {m : LM} {H : HM} {X : XM}

theorem Ok.le {k : Nat} (O : Ok c K n) (h : k ≤ n) : Ok c K k := ⟨O.X, O.g, O.b, O.nl, O.kind, O.eg, O.eb, O.hh, by have := O.dp; omega, by have := O.un; omega⟩
theorem Ok.units (O : Ok c K n) : c.A.units < cLine := by have := O.un; unfold cLine; omega
theorem Ok.inK (O : Ok c K n) {F : HM} {s : Shared} (St' : St c m H F s) : K.In s.heap := O.X.keeps St'.base

/-! ### names of the top -/
theorem Ev.glob {x p v} {Q : Value → HM → Prop} (O : Ok c K n) (hl : c.env.kindOf x = some .globalImplicit) (e : nsIn K mainGlobals x = some (some v)) (h : Q (er v) H)
    (hd : (x == ("__debug__" : Str)) = false) : Ev c (.Name x p) m H Q X := fun F s St' => by
  obtain ⟨mg, g⟩ := O.g
  exact Name_function_global O.kind hl (loadGlobal_global (O.eg ▸ g.keeps St'.base) (mg_of O.X g e) ⟨H, St', h⟩) hd
theorem Ev.blt {x p v} {Q : Value → HM → Prop} (O : Ok c K n) (hl : c.env.kindOf x = some .globalImplicit) (e : nsIn K mainGlobals x = some none) (hv : bootBuiltins x = some v) (hn : x ≠ "__name__") (h : Q (er v) H)
    (hd : (x == ("__debug__" : Str)) = false) : Ev c (.Name x p) m H Q X := fun F s St' => by
  obtain ⟨mg, g⟩ := O.g
  obtain ⟨mb, b, hb⟩ := O.b
  exact Name_function_global O.kind hl (loadGlobal_builtin (O.eg ▸ g.keeps St'.base) (mg_none_of O.X g e) (O.eb ▸ b.keeps St'.base) ((hb x hn).trans hv) ⟨H, St', h⟩) hd

/-! ### arithmetic -/
theorem Op2.of {f : Value → Value → Sem Value} {a b : Value} {Q : Value → HM → Prop} (h : ∀ A B, er A = a → er B = b → Ew c (f A B) m H Q X) : Op2 c f a b m H Q X := h

theorem O_add {i j : Int} {Q : Value → HM → Prop} (h : Q (VI (i + j)) H) : Op2 c (binaryOp .Add) (VI i) (VI j) m H Q X := fun A B e1 e2 F s St' => by
  obtain ⟨t, rfl⟩ := er_int e1; obtain ⟨u, rfl⟩ := er_int e2
  exact PyProof.Rows.add_int ⟨H, St'.toks _, h⟩
theorem O_sub {i j : Int} {Q : Value → HM → Prop} (h : Q (VI (i - j)) H) : Op2 c (binaryOp .Sub) (VI i) (VI j) m H Q X := fun A B e1 e2 F s St' => by
  obtain ⟨t, rfl⟩ := er_int e1; obtain ⟨u, rfl⟩ := er_int e2
  exact PyProof.Rows.sub_int ⟨H, St'.toks _, h⟩
theorem O_fdiv {i j : Int} {Q : Value → HM → Prop} (hj : j ≠ 0) (hs : j.natAbs < 1073741824) (h : Q (VI (i.fdiv j)) H) : Op2 c (binaryOp .FloorDiv) (VI i) (VI j) m H Q X := fun A B e1 e2 F s St' => by
  obtain ⟨t, rfl⟩ := er_int e1; obtain ⟨u, rfl⟩ := er_int e2
  exact PyProof.Rows.floordiv_int hj ⟨H, St'.toks _, h⟩ (Or.inl (PyProof.noPylong_small (by omega)))
theorem O_mod {i j : Int} {Q : Value → HM → Prop} (hj : j ≠ 0) (h : Q (VI (i.fmod j)) H) : Op2 c (binaryOp .Mod) (VI i) (VI j) m H Q X := fun A B e1 e2 F s St' => by
  obtain ⟨t, rfl⟩ := er_int e1; obtain ⟨u, rfl⟩ := er_int e2
  exact PyProof.Rows.mod_int' hj ⟨H, St'.toks _, h⟩
theorem O_pow {i j : Int} {Q : Value → HM → Prop} (hj : 0 ≤ j) (hsz : (Builtin.Int.intBits i : Int) * j ≤ 2 ^ 27) (h : Q (VI (i ^ j.toNat)) H) : Op2 c (binaryOp .Pow) (VI i) (VI j) m H Q X := fun A B e1 e2 F s St' => by
  obtain ⟨t, rfl⟩ := er_int e1; obtain ⟨u, rfl⟩ := er_int e2
  exact PyProof.Rows.pow_int hj hsz ⟨H, St'.toks _, h⟩
theorem O_iadd {i j : Int} {Q : Value → HM → Prop} (h : Q (VI (i + j)) H) : Op2 c (inplaceOp .Add) (VI i) (VI j) m H Q X := fun A B e1 e2 F s St' => by
  obtain ⟨t, rfl⟩ := er_int e1; obtain ⟨u, rfl⟩ := er_int e2
  exact PyProof.Rows.iadd_int ⟨H, St'.toks _, h⟩
theorem O_isub {i j : Int} {Q : Value → HM → Prop} (h : Q (VI (i - j)) H) : Op2 c (inplaceOp .Sub) (VI i) (VI j) m H Q X := fun A B e1 e2 F s St' => by
  obtain ⟨t, rfl⟩ := er_int e1; obtain ⟨u, rfl⟩ := er_int e2
  exact PyProof.Rows.isub_int ⟨H, St'.toks _, h⟩
theorem O_neg {i : Int} {Q : Value → HM → Prop} (h : Q (VI (-i)) H) : Op1 c (unaryOp .USub) (VI i) m H Q X := fun A e1 F s St' => by
  obtain ⟨t, rfl⟩ := er_int e1
  exact PyProof.Rows.neg_int ⟨H, St'.toks _, h⟩
theorem O_lt {i j : Int} {Q : Value → HM → Prop} (h : Q (VB (decide (i < j))) H) : Op2 c (compareOp .Lt) (VI i) (VI j) m H Q X := fun A B e1 e2 F s St' => by
  obtain ⟨t, rfl⟩ := er_int e1; obtain ⟨u, rfl⟩ := er_int e2
  exact PyProof.Rows.lt_int ⟨H, St', h⟩
theorem O_le {i j : Int} {Q : Value → HM → Prop} (h : Q (VB (decide (i ≤ j))) H) : Op2 c (compareOp .LtE) (VI i) (VI j) m H Q X := fun A B e1 e2 F s St' => by
  obtain ⟨t, rfl⟩ := er_int e1; obtain ⟨u, rfl⟩ := er_int e2
  exact PyProof.Rows.le_int ⟨H, St', h⟩
theorem O_gt {i j : Int} {Q : Value → HM → Prop} (h : Q (VB (decide (j < i))) H) : Op2 c (compareOp .Gt) (VI i) (VI j) m H Q X := fun A B e1 e2 F s St' => by
  obtain ⟨t, rfl⟩ := er_int e1; obtain ⟨u, rfl⟩ := er_int e2
  exact PyProof.Rows.gt_int ⟨H, St', h⟩
theorem O_ge {i j : Int} {Q : Value → HM → Prop} (h : Q (VB (decide (j ≤ i))) H) : Op2 c (compareOp .GtE) (VI i) (VI j) m H Q X := fun A B e1 e2 F s St' => by
  obtain ⟨t, rfl⟩ := er_int e1; obtain ⟨u, rfl⟩ := er_int e2
  exact PyProof.Rows.ge_int ⟨H, St', h⟩
theorem O_eqI {i j : Int} {Q : Value → HM → Prop} (h : Q (VB (decide (i = j))) H) : Op2 c (compareOp .Eq) (VI i) (VI j) m H Q X := fun A B e1 e2 F s St' => by
  obtain ⟨t, rfl⟩ := er_int e1; obtain ⟨u, rfl⟩ := er_int e2
  exact PyProof.Rows.eq_int ⟨H, St', h⟩
theorem O_neI {i j : Int} {Q : Value → HM → Prop} (h : Q (VB (!decide (i = j))) H) : Op2 c (compareOp .NotEq) (VI i) (VI j) m H Q X := fun A B e1 e2 F s St' => by
  obtain ⟨t, rfl⟩ := er_int e1; obtain ⟨u, rfl⟩ := er_int e2
  exact PyProof.Rows.ne_int ⟨H, St', h⟩
theorem O_eqB {i j : Bool} {Q : Value → HM → Prop} (h : Q (VB (i == j)) H) : Op2 c (compareOp .Eq) (VB i) (VB j) m H Q X := fun A B e1 e2 F s St' => by
  obtain rfl := er_bool e1; obtain rfl := er_bool e2
  exact PyProof.Rows.eq_bool ⟨H, St', h⟩
theorem O_eqBN {i : Bool} {Q : Value → HM → Prop} (h : Q (VB false) H) : Op2 c (compareOp .Eq) (VB i) .none m H Q X := fun A B e1 e2 F s St' => by
  obtain rfl := er_bool e1; obtain rfl := er_none e2
  exact EqNone.eq_bool_none ⟨H, St', h⟩

theorem O_isNN {Q : Value → HM → Prop} (h : Q (VB true) H) : Op2 c (compareOp .Is) .none .none m H Q X := fun A B e1 e2 F s St' => by
  obtain rfl := er_none e1; obtain rfl := er_none e2
  exact is_none_none ⟨H, St', h⟩
theorem O_isIN {i : Int} {Q : Value → HM → Prop} (h : Q (VB false) H) : Op2 c (compareOp .Is) (VI i) .none m H Q X := fun A B e1 e2 F s St' => by
  obtain ⟨t, rfl⟩ := er_int e1; obtain rfl := er_none e2
  exact is_int_none ⟨H, St', h⟩
theorem O_isnotNN {Q : Value → HM → Prop} (h : Q (VB false) H) : Op2 c (compareOp .IsNot) .none .none m H Q X := fun A B e1 e2 F s St' => by
  obtain rfl := er_none e1; obtain rfl := er_none e2
  exact isnot_none_none ⟨H, St', h⟩
theorem O_isnotRN {a : Addr} {Q : Value → HM → Prop} (h : Q (VB true) H) : Op2 c (compareOp .IsNot) (.ref a) .none m H Q X := fun A B e1 e2 F s St' => by
  obtain rfl := er_ref e1; obtain rfl := er_none e2
  exact isnot_ref_none ⟨H, St', h⟩
theorem O_not {v : Value} {Q : Value → HM → Prop} (h : Tru c v m H (fun b H1 => Q (VB (!b)) H1) X) : Op1 c (unaryOp .Not) v m H Q X := fun A e1 F s St' =>
  not_of (wpAny_mono (h A e1 F s St') (fun b s' ⟨H1, S1, q⟩ => ⟨H1, S1, q⟩) fun _ _ e => e)

/-! ### truth -/
theorem T_bool {b : Bool} {Q : Bool → HM → Prop} (h : Q b H) : Tru c (VB b) m H Q X := fun A e F s St' => by
  obtain rfl := er_bool e; exact wpAny_truthy_bool ⟨H, St', h⟩
theorem T_int {i : Int} {Q : Bool → HM → Prop} (h : Q (!decide (i = 0)) H) : Tru c (VI i) m H Q X := fun A e F s St' => by
  obtain ⟨t, rfl⟩ := er_int e; exact PyProof.Rows.truthy_int ⟨H, St', h⟩
theorem T_none {Q : Bool → HM → Prop} (h : Q false H) : Tru c .none m H Q X := fun A e F s St' => by
  obtain rfl := er_none e; exact truthy_none ⟨H, St', h⟩
theorem T_str {l : List Nat} {Q : Bool → HM → Prop} (hl : l.length ≤ 16000000) (h : Q (!l.isEmpty) H) : Tru c (VT l) m H Q X := fun A e F s St' => by
  obtain ⟨t, rfl⟩ := er_str e
  refine PySem.P.truthy_str (by rw [S_length]; omega) ⟨H, St'.toks _, ?_⟩
  rw [S_length]
  cases l with
  | nil => exact h
  | cons a r =>
    have : (((a :: r).length : Int) != 0) = true := by simp only [List.length_cons, bne_iff_ne, ne_eq]; omega
    rw [this]; exact h

/-! ### texts -/
theorem Ev.text {x k p} {l : List Nat} {Q : Value → HM → Prop} (hx : x = S l) (h : Q (VT l) H) : Ev c (.Constant (.str x) k p) m H Q X := by
  subst hx; exact Ev.str h
theorem O_addT {l l' : List Nat} {Q : Value → HM → Prop} (hl : l.length + l'.length ≤ 16000000) (h : Q (VT (l ++ l')) H) : Op2 c (binaryOp .Add) (VT l) (VT l') m H Q X := fun A B e1 e2 F s St' => by
  obtain ⟨t, rfl⟩ := er_str e1; obtain ⟨u, rfl⟩ := er_str e2
  refine PySem.P.add_str ?_
  simp only [S_length]
  split
  · rename_i q
    have : l = [] := by simpa using q
    subst this; exact ⟨H, St', h⟩
  · split
    · rename_i q
      have : l' = [] := by simpa using q
      subst this
      rw [List.append_nil] at h; exact ⟨H, St', h⟩
    · refine ⟨?_, H, St'.toks _, ?_⟩
      · rw [S_append]; exact S_fits (by rw [List.length_append]; exact hl)
      · rw [S_append]; exact h
theorem O_iaddT {l l' : List Nat} {Q : Value → HM → Prop} (hl : l.length + l'.length ≤ 16000000) (h : Q (VT (l ++ l')) H) : Op2 c (inplaceOp .Add) (VT l) (VT l') m H Q X := fun A B e1 e2 F s St' => by
  obtain ⟨t, rfl⟩ := er_str e1; obtain ⟨u, rfl⟩ := er_str e2
  refine PySem.P.iadd_str ?_
  simp only [S_length]
  split
  · rename_i q
    have : l = [] := by simpa using q
    subst this; exact ⟨H, St', h⟩
  · split
    · rename_i q
      have : l' = [] := by simpa using q
      subst this
      rw [List.append_nil] at h; exact ⟨H, St', h⟩
    · refine ⟨?_, H, St'.toks _, ?_⟩
      · rw [S_append]; exact S_fits (by rw [List.length_append]; exact hl)
      · rw [S_append]; exact h
theorem O_eqT {l l' : List Nat} {Q : Value → HM → Prop} (h : Q (VB (decide (l = l'))) H) : Op2 c (compareOp .Eq) (VT l) (VT l') m H Q X := fun A B e1 e2 F s St' => by
  obtain ⟨t, rfl⟩ := er_str e1; obtain ⟨u, rfl⟩ := er_str e2
  refine PySem.P.eq_str ⟨H, St', ?_⟩
  rw [S_toList, S_toList, show (l == l') = decide (l = l') from by by_cases q : l = l' <;> simp [q]]
  exact h
theorem O_neT {l l' : List Nat} {Q : Value → HM → Prop} (h : Q (VB (!decide (l = l'))) H) : Op2 c (compareOp .NotEq) (VT l) (VT l') m H Q X := fun A B e1 e2 F s St' => by
  obtain ⟨t, rfl⟩ := er_str e1; obtain ⟨u, rfl⟩ := er_str e2
  refine PySem.P.ne_str ⟨H, St', ?_⟩
  rw [S_toList, S_toList, show (l != l') = !decide (l = l') from by by_cases q : l = l' <;> simp [q]]
  exact h
end
end Mine
end

section
open PySem PySem.W PySem.Calls PyProof.Rows
set_option linter.all false
set_option maxRecDepth 100000
namespace Mine

/-! ## lists in the heap -/
section
variable {c : FC} {m : LM} {H F : HM} {s : Shared} {a : Addr} {vs : List Value}
theorem St.list (St' : St c m H F s) (h : H a = some (.list vs)) : ∃ (ws : List Value) (n : Nat), ws.map er = vs ∧ s.heap.get? a = some { cls := .type "list", data := .seq ws.toArray n } := by
  obtain ⟨_, _, o, ho, ws, n, rfl, hw⟩ := St'.hp _ _ h
  exact ⟨ws, n, hw, ho⟩
theorem St.tup (St' : St c m H F s) (h : H a = some (.tup vs)) : ∃ (ws : List Value), ws.map er = vs ∧ s.heap.IsTuple a ws.toArray := by
  obtain ⟨_, _, o, ho, ws, n, ⟨h1, h2⟩, hw⟩ := St'.hp _ _ h
  exact ⟨ws, hw, o, ho, h1, n, h2⟩
theorem isList_of {h : Heap} {ws : List Value} {n : Nat} (x : h.get? a = some { cls := .type "list", data := .seq ws.toArray n }) : h.IsList a ws.toArray := ⟨_, x, rfl, n, rfl⟩
theorem isTup_of {h : Heap} {ws : List Value} (x : h.IsTuple a ws.toArray) : PyProof.Rows.IsTup h a ws.toArray := x

/-- a list turned in place -/
theorem St.turn (St' : St c m H F s) (h : H a = some (.list vs)) {ws : List Value} {n t : Nat} (hg : s.heap.get? a = some { cls := .type "list", data := .seq ws.toArray n }) (f : Array Value → Array Value) {ws' : List Value} (hf : f ws.toArray = ws'.toArray) :
    St c m (H.set a (.list (ws'.map er))) F { s with heap := s.heap.update a (Obj.mapSeq f), toks := t } := by
  refine St'.upd (ao' := .list (ws'.map er)) h (Heap.SameBut.update ..) (Heap.get?_update_self _ hg rfl) ⟨ws', (if (f ws.toArray).size == ws.toArray.size then n else n + 1), ?_, rfl⟩
  rw [← hf]
  rfl
end

theorem getElem?_er {ws : List Value} {k : Nat} {v : Value} (h : (ws.map er)[k]? = some v) : ∃ V, ws[k]? = some V ∧ er V = v := by
  rw [List.getElem?_map] at h
  exact Option.map_eq_some_iff.mp h

section
variable {c : FC} {K : Frag} {n : Nat} {m : LM} {H : HM} {X : XM}

/-! ## calls -/
def Kp (c : FC) (f : Value) (H : HM) : Prop := ∀ F s m, St c m H F s → ∀ V, er V = f → ∃ k, (k = Keeper.frame ∨ k = Keeper.machine ∨ k = Keeper.boundFrame) ∧ Looks (model c.prog c.w) s.heap (keeperOf V) k
theorem Kp.builtin {id : String} : Kp c (.builtin id) H := fun F s m _ V e => by
  obtain rfl := er_builtin e; exact ⟨.machine, .inr (.inl rfl), Looks.of_pure rfl⟩
theorem Kp.type {id : String} : Kp c (.type id) H := fun F s m _ V e => by
  obtain rfl := er_type e; exact ⟨.machine, .inr (.inl rfl), Looks.of_pure rfl⟩
theorem Kp.k {f : Addr} (O : Ok c K n) (hk : keepIn K (.ref f) = true) : Kp c (.ref f) H := fun F s m St' V e => by
  obtain rfl := er_ref e; exact keeps_K hk _ (O.inK St')
theorem Kp.raw {f : Addr} {o : Obj} {fd : FuncData} (h : H f = some (.raw o)) (hd : o.data = .func fd) : Kp c (.ref f) H := fun F s m St' V e => by
  obtain rfl := er_ref e
  obtain ⟨_, _, o', ho, rfl⟩ := St'.hp _ _ h
  refine ⟨.frame, .inl rfl, ?_⟩
  refine (Looks.ld (part := none) ho).andThen ?_
  rw [hd]; exact .now

theorem Ev.call0 {fe pos} {Q : Value → HM → Prop} (h : Ev c fe m H (fun f H1 => Kp c f H1 ∧ CallJ c f [] [] m H1 Q X) X)
    (he : eval (.Call fe [] [] pos) c.env = (do callWith pos (← eval fe c.env) [] (backTo pos (starEach [] c.env)) (backToKw pos (keywordEach [] c.env)))) : Ev c (.Call fe [] [] pos) m H Q X := fun F s St' =>
  Call_ (wpAny_mono (h F s St') (fun V s1 ⟨H1, S1, hk, hc⟩ =>
    callWith_of (P := fun h => ∃ k, (k = Keeper.frame ∨ k = Keeper.machine ∨ k = Keeper.boundFrame) ∧ Looks (model c.prog c.w) h (keeperOf V) k) rfl (fun _ x => x) (evalArgs_nil3 ⟨hk F s1 m S1 V rfl, hc V [] [] rfl rfl rfl F s1 S1⟩)) fun _ _ e => e) he
theorem Ev.call {fe e rest pos} {Q : Value → HM → Prop} (h : Ev c fe m H (fun f H1 => Vals c (e :: rest) m H1 (fun vs H2 => Kp c f H2 ∧ CallJ c f vs [] m H2 Q X) X) X)
    (he : eval (.Call fe (e :: rest) [] pos) c.env = (do callWith pos (← eval fe c.env) [] (backTo pos (starEach (e :: rest) c.env)) (backToKw pos (keywordEach [] c.env))))
    (hs : starEach (e :: rest) c.env = (false, eval e c.env) :: starEach rest c.env) (hp : (backTo pos (starEach rest c.env)).any (·.1) = false) : Ev c (.Call fe (e :: rest) [] pos) m H Q X := fun F s St' =>
  Call_ (wpAny_mono (h F s St') (fun V s1 ⟨H1, S1, hv⟩ => by
    have hv' := hv pos F s1 S1
    show wpAny _ _ (callWith pos V [] (backTo pos (starEach (e :: rest) c.env)) []) _ _ s1
    rw [hs] at hv' ⊢
    exact callWith_of (P := fun h => ∃ k, (k = Keeper.frame ∨ k = Keeper.machine ∨ k = Keeper.boundFrame) ∧ Looks (model c.prog c.w) h (keeperOf V) k) (by show ((false || (backTo pos (starEach rest c.env)).any (·.1)) || false) = false; rw [hp]; rfl) (fun _ x => x)
      (evalArgs_plain (wpAny_mono hv' (fun Vs s2 ⟨H2, S2, hk, hc⟩ => ⟨hk F s2 m S2 V rfl, hc V Vs [] rfl rfl rfl F s2 S2⟩) fun _ _ e => e))) fun _ _ e => e) he

/-! ## methods -/
def MethJ (c : FC) (o : Value) (name : Str) (m : LM) (H : HM) (Q : Value → List Value → HM → Prop) (X : XM) : Prop :=
  ∀ V pl F s, er V = o → St c m H F s → wpAny (model c.prog c.w) c.A (getMethod V name pl) (fun fx s' => ∃ H', St c m H' F s' ∧ Q (er fx.1) (fx.2.map er) H') (X F) s

theorem Ev.meth0 {o name apos pos} {pl : Sem Bool} {Q : Value → HM → Prop} (h : Ev c o m H (fun ov H1 => MethJ c ov name m H1 (fun f fs H2 => Kp c f H2 ∧ CallJ c f fs [] m H2 Q X) X) X)
    (he : eval (.Call (.Attribute o name apos) [] [] pos) c.env = (do
      let ov ← eval o c.env
      standAt apos.atName
      let (f, first) ← holding [ov] (getMethod ov name pl)
      callWith pos f first (backTo pos (starEach [] c.env)) [])) : Ev c (.Call (.Attribute o name apos) [] [] pos) m H Q X := fun F s St' =>
  MethodCall_ (wpAny_mono (h F s St') (fun V s1 ⟨H1, S1, hm⟩ => wpAny_mono (hm V pl F s1 rfl S1) (fun fx s2 ⟨H2, S2, hk, hc⟩ =>
    callWith_of (P := fun h => ∃ k, (k = Keeper.frame ∨ k = Keeper.machine ∨ k = Keeper.boundFrame) ∧ Looks (model c.prog c.w) h (keeperOf fx.1) k) rfl (fun _ x => x)
      (evalArgs_nil3 ⟨hk F s2 m S2 fx.1 rfl, hc fx.1 (fx.2 ++ []) [] rfl (by rw [List.append_nil]) rfl F s2 S2⟩)) fun _ _ e => e) fun _ _ e => e) he
theorem Ev.meth {o name apos e rest pos} {pl : Sem Bool} {Q : Value → HM → Prop} (h : Ev c o m H (fun ov H1 => MethJ c ov name m H1 (fun f fs H2 => Vals c (e :: rest) m H2 (fun vs H3 => Kp c f H3 ∧ CallJ c f (fs ++ vs) [] m H3 Q X) X) X) X)
    (he : eval (.Call (.Attribute o name apos) (e :: rest) [] pos) c.env = (do
      let ov ← eval o c.env
      standAt apos.atName
      let (f, first) ← holding [ov] (getMethod ov name pl)
      callWith pos f first (backTo pos (starEach (e :: rest) c.env)) []))
    (hs : starEach (e :: rest) c.env = (false, eval e c.env) :: starEach rest c.env) (hp : (backTo pos (starEach rest c.env)).any (·.1) = false) : Ev c (.Call (.Attribute o name apos) (e :: rest) [] pos) m H Q X := fun F s St' =>
  MethodCall_ (wpAny_mono (h F s St') (fun V s1 ⟨H1, S1, hm⟩ => wpAny_mono (hm V pl F s1 rfl S1) (fun fx s2 ⟨H2, S2, hv⟩ => by
    have hv' := hv pos F s2 S2
    rw [hs] at hv' ⊢
    exact callWith_of (P := fun h => ∃ k, (k = Keeper.frame ∨ k = Keeper.machine ∨ k = Keeper.boundFrame) ∧ Looks (model c.prog c.w) h (keeperOf fx.1) k) (by show ((false || (backTo pos (starEach rest c.env)).any (·.1)) || false) = false; rw [hp]; rfl) (fun _ x => x)
      (evalArgs_plain (wpAny_mono hv' (fun Vs s3 ⟨H3, S3, hk, hc⟩ => ⟨hk F s3 m S3 fx.1 rfl, hc fx.1 (fx.2 ++ Vs) [] rfl (by rw [List.map_append]) rfl F s3 S3⟩) fun _ _ e => e))) fun _ _ e => e) fun _ _ e => e) he

theorem MethJ.str {l : List Nat} {name : Str} {id : String} {Q : Value → List Value → HM → Prop} (slot : Slot "str" name id) (ty : typeOf (.builtin id) = pure (.type "method_descriptor"))
    (h : Q (.builtin id) [VT l] H) : MethJ c (VT l) name m H Q X := fun V pl F s e St' => by
  obtain ⟨t, rfl⟩ := er_str e
  exact getMethod_builtin (typeIs_str _ _ _) PySem.F.plainAttrs_str slot ty (fun _ e => nomatch e) ⟨H, St', h⟩
theorem MethJ.list {a : Addr} {vs : List Value} {name : Str} {id : String} {Q : Value → List Value → HM → Prop} (hl : H a = some (.list vs)) (slot : Slot "list" name id) (ty : typeOf (.builtin id) = pure (.type "method_descriptor"))
    (h : Q (.builtin id) [.ref a] H) : MethJ c (.ref a) name m H Q X := fun V pl F s e St' => by
  obtain rfl := er_ref e
  obtain ⟨ws, n, hw, hg⟩ := St'.list hl
  exact getMethod_builtin ⟨_, hg, rfl⟩ PySem.F.plainAttrs_list slot ty (fun _ e => by cases e; exact ⟨_, hg, rfl⟩) ⟨H, St', h⟩

/-! ## built-in methods of texts -/
theorem C_strip {l : List Nat} {Q : Value → HM → Prop} (hl : l.length ≤ 16000000) (h : Q (VS (Txt.strip (S l))) H) : CallJ c (.builtin "str.strip") [VT l] [] m H Q X := fun Fv Vs Ks e0 e1 e2 F s St' => by
  obtain rfl := er_builtin e0
  obtain ⟨V, _, rfl, e, e1⟩ := ers_cons e1; obtain rfl := ers_nil e1; obtain ⟨t, rfl⟩ := er_str e; obtain rfl := List.map_eq_nil_iff.mp e2
  exact SC.strip (fun _ _ => ⟨H, St'.toks _, h⟩) (S_fits hl)
theorem C_lstrip {l : List Nat} {Q : Value → HM → Prop} (hl : l.length ≤ 16000000) (h : Q (VS (Txt.lstrip (S l))) H) : CallJ c (.builtin "str.lstrip") [VT l] [] m H Q X := fun Fv Vs Ks e0 e1 e2 F s St' => by
  obtain rfl := er_builtin e0
  obtain ⟨V, _, rfl, e, e1⟩ := ers_cons e1; obtain rfl := ers_nil e1; obtain ⟨t, rfl⟩ := er_str e; obtain rfl := List.map_eq_nil_iff.mp e2
  exact SC.lstrip (fun _ _ => ⟨H, St'.toks _, h⟩) (S_fits hl)
theorem C_lstripC {l y : List Nat} {Q : Value → HM → Prop} (hl : l.length ≤ 16000000) (h : Q (VS (Txt.lstripChars (S l) (S y))) H) : CallJ c (.builtin "str.lstrip") [VT l, VT y] [] m H Q X := fun Fv Vs Ks e0 e1 e2 F s St' => by
  obtain rfl := er_builtin e0
  obtain ⟨V, _, rfl, e, e1⟩ := ers_cons e1; obtain ⟨W, _, rfl, e', e1⟩ := ers_cons e1; obtain rfl := ers_nil e1; obtain ⟨t, rfl⟩ := er_str e; obtain ⟨t', rfl⟩ := er_str e'; obtain rfl := List.map_eq_nil_iff.mp e2
  exact SC.lstripChars (fun _ _ => ⟨H, St'.toks _, h⟩) (S_fits hl)
theorem C_rstripC {l y : List Nat} {Q : Value → HM → Prop} (hl : l.length ≤ 16000000) (h : Q (VS (Txt.rstripChars (S l) (S y))) H) : CallJ c (.builtin "str.rstrip") [VT l, VT y] [] m H Q X := fun Fv Vs Ks e0 e1 e2 F s St' => by
  obtain rfl := er_builtin e0
  obtain ⟨V, _, rfl, e, e1⟩ := ers_cons e1; obtain ⟨W, _, rfl, e', e1⟩ := ers_cons e1; obtain rfl := ers_nil e1; obtain ⟨t, rfl⟩ := er_str e; obtain ⟨t', rfl⟩ := er_str e'; obtain rfl := List.map_eq_nil_iff.mp e2
  exact SC.rstripChars (fun _ _ => ⟨H, St'.toks _, h⟩) (S_fits hl)
theorem C_startswith {l y : List Nat} {Q : Value → HM → Prop} (h : Q (VB (Txt.startswith (S l) (S y))) H) : CallJ c (.builtin "str.startswith") [VT l, VT y] [] m H Q X := fun Fv Vs Ks e0 e1 e2 F s St' => by
  obtain rfl := er_builtin e0
  obtain ⟨V, _, rfl, e, e1⟩ := ers_cons e1; obtain ⟨W, _, rfl, e', e1⟩ := ers_cons e1; obtain rfl := ers_nil e1; obtain ⟨t, rfl⟩ := er_str e; obtain ⟨t', rfl⟩ := er_str e'; obtain rfl := List.map_eq_nil_iff.mp e2
  exact SC.startswith ⟨H, St', h⟩
theorem C_count {l y : List Nat} {Q : Value → HM → Prop} (h : Q (VI (Txt.count (S l) (S y))) H) : CallJ c (.builtin "str.count") [VT l, VT y] [] m H Q X := fun Fv Vs Ks e0 e1 e2 F s St' => by
  obtain rfl := er_builtin e0
  obtain ⟨V, _, rfl, e, e1⟩ := ers_cons e1; obtain ⟨W, _, rfl, e', e1⟩ := ers_cons e1; obtain rfl := ers_nil e1; obtain ⟨t, rfl⟩ := er_str e; obtain ⟨t', rfl⟩ := er_str e'; obtain rfl := List.map_eq_nil_iff.mp e2
  exact SC.count ⟨H, St'.toks _, h⟩

/-! ## len -/
theorem C_lenT {l : List Nat} {Q : Value → HM → Prop} (hl : l.length ≤ 16000000) (h : Q (VI l.length) H) : CallJ c (.builtin "len") [VT l] [] m H Q X := fun Fv Vs Ks e0 e1 e2 F s St' => by
  obtain rfl := er_builtin e0
  obtain ⟨V, _, rfl, e, e1⟩ := ers_cons e1; obtain rfl := ers_nil e1; obtain ⟨t, rfl⟩ := er_str e; obtain rfl := List.map_eq_nil_iff.mp e2
  refine P.len_str (by rw [S_length]; omega) ⟨H, St'.toks _, ?_⟩
  rw [S_length]; exact h
theorem C_lenL {a : Addr} {vs : List Value} {Q : Value → HM → Prop} (hv : H a = some (.list vs)) (hl : vs.length ≤ 16000000) (h : Q (VI vs.length) H) : CallJ c (.builtin "len") [.ref a] [] m H Q X := fun Fv Vs Ks e0 e1 e2 F s St' => by
  obtain rfl := er_builtin e0
  obtain ⟨V, _, rfl, e, e1⟩ := ers_cons e1; obtain rfl := ers_nil e1; obtain rfl := er_ref e; obtain rfl := List.map_eq_nil_iff.mp e2
  obtain ⟨ws, n, rfl, hg⟩ := St'.list hv
  rw [List.length_map] at hl h
  refine call_len_list (isList_of hg) (by simp; omega) ⟨H, St'.toks _, ?_⟩
  rw [List.size_toArray]; exact h
theorem T_list {a : Addr} {vs : List Value} {Q : Bool → HM → Prop} (hv : H a = some (.list vs)) (hl : vs.length ≤ 16000000) (h : Q (!vs.isEmpty) H) : Tru c (.ref a) m H Q X := fun A e F s St' => by
  obtain rfl := er_ref e
  obtain ⟨ws, n, rfl, hg⟩ := St'.list hv
  rw [List.length_map] at hl
  refine wpAny_truthy_list (isList_of hg) (by simp; omega) ⟨H, St'.toks _, ?_⟩
  simpa using h

/-! ## lists: methods -/
theorem C_append {a : Addr} {vs : List Value} {v : Value} {Q : Value → HM → Prop} (hv : H a = some (.list vs)) (hl : vs.length ≤ 16000000) (h : Q .none (H.set a (.list (vs ++ [v])))) : CallJ c (.builtin "list.append") [.ref a, v] [] m H Q X := fun Fv Vs Ks e0 e1 e2 F s St' => by
  obtain rfl := er_builtin e0
  obtain ⟨V, _, rfl, e, e1⟩ := ers_cons e1; obtain ⟨W, _, rfl, e', e1⟩ := ers_cons e1; obtain rfl := ers_nil e1; obtain rfl := er_ref e; obtain rfl := List.map_eq_nil_iff.mp e2
  obtain ⟨ws, n, rfl, hg⟩ := St'.list hv
  rw [List.length_map] at hl
  refine call_meets PySem.F.slot_list_append ⟨_, hg, rfl⟩ PySem.F.entry_list_append (PySem.F.args_list_append_2 _ _) (list_append a ws.toArray n W (by rw [List.size_toArray]; exact sizeLine_ge hl)) ⟨hg, _, St'.turn (ws' := ws ++ [W]) hv hg _ (by simp), ?_⟩
  rw [List.map_append, ← e'] at *; exact h
theorem C_reverse {a : Addr} {vs : List Value} {Q : Value → HM → Prop} (hv : H a = some (.list vs)) (hl : vs.length ≤ 16000000) (h : Q .none (H.set a (.list vs.reverse))) : CallJ c (.builtin "list.reverse") [.ref a] [] m H Q X := fun Fv Vs Ks e0 e1 e2 F s St' => by
  obtain rfl := er_builtin e0
  obtain ⟨V, _, rfl, e, e1⟩ := ers_cons e1; obtain rfl := ers_nil e1; obtain rfl := er_ref e; obtain rfl := List.map_eq_nil_iff.mp e2
  obtain ⟨ws, n, rfl, hg⟩ := St'.list hv
  rw [List.length_map] at hl
  refine call_meets PySem.F.slot_list_reverse ⟨_, hg, rfl⟩ PySem.F.entry_list_reverse (PySem.F.args_list_reverse_1 _) (AutoSeq1.list_reverse_list_0 a ws.toArray n (by rw [List.size_toArray]; exact sizeLine_ge hl)) ⟨hg, _, St'.turn (ws' := ws.reverse) hv hg _ (by simp), ?_⟩
  rw [List.map_reverse]; exact h
theorem erase_last (ws : List Value) (V : Value) : (ws ++ [V]).toArray.eraseIdxIfInBounds ((ws ++ [V]).toArray.size - 1) = ws.toArray := by
  unfold Array.eraseIdxIfInBounds
  simp [List.eraseIdx_append_of_length_le (Nat.le_refl _)]
theorem C_pop {a : Addr} {vs : List Value} {v : Value} {Q : Value → HM → Prop} (hv : H a = some (.list (vs ++ [v]))) (hl : vs.length < 16000000) (h : Q v (H.set a (.list vs))) : CallJ c (.builtin "list.pop") [.ref a] [] m H Q X := fun Fv Vs Ks e0 e1 e2 F s St' => by
  obtain rfl := er_builtin e0
  obtain ⟨V, _, rfl, e, e1⟩ := ers_cons e1; obtain rfl := ers_nil e1; obtain rfl := er_ref e; obtain rfl := List.map_eq_nil_iff.mp e2
  obtain ⟨wv, n, hw, hg⟩ := St'.list hv
  obtain ⟨ws, w1, rfl, rfl, hw1⟩ := List.map_eq_append_iff.mp hw
  obtain ⟨W, _, rfl, rfl, hw2⟩ := ers_cons hw1
  obtain rfl := ers_nil hw2
  rw [List.length_map] at hl
  refine call_meets PySem.F.slot_list_pop ⟨_, hg, rfl⟩ PySem.F.entry_list_pop (PySem.F.args_list_pop_1 _) (MeetsSeq.list_pop_last a (ws ++ [W]).toArray n W (by simp) (by rw [List.size_toArray, List.length_append]; exact sizeLine_ge hl)) ⟨hg, _, St'.turn (ws' := ws) hv hg _ (erase_last ws W), h⟩
end
end Mine
end

section
open PySem PySem.W PySem.Calls PyProof.Rows
set_option linter.all false
set_option maxRecDepth 100000
namespace Mine

section
variable {c : FC} {K : Frag} {n : Nat} {m : LM} {H : HM} {X : XM}

/-! ## making lists and tuples -/
theorem Ev.list {es p} {Q : Value → HM → Prop} (h : Vals c es m H (fun vs H1 => vs.length ≤ 16000000 ∧ ∀ a, H1 a = none → Q (.ref a) (H1.set a (.list vs))) X) : Ev c (.List es p) m H Q X := fun G s St' =>
  List_ (wpAny_mono (h p G s St') (fun Vs s1 ⟨H1, S1, hl, hq⟩ => by
    rw [List.length_map] at hl
    exact wpAny_newObj_type ⟨_, S1.push (ao := .list (Vs.map er)) ⟨Vs, 0, rfl, rfl⟩ rfl, hq _ S1.fresh.1⟩ (by show Vs.toArray.size ≤ sizeLine; rw [List.size_toArray]; exact sizeLine_ge hl)) fun _ _ e => e)
theorem Ev.tuple {es k p} {Q : Value → HM → Prop} (h : Vals c es m H (fun vs H1 => vs.length ≤ 16000000 ∧ ∀ a, H1 a = none → Q (.ref a) (H1.set a (.tup vs))) X) : Ev c (.Tuple es k p) m H Q X := fun G s St' =>
  Tuple_ (wpAny_mono (h p G s St') (fun Vs s1 ⟨H1, S1, hl, hq⟩ => by
    rw [List.length_map] at hl
    exact wpAny_newObj_type ⟨_, S1.push (ao := .tup (Vs.map er)) ⟨Vs, 0, ⟨rfl, rfl⟩, rfl⟩ rfl, hq _ S1.fresh.1⟩ (by show Vs.toArray.size ≤ sizeLine; rw [List.size_toArray]; exact sizeLine_ge hl)) fun _ _ e => e)

/-! ## items -/
def ItemJ (c : FC) (o i : Value) (m : LM) (H : HM) (Q : Value → HM → Prop) (X : XM) : Prop := Op2 c getItem o i m H Q X
/-- what stands at an index, from behind too -/
def at? {α : Type} (vs : List α) (k : Int) : Option α := if 0 ≤ k then vs[k.toNat]? else if -(vs.length : Int) ≤ k then vs[(k + vs.length).toNat]? else none

theorem I_list {a : Addr} {vs : List Value} {k : Int} {v : Value} {Q : Value → HM → Prop} (hv : H a = some (.list vs)) (hk : at? vs k = some v) (hs : k.natAbs < 2 ^ 62) (h : Q v H) : ItemJ c (.ref a) (VI k) m H Q X := fun A B e1 e2 G s St' => by
  obtain rfl := er_ref e1; obtain ⟨u, rfl⟩ := er_int e2
  obtain ⟨ws, n, rfl, hg⟩ := St'.list hv
  unfold at? at hk
  split at hk
  · rename_i h0
    obtain ⟨V, hV, rfl⟩ := getElem?_er hk
    exact wpAny_getItem_list (isList_of hg) h0 (by omega) (by simpa using hV) ⟨H, St', h⟩
  · rename_i h0
    split at hk
    · rename_i h1
      obtain ⟨V, hV, rfl⟩ := getElem?_er hk
      rw [List.length_map] at h1 hV
      exact wpAny_getItem_list_neg (isList_of hg) (by omega) (by simpa using h1) (by omega) (by simpa using hV) ⟨H, St', h⟩
    · cases hk
theorem seqIndex_at {α : Type} {vs : List α} {k : Int} {v : α} (h : at? vs k = some v) : ∃ j, seqIndex? k vs.length = some j ∧ vs[j]? = some v := by
  unfold at? at h
  split at h
  · rename_i h0
    refine ⟨k.toNat, ?_, h⟩
    have hlt : k.toNat < vs.length := (List.getElem?_eq_some_iff.mp h).1
    unfold seqIndex?
    have h1 : ¬ k < 0 := by omega
    have h2 : (decide (0 ≤ k) && decide (k < (vs.length : Int))) = true := by simp only [Bool.and_eq_true, decide_eq_true_eq]; omega
    simp only [h1, if_false, h2, if_true]
  · rename_i h0
    split at h
    · rename_i h1
      exact ⟨_, seqIndex_neg (by omega) h1, h⟩
    · cases h
theorem I_tup {a : Addr} {vs : List Value} {k : Int} {v : Value} {Q : Value → HM → Prop} (hv : H a = some (.tup vs)) (hk : at? vs k = some v) (hs : k.natAbs < 2 ^ 62) (h : Q v H) : ItemJ c (.ref a) (VI k) m H Q X := fun A B e1 e2 G s St' => by
  obtain rfl := er_ref e1; obtain ⟨u, rfl⟩ := er_int e2
  obtain ⟨ws, rfl, hg⟩ := St'.tup hv
  obtain ⟨j, hj, hx⟩ := seqIndex_at hk
  obtain ⟨V, hV, rfl⟩ := getElem?_er hx
  rw [List.length_map] at hj
  exact getItem_tuple (isTup_of hg) (by omega) (by omega) (by simpa using hj) (by simpa using hV) ⟨H, St', h⟩
theorem I_str {l : List Nat} {k : Int} {x : Nat} {Q : Value → HM → Prop} (hk : at? l k = some x) (hs : k.natAbs < 2 ^ 62) (h : Q (VT [x]) H) : ItemJ c (VT l) (VI k) m H Q X := fun A B e1 e2 G s St' => by
  obtain ⟨t, rfl⟩ := er_str e1; obtain ⟨u, rfl⟩ := er_int e2
  obtain ⟨j, hj, hx⟩ := seqIndex_at hk
  refine P.getItem_str (c := x) (by simp; omega) ?_ ⟨H, St'.toks _, h⟩
  rw [S_length, hj]
  simpa [S] using hx

/-- value[i], the value a name or not -/
theorem Ev.item {value slice pos} {Q : Value → HM → Prop} (h : Ev c value m H (fun o H1 => Ev c slice m H1 (fun i H2 =>
      (((∃ a vs, o = .ref a ∧ (H2 a = some (.list vs) ∨ H2 a = some (.tup vs))) ∨ ∃ l, o = VT l)) ∧ ItemJ c o i m H2 Q X) X) X)
    (hs : ∀ o i, subscripted slice false o i = operate [o, i] (getItem o i)) : Ev c (.Subscript value slice pos) m H Q X := fun G s St' =>
  Subscript_ (wpAny_mono (h G s St') (fun O s1 ⟨H1, S1, h1⟩ => wpAny_mono (h1 G s1 S1) (fun I s2 ⟨H2, S2, hk, h2⟩ => by
    have hg := h2 O I rfl rfl G s2 S2
    rcases hk with ⟨a, vs, e, hv | hv⟩ | ⟨l, e⟩
    · obtain rfl := er_ref e
      obtain ⟨ws, n, _, ho⟩ := S2.list hv
      exact tail_any (T := "list") ⟨_, ho, rfl⟩ slot_list_getitem.lookup hg (hs _ _)
    · obtain rfl := er_ref e
      obtain ⟨ws, _, ho⟩ := S2.tup hv
      exact tail_any (T := "tuple") ho.typeIs slot_tuple_getitem.lookup hg (hs _ _)
    · obtain ⟨t, rfl⟩ := er_str e
      exact tail_any (typeIs_str _ _ _) PySem.F.slot_str_getitem.lookup hg (hs _ _)) fun _ _ e => e) fun _ _ e => e)

/-! ## slices -/
/-- l[a:b], bounds not below nought -/
def cut {α : Type} (l : List α) (a b : Option Nat) : List α := ((match b with | some b => l.take b | none => l)).drop (a.getD 0)
theorem cut_le {α : Type} (l : List α) (a b : Option Nat) : (cut l a b).length ≤ l.length := by
  unfold cut; cases b <;> simp <;> omega

theorem strSlice_idx (a b : Option Nat) (n : Nat) : Builtin.Str.strSliceIndices (a.map fun (x : Nat) => (x : Int)) (b.map fun (x : Nat) => (x : Int)) 1 n =
    (List.range (min (b.getD n) n - min (a.getD 0) n)).map (min (a.getD 0) n + ·) := by
  rw [← sliceRange_one]
  unfold Builtin.Str.strSliceIndices
  cases a <;> cases b <;> simp <;> congr 1 <;> omega
theorem pick_cut {α : Type} (xs : Array α) (a b : Option Nat) : ((List.range (min (b.getD xs.size) xs.size - min (a.getD 0) xs.size)).map (min (a.getD 0) xs.size + ·)).filterMap (xs[·]?) = cut xs.toList a b := by
  rw [pick_run]
  unfold cut
  obtain ⟨l⟩ := xs
  simp only [List.size_toArray]
  cases b with
  | none =>
    simp only [Option.getD_none, Nat.min_self]
    by_cases h : a.getD 0 ≤ l.length
    · rw [Nat.min_eq_left h, List.take_of_length_le (by simp)]
    · rw [Nat.min_eq_right (by omega), List.drop_of_length_le (Nat.le_refl _), List.drop_of_length_le (by omega)]; simp
  | some b =>
    simp only [Option.getD_some]
    rw [List.drop_take]
    by_cases h : a.getD 0 ≤ l.length
    · rw [Nat.min_eq_left h]
      by_cases hb : b ≤ l.length
      · rw [Nat.min_eq_left hb]
      · rw [Nat.min_eq_right (by omega), List.take_of_length_le (by simp), List.take_of_length_le (by simp; omega)]
    · rw [Nat.min_eq_right (a := a.getD 0) (by omega), List.drop_of_length_le (Nat.le_refl _), List.drop_of_length_le (by omega)]; simp
theorem slicePick_cut (items : Array Value) (a b : Option Nat) : slicePick items (a.map fun (x : Nat) => (x : Int)) (b.map fun (x : Nat) => (x : Int)) none = (cut items.toList a b).toArray := by
  rw [← pick_cut]
  unfold slicePick
  congr 1
  rw [← strSlice_idx]
  rfl
theorem cut_map {α β : Type} (f : α → β) (l : List α) (a b : Option Nat) : (cut l a b).map f = cut (l.map f) a b := by
  unfold cut; cases b <;> simp [List.map_drop, List.map_take]

/-- a slice's bound: left out, or an int not below nought -/
inductive Bnd : Value → Option Nat → Prop
  | non : Bnd .none none
  | int (k : Nat) : Bnd (VI k) (some k)
def EvP (c : FC) (e : Option Expr) (m : LM) (H : HM) (Q : Value → HM → Prop) (X : XM) : Prop := Ew c (evalPart e c.env) m H Q X
theorem EvP.non {Q : Value → HM → Prop} (h : Q .none H) : EvP c none m H Q X := fun G s St' => wpAny_pure ⟨H, St', h⟩
theorem EvP.some {e : Expr} {Q : Value → HM → Prop} (h : Ev c e m H Q X) : EvP c (some e) m H Q X := h

theorem Bnd.part {V : Value} {k : Option Nat} (h : Bnd (er V) k) : IsPart V (k.map fun (x : Nat) => (x : Int)) ∧ ∃ p : Option (Int × Tok), V = partValue p ∧ p.map (·.1) = k.map fun (x : Nat) => (x : Int) := by
  generalize e : er V = v at h
  cases h with
  | non => obtain rfl := er_none e; exact ⟨.none, none, rfl, rfl⟩
  | int k => obtain ⟨t, rfl⟩ := er_int e; exact ⟨.int _ _, some (_, t), rfl, rfl⟩

theorem eval_Slice3 (lower upper : Option Expr) (p : Pos) (env : Env) : eval (.Slice lower upper none p) env = (do
    let l ← evalPart lower env
    let u ← holding [l] (evalPart upper env)
    let s ← holding [l, u] (pure .none)
    newFields "slice" [l, u, s]) := rfl

/-- the slice object, and what is asked of it -/
theorem Ev.slice {value lower upper p pos} {Q : Value → HM → Prop} (h : Ev c value m H (fun o H1 => EvP c lower m H1 (fun l H2 => EvP c upper m H2 (fun u H3 =>
      ∃ a b, Bnd l a ∧ Bnd u b ∧ ((∃ r vs, o = .ref r ∧ H3 r = some (.list vs) ∧ vs.length ≤ 16000000 ∧ ∀ q, H3 q = none → Q (.ref q) (H3.set q (.list (cut vs a b)))) ∨
        (∃ t, o = VT t ∧ t.length ≤ 16000000 ∧ Q (VT (cut t a b)) H3))) X) X) X) : Ev c (.Subscript value (.Slice lower upper none p) pos) m H Q X := fun G s St' => by
  refine Subscript_ (wpAny_mono (h G s St') (fun O s1 ⟨H1, S1, h1⟩ => ?_) fun _ _ e => e)
  rw [eval_Slice3]
  refine wpAny_bind (wpAny_mono (h1 G s1 S1) (fun L s2 ⟨H2, S2, h2⟩ => wpAny_bind (wpAny_holding (wpAny_mono (h2 G s2 S2) (fun U s3 ⟨H3, S3, a, b, ba, bb, h3⟩ => wpAny_bind (wpAny_holding (wpAny_pure ?_))) fun _ _ e => e))) fun _ _ e => e)
  obtain ⟨pa, qa, rfl, ea⟩ := ba.part
  obtain ⟨pb, qb, rfl, eb⟩ := bb.part
  refine wpAny_newObj_type ?_ (by size_fits)
  have S4 := S3.keeps' (h' := s3.heap.push { cls := .type "slice", data := .fields #[partValue qa, partValue qb, .none] }) fun b o e => Heap.get?_push_of_some _ e
  rcases h3 with ⟨r, vs, e, hv, hl, hq⟩ | ⟨t, e, hl, hq⟩
  · obtain rfl := er_ref e
    obtain ⟨ws, n, rfl, hg⟩ := S3.list hv
    have hg' := Heap.get?_push_of_some { cls := .type "slice", data := .fields #[partValue qa, partValue qb, .none] } hg
    refine tail_any (T := "list") ⟨_, hg', rfl⟩ slot_list_getitem.lookup (wpAny_getItem_list_slice (isList_of hg') (Heap.IsSliceOf.new ..) pa pb .none (by simp) ?_ (by rw [List.length_map] at hl; rw [List.size_toArray]; exact sizeLine_ge hl)) rfl
    rw [slicePick_cut]
    exact ⟨_, S4.push (ao := .list ((cut ws a b).map er)) ⟨_, 0, rfl, rfl⟩ rfl, by rw [cut_map]; exact hq _ S4.fresh.1⟩
  · obtain ⟨tk, rfl⟩ := er_str e
    refine tail_any (typeIs_str _ _ _) PySem.F.slot_str_getitem.lookup (wpAny_getItem_str_slice (l := qa) (u := qb) (st := none) ⟨_, Heap.get?_push_size _ rfl, rfl, rfl⟩ rfl ?_) rfl
    have hp : slicePicked (S t) qa qb none = (List.range (min (b.getD t.length) t.length - min (a.getD 0) t.length)).map (min (a.getD 0) t.length + ·) := by
      unfold slicePicked
      rw [ea, eb, S_length]
      exact strSlice_idx a b t.length
    have hc : (slicePicked (S t) qa qb none).filterMap ((S t).cps[·]?) = cut t a b := by
      rw [hp]
      have := pick_cut t.toArray a b
      simp only [List.size_toArray] at this
      exact this
    unfold sliceMade
    split
    · rename_i q
      have hlen : (slicePicked (S t) qa qb none).length = t.length := by simpa [S_length] using q
      refine ⟨H3, S4, ?_⟩
      have : cut t a b = t := by
        rw [hp] at hlen
        simp only [List.length_map, List.length_range] at hlen
        unfold cut
        by_cases h0 : t.length = 0
        · have : t = [] := List.length_eq_zero_iff.mp h0
          subst this; cases b <;> simp
        · cases b with
          | none => simp only [Option.getD_none] at hlen; rw [show a.getD 0 = 0 from by omega]; rfl
          | some b => simp only [Option.getD_some] at hlen; rw [show a.getD 0 = 0 from by omega]; simp only [List.drop_zero]; exact List.take_of_length_le (by omega)
      rw [this] at hq; exact hq
    · refine ⟨?_, H3, S4.toks _, ?_⟩
      · rw [hc]; exact S_fits (Nat.le_trans (cut_le _ _ _) hl)
      · rw [hc]; exact hq
end
end Mine
end

section
open PySem PySem.W PySem.Calls PyProof.Rows
set_option linter.all false
set_option maxRecDepth 100000
namespace Mine

section
variable {c : FC} {K : Frag} {n : Nat} {m : LM} {H : HM} {X : XM}

/-! ## targets -/
abbrev Tgt (c : FC) (t : Expr) := SetJ c (assign t c.env)
def InOrd (c : FC) (ts : List (Value → Sem Unit)) (vs : List Value) (m : LM) (H : HM) (Q : LM → HM → Prop) (X : XM) : Prop :=
  ∀ Vs : List Value, Vs.map er = vs → Nw c (assignInOrder ts Vs) m H Q X
theorem InOrd.nil {Q : LM → HM → Prop} (h : Q m H) : InOrd c [] [] m H Q X := fun Vs e G s St' => by
  obtain rfl := ers_nil e; exact wpAny_assignInOrder_none ⟨m, H, St', h⟩
theorem InOrd.cons {t : Value → Sem Unit} {ts : List (Value → Sem Unit)} {v : Value} {vs : List Value} {Q : LM → HM → Prop} (h : SetJ c t v m H (fun m1 H1 => InOrd c ts vs m1 H1 Q X) X) : InOrd c (t :: ts) (v :: vs) m H Q X := fun Vs e G s St' => by
  obtain ⟨V, Vr, rfl, e1, e2⟩ := ers_cons e
  exact wpAny_assignInOrder_more (wpAny_mono (h V e1 G s St') (fun _ s1 ⟨m1, H1, S1, h1⟩ => h1 Vr e2 G s1 S1) fun _ _ e => e)

theorem Tgt.name {x p v} {Q : LM → HM → Prop} (h : StoreJ c x v m H Q X) : Tgt c (.Name x p) v m H Q X := fun V e G s St' =>
  wpAny_assign_Name (h V e G s St')


theorem Tgt.tuple {elts k p a vs} {Q : LM → HM → Prop} (hh : c.A.handled = none) (hv : H a = some (.tup vs)) (hn : (assignEach elts c.env).length = vs.length) (hst : (assignEach elts c.env).findIdx? (·.1) = none)
    (h : InOrd c ((assignEach elts c.env).map (·.2)) vs m H Q X) : Tgt c (.Tuple elts k p) (.ref a) m H Q X := fun V e G s St' => by
  obtain rfl := er_ref e
  obtain ⟨ws, rfl, hg⟩ := St'.tup hv
  rw [List.length_map] at hn
  exact wpAny_assign_Tuple hh hg (by simpa using hn) hst fun h' he => h ws rfl G _ (St'.keeps' fun b o e => he b o (Nat.ne_of_lt (Heap.lt_size e)) e)

/-- l[k] = v -/
theorem set_er {ws : List Value} {k : Nat} {V : Value} : (ws.set k V).map er = (ws.map er).set k (er V) := by rw [List.map_set]
def setAt {α : Type} (vs : List α) (k : Int) (v : α) : List α := vs.set (if 0 ≤ k then k.toNat else (k + vs.length).toNat) v
theorem SetItem_list {a : Addr} {vs : List Value} {k : Int} {v : Value} {A B V : Value} {Q : LM → HM → Prop} (hv : H a = some (.list vs)) (h0 : -(vs.length : Int) ≤ k) (h1 : k < vs.length) (hs : k.natAbs < 2 ^ 62)
    (e1 : er A = .ref a) (e2 : er B = VI k) (e3 : er V = v) (h : Q m (H.set a (.list (setAt vs k v)))) : Nw c (setItem A B V) m H Q X := fun G s St' => by
  obtain rfl := er_ref e1; obtain ⟨u, rfl⟩ := er_int e2
  obtain ⟨ws, n, rfl, hg⟩ := St'.list hv
  rw [List.length_map] at h0 h1
  unfold setAt at h
  rw [List.length_map] at h
  split at h
  · rename_i q
    refine ki_setAt (n := n) hg q (by omega) (by simpa using h1) ⟨m, _, St'.turn (ws' := ws.set k.toNat V) (t := s.toks) hv hg (fun xs => xs.setIfInBounds k.toNat V) (by simp), ?_⟩
    rw [set_er, e3]; exact h
  · rename_i q
    refine ki_setBack (n := n) hg (by omega) (by simpa using h0) (by omega) ⟨m, _, St'.turn (ws' := ws.set (k + ws.length).toNat V) (t := s.toks) hv hg (fun xs => xs.setIfInBounds (k + ws.toArray.size).toNat V) (by simp), ?_⟩
    rw [set_er, e3]; exact h

theorem Tgt.sub {o i p v} {Q : LM → HM → Prop} (h : Ev c o m H (fun ov H1 => Ev c i m H1 (fun iv H2 => ∃ a vs k, ov = .ref a ∧ iv = VI k ∧ H2 a = some (.list vs) ∧ -(vs.length : Int) ≤ k ∧ k < vs.length ∧ k.natAbs < 2 ^ 62 ∧ Q m (H2.set a (.list (setAt vs k v)))) X) X) :
    Tgt c (.Subscript o i p) v m H Q X := fun V e G s St' =>
  kas_sub (wpAny_mono (h G s St') (fun O s1 ⟨H1, S1, h1⟩ => wpAny_mono (h1 G s1 S1) (fun I s2 ⟨H2, S2, a, vs, k, e1, e2, hv, h0, h1, hs, hq⟩ =>
    SetItem_list hv h0 h1 hs e1 e2 e hq G s2 S2) fun _ _ e => e) fun _ _ e => e)

/-! ## assignment -/
theorem Ex.asg {t e p} {Q : Flow → LM → HM → Prop} (h : Ev c e m H (fun v H1 => Tgt c t v m H1 (fun m2 H2 => Q .next m2 H2) X) X)
    (hs : swapsWithSole [t] e p.line c.env = pure false) (hw : swappedStores [t] e c.env = pure none) (he : (assignEach [t] c.env).map (·.2) = [assign t c.env]) : Ex c (.Assign [t] e p) m H Q X :=
  fun G s St' => wpAny_Assign_stores (wpAny_mono (h G s St') (fun V s1 ⟨H1, S1, h1⟩ => by rw [he]; exact wpAny_mono (h1 V rfl G s1 S1) (fun _ s2 ⟨m2, H2, S2, h2⟩ => ⟨m2, H2, S2, h2⟩) fun _ _ e => e) fun _ _ e => e) hs hw

theorem Ex.swap {elts k tpos e p} {names : List Str} {Q : Flow → LM → HM → Prop} (hh : c.A.handled = none)
    (h : Ev c e m H (fun v H1 => ∃ a vs, v = .ref a ∧ H1 a = some (.tup vs) ∧ names.length = vs.length ∧ InOrd c (names.reverse.map fun x => bindName c.env x) vs.reverse m H1 (fun m2 H2 => Q .next m2 H2) X) X)
    (hs : swapsWithSole [.Tuple elts k tpos] e p.line c.env = pure false) (hw : swappedStores [.Tuple elts k tpos] e c.env = pure (some names)) : Ex c (.Assign [.Tuple elts k tpos] e p) m H Q X :=
  fun G s St' => Assign_Tuple_swapped (wpAny_mono (h G s St') (fun V s1 ⟨H1, S1, a, vs, ev, hv, hl, h1⟩ => by
    obtain rfl := er_ref ev
    obtain ⟨ws, rfl, hg⟩ := S1.tup hv
    rw [List.length_map] at hl
    rw [hl, show ws.length = ws.toArray.size from by simp]
    refine wpAny_unpackItems_tuple hh hg fun h' he => ?_
    exact wpAny_mono (h1 ws.reverse (by rw [List.map_reverse]) G _ (S1.keeps' fun b o e => he b o (Nat.ne_of_lt (Heap.lt_size e)) e)) (fun _ s2 ⟨m2, H2, S2, h2⟩ => ⟨m2, H2, S2, h2⟩) fun _ _ e => e) fun _ _ e => e) hs hw
theorem BindJ {x v} {Q : LM → HM → Prop} (h : StoreJ c x v m H Q X) : SetJ c (bindName c.env x) v m H Q X := fun V e G s St' =>
  wpAny_bindName (h V e G s St')

/-! ## augmented -/
def LoadJ (c : FC) (x : Str) := Ew c (loadName c.env x)
theorem LoadJ.loc {x v} {Q : Value → HM → Prop} (hk : c.env.scope.kind = .function) (hl : c.env.kindOf x = some .local) (hv : m.lookup x = some v) (h : Q v H) : LoadJ c x m H Q X := fun F s S => by
  obtain ⟨mr, n1, n2⟩ := S.ns
  obtain ⟨V, v1, v2⟩ := n2 x v hv
  exact wpAny_loadName_local hk hl n1 v1 ⟨H, S, v2 ▸ h⟩
theorem Ex.augN {x p' op e p} {Q : Flow → LM → HM → Prop} (h : LoadJ c x m H (fun old H1 => Ev c e m H1 (fun v H2 => Op2 c (inplaceOp op) old v m H2 (fun r H3 => StoreJ c x r m H3 (fun m4 H4 => Q .next m4 H4) X) X) X) X) :
    Ex c (.AugAssign (.Name x p') op e p) m H Q X := fun G s St' =>
  wpAny_AugAssign_Name (wpAny_mono (h G s St') (fun O s1 ⟨H1, S1, h1⟩ => wpAny_mono (h1 G s1 S1) (fun V s2 ⟨H2, S2, h2⟩ => wpAny_mono (h2 O V rfl rfl G s2 S2) (fun R s3 ⟨H3, S3, h3⟩ =>
    wpAny_mono (h3 R rfl G s3 S3) (fun _ s4 ⟨m4, H4, S4, h4⟩ => ⟨m4, H4, S4, h4⟩) fun _ _ e => e) fun _ _ e => e) fun _ _ e => e) fun _ _ e => e)
theorem Ex.augS {o i value tpos op p} {Q : Flow → LM → HM → Prop} (h : Ev c o m H (fun ov H1 => Ev c i m H1 (fun iv H2 => ItemJ c ov iv m H2 (fun old H3 => Ev c value m H3 (fun v H4 => Op2 c (inplaceOp op) old v m H4 (fun r H5 =>
      ∃ a vs k, ov = .ref a ∧ iv = VI k ∧ H5 a = some (.list vs) ∧ -(vs.length : Int) ≤ k ∧ k < vs.length ∧ k.natAbs < 2 ^ 62 ∧ Q .next m (H5.set a (.list (setAt vs k r)))) X) X) X) X) X)
    (hi : ∀ ov iv new, augStore i ov iv new = (do holding [new, ov, iv] (setItem ov iv new); release [new, ov, iv] []; pure .next)) : Ex c (.AugAssign (.Subscript o i tpos) op value p) m H Q X := fun G s St' =>
  wpAny_AugAssign_SubscriptAny (wpAny_mono (h G s St') (fun O s1 ⟨H1, S1, h1⟩ => wpAny_mono (h1 G s1 S1) (fun I s2 ⟨H2, S2, h2⟩ => wpAny_mono (h2 O I rfl rfl G s2 S2) (fun Old s3 ⟨H3, S3, h3⟩ =>
    wpAny_mono (h3 G s3 S3) (fun V s4 ⟨H4, S4, h4⟩ => wpAny_mono (h4 Old V rfl rfl G s4 S4) (fun R s5 ⟨H5, S5, a, vs, k, e1, e2, hv, q0, q1, q2, hq⟩ =>
      wpAny_mono (SetItem_list (Q := fun m' H' => Q .next m' H') hv q0 q1 q2 e1 e2 rfl hq G s5 S5) (fun _ s4 ⟨m4, H4, S4, h4⟩ => ⟨m4, H4, S4, h4⟩) fun _ _ e => e) fun _ _ e => e) fun _ _ e => e) fun _ _ e => e) fun _ _ e => e) fun _ _ e => e) hi

/-! ## other statements -/
theorem Ex.expr {e p} {Q : Flow → LM → HM → Prop} (h : Ev c e m H (fun _ H1 => Q .next m H1) X) (hi : interactive c.env = false) (hs : swapsWith e none p.line c.env = pure false) : Ex c (.Expr e p) m H Q X := fun G s St' =>
  wpAny_Expr_any (wpAny_mono (h G s St') (fun _ s1 ⟨H1, S1, h1⟩ => ⟨m, H1, S1, h1⟩) fun _ _ e => e) hi hs
theorem Ex.pass {p} {Q : Flow → LM → HM → Prop} (h : Q .next m H) : Ex c (.Pass p) m H Q X := fun G s St' => wpAny_Pass ⟨m, H, St', h⟩

/-- del l[k] -/
def delAt {α : Type} (vs : List α) (k : Int) : List α := vs.eraseIdx (if 0 ≤ k then k.toNat else (k + vs.length).toNat)
theorem eraseIdx_map' {α β : Type} (f : α → β) : ∀ (l : List α) (j : Nat), (l.eraseIdx j).map f = (l.map f).eraseIdx j
  | [], _ => by simp
  | a :: l, 0 => by simp
  | a :: l, j + 1 => by simp [eraseIdx_map' f l j]
theorem Ex.delItem {o i dp p} {Q : Flow → LM → HM → Prop} (h : Ev c o m H (fun ov H1 => Ev c i m H1 (fun iv H2 => ∃ a vs k, ov = .ref a ∧ iv = VI k ∧ H2 a = some (.list vs) ∧ -(vs.length : Int) ≤ k ∧ k < vs.length ∧ vs.length ≤ 16000000 ∧ Q .next m (H2.set a (.list (delAt vs k)))) X) X) :
    Ex c (.Delete [.Subscript o i dp] p) m H Q X := fun G s St' =>
  wpAny_Delete (wpAny_deleteEach_cons (wpAny_delete_Subscript (wpAny_mono (h G s St') (fun O s1 ⟨H1, S1, h1⟩ => wpAny_mono (h1 G s1 S1) (fun I s2 ⟨H2, S2, a, vs, k, e1, e2, hv, h0, h1, hs, hq⟩ => by
    obtain rfl := er_ref e1; obtain ⟨u, rfl⟩ := er_int e2
    obtain ⟨ws, n, rfl, hg⟩ := S2.list hv
    rw [List.length_map] at h0 h1 hs
    have hfit : Builtin.List.listFitsIndex k = true := by unfold Builtin.List.listFitsIndex; simp only [Bool.and_eq_true, decide_eq_true_eq]; omega
    unfold delAt at hq
    rw [List.length_map] at hq
    have fin : ∀ j : Nat, j < ws.length → (if 0 ≤ k then k.toNat else (k + ws.length).toNat) = j → Q .next m (H2.set a (.list ((ws.eraseIdx j).map er))) := fun j _ e => by
      rw [e] at hq; rw [eraseIdx_map']; exact hq
    by_cases q : 0 ≤ k
    · refine P.delItem_list (n := n) (k := k.toNat) hg hfit (by obtain ⟨j, hj, hx⟩ := seqIndex_at (vs := ws) (k := k) (v := ws[k.toNat]'(by omega)) (by unfold at?; rw [if_pos q]; exact List.getElem?_eq_getElem _)
                                                                unfold seqIndex?
                                                                have h1' : ¬ k < 0 := by omega
                                                                have h2' : (decide (0 ≤ k) && decide (k < (ws.toArray.size : Int))) = true := by simp only [Bool.and_eq_true, decide_eq_true_eq, List.size_toArray]; omega
                                                                simp only [h1', if_false, h2', if_true]) ?_ (by rw [List.size_toArray]; exact sizeLine_ge hs)
      refine wpAny_deleteEach_nil ⟨m, _, S2.turn (ws' := ws.eraseIdx k.toNat) (t := s2.toks) hv hg (fun xs => xs.eraseIdxIfInBounds k.toNat) ?_, fin k.toNat (by omega) (if_pos q)⟩
      unfold Array.eraseIdxIfInBounds
      rw [dif_pos (by rw [List.size_toArray]; omega)]; simp
    · refine P.delItem_list (n := n) (k := (k + ws.length).toNat) hg hfit (by have := PySem.seqIndex_neg (k := k) (n := ws.length) (by omega) h0; simpa using this) ?_ (by rw [List.size_toArray]; exact sizeLine_ge hs)
      refine wpAny_deleteEach_nil ⟨m, _, S2.turn (ws' := ws.eraseIdx (k + ws.length).toNat) (t := s2.toks) hv hg (fun xs => xs.eraseIdxIfInBounds (k + ws.length).toNat) ?_, fin _ (by omega) (if_neg q)⟩
      unfold Array.eraseIdxIfInBounds
      rw [dif_pos (by rw [List.size_toArray]; omega)]; simp) fun _ _ e => e) fun _ _ e => e)))
end
end Mine
end

section
open PySem PySem.W PySem.Calls PyProof.Rows
set_option linter.all false
set_option maxRecDepth 100000
namespace Mine

/-! ## into another frame and back -/
def FC.call (c : FC) (fd : FuncData) (L f : Addr) : FC := { c with A := c.A.deeper (callEnvC fd L f), env := callEnvC fd L f }

def bindLM (kind : Str → Option NameKind) : List (Str × Value) → LM → LM
  | [], m => m
  | (x, v) :: r, m => bindLM kind r (if kind x = some .local then (x, v) :: m else m)
def bindCM (kind : Str → Option NameKind) : List (Str × Value) → (Str → Option Value) → Str → Option Value
  | [], m => m
  | (x, v) :: r, m => bindCM kind r (if kind x = some .local then m else fun y => if y = x then some v else m y)
def cellsH (H : HM) (cs : List (Str × Addr)) (cm : Str → Option Value) : HM := cs.foldr (fun p H => H.set p.2 (.cell (cm p.1))) H

theorem MRel.cons {m : LM} {mr : Str → Option Value} (h : MRel m mr) (x : Str) (V : Value) : MRel ((x, er V) :: m) (fun y => if y = x then some V else mr y) := by
  intro y u hy
  rw [List.lookup_cons] at hy
  by_cases hyx : y = x
  · subst hyx; simp only [beq_self_eq_true] at hy; cases hy; exact ⟨V, by simp, rfl⟩
  · rw [beq_eq_false_iff_ne.mpr hyx] at hy
    obtain ⟨W, w1, w2⟩ := h y u hy
    exact ⟨W, by simp [hyx, w1], w2⟩
theorem bind_rel (kind : Str → Option NameKind) : ∀ (binds : List (Str × Value)) (m : LM) (mr : Str → Option Value), MRel m mr → MRel (bindLM kind (binds.map fun p => (p.1, er p.2)) m) (bindL kind binds mr)
  | [], _, _, h => h
  | (x, V) :: r, m, mr, h => by
    show MRel (bindLM kind (r.map _) (if kind x = some .local then (x, er V) :: m else m)) (bindL kind r (if kind x = some .local then _ else mr))
    refine bind_rel kind r _ _ ?_
    split
    · exact h.cons x V
    · exact h
theorem bind_cells (kind : Str → Option NameKind) : ∀ (binds : List (Str × Value)) (m mr : Str → Option Value), (∀ y, m y = (mr y).map er) → ∀ y, bindCM kind (binds.map fun p => (p.1, er p.2)) m y = (bindC kind binds mr y).map er
  | [], _, _, h => h
  | (x, V) :: r, m, mr, h => by
    show ∀ y, bindCM kind (r.map _) (if kind x = some .local then m else fun y => if y = x then some (er V) else m y) y = (bindC kind r (if kind x = some .local then mr else _) y).map er
    refine bind_cells kind r _ _ ?_
    intro y
    split
    · exact h y
    · show (if y = x then some (er V) else m y) = (if y = x then some V else mr y).map er
      split
      · rfl
      · exact h y

theorem cells_have : ∀ (names : List (Str × NameKind)) (n : Nat) (acc : List (Str × Addr)) (x : Str), (names.lookup x = some .cell ∨ (acc.lookup x).isSome = true) → ((cellsFrom n names acc).lookup x).isSome = true
  | [], _, _, _, h => by
    rcases h with h | h
    · cases h
    · exact h
  | (y, k) :: r, n, acc, x, h => by
    unfold cellsFrom
    split
    · rename_i hk
      refine cells_have r _ _ x ?_
      by_cases hx : x = y
      · subst hx; right; simp [List.lookup_cons]
      · have e : (x == y) = false := beq_eq_false_iff_ne.mpr hx
        rcases h with h | h
        · left; rw [List.lookup_cons, e] at h; exact h
        · right; rw [List.lookup_cons, e]; exact h
    · rename_i hk
      refine cells_have r _ _ x ?_
      by_cases hx : x = y
      · subst hx
        rcases h with h | h
        · rw [List.lookup_cons] at h
          simp only [beq_self_eq_true] at h
          cases h; exact absurd rfl hk
        · exact .inr h
      · have e : (x == y) = false := beq_eq_false_iff_ne.mpr hx
        rcases h with h | h
        · left; rw [List.lookup_cons, e] at h; exact h
        · exact .inr h

theorem cellsH_none {H : HM} : ∀ {cs : List (Str × Addr)} {cm : Str → Option Value} {a : Addr}, (∀ p ∈ cs, p.2 ≠ a) → cellsH H cs cm a = H a
  | [], _, _, _ => rfl
  | p :: r, cm, a, h => by
    show (cellsH H r cm).set p.2 _ a = _
    rw [HM.set_ne _ _ (Ne.symm (h p List.mem_cons_self))]
    exact cellsH_none fun q hq => h q (List.mem_cons_of_mem _ hq)
theorem cellsH_some {H : HM} : ∀ {cs : List (Str × Addr)} {cm : Str → Option Value} {a : Addr} {ao : AO}, cellsH H cs cm a = some ao → (∃ p ∈ cs, p.2 = a ∧ ao = .cell (cm p.1)) ∨ ((∀ p ∈ cs, p.2 ≠ a) ∧ H a = some ao)
  | [], _, _, _, h => .inr ⟨fun _ hp => (nomatch hp), h⟩
  | p :: r, cm, a, ao, h => by
    have h : (cellsH H r cm).set p.2 (.cell (cm p.1)) a = some ao := h
    by_cases hp : a = p.2
    · subst hp
      rw [HM.set_same] at h; cases h
      exact .inl ⟨p, List.mem_cons_self, rfl, rfl⟩
    · rw [HM.set_ne _ _ hp] at h
      rcases cellsH_some h with ⟨q, hq, e⟩ | ⟨h1, h2⟩
      · exact .inl ⟨q, List.mem_cons_of_mem _ hq, e⟩
      · refine .inr ⟨fun q hq => ?_, h2⟩
        rcases List.mem_cons.mp hq with rfl | hq
        · exact Ne.symm hp
        · exact h1 q hq

section
variable {c : FC} {K : Frag} {n : Nat} {m : LM} {H F : HM} {X : XM} {s : Shared}

theorem St.above (S : St c m H F s) {k : Addr} (hk : s.heap.objs.size ≤ k) : H k = none ∧ F k = none ∧ k ≠ c.env.locals ∧ c.s₀.heap.get? k = none := by
  have no : ∀ o, s.heap.get? k ≠ some o := fun o e => Nat.lt_irrefl _ (Nat.lt_of_lt_of_le (Heap.lt_size e) hk)
  refine ⟨?_, ?_, ?_, ?_⟩
  · cases e : H k with
    | none => rfl
    | some o => obtain ⟨_, _, o', e', _⟩ := S.hp _ _ e; exact absurd e' (no o')
  · cases e : F k with
    | none => rfl
    | some o => obtain ⟨_, _, o', e', _⟩ := S.fp _ _ e; exact absurd e' (no o')
  · intro e
    obtain ⟨mr, ⟨o, _, _, ho, _⟩, _⟩ := S.ns
    rw [← e] at ho; exact no o ho
  · cases e : c.s₀.heap.get? k with
    | none => rfl
    | some o => exact absurd (S.base _ _ e) (no o)
theorem St.frame (S : St c m H F s) : ∃ oL, s.heap.get? c.env.locals = some oL := let ⟨_, ⟨o, _, _, ho, _⟩, _⟩ := S.ns; ⟨o, ho⟩
theorem St.lsz (S : St c m H F s) : c.s₀.heap.objs.size ≤ s.heap.objs.size := let ⟨_, ho⟩ := S.frame; Nat.le_trans S.lb (Nat.le_of_lt (Heap.lt_size ho))
theorem St.l0 (S : St c m H F s) : c.s₀.heap.get? c.env.locals = none := by
  cases e : c.s₀.heap.get? c.env.locals with
  | none => rfl
  | some o => exact absurd (Heap.lt_size e) (Nat.not_lt.mpr S.lb)
theorem St.hl (S : St c m H F s) : H c.env.locals = none := by
  cases e : H c.env.locals with
  | none => rfl
  | some o => exact absurd rfl (S.hp _ _ e).1
theorem St.fl (S : St c m H F s) : F c.env.locals = none := by
  cases e : F c.env.locals with
  | none => rfl
  | some o => exact absurd rfl (S.fp _ _ e).1

theorem St.other (S : St c m H F s) {c' : FC} (hc : c'.s₀ = c.s₀) {oL : Obj} (hL : s.heap.get? c.env.locals = some oL) {m' : LM} {mr' : Str → Option Value} {h' : Heap} {t : Nat} {H' : HM} (k : ∀ b o, s.heap.get? b = some o → h'.get? b = some o)
    (hl : s.heap.objs.size ≤ c'.env.locals) (hn : h'.Ns c'.env.locals mr') (hm : MRel m' mr')
    (hH : ∀ a ao, H' a = some ao → (H a = some ao) ∨ (s.heap.objs.size ≤ a ∧ a ≠ c'.env.locals ∧ ∃ o, h'.get? a = some o ∧ ao.Is o)) :
    St c' m' H' (F.set c.env.locals (.raw oL)) { s with heap := h', toks := t } := by
  obtain ⟨h, t', rfl⟩ := S.same
  refine ⟨⟨_, _, by rw [hc]⟩, fun b o e => k _ _ (S.base b o (hc ▸ e)), ⟨mr', hn, hm⟩, by rw [hc]; exact Nat.le_trans S.lsz hl, fun a => ?_, fun a ao e => ?_, fun a ao e => ?_⟩
  · cases e : H' a with
    | none => exact .inl rfl
    | some ao =>
      right
      rcases hH a ao e with e1 | ⟨e1, e2, _⟩
      · rw [HM.set_ne _ _ (by rintro rfl; rw [S.hl] at e1; cases e1)]
        rcases S.dj a with q | q
        · rw [q] at e1; cases e1
        · exact q
      · obtain ⟨_, q2, q3, _⟩ := S.above e1
        rw [HM.set_ne _ _ q3]; exact q2
  · rcases hH a ao e with e1 | ⟨e1, e2, o, e3, e4⟩
    · obtain ⟨h1, h2, o, h3, h4⟩ := S.hp a ao e1
      exact ⟨by rintro rfl; exact absurd (Heap.lt_size h3) (Nat.not_lt.mpr hl), hc ▸ h2, o, k _ _ h3, h4⟩
    · exact ⟨e2, by rw [hc]; exact (S.above e1).2.2.2, o, e3, e4⟩
  · by_cases ha : a = c.env.locals
    · subst ha; rw [HM.set_same] at e; cases e
      exact ⟨by intro q; rw [q] at hL; exact absurd (Heap.lt_size hL) (Nat.not_lt.mpr hl), by rw [hc]; exact S.l0, oL, k _ _ hL, rfl⟩
    · rw [HM.set_ne _ _ ha] at e
      obtain ⟨h1, h2, o, h3, h4⟩ := S.fp a ao e
      exact ⟨by rintro rfl; exact absurd (Heap.lt_size h3) (Nat.not_lt.mpr hl), hc ▸ h2, o, k _ _ h3, h4⟩

theorem St.home (S : St c m H F s) {c' : FC} (hc : c'.s₀ = c.s₀) {oL : Obj} (hL : s.heap.get? c.env.locals = some oL) {m' : LM} {H' : HM} {s' : Shared} (S' : St c' m' H' (F.set c.env.locals (.raw oL)) s') : St c m H' F s' := by
  obtain ⟨mr, n1, n2⟩ := S.ns
  have hf : s'.heap.get? c.env.locals = some oL := by
    obtain ⟨_, _, o, ho, e⟩ := S'.fp c.env.locals (.raw oL) (HM.set_same ..)
    have e : o = oL := e
    rw [← e]; exact ho
  have hHL : H' c.env.locals = none := by
    rcases S'.dj c.env.locals with q | q
    · exact q
    · rw [HM.set_same] at q; cases q
  refine ⟨hc ▸ S'.same, hc ▸ S'.base, ⟨mr, n1.at' fun o e => ?_, n2⟩, S.lb, fun a => ?_, fun a ao e => ?_, fun a ao e => ?_⟩
  · rw [hL] at e; cases e; exact hf
  · rcases S'.dj a with q | q
    · exact .inl q
    · by_cases ha : a = c.env.locals
      · subst ha; exact .inl hHL
      · rw [HM.set_ne _ _ ha] at q; exact .inr q
  · obtain ⟨h1, h2, o, h3, h4⟩ := S'.hp a ao e
    exact ⟨(fun q => by rw [q, hHL] at e; cases e), hc ▸ h2, o, h3, h4⟩
  · have ha : a ≠ c.env.locals := (S.fp a ao e).1
    obtain ⟨h1, h2, o, h3, h4⟩ := S'.fp a ao (by rw [HM.set_ne _ _ ha]; exact e)
    exact ⟨ha, hc ▸ h2, o, h3, h4⟩

/-! ## functions of the top -/
structure Fn (K : Frag) (f : Addr) (fd : FuncData) (body : List Stmt) : Prop where
  look : ∃ oc od osl, K.lookup f = some ⟨oc, od, .func fd, osl⟩
  body : fd.body = .stmts body
  cd : codeIn K fd.code fd.qualname = true
  clo : fd.closure = []
  co : fd.scope.isCoroutine = false
  gen : fd.scope.isGenerator = false
  kind : fd.scope.kind = .function
  g : fd.globals = mainGlobals
  b : fd.builtins = builtinsNs
  nd : (fd.scope.names.filter fun p => p.2 == .cell).Pairwise fun x y => x.1 ≠ y.1

def FnBinds (K : Frag) (fd : FuncData) (as : List Value) (ks bs : List (Str × Value)) : Prop :=
  ∀ Vs Ks, Vs.map er = as → Ks.map (fun p => (p.1, er p.2)) = ks → ∃ binds, (∀ s : Shared, K.In s.heap → BindsTo s fd ⟨Vs, Ks⟩ binds) ∧ binds.map (fun p => (p.1, er p.2)) = bs

theorem Ok.call (O : Ok c K (n + 1)) {f : Addr} {fd : FuncData} {body : List Stmt} (W : Fn K f fd body) (L : Addr) : Ok (c.call fd L f) K n where
  X := O.X
  g := O.g
  b := O.b
  nl := O.nl
  kind := W.kind
  eg := W.g
  eb := W.b
  hh := O.hh
  dp := by have := O.dp; show c.A.depth + 1 + n < 900; omega
  un := by have := O.un; show c.A.units + 3 + 4 * n < 9000; omega

theorem cells_nd : ∀ (names : List (Str × NameKind)) (n : Nat) (acc : List (Str × Addr)), (names.filter fun p => p.2 == .cell).Pairwise (fun x y => x.1 ≠ y.1) → (∀ p ∈ names.filter (fun p => p.2 == .cell), ∀ q ∈ acc, q.1 ≠ p.1) → acc.Pairwise (fun x y => x.1 ≠ y.1) →
    (cellsFrom n names acc).Pairwise fun x y => x.1 ≠ y.1
  | [], _, _, _, _, h => h
  | (y, k) :: r, n, acc, h1, h2, h3 => by
    unfold cellsFrom
    split
    · rename_i hk
      rw [List.filter_cons, if_pos (by exact hk)] at h1 h2
      obtain ⟨p1, p2⟩ := List.pairwise_cons.mp h1
      refine cells_nd r _ _ p2 ?_ (List.pairwise_cons.mpr ⟨fun q hq => Ne.symm (h2 (y, k) List.mem_cons_self q hq), h3⟩)
      intro p hp q hq
      rcases List.mem_cons.mp hq with rfl | hq
      · exact p1 p hp
      · exact h2 p (List.mem_cons_of_mem _ hp) q hq
    · rename_i hk
      rw [List.filter_cons, if_neg (by exact hk)] at h1 h2
      exact cells_nd r _ _ h1 h2 h3
theorem lookup_of_nd {l : List (Str × Addr)} (h : l.Pairwise fun x y => x.1 ≠ y.1) {p : Str × Addr} (hp : p ∈ l) : l.lookup p.1 = some p.2 := by
  induction l with
  | nil => cases hp
  | cons q r ih =>
    obtain ⟨h1, h2⟩ := List.pairwise_cons.mp h
    rw [List.lookup_cons]
    rcases List.mem_cons.mp hp with rfl | hp
    · simp
    · rw [beq_eq_false_iff_ne.mpr (Ne.symm (h1 p hp))]; exact ih h2 hp

theorem CallJ.fn {f : Addr} {fd : FuncData} {body : List Stmt} {as : List Value} {ks bs : List (Str × Value)} {Q : Value → HM → Prop} (O : Ok c K (n + 1)) (W : Fn K f fd body) (hb : FnBinds K fd as ks bs)
    (hk : ∀ x ∈ bs, fd.scope.names.lookup x.1 = some .local ∨ fd.scope.names.lookup x.1 = some .cell)
    (h : ∀ L, (∀ k, L ≤ k → H k = none) → Ok (c.call fd L f) K n → Exs (c.call fd L f) body (bindLM (c.call fd L f).env.kindOf bs []) (cellsH H (cellsFrom (L + 1) fd.scope.names []) (bindCM (c.call fd L f).env.kindOf bs fun _ => none))
      (fun fl _ H' => ∃ H'', H''.le H' ∧ Q (match fl with | .ret v => v | _ => .none) H'') XF) : CallJ c (.ref f) as ks m H Q X := fun Fv Vs Ks e0 e1 e2 G s St' => by
  obtain rfl := er_ref e0
  obtain ⟨binds, hbt, rfl⟩ := hb Vs Ks e1 e2
  obtain ⟨oc, od, osl, hlook⟩ := W.look
  obtain ⟨oL, hL⟩ := St'.frame
  have XK := O.inK St'
  refine wpAny_call (codeAny_call_function (fd := fd) (by have := O.dp; show c.A.depth < 1000; omega) (XK _ _ hlook) rfl W.co W.gen W.body (codeRec_of XK W.cd) (hbt s XK _ _ _ _ ?_))
  rw [W.clo]
  refine wpAny_newFunctionEnv_cells W.kind (fun x hx => ?_) fun env he s' x => ?_
  · have := hk (x.1, er x.2) (List.mem_map.mpr ⟨x, hx, rfl⟩)
    exact this.imp id fun q => ⟨q, cells_have _ _ _ _ (.inl q)⟩
  · obtain ⟨h', t', es'⟩ := x.toInCall.same
    have kp := x.toInCall.keep
    have eenv : env = (c.call fd s.heap.objs.size f).env := he
    subst eenv
    refine ⟨by rw [es'] at kp ⊢; exact (O.nl.keeps St'.base).keeps kp, codeAny_func ?_⟩
    have S1 : St (c.call fd s.heap.objs.size f) (bindLM (c.call fd s.heap.objs.size f).env.kindOf (binds.map fun p => (p.1, er p.2)) [])
        (cellsH H (cellsFrom (s.heap.objs.size + 1) fd.scope.names []) (bindCM (c.call fd s.heap.objs.size f).env.kindOf (binds.map fun p => (p.1, er p.2)) fun _ => none)) (G.set c.env.locals (.raw oL)) s' := by
      have cx := x
      subst es'
      refine St'.other (c' := c.call fd s.heap.objs.size f) rfl hL kp (Nat.le_refl _) x.toInCall.ns (bind_rel _ _ _ _ fun y u hy => by cases hy) fun a ao e => ?_
      rcases cellsH_some e with ⟨p, hp, rfl, rfl⟩ | ⟨_, e⟩
      · right
        have hlk := lookup_of_nd (cells_nd fd.scope.names (s.heap.objs.size + 1) [] W.nd (fun _ _ _ hq => nomatch hq) List.Pairwise.nil) hp
        obtain ⟨o, ho, hd⟩ := x.cell p.1 p.2 hlk
        have hab := x.above p.1 p.2 hp
        refine ⟨Nat.le_of_lt hab, Nat.ne_of_gt hab, o, ho, _, hd, ?_⟩
        exact (bind_cells _ _ _ _ (fun _ => rfl) p.1).symm
      · exact .inl e
    refine wpAny_mono (h _ (fun k hk => (St'.above hk).1) (O.call W _) _ _ S1) (fun fl s'' ⟨m', H', S', H'', hle, hq⟩ => ?_) fun _ _ z => z.elim
    refine ⟨H'', (St'.home (c' := c.call fd s.heap.objs.size f) rfl hL S').weak hle, ?_⟩
    cases fl <;> exact hq
end
end Mine
end

section
open PySem PySem.W PySem.Calls PyProof.Rows
set_option linter.all false
set_option maxRecDepth 100000
namespace Mine

/-! ## objects set aside -/
def HM.del (H : HM) (a : Addr) : HM := fun b => if b = a then none else H b
theorem HM.del_same (H : HM) (a : Addr) : H.del a a = none := by simp [HM.del]
theorem HM.del_ne (H : HM) {a b : Addr} (h : b ≠ a) : H.del a b = H b := by simp [HM.del, h]
theorem HM.del_le (H : HM) (a : Addr) : (H.del a).le H := fun b o e => by
  unfold HM.del at e; split at e
  · cases e
  · exact e
theorem HM.del_set (H : HM) {a : Addr} {o : AO} (h : H a = some o) : (H.del a).set a o = H := by
  funext b; simp only [HM.set, HM.del]; split
  · rename_i e; rw [e, h]
  · rfl
theorem HM.set_del (H : HM) {a : Addr} (o : AO) (h : H a = none) : (H.set a o).del a = H := by
  funext b; simp only [HM.set, HM.del]; split
  · rename_i e; rw [e, h]
  · rfl
def HM.frz (F : HM) (wr : List Addr) (h : Heap) : HM := fun a => if a ∈ wr then (h.get? a).map .raw else F a

section
variable {c : FC} {K : Frag} {n : Nat} {m : LM} {H F : HM} {X : XM} {s : Shared}

theorem St.weakF (S : St c m H F s) {F' : HM} (h : F'.le F) : St c m H F' s :=
  ⟨S.same, S.base, S.ns, S.lb, fun a => (S.dj a).imp id (fun e => by
    cases q : F' a with
    | none => rfl
    | some o => rw [h a o q] at e; cases e), S.hp, fun a o e => S.fp a o (h a o e)⟩
theorem St.toF (S : St c m H F s) {a : Addr} {ao : AO} {o : Obj} (ha : H a = some ao) (ho : s.heap.get? a = some o) : St c m (H.del a) (F.set a (.raw o)) s := by
  obtain ⟨h1, h2, _⟩ := S.hp a ao ha
  refine ⟨S.same, S.base, S.ns, S.lb, fun b => ?_, fun b bo e => S.hp b bo (HM.del_le H a b bo e), fun b bo e => ?_⟩
  · by_cases hb : b = a
    · subst hb; exact .inl (HM.del_same ..)
    · rw [HM.del_ne _ hb, HM.set_ne _ _ hb]; exact S.dj b
  · by_cases hb : b = a
    · subst hb; rw [HM.set_same] at e; cases e; exact ⟨h1, h2, o, ho, rfl⟩
    · rw [HM.set_ne _ _ hb] at e; exact S.fp b bo e
theorem St.fromF (S : St c m H F s) {a : Addr} {ao : AO} {o : Obj} {F0 : HM} (h0 : F0.le F) (ha : F a = some (.raw o)) (hi : ao.Is o) (hn : F0 a = none) : St c m (H.set a ao) F0 s := by
  obtain ⟨h1, h2, o', ho, e⟩ := S.fp a _ ha
  have e : o' = o := e
  subst e
  have S' := S.weakF h0
  refine ⟨S'.same, S'.base, S'.ns, S'.lb, fun b => ?_, fun b bo e => ?_, S'.fp⟩
  · by_cases hb : b = a
    · subst hb; exact .inr hn
    · rw [HM.set_ne _ _ hb]; exact S'.dj b
  · by_cases hb : b = a
    · subst hb; rw [HM.set_same] at e; cases e; exact ⟨h1, h2, o', ho, hi⟩
    · rw [HM.set_ne _ _ hb] at e; exact S'.hp b bo e
theorem St.frz (S : St c m H F s) {wr : List Addr} (hw : ∀ b ∈ wr, H b = none ∧ b ≠ c.env.locals ∧ c.s₀.heap.get? b = none) : St c m H (F.frz wr s.heap) s := by
  refine ⟨S.same, S.base, S.ns, S.lb, fun b => ?_, S.hp, fun b bo e => ?_⟩
  · by_cases hb : b ∈ wr
    · exact .inl (hw b hb).1
    · simp only [HM.frz, if_neg hb]; exact S.dj b
  · by_cases hb : b ∈ wr
    · simp only [HM.frz, if_pos hb] at e
      obtain ⟨o, ho, rfl⟩ := Option.map_eq_some_iff.mp e
      exact ⟨(hw b hb).2.1, (hw b hb).2.2, o, ho, rfl⟩
    · simp only [HM.frz, if_neg hb] at e; exact S.fp b bo e
theorem HM.frz_le {F : HM} {wr : List Addr} {h : Heap} (hF : ∀ b ∈ wr, F b = none) : F.le (F.frz wr h) := fun a o e => by
  unfold HM.frz
  by_cases hb : a ∈ wr
  · rw [hF a hb] at e; cases e
  · rw [if_neg hb]; exact e
theorem St.keepsBut (S : St c m H F s) {wr : List Addr} (hw : ∀ b ∈ wr, H b = none ∧ F b = none ∧ b ≠ c.env.locals ∧ c.s₀.heap.get? b = none) {h' : Heap} {t : Nat} (k : ∀ b o, b ∉ wr → s.heap.get? b = some o → h'.get? b = some o) :
    St c m H F { s with heap := h', toks := t } := by
  obtain ⟨h, t', rfl⟩ := S.same
  obtain ⟨mr, n1, n2⟩ := S.ns
  have hL : c.env.locals ∉ wr := fun q => (hw _ q).2.2.1 rfl
  refine ⟨⟨_, _, rfl⟩, fun b o e => k b o (fun q => by rw [(hw b q).2.2.2] at e; cases e) (S.base b o e), ⟨mr, n1.at' fun o e => k _ o hL e, n2⟩, S.lb, S.dj, fun a ao e => ?_, fun a ao e => ?_⟩
  · obtain ⟨h1, h2, o, h3, h4⟩ := S.hp a ao e
    exact ⟨h1, h2, o, k a o (fun q => by rw [(hw a q).1] at e; cases e) h3, h4⟩
  · obtain ⟨h1, h2, o, h3, h4⟩ := S.fp a ao e
    exact ⟨h1, h2, o, k a o (fun q => by rw [(hw a q).2.1] at e; cases e) h3, h4⟩
end

/-! ## what a loop walks over -/
def Got (tup : Bool) (i : Nat) (x : Value) (h h' : Heap) (V : Value) : Prop :=
  match tup with
  | false => er V = x
  | true => ∃ T o, V = .ref T ∧ h.objs.size ≤ T ∧ h'.get? T = some o ∧ (AO.tup [VI i, x]).Is o
structure Walk (prog : Program) (w : World) (A : Around) (tgt : Expr) (I : Addr) (fp wr : List Addr) (xs : List Value) (tup : Bool) (T : Nat → Heap → Prop) : Prop where
  frame : ∀ i h h', T i h → (∀ b, b ∈ fp ∨ b ∈ wr → ∀ o, h.get? b = some o → h'.get? b = some o) → T i h'
  obj : ∀ i h, T i h → ∀ b ∈ wr, ∃ o, h.get? b = some o
  item : ∀ i x (s : Shared) (Q : Value → Shared → Prop) (E : Value → Shared → Prop), xs[i]? = some x → T i s.heap →
    (∀ V h' tk, (∀ b o, b ∉ wr → s.heap.get? b = some o → h'.get? b = some o) → T (i + 1) h' → Got tup i x s.heap h' V → Q V { s with heap := h', toks := tk }) →
    wpAny (model prog w) A (pyNext (.ref I)) (fun r s1 => ∃ V, r = some V ∧ wpAny (model prog w) A (letOwnedTupleGo tgt (.ref I) V) (fun _ s2 => Q V s2) E s1) E s
  done : ∀ (s : Shared) (Q : Shared → Prop) (E : Value → Shared → Prop), T xs.length s.heap →
    (∀ h' tk, (∀ b o, b ∉ wr → s.heap.get? b = some o → h'.get? b = some o) → Q { s with heap := h', toks := tk }) → wpAny (model prog w) A (pyNext (.ref I)) (fun r s1 => r = none ∧ Q s1) E s
  self : ∀ i (s : Shared) (Q : Value → Shared → Prop) (E : Value → Shared → Prop), T i s.heap → Q (.ref I) s → wpAny (model prog w) A (pyIter (.ref I)) Q E s

theorem Walk.of {prog : Program} {w : World} {A : Around} {tgt : Expr} {I : Addr} {fp wr : List Addr} {xs : List Value} {n : Nat} {P : Nat → Value → Prop} {T : Nat → Heap → Prop} (W : Walks prog w A I fp wr n P T)
    (hn : n = xs.length) (hv : ∀ i V x, P i V → xs[i]? = some x → er V = x) (ho : ∀ i h, T i h → ∀ b ∈ wr, ∃ o, h.get? b = some o)
    (hgo : ∀ i V (s : Shared) (Q : Unit → Shared → Prop) (E : Value → Shared → Prop), T i s.heap → Q () s → wpAny (model prog w) A (letOwnedTupleGo tgt (.ref I) V) Q E s) : Walk prog w A tgt I fp wr xs false T where
  frame := fun i h h' t k => W.frame i h h' t fun b hb o e => k b (.inl hb) o e
  obj := ho
  item := fun i x s Q E hx t hQ => W.item i s _ E (by rw [hn]; exact (List.getElem?_eq_some_iff.mp hx).1) t fun V h' tk hP t' k => ⟨V, rfl, hgo (i + 1) V _ _ E t' (hQ V h' tk k t' (hv i V x hP hx))⟩
  done := fun s Q E t hQ => W.done s _ E (by rw [hn]; exact t) fun h' tk k => ⟨rfl, hQ h' tk k⟩
  self := W.self

def RangeO (o : Obj) (lo hi : Int) : Prop := ∃ t u v, o = { cls := .type "range", dict := none, data := .fields #[.int lo t, .int hi u, .int 1 v], slots := #[] }
def EnumO (o : Obj) (it : Addr) : Prop := o = { cls := .type "enumerate", dict := none, data := .fields #[.none, .bool false, .ref it, rawInt 0, .none, .none], slots := #[] }
def ListItO (o : Obj) (l : Addr) : Prop := o.cls = .type "list_iterator" ∧ o.data = .fields #[.ref l, .int (0 : Nat) 0]
def isName : Expr → Bool
  | .Name .. => true
  | _ => false

def isTupT : Expr → Bool
  | .Tuple .. => true
  | _ => false
inductive Src (H : HM) (tgt : Expr) : Value → List Value → Bool → HM → (HM → HM) → Prop
  | list {a vs} (h : H a = some (.list vs)) (hl : vs.length ≤ 16000000) : Src H tgt (.ref a) vs false (H.del a) fun H' => H'.set a (.list vs)
  | str (l : List Nat) (hl : l.length ≤ 16000000) (ht : isName tgt = true := by rfl) : Src H tgt (VT l) (l.map fun x => VT [x]) false H id
  | range {a o} {lo hi : Int} (h : H a = some (.raw o)) (ho : RangeO o lo hi) (h1 : lo.natAbs < 2 ^ 32) (h2 : hi.natAbs < 2 ^ 32) (h3 : hi - lo ≤ 16000000) (ht : isName tgt = true := by rfl) : Src H tgt (.ref a) ((List.range (hi - lo).toNat).map fun (k : Nat) => VI (lo + k)) false H id
  | enum {e it l oe oi vs} (he : H e = some (.raw oe)) (hi : H it = some (.raw oi)) (ho : EnumO oe it) (hj : ListItO oi l) (hl : H l = some (.list vs)) (hn : vs.length ≤ 16000000) (ht : isTupT tgt = true := by rfl) : Src H tgt (.ref e) vs true (((H.del e).del it).del l) fun H' => H'.set l (.list vs)

/-- a walk begun -/
structure Start (c : FC) (m : LM) (H0 H1 F1 F : HM) (back : HM → HM) (tgt : Expr) (xs : List Value) (tup : Bool) (I : Addr) (fp wr : List Addr) (T : Nat → Heap → Prop) (s1 : Shared) : Prop where
  walk : ∀ A' : Around, A'.handled = none → Walk c.prog c.w A' tgt I fp wr xs tup T
  st : St c m H1 F1 s1
  t0 : T 0 s1.heap
  fpF : ∀ b ∈ fp, b ∉ wr → ∃ o, F1 b = some (.raw o)
  wrH : ∀ b ∈ wr, H1 b = none ∧ F1 b = none ∧ b ≠ c.env.locals ∧ c.s₀.heap.get? b = none
  len : xs.length ≤ 16000000
  hi : ∀ a, s1.heap.objs.size ≤ a → H0 a = none
  back : ∀ (c' : FC) (m' : LM) (H' : HM) (s' : Shared), St c' m' H' F1 s' → St c' m' (back H') F s'
  gone : ∀ b, H0 b ≠ none → H1 b = none → b ∈ wr ∨ F1 b ≠ none

theorem size_range (lo hi : Int) : Builtin.Range.rangeSize lo hi 1 = (((hi - lo).toNat : Nat) : Int) := by
  unfold Builtin.Range.rangeSize
  simp only [show (1 : Int) > 0 from by decide, if_true]
  split <;> omega

section
variable {c : FC} {K : Frag} {n : Nat} {m : LM} {H F : HM} {X : XM} {s : Shared}

theorem Src.start {v : Value} {xs : List Value} {tup : Bool} {Hd : HM} {back : HM → HM} {tgt : Expr} (h : Src H tgt v xs tup Hd back) (hh : c.A.handled = none)
    {V : Value} (ev : er V = v) (St' : St c m H F s) {Q : Value → Shared → Prop} {E : Value → Shared → Prop} (hQ : ∀ I fp wr F1 T s1, Start c m H Hd F1 F back tgt xs tup I fp wr T s1 → Q (.ref I) s1) :
    wpAny (model c.prog c.w) c.A (pyIter V) Q E s := by
  have name_go : ∀ {A' : Around}, isName tgt = true → ∀ I V (s : Shared) (Q : Unit → Shared → Prop) (E : Value → Shared → Prop), Q () s → wpAny (model c.prog c.w) A' (letOwnedTupleGo tgt (.ref I) V) Q E s := by
    intro A' h1 I V s Q E hq
    clear h hQ
    cases tgt <;> first | (cases h1; done) | exact wpAny_pure hq
  cases h with
  | @list a vs hv hl =>
    obtain rfl := er_ref ev
    obtain ⟨ws, n, rfl, hg⟩ := St'.list hv
    rw [List.length_map] at hl
    refine wpAny_pyIter_list (isList_of hg) (hQ _ [s.heap.objs.size, a] [s.heap.objs.size] (F.set a (.raw { cls := .type "list", data := .seq ws.toArray n })) (fun i h => h.IsListIter s.heap.objs.size a i ∧ h.IsList a ws.toArray) _ ?_)
    obtain ⟨f1, f2, f3, f4⟩ := St'.fresh
    have hlt := Heap.lt_size hg
    have hne : a ≠ s.heap.objs.size := Nat.ne_of_lt hlt
    refine ⟨fun A' hA => Walk.of (Walks.list hA s.heap.objs.size a hne ws.toArray) (by simp) (fun i V x hP hx => ?_) (fun i h t b hb => ?_) (fun i V s' Q E t q => letGo_listiter t.1 q), (St'.toF hv hg).keeps' fun b o e => Heap.get?_push_of_some _ e,
      ⟨⟨_, Heap.get?_push_size _ rfl, rfl, rfl⟩, isList_of (Heap.get?_push_of_some _ hg)⟩, fun b hb hw => ?_, fun b hb => ?_, by rw [List.length_map]; omega, fun b hb => (St'.above (Nat.le_trans (by rw [Heap.size_push]; exact Nat.le_succ _) hb)).1, fun c' m' H' s' S' => ?_, fun b q1 q2 => .inr ?_⟩
    · rw [List.getElem?_map] at hx
      have hP : ws.toArray[i]? = some V := hP
      rw [List.getElem?_toArray] at hP
      rw [hP] at hx; exact Option.some.inj hx
    · obtain rfl := List.mem_singleton.mp hb
      obtain ⟨o, ho, _⟩ := t.1; exact ⟨o, ho⟩
    · rcases List.mem_cons.mp hb with rfl | hb
      · exact absurd (List.mem_singleton.mpr rfl) hw
      · obtain rfl := List.mem_singleton.mp hb
        exact ⟨_, HM.set_same ..⟩
    · obtain rfl := List.mem_singleton.mp hb
      exact ⟨by rw [HM.del_ne _ hne.symm]; exact f1, by rw [HM.set_ne _ _ hne.symm]; exact f2, f3, f4⟩
    · have hFa : F a = none := by
        rcases St'.dj a with q | q
        · rw [q] at hv; cases hv
        · exact q
      refine St.fromF S' (HM.le_set _ hFa) (HM.set_same ..) ⟨ws, n, rfl, rfl⟩ hFa
    · by_cases q : b = a
      · subst q; rw [HM.set_same]; simp
      · rw [HM.del_ne _ q] at q2; exact absurd q2 q1
  | str l hl hname =>
    obtain ⟨t, rfl⟩ := er_str ev
    obtain ⟨f1, f2, f3, f4⟩ := St'.fresh
    have val : ∀ i V x, SignAt (S l) i V → (l.map fun x => VT [x])[i]? = some x → er V = x := fun i V x ⟨cp, u, h1, h2⟩ hx => by
      subst h2
      rw [List.getElem?_map] at hx
      have h1 : l[i]? = some cp := by simpa [S] using h1
      rw [h1] at hx; exact Option.some.inj hx
    have fin : ∀ (ty : String), (∀ A' : Around, A'.handled = none → Walks c.prog c.w A' s.heap.objs.size [s.heap.objs.size] [s.heap.objs.size] (S l).cps.size (SignAt (S l)) (fun i h => h.IsStrIter s.heap.objs.size ty (S l) t i)) →
        Start c m H H F F id tgt (l.map fun x => VT [x]) false s.heap.objs.size [s.heap.objs.size] [s.heap.objs.size] (fun i h => h.IsStrIter s.heap.objs.size ty (S l) t i) { s with heap := s.heap.push { cls := .type ty, data := .fields #[.str (S l) t, .int 0 0] } } := by
      intro ty W
      refine ⟨fun A' hA => Walk.of (W A' hA) (by simp [S]) val (fun i h tt b hb => ?_) (fun i V s' Q E _ q => name_go hname _ _ _ _ _ q), St'.keeps' fun b o e => Heap.get?_push_of_some _ e, ⟨_, Heap.get?_push_size _ rfl, rfl, rfl⟩, fun b hb hw => absurd hb hw, fun b hb => ?_, ?_, fun b hb => (St'.above (Nat.le_trans (by rw [Heap.size_push]; exact Nat.le_succ _) hb)).1, fun c' m' H' s' S' => S', fun b q1 q2 => absurd q2 q1⟩
      · obtain rfl := List.mem_singleton.mp hb
        obtain ⟨o, ho, _⟩ := tt; exact ⟨o, ho⟩
      · obtain rfl := List.mem_singleton.mp hb
        exact ⟨f1, f2, f3, f4⟩
      · rw [List.length_map]; exact hl
    cases ha : (S l).cps.all (· < 128)
    · exact wpAny_pyIter_wide ha (hQ _ _ _ F _ _ (fin "str_iterator" fun A' hA => Walks.strWide hA _ _ t))
    · exact wpAny_pyIter_ascii ha (hQ _ _ _ F _ _ (fin "str_ascii_iterator" fun A' hA => Walks.strAscii hA _ _ t))
  | @range a o lo hi hv ho h1 h2 h3 hname =>
    obtain rfl := er_ref ev
    obtain ⟨f1, f2, f3, f4⟩ := St'.fresh
    obtain ⟨t, u, v, rfl⟩ := ho
    obtain ⟨_, _, o', ho', e'⟩ := St'.hp _ _ hv
    have e' : o' = _ := e'
    subst e'
    refine wpAny_pyIter_range (a := lo) (b := hi) (c := 1) ho' ?_ (hQ _ [s.heap.objs.size] [s.heap.objs.size] F (fun i h => IsRangeIter h s.heap.objs.size (lo + (i : Nat) * 1) (((hi - lo).toNat : Nat) - (i : Nat) : Int) 1) _ ?_)
    · unfold Builtin.Range.small Builtin.Range.rangeFitsLong
      rw [size_range]
      simp only [Bool.and_eq_true, Bool.or_eq_true, decide_eq_true_eq, beq_iff_eq, show (1 : Int) > 0 from by decide, if_true]
      omega
    · refine ⟨fun A' hA => Walk.of (LCg.range_walks hA lo (hi - lo).toNat) (by simp) (fun i V x hP hx => ?_) (fun i h tt b hb => ?_) (fun i V s' Q E _ q => name_go hname _ _ _ _ _ q), St'.keeps' fun b o e => Heap.get?_push_of_some _ e, ?_, fun b hb hw => absurd hb hw, fun b hb => ?_, ?_, fun b hb => (St'.above (Nat.le_trans (by rw [Heap.size_push]; exact Nat.le_succ _) hb)).1, fun c' m' H' s' S' => S', fun b q1 q2 => absurd q2 q1⟩
      · obtain ⟨t', rfl⟩ := hP
        rw [List.getElem?_map, Option.map_eq_some_iff] at hx
        obtain ⟨k, hk, rfl⟩ := hx
        have := List.getElem?_eq_some_iff.mp hk
        obtain ⟨_, e⟩ := this
        rw [List.getElem_range] at e
        subst e; rfl
      · obtain rfl := List.mem_singleton.mp hb
        exact ⟨_, tt⟩
      · have e0 : lo + ((0 : Nat) : Int) * 1 = lo := by omega
        have e1 : (((hi - lo).toNat : Nat) : Int) - ((0 : Nat) : Int) = Builtin.Range.rangeSize lo hi 1 := by rw [size_range]; omega
        show IsRangeIter _ _ (lo + ((0 : Nat) : Int) * 1) ((((hi - lo).toNat : Nat) : Int) - ((0 : Nat) : Int)) 1
        rw [e0, e1]
        exact Heap.get?_push_size s.heap (o := { cls := .type "range_iterator", data := .fields #[rawInt lo, rawInt (Builtin.Range.rangeSize lo hi 1), rawInt 1] }) rfl
      · obtain rfl := List.mem_singleton.mp hb
        exact ⟨f1, f2, f3, f4⟩
      · rw [List.length_map, List.length_range]; omega
  | @enum e it l oe oi vs he hi ho hj hl hn htup =>
    obtain rfl := er_ref ev
    obtain ⟨elts, k, p, rfl⟩ : ∃ elts k p, tgt = .Tuple elts k p := by
      cases tgt <;> first | (cases htup; done) | exact ⟨_, _, _, rfl⟩
    obtain ⟨ws, n, rfl, hg⟩ := St'.list hl
    rw [List.length_map] at hn
    obtain ⟨e1, e2, oe', hge, ee⟩ := St'.hp _ _ he
    have ee : oe' = oe := ee
    subst ee
    obtain ⟨i1, i2, oi', hgi, ei⟩ := St'.hp _ _ hi
    have ei : oi' = oi := ei
    subst ei
    have hEn : IsEnum s.heap e it 0 .none := by unfold EnumO at ho; subst ho; exact hge
    have hIt : s.heap.IsListIter it l 0 := ⟨_, hgi, hj.1, hj.2⟩
    have hei : e ≠ it := by
      rintro rfl; rw [hge] at hgi; cases hgi
      unfold EnumO at ho; subst ho
      exact absurd (Value.type.inj hj.1) (by decide)
    have hle : l ≠ e := by
      rintro rfl; rw [hge] at hg
      unfold EnumO at ho; subst ho
      exact absurd (Value.type.inj (congrArg Obj.cls (Option.some.inj hg))) (by decide)
    have hli : l ≠ it := by
      rintro rfl; rw [hgi] at hg
      have := hj.1
      rw [Option.some.inj hg] at this
      exact absurd (Value.type.inj this) (by decide)
    have hFe : ∀ {a ao}, H a = some ao → F a = none := fun {a ao} q => by
      rcases St'.dj a with q' | q'
      · rw [q'] at q; cases q
      · exact q'
    have hl' : ((H.del e).del it) l = some (.list (ws.map er)) := by rw [HM.del_ne _ hli, HM.del_ne _ hle]; exact hl
    refine wpAny_pyIter_enum hEn (hQ _ [e, it, l] [e, it] (F.set l (.raw { cls := .type "list", data := .seq ws.toArray n })) (fun i h => (∃ old, IsEnum h e it i old) ∧ h.IsListIter it l i ∧ h.IsList l ws.toArray) _ ?_)
    refine ⟨fun A' hA => ?_, (St'.weak (H' := (H.del e).del it) fun a o q => HM.del_le _ _ _ _ (HM.del_le _ _ _ _ q)).toF hl' hg, ⟨⟨_, hEn⟩, hIt, isList_of hg⟩, fun b hb hw => ?_, fun b hb => ?_, by rw [List.length_map]; exact hn, fun b hb => (St'.above hb).1, fun c' m' H' s' S' => ?_, fun b q1 q2 => ?_⟩
    · have W := WalksT.enumerate (prog := c.prog) (w := c.w) hA e it l hei hle hli ws.toArray
      refine ⟨fun i h h' t k => W.frame i h h' t fun b hb o e => ?_, fun i h t b hb => ?_, fun i x s Q E hx t hQ => ?_, fun s Q E t hQ => ?_, W.self⟩
      · exact k b (.inl hb) o e
      · rcases List.mem_cons.mp hb with rfl | hb
        · obtain ⟨⟨_, q⟩, _⟩ := t; exact ⟨_, q⟩
        · obtain rfl := List.mem_singleton.mp hb
          obtain ⟨_, ⟨o, q, _⟩, _⟩ := t; exact ⟨o, q⟩
      · rw [List.getElem?_map, Option.map_eq_some_iff] at hx
        obtain ⟨x', hx', rfl⟩ := hx
        refine W.item i s _ E (by rw [List.size_toArray]; exact (List.getElem?_eq_some_iff.mp hx').1) t fun T vals h' tk hP hT hTup mid k1 => ⟨_, rfl, W.go _ _ _ _ _ _ _ E mid fun h'' t' k2 => hQ _ h'' tk (fun b o hb q => k2 b o hb (k1 b o hb q)) t' ?_⟩
        obtain ⟨o, q1, q2, n', q3⟩ := hTup
        obtain ⟨t1, x1, hx1, rfl⟩ := hP
        rw [List.getElem?_toArray, hx'] at hx1
        cases hx1
        exact ⟨T, o, rfl, hT, k2 T o (W.apart i T h' mid) q1, [.int i t1, x'], n', ⟨q2, q3⟩, rfl⟩
      · exact W.done s _ E (by rw [List.length_map] at t; rw [List.size_toArray]; exact t) fun h' tk k => ⟨rfl, hQ h' tk k⟩
    · rcases List.mem_cons.mp hb with rfl | hb
      · exact absurd (List.mem_cons_self ..) hw
      · rcases List.mem_cons.mp hb with rfl | hb
        · exact absurd (List.mem_cons_of_mem _ (List.mem_singleton.mpr rfl)) hw
        · obtain rfl := List.mem_singleton.mp hb
          exact ⟨_, HM.set_same ..⟩
    · rcases List.mem_cons.mp hb with rfl | hb
      · exact ⟨by rw [HM.del_ne _ hle.symm, HM.del_ne _ hei, HM.del_same], by rw [HM.set_ne _ _ hle.symm]; exact hFe he, e1, e2⟩
      · obtain rfl := List.mem_singleton.mp hb
        exact ⟨by rw [HM.del_ne _ hli.symm, HM.del_same], by rw [HM.set_ne _ _ hli.symm]; exact hFe hi, i1, i2⟩
    · exact St.fromF S' (HM.le_set _ (hFe hl)) (HM.set_same ..) ⟨ws, n, rfl, rfl⟩ (hFe hl)
    · by_cases z1 : b = e
      · exact .inl (by simp [z1])
      · by_cases z2 : b = it
        · exact .inl (by simp [z2])
        · by_cases z3 : b = l
          · exact .inr (by subst z3; rw [HM.set_same]; simp)
          · rw [HM.del_ne _ z3, HM.del_ne _ z2, HM.del_ne _ z1] at q2; exact absurd q2 q1
end
end Mine
end

section
open PySem PySem.W PySem.Calls PyProof.Rows
set_option linter.all false
set_option maxRecDepth 100000
namespace Mine

def Yld (tup : Bool) (k : Nat) (x : Value) (H : HM) (Q : Value → HM → Prop) : Prop :=
  match tup with
  | false => Q x H
  | true => ∀ a, H a = none → Q (.ref a) (H.set a (.tup [VI k, x]))

section
variable {c : FC} {K : Frag} {n : Nat} {m : LM} {H F F1 : HM} {X : XM} {s : Shared}

/-- one turn's item, with what is set aside -/
theorem Walk.turn {A' : Around} {tgt : Expr} {I : Addr} {fp wr : List Addr} {xs : List Value} {tup : Bool} {T : Nat → Heap → Prop} (W : Walk c.prog c.w A' tgt I fp wr xs tup T)
    (hw : ∀ b ∈ wr, F1 b = none ∧ b ≠ c.env.locals ∧ c.s₀.heap.get? b = none) {k : Nat} {x : Value} (hx : xs[k]? = some x) (S : St c m H F1 s) (hH : ∀ b ∈ wr, H b = none) (t : T k s.heap) {E : Value → Shared → Prop} {Q : Value → HM → Prop} (y : Yld tup k x H Q) {P : Value → Shared → Prop}
    (hP : ∀ V H' s', St c m H' F1 s' → (∀ b ∈ wr, H' b = none) → T (k + 1) s'.heap → Q (er V) H' → P V s') :
    wpAny (model c.prog c.w) A' (pyNext (.ref I)) (fun r s1 => ∃ V, r = some V ∧ wpAny (model c.prog c.w) A' (letOwnedTupleGo tgt (.ref I) V) (fun _ s2 => P V s2) E s1) E s := by
  have hk : ∀ b ∈ wr, H b = none ∧ F1 b = none ∧ b ≠ c.env.locals ∧ c.s₀.heap.get? b = none := fun b hb => ⟨hH b hb, hw b hb⟩
  refine W.item k x s P E hx t fun V h' tk kp t' g => ?_
  have S' := S.keepsBut (t := tk) hk kp
  cases tup with
  | false =>
    have g : er V = x := g
    exact hP V H _ S' hH t' (by rw [g]; exact y)
  | true =>
    obtain ⟨a, o, rfl, ha, ho, hi⟩ := g
    obtain ⟨f1, f2, f3, f4⟩ := S.above ha
    have haw : a ∉ wr := fun q => by
      obtain ⟨o', ho'⟩ := W.obj k _ t a q
      exact absurd (Heap.lt_size ho') (Nat.not_lt.mpr ha)
    refine hP _ (H.set a (.tup [VI k, x])) _ (St.backNew (mr' := fun _ => none) (news := []) S S' f1 f2 f3 f4 ho hi) (fun b hb => ?_) t' (y a f1)
    rw [HM.set_ne _ _ (fun (e : b = a) => haw (by rw [← e]; exact hb))]; exact hH b hb

theorem Walk.body {A' : Around} {tgt : Expr} {I : Addr} {fp wr : List Addr} {xs : List Value} {tup : Bool} {T : Nat → Heap → Prop} (W : Walk c.prog c.w A' tgt I fp wr xs tup T)
    (hw : ∀ b ∈ wr, F1 b = none ∧ b ≠ c.env.locals ∧ c.s₀.heap.get? b = none) (hfp : ∀ b ∈ fp, b ∉ wr → ∃ o, F1 b = some (.raw o)) {k : Nat} (S : St c m H F1 s) (hH : ∀ b ∈ wr, H b = none) (t : T k s.heap)
    {c' : FC} {m' : LM} {H' : HM} {s' : Shared} (S' : St c' m' H' (F1.frz wr s.heap) s') : St c' m' H' F1 s' ∧ (∀ b ∈ wr, H' b = none) ∧ T k s'.heap := by
  refine ⟨S'.weakF (HM.frz_le fun b hb => (hw b hb).1), fun b hb => ?_, W.frame k _ _ t fun b hb o e => ?_⟩
  · obtain ⟨o, ho⟩ := W.obj k _ t b hb
    rcases S'.dj b with q | q
    · exact q
    · simp only [HM.frz, if_pos hb, ho] at q; cases q
  · have : ∃ o', (F1.frz wr s.heap) b = some (.raw o') ∧ o' = o := by
      by_cases q : b ∈ wr
      · exact ⟨o, by simp only [HM.frz, if_pos q, e, Option.map_some], rfl⟩
      · rcases hb with hb | hb
        · obtain ⟨o', ho'⟩ := hfp b hb q
          obtain ⟨_, _, o2, h2, e2⟩ := S.fp b _ ho'
          have e2 : o2 = o' := e2
          rw [e] at h2; cases h2
          exact ⟨o', by simp only [HM.frz, if_neg q]; exact ho', e2.symm⟩
        · exact absurd hb q
    obtain ⟨o', h1, rfl⟩ := this
    obtain ⟨_, _, o2, h2, e2⟩ := S'.fp b _ h1
    have e2 : o2 = o' := e2
    rw [← e2]; exact h2

theorem HM.le.none {H H' : HM} (h : H.le H') {b : Addr} (e : H' b = none) : H b = none := by
  cases q : H b with
  | none => rfl
  | some o => have := h b o q; rw [e] at this; cases this
def Keep (Inv : LM → HM → Prop) (m : LM) (H : HM) : Prop := ∃ m' H', LM.le m' m ∧ H'.le H ∧ Inv m' H'
theorem Keep.here {Inv : LM → HM → Prop} (h : Inv m H) : Keep Inv m H := ⟨m, H, LM.le_refl m, HM.le.refl H, h⟩

/-- for -/
theorem Ex.forN {tgt iter body p} {Q : Flow → LM → HM → Prop} (hh : c.A.handled = none)
    (h : Ev c iter m H (fun v H1 => ∃ xs tup Hd back, Src H1 tgt v xs tup Hd back ∧ ∃ Inv : Nat → LM → HM → Prop, Keep (Inv 0) m Hd ∧
      (∀ k x m' H', xs[k]? = some x → (∀ b, H1 b ≠ none → Hd b = none → H' b = none) → Inv k m' H' → Yld tup k x H' (fun v' H2 => Tgt c tgt v' m' H2 (fun m3 H3 => Exs c body m3 H3 (fun f m4 H4 => match f with
        | .next | .cont => Keep (Inv (k + 1)) m4 H4
        | .brk => Q .next m4 (back H4)
        | .ret v => Q (.ret v) m4 (back H4)) XF) XF)) ∧
      (∀ m' H', (∀ b, H1 b ≠ none → Hd b = none → H' b = none) → Inv xs.length m' H' → Q .next m' (back H'))) X)
    (hs : ∀ x, foldedSetIterable iter c.env x = pure x) : Ex c (.For tgt iter body [] p) m H Q X := fun G s St' => by
  refine wpAny_For (wpAny_mono (h G s St') (fun V s1 ⟨H1, S1, xs, tup, Hd, back, src, Inv, i0, step, fin⟩ => ?_) fun _ _ e => e) hs
  refine src.start hh rfl S1 fun I fp wr F1 T s2 st => ?_
  have W := st.walk c.A hh
  have hw : ∀ b ∈ wr, F1 b = none ∧ b ≠ c.env.locals ∧ c.s₀.heap.get? b = none := fun b hb => (st.wrH b hb).2
  refine codeAny_forLoop_any (fun r s' => ∃ k m' H', r = xs.length - k ∧ k ≤ xs.length ∧ St c m' H' F1 s' ∧ (∀ b ∈ wr, H' b = none) ∧ T k s'.heap ∧ Inv k m' H') ?_ xs.length ?_
  · rintro r s' ⟨k, m', H', rfl, hk, S, hH, t, iv⟩
    have gn : ∀ b, H1 b ≠ none → Hd b = none → H' b = none := fun b q1 q2 => by
      rcases st.gone b q1 q2 with q | q
      · exact hH b q
      · exact (S.dj b).resolve_right q
    by_cases hlt : k < xs.length
    · have hx : xs[k]? = some xs[k] := List.getElem?_eq_getElem hlt
      refine wpAny_mono (W.turn hw hx S hH t (step k _ m' H' hx gn iv) (P := fun V s3 => wpAny (model c.prog c.w) c.A (assign tgt c.env V) _ _ s3) fun V H2 s3 S3 hH3 t3 hq => ?_) (fun r s4 h4 => by obtain ⟨V, e, q⟩ := h4; subst e; exact q) fun _ _ e => e
      have S3' := S3.frz (wr := wr) fun b hb => ⟨hH3 b hb, (hw b hb).2⟩
      refine wpAny_mono (hq V rfl _ s3 S3') (fun _ s4 ⟨m4, H4, S4, h4⟩ => ?_) fun _ _ e => e.elim
      refine wpAny_mono (h4 _ s4 S4) (fun f s5 ⟨m5, H5, S5, h5⟩ => ?_) fun _ _ e => e.elim
      obtain ⟨S5', hH5, t5⟩ := W.body hw st.fpF S3 hH3 t3 S5
      cases f with
      | next =>
        obtain ⟨m6, H6, l1, l2, i6⟩ := h5
        exact ⟨xs.length - (k + 1), by omega, k + 1, m6, H6, rfl, hlt, (S5'.weakm l1).weak l2, fun b hb => l2.none (hH5 b hb), t5, i6⟩
      | cont =>
        obtain ⟨m6, H6, l1, l2, i6⟩ := h5
        exact ⟨xs.length - (k + 1), by omega, k + 1, m6, H6, rfl, hlt, (S5'.weakm l1).weak l2, fun b hb => l2.none (hH5 b hb), t5, i6⟩
      | brk => exact ⟨m5, back H5, st.back c m5 H5 s5 S5', h5⟩
      | ret v => exact ⟨m5, back H5, st.back c m5 H5 s5 S5', h5⟩
    · have hk' : k = xs.length := by omega
      subst hk'
      refine wpAny_mono (W.done s' (fun s'' => St c m' H' F1 s'') _ t fun h' tk kp => S.keepsBut (fun b hb => ⟨hH b hb, hw b hb⟩) kp) (fun r s4 ⟨e, S4⟩ => ?_) fun _ _ e => e
      subst e
      exact wpAny_execs_nil ⟨m', back H', st.back c m' H' s4 S4, fin m' H' gn iv⟩
  · obtain ⟨m', H', l1, l2, i6⟩ := i0
    exact ⟨0, m', H', rfl, Nat.zero_le _, (st.st.weakm l1).weak l2, fun b hb => l2.none (st.wrH b hb).1, st.t0, i6⟩

/-- for -/
theorem Ex.for {tgt iter body p} {Q : Flow → LM → HM → Prop} (hh : c.A.handled = none)
    (h : Ev c iter m H (fun v H1 => ∃ xs tup Hd back, Src H1 tgt v xs tup Hd back ∧ ∃ Inv : Nat → LM → HM → Prop, Keep (Inv 0) m Hd ∧
      (∀ k x m' H', xs[k]? = some x → Inv k m' H' → Yld tup k x H' (fun v' H2 => Tgt c tgt v' m' H2 (fun m3 H3 => Exs c body m3 H3 (fun f m4 H4 => match f with
        | .next | .cont => Keep (Inv (k + 1)) m4 H4
        | .brk => Q .next m4 (back H4)
        | .ret v => Q (.ret v) m4 (back H4)) XF) XF)) ∧
      (∀ m' H', Inv xs.length m' H' → Q .next m' (back H'))) X)
    (hs : ∀ x, foldedSetIterable iter c.env x = pure x) : Ex c (.For tgt iter body [] p) m H Q X :=
  Ex.forN hh (h.mono (fun v H1 ⟨xs, tup, Hd, back, src, Inv, h0, step, fin⟩ => ⟨xs, tup, Hd, back, src, Inv, h0, fun k x m' H' hx _ iv => step k x m' H' hx iv, fun m' H' _ iv => fin m' H' iv⟩) fun _ _ _ x => x) hs

/-- while -/
theorem Ex.while {test body p} {Q : Flow → LM → HM → Prop} (Inv : Nat → LM → HM → Prop) (k : Nat) (h0 : Keep (Inv k) m H)
    (step : ∀ k m' H', Inv k m' H' → Tst c test m' H' (fun b H1 => if b = true then Exs c body m' H1 (fun f m2 H2 => match f with
        | .next | .cont => ∃ k', k' < k ∧ Keep (Inv k') m2 H2
        | .brk => Q .next m2 H2
        | .ret v => Q (.ret v) m2 H2) XF else Q .next m' H1) XF) : Ex c (.While test body [] p) m H Q X := fun G s St' => by
  refine wpAny_While (codeAny_whileLoop (fun k s' => ∃ m' H', St c m' H' G s' ∧ Inv k m' H') ?_ k ?_)
  · rintro k s' ⟨m', H', S, iv⟩
    refine wpAny_mono (step k m' H' iv G s' S) (fun b s1 ⟨H1, S1, h1⟩ => ?_) fun _ _ e => e.elim
    cases b with
    | true =>
      rw [if_pos rfl] at h1 ⊢
      refine wpAny_mono (h1 G s1 S1) (fun f s2 ⟨m2, H2, S2, h2⟩ => ?_) fun _ _ e => e.elim
      cases f with
      | next => obtain ⟨k', hk, m3, H3, l1, l2, i3⟩ := h2; exact ⟨k', hk, m3, H3, (S2.weakm l1).weak l2, i3⟩
      | cont => obtain ⟨k', hk, m3, H3, l1, l2, i3⟩ := h2; exact ⟨k', hk, m3, H3, (S2.weakm l1).weak l2, i3⟩
      | brk => exact ⟨m2, H2, S2, h2⟩
      | ret v => exact ⟨m2, H2, S2, h2⟩
    | false =>
      rw [if_neg Bool.false_ne_true] at h1 ⊢
      exact wpAny_execs_nil ⟨m', H1, S1, h1⟩
  · obtain ⟨m', H', l1, l2, i0⟩ := h0
    exact ⟨m', H', (St'.weakm l1).weak l2, i0⟩
end
end Mine
end

section
open PySem PySem.W PySem.Calls PyProof.Rows
set_option linter.all false
set_option maxRecDepth 100000
namespace Mine

def testsT (ifs : List Expr) (env : Env) : Sem Bool := forIn ifs true fun c r => if r = true then do let ok ← isTrue c env (eval c env); pure (ForInStep.yield ok) else pure (ForInStep.yield r)
def emitT (elt : Expr) (acc : Value) (env : Env) : Sem Unit := do let _ ← call (.builtin "list.append") [acc, ← eval elt env]
def nestT (e : Expr) (g' : Comprehension) (depth : Nat) (acc : Value) (env : Env) (fin : Sem Fin) : Sem Fin := do
  let x ← eval g'.iter env
  standAt g'.iter.pos
  let x ← foldedSetIterable g'.iter env x
  let it' ← holding [x] (pyIter x)
  let _ ← runOwn (.compStart e (depth + 1) it' acc env) env
  fin
def turnT (e : Expr) (p : Pos) (tgt : Expr) (ifs : List Expr) (depth : Nat) (it acc : Value) (env : Env) (tail : Sem Fin) : Sem Fin := do
  standAt p
  match ← pyNext it with
  | none => pure (.done .next)
  | some v =>
    letOwnedTupleGo tgt it v
    assign tgt env v
    let ok ← testsT ifs env
    if ok then tail else again (.compLoop e depth it acc env)

theorem turn_one (elt tgt iter : Expr) (ifs : List Expr) (scope : Scope) (pos : Pos) (it acc : Value) (env : Env) :
    compTurn (.ListComp elt [⟨tgt, iter, ifs, 0⟩] scope pos) 0 it acc env = turnT (.ListComp elt [⟨tgt, iter, ifs, 0⟩] scope pos) iter.pos tgt ifs 0 it acc env (emitT elt acc env >>= fun _ => again (.compLoop (.ListComp elt [⟨tgt, iter, ifs, 0⟩] scope pos) 0 it acc env)) := by rfl
theorem turn_two0 (elt tgt iter : Expr) (ifs : List Expr) (t1 i1 : Expr) (f1 : List Expr) (scope : Scope) (pos : Pos) (it acc : Value) (env : Env) :
    compTurn (.ListComp elt [⟨tgt, iter, ifs, 0⟩, ⟨t1, i1, f1, 0⟩] scope pos) 0 it acc env = turnT (.ListComp elt [⟨tgt, iter, ifs, 0⟩, ⟨t1, i1, f1, 0⟩] scope pos) iter.pos tgt ifs 0 it acc env (nestT (.ListComp elt [⟨tgt, iter, ifs, 0⟩, ⟨t1, i1, f1, 0⟩] scope pos) ⟨t1, i1, f1, 0⟩ 0 acc env (again (.compLoop (.ListComp elt [⟨tgt, iter, ifs, 0⟩, ⟨t1, i1, f1, 0⟩] scope pos) 0 it acc env))) := by rfl
theorem turn_two1 (elt tgt iter : Expr) (ifs : List Expr) (t1 i1 : Expr) (f1 : List Expr) (scope : Scope) (pos : Pos) (it acc : Value) (env : Env) :
    compTurn (.ListComp elt [⟨tgt, iter, ifs, 0⟩, ⟨t1, i1, f1, 0⟩] scope pos) 1 it acc env = turnT (.ListComp elt [⟨tgt, iter, ifs, 0⟩, ⟨t1, i1, f1, 0⟩] scope pos) i1.pos t1 f1 1 it acc env (emitT elt acc env >>= fun _ => again (.compLoop (.ListComp elt [⟨tgt, iter, ifs, 0⟩, ⟨t1, i1, f1, 0⟩] scope pos) 1 it acc env)) := by rfl

def FC.comp (c : FC) (scope : Scope) (cl : List (Str × Addr)) (C : Addr) : FC := { c with env := compEnvC scope cl C c.env }
theorem Ok.comp {c : FC} {K : Frag} {n : Nat} (O : Ok c K n) {scope : Scope} (hk : scope.kind = .function) (cl : List (Str × Addr)) (C : Addr) : Ok (c.comp scope cl C) K n :=
  ⟨O.X, O.g, O.b, O.nl, hk, O.eg, O.eb, O.hh, O.dp, O.un⟩

def TestsJ (c : FC) (ifs : List Expr) (m : LM) (H : HM) (Q : Bool → HM → Prop) (X : XM) : Prop := Bw c (testsT ifs c.env) m H Q X
def InnerJ (c : FC) (t : Sem Fin) (cd : Code) (D : Addr) (ys : List Value) (m : LM) (H : HM) (Q : List Value → LM → HM → Prop) : Prop :=
  ∀ F s, St c m (H.set D (.list ys)) F s → H D = none → F D = none → wpAny (model c.prog c.w) c.A t (fun fin s' => fin = .again cd ∧ ∃ ys' m' H', St c m' (H'.set D (.list ys')) F s' ∧ H' D = none ∧ Q ys' m' H') (fun _ _ => False) s

section
variable {c : FC} {K : Frag} {n : Nat} {m : LM} {H F F1 : HM} {X : XM} {s : Shared}
theorem TestsJ.nil {Q : Bool → HM → Prop} (h : Q true H) : TestsJ c [] m H Q X := fun G s S => wpAny_tests_nil ⟨H, S, h⟩
theorem TestsJ.one {e : Expr} {Q : Bool → HM → Prop} (h : Tst c e m H Q X) : TestsJ c [e] m H Q X := fun G s S => wpAny_tests_one (h G s S)

theorem St.out {a : Addr} {vs : List Value} (S : St c m (H.set a (.list vs)) F s) (ha : H a = none) (hF : F a = none) : ∃ (ws : List Value) (n : Nat), ws.map er = vs ∧ St c m H (F.set a (.raw { cls := .type "list", data := .seq ws.toArray n })) s := by
  obtain ⟨ws, n, hw, hg⟩ := S.list (HM.set_same ..)
  refine ⟨ws, n, hw, ?_⟩
  have := S.toF (HM.set_same ..) hg
  rwa [HM.set_del _ _ ha] at this

theorem InnerJ.emit {elt : Expr} {cd : Code} {D : Addr} {ys : List Value} {Q : List Value → LM → HM → Prop} (hl : ys.length ≤ 16000000) (h : Ev c elt m H (fun y H' => Q (ys ++ [y]) m H') XF) : InnerJ c (emitT elt (.ref D) c.env >>= fun _ => again cd) cd D ys m H Q := fun G s S hD hG => by
  obtain ⟨ws, n, hw, S'⟩ := S.out hD hG
  refine wpAny_bind (wpAny_bind (wpAny_mono (h _ s S') (fun V s1 ⟨H1, S1, hq⟩ => ?_) fun _ _ e => e.elim))
  have hD1 : H1 D = none := by
    rcases S1.dj D with q | q
    · exact q
    · rw [HM.set_same] at q; cases q
  have S2 := S1.fromF (HM.le_set _ hG) (HM.set_same ..) (ao := .list ys) ⟨ws, n, rfl, hw⟩ hG
  refine wpAny_bind (wpAny_mono (C_append (X := XF) (Q := fun v H' => H' = H1.set D (.list (ys ++ [er V]))) (HM.set_same ..) hl (by rw [HM.set_set]) (.builtin "list.append") [.ref D, V] [] rfl rfl rfl G s1 S2) (fun v s2 ⟨H2, S3, e2⟩ => ?_) fun _ _ e => e.elim)
  subst e2
  exact wpAny_pure (wpAny_pure ⟨rfl, _, m, H1, S3, hD1, hq⟩)

theorem comp_turns {elt : Expr} {gens : List Comprehension} {scope : Scope} {pos : Pos} {depth : Nat} {p : Pos} {tgt : Expr} {ifs : List Expr} {inner : Value → Sem Fin} {D I : Addr} {fp wr : List Addr} {xs : List Value} {tup : Bool} {T : Nat → Heap → Prop}
    (he : ∀ it, compTurn (.ListComp elt gens scope pos) depth it (.ref D) c.env = turnT (.ListComp elt gens scope pos) p tgt ifs depth it (.ref D) c.env (inner it))
    (W : Walk c.prog c.w c.A tgt I fp wr xs tup T) (hw : ∀ b ∈ wr, F1 b = none ∧ b ≠ c.env.locals ∧ c.s₀.heap.get? b = none) (hfp : ∀ b ∈ fp, b ∉ wr → ∃ o, F1 b = some (.raw o)) (hDw : D ∉ wr) (hDF : F1 D = none)
    (Inv : Nat → List Value → LM → HM → Prop)
    (step : ∀ k x ys m' H', xs[k]? = some x → Inv k ys m' H' → Yld tup k x H' (fun v' H2 => Tgt c tgt v' m' H2 (fun m3 H3 => TestsJ c ifs m3 H3 (fun ok H4 =>
      if ok = true then InnerJ c (inner (.ref I)) (.compLoop (.ListComp elt gens scope pos) depth (.ref I) (.ref D) c.env) D ys m3 H4 (fun ys' m5 H5 => Keep (Inv (k + 1) ys') m5 H5) else Keep (Inv (k + 1) ys) m3 H4) XF) XF))
    {ys : List Value} (k0 : Inv 0 ys m H) (S : St c m (H.set D (.list ys)) F1 s) (hD : H D = none) (hH : ∀ b ∈ wr, H b = none) (t0 : T 0 s.heap)
    {R : Result → Shared → Prop} (hR : ∀ ys m' H' s', St c m' (H'.set D (.list ys)) F1 s' → H' D = none → (∀ b ∈ wr, H' b = none) → Inv xs.length ys m' H' → R (.ok .next) s') :
    codeAny (model c.prog c.w) c.A (.compLoop (.ListComp elt gens scope pos) depth (.ref I) (.ref D) c.env) R s := by
  refine codeAny_loop rfl (fun r s' => ∃ k ys m' H', r = xs.length - k ∧ k ≤ xs.length ∧ St c m' (H'.set D (.list ys)) F1 s' ∧ H' D = none ∧ (∀ b ∈ wr, H' b = none) ∧ T k s'.heap ∧ Inv k ys m' H') ?_ xs.length
    ⟨0, ys, m, H, rfl, Nat.zero_le _, S, hD, hH, t0, k0⟩
  rintro r s' ⟨k, ys, m', H', rfl, hk, S, hD, hH, t, iv⟩
  show wpAny _ c.A ((compTurn (.ListComp elt gens scope pos) depth (.ref I) (.ref D) c.env).onRaise (fun x => do noteFrame x c.env; theTreesLotGoes x)) _ _ s'
  refine wpAny_noted ?_
  rw [he]
  unfold turnT
  refine wpAny_bind (wpAny_standAt (wpAny_bind ?_))
  obtain ⟨ws, nD, hws, S0⟩ := S.out hD hDF
  have hw' : ∀ b ∈ wr, (F1.set D (.raw { cls := .type "list", data := .seq ws.toArray nD })) b = none ∧ b ≠ c.env.locals ∧ c.s₀.heap.get? b = none := fun b hb => ⟨by rw [HM.set_ne _ _ (fun (e : b = D) => hDw (by rw [← e]; exact hb))]; exact (hw b hb).1, (hw b hb).2⟩
  have hfp' : ∀ b ∈ fp, b ∉ wr → ∃ o, (F1.set D (.raw { cls := .type "list", data := .seq ws.toArray nD })) b = some (.raw o) := fun b hb hbw => by
    obtain ⟨o, ho⟩ := hfp b hb hbw
    exact ⟨o, by rw [HM.set_ne _ _ (fun (e : b = D) => by rw [e, hDF] at ho; cases ho)]; exact ho⟩
  have back : ∀ {m H s}, St c m H (F1.set D (.raw { cls := .type "list", data := .seq ws.toArray nD })) s → St c m (H.set D (.list ys)) F1 s ∧ H D = none := fun S => by
    refine ⟨S.fromF (HM.le_set _ hDF) (HM.set_same ..) ⟨ws, nD, rfl, hws⟩ hDF, ?_⟩
    rcases S.dj D with q | q
    · exact q
    · rw [HM.set_same] at q; cases q
  by_cases hlt : k < xs.length
  · have hx : xs[k]? = some xs[k] := List.getElem?_eq_getElem hlt
    refine wpAny_mono (W.turn hw' hx S0 hH t (step k _ ys m' H' hx iv) (P := fun V s3 => wpAny (model c.prog c.w) c.A (do
        assign tgt c.env V
        let ok ← testsT ifs c.env
        if ok then inner (.ref I) else again (.compLoop (.ListComp elt gens scope pos) depth (.ref I) (.ref D) c.env)) _ _ s3) fun V H2 s3 S3 hH3 t3 hq => ?_) (fun r s4 h4 => by obtain ⟨V, e, q⟩ := h4; subst e; exact wpAny_bind q) fun _ _ e => e
    have S3' := S3.frz (wr := wr) fun b hb => ⟨hH3 b hb, (hw b hb).2⟩
    refine wpAny_bind (wpAny_mono (hq V rfl _ s3 S3') (fun _ s4 ⟨m4, H4, S4, h4⟩ => ?_) fun _ _ e => e.elim)
    refine wpAny_bind (wpAny_mono (h4 _ s4 S4) (fun ok s5 ⟨H5, S5, h5⟩ => ?_) fun _ _ e => e.elim)
    cases ok with
    | true =>
      rw [if_pos rfl] at h5 ⊢
      have hHf5 : ∀ b ∈ wr, H5 b = none := (W.body hw' hfp' S3 hH3 t3 S5).2.1
      -- inner with the list back, the iterators still set aside
      have S5D : St c m4 (H5.set D (.list ys)) (F1.frz wr s3.heap) s5 := by
        have hDfz : (F1.frz wr s3.heap) D = none := by simp only [HM.frz, if_neg hDw]; exact hDF
        refine S5.fromF (F0 := F1.frz wr s3.heap) (fun a o e => ?_) (a := D) (o := { cls := .type "list", data := .seq ws.toArray nD }) ?_ ⟨ws, nD, rfl, hws⟩ hDfz
        · have : a ≠ D := by rintro rfl; rw [hDfz] at e; cases e
          unfold HM.frz at e ⊢
          split
          · rename_i q; rw [if_pos q] at e; exact e
          · rename_i q; rw [if_neg q] at e; rw [HM.set_ne _ _ this]; exact e
        · simp only [HM.frz, if_neg hDw, HM.set_same]
      have hD5 : H5 D = none := (back (W.body hw' hfp' S3 hH3 t3 S5).1).2
      have hDfz : (F1.frz wr s3.heap) D = none := by simp only [HM.frz, if_neg hDw]; exact hDF
      refine wpAny_mono (h5 _ s5 S5D hD5 hDfz) (fun fin s6 ⟨efin, ys', m6, H6, S6, hD6, m7, H7, l1, l2, i7⟩ => ?_) fun _ _ e => e.elim
      subst efin
      have S3b := (back S3).1
      have hH3b : ∀ b ∈ wr, (H2.set D (.list ys)) b = none := fun b hb => by rw [HM.set_ne _ _ (fun (e : b = D) => hDw (by rw [← e]; exact hb))]; exact hH3 b hb
      obtain ⟨S6', hH6, t6⟩ := W.body hw hfp S3b hH3b t3 S6
      refine ⟨rfl, xs.length - (k + 1), by omega, k + 1, ys', m7, H7, rfl, hlt, (S6'.weakm l1).weak (HM.set_le _ _ l2), l2.none hD6, fun b hb => l2.none ?_, t6, i7⟩
      have := hH6 b hb
      rwa [HM.set_ne _ _ (fun (e : b = D) => hDw (by rw [← e]; exact hb))] at this
    | false =>
      rw [if_neg Bool.false_ne_true] at h5 ⊢
      obtain ⟨m7, H7, l1, l2, i7⟩ := h5
      obtain ⟨S5', hH5, t5⟩ := W.body hw' hfp' S3 hH3 t3 S5
      obtain ⟨S6, hD6⟩ := back S5'
      exact (wpAny_pure ⟨rfl, xs.length - (k + 1), by omega, k + 1, ys, m7, H7, rfl, hlt, (S6.weakm l1).weak (HM.set_le _ _ l2), l2.none hD6, fun b hb => l2.none (hH5 b hb), t5, i7⟩)
  · have hk' : k = xs.length := by omega
    subst hk'
    refine wpAny_mono (W.done s' (fun s'' => St c m' (H'.set D (.list ys)) F1 s'') _ t fun h' tk kp => S.keepsBut (fun b hb => ⟨?_, hw b hb⟩) kp) (fun r s4 ⟨e, S4⟩ => ?_) fun _ _ e => e
    · rw [HM.set_ne _ _ (fun (e : b = D) => hDw (by rw [← e]; exact hb))]; exact hH b hb
    · subst e
      exact wpAny_pure (hR ys m' H' s4 S4 hD hH iv)
end
end Mine
end

section
open PySem PySem.W PySem.Calls PyProof.Rows
set_option linter.all false
set_option maxRecDepth 100000
namespace Mine

section
variable {c : FC} {K : Frag} {n : Nat} {m : LM} {H F F1 : HM} {X : XM} {s : Shared}

theorem St.addF (S : St c m H F s) {a : Addr} {o : Obj} (ha : H a = none) (h1 : a ≠ c.env.locals) (h2 : c.s₀.heap.get? a = none) (h3 : s.heap.get? a = some o) : St c m H (F.set a (.raw o)) s := by
  refine ⟨S.same, S.base, S.ns, S.lb, fun b => ?_, S.hp, fun b bo e => ?_⟩
  · by_cases hb : b = a
    · subst hb; exact .inl ha
    · rw [HM.set_ne _ _ hb]; exact S.dj b
  · by_cases hb : b = a
    · subst hb; rw [HM.set_same] at e; cases e; exact ⟨h1, h2, o, h3, rfl⟩
    · rw [HM.set_ne _ _ hb] at e; exact S.fp b bo e

/-- the turns of a comprehension, whatever stands in it -/
def Turns (c' : FC) (elt : Expr) (gens : List Comprehension) (scope : Scope) (pos : Pos) (tgt : Expr) (xs : List Value) (tup : Bool) (Hd : HM) (Qf : List Value → HM → Prop) : Prop :=
  ∀ {D I : Addr} {fp wr : List Addr} {T : Nat → Heap → Prop} {F1 : HM} {s : Shared}, Walk c'.prog c'.w c'.A tgt I fp wr xs tup T → (∀ b ∈ wr, F1 b = none ∧ b ≠ c'.env.locals ∧ c'.s₀.heap.get? b = none) → (∀ b ∈ fp, b ∉ wr → ∃ o, F1 b = some (.raw o)) → D ∉ wr → F1 D = none →
    St c' [] (Hd.set D (.list [])) F1 s → Hd D = none → (∀ b ∈ wr, Hd b = none) → T 0 s.heap → ∀ {R : Result → Shared → Prop}, (∀ ys m' H' s', St c' m' (H'.set D (.list ys)) F1 s' → H' D = none → Qf ys H' → R (.ok .next) s') →
    codeAny (model c'.prog c'.w) c'.A (.compLoop (.ListComp elt gens scope pos) 0 (.ref I) (.ref D) c'.env) R s

theorem comp_enter {elt tgt iter : Expr} {ifs : List Expr} {gens : List Comprehension} {scope : Scope} {cl : List (Str × Addr)} {pos : Pos} {xs : List Value} {tup : Bool} {Hd : HM} {back : HM → HM} {I : Addr} {fp wr : List Addr} {T : Nat → Heap → Prop}
    {H1 : HM} {E : Value → Shared → Prop} {RR : Value → Addr → Result → Shared → Prop} {Qf : List Value → HM → Prop} (hh : c.A.handled = none) (hkind : scope.kind = .function) (hcell : ∀ y ∈ scope.names, y.2 ≠ .cell)
    (st : Start c m H1 Hd F1 F back tgt xs tup I fp wr T s)
    (turns : ∀ C, Turns (c.comp scope cl C) elt (⟨tgt, iter, ifs, 0⟩ :: gens) scope pos tgt xs tup Hd Qf)
    (hRR : ∀ D C ys H' s' mC, H1 D = none → H' D = none → Qf ys H' → s'.heap.Ns C mC → C ≠ c.env.locals → c.s₀.heap.get? C = none → (H'.set D (.list ys)) C = none → F1 C = none → St c m (H'.set D (.list ys)) F1 s' → RR (.ref D) C (.ok .next) s') :
    wpAny (model c.prog c.w) c.A (newList []) (fun acc s₃ => wpAny (model c.prog c.w) c.A (newFunctionEnv scope c.env.globals cl [] c.env.qual none .none (some c.env)) (fun cenv s₄ =>
      codeAny (model c.prog c.w) c.A (.compStart (.ListComp elt (⟨tgt, iter, ifs, 0⟩ :: gens) scope pos) 0 (.ref I) acc { cenv with scope := relabel scope c.env }) (RR acc cenv.locals) s₄) E s₃) E s := by
  have W := st.walk c.A hh
  obtain ⟨oL, hL⟩ := st.st.frame
  obtain ⟨f1, f2, f3, f4⟩ := st.st.fresh
  refine wpAny_newObj_type (wpAny_newFunctionEnv hcell (by intro y hy; simp at hy) (fun h₁ hns₁ hsb₁ => ?_) hkind)
  dsimp only at hns₁ hsb₁ ⊢
  generalize hH2 : s.heap.push { cls := .type "list", dict := none, data := .seq ([] : List Value).toArray } = H2 at hns₁ hsb₁ ⊢
  have hC : H2.objs.size = s.heap.objs.size + 1 := by rw [← hH2, Heap.size_push]
  have hCle : s.heap.objs.size ≤ H2.objs.size := by rw [hC]; exact Nat.le_succ _
  have hDC : s.heap.objs.size ≠ H2.objs.size := by rw [hC]; exact Nat.ne_of_lt (Nat.lt_succ_self _)
  obtain ⟨g1, g2, g3, g4⟩ := st.st.above hCle
  have old : ∀ b o, s.heap.get? b = some o → h₁.get? b = some o := fun b o e => hsb₁.extBut b o (Nat.ne_of_lt (by rw [hC]; exact Nat.lt_succ_of_lt (Heap.lt_size e))) (Heap.get?_push_of_some _ (hH2 ▸ Heap.get?_push_of_some _ e))
  have hDo : h₁.get? s.heap.objs.size = some { cls := .type "list", dict := none, data := .seq ([] : List Value).toArray 0 } := hsb₁.extBut _ _ hDC (Heap.get?_push_of_some _ (hH2 ▸ Heap.get?_push_size _ rfl))
  have below : ∀ b ∈ wr, b < s.heap.objs.size := fun b hb => by obtain ⟨o, ho⟩ := W.obj 0 _ st.t0 b hb; exact Heap.lt_size ho
  have hDw : s.heap.objs.size ∉ wr := fun q => Nat.lt_irrefl _ (below _ q)
  have loop : ∀ s₃ : Shared, s₃ = { s with heap := h₁, toks := s.toks + ([] : List (Str × Value)).length } → T 0 s₃.heap ∧
      codeAny (model c.prog c.w) c.A (.compLoop (.ListComp elt (⟨tgt, iter, ifs, 0⟩ :: gens) scope pos) 0 (.ref I) (.ref s.heap.objs.size) (compEnvC scope cl H2.objs.size c.env)) (RR (.ref s.heap.objs.size) H2.objs.size) s₃ := by
    rintro s₃ rfl
    have t0 : T 0 h₁ := W.frame 0 _ _ st.t0 fun b _ o e => old b o e
    refine ⟨t0, ?_⟩
    have S4 : St (c.comp scope cl H2.objs.size) [] (Hd.set s.heap.objs.size (.list [])) (F1.set c.env.locals (.raw oL)) { s with heap := h₁, toks := s.toks + ([] : List (Str × Value)).length } := by
      refine St.other (c' := c.comp scope cl H2.objs.size) st.st rfl hL old (by exact hCle) hns₁ (fun y u hy => by cases hy) fun a ao e => ?_
      by_cases ha : a = s.heap.objs.size
      · subst ha
        rw [HM.set_same] at e; cases e
        exact .inr ⟨Nat.le_refl _, hDC, _, hDo, [], 0, rfl, rfl⟩
      · rw [HM.set_ne _ _ ha] at e; exact .inl e
    refine turns H2.objs.size W (fun b hb => ⟨?_, Nat.ne_of_lt (Nat.lt_of_lt_of_le (below b hb) hCle), (st.wrH b hb).2.2.2⟩) (fun b hb hbw => ?_) hDw ?_ S4 f1 (fun b hb => (st.wrH b hb).1) t0 fun ys m' H' s' S' hD hq => ?_
    · rw [HM.set_ne _ _ (st.wrH b hb).2.2.1]; exact (st.wrH b hb).2.1
    · obtain ⟨o, ho⟩ := st.fpF b hb hbw
      exact ⟨o, by rw [HM.set_ne _ _ (st.st.fp _ _ ho).1]; exact ho⟩
    · rw [HM.set_ne _ _ f3]; exact f2
    · have Sh := St.home (c' := c.comp scope cl H2.objs.size) st.st rfl hL S'
      obtain ⟨mr, n1, _⟩ := S'.ns
      exact hRR _ H2.objs.size ys H' s' mr (st.hi _ (Nat.le_refl _)) hD hq n1 g3 g4 S'.hl g2 Sh
  exact codeAny_compStart_list (loop _ rfl).2 (W.self 0 _ _ _ (loop _ rfl).1 (loop _ rfl).2)

theorem Ev.compG {elt tgt iter : Expr} {ifs : List Expr} {gens : List Comprehension} {scope : Scope} {cl : List (Str × Addr)} {pos : Pos} {Q : Value → HM → Prop} (hh : c.A.handled = none)
    (hclos : closureFor scope c.env = pure cl) (hkind : scope.kind = .function) (hcell : ∀ y ∈ scope.names, y.2 ≠ .cell) (hnames : ∀ y ∈ scope.names, y.2 = .local → scope.names.lookup y.1 = some .local)
    (h : Ev c iter m H (fun v H1 => ∃ xs tup Hd back, Src H1 tgt v xs tup Hd back ∧ ∃ Qf, (∀ C, Turns (c.comp scope cl C) elt (⟨tgt, iter, ifs, 0⟩ :: gens) scope pos tgt xs tup Hd Qf) ∧
      (∀ D ys H', H1 D = none → H' D = none → Qf ys H' → Q (.ref D) (back (H'.set D (.list ys))))) X)
    (hs : ∀ x, foldedSetIterable iter c.env x = pure x) : Ev c (.ListComp elt (⟨tgt, iter, ifs, 0⟩ :: gens) scope pos) m H Q X := fun G s St' => by
  show wpAny _ _ (comprehension (.ListComp elt (⟨tgt, iter, ifs, 0⟩ :: gens) scope pos) scope c.env _ (newList []) false (eval iter c.env) none) _ _ s
  refine wpAny_comprehension_free (use := none) rfl hs hclos hkind hnames (wpAny_mono (h G s St') (fun V s1 ⟨H1, S1, xs, tup, Hd, back, src, Qf, turns, fin⟩ => ?_) fun _ _ e => e)
  refine src.start hh rfl S1 fun I fp wr F1 T s2 st => ?_
  refine comp_enter (RR := fun acc C => compPost (model c.prog c.w) c.A (X G) none (fun V s' => ∃ H', St c m H' G s' ∧ Q (er V) H') acc C) hh hkind hcell st turns fun D C ys H' s' mC q1 q2 q3 nC q4 q5 q6 q7 S' => ?_
  exact ⟨mC, nC, fun h' hs' => ⟨_, st.back c m _ _ (S'.keepsBut (wr := [C]) (t := s'.toks) (fun b hb => by obtain rfl := List.mem_singleton.mp hb; exact ⟨q6, q7, q4, q5⟩) fun b o hb e => hs'.extBut b o (fun e' => hb (by rw [e']; exact List.mem_singleton.mpr rfl)) e), fin D ys H' q1 q2 q3⟩⟩

theorem Ex.asgC {elt tgt iter : Expr} {ifs : List Expr} {gens : List Comprehension} {scope : Scope} {cl : List (Str × Addr)} {pos spos : Pos} {y : Str} {py : Pos} {Q : Flow → LM → HM → Prop} (hh : c.A.handled = none)
    (hsw : swapsWith (.ListComp elt (⟨tgt, iter, ifs, 0⟩ :: gens) scope pos) (some (.Name y py)) spos.line c.env = pure true) (hk : c.env.scope.kind = .function) (hy : c.env.kindOf y = some .local)
    (hclos : closureFor scope c.env = pure cl) (hkind : scope.kind = .function) (hcell : ∀ y ∈ scope.names, y.2 ≠ .cell) (hnames : ∀ y ∈ scope.names, y.2 = .local → scope.names.lookup y.1 = some .local)
    (h : Ev c iter m H (fun v H1 => ∃ xs tup Hd back, Src H1 tgt v xs tup Hd back ∧ ∃ Qf, (∀ C, Turns (c.comp scope cl C) elt (⟨tgt, iter, ifs, 0⟩ :: gens) scope pos tgt xs tup Hd Qf) ∧
      (∀ D ys H', H1 D = none → H' D = none → Qf ys H' → Q .next ((y, .ref D) :: m) (back (H'.set D (.list ys))))) X)
    (hs : ∀ x, foldedSetIterable iter c.env x = pure x) : Ex c (.Assign [.Name y py] (.ListComp elt (⟨tgt, iter, ifs, 0⟩ :: gens) scope pos) spos) m H Q X := fun G s St' => by
  rw [exec_Assign_Name_used _ _ _ _ hsw]
  refine wpAny_bind (wpAny_standAt (wpAny_bind ?_))
  show wpAny _ c.A (do let _ ← comprehension (.ListComp elt (⟨tgt, iter, ifs, 0⟩ :: gens) scope pos) scope c.env _ (newList []) false (eval iter c.env) (some (assign (.Name y py) c.env))) _ _ s
  refine wpAny_bind (wpAny_mono (wpAny_comprehension_free (use := some (assign (.Name y py) c.env)) (Q := fun _ s' => ∃ m' H', St c m' H' G s' ∧ Q .next m' H') rfl hs hclos hkind hnames
    (wpAny_mono (h G s St') (fun V s1 ⟨H1, S1, xs, tup, Hd, back, src, Qf, turns, fin⟩ => ?_) fun _ _ e => e)) (fun _ s' hq => wpAny_pure (wpAny_pure hq)) fun _ _ e => e)
  refine src.start hh rfl S1 fun I fp wr F1 T s2 st => ?_
  refine comp_enter (RR := fun acc C => compPost (model c.prog c.w) c.A (X G) (some (assign (.Name y py) c.env)) (fun _ s' => ∃ m' H', St c m' H' G s' ∧ Q .next m' H') acc C) hh hkind hcell st turns fun D C ys H' s' mC q1 q2 q3 nC q4 q5 q6 q7 S' => ?_
  show wpAny _ c.A (assign (.Name y py) c.env (.ref D)) _ _ s'
  obtain ⟨oC, _, _, hC, _⟩ := id nC
  have S2 := S'.addF q6 q4 q5 hC
  obtain ⟨mr, n1, n2⟩ := S2.ns
  refine wpAny_assign_Name (wpAny_storeName_local hy n1 (fun h' hn hs' => ?_) (by rw [hk]; rfl))
  have S3 := S2.setName (t := s'.toks + 1) n2 (V := .ref D) rfl hn hs'
  refine ⟨mC, nC.sameBut hs' q4, fun h'' hs'' => ?_⟩
  have S4 := (S3.weakF (HM.le_set _ q7)).keepsBut (wr := [C]) (h' := h'') (t := s'.toks + 1) (fun b hb => by obtain rfl := List.mem_singleton.mp hb; exact ⟨q6, q7, q4, q5⟩) fun b o hb e => hs''.extBut b o (fun e' => hb (by rw [e']; exact List.mem_singleton.mpr rfl)) e
  exact ⟨_, _, st.back c _ _ _ S4, fin D ys H' q1 q2 q3⟩

/-- one clause -/
theorem Turns.one {c' : FC} {elt tgt iter : Expr} {ifs : List Expr} {scope : Scope} {pos : Pos} {xs : List Value} {tup : Bool} {Hd : HM} {Qf : List Value → HM → Prop} (Inv : Nat → List Value → LM → HM → Prop) (h0 : Keep (Inv 0 []) [] Hd)
    (step : ∀ k x ys m' H', xs[k]? = some x → Inv k ys m' H' → Yld tup k x H' (fun v' H2 => Tgt c' tgt v' m' H2 (fun m3 H3 => TestsJ c' ifs m3 H3 (fun ok H4 =>
      if ok = true then ys.length ≤ 16000000 ∧ Ev c' elt m3 H4 (fun y H5 => Keep (Inv (k + 1) (ys ++ [y])) m3 H5) XF else Keep (Inv (k + 1) ys) m3 H4) XF) XF))
    (fin : ∀ ys m' H', Inv xs.length ys m' H' → Qf ys H') : Turns c' elt [⟨tgt, iter, ifs, 0⟩] scope pos tgt xs tup Hd Qf := by
  intro D I fp wr T F1 s W hw hfp hDw hDF S hD hH t0 R hR
  obtain ⟨m6, H6, l1, l2, i6⟩ := h0
  refine comp_turns (c := c') (inner := fun it => emitT elt (.ref D) c'.env >>= fun _ => again (.compLoop (.ListComp elt [⟨tgt, iter, ifs, 0⟩] scope pos) 0 it (.ref D) c'.env)) (fun it => turn_one ..) W hw hfp hDw hDF Inv (fun k x ys m' H' hx iv => ?_) i6 ((S.weakm l1).weak (HM.set_le _ _ l2)) (l2.none hD) (fun b hb => l2.none (hH b hb)) t0 fun ys m' H' s' S' hD' _ iv => hR ys m' H' s' S' hD' (fin ys m' H' iv)
  have st := step k x ys m' H' hx iv
  have up : ∀ v' H2, Tgt c' tgt v' m' H2 (fun m3 H3 => TestsJ c' ifs m3 H3 (fun ok H4 => if ok = true then ys.length ≤ 16000000 ∧ Ev c' elt m3 H4 (fun y H5 => Keep (Inv (k + 1) (ys ++ [y])) m3 H5) XF else Keep (Inv (k + 1) ys) m3 H4) XF) XF →
      Tgt c' tgt v' m' H2 (fun m3 H3 => TestsJ c' ifs m3 H3 (fun ok H4 => if ok = true then InnerJ c' (emitT elt (.ref D) c'.env >>= fun _ => again (.compLoop (.ListComp elt [⟨tgt, iter, ifs, 0⟩] scope pos) 0 (.ref I) (.ref D) c'.env)) (.compLoop (.ListComp elt [⟨tgt, iter, ifs, 0⟩] scope pos) 0 (.ref I) (.ref D) c'.env) D ys m3 H4 (fun ys' m5 H5 => Keep (Inv (k + 1) ys') m5 H5) else Keep (Inv (k + 1) ys) m3 H4) XF) XF := by
    intro v' H2 h V e
    refine (h V e).mono (fun m3 H3 h3 => h3.mono (fun ok H4 h4 => ?_) fun _ _ _ x => x) fun _ _ _ x => x
    cases ok with
    | true => rw [if_pos rfl] at h4 ⊢; exact InnerJ.emit h4.1 h4.2
    | false => rw [if_neg Bool.false_ne_true] at h4 ⊢; exact h4
  cases tup with
  | false => exact up _ _ st
  | true => exact fun a ha => up _ _ (st a ha)
end
end Mine
end

section
open PySem PySem.W PySem.Calls PyProof.Rows PySem.Builtin PySem.Builtin.Str
set_option linter.all false
set_option maxRecDepth 100000
namespace Mine

/-! ## plain text functions, and what the library's ones are -/
theorem sub_take {l y : List Nat} {i : Nat} (hy : i + y.length ≤ l.length) : subAt (S l) (S y) i = y.isPrefixOf (l.drop i) := by
  rw [StrLaws.subAt_eq, S_toList, S_toList, Bool.eq_iff_iff, beq_iff_eq, List.isPrefixOf_iff_prefix, S_length]
  constructor
  · intro h; rw [← h]; exact List.take_prefix ..
  · rintro ⟨t, h⟩; rw [← h]; simp

/-- where y stands in l, from the left, none within another -/
def occG (y : List Nat) : List Nat → Nat → Nat → List Nat
  | [], _, _ => []
  | c :: r, i, 0 => if y.isPrefixOf (c :: r) then i :: occG y r (i + 1) (y.length - 1) else occG y r (i + 1) 0
  | _ :: r, i, k + 1 => occG y r (i + 1) k

theorem occ_run {l y : List Nat} (hy : y ≠ []) (lim : Nat) : ∀ (suf : List Nat) (i : Nat) (acc : Array Nat) (free : Nat), l.drop i = suf → i + suf.length = l.length → acc.size + suf.length ≤ lim →
    (forIn (List.range' i (suf.length + 1)) (acc, free) (StrLaws.occBody (S l) (S y) l.length lim)).run.fst.toList = acc.toList ++ occG y suf i (free - i)
  | [], i, acc, free, hd, hi, hl => by
    have h0 : 0 < y.length := List.length_pos_iff.mpr hy
    have hi : i = l.length := by simpa using hi
    subst hi
    change Array.toList (Prod.fst (Id.run (forIn (m := Id) (List.range' l.length 1) (acc, free) (StrLaws.occBody (S l) (S y) l.length lim)))) = _
    rw [List.range'_succ, List.forIn_cons]
    unfold StrLaws.occBody
    rw [if_neg (by rw [S_length]; omega)]
    show acc.toList = acc.toList ++ []
    rw [List.append_nil]
  | c :: r, i, acc, free, hd, hi, hl => by
    have h0 : 0 < y.length := List.length_pos_iff.mpr hy
    have hr : l.drop (i + 1) = r := by rw [← List.drop_drop, hd]; rfl
    have hlen : (c :: r).length = r.length + 1 := rfl
    rw [hlen, List.range'_succ, List.forIn_cons]
    rw [hlen] at hi hl
    unfold StrLaws.occBody
    by_cases hf : free ≤ i
    · have hz : free - i = 0 := by omega
      rw [hz]
      by_cases hp : y.isPrefixOf (c :: r) = true
      · have hyl : y.length ≤ r.length + 1 := by have := (List.isPrefixOf_iff_prefix.mp hp).length_le; simpa using this
        rw [if_pos ⟨⟨⟨by show acc.size < lim; omega, hf⟩, by rw [S_length]; omega⟩, by rw [sub_take (by omega), hd]; exact hp⟩]
        have ih := occ_run hy lim r (i + 1) (acc.push i) (i + y.length) hr (by omega) (by rw [Array.size_push]; omega)
        change Array.toList (Prod.fst (Id.run (forIn (m := Id) (List.range' (i + 1) (r.length + 1)) (acc.push i, i + (S y).length) (StrLaws.occBody (S l) (S y) l.length lim)))) = _
        rw [S_length, ih]
        simp only [occG, hp, if_true, Array.toList_push, List.append_assoc, List.singleton_append]
        rw [show i + y.length - (i + 1) = y.length - 1 from by omega]
      · rw [if_neg (fun h => hp (by have h1 := h.1.2; have h2 := h.2; rw [S_length] at h1; rw [sub_take h1, hd] at h2; exact h2))]
        have ih := occ_run hy lim r (i + 1) acc free hr (by omega) (by omega)
        change Array.toList (Prod.fst (Id.run (forIn (m := Id) (List.range' (i + 1) (r.length + 1)) (acc, free) (StrLaws.occBody (S l) (S y) l.length lim)))) = _
        rw [ih]
        simp only [occG, hp, if_false, Bool.false_eq_true]
        rw [show free - (i + 1) = 0 from by omega]
    · rw [if_neg (fun h => hf h.1.1.2)]
      obtain ⟨k, hk⟩ : ∃ k, free - i = k + 1 := ⟨free - i - 1, by omega⟩
      have ih := occ_run hy lim r (i + 1) acc free hr (by omega) (by omega)
      change Array.toList (Prod.fst (Id.run (forIn (m := Id) (List.range' (i + 1) (r.length + 1)) (acc, free) (StrLaws.occBody (S l) (S y) l.length lim)))) = _
      rw [ih, hk]
      simp only [occG]
      rw [show free - (i + 1) = k from by omega]
theorem occ_all {l y : List Nat} (hy : y ≠ []) : occurrences (S l) (S y) 0 l.length (l.length + 1) = occG y l 0 0 := by
  rw [StrLaws.occ_eq]
  have := occ_run (l := l) hy (l.length + 1) l 0 #[] 0 rfl (by omega) (by simp)
  simpa using this
def cntL (y l : List Nat) : Nat := (occG y l 0 0).length
theorem count_eq {l y : List Nat} (hy : y ≠ []) : Txt.count (S l) (S y) = (cntL y l : Nat) := by
  unfold Txt.count cntL
  rw [S_length, occ_all hy]

/-- l.split(y) -/
def splitG (y : List Nat) : List Nat → List Nat → Nat → List (List Nat)
  | [], cur, _ => [cur]
  | c :: r, cur, 0 => if y.isPrefixOf (c :: r) then cur :: splitG y r [] (y.length - 1) else splitG y r (cur ++ [c]) 0
  | _ :: r, cur, k + 1 => splitG y r cur k
def splitL (y l : List Nat) : List (List Nat) := splitG y l [] 0

theorem strSub_S (l : List Nat) (i j : Nat) : strSub (S l) i j = S ((l.take j).drop i) := by
  unfold strSub S
  simp [List.extract_eq_take_drop, List.drop_take]
theorem split_run {l y : List Nat} (hy : y ≠ []) : ∀ (suf : List Nat) (i k st : Nat) (cur : List Nat), l.drop i = suf → i + suf.length = l.length → k ≤ suf.length → (l.take i).drop st = cur → st ≤ i + k → (k ≠ 0 → st = i + k) →
    (((st :: (occG y suf i k).map (· + y.length)).zip (occG y suf i k ++ [l.length])).map fun (p : Nat × Nat) => strSub (S l) p.1 p.2) = (splitG y suf cur k).map S
  | [], i, k, st, cur, hd, hi, hk, hc, hst, hst' => by
    have hk0 : k = 0 := by simpa using hk
    have hi : i = l.length := by simpa using hi
    subst hi hk0
    simp only [occG, splitG, List.map_nil, List.nil_append, List.zip_cons_cons, List.zip_nil_left, List.map_cons, List.cons.injEq, and_true]
    rw [strSub_S, hc]
  | c :: r, i, 0, st, cur, hd, hi, hk, hc, hst, hst' => by
    have h0 : 0 < y.length := List.length_pos_iff.mpr hy
    have hr : l.drop (i + 1) = r := by rw [← List.drop_drop, hd]; rfl
    have hi' : i + 1 + r.length = l.length := by simp only [List.length_cons] at hi; omega
    by_cases hp : y.isPrefixOf (c :: r) = true
    · have hyl : y.length ≤ r.length + 1 := by have := (List.isPrefixOf_iff_prefix.mp hp).length_le; simpa using this
      have ih := split_run hy r (i + 1) (y.length - 1) (i + y.length) [] hr hi' (by omega) (by rw [List.drop_eq_nil_iff]; simp; omega) (by omega) (by omega)
      simp only [occG, splitG, hp, if_true, List.map_cons, List.cons_append, List.zip_cons_cons]
      rw [← ih, strSub_S, hc]
    · have ih := split_run hy r (i + 1) 0 st (cur ++ [c]) hr hi' (by omega) (by
        have e : l.take (i + 1) = l.take i ++ [c] := by
          rw [List.take_add_one]
          have : l[i]? = some c := by
            have := congrArg List.head? hd
            rw [List.head?_drop] at this; exact this
          rw [this]; rfl
        rw [e, List.drop_append_of_le_length (by rw [List.length_take]; omega), hc]) (by omega) (by omega)
      simp only [occG, splitG, hp, if_false, Bool.false_eq_true]
      exact ih
  | c :: r, i, k + 1, st, cur, hd, hi, hk, hc, hst, hst' => by
    have hr : l.drop (i + 1) = r := by rw [← List.drop_drop, hd]; rfl
    have hi' : i + 1 + r.length = l.length := by simp only [List.length_cons] at hi; omega
    have est := hst' (by omega)
    have hcn : cur = [] := by rw [← hc, List.drop_eq_nil_iff]; simp; omega
    subst hcn
    have ih := split_run hy r (i + 1) k st [] hr hi' (by simp only [List.length_cons] at hk; omega) (by
      by_cases hk0 : st ≤ i
      · omega
      · rw [List.drop_eq_nil_iff]; simp; omega) (by omega) (by omega)
    simp only [occG, splitG]
    exact ih
theorem split_parts {l y : List Nat} (hy : y ≠ []) : partsBetween (S l) (occurrences (S l) (S y) 0 (S l).length ((S l).length + 1)) (S y).length = (splitL y l).map S := by
  rw [S_length, occ_all hy]
  unfold partsBetween
  rw [S_length, S_length]
  exact split_run hy l 0 0 0 [] rfl (by omega) (by omega) rfl (by omega) (by omega)
theorem splitG_none {y : List Nat} (hy : y ≠ []) : ∀ (suf cur : List Nat) (i : Nat), occG y suf i 0 = [] → splitG y suf cur 0 = [cur ++ suf]
  | [], cur, i, _ => by simp [splitG]
  | c :: r, cur, i, h => by
    by_cases hp : y.isPrefixOf (c :: r) = true
    · simp [occG, hp] at h
    · simp only [occG, hp, if_false, Bool.false_eq_true] at h
      simp only [splitG, hp, if_false, Bool.false_eq_true]
      rw [splitG_none hy r _ _ h]; simp

/-! ### strip -/
def lstripL (p : Nat → Bool) (l : List Nat) : List Nat := l.dropWhile p
def rstripL (p : Nat → Bool) (l : List Nat) : List Nat := (l.reverse.dropWhile p).reverse
def stripL (p : Nat → Bool) (l : List Nat) : List Nat := rstripL p (lstripL p l)
theorem drop_takeWhile (p : Nat → Bool) (l : List Nat) : l.drop (l.takeWhile p).length = l.dropWhile p := by
  have h := List.takeWhile_append_dropWhile (p := p) (l := l)
  have := congrArg (List.drop (l.takeWhile p).length) h
  rw [List.drop_left] at this
  exact this.symm
theorem take_rstrip (p : Nat → Bool) (l : List Nat) : l.take (l.length - (l.reverse.takeWhile p).length) = rstripL p l := by
  unfold rstripL
  rw [← drop_takeWhile p l.reverse, List.drop_reverse, List.reverse_reverse]
theorem lstrip_S (g : Nat → Bool) (l : List Nat) : Txt.stripBy g true false (S l) = S (lstripL g l) := by
  rw [PyProof.Rows.stripBy_eq]
  unfold stripLo stripHi
  rw [S_toList, S_length, strSub_S]
  simp only [Bool.false_eq_true, if_false, if_true, List.take_length]
  rw [drop_takeWhile]; rfl
theorem rstrip_S (g : Nat → Bool) (l : List Nat) : Txt.stripBy g false true (S l) = S (rstripL g l) := by
  rw [PyProof.Rows.stripBy_eq]
  unfold stripLo stripHi
  rw [S_toList, S_length, strSub_S]
  simp only [Bool.false_eq_true, if_false, if_true, List.drop_zero]
  rw [take_rstrip]
theorem strip_S (g : Nat → Bool) (l : List Nat) : Txt.stripBy g true true (S l) = S (stripL g l) := by
  rw [PyProof.Rows.stripBy_eq]
  unfold stripLo stripHi
  rw [S_toList, S_length, strSub_S]
  simp only [if_true]
  rw [List.drop_take]
  unfold stripL lstripL
  rw [← take_rstrip, drop_takeWhile, ← drop_takeWhile g l, List.length_drop, Nat.sub_right_comm]

/-! ### one sign -/
theorem found1 (l : List Nat) (c : Nat) : (!(occurrences (S l) (S [c]) 0 (S l).length 1).isEmpty) = decide (c ∈ l) := StrLaws.found_one (S l) c
theorem index1 {l : List Nat} {c : Nat} (h : c ∈ l) : ∃ r, occurrences (S l) (S [c]) 0 (S l).length 1 = l.idxOf c :: r := by
  rcases StrLaws.occ_head (S l) (S [c]) 1 (Nat.le_refl 1) with ⟨e, _⟩ | ⟨i, r, e, hat, hno⟩
  · have := found1 l c
    rw [e] at this; simp [h] at this
  · refine ⟨r, ?_⟩
    rw [e]
    have at1 : ∀ k, StrLaws.At (S l) (S [c]) (S l).length k ↔ l[k]? = some c := fun k => StrLaws.subAt_one (S l) c k
    have hi := (at1 i).mp hat
    have : l.idxOf c = i := by
      obtain ⟨hlt, hge⟩ := List.getElem?_eq_some_iff.mp hi
      rcases Nat.lt_trichotomy (l.idxOf c) i with q | q | q
      · exfalso
        refine hno _ q ((at1 _).mpr ?_)
        have hl := List.idxOf_lt_length_of_mem h
        rw [List.getElem?_eq_getElem hl]
        have := List.findIdx_getElem (xs := l) (p := (· == c)) (w := hl)
        exact congrArg some (by simpa using this)
      · exact q
      · exfalso
        have := List.not_of_lt_findIdx (p := (· == c)) (xs := l) q
        rw [hge] at this; simp at this
    rw [this]

/-! ### join -/
def joinL (sep : List Nat) : List (List Nat) → List Nat
  | [] => []
  | [x] => x
  | x :: y :: r => x ++ sep ++ joinL sep (y :: r)
theorem foldl_glue (g : Array Nat) : ∀ (l : List Str) (a : Array Nat), l.foldl (fun acc p => acc ++ g ++ p.cps) a = a ++ (l.foldl (fun acc p => acc ++ g ++ p.cps) #[])
  | [], a => by simp
  | p :: r, a => by
    rw [List.foldl_cons, List.foldl_cons, foldl_glue g r, foldl_glue g r (#[] ++ g ++ p.cps)]
    simp [Array.append_assoc]
theorem glued_S (sep : List Nat) : ∀ (ps : List (List Nat)), glued (S sep) (ps.map S) = S (joinL sep ps)
  | [] => rfl
  | [x] => by simp [glued, joinL, S]
  | x :: y :: r => by
    have ih := glued_S sep (y :: r)
    unfold glued at ih ⊢
    simp only [List.map_cons, List.drop_succ_cons, List.drop_zero, List.headD_cons, List.foldl_cons] at ih ⊢
    unfold joinL
    have ih := congrArg Str.cps ih
    simp only [S_cps] at ih
    rw [foldl_glue] at ih ⊢
    simp only [S_cps, Array.append_assoc] at ih ⊢
    rw [ih]
    simp [S]
end Mine
end

section
open PySem PySem.W PySem.Calls PyProof.Rows PySem.Builtin PySem.Builtin.Str
set_option linter.all false
set_option maxRecDepth 100000
namespace Mine

/-! ### splitlines, no return sign in the text -/
def linesG : List Nat → List Nat → List (List Nat)
  | [], cur => if cur = [] then [] else [cur]
  | c :: r, cur => if Unicode.isLineBreak c = true then cur :: linesG r [] else linesG r (cur ++ [c])
def linesL (l : List Nat) : List (List Nat) := linesG l []
def spansG : List Nat → Nat → Nat → List (Nat × Nat × Nat)
  | [], i, st => if st < i then [(st, i, i)] else []
  | c :: r, i, st => if Unicode.isLineBreak c = true then (st, i, i + 1) :: spansG r (i + 1) (i + 1) else spansG r (i + 1) st

theorem ls_go {l : List Nat} (h13 : 13 ∉ l) : ∀ (suf : List Nat) (i st : Nat) (acc : Array (Nat × Nat × Nat)), l.drop i = suf → i + suf.length = l.length → st ≤ i →
    StrLaws.lsEnd (S l) (Id.run (forIn (m := Id) (List.range' i suf.length) (acc, st) (StrLaws.lsBody (S l)))) = acc.toList ++ spansG suf i st
  | [], i, st, acc, hd, hi, hs => by
    have hi : i = l.length := by simpa using hi
    subst hi
    show StrLaws.lsEnd (S l) (acc, st) = _
    unfold StrLaws.lsEnd spansG
    rw [S_length]
    split <;> simp
  | c :: r, i, st, acc, hd, hi, hs => by
    have hr : l.drop (i + 1) = r := by rw [← List.drop_drop, hd]; rfl
    have hc : l[i]? = some c := by
      have := congrArg List.head? hd
      rw [List.head?_drop] at this; exact this
    have hcd : (S l).cps.getD i 0 = c := by simp [S, Array.getD_eq_getD_getElem?, hc]
    have hn : StrLaws.lsNext (S l) i = i + 1 := by
      unfold StrLaws.lsNext
      rw [hcd, if_neg]
      intro q
      rw [Bool.and_eq_true, beq_iff_eq] at q
      exact h13 (q.1 ▸ List.mem_of_getElem? hc)
    have hlen : (c :: r).length = r.length + 1 := rfl
    rw [hlen] at hi ⊢
    rw [List.range'_succ, List.forIn_cons]
    unfold StrLaws.lsBody
    rw [hcd, hn]
    by_cases hb : Unicode.isLineBreak c = true
    · rw [if_pos (by rw [Bool.and_eq_true, decide_eq_true_eq]; exact ⟨hs, hb⟩)]
      have ih := ls_go h13 r (i + 1) (i + 1) (acc.push (st, i, i + 1)) hr (by omega) (Nat.le_refl _)
      change StrLaws.lsEnd (S l) (Id.run (forIn (m := Id) (List.range' (i + 1) r.length) (acc.push (st, i, i + 1), i + 1) (StrLaws.lsBody (S l)))) = _
      rw [ih]
      simp [spansG, hb]
    · rw [if_neg (by rw [Bool.and_eq_true]; exact fun q => hb q.2)]
      have ih := ls_go h13 r (i + 1) st acc hr (by omega) (by omega)
      change StrLaws.lsEnd (S l) (Id.run (forIn (m := Id) (List.range' (i + 1) r.length) (acc, st) (StrLaws.lsBody (S l)))) = _
      rw [ih]
      simp [spansG, hb]
theorem spans_lines {l : List Nat} : ∀ (suf : List Nat) (i st : Nat) (cur : List Nat), l.drop i = suf → i + suf.length = l.length → st ≤ i → (l.take i).drop st = cur →
    ((spansG suf i st).map fun (p : Nat × Nat × Nat) => strSub (S l) p.1 p.2.1) = (linesG suf cur).map S
  | [], i, st, cur, hd, hi, hs, hc => by
    have hl : cur.length = i - st := by
      rw [← hc]; simp only [List.length_drop, List.length_take]; simp at hi; omega
    unfold spansG linesG
    split
    · rw [if_neg (by intro q; rw [q] at hl; simp at hl; omega)]
      simp only [List.map_cons, List.map_nil]
      rw [strSub_S, hc]
    · rw [if_pos (List.length_eq_zero_iff.mp (by omega))]; rfl
  | c :: r, i, st, cur, hd, hi, hs, hc => by
    have hr : l.drop (i + 1) = r := by rw [← List.drop_drop, hd]; rfl
    have hlen : (c :: r).length = r.length + 1 := rfl
    rw [hlen] at hi
    have hci : l[i]? = some c := by
      have := congrArg List.head? hd
      rw [List.head?_drop] at this; exact this
    unfold spansG linesG
    split
    · have ih := spans_lines r (i + 1) (i + 1) [] hr (by omega) (Nat.le_refl _) (by rw [List.drop_eq_nil_iff]; simp; omega)
      rw [List.map_cons, List.map_cons, ih, strSub_S, hc]
    · refine spans_lines r (i + 1) st (cur ++ [c]) hr (by omega) (by omega) ?_
      rw [List.take_add_one, hci, List.drop_append_of_le_length (by rw [List.length_take]; omega), hc]; rfl
theorem lines_S {l : List Nat} (h13 : 13 ∉ l) : Txt.lines (S l) = (linesL l).map S := by
  have h1 : linesOf (S l) = (linesL l).map S := by
    unfold linesOf lineCuts linesL
    rw [StrLaws.ls_eq, S_length]
    have := ls_go h13 l 0 0 #[] rfl (by omega) (Nat.le_refl _)
    rw [this, ← spans_lines (l := l) l 0 0 [] rfl (by omega) (Nat.le_refl _) rfl]
    simp
  unfold Txt.lines
  split
  · rename_i q
    rw [beq_iff_eq] at q
    rw [← h1]
    unfold linesOf
    rw [q]
    simp only [List.map_cons, List.map_nil]
    rw [strSub_S, S_length]; simp
  · exact h1
theorem linesG_length : ∀ (l cur : List Nat), (linesG l cur).length ≤ l.length + 1
  | [], cur => by unfold linesG; split <;> simp
  | c :: r, cur => by
    unfold linesG
    split
    · have := linesG_length r []; simp; omega
    · have := linesG_length r (cur ++ [c]); simp; omega
theorem lineCuts_length {l : List Nat} (h13 : 13 ∉ l) : (lineCuts (S l)).length ≤ l.length + 1 := by
  have h1 : linesOf (S l) = (linesL l).map S := by
    unfold linesOf lineCuts linesL
    rw [StrLaws.ls_eq, S_length]
    have := ls_go h13 l 0 0 #[] rfl (by omega) (Nat.le_refl _)
    rw [this, ← spans_lines (l := l) l 0 0 [] rfl (by omega) (Nat.le_refl _) rfl]
    simp
  have := congrArg List.length h1
  unfold linesOf at this
  rw [List.length_map, List.length_map] at this
  rw [this]; exact linesG_length l []

/-! ### times -/
def timesL (l : List Nat) : Nat → List Nat
  | 0 => []
  | n + 1 => l ++ timesL l n
theorem times_one (x : Nat) : ∀ n, timesL [x] n = List.replicate n x
  | 0 => rfl
  | n + 1 => by rw [timesL, times_one x n]; rfl
theorem times_fold (l : List Nat) : ∀ (n : Nat) (a : Array Nat), (List.replicate n l.toArray).foldl (· ++ ·) a = a ++ (timesL l n).toArray
  | 0, a => by simp [timesL]
  | n + 1, a => by
    rw [List.replicate_succ, List.foldl_cons, times_fold l n]
    simp [timesL, Array.append_assoc]
theorem timesL_length (l : List Nat) : ∀ n, (timesL l n).length = l.length * n
  | 0 => rfl
  | n + 1 => by rw [timesL, List.length_append, timesL_length l n, Nat.mul_succ, Nat.add_comm]

/-! ### startswith -/
theorem starts_S (l y : List Nat) : Txt.startswith (S l) (S y) = y.isPrefixOf l := by
  unfold Txt.startswith
  rw [S_length, S_length]
  by_cases h : 0 + y.length ≤ l.length
  · rw [sub_take h, decide_eq_true h]; rfl
  · rw [decide_eq_false h, Bool.false_and, eq_comm, Bool.eq_false_iff]
    intro q
    have := (List.isPrefixOf_iff_prefix.mp q).length_le
    omega

theorem split_S {l y : List Nat} (hy : y ≠ []) (hk : ∀ x ∈ l, x < 256) (hk2 : ∀ x ∈ y, x < 256) : Txt.split (S l) (S y) = (splitL y l).map S := by
  have kd : ∀ z : List Nat, (∀ x ∈ z, x < 256) → Builtin.Str.strKind (S z) = 1 := fun z hz => by
    unfold Builtin.Str.strKind
    rw [if_pos (by simpa [S] using hz)]
  have none : occG y l 0 0 = [] → splitL y l = [l] := fun q => by
    unfold splitL; rw [splitG_none hy l [] 0 q]; rfl
  unfold Txt.split
  split
  · rename_i q
    rw [kd l hk, kd y hk2] at q
    simp only [Nat.lt_irrefl, decide_false, Bool.or_false, decide_eq_true_eq, S_length] at q
    rw [none]; · rfl
    cases ho : occG y l 0 0 with
    | nil => rfl
    | cons i r =>
      have := StrLaws.occ_head (S l) (S y) (l.length + 1) (by omega)
      rw [S_length, occ_all hy, ho] at this
      rcases this with ⟨e, _⟩ | ⟨i', r', e, hat, _⟩
      · cases e
      · have := hat.1; rw [S_length] at this; omega
  · split
    · rename_i q
      rw [S_length, occ_all hy, List.isEmpty_iff] at q
      rw [none q]; rfl
    · exact split_parts hy
end Mine
end

section
open PySem PySem.W PySem.Calls PyProof.Rows PySem.Builtin PySem.Builtin.Str
set_option linter.all false
set_option maxRecDepth 100000
namespace Mine

theorem call1 {as : List Value} {Vs : List Value} {a : Value} (h : Vs.map er = [a]) : ∃ V, Vs = [V] ∧ er V = a := by
  obtain ⟨V, r, rfl, e, h⟩ := ers_cons h
  obtain rfl := ers_nil h
  exact ⟨V, rfl, e⟩
theorem call2 {Vs : List Value} {a b : Value} (h : Vs.map er = [a, b]) : ∃ V W, Vs = [V, W] ∧ er V = a ∧ er W = b := by
  obtain ⟨V, r, rfl, e, h⟩ := ers_cons h
  obtain ⟨W, rfl, e'⟩ := call1 (as := []) h
  exact ⟨V, W, rfl, e, e'⟩
theorem kw0 {Ks : List (Str × Value)} (h : Ks.map (fun p => (p.1, er p.2)) = []) : Ks = [] := List.map_eq_nil_iff.mp h

section
variable {c : FC} {K : Frag} {n : Nat} {m : LM} {H F : HM} {X : XM} {s : Shared}

/-! ## texts -/
theorem O_in1 {x : Nat} {l : List Nat} {Q : Value → HM → Prop} (h : Q (VB (decide (x ∈ l))) H) : Op2 c (compareOp .In) (VT [x]) (VT l) m H Q X := fun A B e1 e2 G s St' => by
  obtain ⟨t, rfl⟩ := er_str e1; obtain ⟨u, rfl⟩ := er_str e2
  refine P.in_str ⟨H, St', ?_⟩
  rw [found1]; exact h
theorem O_notin1 {x : Nat} {l : List Nat} {Q : Value → HM → Prop} (h : Q (VB (!decide (x ∈ l))) H) : Op2 c (compareOp .NotIn) (VT [x]) (VT l) m H Q X := fun A B e1 e2 G s St' => by
  obtain ⟨t, rfl⟩ := er_str e1; obtain ⟨u, rfl⟩ := er_str e2
  refine P.notIn_str ⟨H, St', ?_⟩
  rw [found1]; exact h
theorem O_mulT {l : List Nat} {k : Int} {Q : Value → HM → Prop} (hk : k.natAbs < 2 ^ 31) (hl : l.length * k.toNat ≤ 16000000) (h : Q (VT (timesL l k.toNat)) H) : Op2 c (binaryOp .Mult) (VT l) (VI k) m H Q X := fun A B e1 e2 G s St' => by
  obtain ⟨t, rfl⟩ := er_str e1; obtain ⟨u, rfl⟩ := er_int e2
  refine P.mul_str (by rw [decide_eq_false (show ¬ k < -(2 ^ 63 : Int) from by omega), decide_eq_false (show ¬ k ≥ 2 ^ 63 from by omega)]; rfl) (fun h1 h2 => ?_) (fun h1 h2 => ?_) ?_
  · rw [S_length]
    have h3 : (k.toNat : Int) = k := Int.toNat_of_nonneg (by omega)
    have hl' : (l.length : Int) * k ≤ 16000000 := by rw [← h3, ← Int.natCast_mul]; exact Int.ofNat_le.mpr hl
    intro q
    have q2 := (Int.ediv_lt_iff_lt_mul (a := 2 ^ 63 - 1) (b := (l.length : Int)) (c := k) (by omega)).mp q
    omega
  · rw [S_length]; unfold tooLong; rw [decide_eq_false]; rw [sizeLine_eq]; omega
  · split
    · rename_i h1
      have : k.toNat = 0 := by omega
      rw [this] at h
      exact ⟨by decide, H, St'.toks _, h⟩
    · rename_i h1
      split
      · rename_i h2
        refine ⟨H, St', ?_⟩
        have e : timesL l k.toNat = l := by
          rcases (Bool.or_eq_true ..).mp h2 with q | q
          · rw [beq_iff_eq] at q; subst q; simp [timesL]
          · rw [beq_iff_eq, S_length] at q
            have := List.length_eq_zero_iff.mp q
            subst this
            exact List.length_eq_zero_iff.mp (by rw [timesL_length]; simp)
        rw [e] at h; exact h
      · have e : (⟨(List.replicate k.toNat (S l).cps).foldl (· ++ ·) #[]⟩ : Str) = S (timesL l k.toNat) := by
          rw [S_cps, times_fold]; simp [S]
        refine ⟨?_, H, St'.toks _, ?_⟩
        · rw [e]; exact S_fits (by rw [timesL_length]; exact hl)
        · rw [e]; exact h

/-! ## lists -/
theorem O_addL {a b : Addr} {vs us : List Value} {Q : Value → HM → Prop} (hv : H a = some (.list vs)) (hu : H b = some (.list us)) (hl : vs.length + us.length ≤ 16000000) (h : ∀ r, H r = none → Q (.ref r) (H.set r (.list (vs ++ us)))) :
    Op2 c (binaryOp .Add) (.ref a) (.ref b) m H Q X := fun A B e1 e2 G s St' => by
  obtain rfl := er_ref e1; obtain rfl := er_ref e2
  obtain ⟨ws, n, rfl, hg⟩ := St'.list hv
  obtain ⟨zs, n2, rfl, hg2⟩ := St'.list hu
  rw [List.length_map, List.length_map] at hl
  refine P.add_list (n := n) (n2 := n2) hg hg2 ⟨_, St'.push (ao := .list (ws.map er ++ zs.map er)) ⟨ws ++ zs, 0, ?_, by rw [List.map_append]⟩ rfl, h _ St'.fresh.1⟩ (by simp only [List.size_toArray]; exact sizeLine_ge hl)
  simp

/-- what == looks at here: two ints, or two texts -/
def Flat2 (x y : Value) : Prop := (∃ i j, x = VI i ∧ y = VI j) ∨ (∃ l k, x = VS l ∧ y = VS k)
theorem eqGives_flat {V W : Value} (h : Flat2 (er V) (er W)) : MeetsSeq.EqGives V W (decide (er V = er W)) := by
  rcases h with ⟨i, j, e1, e2⟩ | ⟨x, y, e1, e2⟩
  · rw [e1, e2]
    obtain ⟨t, rfl⟩ := er_int e1; obtain ⟨u, rfl⟩ := er_int e2
    have := MeetsSeq.EqGives.int i j t u
    rwa [show (i == j) = decide (VI i = VI j) from by by_cases q : i = j <;> simp [q]] at this
  · rw [e1, e2]
    obtain ⟨t, rfl⟩ := er_str e1; obtain ⟨u, rfl⟩ := er_str e2
    have := PySem.SeqRoads2.EqGives.str x y t u
    rwa [show (x.cps.toList == y.cps.toList) = decide (VS x = VS y) from by
      by_cases q : x = y
      · subst q; simp
      · have h1 : (x.cps.toList == y.cps.toList) = false := beq_eq_false_iff_ne.mpr fun e => q (by cases x; cases y; simp at e; simp [e])
        rw [h1, decide_eq_false (fun e => q (by cases e; rfl))]] at this
theorem all_eq {ws zs : List Value} (hs : ws.length = zs.length) : ((List.range ws.length).all fun j => decide ((ws.map er)[j]? = (zs.map er)[j]?)) = decide (ws.map er = zs.map er) := by
  rw [Bool.eq_iff_iff, List.all_eq_true, decide_eq_true_eq]
  constructor
  · intro h
    refine List.ext_getElem? fun j => ?_
    by_cases q : j < ws.length
    · exact of_decide_eq_true (h j (List.mem_range.mpr q))
    · rw [List.getElem?_eq_none (by simp; omega), List.getElem?_eq_none (by simp; omega)]
  · intro h j _; rw [h]; simp
theorem O_eqL {a b : Addr} {vs us : List Value} {Q : Value → HM → Prop} (O : Ok c K n) (hv : H a = some (.list vs)) (hu : H b = some (.list us)) (hf : ∀ x ∈ vs, ∀ y ∈ us, Flat2 x y) (h : Q (VB (decide (vs = us))) H) :
    Op2 c (compareOp .Eq) (.ref a) (.ref b) m H Q X := fun A B e1 e2 G s St' => by
  obtain rfl := er_ref e1; obtain rfl := er_ref e2
  obtain ⟨ws, n, rfl, hg⟩ := St'.list hv
  obtain ⟨zs, n2, rfl, hg2⟩ := St'.list hu
  by_cases hs : ws.length = zs.length
  · refine PySem.SeqAt.eq_listAt (e := fun j => decide ((ws.map er)[j]? = (zs.map er)[j]?)) (isList_of hg) (isList_of hg2) (by simpa using hs) O.units (fun j h1 h2 => ?_) ⟨H, St', ?_⟩
    · have h1' : j < ws.length := by simpa using h1
      have h2' : j < zs.length := by simpa using h2
      have := (eqGives_flat (V := ws[j]) (W := zs[j]) (hf _ (List.mem_map.mpr ⟨_, List.getElem_mem h1', rfl⟩) _ (List.mem_map.mpr ⟨_, List.getElem_mem h2', rfl⟩))).at c.A.in1 s
      simpa [h1', h2'] using this
    · rw [List.size_toArray, all_eq hs]; exact h
  · refine PySem.SeqAt.eq_list_lengthsAt (isList_of hg) (isList_of hg2) (by simpa using hs) O.units ⟨H, St', ?_⟩
    rw [decide_eq_false (fun e => hs (by have := congrArg List.length e; simpa using this))] at h; exact h
theorem O_neL {a b : Addr} {vs us : List Value} {Q : Value → HM → Prop} (O : Ok c K n) (hv : H a = some (.list vs)) (hu : H b = some (.list us)) (hf : ∀ x ∈ vs, ∀ y ∈ us, Flat2 x y) (h : Q (VB (!decide (vs = us))) H) :
    Op2 c (compareOp .NotEq) (.ref a) (.ref b) m H Q X := fun A B e1 e2 G s St' => by
  obtain rfl := er_ref e1; obtain rfl := er_ref e2
  obtain ⟨ws, n, rfl, hg⟩ := St'.list hv
  obtain ⟨zs, n2, rfl, hg2⟩ := St'.list hu
  by_cases hs : ws.length = zs.length
  · refine richCompare_meets_room (op := .NotEq) ⟨_, hg, rfl⟩ ⟨_, hg2, rfl⟩ PySem.F.slot_list_ne PySem.F.entry_list_ne (PySem.F.args_list_ne_2 _ _) (PySem.SeqAt.list_neAt a b _ _ n n2 none none #[] #[] (by simpa using hs) (fun j => decide ((ws.map er)[j]? = (zs.map er)[j]?)))
      ⟨hg, hg2, fun j h1 h2 => ?_, (show Value.bool _ ≠ Value.notImplemented ∧ _ from ⟨(fun x => nomatch x), H, St', ?_⟩)⟩ O.units
    · have h1' : j < ws.length := by simpa using h1
      have h2' : j < zs.length := by simpa using h2
      have := (eqGives_flat (V := ws[j]) (W := zs[j]) (hf _ (List.mem_map.mpr ⟨_, List.getElem_mem h1', rfl⟩) _ (List.mem_map.mpr ⟨_, List.getElem_mem h2', rfl⟩))).at c.A.in1 s
      simpa [h1', h2'] using this
    · rw [List.size_toArray, all_eq hs]; exact h
  · refine richCompare_meets_room (op := .NotEq) ⟨_, hg, rfl⟩ ⟨_, hg2, rfl⟩ PySem.F.slot_list_ne PySem.F.entry_list_ne (PySem.F.args_list_ne_2 _ _) (PySem.SeqAt.list_ne_lengthsAt a b _ _ n n2 none none #[] #[] (by simpa using hs))
      ⟨hg, hg2, (show Value.bool _ ≠ Value.notImplemented ∧ _ from ⟨(fun x => nomatch x), H, St', ?_⟩)⟩ O.units
    rw [decide_eq_false (fun e => hs (by have := congrArg List.length e; simpa using this))] at h; exact h

theorem C_pop0 {a : Addr} {vs : List Value} {v : Value} {Q : Value → HM → Prop} (hv : H a = some (.list (v :: vs))) (hl : vs.length < 16000000) (h : Q v (H.set a (.list vs))) : CallJ c (.builtin "list.pop") [.ref a, VI 0] [] m H Q X := fun Fv Vs Ks e0 e1 e2 G s St' => by
  obtain rfl := er_builtin e0
  obtain ⟨V, W, rfl, e, e'⟩ := call2 e1; obtain rfl := er_ref e; obtain ⟨u, rfl⟩ := er_int e'; obtain rfl := kw0 e2
  obtain ⟨wv, n, hw, hg⟩ := St'.list hv
  obtain ⟨V0, ws, rfl, rfl, rfl⟩ := ers_cons hw
  rw [List.length_map] at hl
  refine call_meets PySem.F.slot_list_pop ⟨_, hg, rfl⟩ PySem.F.entry_list_pop (PySem.F.args_list_pop_2 _ _) (MeetsSeq.list_pop_at a (V0 :: ws).toArray n 0 u 0 V0 (by decide) (by simp [seqIndex?]) (by simp) (by rw [List.size_toArray]; exact sizeLine_ge (by rw [List.length_cons]; omega)))
    ⟨hg, _, St'.turn (ws' := ws) (t := s.toks) hv hg (fun xs => xs.eraseIdxIfInBounds 0) ?_, h⟩
  unfold Array.eraseIdxIfInBounds
  rw [dif_pos (by simp)]; simp

/-! ## texts: calls -/
theorem C_stripP {l : List Nat} {Q : Value → HM → Prop} (hl : l.length ≤ 16000000) (h : Q (VT (stripL Unicode.isSpace l)) H) : CallJ c (.builtin "str.strip") [VT l] [] m H Q X :=
  C_strip hl (by rw [show Txt.strip (S l) = _ from strip_S Unicode.isSpace l]; exact h)
theorem C_lstripP {l : List Nat} {Q : Value → HM → Prop} (hl : l.length ≤ 16000000) (h : Q (VT (lstripL Unicode.isSpace l)) H) : CallJ c (.builtin "str.lstrip") [VT l] [] m H Q X :=
  C_lstrip hl (by rw [show Txt.lstrip (S l) = _ from lstrip_S Unicode.isSpace l]; exact h)
theorem C_lstripCP {l y : List Nat} {Q : Value → HM → Prop} (hl : l.length ≤ 16000000) (h : Q (VT (lstripL y.contains l)) H) : CallJ c (.builtin "str.lstrip") [VT l, VT y] [] m H Q X :=
  C_lstripC hl (by rw [show Txt.lstripChars (S l) (S y) = _ from lstrip_S _ l]; rw [show (S y).cps.contains = y.contains from by funext k; simp [S]]; exact h)
theorem C_rstripCP {l y : List Nat} {Q : Value → HM → Prop} (hl : l.length ≤ 16000000) (h : Q (VT (rstripL y.contains l)) H) : CallJ c (.builtin "str.rstrip") [VT l, VT y] [] m H Q X :=
  C_rstripC hl (by rw [show Txt.rstripChars (S l) (S y) = _ from rstrip_S _ l]; rw [show (S y).cps.contains = y.contains from by funext k; simp [S]]; exact h)
theorem C_startswithP {l y : List Nat} {Q : Value → HM → Prop} (h : Q (VB (y.isPrefixOf l)) H) : CallJ c (.builtin "str.startswith") [VT l, VT y] [] m H Q X :=
  C_startswith (by rw [starts_S]; exact h)
theorem C_countP {l y : List Nat} {Q : Value → HM → Prop} (hy : y ≠ []) (h : Q (VI (cntL y l)) H) : CallJ c (.builtin "str.count") [VT l, VT y] [] m H Q X :=
  C_count (by rw [count_eq hy]; exact h)
theorem C_index1 {l : List Nat} {x : Nat} {Q : Value → HM → Prop} (hx : x ∈ l) (h : Q (VI (l.idxOf x)) H) : CallJ c (.builtin "str.index") [VT l, VT [x]] [] m H Q X := fun Fv Vs Ks e0 e1 e2 G s St' => by
  obtain rfl := er_builtin e0
  obtain ⟨V, W, rfl, e, e'⟩ := call2 e1; obtain ⟨t, rfl⟩ := er_str e; obtain ⟨u, rfl⟩ := er_str e'; obtain rfl := kw0 e2
  obtain ⟨r, hr⟩ := index1 hx
  exact SC.index hr ⟨H, St'.toks _, h⟩

theorem strValues_er (ps : List (Str × Tok)) : (strValues ps).map er = (ps.map (·.1)).map VS := by
  simp [strValues, er]
theorem texts_of {ws : List Value} {ps : List (List Nat)} (h : ws.map er = ps.map VT) : ∃ l : List (Str × Tok), ws = strValues l ∧ l.map (·.1) = ps.map S := by
  induction ps generalizing ws with
  | nil => obtain rfl := ers_nil h; exact ⟨[], rfl, rfl⟩
  | cons p r ih =>
    obtain ⟨V, Vr, rfl, e, h'⟩ := ers_cons h
    obtain ⟨t, rfl⟩ := er_str e
    obtain ⟨l, rfl, e2⟩ := ih h'
    exact ⟨(S p, t) :: l, rfl, by rw [List.map_cons, List.map_cons, e2]⟩
def joinSize (sep : List Nat) (ps : List (List Nat)) : Nat := (ps.map fun p => p.length + sep.length).sum
theorem joinSize_fold (sep : List Nat) : ∀ (ps : List (List Nat)) (k : Nat), (ps.map S).foldl (fun (a : Nat) (p : Str) => a + p.length + (S sep).length) k = k + joinSize sep ps
  | [], k => by simp [joinSize]
  | p :: r, k => by
    rw [List.map_cons, List.foldl_cons, joinSize_fold sep r]
    simp only [joinSize, List.map_cons, List.sum_cons, S_length]; omega
theorem joinL_length (sep : List Nat) : ∀ (ps : List (List Nat)), (joinL sep ps).length ≤ joinSize sep ps
  | [] => by simp [joinL]
  | [x] => by simp [joinL, joinSize]
  | x :: y :: r => by
    have := joinL_length sep (y :: r)
    simp only [joinL, List.length_append, joinSize, List.map_cons, List.sum_cons] at this ⊢; omega
theorem C_join {a : Addr} {sep : List Nat} {ps : List (List Nat)} {vs : List Value} {Q : Value → HM → Prop} (hv : H a = some (.list vs)) (hps : vs = ps.map VT) (hl : joinSize sep ps ≤ 16000000) (h : Q (VT (joinL sep ps)) H) : CallJ c (.builtin "str.join") [VT sep, .ref a] [] m H Q X := fun Fv Vs Ks e0 e1 e2 G s St' => by
  obtain rfl := er_builtin e0
  obtain ⟨V, W, rfl, e, e'⟩ := call2 e1; obtain ⟨t, rfl⟩ := er_str e; obtain rfl := er_ref e'; obtain rfl := kw0 e2
  obtain ⟨ws, n, hw, hg⟩ := St'.list hv
  obtain ⟨l, rfl, el⟩ := texts_of (hw.trans hps)
  have hfold : ((l.map (·.1)).toArray.foldl (· + ·.length + (S sep).length) 0) = joinSize sep ps := by
    rw [el]
    have := joinSize_fold sep ps 0
    simpa using this
  refine call_meets PySem.F.slot_str_join (typeIs_str _ _ _) PySem.F.entry_str_join (PySem.F.args_str_join_2 _ _) (meets_str_join_list (S sep) t a l (by rw [hfold]; unfold tooLong; rw [decide_eq_false]; rw [sizeLine_eq]; omega)) ⟨isList_of hg, ?_⟩
  have hglue : glued (S sep) (l.map (·.1)) = S (joinL sep ps) := by rw [el, glued_S]
  unfold joinMade
  split
  · rename_i p
    refine ⟨H, St', ?_⟩
    cases ps with
    | nil => cases el
    | cons q r =>
      cases r with
      | nil =>
        have : p.1 = S q := by simpa using el
        show Q (VS p.1) H
        rw [this]; exact h
      | cons _ _ => simp at el
  · rw [hglue]
    exact ⟨S_fits (Nat.le_trans (joinL_length _ _) hl), H, St'.toks _, h⟩

theorem St.newTexts {l : List (Str × Tok)} {ps : List (List Nat)} {h' : Heap} {k : Nat} {mr : Str → Option Value} (S0 : St c m H F s) (el : l.map (·.1) = ps.map S) (hm : MRel m mr) (Fr' : Fr c.s₀.heap c.env.locals h' mr)
    (N : News c.s₀.heap c.env.locals h' ((s.heap.objs.size, { cls := .type "list", data := .seq (strValues l).toArray }) :: full c.s₀.heap s.heap c.env.locals)) : St c m (H.set s.heap.objs.size (.list (ps.map VT))) F { s with heap := h', toks := k } := by
  have S1 := St.back (t := k) S0 Fr' hm N fun p hp => List.mem_cons_of_mem _ hp
  obtain ⟨f1, f2, f3, f4⟩ := S0.fresh
  refine St.backNew (mr' := mr) (news := []) S0 S1 f1 f2 f3 f4 (N _ List.mem_cons_self).1 ⟨strValues l, 0, rfl, ?_⟩
  rw [strValues_er, el, List.map_map]; rfl
theorem C_split {l y : List Nat} {Q : Value → HM → Prop} (hy : y ≠ []) (hk : ∀ x ∈ l, x < 256) (hk2 : ∀ x ∈ y, x < 256) (hl : l.length + 2 ≤ 16000000) (h : ∀ a, H a = none → Q (.ref a) (H.set a (.list ((splitL y l).map VT)))) : CallJ c (.builtin "str.split") [VT l, VT y] [] m H Q X := fun Fv Vs Ks e0 e1 e2 G s St' => by
  obtain rfl := er_builtin e0
  obtain ⟨V, W, rfl, e, e'⟩ := call2 e1; obtain ⟨t, rfl⟩ := er_str e; obtain ⟨u, rfl⟩ := er_str e'; obtain rfl := kw0 e2
  obtain ⟨mr, Fr0, hm⟩ := St'.fr
  refine splitN1 Fr0 St'.news (by rw [S_length]; simpa using hy) (fun ls h' k el Fr' N => ?_) (by rw [S_length]; exact sizeLine_ge hl)
  rw [split_S hy hk hk2] at el
  exact ⟨_, St'.newTexts el hm Fr' N, h _ St'.fresh.1⟩
theorem C_splitlines {l : List Nat} {Q : Value → HM → Prop} (h13 : 13 ∉ l) (hl : l.length < 16000000) (h : ∀ a, H a = none → Q (.ref a) (H.set a (.list ((linesL l).map VT)))) : CallJ c (.builtin "str.splitlines") [VT l] [] m H Q X := fun Fv Vs Ks e0 e1 e2 G s St' => by
  obtain rfl := er_builtin e0
  obtain ⟨V, rfl, e⟩ := call1 (as := []) e1; obtain ⟨t, rfl⟩ := er_str e; obtain rfl := kw0 e2
  obtain ⟨mr, Fr0, hm⟩ := St'.fr
  refine splitlinesN Fr0 St'.news (fun ls h' k el Fr' N => ?_) (S_fits (l := l) (by omega)) (sizeLine_ge (Nat.le_trans (lineCuts_length h13) (by omega)))
  rw [lines_S h13] at el
  exact ⟨_, St'.newTexts el hm Fr' N, h _ St'.fresh.1⟩

theorem gives_expandtabs (x : Str) (t : Tok) (h : x.cps.contains 9 = false) : Gives («str.expandtabs» ⟨[.str x t], []⟩) (.val (.str x t)) := by
  show Gives (if (!x.cps.contains 9) = true then (do rule "str.expandtabs.no-tab"; ret (.str x t)) else _) _
  rw [h]
  exact .rule (.of_eq rfl)
theorem C_expandtabs {l : List Nat} {Q : Value → HM → Prop} (h9 : 9 ∉ l) (h : Q (VT l) H) : CallJ c (.builtin "str.expandtabs") [VT l] [] m H Q X := fun Fv Vs Ks e0 e1 e2 G s St' => by
  obtain rfl := er_builtin e0
  obtain ⟨V, rfl, e⟩ := call1 (as := []) e1; obtain ⟨t, rfl⟩ := er_str e; obtain rfl := kw0 e2
  exact call_gives PySem.F.slot_str_expandtabs (typeIs_str _ _ _) PySem.F.entry_str_expandtabs (PySem.F.args_str_expandtabs_1 _) (gives_expandtabs (S l) t (by simp [S]; exact h9)) ⟨H, St', h⟩

/-! ## numbers, ranges -/
theorem C_abs {i : Int} {Q : Value → HM → Prop} (h : Q (VI (if i < 0 then -i else i)) H) : CallJ c (.builtin "abs") [VI i] [] m H Q X := fun Fv Vs Ks e0 e1 e2 G s St' => by
  obtain rfl := er_builtin e0
  obtain ⟨V, rfl, e⟩ := call1 (as := []) e1; obtain ⟨t, rfl⟩ := er_int e; obtain rfl := kw0 e2
  exact call_abs_int fun u tk => ⟨H, St'.toks _, h⟩
theorem C_max {i j : Int} {Q : Value → HM → Prop} (hh : c.A.handled = none) (h : Q (VI (max i j)) H) : CallJ c (.builtin "max") [VI i, VI j] [] m H Q X := fun Fv Vs Ks e0 e1 e2 G s St' => by
  obtain rfl := er_builtin e0
  obtain ⟨V, W, rfl, e, e'⟩ := call2 e1; obtain ⟨t, rfl⟩ := er_int e; obtain ⟨u, rfl⟩ := er_int e'; obtain rfl := kw0 e2
  refine max_two_ints hh fun h' tk k => ⟨H, St'.keeps (t := tk) k, ?_⟩
  split
  · rename_i q
    have : max i j = j := by omega
    rw [this] at h; exact h
  · rename_i q
    have : max i j = i := by omega
    rw [this] at h; exact h
theorem C_min {i j : Int} {Q : Value → HM → Prop} (hh : c.A.handled = none) (h : Q (VI (min i j)) H) : CallJ c (.builtin "min") [VI i, VI j] [] m H Q X := fun Fv Vs Ks e0 e1 e2 G s St' => by
  obtain rfl := er_builtin e0
  obtain ⟨V, W, rfl, e, e'⟩ := call2 e1; obtain ⟨t, rfl⟩ := er_int e; obtain ⟨u, rfl⟩ := er_int e'; obtain rfl := kw0 e2
  refine min_two_ints hh fun h' tk k => ⟨H, St'.keeps (t := tk) k, ?_⟩
  split
  · rename_i q
    have : min i j = j := by omega
    rw [this] at h; exact h
  · rename_i q
    have : min i j = i := by omega
    rw [this] at h; exact h
theorem C_range1 {i : Int} {Q : Value → HM → Prop} (h : ∀ a o, H a = none → RangeO o 0 i → Q (.ref a) (H.set a (.raw o))) : CallJ c (.type "range") [VI i] [] m H Q X := fun Fv Vs Ks e0 e1 e2 G s St' => by
  obtain rfl := er_type e0
  obtain ⟨V, rfl, e⟩ := call1 (as := []) e1; obtain ⟨t, rfl⟩ := er_int e; obtain rfl := kw0 e2
  exact call_range_1 ⟨_, (St'.push (ao := .raw _) rfl rfl).toks _, h _ _ St'.fresh.1 ⟨_, _, _, rfl⟩⟩
theorem C_range2 {i j : Int} {Q : Value → HM → Prop} (h : ∀ a o, H a = none → RangeO o i j → Q (.ref a) (H.set a (.raw o))) : CallJ c (.type "range") [VI i, VI j] [] m H Q X := fun Fv Vs Ks e0 e1 e2 G s St' => by
  obtain rfl := er_type e0
  obtain ⟨V, W, rfl, e, e'⟩ := call2 e1; obtain ⟨t, rfl⟩ := er_int e; obtain ⟨u, rfl⟩ := er_int e'; obtain rfl := kw0 e2
  exact call_range_2 ⟨_, (St'.push (ao := .raw _) rfl rfl).toks _, h _ _ St'.fresh.1 ⟨_, _, _, rfl⟩⟩
end
end Mine
end

section
open PySem PySem.W PySem.Calls PyProof.Rows PySem.Builtin PySem.Builtin.Str
set_option linter.all false
set_option maxRecDepth 100000
namespace Mine

section
variable {c : FC} {K : Frag} {n : Nat} {m : LM} {H F : HM} {X : XM} {s : Shared}

/-! ## rules with named continuations -/
def CallK (c : FC) (f : Value) (as : List Value) (m : LM) (H : HM) (Q : Value → HM → Prop) (X : XM) : Prop := Kp c f H ∧ CallJ c f as [] m H Q X
theorem CallK.b {id : String} {as : List Value} {Q : Value → HM → Prop} (h : CallJ c (.builtin id) as [] m H Q X) : CallK c (.builtin id) as m H Q X := ⟨Kp.builtin, h⟩
theorem CallK.t {id : String} {as : List Value} {Q : Value → HM → Prop} (h : CallJ c (.type id) as [] m H Q X) : CallK c (.type id) as m H Q X := ⟨Kp.type, h⟩
theorem CallK.k {f : Addr} {as : List Value} {Q : Value → HM → Prop} (O : Ok c K n) (hk : keepIn K (.ref f) = true) (h : CallJ c (.ref f) as [] m H Q X) : CallK c (.ref f) as m H Q X := ⟨Kp.k O hk, h⟩
theorem Ev.callK0 {fe pos} {Q : Value → HM → Prop} (h : Ev c fe m H (fun f H1 => CallK c f [] m H1 Q X) X)
    (he : eval (.Call fe [] [] pos) c.env = (do callWith pos (← eval fe c.env) [] (backTo pos (starEach [] c.env)) (backToKw pos (keywordEach [] c.env)))) : Ev c (.Call fe [] [] pos) m H Q X := Ev.call0 h he
theorem Ev.callK {fe e rest pos} {Q : Value → HM → Prop} (h : Ev c fe m H (fun f H1 => Vals c (e :: rest) m H1 (fun vs H2 => CallK c f vs m H2 Q X) X) X)
    (he : eval (.Call fe (e :: rest) [] pos) c.env = (do callWith pos (← eval fe c.env) [] (backTo pos (starEach (e :: rest) c.env)) (backToKw pos (keywordEach [] c.env))))
    (hs : starEach (e :: rest) c.env = (false, eval e c.env) :: starEach rest c.env) (hp : (backTo pos (starEach rest c.env)).any (·.1) = false) : Ev c (.Call fe (e :: rest) [] pos) m H Q X := Ev.call h he hs hp
theorem Ev.methK0 {o name apos pos} {pl : Sem Bool} {Q : Value → HM → Prop} (h : Ev c o m H (fun ov H1 => MethJ c ov name m H1 (fun f fs H2 => CallK c f fs m H2 Q X) X) X)
    (he : eval (.Call (.Attribute o name apos) [] [] pos) c.env = (do
      let ov ← eval o c.env
      standAt apos.atName
      let (f, first) ← holding [ov] (getMethod ov name pl)
      callWith pos f first (backTo pos (starEach [] c.env)) [])) : Ev c (.Call (.Attribute o name apos) [] [] pos) m H Q X := Ev.meth0 h he
theorem Ev.methK {o name apos e rest pos} {pl : Sem Bool} {Q : Value → HM → Prop} (h : Ev c o m H (fun ov H1 => MethJ c ov name m H1 (fun f fs H2 => Vals c (e :: rest) m H2 (fun vs H3 => CallK c f (fs ++ vs) m H3 Q X) X) X) X)
    (he : eval (.Call (.Attribute o name apos) (e :: rest) [] pos) c.env = (do
      let ov ← eval o c.env
      standAt apos.atName
      let (f, first) ← holding [ov] (getMethod ov name pl)
      callWith pos f first (backTo pos (starEach (e :: rest) c.env)) []))
    (hs : starEach (e :: rest) c.env = (false, eval e c.env) :: starEach rest c.env) (hp : (backTo pos (starEach rest c.env)).any (·.1) = false) : Ev c (.Call (.Attribute o name apos) (e :: rest) [] pos) m H Q X := Ev.meth h he hs hp

def ItemG (c : FC) (o i : Value) (m : LM) (H : HM) (Q : Value → HM → Prop) (X : XM) : Prop :=
  (((∃ a vs, o = .ref a ∧ (H a = some (.list vs) ∨ H a = some (.tup vs))) ∨ ∃ l, o = VT l)) ∧ ItemJ c o i m H Q X
theorem Ev.itemG {value slice pos} {Q : Value → HM → Prop} (h : Ev c value m H (fun o H1 => Ev c slice m H1 (fun i H2 => ItemG c o i m H2 Q X) X) X)
    (hs : ∀ o i, subscripted slice false o i = operate [o, i] (getItem o i)) : Ev c (.Subscript value slice pos) m H Q X := Ev.item h hs
theorem ItemG.list {a : Addr} {vs : List Value} {k : Int} {v : Value} {Q : Value → HM → Prop} (hv : H a = some (.list vs)) (hk : at? vs k = some v) (hs : k.natAbs < 2 ^ 62) (h : Q v H) : ItemG c (.ref a) (VI k) m H Q X :=
  ⟨.inl ⟨a, vs, rfl, .inl hv⟩, I_list hv hk hs h⟩
theorem ItemG.tup {a : Addr} {vs : List Value} {k : Int} {v : Value} {Q : Value → HM → Prop} (hv : H a = some (.tup vs)) (hk : at? vs k = some v) (hs : k.natAbs < 2 ^ 62) (h : Q v H) : ItemG c (.ref a) (VI k) m H Q X :=
  ⟨.inl ⟨a, vs, rfl, .inr hv⟩, I_tup hv hk hs h⟩
theorem ItemG.str {l : List Nat} {k : Int} {x : Nat} {Q : Value → HM → Prop} (hk : at? l k = some x) (hs : k.natAbs < 2 ^ 62) (h : Q (VT [x]) H) : ItemG c (VT l) (VI k) m H Q X :=
  ⟨.inr ⟨l, rfl⟩, I_str hk hs h⟩

/-- del l[k] and l[k] = v, named -/
def StoreI (c : FC) (ov iv v : Value) (m : LM) (H : HM) (Q : LM → HM → Prop) : Prop := ∃ a vs k, ov = .ref a ∧ iv = VI k ∧ H a = some (.list vs) ∧ -(vs.length : Int) ≤ k ∧ k < vs.length ∧ k.natAbs < 2 ^ 62 ∧ Q m (H.set a (.list (setAt vs k v)))
theorem Tgt.subI {o i p v} {Q : LM → HM → Prop} (h : Ev c o m H (fun ov H1 => Ev c i m H1 (fun iv H2 => StoreI c ov iv v m H2 Q) X) X) : Tgt c (.Subscript o i p) v m H Q X := Tgt.sub h
theorem StoreI.at {a : Addr} {vs : List Value} {k : Int} {v : Value} {Q : LM → HM → Prop} (hv : H a = some (.list vs)) (h0 : -(vs.length : Int) ≤ k) (h1 : k < vs.length) (hs : k.natAbs < 2 ^ 62) (h : Q m (H.set a (.list (setAt vs k v)))) : StoreI c (.ref a) (VI k) v m H Q :=
  ⟨a, vs, k, rfl, rfl, hv, h0, h1, hs, h⟩
theorem Ex.augI {o i value tpos op p} {Q : Flow → LM → HM → Prop} (h : Ev c o m H (fun ov H1 => Ev c i m H1 (fun iv H2 => ItemJ c ov iv m H2 (fun old H3 => Ev c value m H3 (fun v H4 => Op2 c (inplaceOp op) old v m H4 (fun r H5 =>
      StoreI c ov iv r m H5 (fun m' H' => Q .next m' H')) X) X) X) X) X)
    (hi : ∀ ov iv new, augStore i ov iv new = (do holding [new, ov, iv] (setItem ov iv new); release [new, ov, iv] []; pure .next)) : Ex c (.AugAssign (.Subscript o i tpos) op value p) m H Q X := Ex.augS h hi
def DelI (c : FC) (ov iv : Value) (m : LM) (H : HM) (Q : LM → HM → Prop) : Prop := ∃ a vs k, ov = .ref a ∧ iv = VI k ∧ H a = some (.list vs) ∧ -(vs.length : Int) ≤ k ∧ k < vs.length ∧ vs.length ≤ 16000000 ∧ Q m (H.set a (.list (delAt vs k)))
theorem Ex.delI {o i dp p} {Q : Flow → LM → HM → Prop} (h : Ev c o m H (fun ov H1 => Ev c i m H1 (fun iv H2 => DelI c ov iv m H2 (fun m' H' => Q .next m' H')) X) X) : Ex c (.Delete [.Subscript o i dp] p) m H Q X := Ex.delItem h
theorem DelI.at {a : Addr} {vs : List Value} {k : Int} {Q : LM → HM → Prop} (hv : H a = some (.list vs)) (h0 : -(vs.length : Int) ≤ k) (h1 : k < vs.length) (hs : vs.length ≤ 16000000) (h : Q m (H.set a (.list (delAt vs k)))) : DelI c (.ref a) (VI k) m H Q :=
  ⟨a, vs, k, rfl, rfl, hv, h0, h1, hs, h⟩

def SliceG (c : FC) (o l u : Value) (m : LM) (H : HM) (Q : Value → HM → Prop) : Prop :=
  ∃ a b, Bnd l a ∧ Bnd u b ∧ ((∃ r vs, o = .ref r ∧ H r = some (.list vs) ∧ vs.length ≤ 16000000 ∧ ∀ q, H q = none → Q (.ref q) (H.set q (.list (cut vs a b)))) ∨
        (∃ t, o = VT t ∧ t.length ≤ 16000000 ∧ Q (VT (cut t a b)) H))
theorem Ev.sliceG {value lower upper p pos} {Q : Value → HM → Prop} (h : Ev c value m H (fun o H1 => EvP c lower m H1 (fun l H2 => EvP c upper m H2 (fun u H3 => SliceG c o l u m H3 Q) X) X) X) :
    Ev c (.Subscript value (.Slice lower upper none p) pos) m H Q X := Ev.slice h
theorem SliceG.str {t : List Nat} {l u : Value} {a b : Option Nat} {Q : Value → HM → Prop} (ha : Bnd l a) (hb : Bnd u b) (hl : t.length ≤ 16000000) (h : Q (VT (cut t a b)) H) : SliceG c (VT t) l u m H Q := ⟨a, b, ha, hb, .inr ⟨t, rfl, hl, h⟩⟩
theorem SliceG.list {r : Addr} {vs : List Value} {l u : Value} {a b : Option Nat} {Q : Value → HM → Prop} (ha : Bnd l a) (hb : Bnd u b) (hv : H r = some (.list vs)) (hl : vs.length ≤ 16000000) (h : ∀ q, H q = none → Q (.ref q) (H.set q (.list (cut vs a b)))) : SliceG c (.ref r) l u m H Q :=
  ⟨a, b, ha, hb, .inl ⟨r, vs, rfl, hv, hl, h⟩⟩

theorem Bnd.ofInt {k : Int} (h : 0 ≤ k) : Bnd (VI k) (some k.toNat) := by
  obtain ⟨j, rfl⟩ := Int.eq_ofNat_of_zero_le h
  exact .int j

theorem Exs.step {st rest} {Q : Flow → LM → HM → Prop} (h : Ex c st m H (fun f m1 H1 => match f with | .next => Exs c rest m1 H1 Q X | f => Q f m1 H1) X) : Exs c (st :: rest) m H Q X := Exs.cons h
end
end Mine
end

section
open PySem PySem.W PySem.Calls PyProof.Rows PySem.Builtin PySem.Builtin.Str
set_option linter.all false
set_option maxRecDepth 100000
namespace Mine

/-! ## a function of the fragment, by its address -/
def fdOf (K : Frag) (f : Addr) : FuncData := match K.lookup f with
  | some ⟨_, _, .func fd, _⟩ => fd
  | _ => default
def okBinds (names : List (Str × NameKind)) (xs : List Str) : Bool := xs.all fun x => names.lookup x == some .local || names.lookup x == some .cell

section
variable {c : FC} {K : Frag} {n : Nat} {m : LM} {H F : HM} {X : XM} {s : Shared}

theorem CallJ.go {f : Addr} {fd : FuncData} {body : List Stmt} {as : List Value} {ks bs : List (Str × Value)} {Q : Value → HM → Prop} (O : Ok c K (n + 1)) (W : Fn K f fd body) (hb : FnBinds K fd as ks bs)
    (hk : okBinds fd.scope.names (bs.map (·.1)) = true)
    (h : ∀ L, (∀ k, L ≤ k → H k = none) → Ok (c.call (fdOf K f) L f) K n → Exs (c.call (fdOf K f) L f) body (bindLM (c.call (fdOf K f) L f).env.kindOf bs []) (cellsH H (cellsFrom (L + 1) (fdOf K f).scope.names []) (bindCM (c.call (fdOf K f) L f).env.kindOf bs fun _ => none))
      (fun fl _ H' => ∃ H'', H''.le H' ∧ Q (match fl with | .ret v => v | _ => .none) H'') XF) : CallJ c (.ref f) as ks m H Q X := by
  have ef : fdOf K f = fd := by
    obtain ⟨_, _, _, e⟩ := W.look
    unfold fdOf; rw [e]
  subst ef
  exact CallJ.fn O W hb (fun x hx => by
    have := List.all_eq_true.mp hk x.1 (List.mem_map.mpr ⟨x, hx, rfl⟩)
    rw [Bool.or_eq_true, beq_iff_eq, beq_iff_eq] at this
    exact this) h

theorem Ev.locX {x p} {Q : Value → HM → Prop} (v : Value) (hv : m.lookup x = some v) (hk : c.env.scope.kind = .function) (hl : c.env.kindOf x = some .local) (hd : (x == ("__debug__" : Str)) = false) (h : Q v H) : Ev c (.Name x p) m H Q X := Ev.loc hk hl hv h hd
theorem LoadJ.locX {x} {Q : Value → HM → Prop} (v : Value) (hv : m.lookup x = some v) (hk : c.env.scope.kind = .function) (hl : c.env.kindOf x = some .local) (h : Q v H) : LoadJ c x m H Q X := LoadJ.loc hk hl hv h
theorem Ev.textX {x k p} {Q : Value → HM → Prop} (l : List Nat) (hx : x = S l) (h : Q (VT l) H) : Ev c (.Constant (.str x) k p) m H Q X := Ev.text hx h
theorem FnBinds.a0 {fd : FuncData} (h : bindArgs fd ⟨[], []⟩ = pure []) : FnBinds K fd [] [] [] := fun Vs Ks e1 e2 => by
  obtain rfl := ers_nil e1; obtain rfl := kw0 e2
  exact ⟨[], fun s _ => BindsTo.of_eq h, rfl⟩
theorem FnBinds.a1 {fd : FuncData} {x : Str} {a : Value} (h : ∀ V, bindArgs fd ⟨[V], []⟩ = pure [(x, V)]) : FnBinds K fd [a] [] [(x, a)] := fun Vs Ks e1 e2 => by
  obtain ⟨V, rfl, rfl⟩ := call1 (as := []) e1; obtain rfl := kw0 e2
  exact ⟨[(x, V)], fun s _ => BindsTo.of_eq (h V), rfl⟩
theorem FnBinds.a2 {fd : FuncData} {x y : Str} {a b : Value} (h : ∀ V W, bindArgs fd ⟨[V, W], []⟩ = pure [(x, V), (y, W)]) : FnBinds K fd [a, b] [] [(x, a), (y, b)] := fun Vs Ks e1 e2 => by
  obtain ⟨V, W, rfl, rfl, rfl⟩ := call2 e1; obtain rfl := kw0 e2
  exact ⟨[(x, V), (y, W)], fun s _ => BindsTo.of_eq (h V W), rfl⟩
theorem call3 {Vs : List Value} {a b d : Value} (h : Vs.map er = [a, b, d]) : ∃ V W Z, Vs = [V, W, Z] ∧ er V = a ∧ er W = b ∧ er Z = d := by
  obtain ⟨V, r, rfl, e, h⟩ := ers_cons h
  obtain ⟨W, Z, rfl, e', e''⟩ := call2 h
  exact ⟨V, W, Z, rfl, e, e', e''⟩
theorem call4 {Vs : List Value} {a b d f : Value} (h : Vs.map er = [a, b, d, f]) : ∃ V W Z U, Vs = [V, W, Z, U] ∧ er V = a ∧ er W = b ∧ er Z = d ∧ er U = f := by
  obtain ⟨V, r, rfl, e, h⟩ := ers_cons h
  obtain ⟨W, Z, U, rfl, e1, e2, e3⟩ := call3 h
  exact ⟨V, W, Z, U, rfl, e, e1, e2, e3⟩
theorem call5 {Vs : List Value} {a b d f g : Value} (h : Vs.map er = [a, b, d, f, g]) : ∃ V W Z U Y, Vs = [V, W, Z, U, Y] ∧ er V = a ∧ er W = b ∧ er Z = d ∧ er U = f ∧ er Y = g := by
  obtain ⟨V, r, rfl, e, h⟩ := ers_cons h
  obtain ⟨W, Z, U, Y, rfl, e1, e2, e3, e4⟩ := call4 h
  exact ⟨V, W, Z, U, Y, rfl, e, e1, e2, e3, e4⟩
theorem FnBinds.a3 {fd : FuncData} {x y z : Str} {a b d : Value} (h : ∀ V W Z, bindArgs fd ⟨[V, W, Z], []⟩ = pure [(x, V), (y, W), (z, Z)]) : FnBinds K fd [a, b, d] [] [(x, a), (y, b), (z, d)] := fun Vs Ks e1 e2 => by
  obtain ⟨V, W, Z, rfl, rfl, rfl, rfl⟩ := call3 e1; obtain rfl := kw0 e2
  exact ⟨[(x, V), (y, W), (z, Z)], fun s _ => BindsTo.of_eq (h V W Z), rfl⟩
theorem FnBinds.a4 {fd : FuncData} {x y z u : Str} {a b d f : Value} (h : ∀ V W Z U, bindArgs fd ⟨[V, W, Z, U], []⟩ = pure [(x, V), (y, W), (z, Z), (u, U)]) : FnBinds K fd [a, b, d, f] [] [(x, a), (y, b), (z, d), (u, f)] := fun Vs Ks e1 e2 => by
  obtain ⟨V, W, Z, U, rfl, rfl, rfl, rfl, rfl⟩ := call4 e1; obtain rfl := kw0 e2
  exact ⟨[(x, V), (y, W), (z, Z), (u, U)], fun s _ => BindsTo.of_eq (h V W Z U), rfl⟩
theorem FnBinds.a5 {fd : FuncData} {x y z u v : Str} {a b d f g : Value} (h : ∀ V W Z U Y, bindArgs fd ⟨[V, W, Z, U, Y], []⟩ = pure [(x, V), (y, W), (z, Z), (u, U), (v, Y)]) : FnBinds K fd [a, b, d, f, g] [] [(x, a), (y, b), (z, d), (u, f), (v, g)] := fun Vs Ks e1 e2 => by
  obtain ⟨V, W, Z, U, Y, rfl, rfl, rfl, rfl, rfl, rfl⟩ := call5 e1; obtain rfl := kw0 e2
  exact ⟨[(x, V), (y, W), (z, Z), (u, U), (v, Y)], fun s _ => BindsTo.of_eq (h V W Z U Y), rfl⟩
end
end Mine
end

section
open PySem PySem.W PySem.Calls PyProof.Rows PySem.Builtin PySem.Builtin.Str
set_option linter.all false
set_option maxRecDepth 100000
namespace Mine

section
variable {c : FC} {K : Frag} {n : Nat} {m : LM} {H F : HM} {X : XM} {s : Shared}

def ThenJ (c : FC) (rest : List Stmt) (Q : Flow → LM → HM → Prop) (X : XM) (f : Flow) (m : LM) (H : HM) : Prop := match f with | .next => Exs c rest m H Q X | f => Q f m H
theorem ThenJ.next {rest : List Stmt} {Q : Flow → LM → HM → Prop} (h : Exs c rest m H Q X) : ThenJ c rest Q X .next m H := h
theorem ThenJ.ret {rest : List Stmt} {Q : Flow → LM → HM → Prop} {v : Value} (h : Q (.ret v) m H) : ThenJ c rest Q X (.ret v) m H := h
theorem ThenJ.brk {rest : List Stmt} {Q : Flow → LM → HM → Prop} (h : Q .brk m H) : ThenJ c rest Q X .brk m H := h
theorem ThenJ.cont {rest : List Stmt} {Q : Flow → LM → HM → Prop} (h : Q .cont m H) : ThenJ c rest Q X .cont m H := h
theorem Exs.go {st rest} {Q : Flow → LM → HM → Prop} (h : Ex c st m H (ThenJ c rest Q X) X) : Exs c (st :: rest) m H Q X := Exs.cons h

def EndJ (Q : Value → HM → Prop) (f : Flow) (m : LM) (H : HM) : Prop := ∃ H'', H''.le H ∧ Q (match f with | .ret v => v | _ => .none) H''
theorem EndJ.ret {Q : Value → HM → Prop} {v : Value} (H' : HM) (hl : H'.le H) (h : Q v H') : EndJ Q (.ret v) m H := ⟨H', hl, h⟩
theorem EndJ.retE {Q : Value → HM → Prop} {v : Value} (h : Q v H) : EndJ Q (.ret v) m H := ⟨H, HM.le.refl H, h⟩
theorem EndJ.next {Q : Value → HM → Prop} (H' : HM) (hl : H'.le H) (h : Q .none H') : EndJ Q .next m H := ⟨H', hl, h⟩
theorem EndJ.nextE {Q : Value → HM → Prop} (h : Q .none H) : EndJ Q .next m H := ⟨H, HM.le.refl H, h⟩
theorem CallJ.run {f : Addr} {fd : FuncData} {body : List Stmt} {as : List Value} {ks bs : List (Str × Value)} {Q : Value → HM → Prop} (O : Ok c K (n + 1)) (W : Fn K f fd body) (hb : FnBinds K fd as ks bs)
    (hk : okBinds fd.scope.names (bs.map (·.1)) = true)
    (h : ∀ L, (∀ k, L ≤ k → H k = none) → Ok (c.call (fdOf K f) L f) K n → Exs (c.call (fdOf K f) L f) body (bindLM (c.call (fdOf K f) L f).env.kindOf bs []) (cellsH H (cellsFrom (L + 1) (fdOf K f).scope.names []) (bindCM (c.call (fdOf K f) L f).env.kindOf bs fun _ => none)) (EndJ Q) XF) : CallJ c (.ref f) as ks m H Q X :=
  CallJ.go O W hb hk h

def ForK (N B : LM → HM → Prop) (R : Value → LM → HM → Prop) (f : Flow) (m : LM) (H : HM) : Prop := match f with
  | .next | .cont => N m H
  | .brk => B m H
  | .ret v => R v m H
theorem ForK.next {N B : LM → HM → Prop} {R : Value → LM → HM → Prop} (h : N m H) : ForK N B R .next m H := h
theorem ForK.cont {N B : LM → HM → Prop} {R : Value → LM → HM → Prop} (h : N m H) : ForK N B R .cont m H := h
theorem ForK.brk {N B : LM → HM → Prop} {R : Value → LM → HM → Prop} (h : B m H) : ForK N B R .brk m H := h
theorem ForK.ret {N B : LM → HM → Prop} {R : Value → LM → HM → Prop} {v : Value} (h : R v m H) : ForK N B R (.ret v) m H := h

def ForJ (c : FC) (tgt : Expr) (body : List Stmt) (m : LM) (H1 : HM) (v : Value) (Q : Flow → LM → HM → Prop) : Prop :=
  ∃ xs tup Hd back, Src H1 tgt v xs tup Hd back ∧ ∃ Inv : Nat → LM → HM → Prop, Keep (Inv 0) m Hd ∧
      (∀ k x m' H', xs[k]? = some x → Inv k m' H' → Yld tup k x H' (fun v' H2 => Tgt c tgt v' m' H2 (fun m3 H3 => Exs c body m3 H3 (ForK (Keep (Inv (k + 1))) (fun m4 H4 => Q .next m4 (back H4)) (fun v m4 H4 => Q (.ret v) m4 (back H4))) XF) XF)) ∧
      (∀ m' H', Inv xs.length m' H' → Q .next m' (back H'))
theorem Ex.forG {tgt iter body p} {Q : Flow → LM → HM → Prop} (hh : c.A.handled = none) (h : Ev c iter m H (fun v H1 => ForJ c tgt body m H1 v Q) X)
    (hs : ∀ x, foldedSetIterable iter c.env x = pure x) : Ex c (.For tgt iter body [] p) m H Q X := by
  refine Ex.for hh (h.mono (fun v H1 ⟨xs, tup, Hd, back, src, Inv, h0, step, fin⟩ => ⟨xs, tup, Hd, back, src, Inv, h0, fun k x m' H' hx iv => ?_, fin⟩) fun _ _ _ x => x) hs
  have st := step k x m' H' hx iv
  have up : ∀ v' H2, Tgt c tgt v' m' H2 (fun m3 H3 => Exs c body m3 H3 (ForK (Keep (Inv (k + 1))) (fun m4 H4 => Q .next m4 (back H4)) (fun v m4 H4 => Q (.ret v) m4 (back H4))) XF) XF →
      Tgt c tgt v' m' H2 (fun m3 H3 => Exs c body m3 H3 (fun f m4 H4 => match f with
        | .next | .cont => Keep (Inv (k + 1)) m4 H4
        | .brk => Q .next m4 (back H4)
        | .ret v => Q (.ret v) m4 (back H4)) XF) XF := by
    intro v' H2 h V e
    refine (h V e).mono (fun m3 H3 h3 => h3.mono (fun f m4 H4 h4 => ?_) fun _ _ _ x => x) fun _ _ _ x => x
    cases f <;> exact h4
  cases tup with
  | false => exact up _ _ st
  | true => exact fun a ha => up _ _ (st a ha)

def Less (Inv : Nat → LM → HM → Prop) (k : Nat) (m : LM) (H : HM) : Prop := ∃ k', k' < k ∧ Keep (Inv k') m H
theorem Ex.whileG {test body p} {Q : Flow → LM → HM → Prop} (Inv : Nat → LM → HM → Prop) (k : Nat) (h0 : Keep (Inv k) m H)
    (step : ∀ k m' H', Inv k m' H' → Tst c test m' H' (fun b H1 => if b = true then Exs c body m' H1 (ForK (Less Inv k) (fun m2 H2 => Q .next m2 H2) (fun v m2 H2 => Q (.ret v) m2 H2)) XF else Q .next m' H1) XF) : Ex c (.While test body [] p) m H Q X :=
  Ex.while Inv k h0 fun k m' H' iv => (step k m' H' iv).mono (fun b H1 h1 => by
    cases b with
    | true =>
      rw [if_pos rfl] at h1 ⊢
      refine h1.mono (fun f m4 H4 h4 => ?_) fun _ _ _ x => x
      cases f <;> exact h4
    | false => exact h1) fun _ _ _ x => x

theorem CallK.kX {f : Addr} {as : List Value} {Q : Value → HM → Prop} (K : Frag) (n : Nat) (O : Ok c K n) (hk : keepIn K (.ref f) = true) (h : CallJ c (.ref f) as [] m H Q X) : CallK c (.ref f) as m H Q X := .k O hk h
theorem C_pop0X {a : Addr} {Q : Value → HM → Prop} (v : Value) (vs : List Value) (hv : H a = some (.list (v :: vs))) (hl : vs.length < 16000000) (h : Q v (H.set a (.list vs))) : CallJ c (.builtin "list.pop") [.ref a, VI 0] [] m H Q X := C_pop0 hv hl h
theorem C_popX {a : Addr} {Q : Value → HM → Prop} (v : Value) (vs : List Value) (hv : H a = some (.list (vs ++ [v]))) (hl : vs.length < 16000000) (h : Q v (H.set a (.list vs))) : CallJ c (.builtin "list.pop") [.ref a] [] m H Q X := C_pop hv hl h
theorem Ev.methKX0 {o name apos pos} {Q : Value → HM → Prop} (pl : Sem Bool)
    (he : eval (.Call (.Attribute o name apos) [] [] pos) c.env = (do
      let ov ← eval o c.env
      standAt apos.atName
      let (f, first) ← holding [ov] (getMethod ov name pl)
      callWith pos f first (backTo pos (starEach [] c.env)) []))
    (h : Ev c o m H (fun ov H1 => MethJ c ov name m H1 (fun f fs H2 => CallK c f fs m H2 Q X) X) X) : Ev c (.Call (.Attribute o name apos) [] [] pos) m H Q X := Ev.methK0 h he
theorem Ev.methKX {o name apos e rest pos} {Q : Value → HM → Prop} (pl : Sem Bool)
    (he : eval (.Call (.Attribute o name apos) (e :: rest) [] pos) c.env = (do
      let ov ← eval o c.env
      standAt apos.atName
      let (f, first) ← holding [ov] (getMethod ov name pl)
      callWith pos f first (backTo pos (starEach (e :: rest) c.env)) []))
    (hs : starEach (e :: rest) c.env = (false, eval e c.env) :: starEach rest c.env) (hp : (backTo pos (starEach rest c.env)).any (·.1) = false)
    (h : Ev c o m H (fun ov H1 => MethJ c ov name m H1 (fun f fs H2 => Vals c (e :: rest) m H2 (fun vs H3 => CallK c f (fs ++ vs) m H3 Q X) X) X) X) : Ev c (.Call (.Attribute o name apos) (e :: rest) [] pos) m H Q X := Ev.methK h he hs hp
theorem CallK.app {f a : Value} {r : List Value} {Q : Value → HM → Prop} (h : CallK c f (a :: r) m H Q X) : CallK c f ([a] ++ r) m H Q X := h
theorem setAt_length {α : Type} (vs : List α) (k : Int) (v : α) : (setAt vs k v).length = vs.length := by simp [setAt]
theorem iteD {p : Prop} [Decidable p] {A B : Prop} (h1 : p → A) (h2 : ¬ p → B) : if decide p = true then A else B := by
  by_cases h : p
  · rw [if_pos (decide_eq_true h)]; exact h1 h
  · rw [if_neg (by simp [h])]; exact h2 h
theorem iteN {p : Prop} [Decidable p] {A B : Prop} (h1 : ¬ p → A) (h2 : p → B) : if (!decide p) = true then A else B := by
  by_cases h : p
  · rw [if_neg (by simp [h])]; exact h2 h
  · rw [if_pos (by simp [h])]; exact h1 h
theorem iteT {A B : Prop} (h : A) : if true = true then A else B := by rw [if_pos rfl]; exact h
theorem iteF {A B : Prop} (h : B) : if false = true then A else B := by rw [if_neg Bool.false_ne_true]; exact h
theorem iteB {b : Bool} {A B : Prop} (h1 : b = true → A) (h2 : b = false → B) : if b = true then A else B := by
  cases b
  · rw [if_neg Bool.false_ne_true]; exact h2 rfl
  · rw [if_pos rfl]; exact h1 rfl
theorem ItemG.listX {a : Addr} {k : Int} {Q : Value → HM → Prop} (vs : List Value) (v : Value) (hv : H a = some (.list vs)) (hk : at? vs k = some v) (hs : k.natAbs < 2 ^ 62) (h : Q v H) : ItemG c (.ref a) (VI k) m H Q X := .list hv hk hs h
theorem ItemG.tupX {a : Addr} {k : Int} {Q : Value → HM → Prop} (vs : List Value) (v : Value) (hv : H a = some (.tup vs)) (hk : at? vs k = some v) (hs : k.natAbs < 2 ^ 62) (h : Q v H) : ItemG c (.ref a) (VI k) m H Q X := .tup hv hk hs h
theorem I_listX {a : Addr} {k : Int} {Q : Value → HM → Prop} (vs : List Value) (v : Value) (hv : H a = some (.list vs)) (hk : at? vs k = some v) (hs : k.natAbs < 2 ^ 62) (h : Q v H) : ItemJ c (.ref a) (VI k) m H Q X := I_list hv hk hs h
theorem StoreI.atX {a : Addr} {k : Int} {v : Value} {Q : LM → HM → Prop} (vs : List Value) (hv : H a = some (.list vs)) (h0 : -(vs.length : Int) ≤ k) (h1 : k < vs.length) (hs : k.natAbs < 2 ^ 62) (h : Q m (H.set a (.list (setAt vs k v)))) : StoreI c (.ref a) (VI k) v m H Q := .at hv h0 h1 hs h
theorem DelI.atX {a : Addr} {k : Int} {Q : LM → HM → Prop} (vs : List Value) (hv : H a = some (.list vs)) (h0 : -(vs.length : Int) ≤ k) (h1 : k < vs.length) (hs : vs.length ≤ 16000000) (h : Q m (H.set a (.list (delAt vs k)))) : DelI c (.ref a) (VI k) m H Q := .at hv h0 h1 hs h
theorem Ev.globX {x p} {Q : Value → HM → Prop} (K : Frag) (n : Nat) (v : Value) (O : Ok c K n) (e : nsIn K mainGlobals x = some (some v)) (hl : c.env.kindOf x = some .globalImplicit) (hd : (x == ("__debug__" : Str)) = false) (h : Q (er v) H) : Ev c (.Name x p) m H Q X := Ev.glob O hl e h hd
theorem Ev.bltX {x p} {Q : Value → HM → Prop} (K : Frag) (n : Nat) (v : Value) (hv : bootBuiltins x = some v) (O : Ok c K n) (hl : c.env.kindOf x = some .globalImplicit) (e : nsIn K mainGlobals x = some none) (hn : x ≠ "__name__") (hd : (x == ("__debug__" : Str)) = false) (h : Q (er v) H) : Ev c (.Name x p) m H Q X := Ev.blt O hl e hv hn h hd
theorem MethJ.listX {a : Addr} {name : Str} {id : String} {Q : Value → List Value → HM → Prop} (vs : List Value) (hl : H a = some (.list vs)) (slot : Slot "list" name id) (ty : typeOf (.builtin id) = pure (.type "method_descriptor")) (h : Q (.builtin id) [.ref a] H) : MethJ c (.ref a) name m H Q X := .list hl slot ty h
theorem T_listX {a : Addr} {Q : Bool → HM → Prop} (vs : List Value) (hv : H a = some (.list vs)) (hl : vs.length ≤ 16000000) (h : Q (!vs.isEmpty) H) : Tru c (.ref a) m H Q X := T_list hv hl h
theorem C_appendX {a : Addr} {v : Value} {Q : Value → HM → Prop} (vs : List Value) (hv : H a = some (.list vs)) (hl : vs.length ≤ 16000000) (h : Q .none (H.set a (.list (vs ++ [v])))) : CallJ c (.builtin "list.append") [.ref a, v] [] m H Q X := C_append hv hl h
theorem C_lenLX {a : Addr} {Q : Value → HM → Prop} (vs : List Value) (hv : H a = some (.list vs)) (hl : vs.length ≤ 16000000) (h : Q (VI vs.length) H) : CallJ c (.builtin "len") [.ref a] [] m H Q X := C_lenL hv hl h
theorem O_addLX {a b : Addr} {Q : Value → HM → Prop} (vs us : List Value) (hv : H a = some (.list vs)) (hu : H b = some (.list us)) (hl : vs.length + us.length ≤ 16000000) (h : ∀ r, H r = none → Q (.ref r) (H.set r (.list (vs ++ us)))) : Op2 c (binaryOp .Add) (.ref a) (.ref b) m H Q X := O_addL hv hu hl h
theorem O_eqLX {a b : Addr} {Q : Value → HM → Prop} (K : Frag) (n : Nat) (vs us : List Value) (hv : H a = some (.list vs)) (hu : H b = some (.list us)) (O : Ok c K n) (hf : ∀ x ∈ vs, ∀ y ∈ us, Flat2 x y) (h : Q (VB (decide (vs = us))) H) : Op2 c (compareOp .Eq) (.ref a) (.ref b) m H Q X := O_eqL O hv hu hf h
theorem O_neLX {a b : Addr} {Q : Value → HM → Prop} (K : Frag) (n : Nat) (vs us : List Value) (hv : H a = some (.list vs)) (hu : H b = some (.list us)) (O : Ok c K n) (hf : ∀ x ∈ vs, ∀ y ∈ us, Flat2 x y) (h : Q (VB (!decide (vs = us))) H) : Op2 c (compareOp .NotEq) (.ref a) (.ref b) m H Q X := O_neL O hv hu hf h
theorem MethJ.strX {l : List Nat} {name : Str} {id : String} {Q : Value → List Value → HM → Prop} (slot : Slot "str" name id) (ty : typeOf (.builtin id) = pure (.type "method_descriptor")) (h : Q (.builtin id) [VT l] H) : MethJ c (VT l) name m H Q X := .str slot ty h
end
end Mine
end

section
open PySem PySem.W PySem.Calls PyProof.Rows PySem.Builtin PySem.Builtin.Str
set_option linter.all false
set_option maxRecDepth 100000
namespace Mine

theorem HM.set_none {H : HM} {a r : Addr} {o : AO} : (H.set a o) r = none ↔ r ≠ a ∧ H r = none := by
  unfold HM.set
  by_cases h : r = a
  · simp [h]
  · simp [h]
theorem HM.ne_ofX {a b : Addr} (H : HM) (o : AO) (hb : H b = some o) (ha : H a = none) : b ≠ a := HM.ne_of ha hb
theorem HM.ne_ofY {a b : Addr} (H : HM) (o : AO) (ha : H a = none) (hb : H b = some o) : b ≠ a := HM.ne_of ha hb
theorem HM.del_none {H : HM} {a r : Addr} : (H.del a) r = none ↔ r = a ∨ H r = none := by
  unfold HM.del
  by_cases h : r = a
  · simp [h]
  · simp [h]
section
variable {c : FC} {K : Frag} {n : Nat} {m : LM} {H F : HM} {X : XM} {s : Shared}
def NewL (vs : List Value) (H : HM) (Q : Value → HM → Prop) : Prop := vs.length ≤ 16000000 ∧ ∀ a, H a = none → Q (.ref a) (H.set a (.list vs))
def NewT (vs : List Value) (H : HM) (Q : Value → HM → Prop) : Prop := vs.length ≤ 16000000 ∧ ∀ a, H a = none → Q (.ref a) (H.set a (.tup vs))
theorem NewL.mk {vs : List Value} {Q : Value → HM → Prop} (hl : vs.length ≤ 16000000) (h : ∀ a, H a = none → Q (.ref a) (H.set a (.list vs))) : NewL vs H Q := ⟨hl, h⟩
theorem NewT.mk {vs : List Value} {Q : Value → HM → Prop} (hl : vs.length ≤ 16000000) (h : ∀ a, H a = none → Q (.ref a) (H.set a (.tup vs))) : NewT vs H Q := ⟨hl, h⟩
theorem Ev.listG {es p} {Q : Value → HM → Prop} (h : Vals c es m H (fun vs H1 => NewL vs H1 Q) X) : Ev c (.List es p) m H Q X := Ev.list h
theorem Ev.tupleG {es k p} {Q : Value → HM → Prop} (h : Vals c es m H (fun vs H1 => NewT vs H1 Q) X) : Ev c (.Tuple es k p) m H Q X := Ev.tuple h

theorem flat_nil (vs : List Value) : ∀ x ∈ vs, ∀ y ∈ ([] : List Value), Flat2 x y := fun _ _ _ h => nomatch h
theorem flat_texts (a b : List (List Nat)) : ∀ x ∈ a.map VT, ∀ y ∈ b.map VT, Flat2 x y := fun x hx y hy => by
  obtain ⟨l, _, rfl⟩ := List.mem_map.mp hx
  obtain ⟨k, _, rfl⟩ := List.mem_map.mp hy
  exact .inr ⟨_, _, rfl, rfl⟩
theorem flat_ints (a b : List Int) : ∀ x ∈ a.map VI, ∀ y ∈ b.map VI, Flat2 x y := fun x hx y hy => by
  obtain ⟨l, _, rfl⟩ := List.mem_map.mp hx
  obtain ⟨k, _, rfl⟩ := List.mem_map.mp hy
  exact .inl ⟨_, _, rfl, rfl⟩
/-! ## heaps below heaps -/
theorem HM.le_fresh {H : HM} {r : Addr} {o : AO} (h : H r = none) : H.le (H.set r o) := HM.le_set o h
theorem HM.le_fresh' {H H' : HM} {r : Addr} {o : AO} (h : H' r = none) (l : H.le H') : H.le (H'.set r o) := l.trans (HM.le_set o h)
/-- an entry at an address, and below it a heap that has it not -/
theorem HM.le_ins {H H' : HM} {r : Addr} {o : AO} (h : H r = none) (l : H.le H') : H.le (H'.set r o) := fun a x e => by
  have : a ≠ r := by rintro rfl; rw [h] at e; cases e
  rw [HM.set_ne _ _ this]; exact l a x e
/-- an entry set on both sides, deeper on the right -/
theorem HM.le_swap {H H' : HM} {a b : Addr} {x y : AO} (hn : a ≠ b) (l : (H.set a x).le ((H'.set a x).set b y)) : (H.set a x).le ((H'.set b y).set a x) := by
  rw [HM.set_comm H' y x hn.symm]; exact l
end
end Mine
end

section
open PySem PySem.W PySem.Calls PyProof.Rows PySem.Builtin PySem.Builtin.Str
set_option linter.all false
set_option maxRecDepth 100000
namespace Mine

theorem plainAttrs_Pattern : PlainAttrs "re.Pattern" :=
  ⟨⟨"object.__getattribute__", by rw [typeLookup_type, builtinLookup_eq_fast]; kernel_rfl, by decide +kernel⟩, by rw [typeLookup_type, builtinLookup_eq_fast]; kernel_rfl⟩
theorem plainAttrs_Match : PlainAttrs "re.Match" :=
  ⟨⟨"object.__getattribute__", by rw [typeLookup_type, builtinLookup_eq_fast]; kernel_rfl, by decide +kernel⟩, by rw [typeLookup_type, builtinLookup_eq_fast]; kernel_rfl⟩
theorem slot_Pattern_sub : Slot "re.Pattern" "sub" "re.Pattern.sub" :=
  .of (owner := "re.Pattern") (n := "sub") (by rw [typeLookup_type, builtinLookup_eq_fast]; kernel_rfl) (by decide +kernel) (by decide +kernel) (by decide +kernel)
    (by first | exact .inl (by decide +kernel) | exact .inr (by decide +kernel)) (by rw [isSubtype_type]; kernel_rfl)
theorem type_Pattern_sub : typeOf (.builtin "re.Pattern.sub") = pure (.type "method_descriptor") := by show builtinType _ = _; rw [builtinType_eq_fast]; kernel_rfl
theorem entry_Pattern_sub : entryFor table "re.Pattern.sub" = some Builtin.«re.Pattern.sub» := entryFor_of_tree (by kernel_rfl)
theorem entry_Pattern_loop : entryFor table "re.Pattern.sub.loop" = some Builtin.«re.Pattern.sub.loop» := entryFor_of_tree (by kernel_rfl)
theorem slot_Pattern_match : Slot "re.Pattern" "match" "re.Pattern.match" :=
  .of (owner := "re.Pattern") (n := "match") (by rw [typeLookup_type, builtinLookup_eq_fast]; kernel_rfl) (by decide +kernel) (by decide +kernel) (by decide +kernel)
    (by first | exact .inl (by decide +kernel) | exact .inr (by decide +kernel)) (by rw [isSubtype_type]; kernel_rfl)
theorem type_Pattern_match : typeOf (.builtin "re.Pattern.match") = pure (.type "method_descriptor") := by show builtinType _ = _; rw [builtinType_eq_fast]; kernel_rfl
theorem entry_Pattern_match : entryFor table "re.Pattern.match" = some Builtin.«re.Pattern.match» := entryFor_of_tree (by kernel_rfl)
theorem slot_Match_end : Slot "re.Match" "end" "re.Match.end" :=
  .of (owner := "re.Match") (n := "end") (by rw [typeLookup_type, builtinLookup_eq_fast]; kernel_rfl) (by decide +kernel) (by decide +kernel) (by decide +kernel)
    (by first | exact .inl (by decide +kernel) | exact .inr (by decide +kernel)) (by rw [isSubtype_type]; kernel_rfl)
theorem type_Match_end : typeOf (.builtin "re.Match.end") = pure (.type "method_descriptor") := by show builtinType _ = _; rw [builtinType_eq_fast]; kernel_rfl
theorem entry_Match_end : entryFor table "re.Match.end" = some Builtin.«re.Match.end» := entryFor_of_tree (by kernel_rfl)
theorem args_Pattern_sub (a b d : Value) : argsOk "re.Pattern.sub" ⟨[a, b, d], []⟩ := by
  unfold argsOk; kernel_rfl
theorem args_Pattern_match (a b d : Value) : argsOk "re.Pattern.match" ⟨[a, b, d], []⟩ := by
  unfold argsOk; kernel_rfl
theorem args_Match_end (a : Value) : argsOk "re.Match.end" ⟨[a], []⟩ := by
  unfold argsOk; kernel_rfl
theorem plain_loop : plainId "re.Pattern.sub.loop" = true := by decide +kernel
end Mine
end

section
open PySem PySem.Sre
set_option linter.all false
set_option maxRecDepth 100000
namespace Mine

/-! ## the pattern's machine -/
def reCode : Array Nat := #[14, 10, 1, 3, 4294967295, 2, 2, 27, 91, 0, 0, 16, 27, 16, 91, 24, 10, 0, 4294967295, 13, 5, 22, 48, 63, 0, 1, 24, 10, 0, 4294967295, 13, 5, 22, 32, 47, 0, 1, 13, 5, 22, 64, 126, 0, 1]

theorem in1 (c : Nat) (seen : Seen) : ∃ seen', inSet reCode c 44 21 true seen = .ok (48 ≤ c && c ≤ 63, seen') := by
  show ∃ seen', (if (48 ≤ c && c ≤ 63) = true then Except.ok (true, seen.add 22) else Except.ok (!true, (seen.add 22).add 0)) = _
  cases h : (48 ≤ c && c ≤ 63)
  · exact ⟨_, rfl⟩
  · exact ⟨_, rfl⟩
theorem in2 (c : Nat) (seen : Seen) : ∃ seen', inSet reCode c 44 32 true seen = .ok (32 ≤ c && c ≤ 47, seen') := by
  show ∃ seen', (if (32 ≤ c && c ≤ 47) = true then Except.ok (true, seen.add 22) else Except.ok (!true, (seen.add 22).add 0)) = _
  cases h : (32 ≤ c && c ≤ 47)
  · exact ⟨_, rfl⟩
  · exact ⟨_, rfl⟩
theorem in3 (c : Nat) (seen : Seen) : ∃ seen', inSet reCode c 44 39 true seen = .ok (64 ≤ c && c ≤ 126, seen') := by
  show ∃ seen', (if (64 ≤ c && c ≤ 126) = true then Except.ok (true, seen.add 22) else Except.ok (!true, (seen.add 22).add 0)) = _
  cases h : (64 ≤ c && c ≤ 126)
  · exact ⟨_, rfl⟩
  · exact ⟨_, rfl⟩
theorem acc1 (c : Nat) (seen : Seen) : ∃ seen', accepts reCode 19 c seen = .ok (48 ≤ c && c ≤ 63, seen') := in1 c seen
theorem acc2 (c : Nat) (seen : Seen) : ∃ seen', accepts reCode 30 c seen = .ok (32 ≤ c && c ≤ 47, seen') := in2 c seen
theorem acc3 (c : Nat) (seen : Seen) : ∃ seen', accepts reCode 37 c seen = .ok (64 ≤ c && c ≤ 126, seen') := in3 c seen

theorem run_spec (i : Nat) (pr : Nat → Bool) (ha : ∀ c seen, ∃ seen', accepts reCode i c seen = .ok (pr c, seen')) (t : Array Nat) : ∀ (k n p found : Nat) (seen : Seen), k ≤ n → (∀ j, j < k → pr (t.getD (p + j) 0) = true) → (k = n ∨ pr (t.getD (p + k) 0) = false) →
    ∃ seen', Sre.run reCode t i n p found seen = .ok (found + k, seen')
  | 0, n, p, found, seen, hk, h1, h2 => by
    cases n with
    | zero => exact ⟨seen, rfl⟩
    | succ n =>
      obtain ⟨s', e⟩ := ha (t.getD p 0) seen
      rcases h2 with h2 | h2
      · cases h2
      · unfold Sre.run
        rw [e]
        rw [Nat.add_zero] at h2
        refine ⟨s', ?_⟩
        show (if pr (t.getD p 0) = true then _ else pure (found, s')) = _
        rw [h2]; rfl
  | k + 1, n, p, found, seen, hk, h1, h2 => by
    cases n with
    | zero => omega
    | succ n =>
      obtain ⟨s', e⟩ := ha (t.getD p 0) seen
      obtain ⟨s2, e2⟩ := run_spec i pr ha t k n (p + 1) (found + 1) s' (by omega) (fun j hj => by have := h1 (j + 1) (by omega); rwa [show p + 1 + j = p + (j + 1) from by omega]) (by
        rcases h2 with h2 | h2
        · exact .inl (by omega)
        · right; rwa [show p + 1 + k = p + (k + 1) from by omega])
      refine ⟨s2, ?_⟩
      unfold Sre.run
      rw [e]
      show (if pr (t.getD p 0) = true then Sre.run reCode t i n (p + 1) (found + 1) s' else _) = _
      rw [if_pos (by have := h1 0 (by omega); simpa using this), e2, show found + 1 + k = found + (k + 1) from by omega]

/-! ### runs of the machine -/
def Ends (B : Nat) (m : M) (P : M → Prop) : Prop := ∃ n, n ≤ B ∧ (m.runFor n).outcome.isSome = true ∧ P (m.runFor n)
theorem Ends.now {B : Nat} {m : M} {P : M → Prop} (h : m.outcome.isSome = true) (p : P m) : Ends B m P := ⟨0, Nat.zero_le _, h, p⟩
theorem Ends.mono {B B' : Nat} {m : M} {P : M → Prop} (h : B ≤ B') (e : Ends B m P) : Ends B' m P := let ⟨n, h1, h2⟩ := e; ⟨n, Nat.le_trans h1 h, h2⟩
theorem Ends.step {B : Nat} {m : M} {P : M → Prop} (h : m.outcome = none) (e : Ends B m.step P) : Ends (B + 1) m P := by
  obtain ⟨n, h0, h1, h2⟩ := e
  refine ⟨n + 1, by omega, ?_, ?_⟩
  · unfold M.runFor; rw [h]; exact h1
  · unfold M.runFor; rw [h]; exact h2
theorem run_stable {m : M} (h : m.outcome.isSome = true) : ∀ n, m.runFor n = m
  | 0 => rfl
  | n + 1 => by unfold M.runFor; rw [if_pos h]
theorem run_add (m : M) : ∀ a b, (m.runFor a).runFor b = m.runFor (a + b)
  | 0, b => by rw [Nat.zero_add]; rfl
  | a + 1, b => by
    rw [show a + 1 + b = (a + b) + 1 from by omega]
    by_cases h : m.outcome.isSome = true
    · rw [run_stable h, run_stable h, run_stable h]
    · have e1 : ∀ k, m.runFor (k + 1) = m.step.runFor k := fun k => by
        show (if m.outcome.isSome = true then m else m.step.runFor k) = _
        rw [if_neg h]
      rw [e1, e1, run_add m.step a b]

/-- the machine's state at this pattern -/
def mst (t : Array Nat) (lastS start pc pos handed : Nat) (outer : Bool) (frames : List Sre.Frame) (weight : Nat) (answer : Option Bool) (seen : Seen) (outcome : Option Sre.Outcome) : M :=
  { code := reCode, text := t, lim := t.size, start, lastStart := lastS, wholeText := false, mustAdvance := false, pc, pos, handed, outermost := outer, marks := #[], lastmark := -1, lastindex := -1,
    loops := #[], inner := none, frames, weight, answer, seen, outcome }

section
variable {B : Nat} {t : Array Nat} {lastS start pos handed w : Nat} {outer : Bool} {fs : List Sre.Frame} {seen : Seen} {P : M → Prop}
theorem go_lit1_end (h : ¬ pos < t.size) (k : ∀ seen', Ends B (mst t lastS start 11 pos handed outer fs w (some false) seen' none) P) : Ends (B + 1) (mst t lastS start 11 pos handed outer fs w none seen none) P := by
  refine Ends.step rfl ?_
  have : (mst t lastS start 11 pos handed outer fs w none seen none).step = mst t lastS start 11 pos handed outer fs w (some false) (seen.add 16) none := by
    show (if pos ≥ t.size then _ else _) = _
    rw [if_pos (by omega)]; rfl
  rw [this]; exact k _
theorem go_lit1_no (h : pos < t.size) (hc : t.getD pos 0 ≠ 27) (k : ∀ seen', Ends B (mst t lastS start 11 pos handed outer fs w (some false) seen' none) P) : Ends (B + 1) (mst t lastS start 11 pos handed outer fs w none seen none) P := by
  refine Ends.step rfl ?_
  have : (mst t lastS start 11 pos handed outer fs w none seen none).step = mst t lastS start 11 pos handed outer fs w (some false) (seen.add 16) none := by
    show (if pos ≥ t.size then _ else (match (Except.ok (t.getD pos 0 == 27, seen.add 16) : Except String (Bool × Seen)) with | .error why => _ | .ok (false, s) => _ | .ok (true, s) => _)) = _
    rw [if_neg (by omega), show (t.getD pos 0 == 27) = false from beq_eq_false_iff_ne.mpr hc]; rfl
  rw [this]; exact k _
theorem go_lit1_yes (h : pos < t.size) (hc : t.getD pos 0 = 27) (k : ∀ seen', Ends B (mst t lastS start 13 (pos + 1) handed outer fs w none seen' none) P) : Ends (B + 1) (mst t lastS start 11 pos handed outer fs w none seen none) P := by
  refine Ends.step rfl ?_
  have : (mst t lastS start 11 pos handed outer fs w none seen none).step = mst t lastS start 13 (pos + 1) handed outer fs w none (seen.add 16) none := by
    show (if pos ≥ t.size then _ else (match (Except.ok (t.getD pos 0 == 27, seen.add 16) : Except String (Bool × Seen)) with | .error why => _ | .ok (false, s) => _ | .ok (true, s) => _)) = _
    rw [if_neg (by omega), show (t.getD pos 0 == 27) = true from beq_iff_eq.mpr hc]; rfl
  rw [this]; exact k _
theorem go_lit2_yes (h : pos < t.size) (hc : t.getD pos 0 = 91) (k : ∀ seen', Ends B (mst t lastS start 15 (pos + 1) handed outer fs w none seen' none) P) : Ends (B + 1) (mst t lastS start 13 pos handed outer fs w none seen none) P := by
  refine Ends.step rfl ?_
  have : (mst t lastS start 13 pos handed outer fs w none seen none).step = mst t lastS start 15 (pos + 1) handed outer fs w none (seen.add 16) none := by
    show (if pos ≥ t.size then _ else (match (Except.ok (t.getD pos 0 == 91, seen.add 16) : Except String (Bool × Seen)) with | .error why => _ | .ok (false, s) => _ | .ok (true, s) => _)) = _
    rw [if_neg (by omega), show (t.getD pos 0 == 91) = true from beq_iff_eq.mpr hc]; rfl
  rw [this]; exact k _
theorem go_in_yes (h : pos < t.size) (hc : (64 ≤ t.getD pos 0 && t.getD pos 0 ≤ 126) = true) (k : ∀ seen', Ends B (mst t lastS start 43 (pos + 1) handed outer fs w none seen' none) P) : Ends (B + 1) (mst t lastS start 37 pos handed outer fs w none seen none) P := by
  refine Ends.step rfl ?_
  obtain ⟨s', e⟩ := acc3 (t.getD pos 0) (seen.add 13)
  have : (mst t lastS start 37 pos handed outer fs w none seen none).step = mst t lastS start 43 (pos + 1) handed outer fs w none s' none := by
    show (if pos ≥ t.size then _ else (match accepts reCode 37 (t.getD pos 0) (seen.add 13) with | .error why => _ | .ok (false, s) => _ | .ok (true, s) => _)) = _
    rw [if_neg (by omega), e, hc]; rfl
  rw [this]; exact k _
theorem go_success (h : pos ≠ start) (k : ∀ seen', Ends B (mst t lastS start 43 pos pos outer fs w (some true) seen' none) P) : Ends (B + 1) (mst t lastS start 43 pos handed outer fs w none seen none) P := by
  refine Ends.step rfl ?_
  have : (mst t lastS start 43 pos handed outer fs w none seen none).step = mst t lastS start 43 pos pos outer fs w (some true) (seen.add 1) none := by
    show (if (outer && ((false && _) || (false && _))) = true then _ else _) = _
    rw [if_neg (by simp)]; rfl
  rw [this]; exact k _
theorem go_rep1 {k : Nat} (hk : pos + k ≤ t.size) (hs : t.size < 4000000000) (hw : w < 1000) (h1 : ∀ j, j < k → (48 ≤ t.getD (pos + j) 0 && t.getD (pos + j) 0 ≤ 63) = true)
    (h2 : pos + k = t.size ∨ (48 ≤ t.getD (pos + k) 0 && t.getD (pos + k) 0 ≤ 63) = false)
    (go : ∀ (f : Sre.Frame) seen', f.wait = .giveBack → f.kept.marks = #[] → Ends B (mst t lastS start 26 (pos + k) (pos + k) outer (f :: fs) (w + 1) none seen' none) P) : Ends (B + 1) (mst t lastS start 15 pos handed outer fs w none seen none) P := by
  refine Ends.step rfl ?_
  obtain ⟨s', e⟩ := run_spec 19 (fun c => 48 ≤ c && c ≤ 63) acc1 t k (min 4294967295 (((t.size : Int) - (pos : Int)).toNat)) pos 0 ((seen.add 24).add 13) (by omega) h1 (by
    rcases h2 with h2 | h2
    · exact .inl (by omega)
    · exact .inr h2)
  rw [Nat.zero_add] at e
  have : (mst t lastS start 15 pos handed outer fs w none seen none).step = mst t lastS start 26 (pos + k) (pos + k) outer ({ wait := .giveBack, pc := 15, pos := pos + k, outermost := outer, count := k, kept := {} } :: fs) (w + 1) none s' none := by
    show (if ((0 : Nat) : Int) > (t.size : Int) - (pos : Int) then _ else match Sre.run reCode t 19 (min 4294967295 (((t.size : Int) - (pos : Int)).toNat)) pos 0 ((seen.add 24).add 13) with | .error why => _ | .ok (n, s) => _) = _
    rw [if_neg (by omega), e]
    show (if k < 0 then _ else (if w + 1 + 0 > 16777216 then _ else _)) = _
    rw [if_neg (by omega), if_neg (by omega)]
    rfl
  rw [this]
  exact go _ _ rfl rfl
theorem go_rep2 {k : Nat} (hk : pos + k ≤ t.size) (hs : t.size < 4000000000) (hw : w < 1000) (h1 : ∀ j, j < k → (32 ≤ t.getD (pos + j) 0 && t.getD (pos + j) 0 ≤ 47) = true)
    (h2 : pos + k = t.size ∨ (32 ≤ t.getD (pos + k) 0 && t.getD (pos + k) 0 ≤ 47) = false)
    (go : ∀ (f : Sre.Frame) seen', f.wait = .giveBack → f.kept.marks = #[] → Ends B (mst t lastS start 37 (pos + k) (pos + k) outer (f :: fs) (w + 1) none seen' none) P) : Ends (B + 1) (mst t lastS start 26 pos handed outer fs w none seen none) P := by
  refine Ends.step rfl ?_
  obtain ⟨s', e⟩ := run_spec 30 (fun c => 32 ≤ c && c ≤ 47) acc2 t k (min 4294967295 (((t.size : Int) - (pos : Int)).toNat)) pos 0 ((seen.add 24).add 13) (by omega) h1 (by
    rcases h2 with h2 | h2
    · exact .inl (by omega)
    · exact .inr h2)
  rw [Nat.zero_add] at e
  have : (mst t lastS start 26 pos handed outer fs w none seen none).step = mst t lastS start 37 (pos + k) (pos + k) outer ({ wait := .giveBack, pc := 26, pos := pos + k, outermost := outer, count := k, kept := {} } :: fs) (w + 1) none s' none := by
    show (if ((0 : Nat) : Int) > (t.size : Int) - (pos : Int) then _ else match Sre.run reCode t 30 (min 4294967295 (((t.size : Int) - (pos : Int)).toNat)) pos 0 ((seen.add 24).add 13) with | .error why => _ | .ok (n, s) => _) = _
    rw [if_neg (by omega), e]
    show (if k < 0 then _ else (if w + 1 + 0 > 16777216 then _ else _)) = _
    rw [if_neg (by omega), if_neg (by omega)]
    rfl
  rw [this]
  exact go _ _ rfl rfl

/-! ### answers -/
theorem yes_back {f : Sre.Frame} {pc : Nat} (hf : f.wait = .giveBack) (k : ∀ pc' pos' outer' w', Ends B (mst t lastS start pc' pos' handed outer' fs w' (some true) seen none) P) : Ends (B + 1) (mst t lastS start pc pos handed outer (f :: fs) w (some true) seen none) P := by
  refine Ends.step rfl ?_
  have : (mst t lastS start pc pos handed outer (f :: fs) w (some true) seen none).step = mst t lastS start f.pc f.pos handed f.outermost fs (w - (1 + f.kept.marks.size)) (some true) seen none := by
    obtain ⟨wt, fpc, fpos, fo, fc, fk, fl, fb⟩ := f
    have hf : wt = .giveBack := hf
    subst hf
    rfl
  rw [this]; exact k _ _ _ _
theorem yes_start {f : Sre.Frame} {pc : Nat} (hf : f.wait = .nextStart) (k : ∀ pc' pos' outer' w', Ends B (mst t lastS start pc' pos' handed outer' fs w' (some true) seen none) P) : Ends (B + 1) (mst t lastS start pc pos handed outer (f :: fs) w (some true) seen none) P := by
  refine Ends.step rfl ?_
  have : (mst t lastS start pc pos handed outer (f :: fs) w (some true) seen none).step = mst t lastS start f.pc f.pos handed f.outermost fs (w - (1 + f.kept.marks.size)) (some true) seen none := by
    obtain ⟨wt, fpc, fpos, fo, fc, fk, fl, fb⟩ := f
    have hf : wt = .nextStart := hf
    subst hf
    rfl
  rw [this]; exact k _ _ _ _
theorem end_yes {pc : Nat} (k : ∀ m : M, m.start = start → m.handed = handed → m.marks = #[] → m.lastmark = -1 → m.lastindex = -1 → m.outcome = some .matched → P m) : Ends (B + 1) (mst t lastS start pc pos handed outer [] w (some true) seen none) P :=
  Ends.step rfl (Ends.now rfl (k _ rfl rfl rfl rfl rfl rfl))
theorem end_no {pc : Nat} (k : ∀ m : M, m.outcome = some .failed → P m) : Ends (B + 1) (mst t lastS start pc pos handed outer [] w (some false) seen none) P :=
  Ends.step rfl (Ends.now rfl (k _ rfl))

/-- a whole escape at pos, seen by the machine -/
structure EscAt (t : Array Nat) (p e : Nat) : Prop where
  le : p + 3 ≤ e
  sz : e ≤ t.size
  c0 : t.getD p 0 = 27
  c1 : t.getD (p + 1) 0 = 91
  mid : ∀ j, p + 2 ≤ j → j + 1 < e → (48 ≤ t.getD j 0 && t.getD j 0 ≤ 63) = true
  last : t.getD (e - 1) 0 = 109
theorem esc_run {e : Nat} (hs : t.size < 4000000000) (hw : w < 900) (h : EscAt t start e) (k : ∀ f1 f2 : Sre.Frame, ∀ seen' pc' pos' outer' w', f1.wait = .giveBack → f2.wait = .giveBack → Ends B (mst t lastS start pc' pos' e outer' (f1 :: f2 :: fs) w' (some true) seen' none) P) :
    Ends (B + 6) (mst t lastS start 11 start handed outer fs w none seen none) P := by
  have hle := h.le
  have hsz := h.sz
  refine go_lit1_yes (by omega) h.c0 fun s1 => go_lit2_yes (by omega) h.c1 fun s2 => ?_
  have hm : t.getD (e - 1) 0 = 109 := h.last
  refine go_rep1 (k := e - (start + 3)) (by omega) hs (by omega) (fun j hj => h.mid _ (by omega) (by omega)) (.inr ?_) fun f seen' hf _ => ?_
  · rw [show start + 1 + 1 + (e - (start + 3)) = e - 1 from by omega, hm]; rfl
  rw [show start + 1 + 1 + (e - (start + 3)) = e - 1 from by omega]
  refine go_rep2 (k := 0) (by omega) hs (by omega) (fun j hj => by omega) (.inr ?_) fun f' seen2 hf' _ => ?_
  · rw [Nat.add_zero, hm]; rfl
  simp only [Nat.add_zero]
  refine go_in_yes (by omega) (by rw [hm]; rfl) fun s5 => ?_
  rw [show e - 1 + 1 = e from by omega]
  exact go_success (by omega) fun s6 => k _ _ _ _ _ _ _ hf' hf
end

/-! ### match at a place, and search from one -/
def ms0 (t : Array Nat) (pos : Nat) : M := Sre.forMatch reCode t 0 pos t.size false false
theorem match_esc {t : Array Nat} {pos e : Nat} (hs : t.size < 4000000000) (h : EscAt t pos e) {P : M → Prop} (k : ∀ m : M, m.start = pos → m.handed = e → m.marks = #[] → m.lastmark = -1 → m.lastindex = -1 → m.outcome = some .matched → P m) : Ends 12 (ms0 t pos) P := by
  have hle := h.le
  have hsz := h.sz
  have : ms0 t pos = mst t 0 pos 11 pos pos true [] 0 none (({} : Seen).add 14) none := by
    show (if ((3 : Nat) != 0 && decide (pos ≤ t.size) && decide (t.size - pos < 3)) = true then _ else _) = _
    rw [if_neg (by simp; omega)]; rfl
  rw [this]
  exact Ends.mono (by omega) (esc_run (B := 3) hs (by omega) h fun f1 f2 s pc' pos' o' w' h1 h2 => yes_back h1 fun _ _ _ _ => yes_back h2 fun _ _ _ _ => end_yes (B := 0) k)
theorem match_no {t : Array Nat} {pos : Nat} (hp : pos < t.size) (h : t.getD pos 0 ≠ 27) {P : M → Prop} (k : ∀ m : M, m.outcome = some .failed → P m) : Ends 12 (ms0 t pos) P := by
  by_cases hl : t.size - pos < 3
  · have : ms0 t pos = mst t 0 pos 11 pos pos true [] 0 (some false) (({} : Seen).add 14) none := by
      show (if ((3 : Nat) != 0 && decide (pos ≤ t.size) && decide (t.size - pos < 3)) = true then _ else _) = _
      rw [if_pos (by simp; omega)]; rfl
    rw [this]
    exact Ends.mono (by omega) (end_no (B := 0) k)
  · have : ms0 t pos = mst t 0 pos 11 pos pos true [] 0 none (({} : Seen).add 14) none := by
      show (if ((3 : Nat) != 0 && decide (pos ≤ t.size) && decide (t.size - pos < 3)) = true then _ else _) = _
      rw [if_neg (by simp; omega)]; rfl
    rw [this]
    exact Ends.mono (by omega) (go_lit1_no (B := 1) hp h fun s => end_no (B := 0) k)

def srch (t : Array Nat) (pos : Nat) : M := Sre.forSearch reCode t 0 pos t.size false
theorem no_start {B : Nat} {t : Array Nat} {lastS start pc pos handed w : Nat} {outer : Bool} {f : Sre.Frame} {seen : Seen} {P : M → Prop} (hf : f.wait = .nextStart) (hpc : f.pc = 11) (hk : f.kept.marks = #[]) (hw : w < 900)
    (k1 : f.pos < lastS → ∀ f' : Sre.Frame, f'.wait = .nextStart → f'.pc = 11 → f'.kept.marks = #[] → f'.pos = f.pos + 1 → ∀ seen', Ends B (mst t lastS (f.pos + 1) 11 (f.pos + 1) (f.pos + 1) false [f'] (w - 1 + 1) none seen' none) P)
    (k2 : ¬ f.pos < lastS → ∀ m : M, m.outcome = some .failed → P m) : Ends (B + 2) (mst t lastS start pc pos handed outer [f] w (some false) seen none) P := by
  refine Ends.mono (Nat.le_refl _) (B := B + 1 + 1) ?_
  refine Ends.step rfl ?_
  by_cases hl : f.pos < lastS
  · have : (mst t lastS start pc pos handed outer [f] w (some false) seen none).step = mst t lastS (f.pos + 1) 11 (f.pos + 1) (f.pos + 1) false [{ wait := .nextStart, pc := 11, pos := f.pos + 1, outermost := false }] (w - 1 + 1) none seen none := by
      obtain ⟨wt, fpc, fpos, fo, fc, ⟨k1, k2, k3, k4⟩, fl, fb⟩ := f
      have hf : wt = .nextStart := hf
      have hpc : fpc = 11 := hpc
      have hk : k4 = #[] := hk
      subst hf hpc hk
      show (if fpos < lastS then _ else _) = _
      rw [if_pos hl]
      show (if w - (1 + 0) + 1 + 0 > 16777216 then _ else _) = _
      rw [if_neg (by omega)]; rfl
    rw [this]
    exact Ends.mono (Nat.le_succ _) (k1 hl _ rfl rfl rfl rfl _)
  · have : (mst t lastS start pc pos handed outer [f] w (some false) seen none).step = mst t lastS start f.pc f.pos handed f.outermost [] (w - (1 + f.kept.marks.size)) (some false) seen none := by
      obtain ⟨wt, fpc, fpos, fo, fc, fk, fl, fb⟩ := f
      have hf : wt = .nextStart := hf
      subst hf
      show (if fpos < lastS then _ else _) = _
      rw [if_neg hl]; rfl
    rw [this]
    exact Ends.mono (by omega) (end_no (B := 0) (k2 hl))
theorem search_go {t : Array Nat} (hs : t.size < 4000000000) {P : M → Prop} : ∀ (d p : Nat) (w : Nat) (outer : Bool) (f : Sre.Frame) (seen : Seen), d = t.size - p → p ≤ t.size → f.wait = .nextStart → f.pc = 11 → f.kept.marks = #[] → f.pos = p → w < 800 →
    (∀ q e, p ≤ q → EscAt t q e → (∀ j, p ≤ j → j < q → t.getD j 0 ≠ 27) → ∀ m : M, m.start = q → m.handed = e → m.marks = #[] → m.lastmark = -1 → m.lastindex = -1 → m.outcome = some .matched → P m) →
    ((∀ j, p ≤ j → j < t.size → t.getD j 0 ≠ 27) → ∀ m : M, m.outcome = some .failed → P m) →
    (∀ j, p ≤ j → j < t.size → t.getD j 0 = 27 → ∃ e, EscAt t j e) →
    Ends (4 * d + 12) (mst t t.size p 11 p p outer [f] w none seen none) P
  | 0, p, w, outer, f, seen, hd, hp, hf, hpc, hk, hfp, hw, k1, k2, we => by
    refine Ends.mono (by omega) (go_lit1_end (B := 2) (by omega) fun s => no_start (B := 0) hf hpc hk (by omega) (fun hl => by omega) fun _ => k2 fun j h1 h2 => by omega)
  | d + 1, p, w, outer, f, seen, hd, hp, hf, hpc, hk, hfp, hw, k1, k2, we => by
    by_cases h27 : t.getD p 0 = 27
    · obtain ⟨e, he⟩ := we p (Nat.le_refl _) (by omega) h27
      exact Ends.mono (by omega) (esc_run (B := 4) hs (by omega) he fun f1 f2 s pc' pos' o' w' h1 h2 => yes_back h1 fun _ _ _ _ => yes_back h2 fun _ _ _ _ => yes_start hf fun _ _ _ _ => end_yes (B := 0) (k1 p e (Nat.le_refl _) he fun j _ _ => by omega))
    · refine Ends.mono (B := (4 * d + 12) + 2 + 1) (by omega) (go_lit1_no (by omega) h27 fun s => no_start hf hpc hk (by omega) (fun hl f' a1 a2 a3 a4 seen' => ?_) fun hl => absurd (show f.pos < t.size from by omega) hl)
      have hfp' : f.pos + 1 = p + 1 := by rw [hfp]
      rw [hfp']
      refine search_go hs d (p + 1) (w - 1 + 1) false f' seen' (by omega) (by omega) a1 a2 a3 (by rw [a4, hfp]) (by omega) (fun q e hq he hno => k1 q e (by omega) he fun j hj hjq => ?_) (fun hno => k2 fun j hj hjt => ?_) (fun j hj => we j (by omega))
      · by_cases q : j = p
        · subst q; exact h27
        · exact hno j (by omega) hjq
      · by_cases q : j = p
        · subst q; exact h27
        · exact hno j (by omega) hjt
theorem search_all {t : Array Nat} {p : Nat} (hs : t.size < 4000000000) (hp : p ≤ t.size) {P : M → Prop}
    (k1 : ∀ q e, p ≤ q → EscAt t q e → (∀ j, p ≤ j → j < q → t.getD j 0 ≠ 27) → ∀ m : M, m.start = q → m.handed = e → m.marks = #[] → m.lastmark = -1 → m.lastindex = -1 → m.outcome = some .matched → P m)
    (k2 : (∀ j, p ≤ j → j < t.size → t.getD j 0 ≠ 27) → ∀ m : M, m.outcome = some .failed → P m)
    (we : ∀ j, p ≤ j → j < t.size → t.getD j 0 = 27 → ∃ e, EscAt t j e) : Ends (4 * t.size + 16) (srch t p) P := by
  by_cases hl : t.size - p < 3
  · have : srch t p = mst t 0 p 11 p p true [] 0 (some false) (({} : Seen).add 14) none := by
      show (if (decide (p > t.size) || decide (t.size - p < 3)) = true then _ else _) = _
      rw [if_pos (by simp; omega)]; rfl
    rw [this]
    refine Ends.mono (by omega) (end_no (B := 0) (k2 fun j hj hjt h27 => ?_))
    obtain ⟨e, he⟩ := we j hj hjt h27
    have := he.le; have := he.sz; omega
  · have : srch t p = mst t t.size p 11 p p true [{ wait := .nextStart, pc := 11, pos := p, outermost := true }] 1 none (({} : Seen).add 14) none := by
      show (if (decide (p > t.size) || decide (t.size - p < 3)) = true then _ else _) = _
      rw [if_neg (by simp; omega)]; rfl
    rw [this]
    exact Ends.mono (by omega) (search_go hs (t.size - p) p 1 true _ _ rfl hp rfl rfl rfl rfl (by omega) k1 k2 we)
end Mine
end

section
open PySem PySem.W PySem.Calls PyProof.Rows PySem.Builtin PySem.Builtin.Str
set_option linter.all false
set_option maxRecDepth 100000
namespace Mine

/-! ## texts made of signs and escapes -/
inductive Tk where
  | ch (c : Nat)
  | es (ps : List Nat)
  deriving DecidableEq
def Tk.flat : Tk → List Nat
  | .ch c => [c]
  | .es ps => 27 :: 91 :: (ps ++ [109])
def Tk.ok : Tk → Prop
  | .ch c => c ≠ 27 ∧ c < 128 ∧ c ≠ 9 ∧ c ≠ 13
  | .es ps => ∀ x ∈ ps, 48 ≤ x ∧ x ≤ 59
def flatT (ts : List Tk) : List Nat := ts.flatMap Tk.flat
def okT (ts : List Tk) : Prop := ∀ t ∈ ts, t.ok
def Tk.sign? : Tk → Option Nat
  | .ch c => some c
  | .es _ => none
def signs (ts : List Tk) : List Nat := ts.filterMap Tk.sign?
def plain (l : List Nat) : List Tk := l.map Tk.ch

theorem flatT_nil : flatT [] = [] := rfl
theorem flatT_cons (t : Tk) (ts : List Tk) : flatT (t :: ts) = t.flat ++ flatT ts := rfl
theorem flatT_append (a b : List Tk) : flatT (a ++ b) = flatT a ++ flatT b := List.flatMap_append
theorem flatT_plain (l : List Nat) : flatT (plain l) = l := by
  induction l with
  | nil => rfl
  | cons x r ih => show [x] ++ flatT (plain r) = _; rw [ih]; rfl
theorem signs_append (a b : List Tk) : signs (a ++ b) = signs a ++ signs b := List.filterMap_append
theorem signs_plain (l : List Nat) : signs (plain l) = l := by
  induction l with
  | nil => rfl
  | cons x r ih => show x :: signs (plain r) = _; rw [ih]
theorem plain_append (a b : List Nat) : plain (a ++ b) = plain a ++ plain b := List.map_append
theorem okT_append {a b : List Tk} : okT (a ++ b) ↔ okT a ∧ okT b := by
  unfold okT; simp only [List.mem_append]
  exact ⟨fun h => ⟨fun t ht => h t (.inl ht), fun t ht => h t (.inr ht)⟩, fun h t ht => ht.elim (h.1 t) (h.2 t)⟩
theorem okT_cons {t : Tk} {ts : List Tk} : okT (t :: ts) ↔ t.ok ∧ okT ts := by unfold okT; simp

/-- the first escape, or none -/
theorem split_esc : ∀ ts : List Tk, (∃ l, ts = plain l) ∨ ∃ l ps r, ts = plain l ++ .es ps :: r
  | [] => .inl ⟨[], rfl⟩
  | .ch c :: r => by
    rcases split_esc r with ⟨l, rfl⟩ | ⟨l, ps, r', rfl⟩
    · exact .inl ⟨c :: l, rfl⟩
    · exact .inr ⟨c :: l, ps, r', rfl⟩
  | .es ps :: r => .inr ⟨[], ps, r, rfl⟩

theorem getD_toArray (l : List Nat) (j : Nat) : l.toArray.getD j 0 = l.getD j 0 := by simp [Array.getD_eq_getD_getElem?, List.getD_eq_getElem?_getD]
theorem getD_right (a b : List Nat) (j : Nat) : (a ++ b).getD (a.length + j) 0 = b.getD j 0 := by
  simp [List.getD_eq_getElem?_getD, List.getElem?_append_right]
theorem esc_at {pre : List Nat} {ps post : List Nat} (hp : ∀ x ∈ ps, 48 ≤ x ∧ x ≤ 59) : EscAt (pre ++ ((27 :: 91 :: (ps ++ [109])) ++ post)).toArray pre.length (pre.length + (ps.length + 3)) where
  le := by omega
  sz := by simp
  c0 := by rw [getD_toArray]; have := getD_right pre ((27 :: 91 :: (ps ++ [109])) ++ post) 0; simpa using this
  c1 := by rw [getD_toArray, getD_right]; rfl
  mid := fun j h1 h2 => by
    obtain ⟨i, rfl⟩ : ∃ i, j = pre.length + (i + 2) := ⟨j - pre.length - 2, by omega⟩
    rw [getD_toArray, getD_right]
    have hi : i < ps.length := by omega
    have e : ((27 :: 91 :: (ps ++ [109])) ++ post).getD (i + 2) 0 = ps[i] := by
      simp [List.getD_eq_getElem?_getD, List.getElem?_append_left, hi]
    rw [e]
    have := hp _ (List.getElem_mem hi)
    simp only [Bool.and_eq_true, decide_eq_true_eq]; omega
  last := by
    rw [getD_toArray, show pre.length + (ps.length + 3) - 1 = pre.length + (ps.length + 2) from by omega, getD_right]
    simp [List.getD_eq_getElem?_getD, List.getElem?_append_left]
theorem flatT_27 : ∀ (ts : List Tk), okT ts → ∀ j, j < (flatT ts).length → (flatT ts).getD j 0 = 27 → ∃ pre ps post, ts = pre ++ .es ps :: post ∧ j = (flatT pre).length
  | [], _, j, hj, _ => by simp [flatT] at hj
  | .ch c :: r, ok, j, hj, h => by
    obtain ⟨o1, o2⟩ := okT_cons.mp ok
    cases j with
    | zero => exact absurd h o1.1
    | succ j =>
      obtain ⟨pre, ps, post, rfl, e⟩ := flatT_27 r o2 j (by rw [flatT_cons] at hj; simp [Tk.flat] at hj; omega) h
      exact ⟨.ch c :: pre, ps, post, rfl, by rw [flatT_cons, e]; simp [Tk.flat]⟩
  | .es ps :: r, ok, j, hj, h => by
    obtain ⟨o1, o2⟩ := okT_cons.mp ok
    rw [flatT_cons] at hj h
    have hlen : (Tk.es ps).flat.length = ps.length + 3 := by simp [Tk.flat]
    by_cases h0 : j = 0
    · subst h0; exact ⟨[], ps, r, rfl, rfl⟩
    · by_cases hin : j < ps.length + 3
      · exfalso
        have e : ((Tk.es ps).flat ++ flatT r).getD j 0 = (27 :: 91 :: (ps ++ [109])).getD j 0 := by
          simp only [List.getD_eq_getElem?_getD]
          rw [List.getElem?_append_left (by rw [hlen]; exact hin)]; rfl
        rw [e] at h
        match j, h0, hin, h with
        | 1, _, _, h => cases h
        | i + 2, _, hin, h =>
          have h : (ps ++ [109]).getD i 0 = 27 := h
          by_cases hi : i < ps.length
          · have e2 : (ps ++ [109]).getD i 0 = ps[i] := by simp [List.getD_eq_getElem?_getD, List.getElem?_append_left, hi]
            rw [e2] at h
            have := (o1 _ (List.getElem_mem hi)).1
            omega
          · have : i = ps.length := by omega
            subst this
            simp [List.getD_eq_getElem?_getD] at h
      · obtain ⟨i, rfl⟩ : ∃ i, j = (Tk.es ps).flat.length + i := ⟨j - (ps.length + 3), by omega⟩
        rw [getD_right] at h
        obtain ⟨pre, qs, post, rfl, e⟩ := flatT_27 r o2 i (by rw [List.length_append] at hj; omega) h
        exact ⟨.es ps :: pre, qs, post, rfl, by rw [flatT_cons, e, List.length_append]⟩
theorem esc_any {ts : List Tk} (ok : okT ts) {j : Nat} (hj : j < (flatT ts).toArray.size) (h : (flatT ts).toArray.getD j 0 = 27) : ∃ e, EscAt (flatT ts).toArray j e := by
  rw [getD_toArray] at h
  obtain ⟨pre, ps, post, rfl, rfl⟩ := flatT_27 ts ok j (by simpa using hj) h
  have o1 : (Tk.es ps).ok := ok _ (by simp)
  refine ⟨(flatT pre).length + (ps.length + 3), ?_⟩
  rw [flatT_append, flatT_cons]
  exact esc_at o1

/-! ## what _truncate_visible keeps -/
def vis (ts : List Tk) : Nat := (signs ts).length
def truncGo (n : Int) : Int → List Tk → List Tk → List Tk → List Tk
  | _, cp, _, [] => cp
  | v, cp, pend, .ch c :: r => if n ≤ v + 1 then cp ++ pend ++ [.ch c] else truncGo n (v + 1) (cp ++ pend ++ [.ch c]) [] r
  | v, cp, pend, .es p :: r => truncGo n v cp (pend ++ [.es p]) r
def truncV (n : Int) (ts : List Tk) : List Tk := if n ≤ 0 then [] else truncGo n 0 [] [] ts
theorem truncGo_pre (n : Int) : ∀ (r : List Tk) (v : Int) (cp pend : List Tk), ∃ z, cp ++ pend ++ r = truncGo n v cp pend r ++ z
  | [], v, cp, pend => ⟨pend, by simp [truncGo]⟩
  | .ch c :: r, v, cp, pend => by
    unfold truncGo
    split
    · exact ⟨r, by simp⟩
    · obtain ⟨z, hz⟩ := truncGo_pre n r (v + 1) (cp ++ pend ++ [.ch c]) []
      exact ⟨z, by rw [← hz]; simp⟩
  | .es p :: r, v, cp, pend => by
    unfold truncGo
    obtain ⟨z, hz⟩ := truncGo_pre n r v cp (pend ++ [.es p])
    exact ⟨z, by rw [← hz]; simp⟩
theorem truncV_pre (n : Int) (ts : List Tk) : ∃ z, ts = truncV n ts ++ z := by
  unfold truncV
  split
  · exact ⟨ts, rfl⟩
  · obtain ⟨z, hz⟩ := truncGo_pre n ts 0 [] []
    exact ⟨z, by simpa using hz⟩

theorem Tk.flat_pos (t : Tk) : 0 < t.flat.length := by cases t <;> simp [Tk.flat]
theorem flatT_eq_nil {ts : List Tk} (h : (flatT ts).length = 0) : ts = [] := by
  cases ts with
  | nil => rfl
  | cons t r => rw [flatT_cons, List.length_append] at h; have := t.flat_pos; omega
end Mine
end

section
open PySem PySem.W PySem.Calls PyProof.Rows PySem.Builtin PySem.Builtin.Str PySem.Builtin.Re
set_option linter.all false
set_option maxRecDepth 100000
namespace Mine

section
variable {M : Model} {A : Around} {E : Value → Shared → Prop} {s : Shared}

theorem drive {Q : Sre.M → Shared → Prop} : ∀ (turns n : Nat) (m : Sre.M), n ≤ 4 * turns → (m.runFor n).outcome.isSome = true → Q (m.runFor n) s → wpAny M A (reDrive (turns + 1) m) Q E s
  | turns, n, m, hn, ho, hq => by
    unfold reDrive
    show wpAny M A (if (m.runFor 4).outcome.isSome = true then pure (m.runFor 4) else (do rule "sre.turn"; reDrive turns (m.runFor 4))) Q E s
    by_cases h : (m.runFor 4).outcome.isSome = true
    · rw [if_pos h]
      have : m.runFor 4 = m.runFor n := by
        rcases Nat.le_total n 4 with q | q
        · have := run_add m n (4 - n); rw [run_stable ho, show n + (4 - n) = 4 from by omega] at this; exact this.symm
        · have := run_add m 4 (n - 4); rw [run_stable h, show 4 + (n - 4) = n from by omega] at this; exact this
      rw [this]; exact wpAny_pure hq
    · rw [if_neg h]
      have h4 : 4 < n := by
        rcases Nat.lt_or_ge 4 n with q | q
        · exact q
        · exfalso; apply h
          have := run_add m n (4 - n); rw [run_stable ho, show n + (4 - n) = 4 from by omega] at this
          rw [← this]; exact ho
      have e : (m.runFor 4).runFor (n - 4) = m.runFor n := by rw [run_add]; congr 1; omega
      refine wpAny_bind (wpAny_rule ?_)
      cases turns with
      | zero => omega
      | succ k => exact drive k (n - 4) (m.runFor 4) (by omega) (by rw [e]; exact ho) (by rw [e]; exact hq)

theorem rules_loop {m : Sre.M} {Q : PUnit → Shared → Prop} (f : Nat → PUnit → Sem (ForInStep PUnit)) (hf : ∀ i u, f i u = (if m.seen.has i = true then (do rule (Sre.names.getD i ""); pure (.yield ⟨⟩)) else pure (.yield ⟨⟩))) (hq : Q ⟨⟩ s) :
    ∀ l : List Nat, wpAny M A (forIn l ⟨⟩ f) Q E s
  | [] => by rw [List.forIn_nil]; exact wpAny_pure hq
  | i :: r => by
    rw [List.forIn_cons, hf]
    split
    · exact wpAny_bind (wpAny_bind (wpAny_rule (wpAny_pure (rules_loop f hf hq r))))
    · exact wpAny_bind (wpAny_pure (rules_loop f hf hq r))

theorem runToEnd {B : Nat} {m : Sre.M} {P : Sre.M → Prop} {Q : Option Sre.M → Shared → Prop} (h : Ends B m P) (hB : B ≤ 4 * 18446744073709551615)
    (hp : ∀ m', P m' → (m'.outcome = some .matched ∧ Q (some m') s) ∨ (m'.outcome = some .failed ∧ Q none s)) : wpAny M A (reRunToEnd m) Q E s := by
  obtain ⟨n, hn, ho, hP⟩ := h
  unfold reRunToEnd
  refine wpAny_bind (drive 18446744073709551615 n m (by omega) ho ?_)
  refine wpAny_bind (rules_loop (m := m.runFor n) _ (fun i u => by split <;> rfl) ?_ _)
  rcases hp _ hP with ⟨e, q⟩ | ⟨e, q⟩
  · rw [e]; exact wpAny_pure q
  · rw [e]; exact wpAny_pure q
end

structure PatAt (ap ac : Addr) (h : Heap) : Prop where
  pat : ∃ o, h.get? ap = some o ∧ o.cls = .type "re.Pattern" ∧ o.dict = none ∧ ∃ vs, o.data = .fields vs ∧ reRawNat (vs.getD 6 .none) = 0 ∧ reRawNat (vs.getD 2 .none) = 0 ∧ vs.getD 5 .none = .ref ac
  code : ∃ o n items, h.get? ac = some o ∧ o.data = .seq items n ∧ (items.map reRawOf).map (·.toNat) = reCode
theorem PatAt.keeps {ap ac : Addr} {h h' : Heap} (x : PatAt ap ac h) (k : ∀ b o, h.get? b = some o → h'.get? b = some o) : PatAt ap ac h' :=
  let ⟨⟨o, e, r⟩, ⟨o2, n, it, e2, r2⟩⟩ := x; ⟨⟨o, k _ _ e, r⟩, ⟨o2, n, it, k _ _ e2, r2⟩⟩

section
variable {M : Model} {A : Around} {E : Value → Shared → Prop} {s : Shared} {ap ac : Addr}
theorem whole_target {l : List Nat} {t : Tok} {Q : ReTarget → Shared → Prop} (hp : PatAt ap ac s.heap)
    (h : Q { pattern := .ref ap, string := .str (S l) t, code := reCode, text := l.toArray, kind := 0, groups := 0, pos := 0, lim := l.toArray.size } s) : wpAny M A (reWholeTarget (.ref ap) (.str (S l) t)) Q E s := by
  obtain ⟨⟨o, ho, hc, hd, vs, hdata, e6, e2, e5⟩, ⟨oc, n, items, hoc, hcd, hcode⟩⟩ := hp
  unfold reWholeTarget
  refine wpAny_bind (wpAny_fieldsOf ho hdata ?_)
  show wpAny M A (do
    if reRawNat (vs.getD 6 .none) == 0 && (0 : Nat) == 1 then raiseError "TypeError" "cannot use a string pattern on a bytes-like object"
    if reRawNat (vs.getD 6 .none) == 1 && (0 : Nat) == 0 then raiseError "TypeError" "cannot use a bytes pattern on a string-like object"
    reNoCollectionInside (.str (S l) t) 0
    pure ({ pattern := .ref ap, string := .str (S l) t, code := (← reRawItems (vs.getD 5 .none)).map (·.toNat), text := l.toArray, kind := 0, groups := reRawNat (vs.getD 2 .none), pos := 0, lim := l.toArray.size } : ReTarget)) Q E s
  rw [e6, e2, e5]
  show wpAny M A (do
    pure ({ pattern := .ref ap, string := .str (S l) t, code := (← reRawItems (.ref ac)).map (·.toNat), text := l.toArray, kind := 0, groups := 0, pos := 0, lim := l.toArray.size } : ReTarget)) Q E s
  unfold reRawItems
  refine wpAny_bind (wpAny_bind (wpAny_seqItems hoc hcd (wpAny_pure (wpAny_pure ?_))))
  show Q { pattern := .ref ap, string := .str (S l) t, code := (items.map reRawOf).map (·.toNat), text := l.toArray, kind := 0, groups := 0, pos := 0, lim := l.toArray.size } s
  rw [hcode]; exact h
end
end Mine
end

section
open PySem PySem.W PySem.Calls PyProof.Rows PySem.Builtin PySem.Builtin.Str PySem.Builtin.Re
set_option linter.all false
set_option maxRecDepth 100000
namespace Mine

theorem joinL_nil : ∀ qs : List (List Nat), joinL [] qs = qs.flatten
  | [] => rfl
  | [x] => by simp [joinL]
  | x :: y :: r => by rw [joinL, joinL_nil (y :: r)]; simp
theorem joinSize_nil (qs : List (List Nat)) : joinSize [] qs = qs.flatten.length := by
  unfold joinSize
  induction qs with
  | nil => rfl
  | cons x r ih => simp [ih]
theorem esc_unique {t : Array Nat} {q e e' : Nat} (h : EscAt t q e) (h' : EscAt t q e') : e = e' := by
  have a : ∀ {e e'}, EscAt t q e → EscAt t q e' → ¬ e < e' := fun {e e'} h h' hlt => by
    have h1 := h'.mid (e - 1) (by have := h.le; omega) (by have := h.le; omega)
    rw [h.last] at h1; cases h1
  have := a h h'; have := a h' h; omega
theorem joinMade_post {sep : Str} {ps : List (Str × Tok)} {qs : List (List Nat)} {s : Shared} {Q : Value → Shared → Prop} {y : List Nat} (hs : sep = S y) (el : ps.map (·.1) = qs.map S) (hl : (joinL y qs).length ≤ 16000000) (h : ∀ tk k, Q (.str (S (joinL y qs)) tk) { s with toks := k }) : (joinMade sep ps).post Q s := by
  subst hs
  have hglue : glued (S y) (ps.map (·.1)) = S (joinL y qs) := by rw [el, glued_S]
  unfold joinMade
  split
  · rename_i p
    cases qs with
    | nil => cases el
    | cons q r =>
      cases r with
      | nil =>
        have : p.1 = S q := by simpa using el
        show Q (.str p.1 p.2) s
        rw [this]; exact h p.2 s.toks
      | cons _ _ => simp at el
  · rw [hglue]; exact ⟨S_fits hl, h _ _⟩
theorem join_fold_ok {ps : List (Str × Tok)} {qs : List (List Nat)} {y : List Nat} (el : ps.map (·.1) = qs.map S) (hl : joinSize y qs ≤ 16000000) : tooLong ((ps.map (·.1)).toArray.foldl (· + ·.length + (S y).length) 0) = false := by
  have hfold : ((ps.map (·.1)).toArray.foldl (· + ·.length + (S y).length) 0) = joinSize y qs := by
    rw [el]; have := joinSize_fold y qs 0; simpa using this
  rw [hfold]; unfold tooLong; rw [decide_eq_false]; rw [sizeLine_eq]; omega

theorem extract_S (l : List Nat) (i j : Nat) : (⟨l.toArray.extract i j⟩ : Str) = S ((l.take j).drop i) := strSub_S l i j

section
variable {prog : Program} {w : World} {ap ac : Addr}

theorem push_text {A : Around} {E : Value → Shared → Prop} {s : Shared} {D : Addr} {ps : List (Str × Tok)} {k : Nat} {x : Str} {tk : Tok} {Q : Unit → Shared → Prop} (hD : s.heap.get? D = some { cls := .type "list", data := .seq (strValues ps).toArray k }) (hz : ps.length ≤ 15000000)
    (h : ∀ h' k', h'.get? D = some { cls := .type "list", data := .seq (strValues (ps ++ [(x, tk)])).toArray k' } → Heap.SameBut D s.heap h' → Q () { s with heap := h' }) : wpAny (model prog w) A (updateSeq D (·.push (.str x tk))) Q E s := by
  have hl : (strValues ps).toArray.size = ps.length := by simp [strValues]
  refine wpAny_updateSeq hD rfl (h _ (k + 1) ?_ (Heap.SameBut.update ..)) (by rw [hl]; exact sizeLine_ge (by omega)) (by rw [Array.size_push, hl]; have := sizeLine_ge (n := ps.length) (by omega); omega)
  refine (Heap.get?_update_self _ hD rfl).trans ?_
  show some (Obj.mapSeq (·.push (.str x tk)) { cls := .type "list", data := .seq (strValues ps).toArray k }) = _
  unfold Obj.mapSeq
  simp [strValues]

theorem sub_loop {A : Around} {R : Result → Shared → Prop} {u : Tok} {D : Addr} {t : Tok} : ∀ (rest : List Tk) (dn : List Tk) (s : Shared) (ps : List (Str × Tok)) (qs : List (List Nat)) (kk : Nat) (n : Int) (p : Int) (t1 t2 t3 t4 t5 : Tok),
    PatAt ap ac s.heap → D ≠ ap → D ≠ ac → okT (dn ++ rest) → (flatT (dn ++ rest)).length ≤ 1000000 → p = ((flatT dn).length : Int) →
    s.heap.get? D = some { cls := .type "list", data := .seq (strValues ps).toArray kk } → ps.map (·.1) = qs.map S → qs.flatten = signs dn → ps.length ≤ 2 * (flatT dn).length →
    (∀ h' tk k', (∀ b o, b ≠ D → s.heap.get? b = some o → h'.get? b = some o) → R (.ok (.ret (.str (S (signs (dn ++ rest))) tk))) { s with heap := h', toks := k' }) →
    codeAny (model prog w) A (.builtin "re.Pattern.sub.loop" ⟨[.ref ap, .str (S (flatT (dn ++ rest))) t, .str (S []) u, .int 0 t1, .int 0 t2, .int n t3, .int p t4, .int p t5, .bool false, .ref D, .bool false], []⟩) R s := by
  intro rest
  induction hn : rest.length using Nat.strongRecOn generalizing rest with
  | _ N IH =>
  intro dn s ps qs kk n p t1 t2 t3 t4 t5 hp hDp hDc hok hlen hpe hD el hq hps hR
  subst hpe
  subst hn
  refine codeAny_builtin entry_Pattern_loop ?_
  rw [Around.under_plainId plain_loop _]
  unfold Builtin.«re.Pattern.sub.loop»
  refine wpAny_bind (whole_target hp ?_)
  refine wpAny_bind (wpAny_pure ?_)
  have hsz : (flatT (dn ++ rest)).toArray.size = (flatT (dn ++ rest)).length := by simp
  have hdl : (flatT dn).length ≤ (flatT (dn ++ rest)).length := by rw [flatT_append, List.length_append]; omega
  have hN : ((flatT dn).length : Int).toNat = (flatT dn).length := Int.toNat_natCast _
  rcases split_esc rest with ⟨c, rfl⟩ | ⟨c, xs, r', rfl⟩
  · -- no escape any more
    have hno : ∀ j, (flatT dn).length ≤ j → j < (flatT (dn ++ plain c)).toArray.size → (flatT (dn ++ plain c)).toArray.getD j 0 ≠ 27 := by
      intro j h1 h2 h3
      rw [getD_toArray] at h3
      obtain ⟨i, rfl⟩ : ∃ i, j = (flatT dn).length + i := ⟨j - (flatT dn).length, by omega⟩
      rw [flatT_append, getD_right, flatT_plain] at h3
      have hi : i < c.length := by
        rw [hsz, flatT_append, flatT_plain, List.length_append] at h2; omega
      have hm : Tk.ch c[i] ∈ dn ++ plain c := by
        simp [plain]
      have := (hok _ hm).1
      rw [List.getD_eq_getElem?_getD, List.getElem?_eq_getElem hi] at h3
      exact this h3
    refine wpAny_bind (runToEnd (m := srch (flatT (dn ++ plain c)).toArray (flatT dn).length) (P := fun m' => m'.outcome = some .failed) (search_all (by rw [hsz]; omega) (by rw [hsz]; exact hdl)
      (fun q e hq he hb m' _ _ _ _ _ _ => absurd he.c0 (hno q hq (by have := he.le; have := he.sz; omega))) (fun _ m' hm => hm) (fun j h1 h2 h3 => absurd h3 (hno j h1 h2))) (by rw [hsz]; omega) fun m' hm => .inr ⟨hm, ?_⟩)
    -- the rest, then the join
    have fin : ∀ (s' : Shared) (ps' : List (Str × Tok)) (qs' : List (List Nat)) (k' : Nat) (h' : Heap) (tk' : Nat), s' = { s with heap := h', toks := tk' } → (∀ b o, b ≠ D → s.heap.get? b = some o → h'.get? b = some o) →
        h'.get? D = some { cls := .type "list", data := .seq (strValues ps').toArray k' } → ps'.map (·.1) = qs'.map S → qs'.flatten = signs (dn ++ plain c) → ps'.length ≤ 15000000 →
        wpAny (model prog w) A.in1 (do
          let joiner ← reSlice (flatT (dn ++ plain c)).toArray 0 0 0
          let text ← if ((← seqItems? (.ref D)).getD #[]).isEmpty then pure joiner else call (.builtin "str.join") [joiner, .ref D]
          ret text) (fun fin s' => match fin with | .done f => R (.ok f) s' | .again c' => c'.quiet = true ∧ codeAny (model prog w) A c' R s') (fun e s' => R (.error e) s') s' := by
      rintro s' ps' qs' k' h' tk' rfl hk hD' el' hq' hz'
      have hsl : (signs (dn ++ plain c)).length ≤ 1000000 := by
        have : ∀ ts : List Tk, (signs ts).length ≤ (flatT ts).length := by
          intro ts
          induction ts with
          | nil => simp [signs, flatT]
          | cons a r ih =>
            rw [flatT_cons, List.length_append]
            cases a with
            | ch c => show (signs r).length + 1 ≤ _; simp [Tk.flat]; omega
            | es x => show (signs r).length ≤ _; omega
        exact Nat.le_trans (this _) hlen
      refine wpAny_bind (wpAny_mkStr ?_ (by rw [extract_S]; exact S_fits (by simp)))
      rw [extract_S, List.drop_zero, List.take_zero]
      refine wpAny_bind (wpAny_seqItems hD' rfl ?_)
      have hlp : (strValues ps').toArray.isEmpty = ps'.isEmpty := by cases ps' <;> simp [strValues]
      show wpAny _ _ (if (strValues ps').toArray.isEmpty = true then _ else _) _ _ _
      rw [hlp]
      cases hpe : ps'.isEmpty with
      | true =>
        rw [if_pos rfl]
        have : ps' = [] := List.isEmpty_iff.mp hpe
        subst this
        have hqn : qs' = [] := by cases qs' with | nil => rfl | cons _ _ => cases el'
        subst hqn
        refine wpAny_bind (wpAny_pure (wpAny_pure ?_))
        have hs : signs (dn ++ plain c) = [] := hq'.symm
        have := hR h' tk' (tk' + 1) hk
        rw [hs] at this; exact this
      | false =>
        rw [if_neg Bool.false_ne_true]
        refine wpAny_bind (call_meets PySem.F.slot_str_join (typeIs_str _ _ _) PySem.F.entry_str_join (PySem.F.args_str_join_2 _ _) (meets_str_join_list (S []) _ D ps' (join_fold_ok (qs := qs') el' (by rw [joinSize_nil, hq']; omega))) ⟨isList_of hD', joinMade_post rfl el' (by rw [joinL_nil, hq']; omega) fun tk k => wpAny_pure ?_⟩)
        rw [joinL_nil, hq']
        exact hR h' tk k hk
    show wpAny _ _ (if ((flatT dn).length : Int).toNat < (flatT (dn ++ plain c)).toArray.size then _ else _) _ _ s
    rw [hN, hsz]
    by_cases hc : (flatT dn).length < (flatT (dn ++ plain c)).length
    · rw [if_pos hc]
      refine wpAny_bind (wpAny_mkStr ?_ (by rw [extract_S]; exact S_fits (by simp; omega)))
      rw [extract_S]
      have ex : ((flatT (dn ++ plain c)).take (flatT (dn ++ plain c)).length).drop (flatT dn).length = c := by
        rw [List.take_length, flatT_append, List.drop_left, flatT_plain]
      show wpAny _ _ (updateSeq D (·.push (.str (S (((flatT (dn ++ plain c)).take (flatT (dn ++ plain c)).length).drop (flatT dn).length)) s.toks)) >>= _) _ _ _
      rw [ex]
      refine wpAny_bind (push_text hD (by omega) fun h' k' hD' hs' => ?_)
      exact fin _ (ps ++ [(S c, s.toks)]) (qs ++ [c]) k' h' (s.toks + 1) rfl (fun b o hb e => (hs'.2 b hb).trans e) hD' (by rw [List.map_append, List.map_append, el]; rfl) (by rw [List.flatten_append, hq, signs_append, signs_plain]; simp) (by rw [List.length_append]; simp; omega)
    · rw [if_neg hc]
      have hc0 : c = [] := by
        have : (flatT (dn ++ plain c)).length = (flatT dn).length + c.length := by rw [flatT_append, flatT_plain, List.length_append]
        exact List.length_eq_zero_iff.mp (by omega)
      subst hc0
      exact fin s ps qs kk s.heap s.toks rfl (fun _ _ _ e => e) hD el (by rw [hq, signs_append]; simp [plain, signs]) (by omega)
  · -- an escape stands there
    have hxs : (Tk.es xs).ok := hok _ (by simp)
    have hfl : flatT (dn ++ (plain c ++ Tk.es xs :: r')) = flatT (dn ++ plain c) ++ ((27 :: 91 :: (xs ++ [109])) ++ flatT r') := by
      rw [← List.append_assoc, flatT_append, flatT_cons]; rfl
    have hql : (flatT (dn ++ plain c)).length = (flatT dn).length + c.length := by rw [flatT_append, flatT_plain, List.length_append]
    have hel : (flatT (dn ++ plain c ++ [Tk.es xs])).length = (flatT (dn ++ plain c)).length + (xs.length + 3) := by
      rw [flatT_append, List.length_append, flatT_cons]; simp [Tk.flat, flatT]
    have hesc : EscAt (flatT (dn ++ (plain c ++ Tk.es xs :: r'))).toArray (flatT (dn ++ plain c)).length ((flatT (dn ++ plain c)).length + (xs.length + 3)) := by
      rw [hfl]; exact esc_at hxs
    have htot : (flatT (dn ++ (plain c ++ Tk.es xs :: r'))).length = (flatT (dn ++ plain c)).length + (xs.length + 3) + (flatT r').length := by
      rw [hfl]; simp; omega
    have hno : ∀ j, (flatT dn).length ≤ j → j < (flatT (dn ++ plain c)).length → (flatT (dn ++ (plain c ++ Tk.es xs :: r'))).toArray.getD j 0 ≠ 27 := by
      intro j h1 h2 h3
      rw [getD_toArray, hfl] at h3
      obtain ⟨i, rfl⟩ : ∃ i, j = (flatT dn).length + i := ⟨j - (flatT dn).length, by omega⟩
      rw [flatT_append, flatT_plain, List.append_assoc, getD_right] at h3
      have hi : i < c.length := by omega
      have hm : Tk.ch c[i] ∈ dn ++ (plain c ++ Tk.es xs :: r') := by simp [plain]
      have := (hok _ hm).1
      rw [List.getD_eq_getElem?_getD, List.getElem?_append_left hi, List.getElem?_eq_getElem hi] at h3
      exact this h3
    refine wpAny_bind (runToEnd (m := srch (flatT (dn ++ (plain c ++ Tk.es xs :: r'))).toArray (flatT dn).length) (P := fun m' => m'.outcome = some .matched ∧ m'.start = (flatT (dn ++ plain c)).length ∧ m'.handed = (flatT (dn ++ plain c)).length + (xs.length + 3)) (search_all (by rw [hsz]; omega) (by rw [hsz]; exact hdl)
      (fun q e hq' he hb m' m1 m2 _ _ _ m6 => ?_) (fun h27 m' hm => absurd hesc.c0 (h27 _ (by omega) (by rw [hsz]; omega))) (fun j h1 h2 h3 => esc_any hok h2 h3)) (by rw [hsz]; omega) fun m' hm => .inl ⟨hm.1, ?_⟩)
    · have hqq : q = (flatT (dn ++ plain c)).length := by
        rcases Nat.lt_trichotomy q (flatT (dn ++ plain c)).length with h | h | h
        · exact absurd he.c0 (hno q hq' h)
        · exact h
        · exact absurd hesc.c0 (hb _ (by omega) h)
      subst hqq
      exact ⟨m6, m1, m2.trans (esc_unique he hesc)⟩
    obtain ⟨m0, m1, m2⟩ := hm
    have again : ∀ (s' : Shared) (ps' : List (Str × Tok)) (qs' : List (List Nat)) (k' : Nat) (h' : Heap) (tk' : Nat), s' = { s with heap := h', toks := tk' } → (∀ b o, b ≠ D → s.heap.get? b = some o → h'.get? b = some o) →
        h'.get? D = some { cls := .type "list", data := .seq (strValues ps').toArray k' } → ps'.map (·.1) = qs'.map S → qs'.flatten = signs (dn ++ plain c) → ps'.length ≤ 2 * (flatT dn).length + 1 →
        wpAny (model prog w) A.in1 (do
          updateSeq D (·.push (.str (S []) u))
          again (.builtin "re.Pattern.sub.loop" ⟨[.ref ap, .str (S (flatT (dn ++ (plain c ++ Tk.es xs :: r')))) t, .str (S []) u, rawInt 0, rawInt 0, rawInt (n + 1), rawInt m'.handed, rawInt m'.handed, .bool (m'.handed == m'.start), .ref D, .bool false], []⟩))
          (fun fin s' => match fin with | .done f => R (.ok f) s' | .again c' => c'.quiet = true ∧ codeAny (model prog w) A c' R s') (fun e s' => R (.error e) s') s' := by
      rintro s' ps' qs' k' h' tk' rfl hk hD' el' hq' hz'
      refine wpAny_bind (push_text hD' (by omega) fun h2 k2 hD2 hs2 => wpAny_pure ⟨plainId_quiet plain_loop _, ?_⟩)
      rw [m1, m2, show ((flatT (dn ++ plain c)).length + (xs.length + 3) == (flatT (dn ++ plain c)).length) = false from beq_eq_false_iff_ne.mpr (by omega)]
      have hts : dn ++ (plain c ++ Tk.es xs :: r') = (dn ++ plain c ++ [Tk.es xs]) ++ r' := by simp
      rw [hts] at hok hlen hR ⊢
      have hkk : ∀ b o, b ≠ D → s.heap.get? b = some o → h2.get? b = some o := fun b o hb e => (hs2.2 b hb).trans (hk b o hb e)
      refine IH r'.length (by simp; omega) r' rfl (dn ++ plain c ++ [Tk.es xs]) _ (ps' ++ [(S [], u)]) (qs' ++ [[]]) k2 (n + 1) _ 0 0 0 0 0 ?_ hDp hDc hok hlen (by rw [hel]) hD2 ?_ ?_ ?_ ?_
      · obtain ⟨⟨o, e, r⟩, ⟨o2, n2, it, e2, r2⟩⟩ := hp
        exact ⟨⟨o, hkk _ _ (Ne.symm hDp) e, r⟩, ⟨o2, n2, it, hkk _ _ (Ne.symm hDc) e2, r2⟩⟩
      · rw [List.map_append, List.map_append, el']; rfl
      · rw [List.flatten_append, hq', signs_append (dn ++ plain c)]; simp [signs, Tk.sign?]
      · rw [hel]; simp; omega
      · exact fun h3 tk k3 hk3 => hR h3 tk k3 fun b o hb e => hk3 b o hb (hkk b o hb e)
    show wpAny _ _ (if ((flatT dn).length : Int).toNat < m'.start then _ else _) _ _ s
    rw [hN]
    by_cases hc : (flatT dn).length < m'.start
    · rw [if_pos hc]
      refine wpAny_bind (wpAny_mkStr ?_ (by rw [extract_S]; exact S_fits (by simp; omega)))
      rw [extract_S]
      have ex : ((flatT (dn ++ (plain c ++ Tk.es xs :: r'))).take m'.start).drop (flatT dn).length = c := by
        rw [m1, hfl, List.take_left, flatT_append, List.drop_left, flatT_plain]
      rw [ex]
      refine wpAny_bind (push_text hD (by omega) fun h' k' hD' hs' => ?_)
      exact again _ (ps ++ [(S c, s.toks)]) (qs ++ [c]) k' h' (s.toks + 1) rfl (fun b o hb e => (hs'.2 b hb).trans e) hD' (by rw [List.map_append, List.map_append, el]; rfl) (by rw [List.flatten_append, hq, signs_append, signs_plain]; simp) (by rw [List.length_append]; simp; omega)
    · rw [if_neg hc]
      have hc0 : c = [] := List.length_eq_zero_iff.mp (by omega)
      subst hc0
      exact again s ps qs kk s.heap s.toks rfl (fun _ _ _ e => e) hD el (by rw [hq, signs_append]; simp [plain, signs]) (by omega)
end
end Mine
end

section
open PySem PySem.W PySem.Calls PyProof.Rows PySem.Builtin PySem.Builtin.Str PySem.Builtin.Re
set_option linter.all false
set_option maxRecDepth 100000
namespace Mine

theorem noCall_str : typeLookup (.type "str") "__call__" = pure none := by rw [typeLookup_type, builtinLookup_eq_fast]; kernel_rfl

theorem named_sub (a b : Value) : reNamed "re.Pattern.sub" "sub" ["repl", "string", "count"] 2 [a, b] [] = pure [some a, some b, none] := by rfl
theorem named_match (a b : Value) : reNamed "re.Pattern.match" "match" ["string", "pos", "endpos"] 1 [a, b] [] = pure [some a, some b, none] := by rfl

section
variable {c : FC} {K : Frag} {n : Nat} {m : LM} {H F : HM} {X : XM} {s : Shared} {ap ac : Addr}

theorem St.pat (St' : St c m H F s) (hp : PatAt ap ac c.s₀.heap) : PatAt ap ac s.heap := hp.keeps St'.base
theorem MethJ.pat {name : Str} {id : String} {Q : Value → List Value → HM → Prop} (hp : PatAt ap ac c.s₀.heap) (slot : Slot "re.Pattern" name id) (ty : typeOf (.builtin id) = pure (.type "method_descriptor"))
    (h : Q (.builtin id) [.ref ap] H) : MethJ c (.ref ap) name m H Q X := fun V pl G s e St' => by
  obtain rfl := er_ref e
  obtain ⟨⟨o, ho, hc, hd, _⟩, _⟩ := St'.pat hp
  exact getMethod_builtin ⟨o, ho, hc⟩ plainAttrs_Pattern slot ty (fun _ e => by cases e; exact ⟨o, ho, hd⟩) ⟨H, St', h⟩

theorem C_sub {ts : List Tk} {Q : Value → HM → Prop} (hp : PatAt ap ac c.s₀.heap) (hok : okT ts) (hl : (flatT ts).length ≤ 1000000) (h : Q (VT (signs ts)) H) : CallJ c (.builtin "re.Pattern.sub") [.ref ap, VT [], VT (flatT ts)] [] m H Q X := fun Fv Vs Ks e0 e1 e2 G s St' => by
  obtain rfl := er_builtin e0
  obtain ⟨V, W, Z, rfl, e, e', e''⟩ := call3 e1; obtain rfl := er_ref e; obtain ⟨u, rfl⟩ := er_str e'; obtain ⟨t, rfl⟩ := er_str e''; obtain rfl := kw0 e2
  have hps := St'.pat hp
  obtain ⟨⟨o, ho, hc, hd, _⟩, ⟨oc, nc, itc, hoc, _⟩⟩ := id hps
  refine wpAny_call (codeAny_call_builtin slot_Pattern_sub.plain entry_Pattern_sub (slot_Pattern_sub.check _ _ _ _ _ _ _ _ ⟨o, ho, hc⟩ (args_Pattern_sub _ _ _) ?_))
  show wpAny _ _ (reSubstitute "re.Pattern.sub" "sub" false ⟨[.ref ap, .str (S []) u, .str (S (flatT ts)) t], []⟩) _ _ s
  unfold reSubstitute
  show wpAny _ _ (reNamed "re.Pattern.sub" "sub" ["repl", "string", "count"] 2 [.str (S []) u, .str (S (flatT ts)) t] [] >>= _) _ _ s
  rw [named_sub]
  refine wpAny_bind (wpAny_pure ?_)
  refine wpAny_bind (wpAny_pure ?_)
  refine wpAny_bind (wpAny_specialOf (typeIs_str _ _ _) noCall_str ?_)
  refine wpAny_bind (wpAny_bind (wpAny_pure (wpAny_pure ?_)))
  refine wpAny_bind (wpAny_pure ?_)
  rw [show (!(S []).cps.contains 92) = true from by simp [S]]
  refine wpAny_bind (wpAny_pure ?_)
  refine wpAny_bind (wpAny_holding (whole_target hps ?_))
  refine wpAny_bind (wpAny_newList ?_ (by show 0 ≤ sizeLine; decide))
  refine wpAny_pure ⟨plainId_quiet plain_loop _, ?_⟩
  have kp : ∀ b o, s.heap.get? b = some o → (s.heap.push { cls := .type "list", data := .seq ([] : List Value).toArray }).get? b = some o := fun b o e => Heap.get?_push_of_some _ e
  refine sub_loop (ap := ap) (ac := ac) ts [] _ [] [] 0 0 0 0 0 0 0 0 (hps.keeps kp) (Ne.symm (Nat.ne_of_lt (Heap.lt_size ho))) (Ne.symm (Nat.ne_of_lt (Heap.lt_size hoc))) hok hl rfl (Heap.get?_push_size _ rfl) rfl rfl (Nat.zero_le _) fun h' tk k' hk => ?_
  exact ⟨H, St'.keeps (t := k') fun b o e => hk b o (Nat.ne_of_lt (Heap.lt_size e)) (kp b o e), h⟩

/-- a match found, ending at en -/
def MatchAt (H : HM) (a : Addr) (en : Nat) : Prop := ∃ tA oa ot vs items k, H a = some (.raw oa) ∧ oa.cls = .type "re.Match" ∧ oa.dict = none ∧ oa.data = .fields vs ∧ vs.getD 5 .none = .ref tA ∧ H tA = some (.raw ot) ∧ ot.data = .seq items k ∧ (items.map reRawOf).getD 1 (-1) = (en : Int)
theorem C_match {l : List Nat} {i : Nat} {Q : Value → HM → Prop} (hp : PatAt ap ac c.s₀.heap) (hi : i < l.length) (hl : l.length ≤ 1000000)
    (h : (l.getD i 0 ≠ 27 ∧ Q .none H) ∨ ∃ e, EscAt l.toArray i e ∧ ∀ a H', H.le H' → H a = none → MatchAt H' a e → Q (.ref a) H') : CallJ c (.builtin "re.Pattern.match") [.ref ap, VT l, VI i] [] m H Q X := fun Fv Vs Ks e0 e1 e2 G s St' => by
  obtain rfl := er_builtin e0
  obtain ⟨V, W, Z, rfl, e, e', e''⟩ := call3 e1; obtain rfl := er_ref e; obtain ⟨t, rfl⟩ := er_str e'; obtain ⟨u, rfl⟩ := er_int e''; obtain rfl := kw0 e2
  have hps := St'.pat hp
  obtain ⟨⟨o, ho, hc, hd, vs, hdata, e6, e2, e5⟩, ⟨oc, nc, itc, hoc, hcd, hcode⟩⟩ := id hps
  refine wpAny_call (codeAny_call_builtin slot_Pattern_match.plain entry_Pattern_match (slot_Pattern_match.check _ _ _ _ _ _ _ _ ⟨o, ho, hc⟩ (args_Pattern_match _ _ _) ?_))
  unfold Builtin.«re.Pattern.match»
  have hsz : l.toArray.size = l.length := by simp
  refine wpAny_bind (m := reTarget "re.Pattern.match" "match" ⟨[.ref ap, .str (S l) t, .int i u], []⟩) ?_
  unfold reTarget
  show wpAny _ _ (reNamed "re.Pattern.match" "match" ["string", "pos", "endpos"] 1 [.str (S l) t, .int i u] [] >>= _) _ _ s
  rw [named_match]
  refine wpAny_bind (wpAny_pure ?_)
  show wpAny _ _ ((do if (i : Int) < -(2 ^ 63) || (i : Int) ≥ 2 ^ 63 then raiseError "OverflowError" "Python int too large to convert to C ssize_t"
                      pure (i : Int)) >>= _) _ _ s
  rw [if_neg (by simp; omega)]
  refine wpAny_bind (wpAny_bind (wpAny_pure (wpAny_pure ?_)))
  refine wpAny_bind (wpAny_pure ?_)
  refine wpAny_bind (wpAny_fieldsOf ho hdata ?_)
  show wpAny _ _ (do
    if reRawNat (vs.getD 6 .none) == 0 && (0 : Nat) == 1 then raiseError "TypeError" "cannot use a string pattern on a bytes-like object"
    if reRawNat (vs.getD 6 .none) == 1 && (0 : Nat) == 0 then raiseError "TypeError" "cannot use a bytes pattern on a string-like object"
    reNoCollectionInside (.str (S l) t) 0
    pure ({ pattern := .ref ap, string := .str (S l) t, code := (← reRawItems (vs.getD 5 .none)).map (·.toNat), text := l.toArray, kind := 0, groups := reRawNat (vs.getD 2 .none), pos := min (i : Int).toNat l.toArray.size, lim := min (2 ^ 63 - 1 : Int).toNat l.toArray.size } : ReTarget)) _ _ s
  rw [e6, e2, e5]
  show wpAny _ _ (do
    pure ({ pattern := .ref ap, string := .str (S l) t, code := (← reRawItems (.ref ac)).map (·.toNat), text := l.toArray, kind := 0, groups := 0, pos := min (i : Int).toNat l.toArray.size, lim := min (2 ^ 63 - 1 : Int).toNat l.toArray.size } : ReTarget)) _ _ s
  unfold reRawItems
  refine wpAny_bind (wpAny_bind (wpAny_seqItems hoc hcd (wpAny_pure (wpAny_pure ?_))))
  show wpAny _ _ (reAnswer { pattern := .ref ap, string := .str (S l) t, code := (itc.map reRawOf).map (·.toNat), text := l.toArray, kind := 0, groups := 0, pos := min (i : Int).toNat l.toArray.size, lim := min (2 ^ 63 - 1 : Int).toNat l.toArray.size } (Sre.forMatch ((itc.map reRawOf).map (·.toNat)) l.toArray 0 (min (i : Int).toNat l.toArray.size) (min (2 ^ 63 - 1 : Int).toNat l.toArray.size) false false)) _ _ s
  have hpos : min (i : Int).toNat l.toArray.size = i := by rw [hsz, Int.toNat_natCast]; omega
  have hlim : min (2 ^ 63 - 1 : Int).toNat l.toArray.size = l.toArray.size := by rw [hsz]; omega
  rw [hcode, hpos, hlim]
  unfold reAnswer
  rcases h with ⟨h27, hq⟩ | ⟨en, hesc, hq⟩
  · refine wpAny_bind (runToEnd (m := ms0 l.toArray i) (P := fun m' => m'.outcome = some .failed) (match_no (by rw [hsz]; exact hi) (by rw [getD_toArray]; exact h27) fun m' hm => hm) (by omega) fun m' hm => .inr ⟨hm, wpAny_pure ⟨H, St', hq⟩⟩)
  · refine wpAny_bind (runToEnd (m := ms0 l.toArray i) (P := fun m' => m'.outcome = some .matched ∧ m'.start = i ∧ m'.handed = en ∧ m'.marks = #[] ∧ m'.lastmark = -1) (match_esc (by rw [hsz]; omega) hesc fun m' a1 a2 a3 a4 a5 a6 => ⟨a6, a1, a2, a3, a4⟩) (by omega) fun m' hm => .inl ⟨hm.1, ?_⟩)
    obtain ⟨m0, m1, m2, m3, m4⟩ := hm
    show wpAny _ _ (reNewMatch (.ref ap) (.str (S l) t) 0 i l.toArray.size m' >>= fun v => ret v) _ _ s
    unfold reNewMatch
    show wpAny _ _ ((do newFields "re.Match" [.str (S l) t, .ref ap, rawInt i, rawInt l.toArray.size, rawInt m'.lastindex, ← newTuple [rawInt m'.start, rawInt m'.handed]]) >>= fun v => ret v) _ _ s
    obtain ⟨f1, f2, f3, f4⟩ := St'.fresh
    refine wpAny_bind (wpAny_bind (wpAny_newTuple ?_ (by show 2 ≤ sizeLine; decide)))
    have S1 := St'.push (o := { cls := .type "tuple", data := .seq [rawInt m'.start, rawInt m'.handed].toArray }) (ao := .raw _) rfl rfl
    obtain ⟨g1, g2, g3, g4⟩ := S1.fresh
    refine wpAny_newObj_type ?_ (by size_fits)
    have S2 := S1.push (o := { cls := .type "re.Match", data := .fields [.str (S l) t, .ref ap, rawInt i, rawInt l.toArray.size, rawInt m'.lastindex, .ref s.heap.objs.size].toArray }) (ao := .raw _) rfl rfl
    have hne : s.heap.objs.size ≠ (s.heap.push { cls := .type "tuple", data := .seq [rawInt m'.start, rawInt m'.handed].toArray }).objs.size := by rw [Heap.size_push]; exact Nat.ne_of_lt (Nat.lt_succ_self _)
    refine wpAny_pure ⟨_, S2, hq _ _ ((HM.le_set _ f1).trans (HM.le_set _ g1)) ?_ ⟨s.heap.objs.size, _, { cls := .type "tuple", data := .seq [rawInt m'.start, rawInt m'.handed].toArray }, _, [rawInt m'.start, rawInt m'.handed].toArray, 0, HM.set_same .., rfl, rfl, rfl, rfl, ?_, rfl, ?_⟩⟩
    · exact (HM.set_none.mp g1).2
    · rw [HM.set_ne _ _ hne]; exact HM.set_same ..
    · have : (Array.map reRawOf [rawInt m'.start, rawInt m'.handed].toArray).getD 1 (-1) = (m'.handed : Int) := by simp [reRawOf, rawInt]
      rw [this, m2]

theorem slot_end_kp : True := trivial
theorem MethJ.matched {a : Addr} {en : Nat} {Q : Value → List Value → HM → Prop} (hm : MatchAt H a en) (h : Q (.builtin "re.Match.end") [.ref a] H) : MethJ c (.ref a) "end" m H Q X := fun V pl G s e St' => by
  obtain rfl := er_ref e
  obtain ⟨tA, oa, ot, vs, items, k, h1, h2, h3, _⟩ := hm
  obtain ⟨_, _, o, ho, e⟩ := St'.hp _ _ h1
  have e : o = oa := e
  subst e
  exact getMethod_builtin ⟨o, ho, h2⟩ plainAttrs_Match slot_Match_end type_Match_end (fun _ e => by cases e; exact ⟨o, ho, h3⟩) ⟨H, St', h⟩
theorem C_end {a : Addr} {en : Nat} {Q : Value → HM → Prop} (hm : MatchAt H a en) (h : Q (VI en) H) : CallJ c (.builtin "re.Match.end") [.ref a] [] m H Q X := fun Fv Vs Ks e0 e1 e2 G s St' => by
  obtain rfl := er_builtin e0
  obtain ⟨V, rfl, e⟩ := call1 (as := []) e1; obtain rfl := er_ref e; obtain rfl := kw0 e2
  obtain ⟨tA, oa, ot, vs, items, k, h1, h2, h3, h4, h5, h6, h7, h8⟩ := hm
  obtain ⟨_, _, o, ho, e⟩ := St'.hp _ _ h1
  have e : o = oa := e
  subst e
  obtain ⟨_, _, o', ho', e'⟩ := St'.hp _ _ h6
  have e' : o' = ot := e'
  subst e'
  refine wpAny_call_entry slot_Match_end ⟨o, ho, h2⟩ entry_Match_end ?_ (args_Match_end _)
  unfold Builtin.«re.Match.end»
  refine wpAny_bind (m := reOneGroup "Match.end" "end" ⟨[.ref a], []⟩) ?_
  unfold reOneGroup
  refine wpAny_bind (wpAny_pure ?_)
  unfold reFound
  refine wpAny_bind (wpAny_bind (wpAny_fieldsOf ho h4 ?_))
  rw [h5]
  unfold reRawItems
  refine wpAny_bind (wpAny_bind (wpAny_seqItems ho' h7 (wpAny_pure (wpAny_pure ?_))))
  refine wpAny_bind (wpAny_pure (wpAny_pure ?_))
  show wpAny _ _ (retInt ((items.map reRawOf).getD (2 * 0 + 1) (-1))) _ _ s
  rw [show 2 * 0 + 1 = 1 from rfl, h8]
  exact wpAny_bind (wpAny_mkInt (wpAny_pure ⟨_, rfl, H, St'.toks _, h⟩))
end
end Mine
end

section
open PySem PySem.W PySem.Calls PyProof.Rows PySem.Builtin PySem.Builtin.Str
set_option linter.all false
set_option maxRecDepth 100000
namespace Mine

/-! ## a function's call, as code -/
def CodeJ (c : FC) (f : Value) (as : List Value) (ks : List (Str × Value)) (m : LM) (H : HM) (Q : Value → HM → Prop) : Prop :=
  ∀ Fv Vs Ks, er Fv = f → Vs.map er = as → Ks.map (fun p => (p.1, er p.2)) = ks → ∀ F s (R : Result → Shared → Prop), St c m H F s → (∀ V s' H', St c m H' F s' → Q (er V) H' → R (.ok (.ret V)) s') → codeAny (model c.prog c.w) c.A (.call Fv ⟨Vs, Ks⟩) R s
section
variable {c : FC} {K : Frag} {n : Nat} {m : LM} {H F : HM} {X : XM} {s : Shared}
theorem CallJ.ofCode {f : Value} {as : List Value} {ks : List (Str × Value)} {Q : Value → HM → Prop} (h : CodeJ c f as ks m H Q) : CallJ c f as ks m H Q X := fun Fv Vs Ks e0 e1 e2 G s St' =>
  wpAny_call (h Fv Vs Ks e0 e1 e2 G s _ St' fun V s' H' S' q => ⟨H', S', q⟩)

theorem CodeJ.fn {f : Addr} {fd : FuncData} {body : List Stmt} {as : List Value} {ks bs : List (Str × Value)} {Q : Value → HM → Prop} (O : Ok c K (n + 1)) (W : Fn K f fd body) (hb : FnBinds K fd as ks bs)
    (hk : ∀ x ∈ bs, fd.scope.names.lookup x.1 = some .local ∨ fd.scope.names.lookup x.1 = some .cell)
    (h : ∀ L, (∀ k, L ≤ k → H k = none) → Ok (c.call fd L f) K n → Exs (c.call fd L f) body (bindLM (c.call fd L f).env.kindOf bs []) (cellsH H (cellsFrom (L + 1) fd.scope.names []) (bindCM (c.call fd L f).env.kindOf bs fun _ => none)) (EndJ Q) XF) : CodeJ c (.ref f) as ks m H Q := fun Fv Vs Ks e0 e1 e2 G s R St' hR => by
  obtain rfl := er_ref e0
  obtain ⟨binds, hbt, rfl⟩ := hb Vs Ks e1 e2
  obtain ⟨oc, od, osl, hlook⟩ := W.look
  obtain ⟨oL, hL⟩ := St'.frame
  have XK := O.inK St'
  refine codeAny_call_function (fd := fd) (by have := O.dp; show c.A.depth < 1000; omega) (XK _ _ hlook) rfl W.co W.gen W.body (codeRec_of XK W.cd) (hbt s XK _ _ _ _ ?_)
  rw [W.clo]
  refine wpAny_newFunctionEnv_cells W.kind (fun x hx => ?_) fun env he s' x => ?_
  · have := hk (x.1, er x.2) (List.mem_map.mpr ⟨x, hx, rfl⟩)
    exact this.imp _root_.id fun q => ⟨q, cells_have _ _ _ _ (.inl q)⟩
  · obtain ⟨h', t', es'⟩ := x.toInCall.same
    have kp := x.toInCall.keep
    have eenv : env = (c.call fd s.heap.objs.size f).env := he
    subst eenv
    refine ⟨by rw [es'] at kp ⊢; exact (O.nl.keeps St'.base).keeps kp, codeAny_func ?_⟩
    have S1 : St (c.call fd s.heap.objs.size f) (bindLM (c.call fd s.heap.objs.size f).env.kindOf (binds.map fun p => (p.1, er p.2)) [])
        (cellsH H (cellsFrom (s.heap.objs.size + 1) fd.scope.names []) (bindCM (c.call fd s.heap.objs.size f).env.kindOf (binds.map fun p => (p.1, er p.2)) fun _ => none)) (G.set c.env.locals (.raw oL)) s' := by
      subst es'
      refine St'.other (c' := c.call fd s.heap.objs.size f) rfl hL kp (Nat.le_refl _) x.toInCall.ns (bind_rel _ _ _ _ fun y u hy => by cases hy) fun a ao e => ?_
      rcases cellsH_some e with ⟨p, hp, rfl, rfl⟩ | ⟨_, e⟩
      · right
        have hlk := lookup_of_nd (cells_nd fd.scope.names (s.heap.objs.size + 1) [] W.nd (fun _ _ _ hq => nomatch hq) List.Pairwise.nil) hp
        obtain ⟨o, ho, hd⟩ := x.cell p.1 p.2 hlk
        have hab := x.above p.1 p.2 hp
        exact ⟨Nat.le_of_lt hab, Nat.ne_of_gt hab, o, ho, _, hd, (bind_cells _ _ _ _ (fun _ => rfl) p.1).symm⟩
      · exact .inl e
    refine wpAny_mono (h _ (fun k hk => (St'.above hk).1) (O.call W _) _ _ S1) (fun fl s'' ⟨m', H', S', H'', hle, hq⟩ => ?_) fun _ _ z => z.elim
    exact hR _ _ H'' ((St'.home (c' := c.call fd s.heap.objs.size f) rfl hL S').weak hle) (by cases fl <;> exact hq)
theorem CodeJ.run {f : Addr} {fd : FuncData} {body : List Stmt} {as : List Value} {ks bs : List (Str × Value)} {Q : Value → HM → Prop} (O : Ok c K (n + 1)) (W : Fn K f fd body) (hb : FnBinds K fd as ks bs)
    (hk : okBinds fd.scope.names (bs.map (·.1)) = true)
    (h : ∀ L, (∀ k, L ≤ k → H k = none) → Ok (c.call (fdOf K f) L f) K n → Exs (c.call (fdOf K f) L f) body (bindLM (c.call (fdOf K f) L f).env.kindOf bs []) (cellsH H (cellsFrom (L + 1) (fdOf K f).scope.names []) (bindCM (c.call (fdOf K f) L f).env.kindOf bs fun _ => none)) (EndJ Q) XF) : CodeJ c (.ref f) as ks m H Q := by
  have ef : fdOf K f = fd := by
    obtain ⟨_, _, _, e⟩ := W.look
    unfold fdOf; rw [e]
  subst ef
  exact CodeJ.fn O W hb (fun x hx => by
    have := List.all_eq_true.mp hk x.1 (List.mem_map.mpr ⟨x, hx, rfl⟩)
    rw [Bool.or_eq_true, beq_iff_eq, beq_iff_eq] at this
    exact this) h

/-! ## instances -/
def Inst (H : HM) (x C d : Addr) (fs : List (Str × Value)) : Prop := H x = some (.raw (instObj C d)) ∧ H d = some (.dic fs)

theorem find_dic {es : List DictEntry} {fs : List (Str × Value)} (h : es.map (fun e => (er e.key, er e.val)) = fs.map (fun p => (VS p.1, p.2))) (name : Str) :
    (es.any (·.refKey) = false) ∧ (match fs.lookup name with | some v => ∃ e, es.find? (·.key.isStr name) = some e ∧ er e.val = v | none => es.find? (·.key.isStr name) = none) := by
  induction es generalizing fs with
  | nil =>
    cases fs with
    | nil => exact ⟨rfl, rfl⟩
    | cons _ _ => cases h
  | cons e es ih =>
    cases fs with
    | nil => cases h
    | cons p r =>
      obtain ⟨hsh, key, val⟩ := e
      rw [List.map_cons, List.map_cons, List.cons.injEq, Prod.mk.injEq] at h
      obtain ⟨⟨hk, hv⟩, hr⟩ := h
      obtain ⟨t, hk⟩ := er_str hk
      have hk : key = .str p.1 t := hk
      subst hk
      obtain ⟨i1, i2⟩ := ih hr
      refine ⟨by rw [List.any_cons, i1]; rfl, ?_⟩
      have ei : Value.isStr (.str p.1 t) name = (p.1 == name) := rfl
      rw [List.lookup_cons]
      by_cases q : name = p.1
      · subst q
        simp only [beq_self_eq_true]
        exact ⟨_, by rw [List.find?_cons]; simp [ei], hv⟩
      · rw [beq_eq_false_iff_ne.mpr q]
        have : (p.1 == name) = false := beq_eq_false_iff_ne.mpr (Ne.symm q)
        rw [List.find?_cons]
        simp only [ei, this]
        exact i2
theorem getL_some {es : List DictEntry} {fs : List (Str × Value)} (h : es.map (fun e => (er e.key, er e.val)) = fs.map (fun p => (VS p.1, p.2))) {name : Str} {v : Value} (hl : fs.lookup name = some v) : ∃ V, getL name es = some (some V) ∧ er V = v := by
  have := (find_dic h name).2
  rw [hl] at this
  obtain ⟨e, he, hv⟩ := this
  exact ⟨e.val, by unfold getL; rw [he], hv⟩
theorem getL_none {es : List DictEntry} {fs : List (Str × Value)} (h : es.map (fun e => (er e.key, er e.val)) = fs.map (fun p => (VS p.1, p.2))) {name : Str} (hl : fs.lookup name = none) : getL name es = some none := by
  obtain ⟨h1, h2⟩ := find_dic h name
  rw [hl] at h2
  unfold getL; rw [h2]; simp only [h1, Bool.false_eq_true, if_false]
theorem getL_any {es : List DictEntry} {fs : List (Str × Value)} (h : es.map (fun e => (er e.key, er e.val)) = fs.map (fun p => (VS p.1, p.2))) (name : Str) : (getL name es).isSome = true := by
  cases hl : fs.lookup name with
  | none => rw [getL_none h hl]; rfl
  | some v => obtain ⟨V, e, _⟩ := getL_some h hl; rw [e]; rfl
/-- the dict with one entry laid -/
def putF (name : Str) (v : Value) : List (Str × Value) → List (Str × Value)
  | [] => [(name, v)]
  | p :: r => if p.1 == name then (p.1, v) :: r else p :: putF name v r
theorem putL_dic {name : Str} {V : Value} {hsh : Int} {t : Tok} : ∀ {es : List DictEntry} {fs : List (Str × Value)}, es.map (fun e => (er e.key, er e.val)) = fs.map (fun p => (VS p.1, p.2)) →
    (putL name hsh (.str name t) V es).map (fun e => (er e.key, er e.val)) = (putF name (er V) fs).map (fun p => (VS p.1, p.2))
  | [], [], _ => rfl
  | [], _ :: _, h => by cases h
  | _ :: _, [], h => by cases h
  | e :: es, p :: r, h => by
    obtain ⟨hsh', key, val⟩ := e
    rw [List.map_cons, List.map_cons, List.cons.injEq, Prod.mk.injEq] at h
    obtain ⟨⟨hk, hv⟩, hr⟩ := h
    obtain ⟨t', hk⟩ := er_str hk
    have hk : key = .str p.1 t' := hk
    subst hk
    have ei : Value.isStr (.str p.1 t') name = (p.1 == name) := rfl
    unfold putL putF
    rw [ei]
    cases hq : (p.1 == name)
    · simp only [Bool.false_eq_true, if_false, List.map_cons, List.cons.injEq, Prod.mk.injEq]
      exact ⟨⟨rfl, hv⟩, putL_dic hr⟩
    · simp only [if_true, List.map_cons, List.cons.injEq, Prod.mk.injEq]
      refine ⟨⟨?_, ?_⟩, hr⟩ <;> first | rfl | trivial
theorem putF_length (name : Str) (v : Value) : ∀ fs : List (Str × Value), (putF name v fs).length ≤ fs.length + 1
  | [] => Nat.le_refl _
  | p :: r => by
    unfold putF; split
    · simp
    · have := putF_length name v r; simp; omega

theorem St.inst (S : St c m H F s) {x C d : Addr} {fs : List (Str × Value)} (I : Inst H x C d fs) : ∃ es k, es.map (fun e => (er e.key, er e.val)) = fs.map (fun p => (VS p.1, p.2)) ∧ s.heap.get? d = some (dictOf es k) ∧ InstAt s.heap x (instObj C d) C (some (dictOf es k)) := by
  obtain ⟨_, _, ox, hx, e⟩ := S.hp _ _ I.1
  have e : ox = instObj C d := e
  subst e
  obtain ⟨_, _, o, ho, es, k, rfl, he⟩ := S.hp _ _ I.2
  exact ⟨es, k, he, ho, ⟨hx, rfl, rfl, ho⟩⟩

def AttrJ (c : FC) (ov : Value) (attr : Str) (m : LM) (H : HM) (Q : Value → HM → Prop) (X : XM) : Prop := Op1 c (fun V => getAttr V attr true) ov m H Q X
theorem Ev.attr {o attr pos} {Q : Value → HM → Prop} (h : Ev c o m H (fun ov H1 => AttrJ c ov attr m H1 Q X) X)
    (he : eval (.Attribute o attr pos) c.env = (do
      let o' ← eval o c.env
      standAt pos.atName
      let r ← holding [o'] (getAttr o' attr true)
      letTemporaryGo o o' r
      pure r)) : Ev c (.Attribute o attr pos) m H Q X := fun G s S =>
  Attribute_any_ (wpAny_mono (h G s S) (fun V s1 ⟨H1, S1, h1⟩ => h1 V rfl G s1 S1) fun _ _ e => e) he

theorem handed_er {V : Value} (h : handedIn (er V) = true) : handedIn V = true := by cases V <;> first | rfl | exact h
theorem AttrJ.own {x C d : Addr} {attr : Str} {Q : Value → HM → Prop} (fs : List (Str × Value)) (v : Value) (K : Frag) (n : Nat) (av : Option Value) (I : Inst H x C d fs) (hl : fs.lookup attr = some v) (O : Ok c K n) (hg : plainGet K C attr = true) (hh : hasDictIn K C = true)
    (ha : findIn K (.ref C) attr = some av) (hn : noGet K av = true) (hv : handedIn v = true) (h : Q v H) : AttrJ c (.ref x) attr m H Q X := fun V e G s S => by
  obtain rfl := er_ref e
  obtain ⟨es, k, he, hd, IA⟩ := S.inst I
  obtain ⟨mr, Fr0, _⟩ := S.fr
  obtain ⟨W, hW, rfl⟩ := getL_some he hl
  exact get_own Fr0 O.X IA hg hh ha hn hW (handed_er hv) ⟨H, S.toks _, h⟩

theorem SetAttr.own {x C d : Addr} {attr : Str} {A V : Value} {Q : LM → HM → Prop} (fs : List (Str × Value)) (K : Frag) (n : Nat) (I : Inst H x C d fs) (O : Ok c K n)
    (hs : findIn K (.ref C) "__setattr__" = some (some (.builtin "object.__setattr__"))) (hp : plainOver K C = true) (ht : takerIn K C attr = some none) (hh : hasDictIn K C = true) (hz : fs.length < 900)
    (eA : er A = .ref x) (h : Q m (H.set d (.dic (putF attr (er V) fs)))) : Nw c (setAttr A attr V) m H Q X := fun G s S => by
  obtain rfl := er_ref eA
  obtain ⟨es, k, he, hd, IA⟩ := S.inst I
  obtain ⟨mr, Fr0, hm⟩ := S.fr
  obtain ⟨d1, d2, _⟩ := S.hp _ _ I.2
  have hlen : es.length = fs.length := by have := congrArg List.length he; simpa using this
  have hpl : (putL attr (PyData.keyHash c.w.params attr) (.str attr (s.toks + 1)) V es).length = (putF attr (er V) fs).length := by
    have := congrArg List.length (putL_dic (name := attr) (V := V) (hsh := PyData.keyHash c.w.params attr) (t := s.toks + 1) he)
    simpa using this
  refine set_dict (dx := d) Fr0 O.X S.news IA rfl hs hp ht hh (getL_any he attr) rfl (upd_map (full_mem d1 d2 hd) (full_nodup _ _ _)) (by rw [hpl]; have := putF_length attr (er V) fs; omega) fun h' Fr' N' => ?_
  exact ⟨m, _, St.backUpd S (t := s.toks + 2) (ao' := .dic (putF attr (er V) fs)) I.2 Fr' hm N' ⟨_, _, rfl, putL_dic he⟩, h⟩

def StoreA (c : FC) (ov : Value) (attr : Str) (v : Value) (m : LM) (H : HM) (Q : LM → HM → Prop) (X : XM) : Prop := ∀ A V, er A = ov → er V = v → Nw c (setAttr A attr V) m H Q X
theorem StoreA.own {x C d : Addr} {attr : Str} {v : Value} {Q : LM → HM → Prop} (fs : List (Str × Value)) (K : Frag) (n : Nat) (I : Inst H x C d fs) (O : Ok c K n)
    (hs : findIn K (.ref C) "__setattr__" = some (some (.builtin "object.__setattr__"))) (hp : plainOver K C = true) (ht : takerIn K C attr = some none) (hh : hasDictIn K C = true) (hz : fs.length < 900)
    (h : Q m (H.set d (.dic (putF attr v fs)))) : StoreA c (.ref x) attr v m H Q X := fun A V eA eV => SetAttr.own fs K n I O hs hp ht hh hz eA (by rw [eV]; exact h)
theorem Tgt.attr {o attr p v} {Q : LM → HM → Prop} (h : Ev c o m H (fun ov H1 => StoreA c ov attr v m H1 Q X) X) : Tgt c (.Attribute o attr p) v m H Q X := fun V e G s S =>
  kas_attr (wpAny_mono (h G s S) (fun O s1 ⟨H1, S1, h1⟩ => h1 O V rfl e G s1 S1) fun _ _ e => e)
theorem Ex.augA {o value attr tpos op p} {Q : Flow → LM → HM → Prop} (h : Ev c o m H (fun ov H1 => AttrJ c ov attr m H1 (fun old H2 => Ev c value m H2 (fun v H3 => Op2 c (inplaceOp op) old v m H3 (fun r H4 => StoreA c ov attr r m H4 (fun m' H' => Q .next m' H') X) X) X) X) X) :
    Ex c (.AugAssign (.Attribute o attr tpos) op value p) m H Q X := fun G s S =>
  wpAny_AugAssign_AttributeAny (wpAny_mono (h G s S) (fun O s1 ⟨H1, S1, h1⟩ => wpAny_mono (h1 O rfl G s1 S1) (fun Old s2 ⟨H2, S2, h2⟩ => wpAny_mono (h2 G s2 S2) (fun V s3 ⟨H3, S3, h3⟩ => wpAny_mono (h3 Old V rfl rfl G s3 S3) (fun R s4 ⟨H4, S4, h4⟩ =>
    wpAny_mono (h4 O R rfl rfl G s4 S4) (fun _ s5 ⟨m5, H5, S5, h5⟩ => ⟨m5, H5, S5, h5⟩) fun _ _ e => e) fun _ _ e => e) fun _ _ e => e) fun _ _ e => e) fun _ _ e => e)

theorem MethJ.inst {x C d f : Addr} {name : Str} {Q : Value → List Value → HM → Prop} (fs : List (Str × Value)) (K : Frag) (n : Nat) (I : Inst H x C d fs) (O : Ok c K n) (hl : fs.lookup name = none) (hg : plainGet K C name = true) (hf : findIn K (.ref C) name = some (some (.ref f))) (ht : isFn K (.ref f) = true)
    (h : Q (.ref f) [.ref x] H) : MethJ c (.ref x) name m H Q X := fun V pl G s e S => by
  obtain rfl := er_ref e
  obtain ⟨es, k, he, hd, IA⟩ := S.inst I
  obtain ⟨mr, Fr0, _⟩ := S.fr
  exact method_inst Fr0 O.X IA hg hf ht (getL_none he hl) ⟨H, S, h⟩

theorem under_type (A : Around) (C : Addr) (vs : List Value) (ks : List (Str × Value)) : (A.under (.builtin "type.__call__" ⟨.ref C :: vs, ks⟩)).handled = A.handled ∧ (A.under (.builtin "type.__call__" ⟨.ref C :: vs, ks⟩)).depth ≤ A.depth + 1 ∧ (A.under (.builtin "type.__call__" ⟨.ref C :: vs, ks⟩)).units ≤ A.units + 4 := by
  have w1 : (Code.builtin "type.__call__" ⟨.ref C :: vs, ks⟩).weight = 1 := by rfl
  have w2 : (Code.builtin "type.__call__" ⟨.ref C :: vs, ks⟩).cUnits = 1 := by rfl
  refine ⟨rfl, ?_, ?_⟩
  · show A.depth + (Code.builtin "type.__call__" ⟨.ref C :: vs, ks⟩).weight ≤ _
    omega
  · show A.units + (Code.builtin "type.__call__" ⟨.ref C :: vs, ks⟩).cUnits ≤ _
    omega
theorem Ok.under (O : Ok c K (n + 1)) (C : Addr) (vs : List Value) (ks : List (Str × Value)) : Ok { c with A := c.A.under (.builtin "type.__call__" ⟨.ref C :: vs, ks⟩) } K n := by
  obtain ⟨h1, h2, h3⟩ := under_type c.A C vs ks
  exact ⟨O.X, O.g, O.b, O.nl, O.kind, O.eg, O.eb, h1.trans O.hh, by have := O.dp; show (c.A.under _).depth + n < 900; omega, by have := O.un; show (c.A.under _).units + 4 * n < 9000; omega⟩

theorem CallJ.cls {C fI : Addr} {as : List Value} {ks : List (Str × Value)} {Q : Value → HM → Prop} (O : Ok c K (n + 1)) (hm : makesIn K C = true) (hi : findIn K (.ref C) "__init__" = some (some (.ref fI))) (hf : isFn K (.ref fI) = true)
    (h : ∀ c' : FC, Ok c' K n → ∀ x dx, H x = none → H dx = none → x ≠ dx → CodeJ c' (.ref fI) (.ref x :: as) ks m ((H.set dx (.dic [])).set x (.raw (instObj C dx))) (fun v H' => v = .none ∧ Q (.ref x) H')) : CallJ c (.ref C) as ks m H Q X := fun Fv Vs Ks e0 e1 e2 G s S => by
  obtain rfl := er_ref e0
  obtain ⟨mr, Fr0, hm0⟩ := S.fr
  refine call_cls Fr0 O.X S.news hm hi hf fun x dx h' Fr' N' hb hlt => ?_
  have S1 : St c m H G { s with heap := h' } := St.back (t := s.toks) S Fr' hm0 N' fun p hp => List.mem_cons_of_mem _ (List.mem_cons_of_mem _ hp)
  have nx := N' _ List.mem_cons_self
  have ndx := N' _ (List.mem_cons_of_mem _ List.mem_cons_self)
  have fresh : ∀ a, dx ≤ a → H a = none ∧ G a = none := fun a ha => by
    constructor
    · cases q : H a with
      | none => rfl
      | some o => obtain ⟨a1, a2, o', a3, _⟩ := S.hp _ _ q; exact absurd (hb _ (full_mem a1 a2 a3)) (Nat.not_lt.mpr ha)
    · cases q : G a with
      | none => rfl
      | some o => obtain ⟨a1, a2, o', a3, _⟩ := S.fp _ _ q; exact absurd (hb _ (full_mem a1 a2 a3)) (Nat.not_lt.mpr ha)
  have S2 := St.backNew (mr' := mr) (news := []) (ao := .dic []) S1 S1 (fresh dx (Nat.le_refl _)).1 (fresh dx (Nat.le_refl _)).2 ndx.2.1 ndx.2.2 ndx.1 ⟨[], 0, rfl, rfl⟩
  have hx : (H.set dx (.dic [])) x = none := by rw [HM.set_ne _ _ (Nat.ne_of_gt hlt)]; exact (fresh x (Nat.le_of_lt hlt)).1
  have S3 := St.backNew (mr' := mr) (news := []) (ao := .raw (instObj C dx)) S2 S2 hx (fresh x (Nat.le_of_lt hlt)).2 nx.2.1 nx.2.2 nx.1 rfl
  refine h { c with A := c.A.under (.builtin "type.__call__" ⟨.ref C :: Vs, Ks⟩) } (O.under _ _ _) x dx (fresh x (Nat.le_of_lt hlt)).1 (fresh dx (Nat.le_refl _)).1 (Nat.ne_of_gt hlt) (.ref fI) (.ref x :: Vs) Ks rfl (by rw [List.map_cons, e1]; rfl) e2 G _ _ ⟨S3.same, S3.base, S3.ns, S3.lb, S3.dj, S3.hp, S3.fp⟩ fun V s' H' S' q => ?_
  obtain ⟨q1, q2⟩ := q
  exact ⟨er_none q1, H', ⟨S'.same, S'.base, S'.ns, S'.lb, S'.dj, S'.hp, S'.fp⟩, q2⟩
end
end Mine
end

section
open PySem PySem.W PySem.Calls PyProof.Rows PySem.Builtin PySem.Builtin.Str
set_option linter.all false
set_option maxRecDepth 100000
namespace Mine
theorem cut_flat {a b : List Tk} {j : Nat} (h : j = (flatT a).length) : cut (flatT (a ++ b)) none (some j) = flatT a := by
  subst h
  unfold cut
  rw [flatT_append]
  simp
theorem cut_flat2 {a b : List Tk} {j : Nat} (h : j = (flatT a).length) : cut (flatT (a ++ b)) (some j) none = flatT b := by
  subst h
  unfold cut
  rw [flatT_append]
  simp
section
variable {c : FC} {K : Frag} {n : Nat} {m : LM} {H F : HM} {X : XM} {s : Shared}
theorem MethJ.patX {a : Addr} {name : Str} {id : String} {Q : Value → List Value → HM → Prop} (ac : Addr) (hp : PatAt a ac c.s₀.heap) (slot : Slot "re.Pattern" name id) (ty : typeOf (.builtin id) = pure (.type "method_descriptor"))
    (h : Q (.builtin id) [.ref a] H) : MethJ c (.ref a) name m H Q X := MethJ.pat hp slot ty h
theorem C_subX {a : Addr} {l : List Nat} {Q : Value → HM → Prop} (ac : Addr) (ts : List Tk) (hp : PatAt a ac c.s₀.heap) (e : l = flatT ts) (hok : okT ts) (hl : (flatT ts).length ≤ 1000000) (h : Q (VT (signs ts)) H) : CallJ c (.builtin "re.Pattern.sub") [.ref a, VT [], VT l] [] m H Q X := by
  subst e; exact C_sub hp hok hl h
theorem MethJ.matchedX {a : Addr} {Q : Value → List Value → HM → Prop} (en : Nat) (hm : MatchAt H a en) (h : Q (.builtin "re.Match.end") [.ref a] H) : MethJ c (.ref a) "end" m H Q X := MethJ.matched hm h
theorem C_endX {a : Addr} {Q : Value → HM → Prop} (en : Nat) (hm : MatchAt H a en) (h : Q (VI en) H) : CallJ c (.builtin "re.Match.end") [.ref a] [] m H Q X := C_end hm h
theorem Ev.globR {x p} {Q : Value → HM → Prop} (K : Frag) (n : Nat) (a : Addr) (O : Ok c K n) (e : nsIn K mainGlobals x = some (some (.ref a))) (hl : c.env.kindOf x = some .globalImplicit) (hd : (x == ("__debug__" : Str)) = false) (h : Q (.ref a) H) : Ev c (.Name x p) m H Q X := Ev.glob O hl e h hd
theorem Ev.bltB {x p} {Q : Value → HM → Prop} (K : Frag) (n : Nat) (id : String) (hv : bootBuiltins x = some (.builtin id)) (O : Ok c K n) (hl : c.env.kindOf x = some .globalImplicit) (e : nsIn K mainGlobals x = some none) (hn : x ≠ "__name__") (hd : (x == ("__debug__" : Str)) = false) (h : Q (.builtin id) H) : Ev c (.Name x p) m H Q X := Ev.blt O hl e hv hn h hd
theorem Ev.bltT {x p} {Q : Value → HM → Prop} (K : Frag) (n : Nat) (id : String) (hv : bootBuiltins x = some (.type id)) (O : Ok c K n) (hl : c.env.kindOf x = some .globalImplicit) (e : nsIn K mainGlobals x = some none) (hn : x ≠ "__name__") (hd : (x == ("__debug__" : Str)) = false) (h : Q (.type id) H) : Ev c (.Name x p) m H Q X := Ev.blt O hl e hv hn h hd
end
end Mine
end

section
open PySem PySem.W PySem.Calls PyProof.Rows PySem.Builtin PySem.Builtin.Str
set_option linter.all false
set_option maxRecDepth 100000
namespace Mine
theorem snocInd {α : Type} {P : List α → Prop} (h0 : P []) (h1 : ∀ l x, P l → P (l ++ [x])) (l : List α) : P l := by
  rw [← l.reverse_reverse]
  induction l.reverse with
  | nil => exact h0
  | cons x r ih => rw [List.reverse_cons]; exact h1 _ _ ih

/-! ## the texts of the programs -/
theorem t_no : (Str.ofString "") = S [] := rfl
theorem t_blanks : (Str.ofString "\t\n\x0b\x0c\r ") = S [9, 10, 11, 12, 13, 32] := by rfl
theorem t_sp : (Str.ofString " ") = S [32] := by rfl
theorem t_nl : (Str.ofString "\n") = S [10] := by rfl
theorem t_nl2 : (Str.ofString "\n\n") = S [10, 10] := by rfl
theorem t_bs : (Str.ofString "\x08") = S [8] := by rfl
theorem t_sp2 : (Str.ofString "  ") = S [32, 32] := by rfl
theorem t_sp4 : (Str.ofString "    ") = S [32, 32, 32, 32] := by rfl
theorem t_star : (Str.ofString "* ") = S [42, 32] := by rfl
theorem t_usage : (Str.ofString "usage: ") = S [117, 115, 97, 103, 101, 58, 32] := by rfl
theorem t_abc : (Str.ofString "abcdefghijklmnop") = S [97, 98, 99, 100, 101, 102, 103, 104, 105, 106, 107, 108, 109, 110, 111, 112] := by rfl
theorem t_pon : (Str.ofString "ponmlkjihgfedcba") = S [112, 111, 110, 109, 108, 107, 106, 105, 104, 103, 102, 101, 100, 99, 98, 97] := by rfl
theorem t_csi : (Str.ofString "\x1b[") = S [27, 91] := by rfl
theorem t_m : (Str.ofString "m") = S [109] := by rfl
theorem t_b1 : (Str.ofString "\x1b[1m") = S [27, 91, 49, 109] := by rfl
theorem t_b0 : (Str.ofString "\x1b[0m") = S [27, 91, 48, 109] := by rfl
theorem t_314 : (Str.ofString "\x1b[31;4m") = S [27, 91, 51, 49, 59, 52, 109] := by rfl
theorem t_31 : (Str.ofString "\x1b[31m") = S [27, 91, 51, 49, 109] := by rfl
theorem t_14 : (Str.ofString "\x1b[1;4m") = S [27, 91, 49, 59, 52, 109] := by rfl
theorem t_ah : (Str.ofString "abcdefgh") = S [97, 98, 99, 100, 101, 102, 103, 104] := by rfl
theorem t_spnl : (Str.ofString " \n") = S [32, 10] := by rfl
theorem t_dots : (Str.ofString " [...]") = S [32, 91, 46, 46, 46, 93] := by rfl
theorem at_last {α : Type} (vs : List α) (v : α) : at? (vs ++ [v]) (-1) = some v := by
  unfold at?
  rw [if_neg (by decide), if_pos (by rw [List.length_append]; simp; omega)]
  rw [show ((-1 : Int) + ((vs ++ [v]).length : Int)).toNat = vs.length from by rw [List.length_append]; simp; omega]
  simp
theorem setAt_last {α : Type} (vs : List α) (v w : α) : setAt (vs ++ [v]) (-1) w = vs ++ [w] := by
  unfold setAt
  rw [if_neg (by decide), show ((-1 : Int) + ((vs ++ [v]).length : Int)).toNat = vs.length from by rw [List.length_append]; simp; omega]
  simp
theorem delAt_last {α : Type} (vs : List α) (v : α) : delAt (vs ++ [v]) (-1) = vs := by
  unfold delAt
  rw [if_neg (by decide), show ((-1 : Int) + ((vs ++ [v]).length : Int)).toNat = vs.length from by rw [List.length_append]; simp; omega]
  rw [List.eraseIdx_append_of_length_le (Nat.le_refl _)]; simp
theorem iteTe {b : Bool} {A B : Prop} (h : b = true) (hA : A) : if b = true then A else B := by rw [if_pos h]; exact hA
theorem iteFe {b : Bool} {A B : Prop} (h : b = false) (hB : B) : if b = true then A else B := by rw [h, if_neg Bool.false_ne_true]; exact hB
theorem getLast_split {α : Type} {l : List α} {a : α} (h : l.getLast? = some a) : l = l.dropLast ++ [a] := by
  induction l using snocInd with
  | h0 => cases h
  | h1 l x _ => simp at h; subst h; simp
section
variable {c : FC} {K : Frag} {n : Nat} {m : LM} {H F : HM} {X : XM} {s : Shared}
theorem ItemG.lastX {a : Addr} {Q : Value → HM → Prop} (vs : List Value) (v : Value) (hv : H a = some (.list (vs ++ [v]))) (h : Q v H) : ItemG c (.ref a) (VI (-1)) m H Q X := .list hv (at_last vs v) (by decide) h
theorem StoreI.lastX {a : Addr} {w : Value} {Q : LM → HM → Prop} (vs : List Value) (v : Value) (hv : H a = some (.list (vs ++ [v]))) (h : Q m (H.set a (.list (vs ++ [w])))) : StoreI c (.ref a) (VI (-1)) w m H Q :=
  .at hv (by rw [List.length_append]; simp; omega) (by rw [List.length_append]; simp; omega) (by decide) (by rw [setAt_last]; exact h)
theorem DelI.lastX {a : Addr} {Q : LM → HM → Prop} (vs : List Value) (v : Value) (hv : H a = some (.list (vs ++ [v]))) (hl : vs.length < 16000000) (h : Q m (H.set a (.list vs))) : DelI c (.ref a) (VI (-1)) m H Q :=
  .at hv (by rw [List.length_append]; simp; omega) (by rw [List.length_append]; simp; omega) (by rw [List.length_append]; simp; omega) (by rw [delAt_last]; exact h)
theorem Yld.f {k : Nat} {x : Value} {Q : Value → HM → Prop} (h : Q x H) : Yld false k x H Q := h
theorem Yld.t {k : Nat} {x : Value} {Q : Value → HM → Prop} (h : ∀ a, H a = none → Q (.ref a) (H.set a (.tup [VI k, x]))) : Yld true k x H Q := h
theorem ItemG.strX {l : List Nat} {k : Int} {Q : Value → HM → Prop} (x : Nat) (hk : at? l k = some x) (hs : k.natAbs < 2 ^ 62) (h : Q (VT [x]) H) : ItemG c (VT l) (VI k) m H Q X := .str hk hs h
theorem Inst.mk {x : Addr} (C d : Addr) (fs : List (Str × Value)) (h1 : H x = some (.raw (instObj C d))) (h2 : H d = some (.dic fs)) : Inst H x C d fs := ⟨h1, h2⟩
theorem AttrJ.ownX {x : Addr} {attr : Str} {Q : Value → HM → Prop} (C d : Addr) (fs : List (Str × Value)) (v : Value) (K : Frag) (n : Nat) (av : Option Value) (h1 : H x = some (.raw (instObj C d))) (h2 : H d = some (.dic fs)) (hl : fs.lookup attr = some v) (O : Ok c K n) (hg : plainGet K C attr = true) (hh : hasDictIn K C = true)
    (ha : findIn K (.ref C) attr = some av) (hn : noGet K av = true) (hv : handedIn v = true) (h : Q v H) : AttrJ c (.ref x) attr m H Q X := AttrJ.own fs v K n av ⟨h1, h2⟩ hl O hg hh ha hn hv h
theorem StoreA.ownX {x : Addr} {attr : Str} {v : Value} {Q : LM → HM → Prop} (C d : Addr) (fs : List (Str × Value)) (K : Frag) (n : Nat) (h1 : H x = some (.raw (instObj C d))) (h2 : H d = some (.dic fs)) (O : Ok c K n)
    (hs : findIn K (.ref C) "__setattr__" = some (some (.builtin "object.__setattr__"))) (hp : plainOver K C = true) (ht : takerIn K C attr = some none) (hh : hasDictIn K C = true) (hz : fs.length < 900)
    (h : Q m (H.set d (.dic (putF attr v fs)))) : StoreA c (.ref x) attr v m H Q X := StoreA.own fs K n ⟨h1, h2⟩ O hs hp ht hh hz h
theorem MethJ.instX {x : Addr} {name : Str} {Q : Value → List Value → HM → Prop} (C d f : Addr) (fs : List (Str × Value)) (K : Frag) (n : Nat) (h1 : H x = some (.raw (instObj C d))) (h2 : H d = some (.dic fs)) (O : Ok c K n) (hl : fs.lookup name = none) (hg : plainGet K C name = true) (hf : findIn K (.ref C) name = some (some (.ref f))) (ht : isFn K (.ref f) = true)
    (h : Q (.ref f) [.ref x] H) : MethJ c (.ref x) name m H Q X := MethJ.inst fs K n ⟨h1, h2⟩ O hl hg hf ht h
end
end Mine
end

section
open PySem PySem.W PySem.Calls PyProof.Rows PySem.Builtin PySem.Builtin.Str
set_option linter.all false
set_option maxRecDepth 100000
namespace Mine

/-! ## with -/
def WithJ (c : FC) (body : List Stmt) (m : LM) (H : HM) (Q : Flow → LM → HM → Prop) (X : XM) (v : Value) : Prop :=
  ∃ x C d fs fe fx, ∃ (K : Frag) (n : Nat), v = .ref x ∧ H x = some (.raw (instObj C d)) ∧ H d = some (.dic fs) ∧ Ok c K n ∧ findIn K (.ref C) "__enter__" = some (some (.ref fe)) ∧ isFn K (.ref fe) = true ∧ findIn K (.ref C) "__exit__" = some (some (.ref fx)) ∧ isFn K (.ref fx) = true ∧
    CallJ c (.ref fe) [.ref x] [] m H (fun _ H2 => Exs c body m H2 (fun f m3 H3 => CallJ c (.ref fx) [.ref x, .none, .none, .none] [] m3 H3 (fun _ H4 => Q f m3 H4) X) XF) X
section
variable {c : FC} {K : Frag} {n : Nat} {m : LM} {H F : HM} {X : XM} {s : Shared}
theorem Ex.with {ctx : Expr} {body : List Stmt} {pos : Pos} {Q : Flow → LM → HM → Prop} (h : Ev c ctx m H (fun v H1 => WithJ c body m H1 Q X v) X) : Ex c (.With [⟨ctx, none⟩] body pos) m H Q X := fun G s S =>
  kw_exec0 (wpAny_mono (h G s S) (fun V s1 ⟨H1, S1, x, C, d, fs, fe, fx, K, n, ev, h1, h2, O, q1, q2, q3, q4, hb⟩ => by
    obtain rfl := er_ref ev
    obtain ⟨es, k, he, hd, IA⟩ := S1.inst ⟨h1, h2⟩
    obtain ⟨mr, Fr0, _⟩ := S1.fr
    refine kw_in0 Fr0 O.X IA q1 q2 q3 q4 (wpAny_mono (hb (.ref fe) [.ref x] [] rfl rfl rfl G s1 S1) (fun _ s2 ⟨H2, S2, hb2⟩ => ?_) fun _ _ e => e)
    refine wpAny_mono (hb2 G s2 S2) (fun f s3 ⟨m3, H3, S3, hb3⟩ => ?_) fun _ _ e => e
    exact wpAny_mono (hb3 (.ref fx) [.ref x, .none, .none, .none] [] rfl rfl rfl G s3 S3) (fun _ s4 ⟨H4, S4, q⟩ => ⟨m3, H4, S4, q⟩) fun _ _ e => e) fun _ _ e => e)

/-! ## enumerate -/
theorem C_enumerate {a : Addr} {vs : List Value} {Q : Value → HM → Prop} (hv : H a = some (.list vs)) (h : ∀ e it oe oi, H e = none → H it = none → e ≠ it → EnumO oe it → ListItO oi a → Q (.ref e) ((H.set it (.raw oi)).set e (.raw oe))) : CallJ c (.type "enumerate") [.ref a] [] m H Q X := fun Fv Vs Ks e0 e1 e2 G s S => by
  obtain rfl := er_type e0
  obtain ⟨V, rfl, e⟩ := call1 (as := []) e1; obtain rfl := er_ref e; obtain rfl := kw0 e2
  obtain ⟨ws, k, _, hg⟩ := S.list hv
  refine call_enumerate_1 (n := k) hg fun h' he hit hz hk => ?_
  obtain ⟨oi, hoi, hoi2⟩ := hit
  have S1 := S.keeps' hk
  obtain ⟨f1, f2, f3, f4⟩ := S.above (k := s.heap.objs.size) (Nat.le_refl _)
  obtain ⟨g1, g2, g3, g4⟩ := S.above (k := s.heap.objs.size + 1) (Nat.le_succ _)
  have S2 := St.backNew (mr' := fun _ => none) (news := []) (t := s.toks) (ao := .raw oi) S1 S1 f1 f2 f3 f4 hoi rfl
  have hne : s.heap.objs.size + 1 ≠ s.heap.objs.size := Nat.succ_ne_self _
  have S3 := St.backNew (mr' := fun _ => none) (news := []) (t := s.toks) (ao := .raw _) S2 S2 (by rw [HM.set_ne _ _ hne]; exact g1) g2 g3 g4 he rfl
  exact ⟨_, S3, h _ _ _ _ g1 f1 hne rfl hoi2⟩
end

/-! ## map and sum -/
theorem slot_map_next : Slot "map" "__next__" "map.__next__" :=
  .of (owner := "map") (n := "__next__") (by rw [typeLookup_type, builtinLookup_eq_fast]; kernel_rfl) (by decide +kernel) (by decide +kernel) (by decide +kernel)
    (by first | exact .inl (by decide +kernel) | exact .inr (by decide +kernel)) (by rw [isSubtype_type]; kernel_rfl)
theorem slot_map_iter : Slot "map" "__iter__" "map.__iter__" :=
  .of (owner := "map") (n := "__iter__") (by rw [typeLookup_type, builtinLookup_eq_fast]; kernel_rfl) (by decide +kernel) (by decide +kernel) (by decide +kernel)
    (by first | exact .inl (by decide +kernel) | exact .inr (by decide +kernel)) (by rw [isSubtype_type]; kernel_rfl)
theorem entry_map_iter : entryFor table "map.__iter__" = some Builtin.«dict_keyiterator.__iter__» :=
  entryFor_alias (id' := "dict_keyiterator.__iter__") (by kernel_rfl) (by first | rfl | decide +kernel | (unfold String.splitOn; simp +decide [String.splitOnAux])) (by decide +kernel) (by kernel_rfl)
theorem slot_map_init : Slot "map" "__init__" "object.__init__" :=
  .of (owner := "object") (n := "__init__") (by rw [typeLookup_type, builtinLookup_eq_fast]; kernel_rfl) (by decide +kernel) (by decide +kernel) (by decide +kernel)
    (by first | exact .inl (by decide +kernel) | exact .inr (by decide +kernel)) (by rw [isSubtype_type]; kernel_rfl)
theorem entry_map_next : entryFor table "map.__next__" = some Builtin.«map.__next__» := entryFor_of_tree (by kernel_rfl)
theorem entry_map_new : entryFor table "map.__new__" = some Builtin.«map.__new__» := entryFor_of_tree (by kernel_rfl)
theorem mro_map : mroOf (.type "map") = pure [.type "map", .type "object"] := by rw [mroOf_type]; kernel_rfl
theorem lookup_map_new : typeLookup (.type "map") "__new__" = pure (some (.builtin "map.__new__")) := by rw [typeLookup_type, builtinLookup_eq_fast]; kernel_rfl
theorem called_map : TypeCalled "map" "map.__new__" "object.__init__" :=
  ⟨by decide +kernel, by decide +kernel, ⟨_, _, mro_map⟩, madeBy_type mro_map lookup_map_new (by decide +kernel), by decide +kernel, by rw [isSubtype_type]; kernel_rfl, slot_map_init⟩
theorem typeCall_map (a b : Value) : checkTypeCall "map" ⟨[a, b], []⟩ = pure () := by kernel_rfl
theorem newCall_map (a b : Value) : checkBuiltinCall "map.__new__" ⟨[.type "map", a, b], []⟩ = pure () := by kernel_rfl
theorem args_map_next (a : Value) : argsOk "map.__next__" ⟨[a], []⟩ := by unfold argsOk; kernel_rfl
theorem args_map_iter (a : Value) : argsOk "map.__iter__" ⟨[a], []⟩ := by unfold argsOk; kernel_rfl
theorem sub_map : isSubtype (.type "map") (.type "map") = pure true := by rw [isSubtype_type]; kernel_rfl
end Mine
end

section
open PySem PySem.W PySem.Calls PyProof.Rows PySem.Builtin PySem.Builtin.Str
set_option linter.all false
set_option maxRecDepth 100000
namespace Mine

/-! ## a call that keeps the frame's own object -/
def CallR (c : FC) (f : Value) (as : List Value) (m : LM) (H : HM) (Q : Value → HM → Prop) : Prop :=
  ∀ Fv Vs, er Fv = f → Vs.map er = as → ∀ F s (E : Value → Shared → Prop), St c m H F s → wpAny (model c.prog c.w) c.A (call Fv Vs) (fun V s' => ∃ H', St c m H' F s' ∧ s'.heap.get? c.env.locals = s.heap.get? c.env.locals ∧ Q (er V) H') E s
section
variable {c : FC} {K : Frag} {n : Nat} {m : LM} {H F : HM} {X : XM} {s : Shared}
theorem CallR.toJ {f : Value} {as : List Value} {Q : Value → HM → Prop} (h : CallR c f as m H Q) : CallJ c f as [] m H Q X := fun Fv Vs Ks e0 e1 e2 G s S => by
  obtain rfl := kw0 e2
  exact wpAny_mono (h Fv Vs e0 e1 G s _ S) (fun V s' ⟨H', S', _, q⟩ => ⟨H', S', q⟩) fun _ _ e => e
theorem CallR.fn {f : Addr} {fd : FuncData} {body : List Stmt} {as : List Value} {bs : List (Str × Value)} {Q : Value → HM → Prop} (O : Ok c K (n + 1)) (W : Fn K f fd body) (hb : FnBinds K fd as [] bs)
    (hk : ∀ x ∈ bs, fd.scope.names.lookup x.1 = some .local ∨ fd.scope.names.lookup x.1 = some .cell)
    (h : ∀ L, (∀ k, L ≤ k → H k = none) → Ok (c.call fd L f) K n → Exs (c.call fd L f) body (bindLM (c.call fd L f).env.kindOf bs []) (cellsH H (cellsFrom (L + 1) fd.scope.names []) (bindCM (c.call fd L f).env.kindOf bs fun _ => none)) (EndJ Q) XF) : CallR c (.ref f) as m H Q := fun Fv Vs e0 e1 G s E St' => by
  obtain rfl := er_ref e0
  obtain ⟨binds, hbt, rfl⟩ := hb Vs [] e1 rfl
  obtain ⟨oc, od, osl, hlook⟩ := W.look
  obtain ⟨oL, hL⟩ := St'.frame
  have XK := O.inK St'
  refine wpAny_call (codeAny_call_function (fd := fd) (by have := O.dp; show c.A.depth < 1000; omega) (XK _ _ hlook) rfl W.co W.gen W.body (codeRec_of XK W.cd) (hbt s XK _ _ _ _ ?_))
  rw [W.clo]
  refine wpAny_newFunctionEnv_cells W.kind (fun x hx => ?_) fun env he s' x => ?_
  · have := hk (x.1, er x.2) (List.mem_map.mpr ⟨x, hx, rfl⟩)
    exact this.imp _root_.id fun q => ⟨q, cells_have _ _ _ _ (.inl q)⟩
  · obtain ⟨h', t', es'⟩ := x.toInCall.same
    have kp := x.toInCall.keep
    have eenv : env = (c.call fd s.heap.objs.size f).env := he
    subst eenv
    refine ⟨by rw [es'] at kp ⊢; exact (O.nl.keeps St'.base).keeps kp, codeAny_func ?_⟩
    have S1 : St (c.call fd s.heap.objs.size f) (bindLM (c.call fd s.heap.objs.size f).env.kindOf (binds.map fun p => (p.1, er p.2)) [])
        (cellsH H (cellsFrom (s.heap.objs.size + 1) fd.scope.names []) (bindCM (c.call fd s.heap.objs.size f).env.kindOf (binds.map fun p => (p.1, er p.2)) fun _ => none)) (G.set c.env.locals (.raw oL)) s' := by
      subst es'
      refine St'.other (c' := c.call fd s.heap.objs.size f) rfl hL kp (Nat.le_refl _) x.toInCall.ns (bind_rel _ _ _ _ fun y u hy => by cases hy) fun a ao e => ?_
      rcases cellsH_some e with ⟨p, hp, rfl, rfl⟩ | ⟨_, e⟩
      · right
        have hlk := lookup_of_nd (cells_nd fd.scope.names (s.heap.objs.size + 1) [] W.nd (fun _ _ _ hq => nomatch hq) List.Pairwise.nil) hp
        obtain ⟨o, ho, hd⟩ := x.cell p.1 p.2 hlk
        have hab := x.above p.1 p.2 hp
        exact ⟨Nat.le_of_lt hab, Nat.ne_of_gt hab, o, ho, _, hd, (bind_cells _ _ _ _ (fun _ => rfl) p.1).symm⟩
      · exact .inl e
    refine wpAny_mono (h _ (fun k hk => (St'.above hk).1) (O.call W _) _ _ S1) (fun fl s'' ⟨m', H', S', H'', hle, hq⟩ => ?_) fun _ _ z => z.elim
    refine ⟨H'', (St'.home (c' := c.call fd s.heap.objs.size f) rfl hL S').weak hle, ?_, by cases fl <;> exact hq⟩
    obtain ⟨_, _, o, ho, e⟩ := S'.fp c.env.locals (.raw oL) (HM.set_same ..)
    have e : o = oL := e
    rw [hL, ← e]; exact ho
theorem CallR.run {f : Addr} {fd : FuncData} {body : List Stmt} {as : List Value} {bs : List (Str × Value)} {Q : Value → HM → Prop} (O : Ok c K (n + 1)) (W : Fn K f fd body) (hb : FnBinds K fd as [] bs)
    (hk : okBinds fd.scope.names (bs.map (·.1)) = true)
    (h : ∀ L, (∀ k, L ≤ k → H k = none) → Ok (c.call (fdOf K f) L f) K n → Exs (c.call (fdOf K f) L f) body (bindLM (c.call (fdOf K f) L f).env.kindOf bs []) (cellsH H (cellsFrom (L + 1) (fdOf K f).scope.names []) (bindCM (c.call (fdOf K f) L f).env.kindOf bs fun _ => none)) (EndJ Q) XF) : CallR c (.ref f) as m H Q := by
  have ef : fdOf K f = fd := by
    obtain ⟨_, _, _, e⟩ := W.look
    unfold fdOf; rw [e]
  subst ef
  exact CallR.fn O W hb (fun x hx => by
    have := List.all_eq_true.mp hk x.1 (List.mem_map.mpr ⟨x, hx, rfl⟩)
    rw [Bool.or_eq_true, beq_iff_eq, beq_iff_eq] at this
    exact this) h

/-! ## map -/
def MapO (o : Obj) (T f : Addr) : Prop := o = { cls := .type "map", dict := none, data := .fields #[.ref T, .ref f], slots := #[] }
def Tup1O (o : Obj) (a : Addr) : Prop := o = { cls := .type "tuple", data := .seq #[.ref a] }
end
theorem meets_map_new (f l : Addr) (items : Array Value) (n : Nat) :
    Meets (Builtin.«map.__new__» ⟨[.type "map", .ref f, .ref l], []⟩) (fun _ R s => s.heap.get? l = some { cls := .type "list", dict := none, data := .seq items n, slots := #[] } ∧
      R (.ok (.ret (.ref ((s.heap.push { cls := .type "list_iterator", data := .fields #[.ref l, .int 0 0] }).push { cls := .type "tuple", data := .seq #[.ref s.heap.objs.size] }).objs.size)))
        { s with heap := (((s.heap.push { cls := .type "list_iterator", data := .fields #[.ref l, .int 0 0] }).push { cls := .type "tuple", data := .seq #[.ref s.heap.objs.size] }).push { cls := .type "map", data := .fields #[.ref (s.heap.push { cls := .type "list_iterator", data := .fields #[.ref l, .int 0 0] }).objs.size, .ref f] }) }) :=
  .of_wp fun prog w A R s h => by
    obtain ⟨hp, g, d, tk, os⟩ := s; obtain ⟨hl, h⟩ := h
    have hsub := sub_map
    have hL : Heap.IsList (Shared.heap ⟨hp, g, d, tk, os⟩) l items := ⟨_, hl, rfl, n, rfl⟩
    wp_walk using wpAny_pyIter_list hL
    exact ⟨_, rfl, h⟩
end Mine
end

section
open PySem PySem.W PySem.Calls PyProof.Rows PySem.Builtin PySem.Builtin.Str
set_option linter.all false
set_option maxRecDepth 100000
namespace Mine
section
variable {c : FC} {K : Frag} {n : Nat} {m : LM} {H F : HM} {X : XM} {s : Shared}

theorem C_map {f a : Addr} {vs : List Value} {Q : Value → HM → Prop} (hv : H a = some (.list vs))
    (h : ∀ M T it oM oT oi, H M = none → H T = none → H it = none → M ≠ T → M ≠ it → T ≠ it → MapO oM T f → Tup1O oT it → ListItO oi a → Q (.ref M) (((H.set it (.raw oi)).set T (.raw oT)).set M (.raw oM))) :
    CallJ c (.type "map") [.ref f, .ref a] [] m H Q X := fun Fv Vs Ks e0 e1 e2 G s S => by
  obtain rfl := er_type e0
  obtain ⟨V, W, rfl, hV, hW⟩ := call2 e1; obtain rfl := er_ref hV; obtain rfl := er_ref hW; obtain rfl := kw0 e2
  obtain ⟨ws, k, _, hg⟩ := S.list hv
  have hz1 : (s.heap.push { cls := .type "list_iterator", data := .fields #[.ref a, .int 0 0] }).objs.size = s.heap.objs.size + 1 := Heap.size_push ..
  have hz2 : ((s.heap.push { cls := .type "list_iterator", data := .fields #[.ref a, .int 0 0] }).push { cls := .type "tuple", data := .seq #[.ref s.heap.objs.size] }).objs.size = s.heap.objs.size + 2 := by rw [Heap.size_push, hz1]
  refine callType_new called_map (by decide) (typeCall_map _ _) (newCall_map _ _) (fun obj => F.args_object_init_3 obj _ _) entry_map_new (meets_map_new f a _ k) ⟨hg, ?_⟩
  rw [hz2, hz1]
  have S1 := St.push (ao := .raw _) (o := { cls := .type "list_iterator", data := .fields #[.ref a, .int 0 0] }) S rfl rfl
  have S2 := St.push (ao := .raw _) (o := { cls := .type "tuple", data := .seq #[.ref s.heap.objs.size] }) S1 rfl rfl
  have S3 := St.push (ao := .raw _) (o := { cls := .type "map", data := .fields #[.ref (s.heap.objs.size + 1), .ref f] }) S2 rfl rfl
  have f1 := S.above (k := s.heap.objs.size) (Nat.le_refl _)
  have f2 := S.above (k := s.heap.objs.size + 1) (Nat.le_succ _)
  have f3 := S.above (k := s.heap.objs.size + 2) (Nat.le_trans (Nat.le_succ _) (Nat.le_succ _))
  have hT : ((((s.heap.push { cls := .type "list_iterator", data := .fields #[.ref a, .int 0 0] }).push { cls := .type "tuple", data := .seq #[.ref s.heap.objs.size] }).push { cls := .type "map", data := .fields #[.ref (s.heap.objs.size + 1), .ref f] })).get? (s.heap.objs.size + 2) = some { cls := .type "map", data := .fields #[.ref (s.heap.objs.size + 1), .ref f] } := by
    have := Heap.get?_push_size ((s.heap.push { cls := .type "list_iterator", data := .fields #[.ref a, .int 0 0] }).push { cls := .type "tuple", data := .seq #[.ref s.heap.objs.size] }) (o := { cls := .type "map", data := .fields #[.ref (s.heap.objs.size + 1), .ref f] }) rfl
    rw [hz2] at this; exact this
  refine ⟨⟨_, hT, rfl⟩, _, S3, ?_⟩
  show Q (.ref (s.heap.objs.size + 2)) ((((H.set s.heap.objs.size (.raw _)).set (s.heap.push { cls := .type "list_iterator", data := .fields #[.ref a, .int 0 0] }).objs.size (.raw _)).set ((s.heap.push { cls := .type "list_iterator", data := .fields #[.ref a, .int 0 0] }).push { cls := .type "tuple", data := .seq #[.ref s.heap.objs.size] }).objs.size (.raw _)))
  rw [hz2, hz1]
  exact h (s.heap.objs.size + 2) (s.heap.objs.size + 1) s.heap.objs.size _ _ _ f3.1 f2.1 f1.1 (Nat.succ_ne_self (s.heap.objs.size + 1)) (Nat.ne_of_gt (Nat.lt_trans (Nat.lt_succ_self s.heap.objs.size) (Nat.lt_succ_self (s.heap.objs.size + 1)))) (Nat.succ_ne_self s.heap.objs.size) rfl rfl ⟨rfl, rfl⟩
/-! ## sum over a map -/
/-- everything that is there is held fast, but one object -/
def held (c : FC) (h : Heap) : HM := fun b => if b = c.env.locals ∨ (c.s₀.heap.get? b).isSome then none else (h.get? b).map .raw
theorem St.held (S : St c m H F s) {b0 : Addr} {s' : Shared} (hb : b0 ≠ c.env.locals) (hb2 : c.s₀.heap.get? b0 = none) (hs : ∃ h t, s' = { c.s₀ with heap := h, toks := t }) (k : ∀ b o, b ≠ b0 → s.heap.get? b = some o → s'.heap.get? b = some o) :
    St c m (fun _ => none) (held c s'.heap) s' := by
  obtain ⟨mr, n1, n2⟩ := S.ns
  refine ⟨hs, fun b o e => k b o (by rintro rfl; rw [hb2] at e; cases e) (S.base b o e), ⟨mr, n1.at' fun o e => k _ o (Ne.symm hb) e, n2⟩, S.lb, fun _ => .inl rfl, fun a ao e => by (cases e), fun a ao e => ?_⟩
  unfold Mine.held at e
  split at e
  · cases e
  · rename_i q
    obtain ⟨o, ho, rfl⟩ := Option.map_eq_some_iff.mp e
    refine ⟨fun z => q (.inl z), ?_, o, ho, rfl⟩
    cases hz : c.s₀.heap.get? a with
    | none => rfl
    | some _ => exact absurd (.inr (by rw [hz]; rfl)) q
theorem Ok.in1 (O : Ok c K (n + 1)) : Ok { c with A := c.A.in1 } K n :=
  ⟨O.X, O.g, O.b, O.nl, O.kind, O.eg, O.eb, O.hh, by have := O.dp; show c.A.in1.depth + n < 900; simp only [Around.in1] at *; omega, by have := O.un; show c.A.in1.units + 4 * n < 9000; simp only [Around.in1] at *; omega⟩

structure MapAt (h : Heap) (M T LI l : Addr) (f : Addr) (i : Nat) : Prop where
  m : h.get? M = some { cls := .type "map", dict := none, data := .fields #[.ref T, .ref f], slots := #[] }
  t : h.get? T = some { cls := .type "tuple", data := .seq #[.ref LI] }
  li : h.IsListIter LI l i
theorem map_item {prog : Program} {w : World} {A : Around} {E : Value → Shared → Prop} {s : Shared} {M T LI l f : Addr} {i : Nat} {items : Array Value} {x : Value} {Q : Option Value → Shared → Prop} (A1 : MapAt s.heap M T LI l f i) (hl : s.heap.IsList l items) (hx : items[i]? = some x)
    (h : ∀ h' E', h'.IsListIter LI l (i + 1) → Heap.SameBut LI s.heap h' → wpAny (model prog w) A.in1 (call (.ref f) [x]) (fun v s' => Q (some v) s') E' { s with heap := h' }) :
    wpAny (model prog w) A (pyNext (.ref M)) Q E s := by
  have hT : s.TypeIs (.ref M) "map" := ⟨_, A1.m, rfl⟩
  unfold pyNext
  refine wpAny_bind (wpAny_attempt (wpAny_callSpecial?_slot (name := Str.ofString "__next__") hT slot_map_next
    (wpAny_call_entry slot_map_next hT entry_map_next ?_ (args_map_next _))))
  show wpAny _ _ (field (.ref M) 0 >>= _) _ _ _
  refine wpAny_bind (wpAny_field A1.m rfl (x := .ref T) rfl ?_)
  refine wpAny_bind (wpAny_seqItems A1.t rfl ?_)
  simp only [List.forIn_toArray, List.forIn_cons, List.forIn_nil]
  refine wpAny_bind (wpAny_bind (wpAny_bind (wpAny_holding (wpAny_nextOf_list_item A1.li hl hx fun h' q1 q2 => ?_))))
  refine wpAny_pure (wpAny_pure ?_)
  have m' : h'.get? M = some { cls := .type "map", dict := none, data := .fields #[.ref T, .ref f], slots := #[] } := by
    refine (q2.2 M ?_).trans A1.m
    rintro rfl
    obtain ⟨o, ho, e, _⟩ := A1.li
    rw [A1.m] at ho; cases ho
    have e : Value.type "map" = Value.type "list_iterator" := e
    injection e with e; revert e; decide
  refine wpAny_bind (wpAny_field m' rfl (x := .ref f) rfl ?_)
  refine wpAny_bind (wpAny_holding (wpAny_mono (h h' _ q1 q2) (fun v s' q => ?_) fun _ _ e => e))
  refine wpAny_bind (wpAny_letGo ?_)
  exact wpAny_pure ⟨_, rfl, wpAny_pure q⟩
theorem map_end {prog : Program} {w : World} {A : Around} {E : Value → Shared → Prop} {s : Shared} {M T LI l f : Addr} {i : Nat} {items : Array Value} {Q : Option Value → Shared → Prop} (hh : A.handled = none) (A1 : MapAt s.heap M T LI l f i) (hl : s.heap.IsList l items) (hx : items[i]? = none)
    (hQ : ∀ h', Heap.ExtBut LI s.heap h' → Q none { s with heap := h' }) : wpAny (model prog w) A (pyNext (.ref M)) Q E s := by
  have hT : s.TypeIs (.ref M) "map" := ⟨_, A1.m, rfl⟩
  unfold pyNext
  refine wpAny_bind (wpAny_attempt (wpAny_callSpecial?_slot (name := Str.ofString "__next__") hT slot_map_next
    (wpAny_call_entry slot_map_next hT entry_map_next ?_ (args_map_next _))))
  show wpAny _ _ (field (.ref M) 0 >>= _) _ _ _
  refine wpAny_bind (wpAny_field A1.m rfl (x := .ref T) rfl ?_)
  refine wpAny_bind (wpAny_seqItems A1.t rfl ?_)
  simp only [List.forIn_toArray, List.forIn_cons, List.forIn_nil]
  refine wpAny_bind (wpAny_bind (wpAny_bind (wpAny_holding (wpAny_nextOf_list_end hh A1.li hl hx fun h' x he' hx' => ?_))))
  obtain ⟨o, ho, hc⟩ := hx'
  refine wpAny_bind (wpAny_isInstance (T := "StopIteration") (b := true) ⟨o, ho, hc⟩ isSubtype_stop ?_)
  exact wpAny_pure (hQ _ he')
theorem map_self {prog : Program} {w : World} {A : Around} {E : Value → Shared → Prop} {s : Shared} {M T f : Addr} {Q : Value → Shared → Prop} (hm : s.heap.get? M = some { cls := .type "map", dict := none, data := .fields #[.ref T, .ref f], slots := #[] }) (h : Q (.ref M) s) : wpAny (model prog w) A (pyIter (.ref M)) Q E s := by
  have hT : s.TypeIs (.ref M) "map" := ⟨_, hm, rfl⟩
  refine wpAny_pyIter_slot hT slot_map_iter (wpAny_call_entry slot_map_iter hT entry_map_iter ?_ (args_map_iter _))
  show wpAny _ _ (ret (.ref M)) _ _ s
  exact wpAny_pure ⟨_, rfl, "map", _, hT, slot_map_next.lookup, h⟩

theorem St.withA (S : St c m H F s) (A : Around) : St { c with A := A } m H F s := ⟨S.same, S.base, S.ns, S.lb, S.dj, S.hp, S.fp⟩
theorem same_with {c : FC} {s' : Shared} (h : ∃ h t, s' = { c.s₀ with heap := h, toks := t }) (h' : Heap) (tk : Nat) : ∃ h t, ({ s' with heap := h', toks := tk } : Shared) = { c.s₀ with heap := h, toks := t } := by
  obtain ⟨_, _, rfl⟩ := h; exact ⟨h', tk, rfl⟩
theorem same_heap {c : FC} {s' : Shared} (h : ∃ h t, s' = { c.s₀ with heap := h, toks := t }) (h' : Heap) : ∃ h t, ({ s' with heap := h' } : Shared) = { c.s₀ with heap := h, toks := t } := by
  obtain ⟨_, _, rfl⟩ := h; exact ⟨h', _, rfl⟩
theorem St.movedBut {h1 : Heap} {s1 s2 : Shared} {H2 : HM} (S1 : St c m H (Mine.held c h1) s1) (e1 : s1.heap = h1) (S2 : St c m H2 (Mine.held c h1) s2) (hl : s2.heap.get? c.env.locals = s1.heap.get? c.env.locals) : ∀ b o, h1.get? b = some o → s2.heap.get? b = some o := fun b o ho => by
  by_cases q1 : b = c.env.locals
  · subst q1; rw [hl, e1]; exact ho
  · cases hz : c.s₀.heap.get? b with
    | some o' =>
      have := S1.base b o' hz
      rw [e1, ho] at this; cases this
      exact S2.base b o hz
    | none =>
      obtain ⟨_, _, o2, h3, h4⟩ := S2.fp b (.raw o) (by unfold Mine.held; rw [if_neg (by rintro (q | q); exact q1 q; rw [hz] at q; cases q), ho]; rfl)
      have h4 : o2 = o := h4
      rw [h3, h4]
theorem C_sum {M T LI l f : Addr} {oM oT oi : Obj} {vs : List Value} {val : Nat → Int} {Q : Value → HM → Prop} (O : Ok c K (n + 2)) (hM : H M = some (.raw oM)) (hT : H T = some (.raw oT)) (hI : H LI = some (.raw oi)) (hl : H l = some (.list vs))
    (aM : MapO oM T f) (aT : Tup1O oT LI) (aI : ListItO oi l)
    (hf : ∀ c' : FC, c'.env = c.env → c'.s₀ = c.s₀ → c'.prog = c.prog → c'.w = c.w → Ok c' K n → ∀ i v, vs[i]? = some v → CallR c' (.ref f) [v] m (fun _ => none) (fun r _ => r = VI (val i)))
    (h : Q (VI (preSum val vs.length)) (H.del LI)) : CallJ c (.builtin "sum") [.ref M] [] m H Q X := fun Fv Vs Ks e0 e1 e2 G s S => by
  obtain rfl := er_builtin e0
  obtain ⟨V, rfl, e⟩ := call1 (as := []) e1; obtain rfl := er_ref e; obtain rfl := kw0 e2
  obtain ⟨ws, k, ews, hg⟩ := S.list hl
  obtain ⟨_, _, xM, gM, eM⟩ := S.hp _ _ hM
  obtain ⟨_, _, xT, gT, eT⟩ := S.hp _ _ hT
  obtain ⟨nL, n0, xI, gI, eI⟩ := S.hp _ _ hI
  have eM : xM = oM := eM
  have eT : xT = oT := eT
  have eI : xI = oi := eI
  rw [eM, aM] at gM; rw [eT, aT] at gT; rw [eI] at gI
  have hl' : s.heap.IsList l ws.toArray := ⟨_, hg, rfl, k, rfl⟩
  have nM : M ≠ LI := by rintro rfl; rw [gM] at gI; injection gI with gI; have := aI.1; rw [← gI] at this; injection this with e; revert e; decide
  have nT : T ≠ LI := by rintro rfl; rw [gT] at gI; injection gI with gI; have := aI.1; rw [← gI] at this; injection this with e; revert e; decide
  have nl : l ≠ LI := by rintro rfl; rw [hg] at gI; injection gI with gI; have := aI.1; rw [← gI] at this; injection this with e; revert e; decide
  have lsame := S.same
  let Sx : Nat → Shared → Prop := fun i s' => (∀ b o, b ≠ LI → s.heap.get? b = some o → s'.heap.get? b = some o) ∧ s'.heap.IsListIter LI l i ∧ ∃ h t, s' = { c.s₀ with heap := h, toks := t }
  have at' : ∀ i s', Sx i s' → MapAt s'.heap M T LI l f i := fun i s' ⟨q1, q2, _⟩ => ⟨q1 _ _ nM gM, q1 _ _ nT gT, q2⟩
  have li' : ∀ i s', Sx i s' → s'.heap.IsList l ws.toArray := fun i s' ⟨q1, _, _⟩ => ⟨_, q1 _ _ nl hg, rfl, k, rfl⟩
  have hlen : ws.length = vs.length := by rw [← ews, List.length_map]
  have W : WalksS c.prog c.w c.A.in1 M (List.range s.heap.objs.size) [LI] (fun a b => b = a) vs.length (fun i v => ∃ t, v = .int (val i) t) Sx := by
    refine ⟨fun b hb => ?_, fun _ => rfl, fun _ _ _ h1 h2 => h2.trans h1, ?_, ?_, ?_, ?_⟩
    · rw [List.mem_singleton.mp hb]; exact List.mem_range.mpr (Heap.lt_size gI)
    · rintro i s' h' tk ⟨q1, ⟨o, q2, q3⟩, q4⟩ _ kp
      exact ⟨fun b o hb ho => kp b (List.mem_range.mpr (Heap.lt_size ho)) o (q1 b o hb ho), ⟨o, kp LI (List.mem_range.mpr (Heap.lt_size gI)) o q2, q3⟩, same_with q4 _ _⟩
    · intro i s' Q' E' hi hs hq
      obtain ⟨x, hx⟩ : ∃ x, ws.toArray[i]? = some x := ⟨ws[i]'(hlen ▸ hi), by rw [List.getElem?_toArray, List.getElem?_eq_getElem (hlen ▸ hi)]⟩
      have hv : vs[i]? = some (er x) := by
        rw [← ews, List.getElem?_map]; rw [List.getElem?_toArray] at hx; rw [hx]; rfl
      refine wpAny_with_toks (Nat.le_refl s'.toks) (map_item (at' i s' hs) (li' i s' hs) hx fun h' E2 q1 q2 => ?_)
      have kp : ∀ b o, b ≠ LI → s'.heap.get? b = some o → h'.get? b = some o := fun b o hb ho => (q2.2 b hb).trans ho
      have S1 : St c m (fun _ => none) (Mine.held c h') { s' with heap := h' } := S.held (s' := { s' with heap := h' }) nL n0 (same_heap hs.2.2 h') fun b o hb ho => kp b o hb (hs.1 b o hb ho)
      have cr := hf { c with A := c.A.in1.in1 } rfl rfl rfl rfl O.in1.in1 i (er x) hv (.ref f) [x] rfl rfl _ _ E2 (S1.withA _)
      refine wpAny_mono cr (fun V s'' ⟨H'', S'', hL, eV⟩ => ?_) fun _ _ e => e
      intro htk
      have S2 : St c m H'' (Mine.held c h') s'' := ⟨S''.same, S''.base, S''.ns, S''.lb, S''.dj, S''.hp, S''.fp⟩
      have mv := St.movedBut S1 rfl S2 hL
      obtain ⟨tv, eV⟩ := er_int eV
      obtain ⟨h2, t2, e2⟩ := S2.same
      obtain ⟨h3, t3, e3⟩ := hs.2.2
      have mv2 : ∀ b o, b ≠ LI → s'.heap.get? b = some o → s''.heap.get? b = some o := fun b o hb ho => mv b o (kp b o hb ho)
      refine hq V s'' ⟨tv, eV⟩ ⟨fun b o hb ho => mv2 b o hb (hs.1 b o hb ho), ?_, S2.same⟩ ⟨fun b o hb ho => mv2 b o (fun q => hb (List.mem_singleton.mpr q)) ho, ?_, ?_, ?_, htk⟩
      · obtain ⟨o, q3, q4⟩ := q1; exact ⟨o, mv LI o q3, q4⟩
      · rw [e2, e3]
      · rw [e2, e3]
      · rw [e2, e3]
    · intro s' Q' E' hs hq
      refine wpAny_with_toks (Nat.le_refl s'.toks) (map_end (by exact O.hh) (at' _ s' hs) (li' _ s' hs) (by rw [List.getElem?_toArray, List.getElem?_eq_none (Nat.le_of_eq hlen)]) fun h' he htk => ?_)
      exact hq _ ⟨fun b o hb ho => he b o (fun q => hb (List.mem_singleton.mpr q)) ho, rfl, rfl, rfl, htk⟩
    · intro i s' Q' E' hs hq
      exact map_self (at' i s' hs).m hq
  have S0 : Sx 0 s := ⟨fun _ _ _ e => e, ⟨_, gI, aI⟩, lsame⟩
  refine call_sum_walkAnyS (map_self gM ⟨M, _, _, _, _, _, _, val, rfl, W, S0, fun b hb => List.mem_range.mp hb, fun _ _ h => h, fun s' t' hm => ⟨H.del LI, ?_, h⟩⟩)
  obtain ⟨h', g', d', t', o'⟩ := s'
  have hS := (S.weak (HM.del_le H LI)).keepsBut (wr := [LI]) (h' := h') (t := t') (fun b hb => by
    obtain rfl := List.mem_singleton.mp hb
    refine ⟨HM.del_same _ _, ?_, nL, n0⟩
    rcases S.dj b with q | q
    · rw [hI] at q; cases q
    · exact q) fun b o hb ho => hm.heap b o hb ho
  have e1 := hm.gens; have e2 := hm.drawn; have e3 := hm.os
  simp only at e1 e2 e3
  subst e1 e2 e3
  exact hS
end
end Mine
end

section
open PySem PySem.W PySem.Calls PyProof.Rows PySem.Builtin PySem.Builtin.Str
set_option linter.all false
set_option maxRecDepth 100000
namespace Mine
section
variable {c : FC} {K : Frag} {n : Nat} {m : LM} {H F : HM} {X : XM} {s : Shared}
/-! ## a stop after one statement -/
def ViaJ (P : LM → HM → Prop) (f : Flow) (m : LM) (H : HM) : Prop := f = .next ∧ Keep P m H
theorem ViaJ.mk {P : LM → HM → Prop} {m' : LM} (h1 : LM.le m' m) (h : P m' H) : ViaJ P .next m H := ⟨rfl, m', H, h1, HM.le.refl _, h⟩
theorem Exs.weak {body : List Stmt} {Q : Flow → LM → HM → Prop} {m' : LM} {H' : HM} (h : Exs c body m' H' Q X) (h1 : LM.le m' m) (h2 : H'.le H) : Exs c body m H Q X := fun F s S => h F s ((S.weak h2).weakm h1)
theorem Exs.via {st : Stmt} {rest : List Stmt} {Q : Flow → LM → HM → Prop} (P : LM → HM → Prop) (h : Ex c st m H (ViaJ P) X) (h2 : ∀ m' H', P m' H' → Exs c rest m' H' Q X) : Exs c (st :: rest) m H Q X :=
  Exs.go (Fw.mono h (fun f m1 H1 ⟨e, m2, H2, l1, l2, hp⟩ => by subst e; exact ThenJ.next ((h2 m2 H2 hp).weak l1 l2)) fun _ _ _ e => e)

theorem Exs.ifVia {b : Bool} {as bs rest : List Stmt} {Q : Flow → LM → HM → Prop} (P : LM → HM → Prop) (h : if b = true then Exs c as m H (ViaJ P) X else Exs c bs m H (ViaJ P) X) (h2 : ∀ m' H', P m' H' → Exs c rest m' H' Q X) : if b = true then Exs c as m H (ThenJ c rest Q X) X else Exs c bs m H (ThenJ c rest Q X) X := by
  have up : ∀ zs, Exs c zs m H (ViaJ P) X → Exs c zs m H (ThenJ c rest Q X) X := fun zs h =>
    Fw.mono h (fun f m1 H1 ⟨e, m2, H2, l1, l2, hp⟩ => by subst e; exact ThenJ.next ((h2 m2 H2 hp).weak l1 l2)) fun _ _ _ e => e
  cases b
  · rw [if_neg Bool.false_ne_true] at h ⊢; exact up _ h
  · rw [if_pos rfl] at h ⊢; exact up _ h
/-! ## heaps alike but at some places -/
def Upd (l : List Addr) (H H' : HM) : Prop := ∀ a o, a ∉ l → H a = some o → H' a = some o
theorem Upd.refl (l : List Addr) (H : HM) : Upd l H H := fun _ _ _ e => e
theorem Upd.new {l : List Addr} {H H' : HM} {a : Addr} {o : AO} (h : H' a = none) (u : Upd l H H') : Upd l H (H'.set a o) := fun b x hb e => by
  rw [HM.set_ne _ _ (HM.ne_of h (u b x hb e))]; exact u b x hb e
theorem Upd.at {l : List Addr} {H H' : HM} {a : Addr} {o : AO} (h : a ∈ l) (u : Upd l H H') : Upd l H (H'.set a o) := fun b x hb e => by
  rw [HM.set_ne _ _ (by rintro rfl; exact hb h)]; exact u b x hb e
theorem Upd.old {l : List Addr} {H H' : HM} {a : Addr} {o : AO} (h : H a = none) (u : Upd l H H') : Upd l H (H'.set a o) := fun b x hb e => by
  rw [HM.set_ne _ _ (HM.ne_of h e)]; exact u b x hb e
theorem Upd.del {l : List Addr} {H H' : HM} {a : Addr} (h : H a = none) (u : Upd l H H') : Upd l H (H'.del a) := fun b x hb e => by
  rw [HM.del_ne _ (HM.ne_of h e)]; exact u b x hb e
theorem Upd.trans {l : List Addr} {H H' H'' : HM} (u : Upd l H H') (v : Upd l H' H'') : Upd l H H'' := fun b x hb e => v b x hb (u b x hb e)
theorem Upd.cons {l : List Addr} {H H' : HM} {a : Addr} (u : Upd l H H') : Upd (a :: l) H H' := fun b x hb e => u b x (fun q => hb (List.mem_cons_of_mem _ q)) e
theorem Upd.none {l : List Addr} {H H' : HM} (u : Upd l H H') {a : Addr} (ha : a ∉ l) (h : H' a = none) : H a = none := by
  cases q : H a with
  | none => rfl
  | some o => rw [u a o ha q] at h; cases h
theorem Upd.le0 {H H' : HM} (u : Upd [] H H') : H.le H' := fun a o e => u a o (by simp) e
theorem Upd.le1 {H H' : HM} {a : Addr} {A : AO} (u : Upd [a] H H') (h : H' a = some A) : (H.set a A).le H' := fun b o e => by
  by_cases q : b = a
  · subst q; rw [HM.set_same] at e; rw [h]; exact e
  · rw [HM.set_ne _ _ q] at e; exact u b o (by simp [q]) e
theorem Upd.le2 {H H' : HM} {a b : Addr} {A B : AO} (u : Upd [a, b] H H') (h : H' a = some A) (h2 : H' b = some B) (hn : a ≠ b) : ((H.set a A).set b B).le H' := fun x o e => by
  by_cases q : x = b
  · subst q; rw [HM.set_same] at e; rw [h2]; exact e
  · rw [HM.set_ne _ _ q] at e
    by_cases q2 : x = a
    · subst q2; rw [HM.set_same] at e; rw [h]; exact e
    · rw [HM.set_ne _ _ q2] at e; exact u x o (by simp [q, q2]) e
theorem HM.delX {H : HM} {a b : Addr} {o : AO} (hn : b ≠ a) (h : H b = some o) : H.del a b = some o := by rw [HM.del_ne _ hn]; exact h
theorem C_reverseX {a : Addr} {Q : Value → HM → Prop} (vs : List Value) (hv : H a = some (.list vs)) (hl : vs.length ≤ 16000000) (h : Q .none (H.set a (.list vs.reverse))) : CallJ c (.builtin "list.reverse") [.ref a] [] m H Q X := C_reverse hv hl h
theorem C_joinX {a : Addr} {sep : List Nat} {Q : Value → HM → Prop} (ps : List (List Nat)) (hv : H a = some (.list (ps.map VT))) (hl : joinSize sep ps ≤ 16000000) (h : Q (VT (joinL sep ps)) H) : CallJ c (.builtin "str.join") [VT sep, .ref a] [] m H Q X := C_join hv rfl hl h
end

/-! ## what _wrap_chunks does -/
theorem vis_le (ts : List Tk) : vis ts ≤ (flatT ts).length := by
  unfold vis
  induction ts with
  | nil => exact Nat.le_refl _
  | cons t r ih =>
    rw [flatT_cons, List.length_append]
    cases t with
    | ch x => show (signs r).length + 1 ≤ _; simp [Tk.flat]; omega
    | es p => show (signs r).length ≤ _; omega
def restT (k : Int) (t : List Tk) : List Tk := t.drop (truncV k t).length
theorem trunc_rest (k : Int) (t : List Tk) : truncV k t ++ restT k t = t := by
  obtain ⟨z, hz⟩ := truncV_pre k t
  unfold restT
  have e : t.drop (truncV k t).length = z := by
    have := congrArg (List.drop (truncV k t).length) hz
    rw [this, List.drop_left]
  rw [e]; exact hz.symm
def blankT (t : List Tk) : Bool := decide (stripL Unicode.isSpace (flatT t) = [])
def dropB (more : Bool) : List (List Tk) → List (List Tk)
  | t :: r => if (blankT t && more) = true then r else t :: r
  | [] => []
def greedy (wd : Int) : Int → List (List Tk) → List (List Tk) → Int × List (List Tk) × List (List Tk)
  | cur, line, [] => (cur, line, [])
  | cur, line, t :: r => if cur + vis t ≤ wd then greedy wd (cur + vis t) (line ++ [t]) r else (cur, line, t :: r)
def cutLong (wd cur : Int) (line : List (List Tk)) : List (List Tk) → List (List Tk) × List (List Tk)
  | t :: r => if (vis t : Int) > wd then (line ++ [truncV (max (wd - cur) 1) t], restT (max (wd - cur) 1) t :: r) else (line, t :: r)
  | [] => (line, [])

def trimB (line : List (List Tk)) : List (List Tk) := match line.getLast? with
  | some t => if blankT t = true then line.dropLast else line
  | none => line
def lay1 (wd : Int) (more : Bool) (cs : List (List Tk)) : List (List Tk) × List (List Tk) :=
  let g := greedy wd 0 [] (dropB more cs)
  let q := cutLong wd g.1 g.2.1 g.2.2
  (trimB q.1, q.2)
def wrapF (w : Int) (fi fr : List Tk) : Nat → List (List Tk) → List (List Tk) → Option (List (List Tk))
  | _, [], ls => some ls
  | 0, _ :: _, _ => none
  | k + 1, c :: cs, ls =>
    let ind := if ls = [] then fi else fr
    let q := lay1 (w - vis ind) (!ls.isEmpty) (c :: cs)
    wrapF w fi fr k q.2 (if q.1 = [] then ls else ls ++ [ind ++ q.1.flatten])

structure Sized (cs : List (List Tk)) : Prop where
  ok : ∀ t ∈ cs, okT t
  fl : (flatT cs.flatten).length ≤ 100000
  ln : cs.length ≤ 100000
theorem Sized.head {t : List Tk} {cs : List (List Tk)} (h : Sized (t :: cs)) : okT t ∧ (flatT t).length ≤ 100000 ∧ Sized cs := by
  have := h.fl
  rw [List.flatten_cons, flatT_append, List.length_append] at this
  exact ⟨h.ok _ List.mem_cons_self, by omega, fun x hx => h.ok x (List.mem_cons_of_mem _ hx), by omega, Nat.le_of_succ_le h.ln⟩
/-- a line on its way: it may be one longer -/
structure LineOk (line : List (List Tk)) : Prop where
  ok : ∀ t ∈ line, okT t
  fl : (flatT line.flatten).length ≤ 100000
  ln : line.length ≤ 100001
theorem cut_sized {wd cur : Int} {line cs : List (List Tk)} (h : Sized (line ++ cs)) : LineOk (cutLong wd cur line cs).1 ∧ Sized (cutLong wd cur line cs).2 := by
  have hf := h.fl
  have hl := h.ln
  rw [List.flatten_append, flatT_append, List.length_append] at hf
  rw [List.length_append] at hl
  have base : LineOk line ∧ Sized cs := ⟨⟨fun t ht => h.ok t (List.mem_append_left _ ht), by omega, by omega⟩, ⟨fun t ht => h.ok t (List.mem_append_right _ ht), by omega, by omega⟩⟩
  cases cs with
  | nil => exact base
  | cons t r =>
    have ec : cutLong wd cur line (t :: r) = if (vis t : Int) > wd then (line ++ [truncV (max (wd - cur) 1) t], restT (max (wd - cur) 1) t :: r) else (line, t :: r) := rfl
    rw [ec]
    split
    · have e := trunc_rest (max (wd - cur) 1) t
      have okt := h.ok t (by simp)
      rw [← e, okT_append] at okt
      rw [List.flatten_cons, flatT_append, List.length_append] at hf
      have e2 := congrArg (fun z => (flatT z).length) e
      simp only [flatT_append, List.length_append] at e2
      refine ⟨⟨fun x hx => ?_, ?_, ?_⟩, ⟨fun x hx => ?_, ?_, ?_⟩⟩
      · rcases List.mem_append.mp hx with hx | hx
        · exact base.1.ok x hx
        · rw [List.mem_singleton.mp hx]; exact okt.1
      · rw [List.flatten_append, flatT_append, List.length_append]; simp; omega
      · rw [List.length_append]; simp; omega
      · rcases List.mem_cons.mp hx with rfl | hx
        · exact okt.2
        · exact base.2.ok x (List.mem_cons_of_mem _ hx)
      · rw [List.flatten_cons, flatT_append, List.length_append]; omega
      · have := base.2.ln; simpa using this
    · exact base
theorem trimB_snoc (line : List (List Tk)) (t : List Tk) : trimB (line ++ [t]) = if blankT t = true then line else line ++ [t] := by
  unfold trimB
  simp
theorem trim_ok {line : List (List Tk)} (h : LineOk line) : LineOk (trimB line) := by
  rcases List.eq_nil_or_concat line with rfl | ⟨l, t, rfl⟩
  · exact h
  · rw [List.concat_eq_append, trimB_snoc]
    split
    · rw [List.concat_eq_append] at h
      have := h.fl
      have h2 := h.ln
      rw [List.flatten_append, flatT_append, List.length_append] at this
      rw [List.length_append] at h2
      exact ⟨fun x hx => h.ok x (List.mem_append_left _ hx), by omega, by omega⟩
    · rw [List.concat_eq_append] at h; exact h
theorem flatT_flatten (line : List (List Tk)) : (line.map flatT).flatten = flatT line.flatten := by
  induction line with
  | nil => rfl
  | cons x r ih => rw [List.map_cons, List.flatten_cons, ih, List.flatten_cons, flatT_append]
end Mine
end

section
open PySem PySem.W PySem.Calls PyProof.Rows PySem.Builtin PySem.Builtin.Str
set_option linter.all false
set_option maxRecDepth 100000
namespace Mine
section
variable {c : FC} {K : Frag} {n : Nat} {m : LM} {H F : HM} {X : XM} {s : Shared}
/-! ## f'{a}{b}' of two texts -/
def Fmt1 (c : FC) (e2 : Expr) (m : LM) (Q : Value → HM → Prop) (X : XM) (v : Value) (H1 : HM) : Prop :=
  ∃ x, v = VT x ∧ x.length ≤ 16000000 ∧ Ev c e2 m H1 (fun v2 H2 => ∃ y, v2 = VT y ∧ x.length + y.length ≤ 16000000 ∧ Q (VT (x ++ y)) H2) X
theorem Ev.fstr2 {e1 e2 : Expr} {p1 p2 p : Pos} {Q : Value → HM → Prop} (h : Ev c e1 m H (Fmt1 c e2 m Q X) X) : Ev c (.JoinedStr [.FormattedValue e1 (-1) none p1, .FormattedValue e2 (-1) none p2] p) m H Q X := fun G s SS => by
  refine JoinedStr_many (joinParts_cons (FormattedValue_plain (wpAny_mono (h G s SS) (fun V s1 ⟨H1, S1, x, ev, hx, h2⟩ => ?_) fun _ _ e => e)))
  obtain ⟨t, rfl⟩ := er_str ev
  refine formatField_str (fun t' tk => ?_) (S_fits hx)
  refine ⟨?_, joinParts_cons (FormattedValue_plain (wpAny_mono (h2 G _ (S1.toks tk)) (fun W s2 ⟨H2, S2, y, ew, hy, q⟩ => ?_) fun _ _ e => e))⟩
  · rw [show Str.empty = S [] from rfl, S_append]; exact S_fits (by simpa using hx)
  · obtain ⟨u, rfl⟩ := er_str ew
    refine formatField_str (fun t' tk => ?_) (S_fits (by omega))
    rw [show Str.empty = S [] from rfl, S_append]
    show (S ([] ++ x) ++ S y).length ≤ sizeLine ∧ wpAny _ _ (joinParts (S ([] ++ x) ++ S y) []) _ _ _
    rw [S_append]
    have hz : (S ([] ++ x ++ y)).length ≤ sizeLine := S_fits (by simpa using hy)
    exact ⟨hz, joinParts_nil ⟨H2, (S2.toks _).toks _, q⟩ hz⟩
/-! ## two names at once -/
theorem StoreJ.mono {x : Str} {v : Value} {Q Q' : LM → HM → Prop} (h : StoreJ c x v m H Q X) (hq : ∀ m' H', Q m' H' → Q' m' H') : StoreJ c x v m H Q' X := fun V e => Nw.mono (h V e) hq fun _ _ _ e => e
theorem Tgt.two {x y : Str} {k : Nat} {p1 p2 p : Pos} {a : Addr} {Q : LM → HM → Prop} (u v : Value) (hh : c.A.handled = none) (hv : H a = some (.tup [u, v])) (h : StoreJ c x u m H (fun m1 H1 => StoreJ c y v m1 H1 Q X) X) : Tgt c (.Tuple [.Name x p1, .Name y p2] k p) (.ref a) m H Q X :=
  Tgt.tuple hh hv rfl rfl (InOrd.cons (Tgt.name (StoreJ.mono h fun m1 H1 h1 => InOrd.cons (Tgt.name (StoreJ.mono h1 fun _ _ q => InOrd.nil q)))))
theorem Tgt.three {x y z : Str} {k : Nat} {p1 p2 p3 p : Pos} {a : Addr} {Q : LM → HM → Prop} (u v w : Value) (hh : c.A.handled = none) (hv : H a = some (.tup [u, v, w])) (h : StoreJ c x u m H (fun m1 H1 => StoreJ c y v m1 H1 (fun m2 H2 => StoreJ c z w m2 H2 Q X) X) X) : Tgt c (.Tuple [.Name x p1, .Name y p2, .Name z p3] k p) (.ref a) m H Q X :=
  Tgt.tuple hh hv rfl rfl (InOrd.cons (Tgt.name (StoreJ.mono h fun m1 H1 h1 => InOrd.cons (Tgt.name (StoreJ.mono h1 fun m2 H2 h2 => InOrd.cons (Tgt.name (StoreJ.mono h2 fun _ _ q => InOrd.nil q)))))))
end

theorem linesG_len : ∀ (l cur : List Nat), (linesG l cur).length ≤ l.length + 1 ∧ (∀ y ∈ linesG l cur, y.length ≤ cur.length + l.length)
  | [], cur => by
    unfold linesG; split
    · exact ⟨by simp, fun y h => by cases h⟩
    · exact ⟨by simp, fun y h => by rw [List.mem_singleton.mp h]; simp⟩
  | c :: r, cur => by
    unfold linesG; split
    · have ih := linesG_len r []
      refine ⟨by simp; exact ih.1, fun y h => ?_⟩
      rcases List.mem_cons.mp h with rfl | h
      · simp
      · have := ih.2 y h; simp at this ⊢; omega
    · have ih := linesG_len r (cur ++ [c])
      refine ⟨by simp; omega, fun y h => ?_⟩
      have := ih.2 y h; simp at this ⊢; omega
theorem linesL_len (l : List Nat) : (linesL l).length ≤ l.length + 1 := (linesG_len l []).1
theorem linesL_mem {l y : List Nat} (h : y ∈ linesL l) : y.length ≤ l.length := by have := (linesG_len l []).2 y h; simpa using this
end Mine
end

section
open PySem PySem.W PySem.Calls PyProof.Rows PySem.Builtin PySem.Builtin.Str
set_option linter.all false
set_option maxRecDepth 100000
namespace Mine
/-! ## lines and paragraphs, by tokens (what wrap_text does before it lays them) -/
def linesTG : List Tk → List Tk → List (List Tk)
  | [], cur => if cur = [] then [] else [cur]
  | .ch x :: r, cur => if Unicode.isLineBreak x = true then cur :: linesTG r [] else linesTG r (cur ++ [.ch x])
  | .es p :: r, cur => linesTG r (cur ++ [.es p])
def linesT (ts : List Tk) : List (List Tk) := linesTG ts []
theorem linesG_run : ∀ (l r cur : List Nat), (∀ x ∈ l, Unicode.isLineBreak x = false) → linesG (l ++ r) cur = linesG r (cur ++ l)
  | [], r, cur, _ => by simp
  | x :: l, r, cur, h => by
    rw [List.cons_append]
    conv => lhs; unfold linesG
    rw [h x List.mem_cons_self, if_neg Bool.false_ne_true, linesG_run l r _ fun y hy => h y (List.mem_cons_of_mem _ hy)]
    simp
theorem noBreak : ∀ x : Nat, 48 ≤ x → x ≤ 59 → Unicode.isLineBreak x = false := by
  intro x h1 h2
  have : x = 48 ∨ x = 49 ∨ x = 50 ∨ x = 51 ∨ x = 52 ∨ x = 53 ∨ x = 54 ∨ x = 55 ∨ x = 56 ∨ x = 57 ∨ x = 58 ∨ x = 59 := by omega
  rcases this with rfl | rfl | rfl | rfl | rfl | rfl | rfl | rfl | rfl | rfl | rfl | rfl <;> decide +kernel
theorem linesTG_flat : ∀ (ts cur : List Tk), okT ts → (linesTG ts cur).map flatT = linesG (flatT ts) (flatT cur)
  | [], cur, _ => by
    unfold linesTG
    by_cases h : cur = []
    · subst h; rfl
    · rw [if_neg h]
      have : flatT cur ≠ [] := fun e => h (flatT_eq_nil (by rw [e]; rfl))
      show [flatT cur] = linesG [] (flatT cur)
      unfold linesG; rw [if_neg this]
  | .ch x :: r, cur, h => by
    rw [okT_cons] at h
    rw [flatT_cons]
    show (linesTG (.ch x :: r) cur).map flatT = linesG (x :: flatT r) (flatT cur)
    unfold linesTG linesG
    split
    · rw [List.map_cons, linesTG_flat r [] h.2]; rfl
    · rw [linesTG_flat r _ h.2, flatT_append]; rfl
  | .es p :: r, cur, h => by
    rw [okT_cons] at h
    rw [flatT_cons]
    unfold linesTG
    rw [linesTG_flat r _ h.2, flatT_append, linesG_run]
    · simp [flatT]
    · intro x hx
      have hx : x ∈ 27 :: 91 :: (p ++ [109]) := hx
      simp only [List.mem_cons, List.mem_append, List.not_mem_nil, or_false] at hx
      rcases hx with rfl | rfl | hx | rfl
      · decide +kernel
      · decide +kernel
      · have := h.1 x hx; exact noBreak x this.1 this.2
      · decide +kernel
theorem linesT_flat {ts : List Tk} (h : okT ts) : (linesT ts).map flatT = linesL (flatT ts) := linesTG_flat ts [] h
theorem linesT_ok {ts : List Tk} (h : okT ts) : ∀ l ∈ linesT ts, okT l := by
  have go : ∀ (ts cur : List Tk), okT ts → okT cur → ∀ l ∈ linesTG ts cur, okT l := by
    intro ts
    induction ts with
    | nil =>
      intro cur _ hc l hl
      unfold linesTG at hl
      split at hl
      · cases hl
      · rw [List.mem_singleton.mp hl]; exact hc
    | cons t r ih =>
      intro cur h hc l hl
      rw [okT_cons] at h
      have hc' : okT (cur ++ [t]) := okT_append.mpr ⟨hc, fun y hy => by rw [List.mem_singleton.mp hy]; exact h.1⟩
      cases t with
      | ch x =>
        unfold linesTG at hl
        split at hl
        · rcases List.mem_cons.mp hl with rfl | hl
          · exact hc
          · exact ih [] h.2 (fun _ z => by cases z) l hl
        · exact ih _ h.2 hc' l hl
      | es p =>
        unfold linesTG at hl
        exact ih _ h.2 hc' l hl
  exact go ts [] h fun _ z => by cases z
end Mine
end

section
open PySem PySem.W PySem.Calls PyProof.Rows PySem.Builtin PySem.Builtin.Str
set_option linter.all false
set_option maxRecDepth 100000
namespace Mine
/-! ## paragraphs, by tokens -/
def lstripT : List Tk → List Tk
  | .ch x :: r => if Unicode.isSpace x = true then lstripT r else .ch x :: r
  | .es p :: r => .es p :: r
  | [] => []
theorem sp27 : Unicode.isSpace 27 = false := by decide +kernel
theorem lstripT_flat : ∀ ts : List Tk, flatT (lstripT ts) = lstripL Unicode.isSpace (flatT ts)
  | [] => rfl
  | .ch x :: r => by
    unfold lstripT
    rw [flatT_cons]
    show _ = lstripL Unicode.isSpace (x :: flatT r)
    unfold lstripL
    rw [List.dropWhile_cons]
    split
    · rw [lstripT_flat r]; rfl
    · rfl
  | .es p :: r => by
    unfold lstripT
    rw [flatT_cons]
    show _ = lstripL Unicode.isSpace (27 :: (91 :: (p ++ [109]) ++ flatT r))
    unfold lstripL
    rw [List.dropWhile_cons, sp27]; rfl
theorem lstripT_suf : ∀ ts : List Tk, ∃ z, ts = z ++ lstripT ts
  | [] => ⟨[], rfl⟩
  | .ch x :: r => by
    unfold lstripT
    split
    · obtain ⟨z, hz⟩ := lstripT_suf r
      exact ⟨.ch x :: z, by rw [List.cons_append, ← hz]⟩
    · exact ⟨[], rfl⟩
  | .es p :: r => ⟨[], rfl⟩
theorem lstripT_ok {ts : List Tk} (h : okT ts) : okT (lstripT ts) := by
  obtain ⟨z, hz⟩ := lstripT_suf ts
  rw [hz, okT_append] at h; exact h.2
theorem lstripT_len (ts : List Tk) : (flatT (lstripT ts)).length ≤ (flatT ts).length := by
  obtain ⟨z, hz⟩ := lstripT_suf ts
  conv => rhs; rw [hz]
  rw [flatT_append, List.length_append]; omega
theorem lstripT_vis (ts : List Tk) : vis (lstripT ts) ≤ vis ts := by
  obtain ⟨z, hz⟩ := lstripT_suf ts
  conv => rhs; rw [hz]
  unfold vis
  rw [signs_append, List.length_append]; omega
def joinTk (x : Nat) : List (List Tk) → List Tk
  | [] => []
  | [l] => l
  | l :: l2 :: r => l ++ .ch x :: joinTk x (l2 :: r)
theorem joinTk_flat (x : Nat) : ∀ ls : List (List Tk), flatT (joinTk x ls) = joinL [x] (ls.map flatT)
  | [] => rfl
  | [l] => rfl
  | l :: l2 :: r => by
    unfold joinTk
    rw [flatT_append, flatT_cons, joinTk_flat x (l2 :: r)]
    show flatT l ++ ([x] ++ _) = flatT l ++ [x] ++ _
    simp
theorem joinTk_ok {x : Nat} (hx : (Tk.ch x).ok) : ∀ {ls : List (List Tk)}, (∀ l ∈ ls, okT l) → okT (joinTk x ls)
  | [], _ => fun _ h => by cases h
  | [l], h => h l (by simp)
  | l :: l2 :: r, h => by
    unfold joinTk
    exact okT_append.mpr ⟨h l (by simp), okT_cons.mpr ⟨hx, joinTk_ok hx fun y hy => h y (List.mem_cons_of_mem _ hy)⟩⟩
abbrev Par := Nat × Bool × List Tk
def flushP (ind : Nat) : List (List Tk) → List Par
  | [] => []
  | b :: r => [(ind, stripL Unicode.isSpace (flatT b) == [8], if stripL Unicode.isSpace (flatT b) = [8] then joinTk 10 r else joinTk 32 (b :: r))]
def parsGo : List (List Tk) → Nat → List (List Tk) → List Par
  | [], ind, buf => flushP ind buf
  | l :: r, ind, buf => if l = [] then flushP ind buf ++ parsGo r 0 [] else if buf = [] then parsGo r (vis l - vis (lstripT l)) [lstripT l] else parsGo r ind (buf ++ [l])
def parsT (ts : List Tk) : List Par := parsGo (linesT ts) 0 []
def szL (ls : List (List Tk)) : Nat := (ls.map fun l => (flatT l).length + 1).sum
theorem szL_cons (l : List Tk) (ls : List (List Tk)) : szL (l :: ls) = (flatT l).length + 1 + szL ls := by simp [szL]
theorem szL_append (a b : List (List Tk)) : szL (a ++ b) = szL a + szL b := by simp [szL]
theorem szL_len : ∀ ls : List (List Tk), ls.length ≤ szL ls
  | [] => Nat.zero_le _
  | l :: r => by rw [szL_cons, List.length_cons]; have := szL_len r; omega
theorem szL_mem {ls : List (List Tk)} {l : List Tk} (h : l ∈ ls) : (flatT l).length ≤ szL ls := by
  induction ls with
  | nil => cases h
  | cons a r ih =>
    rw [szL_cons]
    rcases List.mem_cons.mp h with rfl | h
    · omega
    · have := ih h; omega
theorem szL_join (x : Nat) (ls : List (List Tk)) : joinSize [x] (ls.map flatT) = szL ls := by
  unfold joinSize szL
  rw [List.map_map]; rfl
theorem szL_linesTG : ∀ (ts cur : List Tk), szL (linesTG ts cur) ≤ (flatT cur).length + (flatT ts).length + 1
  | [], cur => by
    unfold linesTG; split
    · simp [szL]
    · rw [szL_cons]; simp [szL]
  | .ch x :: r, cur => by
    unfold linesTG
    rw [flatT_cons, List.length_append]
    have hx : (Tk.ch x).flat.length = 1 := rfl
    split
    · rw [szL_cons]
      have := szL_linesTG r []
      rw [flatT_nil, List.length_nil] at this; omega
    · have := szL_linesTG r (cur ++ [.ch x])
      rw [flatT_append, List.length_append] at this
      have h2 : (flatT [Tk.ch x]).length = 1 := rfl
      omega
  | .es p :: r, cur => by
    unfold linesTG
    rw [flatT_cons, List.length_append]
    have := szL_linesTG r (cur ++ [.es p])
    rw [flatT_append, List.length_append] at this
    have h2 : (flatT [Tk.es p]).length = (Tk.es p).flat.length := by simp [flatT]
    omega
theorem szL_lines (ts : List Tk) : szL (linesT ts) ≤ (flatT ts).length + 1 := by
  have := szL_linesTG ts []
  rw [flatT_nil, List.length_nil] at this; unfold linesT; omega
theorem ok10 : (Tk.ch 10).ok := ⟨by decide, by decide, by decide, by decide⟩
theorem ok32 : (Tk.ch 32).ok := ⟨by decide, by decide, by decide, by decide⟩
theorem flushP_ok {B : Nat} {ind : Nat} {buf : List (List Tk)} (h : ∀ l ∈ buf, okT l) (hi : ind ≤ B) (hs : szL buf ≤ B) : ∀ q ∈ flushP ind buf, q.1 ≤ B ∧ okT q.2.2 ∧ (flatT q.2.2).length ≤ B := by
  cases buf with
  | nil => exact fun q hq => by cases hq
  | cons b r =>
    intro q hq
    obtain rfl := List.mem_singleton.mp hq
    refine ⟨hi, ?_, ?_⟩
    · show okT (if _ then _ else _)
      split
      · exact joinTk_ok ok10 fun l hl => h l (List.mem_cons_of_mem _ hl)
      · exact joinTk_ok ok32 h
    · show (flatT (if _ then _ else _)).length ≤ _
      split
      · rw [joinTk_flat]
        have := joinL_length [10] (r.map flatT)
        rw [szL_join] at this
        rw [szL_cons] at hs; omega
      · rw [joinTk_flat]
        have := joinL_length [32] ((b :: r).map flatT)
        rw [szL_join] at this; omega
theorem parsGo_ok {B : Nat} : ∀ (ls : List (List Tk)) (ind : Nat) (buf : List (List Tk)), (∀ l ∈ buf, okT l) → (∀ l ∈ ls, okT l) → ind ≤ B → szL buf + szL ls ≤ B → ∀ q ∈ parsGo ls ind buf, q.1 ≤ B ∧ okT q.2.2 ∧ (flatT q.2.2).length ≤ B
  | [], ind, buf, h1, h2, h3, h4 => flushP_ok h1 h3 (by omega)
  | l :: r, ind, buf, h1, h2, h3, h4 => by
    unfold parsGo
    rw [szL_cons] at h4
    have hr : ∀ x ∈ r, okT x := fun x hx => h2 x (List.mem_cons_of_mem _ hx)
    split
    · intro q hq
      rcases List.mem_append.mp hq with hq | hq
      · exact flushP_ok h1 h3 (by omega) q hq
      · exact parsGo_ok r 0 [] (fun _ h => by cases h) hr (by omega) (by simp [szL] at *; omega) q hq
    · split
      · have := vis_le l
        have h5 := lstripT_len l
        refine parsGo_ok r _ _ (fun x hx => by rw [List.mem_singleton.mp hx]; exact lstripT_ok (h2 l List.mem_cons_self)) hr (by omega) ?_
        rw [szL_cons]; simp [szL] at *; omega
      · refine parsGo_ok r _ _ (fun x hx => ?_) hr h3 ?_
        · rcases List.mem_append.mp hx with hx | hx
          · exact h1 x hx
          · rw [List.mem_singleton.mp hx]; exact h2 l List.mem_cons_self
        · rw [szL_append, szL_cons]; simp [szL] at *; omega
theorem parsT_ok {ts : List Tk} (h : okT ts) : ∀ q ∈ parsT ts, q.1 ≤ (flatT ts).length + 1 ∧ okT q.2.2 ∧ (flatT q.2.2).length ≤ (flatT ts).length + 1 :=
  parsGo_ok _ 0 [] (fun _ h => by cases h) (linesT_ok h) (by omega) (by have := szL_lines ts; simp [szL] at *; omega)
end Mine
end

section
open PySem PySem.W PySem.Calls PyProof.Rows PySem.Builtin PySem.Builtin.Str
set_option linter.all false
set_option maxRecDepth 100000
namespace Mine
section
variable {c : FC} {K : Frag} {n : Nat} {m : LM} {H F : HM} {X : XM} {s : Shared}
/-! ## calls with keywords -/
def KVals (c : FC) (kws : List Keyword) (m : LM) (H : HM) (Q : List Value → HM → Prop) (X : XM) : Prop :=
  ∀ pos, Lw c (evalAll ((backToKw pos (keywordEach kws c.env)).map (·.2))) m H Q X
theorem KVals.nil {Q : List Value → HM → Prop} (h : Q [] H) : KVals c [] m H Q X := fun pos G s S => kws_nil ⟨H, S, h⟩
theorem KVals.cons {name : Str} {value : Expr} {kp : Pos} {rest : List Keyword} {Q : List Value → HM → Prop} (h : Ev c value m H (fun v H1 => KVals c rest m H1 (fun vs H2 => Q (v :: vs) H2) X) X) : KVals c (⟨some name, value, kp⟩ :: rest) m H Q X := fun pos G s S =>
  kws_cons (wpAny_mono (h G s S) (fun v s1 ⟨H1, S1, h1⟩ => wpAny_mono (h1 pos G s1 S1) (fun vs s2 ⟨H2, S2, q⟩ => ⟨H2, S2, q⟩) fun _ _ e => e) fun _ _ e => e)
def CallKW (c : FC) (f : Value) (as : List Value) (ks : List (Str × Value)) (m : LM) (H : HM) (Q : Value → HM → Prop) (X : XM) : Prop := Kp c f H ∧ CallJ c f as ks m H Q X
theorem CallKW.k {f : Addr} {as : List Value} {ks : List (Str × Value)} {Q : Value → HM → Prop} (O : Ok c K n) (hk : keepIn K (.ref f) = true) (h : CallJ c (.ref f) as ks m H Q X) : CallKW c (.ref f) as ks m H Q X := ⟨Kp.k O hk, h⟩
theorem zip_er : ∀ (names : List Str) (kvs : List Value), (names.zip kvs).map (fun p => (p.1, er p.2)) = names.zip (kvs.map er)
  | [], _ => rfl
  | _ :: _, [] => rfl
  | x :: r, v :: vs => by rw [List.zip_cons_cons, List.map_cons, zip_er r vs, List.map_cons, List.zip_cons_cons]
theorem Ev.callKW {fe e rest kws pos} {Q : Value → HM → Prop} (names : List Str) (h : Ev c fe m H (fun f H1 => Vals c (e :: rest) m H1 (fun vs H2 => KVals c kws m H2 (fun ks H3 => CallKW c f vs (names.zip ks) m H3 Q X) X) X) X)
    (he : eval (.Call fe (e :: rest) kws pos) c.env = (do callWith pos (← eval fe c.env) [] (backTo pos (starEach (e :: rest) c.env)) (backToKw pos (keywordEach kws c.env))))
    (hs : starEach (e :: rest) c.env = (false, eval e c.env) :: starEach rest c.env) (hp : ((backTo pos (starEach (e :: rest) c.env)).any (·.1) || (backToKw pos (keywordEach kws c.env)).any (·.1.isNone)) = false)
    (hn : (backToKw pos (keywordEach kws c.env)).filterMap (·.1) = names) (hall : (backToKw pos (keywordEach kws c.env)).all (·.1.isSome) = true) : Ev c (.Call fe (e :: rest) kws pos) m H Q X := fun F s St' => by
  rw [he]
  refine wpAny_bind (wpAny_mono (h F s St') (fun V s1 ⟨H1, S1, hv⟩ => ?_) fun _ _ e => e)
  have hv' := hv pos F s1 S1
  refine callWith_of (P := fun h => ∃ k, (k = Keeper.frame ∨ k = Keeper.machine ∨ k = Keeper.boundFrame) ∧ Looks (model c.prog c.w) h (keeperOf V) k) hp (fun _ x => x) (evalArgs_kw2 hall ?_ hs)
  refine wpAny_mono hv' (fun Vs s2 ⟨H2, S2, hk⟩ => wpAny_mono (hk pos F s2 S2) (fun Ks s3 ⟨H3, S3, kp, hc⟩ => ⟨kp F s3 m S3 V rfl, ?_⟩) fun _ _ e => e) fun _ _ e => e
  rw [hn]
  exact hc V Vs _ rfl rfl (zip_er names Ks) F s3 S3
theorem CallKW.kX {f : Addr} {as : List Value} {ks : List (Str × Value)} {Q : Value → HM → Prop} (K : Frag) (n : Nat) (O : Ok c K n) (hk : keepIn K (.ref f) = true) (h : CallJ c (.ref f) as ks m H Q X) : CallKW c (.ref f) as ks m H Q X := .k O hk h
end
end Mine
end

section
open PySem PySem.W PySem.Calls PyProof.Rows PySem.Builtin PySem.Builtin.Str
set_option linter.all false
set_option maxRecDepth 100000
namespace Mine
section
variable {c : FC} {K : Frag} {n : Nat} {m : LM} {H F : HM} {X : XM} {s : Shared}
theorem St.addH (S : St c m H F s) {a : Addr} {o : Obj} {ao : AO} (hF : F a = none) (h1 : a ≠ c.env.locals) (h2 : c.s₀.heap.get? a = none) (h3 : s.heap.get? a = some o) (hi : ao.Is o) : St c m (H.set a ao) F s :=
  ⟨S.same, S.base, S.ns, S.lb, fun b => by
    by_cases q : b = a
    · subst q; exact .inr hF
    · rw [HM.set_ne _ _ q]; exact S.dj b, fun b bo e => by
    by_cases q : b = a
    · subst q; rw [HM.set_same] at e; cases e; exact ⟨h1, h2, o, h3, hi⟩
    · rw [HM.set_ne _ _ q] at e; exact S.hp b bo e, S.fp⟩
theorem HM.del_set' (H : HM) (a : Addr) (o : AO) : (H.del a).set a o = H.set a o := by
  funext b; simp only [HM.set, HM.del]; split <;> rfl

/-- a def in a function: its code is made, and laid into the table of the code around -/
theorem Ex.defNew {p : Program} {loose : List Str} {mean : ExcName → Option Value} {mg mb : Str → Option Value} {name : Str} {params : Arguments} {body : List Stmt} {scope : Scope} {pos : Pos} {P cc : Addr} {ps : Array Value} {clos : List (Str × Addr)} {Q : Flow → LM → HM → Prop}
    (T : Top p loose mean mg mb c.s₀.heap) (C : CodeHd c.s₀.heap cc P) (hg0 : c.env.globals = mainGlobals) (hcode : c.env.code = .ref cc) (hcl : closureFor scope c.env = pure clos) (hd0 : params.defaults = []) (hk0 : params.kw_defaults = []) (ha : annTrees params none c.env = [])
    (hP : H P = some (.raw (tabObj ps))) (ht : TriplesOk ps.toList) (hnf : codeAmong pos ps.toList = none)
    (h : ∀ f c' oc ctv doc, H f = none → H c' = none → f ≠ c' → (∃ vs t, oc.data = .fields vs ∧ vs[1]? = some (.str (qualnameIn c.env name name) t)) →
      StoreJ c name (.ref f) m (((H.set P (.raw (tabObj (ps ++ #[rawInt pos.line, rawInt pos.col, .ref c'])))).set c' (.raw oc)).set f (.raw (fnMade name (qualnameIn c.env name name) params body scope clos doc ((mg "__name__").getD .none) c' ctv))) (fun m2 H2 => Q .next m2 H2) X) :
    Ex c (.FunctionDef name params body [] none [] scope none name pos) m H Q X := fun G s S => by
  obtain ⟨nPL, nP0, xP, gP, eP⟩ := S.hp _ _ hP
  have eP : xP = tabObj ps := eP
  subst eP
  have hgs := T.g.keeps S.base
  obtain ⟨bm, ob, b1, b2, b3, b4, b5, b6⟩ := T.bmain
  have hgP : mainGlobals ≠ P := fun q => by
    obtain ⟨o, es, ep, e, hd, _⟩ := T.g
    rw [q, nP0] at e; cases e
  have hbP : bm ≠ P := fun q => by rw [q, nP0] at b3; cases b3
  have hbG : bm ≠ mainGlobals := fun q => by
    obtain ⟨o, es, ep, e, hd, _⟩ := T.g
    rw [q, e] at b3; cases b3; rw [hd] at b6; cases b6
  refine nestDef_K hd0 hk0 ha (makeFunction_K (mg := mg) hcl hg0 hgs hcode (C.keeps S.base) gP ht hnf hgP ⟨bm, ob, b1, b2, hbG, hbP, S.base _ _ b3, b4, b5, b6⟩ fun c' ctv doc h' tk hx hge hlt hrec htb => ?_)
  obtain ⟨c2, oc, vs, t, e2, hoc, hd, hv⟩ := hrec
  cases e2
  have GP : G P = none := by
    rcases S.dj P with q | q
    · rw [hP] at q; cases q
    · exact q
  have a1 := S.above (k := c') hge
  have hsz : s.heap.objs.size ≤ h'.objs.size := Nat.le_of_lt (Nat.lt_of_le_of_lt hge hlt)
  have a2 := S.above (k := h'.objs.size) hsz
  have S1 : St c m (H.del P) G { s with heap := h', toks := tk } := (S.weak (HM.del_le H P)).keepsBut (wr := [P]) (fun b hb => by
    obtain rfl := List.mem_singleton.mp hb
    exact ⟨HM.del_same _ _, GP, nPL, nP0⟩) fun b o hb ho => hx b o (fun q => hb (List.mem_singleton.mpr q)) ho
  have S2 := S1.addH (ao := .raw _) GP nPL nP0 htb rfl
  have S3 := S2.addH (ao := .raw oc) a1.2.1 a1.2.2.1 a1.2.2.2 hoc rfl
  have S4 := S3.keeps' (h' := h'.push (fnMade name (qualnameIn c.env name name) params body scope clos doc ((mg "__name__").getD .none) c' ctv)) fun b o e => Heap.get?_push_of_some _ e
  have S5 := S4.addH (ao := .raw _) a2.2.1 a2.2.2.1 a2.2.2.2 (Heap.get?_push_size _ rfl) rfl
  rw [HM.del_set'] at S5
  exact wpAny_mono (h h'.objs.size c' oc ctv doc a2.1 a1.1 (Nat.ne_of_gt hlt) ⟨vs, t, hd, hv⟩ (.ref h'.objs.size) rfl G _ S5) (fun _ s2 ⟨m2, H2, S2, q⟩ => ⟨m2, H2, S2, q⟩) fun _ _ e => e

theorem Ex.defHit {p : Program} {loose : List Str} {mean : ExcName → Option Value} {mg mb : Str → Option Value} {name : Str} {params : Arguments} {body : List Stmt} {scope : Scope} {pos : Pos} {P cc c' : Addr} {ps : Array Value} {clos : List (Str × Addr)} {Q : Flow → LM → HM → Prop}
    (T : Top p loose mean mg mb c.s₀.heap) (C : CodeHd c.s₀.heap cc P) (hg0 : c.env.globals = mainGlobals) (hcode : c.env.code = .ref cc) (hcl : closureFor scope c.env = pure clos) (hd0 : params.defaults = []) (hk0 : params.kw_defaults = []) (ha : annTrees params none c.env = [])
    (hP : H P = some (.raw (tabObj ps))) (ht : TriplesOk ps.toList) (hnf : codeAmong pos ps.toList = some (.ref c'))
    (h : ∀ f ctv doc, H f = none →
      StoreJ c name (.ref f) m (H.set f (.raw (fnMade name (qualnameIn c.env name name) params body scope clos doc ((mg "__name__").getD .none) c' ctv))) (fun m2 H2 => Q .next m2 H2) X) :
    Ex c (.FunctionDef name params body [] none [] scope none name pos) m H Q X := fun G s S => by
  obtain ⟨nPL, nP0, xP, gP, eP⟩ := S.hp _ _ hP
  have eP : xP = tabObj ps := eP
  subst eP
  have hgs := T.g.keeps S.base
  obtain ⟨bm, ob, b1, b2, b3, b4, b5, b6⟩ := T.bmain
  have hbP : bm ≠ P := fun q => by rw [q, nP0] at b3; cases b3
  have hbG : bm ≠ mainGlobals := fun q => by
    obtain ⟨o, es, ep, e, hd, _⟩ := T.g
    rw [q, e] at b3; cases b3; rw [hd] at b6; cases b6
  refine nestDef_K hd0 hk0 ha (makeFunction_hit (mg := mg) hcl hg0 hgs hcode (C.keeps S.base) gP ht hnf ⟨bm, ob, b1, b2, hbG, hbP, S.base _ _ b3, b4, b5, b6⟩ fun ctv doc h' tk hk hsz => ?_)
  have a2 := S.above (k := h'.objs.size) hsz
  have S4 : St c m H G { s with heap := h'.push (fnMade name (qualnameIn c.env name name) params body scope clos doc ((mg "__name__").getD .none) c' ctv), toks := tk } := S.keeps fun b o e => Heap.get?_push_of_some _ (hk b o e)
  have S5 := S4.addH (ao := .raw _) a2.2.1 a2.2.2.1 a2.2.2.2 (Heap.get?_push_size _ rfl) rfl
  exact wpAny_mono (h h'.objs.size ctv doc a2.1 (.ref h'.objs.size) rfl G _ S5) (fun _ s2 ⟨m2, H2, S2, q⟩ => ⟨m2, H2, S2, q⟩) fun _ _ e => e

/-! ## a call of a function made in a function -/
def FC.clo (c : FC) (fd : FuncData) (L f : Addr) : FC := { c with A := c.A.deeper (callEnv fd L f), env := callEnv fd L f }
theorem Ok.clo (O : Ok c K (n + 1)) {fd : FuncData} (hk : fd.scope.kind = .function) (hg : fd.globals = mainGlobals) (hb : fd.builtins = builtinsNs) (L f : Addr) : Ok (c.clo fd L f) K n where
  X := O.X
  g := O.g
  b := O.b
  nl := O.nl
  kind := hk
  eg := hg
  eb := hb
  hh := O.hh
  dp := by have := O.dp; show c.A.depth + 1 + n < 900; omega
  un := by have := O.un; show c.A.units + 3 + 4 * n < 9000; omega
theorem CallJ.clo {f c' : Addr} {oc : Obj} {fd : FuncData} {body : List Stmt} {Q : Value → HM → Prop} (O : Ok c K (n + 1)) (hf : H f = some (.raw { cls := .type "function", data := .func fd })) (hc : H c' = some (.raw oc)) (hcd : fd.code = .ref c') (hcr : ∃ vs t, oc.data = .fields vs ∧ vs[1]? = some (.str fd.qualname t))
    (hbody : fd.body = .stmts body) (hbind : bindArgs fd ⟨[], []⟩ = pure []) (hcell : ∀ x ∈ fd.scope.names, x.2 ≠ .cell) (hco : fd.scope.isCoroutine = false) (hgen : fd.scope.isGenerator = false) (hk : fd.scope.kind = .function) (hg : fd.globals = mainGlobals) (hb : fd.builtins = builtinsNs)
    (h : ∀ L, (∀ k, L ≤ k → H k = none) → Ok (c.clo fd L f) K n → Exs (c.clo fd L f) body [] H (EndJ Q) XF) : CallJ c (.ref f) [] [] m H Q X := fun Fv Vs Ks e0 e1 e2 G s S => by
  obtain rfl := er_ref e0
  obtain rfl := kw0 e2
  obtain rfl : Vs = [] := by cases Vs with
    | nil => rfl
    | cons _ _ => cases e1
  obtain ⟨_, _, xf, gf, ef⟩ := S.hp _ _ hf
  obtain ⟨_, _, xc, gc, ec⟩ := S.hp _ _ hc
  have ef : xf = { cls := .type "function", data := .func fd } := ef
  have ec : xc = oc := ec
  subst ef ec
  obtain ⟨vs, t, hd, hv⟩ := hcr
  obtain ⟨oL, hL⟩ := S.frame
  refine wpAny_call (codeAny_call_def (fd := fd) (binds := []) (by have := O.dp; show c.A.depth < 1000; omega) gf rfl (O.nl.keeps S.base) (by rw [hcd]; exact ⟨c', xc, vs, t, rfl, gc, hd, hv⟩) hbody ?_ hcell (fun _ h => by cases h) (fun h₀ hns hkp => ?_) hco hgen hk)
  · exact .of_eq hbind
  · have S1 : St (c.clo fd s.heap.objs.size f) [] H (G.set c.env.locals (.raw oL)) { s with heap := h₀, toks := s.toks + 0 } :=
      S.other (c' := c.clo fd s.heap.objs.size f) rfl hL hkp (Nat.le_refl _) hns (fun y u hy => by cases hy) fun a ao e => .inl e
    refine wpAny_mono (h _ (fun k hk => (S.above hk).1) (O.clo hk hg hb _ _) _ _ S1) (fun fl s'' ⟨m', H', S', H'', hle, hq⟩ => ?_) fun _ _ z => z.elim
    exact ⟨H'', (S.home (c' := c.clo fd s.heap.objs.size f) rfl hL S').weak hle, by cases fl <;> exact hq⟩

/-! ## names in cells -/
theorem Ev.freeX {x p} {Q : Value → HM → Prop} (a : Addr) (v : Value) (hk : c.env.scope.kind = .function) (hl : c.env.kindOf x = some .free) (hc : c.env.cells.lookup x = some a) (hd : (x == ("__debug__" : Str)) = false) (hn : (x == ("__classdict__" : Str)) = false) (hv : H a = some (.cell (some v))) (h : Q v H) : Ev c (.Name x p) m H Q X := Ev.free hk hl hc hv h hd hn
theorem Ev.cellX {x p} {Q : Value → HM → Prop} (a : Addr) (v : Value) (hk : c.env.scope.kind = .function) (hl : c.env.kindOf x = some .cell) (hc : c.env.cells.lookup x = some a) (hd : (x == ("__debug__" : Str)) = false) (hv : H a = some (.cell (some v))) (h : Q v H) : Ev c (.Name x p) m H Q X := Ev.cell hk hl hc hv h hd
theorem StoreJ.cellX {x : Str} {v : Value} {Q : LM → HM → Prop} (a : Addr) (v₀ : Option Value) (hk : c.env.scope.kind = .function) (hl : c.env.kindOf x = some .cell) (hc : c.env.cells.lookup x = some a) (hv : H a = some (.cell v₀)) (h : Q m (H.set a (.cell (some v)))) : StoreJ c x v m H Q X := StoreJ.cell hk hl hc hv h
end
end Mine
end

section
open PySem PySem.W PySem.Calls PyProof.Rows PySem.Builtin PySem.Builtin.Str
set_option linter.all false
set_option maxRecDepth 100000
namespace Mine
section
variable {c : FC} {K : Frag} {n : Nat} {m : LM} {H F : HM} {X : XM} {s : Shared}
/-! ## a or b, a and b as values -/
theorem Ev.or2 {e1 e2 : Expr} {p : Pos} {Q : Value → HM → Prop} (h : Ev c e1 m H (fun v H1 => Tru c v m H1 (fun b H2 => if b = true then Q v H2 else Ev c e2 m H2 Q X) X) X) : Ev c (.BoolOp .Or [e1, e2] p) m H Q X := fun G s S =>
  BoolOp_or (wpAny_mono (h G s S) (fun v s1 ⟨H1, S1, h1⟩ => wpAny_mono (h1 v rfl G s1 S1) (fun b s2 ⟨H2, S2, h2⟩ => by
    cases b with
    | true => exact ⟨H2, S2, by simpa using h2⟩
    | false => exact BoolOp_one ((show Ev c e2 m H2 Q X from by simpa using h2) G s2 S2)) fun _ _ e => e) fun _ _ e => e)
theorem Ev.and2 {e1 e2 : Expr} {p : Pos} {Q : Value → HM → Prop} (h : Ev c e1 m H (fun v H1 => Tru c v m H1 (fun b H2 => if b = true then Ev c e2 m H2 Q X else Q v H2) X) X) : Ev c (.BoolOp .And [e1, e2] p) m H Q X := fun G s S =>
  BoolOp_and (wpAny_mono (h G s S) (fun v s1 ⟨H1, S1, h1⟩ => wpAny_mono (h1 v rfl G s1 S1) (fun b s2 ⟨H2, S2, h2⟩ => by
    cases b with
    | false => exact ⟨H2, S2, by simpa using h2⟩
    | true => exact BoolOp_one ((show Ev c e2 m H2 Q X from by simpa using h2) G s2 S2)) fun _ _ e => e) fun _ _ e => e)
end
end Mine
end

section
open PySem PySem.W PySem.Calls PyProof.Rows PySem.Builtin PySem.Builtin.Str
set_option linter.all false
set_option maxRecDepth 100000
namespace Mine
theorem selAll {items : Array Value} (sel : Value × Nat → Bool) (h : ∀ x, x.2 < items.size → sel x = true) : (items.toList.zipIdx.filterMap fun x => if sel x = true then none else some x.1) = [] := by
  rw [List.filterMap_eq_nil_iff]
  intro x hx
  have := List.mem_zipIdx hx
  rw [if_pos (h x (by simpa using this.2.1))]
theorem past_nil {f : Array Value → Array Value} {o : Obj} {items : Array Value} {n : Nat} (h : o.data = .seq items n) (hf : f items = #[]) : (Obj.mapSeq f o).data.pastItsLine = none := by
  obtain ⟨c, d, dt, sl⟩ := o
  have h : dt = .seq items n := h
  subst h
  show (Data.seq (f items) _).pastItsLine = none
  rw [hf]; rfl
theorem meets_del_all (l sl : Addr) (items : Array Value) (n : Nat) (hz : items.size ≤ sizeLine) :
    Meets (Builtin.«list.__delitem__» ⟨[.ref l, .ref sl], []⟩) (fun _ R s => (s.heap.get? l = some { cls := .type "list", dict := none, data := .seq items n, slots := #[] } ∧ s.heap.get? sl = some { cls := .type "slice", data := .fields #[.none, .none, .none] }) ∧
      ∀ f : Array Value → Array Value, f items = #[] → R (.ok (.ret .none)) { s with heap := s.heap.update l (Obj.mapSeq f) }) :=
  .of_wp fun prog w A R s h => by
    obtain ⟨hp, g, d, tk, os⟩ := s; obtain ⟨⟨hl, hs⟩, h⟩ := h
    wp_walk using wpAny_loadPart' hl
    rw [slice_no_index]
    refine wpAny_pure ?_
    simp only [Option.isNone_none, if_true]
    wp_walk using wpAny_loadPart' hl
    rw [past_nil (items := items) (n := n) rfl ?_]
    · refine wpAny_pure ?_
      wp_walk using wpAny_loadPart' hl
      refine ⟨_, rfl, h _ (congrArg List.toArray (selAll _ fun x hx => ?_))⟩
      show (decide ((0 : Int) ≤ (x.2 : Int)) && decide ((x.2 : Int) < (items.size : Int)) && (((x.2 : Int) - 0) % 1 == 0)) = true
      simp; omega
    · refine congrArg List.toArray (selAll _ fun x hx => ?_)
      show (decide ((0 : Int) ≤ (x.2 : Int)) && decide ((x.2 : Int) < (items.size : Int)) && (((x.2 : Int) - 0) % 1 == 0)) = true
      simp; omega

section
variable {c : FC} {K : Frag} {n : Nat} {m : LM} {H F : HM} {X : XM} {s : Shared}
def DelAll (Q : Flow → LM → HM → Prop) (m : LM) (v : Value) (H : HM) : Prop := ∃ a vs, v = .ref a ∧ H a = some (.list vs) ∧ vs.length ≤ 16000000 ∧ Q .next m (H.set a (.list []))
/-- del l[:] -/
theorem Ex.delAll {o : Expr} {sp dp p : Pos} {Q : Flow → LM → HM → Prop} (h : Ev c o m H (DelAll Q m) X) : Ex c (.Delete [.Subscript o (.Slice none none none sp) dp] p) m H Q X := fun G s St' => by
  refine wpAny_Delete (wpAny_deleteEach_cons (wpAny_delete_Subscript (wpAny_mono (h G s St') (fun O s1 ⟨H1, S1, a, vs, e1, hv, hl, hq⟩ => ?_) fun _ _ e => e)))
  obtain rfl := er_ref e1
  obtain ⟨ws, k, ew, hg⟩ := S1.list hv
  rw [eval_Slice3]
  refine wpAny_bind (wpAny_pure (wpAny_bind (wpAny_holding (wpAny_pure (wpAny_bind (wpAny_holding (wpAny_pure ?_)))))))
  refine wpAny_newObj_type ?_ (by size_fits)
  have S4 := S1.keeps' (h' := s1.heap.push { cls := .type "slice", data := .fields #[.none, .none, .none] }) fun b o e => Heap.get?_push_of_some _ e
  have hg' := Heap.get?_push_of_some { cls := .type "slice", data := .fields #[.none, .none, .none] } hg
  have hz : ws.toArray.size ≤ sizeLine := by rw [List.size_toArray]; exact sizeLine_ge (by rw [← ew, List.length_map] at hl; exact hl)
  refine delItem_meets ⟨_, hg', rfl⟩ (by decide) PySem.F.slot_list_delitem PySem.F.entry_list_delitem (PySem.F.args_list_delitem_2 _ _) (meets_del_all a s1.heap.objs.size ws.toArray k hz) ⟨⟨hg', Heap.get?_push_size _ rfl⟩, fun f hf => ?_⟩
  refine wpAny_deleteEach_nil ⟨m, _, S4.turn (ws' := []) (t := s1.toks) hv hg' f (by rw [hf]), ?_⟩
  exact hq
theorem DelAll.mkX {a : Addr} {Q : Flow → LM → HM → Prop} (vs : List Value) (hv : H a = some (.list vs)) (hl : vs.length ≤ 16000000) (h : Q .next m (H.set a (.list []))) : DelAll Q m (.ref a) H := ⟨a, vs, rfl, hv, hl, h⟩
end
end Mine
end

section
open PySem PySem.W PySem.Calls PyProof.Rows PySem.Builtin PySem.Builtin.Str
set_option linter.all false
set_option maxRecDepth 100000
namespace Mine
section
variable {c : FC} {K : Frag} {n : Nat} {m : LM} {H F : HM} {X : XM} {s : Shared}
/-- a walk over what stays out of the heap meanwhile -/
def ForJN (c : FC) (tgt : Expr) (body : List Stmt) (m : LM) (H1 : HM) (v : Value) (Q : Flow → LM → HM → Prop) : Prop :=
  ∃ xs tup Hd back, Src H1 tgt v xs tup Hd back ∧ ∃ Inv : Nat → LM → HM → Prop, Keep (Inv 0) m Hd ∧
      (∀ k x m' H', xs[k]? = some x → (∀ b, H1 b ≠ none → Hd b = none → H' b = none) → Inv k m' H' → Yld tup k x H' (fun v' H2 => Tgt c tgt v' m' H2 (fun m3 H3 => Exs c body m3 H3 (ForK (Keep (Inv (k + 1))) (fun m4 H4 => Q .next m4 (back H4)) (fun v m4 H4 => Q (.ret v) m4 (back H4))) XF) XF)) ∧
      (∀ m' H', (∀ b, H1 b ≠ none → Hd b = none → H' b = none) → Inv xs.length m' H' → Q .next m' (back H'))
theorem Ex.forGN {tgt iter body p} {Q : Flow → LM → HM → Prop} (hh : c.A.handled = none) (h : Ev c iter m H (fun v H1 => ForJN c tgt body m H1 v Q) X)
    (hs : ∀ x, foldedSetIterable iter c.env x = pure x) : Ex c (.For tgt iter body [] p) m H Q X := by
  refine Ex.forN hh (h.mono (fun v H1 ⟨xs, tup, Hd, back, src, Inv, h0, step, fin⟩ => ⟨xs, tup, Hd, back, src, Inv, h0, fun k x m' H' hx gn iv => ?_, fin⟩) fun _ _ _ x => x) hs
  have st := step k x m' H' hx gn iv
  have up : ∀ v' H2, Tgt c tgt v' m' H2 (fun m3 H3 => Exs c body m3 H3 (ForK (Keep (Inv (k + 1))) (fun m4 H4 => Q .next m4 (back H4)) (fun v m4 H4 => Q (.ret v) m4 (back H4))) XF) XF →
      Tgt c tgt v' m' H2 (fun m3 H3 => Exs c body m3 H3 (fun f m4 H4 => match f with
        | .next | .cont => Keep (Inv (k + 1)) m4 H4
        | .brk => Q .next m4 (back H4)
        | .ret v => Q (.ret v) m4 (back H4)) XF) XF := by
    intro v' H2 h V e
    refine (h V e).mono (fun m3 H3 h3 => h3.mono (fun f m4 H4 h4 => ?_) fun _ _ _ x => x) fun _ _ _ x => x
    cases f <;> exact h4
  cases tup with
  | false => exact up _ _ st
  | true => exact fun a ha => up _ _ (st a ha)
/-- a walk over a list, by names -/
theorem ForJN.list {tgt : Expr} {body : List Stmt} {a : Addr} {vs : List Value} {Q : Flow → LM → HM → Prop} (hv : H a = some (.list vs)) (hl : vs.length ≤ 16000000) (Inv : Nat → LM → HM → Prop) (h0 : Keep (Inv 0) m (H.del a))
    (step : ∀ k x m' H', vs[k]? = some x → H' a = none → Inv k m' H' → Tgt c tgt x m' H' (fun m3 H3 => Exs c body m3 H3 (ForK (Keep (Inv (k + 1))) (fun m4 H4 => Q .next m4 (H4.set a (.list vs))) (fun v m4 H4 => Q (.ret v) m4 (H4.set a (.list vs)))) XF) XF)
    (fin : ∀ m' H', H' a = none → Inv vs.length m' H' → Q .next m' (H'.set a (.list vs))) : ForJN c tgt body m H (.ref a) Q :=
  ⟨vs, false, _, _, .list hv hl, Inv, h0, fun k x m' H' hx gn iv => step k x m' H' hx (gn a (by rw [hv]; simp) (HM.del_same _ _)) iv, fun m' H' gn iv => fin m' H' (gn a (by rw [hv]; simp) (HM.del_same _ _)) iv⟩
end
end Mine
end

section
open PySem PySem.W PySem.Calls PyProof.Rows PySem.Builtin PySem.Builtin.Str
set_option linter.all false
set_option maxRecDepth 100000
namespace Mine
section
variable {c : FC} {K : Frag} {n : Nat} {m : LM} {H F : HM} {X : XM} {s : Shared}
def Swap2 (c : FC) (x y : Str) (m : LM) (Q : LM → HM → Prop) (X : XM) (w : Value) (H1 : HM) : Prop :=
  ∃ a u v, w = .ref a ∧ H1 a = some (.tup [u, v]) ∧ StoreJ c y v m H1 (fun m1 H2 => StoreJ c x u m1 H2 Q X) X
theorem Swap2.mkX {x y : Str} {a : Addr} {Q : LM → HM → Prop} (u v : Value) (hv : H a = some (.tup [u, v])) (h : StoreJ c y v m H (fun m1 H2 => StoreJ c x u m1 H2 Q X) X) : Swap2 c x y m Q X (.ref a) H := ⟨a, u, v, rfl, hv, h⟩
theorem Ex.swap2 {elts k tpos e p} {Q : Flow → LM → HM → Prop} (x y : Str) (hh : c.A.handled = none) (h : Ev c e m H (Swap2 c x y m (fun m2 H2 => Q .next m2 H2) X) X)
    (hs : swapsWithSole [.Tuple elts k tpos] e p.line c.env = pure false) (hw : swappedStores [.Tuple elts k tpos] e c.env = pure (some [x, y])) : Ex c (.Assign [.Tuple elts k tpos] e p) m H Q X :=
  Ex.swap (names := [x, y]) hh (h.mono (fun w H1 ⟨a, u, v, e1, e2, h2⟩ => ⟨a, [u, v], e1, e2, rfl, InOrd.cons (BindJ (StoreJ.mono h2 fun m1 H2 h3 => InOrd.cons (BindJ (StoreJ.mono h3 fun m2 H3 q => InOrd.nil q))))⟩) fun _ _ _ x => x) hs hw
def Swap3 (c : FC) (x y z : Str) (m : LM) (Q : LM → HM → Prop) (X : XM) (w : Value) (H1 : HM) : Prop :=
  ∃ a u v t, w = .ref a ∧ H1 a = some (.tup [u, v, t]) ∧ StoreJ c z t m H1 (fun m1 H2 => StoreJ c y v m1 H2 (fun m2 H3 => StoreJ c x u m2 H3 Q X) X) X
theorem Swap3.mkX {x y z : Str} {a : Addr} {Q : LM → HM → Prop} (u v t : Value) (hv : H a = some (.tup [u, v, t])) (h : StoreJ c z t m H (fun m1 H2 => StoreJ c y v m1 H2 (fun m2 H3 => StoreJ c x u m2 H3 Q X) X) X) : Swap3 c x y z m Q X (.ref a) H := ⟨a, u, v, t, rfl, hv, h⟩
theorem Ex.swap3 {elts k tpos e p} {Q : Flow → LM → HM → Prop} (x y z : Str) (hh : c.A.handled = none) (h : Ev c e m H (Swap3 c x y z m (fun m2 H2 => Q .next m2 H2) X) X)
    (hs : swapsWithSole [.Tuple elts k tpos] e p.line c.env = pure false) (hw : swappedStores [.Tuple elts k tpos] e c.env = pure (some [x, y, z])) : Ex c (.Assign [.Tuple elts k tpos] e p) m H Q X :=
  Ex.swap (names := [x, y, z]) hh (h.mono (fun w H1 ⟨a, u, v, t, e1, e2, h2⟩ => ⟨a, [u, v, t], e1, e2, rfl, InOrd.cons (BindJ (StoreJ.mono h2 fun m1 H2 h3 => InOrd.cons (BindJ (StoreJ.mono h3 fun m2 H3 h4 => InOrd.cons (BindJ (StoreJ.mono h4 fun m3 H4 q => InOrd.nil q))))))⟩) fun _ _ _ x => x) hs hw
end
end Mine
end

section
open PySem PySem.W PySem.Calls PyProof.Rows
set_option linter.all false
set_option maxRecDepth 100000
namespace Mine
section
variable {c : FC} {K : Frag} {n : Nat} {m : LM} {H : HM} {X : XM}
/-! ## names, by their kind (found once) -/
def NameJ (c : FC) (k : NameKind) (x : Str) (p : Pos) (m : LM) (H : HM) (Q : Value → HM → Prop) (X : XM) : Prop := c.env.kindOf x = some k → Ev c (.Name x p) m H Q X
theorem Ev.nameK {x p} {Q : Value → HM → Prop} (k : NameKind) (hl : c.env.kindOf x = some k) (h : NameJ c k x p m H Q X) : Ev c (.Name x p) m H Q X := h hl
theorem NameJ.loc {x p} {Q : Value → HM → Prop} (v : Value) (hv : m.lookup x = some v) (hk : c.env.scope.kind = .function) (hd : (x == ("__debug__" : Str)) = false) (h : Q v H) : NameJ c .local x p m H Q X := fun hl => Ev.loc hk hl hv h hd
theorem NameJ.free {x p} {Q : Value → HM → Prop} (a : Addr) (v : Value) (hk : c.env.scope.kind = .function) (hc : c.env.cells.lookup x = some a) (hd : (x == ("__debug__" : Str)) = false) (hn : (x == ("__classdict__" : Str)) = false) (hv : H a = some (.cell (some v))) (h : Q v H) : NameJ c .free x p m H Q X := fun hl => Ev.free hk hl hc hv h hd hn
theorem NameJ.cell {x p} {Q : Value → HM → Prop} (a : Addr) (v : Value) (hk : c.env.scope.kind = .function) (hc : c.env.cells.lookup x = some a) (hd : (x == ("__debug__" : Str)) = false) (hv : H a = some (.cell (some v))) (h : Q v H) : NameJ c .cell x p m H Q X := fun hl => Ev.cell hk hl hc hv h hd
theorem NameJ.glob {x p} {Q : Value → HM → Prop} (K : Frag) (n : Nat) (a : Addr) (O : Ok c K n) (e : nsIn K mainGlobals x = some (some (.ref a))) (hd : (x == ("__debug__" : Str)) = false) (h : Q (.ref a) H) : NameJ c .globalImplicit x p m H Q X := fun hl => Ev.glob O hl e h hd
theorem NameJ.bltB {x p} {Q : Value → HM → Prop} (K : Frag) (n : Nat) (id : String) (hv : bootBuiltins x = some (.builtin id)) (O : Ok c K n) (e : nsIn K mainGlobals x = some none) (hn : x ≠ "__name__") (hd : (x == ("__debug__" : Str)) = false) (h : Q (.builtin id) H) : NameJ c .globalImplicit x p m H Q X := fun hl => Ev.blt O hl e hv hn h hd
theorem NameJ.bltT {x p} {Q : Value → HM → Prop} (K : Frag) (n : Nat) (id : String) (hv : bootBuiltins x = some (.type id)) (O : Ok c K n) (e : nsIn K mainGlobals x = some none) (hn : x ≠ "__name__") (hd : (x == ("__debug__" : Str)) = false) (h : Q (.type id) H) : NameJ c .globalImplicit x p m H Q X := fun hl => Ev.blt O hl e hv hn h hd
end
end Mine
end

section
open PySem PySem.W PySem.Calls PyProof.Rows PySem.Builtin PySem.Builtin.Str
set_option linter.all false
set_option maxRecDepth 100000
namespace Mine
/-! ## an exception that leaves frame after frame -/
structure BelowS (c : FC) (base U : Heap) (outer : List Env) : Prop where
  fr : c.A.frames = some (c.env :: outer)
  ef : c.env.frame = some c.env.locals
  ek : c.env.scope.kind ≠ .module
  bs : base.StaysIn c.s₀.heap
  us : U.StaysIn c.s₀.heap
  ff : c.s₀.heap.FunFrames base outer
def Fl (base U : Heap) (l : List Env) (s₀ : Shared) (e : Value) (s' : Shared) : Prop :=
  (∃ h t, s' = { s₀ with heap := h, toks := t }) ∧ U.UpToSlots s'.heap ∧
  ((∃ a a0, e = .ref a ∧ Heap.FlyingW base l a (.type "ValueError") a0 s'.heap) ∨ (∃ a vs h, e = .ref a ∧ Heap.MadeExcOf h s'.heap a (.type "ValueError") vs ∧ base.StaysIn h ∧ h.FunFrames base l))
def XFl (c : FC) (base U : Heap) (outer : List Env) : XM := fun _ e s' => Fl base U (c.env :: outer) c.s₀ e s'
def FlF (base U : Heap) (l : List Env) (s₀ : Shared) (e : Value) (s' : Shared) : Prop :=
  (∃ h t, s' = { s₀ with heap := h, toks := t }) ∧ U.UpToSlots s'.heap ∧ ∃ a a0, e = .ref a ∧ Heap.FlyingW base l a (.type "ValueError") a0 s'.heap
def XFlF (c : FC) (base U : Heap) (outer : List Env) : XM := fun _ e s' => FlF base U (c.env :: outer) c.s₀ e s'
theorem FlF.fl {base U : Heap} {l : List Env} {s₀ : Shared} {e : Value} {s' : Shared} (h : FlF base U l s₀ e s') : Fl base U l s₀ e s' := ⟨h.1, h.2.1, .inl h.2.2⟩
theorem Fl.leave {M : Model} {A : Around} {base U : Heap} {env : Env} {l : List Env} {s₀ : Shared} {e : Value} {s' : Shared} {L : Addr} {E : Value → Shared → Prop} (h : Fl base U (env :: l) s₀ e s') (hfr : A.frames = some (env :: l)) (hf : env.frame = some L) {Q : Unit → Shared → Prop} (hQ : ∀ s'', FlF base U l s₀ e s'' → Q () s'') : wpAny M A (leaving env e) Q E s' := by
  obtain ⟨⟨h0, t0, rfl⟩, hU, hh⟩ := h
  rcases hh with ⟨a, a0, rfl, hfl⟩ | ⟨a, vs, h1, rfl, hx, k1, k2⟩
  · exact wpAny_leaves_onW hfr hf hfl fun h' f' up => hQ _ ⟨⟨_, _, rfl⟩, hU.trans up, ⟨a, a0, rfl, f'⟩⟩
  · exact wpAny_leaves_madeW hfr hf k1 k2 hx fun h' t f' _ _ up => hQ _ ⟨⟨_, _, rfl⟩, hU.trans up, ⟨a, _, rfl, f'⟩⟩
section
variable {c : FC} {K : Frag} {n : Nat} {m : LM} {H F : HM} {X : XM} {s : Shared}
noncomputable def hs (H : HM) (h : Heap) : List Addr := (List.range h.objs.size).filter fun a => (H a).isSome
theorem mem_hs {h : Heap} {a : Addr} (h1 : ∃ o, h.get? a = some o) : a ∈ hs H h ↔ H a ≠ none := by
  unfold hs
  rw [List.mem_filter, List.mem_range]
  obtain ⟨o, ho⟩ := h1
  have := Heap.lt_size ho
  constructor
  · rintro ⟨_, q⟩ e; rw [e] at q; cases q
  · intro q
    refine ⟨this, ?_⟩
    cases e : H a with
    | none => exact absurd e q
    | some _ => rfl
theorem CallJ.fnX {base U : Heap} {outer : List Env} {f : Addr} {fd : FuncData} {body : List Stmt} {as : List Value} {ks bs : List (Str × Value)} {Q : Value → HM → Prop} (O : Ok c K (n + 1)) (B : BelowS c base U outer) (W : Fn K f fd body) (hb : FnBinds K fd as ks bs)
    (hk : ∀ x ∈ bs, fd.scope.names.lookup x.1 = some .local ∨ fd.scope.names.lookup x.1 = some .cell)
    (h : ∀ (c1 : FC) L, (∀ k, L ≤ k → H k = none) → Ok (c1.call fd L f) K n → BelowS (c1.call fd L f) base U (c.env :: outer) → Exs (c1.call fd L f) body (bindLM (c1.call fd L f).env.kindOf bs []) (cellsH H (cellsFrom (L + 1) fd.scope.names []) (bindCM (c1.call fd L f).env.kindOf bs fun _ => none))
      (fun _ _ _ => False) (XFl (c1.call fd L f) base U (c.env :: outer))) : CallJ c (.ref f) as ks m H Q (XFlF c base U outer) := fun Fv Vs Ks e0 e1 e2 G s St' => by
  obtain rfl := er_ref e0
  obtain ⟨binds, hbt, rfl⟩ := hb Vs Ks e1 e2
  obtain ⟨oc, od, osl, hlook⟩ := W.look
  obtain ⟨mr0, n0, _⟩ := St'.ns
  obtain ⟨oL, esL, epL, hL, hLd, _⟩ := id n0
  have XK := O.inK St'
  have st0 : c.s₀.heap.StaysIn (hideAll s.heap (hs H s.heap)) := fun b o e => hideAll_get _ (St'.base b o e) fun hm => by
    have h1 := (mem_hs ⟨o, St'.base b o e⟩).mp hm
    cases q : H b with
    | none => exact h1 q
    | some ao => have := (St'.hp b ao q).2.1; rw [e] at this; cases this
  let c1 : FC := { c with s₀ := { s with heap := hideAll s.heap (hs H s.heap) } }
  have O1 : Ok c1 K (n + 1) := ⟨O.X.keeps st0, O.g.imp fun mg q => q.keeps st0, O.b.imp fun mb q => ⟨q.1.keeps st0, q.2⟩, O.nl.keeps st0, O.kind, O.eg, O.eb, O.hh, O.dp, O.un⟩
  refine wpAny_call (codeAny_call_function (fd := fd) (by have := O.dp; show c.A.depth < 1000; omega) (XK _ _ hlook) rfl W.co W.gen W.body (codeRec_of XK W.cd) (hbt s XK _ _ _ _ ?_))
  rw [W.clo]
  refine wpAny_newFunctionEnv_cells W.kind (fun x hx => ?_) fun env he s' x => ?_
  · have := hk (x.1, er x.2) (List.mem_map.mpr ⟨x, hx, rfl⟩)
    exact this.imp id fun q => ⟨q, cells_have _ _ _ _ (.inl q)⟩
  · obtain ⟨h', t', es'⟩ := x.toInCall.same
    have kp := x.toInCall.keep
    have eenv : env = (c1.call fd s.heap.objs.size f).env := he
    subst eenv
    refine ⟨by rw [es'] at kp ⊢; exact (O.nl.keeps St'.base).keeps kp, codeAny_func ?_⟩
    have S1 : St (c1.call fd s.heap.objs.size f) (bindLM (c1.call fd s.heap.objs.size f).env.kindOf (binds.map fun p => (p.1, er p.2)) [])
        (cellsH H (cellsFrom (s.heap.objs.size + 1) fd.scope.names []) (bindCM (c1.call fd s.heap.objs.size f).env.kindOf (binds.map fun p => (p.1, er p.2)) fun _ => none)) (fun _ => none) s' := by
      refine ⟨⟨h', t', es'⟩, fun b o e => kp b o (of_hideAll _ e), ⟨_, x.toInCall.ns, bind_rel _ _ _ _ fun y u hy => by cases hy⟩, Nat.le_of_eq (hideAll_size _ _), fun _ => .inr rfl, fun a ao e => ?_, fun a ao e => by cases e⟩
      rcases cellsH_some e with ⟨p, hp, rfl, rfl⟩ | ⟨_, e⟩
      · have hlk := lookup_of_nd (cells_nd fd.scope.names (s.heap.objs.size + 1) [] W.nd (fun _ _ _ hq => nomatch hq) List.Pairwise.nil) hp
        obtain ⟨o, ho, hd⟩ := x.cell p.1 p.2 hlk
        have hab := x.above p.1 p.2 hp
        refine ⟨Nat.ne_of_gt hab, ?_, o, ho, _, hd, (bind_cells _ _ _ _ (fun _ => rfl) p.1).symm⟩
        cases q : (hideAll s.heap (hs H s.heap)).get? p.2 with
        | none => exact q
        | some o' => exact absurd (Heap.lt_size (of_hideAll _ q)) (Nat.not_lt.mpr (Nat.le_of_lt hab))
      · obtain ⟨q1, q2, o, q3, q4⟩ := St'.hp a ao e
        refine ⟨Nat.ne_of_lt (Heap.lt_size q3), hideAll_none _ ((mem_hs ⟨o, q3⟩).mpr (by rw [e]; simp)), o, kp _ _ q3, q4⟩
    have hLh : (hideAll s.heap (hs H s.heap)).get? c.env.locals = some oL := hideAll_get _ hL fun hm => (mem_hs ⟨oL, hL⟩).mp hm St'.hl
    have hbL : base.get? c.env.locals = none := by
      cases q : base.get? c.env.locals with
      | none => rfl
      | some o => have := B.bs _ _ q; rw [St'.l0] at this; cases this
    have B1 : BelowS (c1.call fd s.heap.objs.size f) base U (c.env :: outer) := by
      refine ⟨?_, rfl, ?_, fun b o e => st0 b o (B.bs b o e), fun b o e => st0 b o (B.us b o e), ⟨B.ek, ⟨c.env.locals, oL, B.ef, hbL, hLh, fun vs q => by rw [hLd] at q; cases q⟩, ?_⟩⟩
      · show (c.A.deeper _).frames = _
        unfold Around.deeper
        show c.A.frames.map _ = _
        rw [B.fr]; rfl
      · show fd.scope.kind ≠ .module
        rw [W.kind]; decide
      · exact B.ff.of_keeps fun b o e _ => ⟨o, st0 b o e, rfl⟩
    refine wpAny_mono (h c1 _ (fun k hk => (St'.above hk).1) (O1.call W _) B1 _ _ S1) (fun fl s'' ⟨m', H', S', hq⟩ => hq.elim) fun e s'' hfl => ?_
    refine Fl.leave hfl B1.fr rfl fun s3 h3 => ?_
    obtain ⟨hs1, ts1, es1⟩ := St'.same
    obtain ⟨⟨ha, ta, ea⟩, hb⟩ := h3
    exact ⟨⟨ha, ta, by rw [ea]; subst es1; rfl⟩, hb⟩
end
end Mine
end

section
open PySem PySem.W PySem.Calls PyProof.Rows PySem.Builtin PySem.Builtin.Str
set_option linter.all false
set_option maxRecDepth 100000
namespace Mine
section
variable {c : FC} {K : Frag} {n : Nat} {m : LM} {H F : HM} {X : XM} {s : Shared}
def Repr1 (Q : Value → HM → Prop) (v : Value) (H1 : HM) : Prop := ∃ i : Int, v = VI i ∧ (i = 0 ∨ i = -1 ∨ i = -2) ∧ ∀ x : Str, Q (VS x) H1
theorem Ev.fstrR {e : Expr} {a b : Str} {k1 k2 : Nat} {p1 p2 p3 p : Pos} {Q : Value → HM → Prop} (la lb : List Nat) (ha : a = S la) (hb : b = S lb) (hla : la.length ≤ 1000) (hlb : lb.length ≤ 1000) (h : Ev c e m H (Repr1 Q) X) :
    Ev c (.JoinedStr [.Constant (.str a) k1 p1, .FormattedValue e 114 none p2, .Constant (.str b) k2 p3] p) m H Q X := fun G s SS => by
  refine JoinedStr_many (joinParts_cons ?_)
  refine wpAny_mono (Ev.textX (X := X) (Q := fun v H' => v = VT la ∧ H' = H) la ha ⟨rfl, rfl⟩ G s SS) (fun V s1 ⟨H1, S1, ev, eh⟩ => ?_) fun _ _ x => x
  subst eh
  obtain ⟨t, rfl⟩ := er_str ev
  have z1 : (Str.empty ++ S la).length ≤ sizeLine := by rw [show Str.empty = S [] from rfl, S_append]; exact S_fits (by simp; omega)
  refine ⟨z1, joinParts_cons (wpAny_FormattedValue_repr (wpAny_mono (h G s1 S1) (fun V s2 ⟨H2, S2, i, ei, hi, hq⟩ => ?_) fun _ _ x => x))⟩
  obtain ⟨u, rfl⟩ := er_int ei
  have hlog : i.natAbs.log2 < 1920 := by rcases hi with rfl | rfl | rfl <;> decide
  have hz : (toString i : Str).length ≤ 10 := by rcases hi with rfl | rfl | rfl <;> decide +kernel
  have z0 : (toString i : Str).length ≤ sizeLine := Nat.le_trans hz (by decide)
  refine wpAny_pyReprObj_gives (typeIs_int _ _ _) PySem.F.slot_int_repr PySem.F.entry_int_repr (PySem.F.args_int_repr_1 _) (gives_int_repr i u hlog) ?_ (hx := int_text_fits hlog)
  refine formatField_str (fun t' tk => ?_) z0
  have hlen : (Str.empty ++ S la ++ (toString i : Str)).length ≤ 1010 := by
    rw [show Str.empty = S [] from rfl, S_append, strLen_append, S_length, List.nil_append]; omega
  refine ⟨Nat.le_trans hlen (by decide), joinParts_cons ?_⟩
  refine wpAny_mono (Ev.textX (X := X) (Q := fun v H' => v = VT lb ∧ H' = H2) lb hb ⟨rfl, rfl⟩ G _ ((S2.toks _).toks tk)) (fun V s3 ⟨H3, S3, ev3, eh3⟩ => ?_) fun _ _ x => x
  subst eh3
  obtain ⟨t3, rfl⟩ := er_str ev3
  have hlen2 : (Str.empty ++ S la ++ (toString i : Str) ++ S lb).length ≤ sizeLine := by
    rw [strLen_append, S_length]; exact Nat.le_trans (Nat.add_le_add hlen hlb) (by decide)
  exact ⟨hlen2, joinParts_nil ⟨H3, S3.toks _, hq _⟩ hlen2⟩
/-- raise ValueError(..) -/
theorem Ex.raiseVE {x : Str} {np cpos pos : Pos} {e₀ : Expr} {Q : Flow → LM → HM → Prop} (hh : c.A.handled = none) (h : Ev c (.Name x np) m H (fun f H1 => f = .type "ValueError" ∧ Vals c [e₀] m H1 (fun vs H2 => vs.length ≤ 10 ∧
      ∀ F s0 h' a Vs, St c m H2 F s0 → Heap.MadeExc s0.heap h' a "ValueError" Vs → X F (.ref a) { s0 with heap := h' }) X) X)
    (he : starEach (e₀ :: []) c.env = (false, eval e₀ c.env) :: starEach [] c.env) (hplain : (backTo cpos (starEach [] c.env)).any (·.1) = false) : Ex c (.Raise (some (.Call (.Name x np) [e₀] [] cpos)) none pos) m H Q X := fun G s SS => by
  refine Raise_madeB PySem.F.excCall_ValueError PySem.F.excRaise_ValueError hh (wpAny_mono (h G s SS) (fun V s1 ⟨H1, S1, ev, hv⟩ => ?_) fun _ _ x => x) he hplain
  obtain rfl := er_type ev
  exact ⟨rfl, wpAny_mono (hv cpos G s1 S1) (fun Vs s2 ⟨H2, S2, hl, hx⟩ => ⟨by rw [List.length_map] at hl; exact Nat.le_trans hl (by decide), fun h' a hm => hx G s2 h' a Vs S2 hm⟩) fun _ _ x => x⟩
theorem XFl.made {base U : Heap} {outer : List Env} (B : BelowS c base U outer) {F : HM} {s0 : Shared} {h' : Heap} {a : Addr} {Vs : List Value} (S : St c m H F s0) (hm : Heap.MadeExc s0.heap h' a "ValueError" Vs) : XFl c base U outer F (.ref a) { s0 with heap := h' } := by
  obtain ⟨mr0, ⟨oL, esL, epL, hL, hLd, _⟩, _⟩ := S.ns
  obtain ⟨h0, t0, rfl⟩ := S.same
  refine ⟨⟨h', t0, rfl⟩, Heap.UpToSlots.of_keeps fun b o e => hm.keeps b o (S.base b o (B.us b o e)), .inr ⟨a, Vs, h0, rfl, hm.of, fun b o e => S.base b o (B.bs b o e), ?_⟩⟩
  refine ⟨B.ek, ⟨c.env.locals, oL, B.ef, ?_, hL, fun vs q => by rw [hLd] at q; cases q⟩, B.ff.of_keeps fun b o e _ => ⟨o, S.base b o e, rfl⟩⟩
  cases q : base.get? c.env.locals with
  | none => rfl
  | some o => have := B.bs _ _ q; rw [S.l0] at this; cases this
end
end Mine
end

section
open PySem PySem.W PySem.Calls PyProof.Rows
set_option linter.all false
set_option maxRecDepth 100000
set_option maxHeartbeats 4000000
namespace Mine
local macro_rules | `(tactic| walk_at "go") => `(tactic| first
  | ((with_reducible show Ev _ _ _ _ _ _); (first
      | ((with_reducible refine Ev.nameK ?_ ?_ ?_); rotate_left; rfl)
      | (with_reducible refine Ev.or2 ?_)
      | (with_reducible refine Ev.and2 ?_)
      | (with_reducible refine Ev.int ?_)
      | (with_reducible refine Ev.bool ?_)
      | (with_reducible refine Ev.non ?_)
      | (with_reducible refine Ev.textX _ t_no ?_)
      | (with_reducible refine Ev.textX _ t_blanks ?_)
      | (with_reducible refine Ev.textX _ t_sp ?_)
      | (with_reducible refine Ev.textX _ t_nl ?_)
      | (with_reducible refine Ev.textX _ t_nl2 ?_)
      | (with_reducible refine Ev.textX _ t_bs ?_)
      | (with_reducible refine Ev.textX _ t_sp2 ?_)
      | (with_reducible refine Ev.textX _ t_sp4 ?_)
      | (with_reducible refine Ev.textX _ t_star ?_)
      | (with_reducible refine Ev.textX _ t_usage ?_)
      | (with_reducible refine Ev.textX _ t_abc ?_)
      | (with_reducible refine Ev.textX _ t_pon ?_)
      | (with_reducible refine Ev.textX _ t_csi ?_)
      | (with_reducible refine Ev.textX _ t_m ?_)
      | (with_reducible refine Ev.textX _ t_b1 ?_)
      | (with_reducible refine Ev.textX _ t_b0 ?_)
      | (with_reducible refine Ev.textX _ t_314 ?_)
      | (with_reducible refine Ev.textX _ t_31 ?_)
      | (with_reducible refine Ev.textX _ t_14 ?_)
      | (with_reducible refine Ev.textX _ t_ah ?_)
      | (with_reducible refine Ev.textX _ t_spnl ?_)
      | (with_reducible refine Ev.textX _ t_dots ?_)
      | (with_reducible refine Ev.bin ?_)
      | ((with_reducible refine Ev.cmp ?_ ?_); rotate_left; rfl)
      | (with_reducible refine Ev.un ?_)
      | (with_reducible refine Ev.ifx ?_)
      | (with_reducible refine Ev.sliceG ?_)
      | ((with_reducible refine Ev.itemG ?_ ?_); rotate_left; intro _ _; rfl)
      | (with_reducible refine Ev.listG ?_)
      | (with_reducible refine Ev.tupleG ?_)
      | ((with_reducible refine Ev.methKX0 ?_ ?_ ?_); rotate_left; rfl)
      | ((with_reducible refine Ev.methKX ?_ ?_ ?_ ?_ ?_); rotate_left; rfl; rfl; rfl)
      | ((with_reducible refine Ev.callK0 ?_ ?_); rotate_left; rfl)
      | ((with_reducible refine Ev.callK ?_ ?_ ?_ ?_); rotate_left; rfl; rfl; rfl)
      | ((with_reducible refine Ev.callKW ?_ ?_ ?_ ?_ ?_ ?_ ?_); rotate_left; rotate_left; rfl; rfl; rfl; rfl; rfl)
      | (with_reducible refine Ev.fstr2 ?_)
      | ((with_reducible refine Ev.attr ?_ ?_); rotate_left; rfl)
    ))
  | ((with_reducible show NameJ _ _ _ _ _ _ _ _); (first
      | ((with_reducible refine NameJ.loc ?_ ?_ ?_ ?_ ?_); rotate_left; rfl; rfl; rfl)
      | ((with_reducible refine NameJ.cell ?_ ?_ ?_ ?_ ?_ ?_ ?_); rotate_left; rotate_left; rfl; rfl; rfl; walk_at "heap")
      | ((with_reducible refine NameJ.free ?_ ?_ ?_ ?_ ?_ ?_ ?_ ?_); rotate_left; rotate_left; rfl; rfl; rfl; rfl; walk_at "heap")
      | ((with_reducible refine NameJ.glob ?_ ?_ ?_ ?_ ?_ ?_ ?_); rotate_left; rotate_left; rotate_left; assumption; rfl; rfl)
      | ((with_reducible refine NameJ.bltB ?_ ?_ ?_ ?_ ?_ ?_ ?_ ?_ ?_); rotate_left; rotate_left; rotate_left; rfl; assumption; rfl; decide; rfl)
      | ((with_reducible refine NameJ.bltT ?_ ?_ ?_ ?_ ?_ ?_ ?_ ?_ ?_); rotate_left; rotate_left; rotate_left; rfl; assumption; rfl; decide; rfl)
    ))
  | ((with_reducible show ThenJ _ _ _ _ _ _ _); (first
      | (with_reducible refine ThenJ.next ?_)
      | (with_reducible refine ThenJ.ret ?_)
      | (with_reducible refine ThenJ.brk ?_)
      | (with_reducible refine ThenJ.cont ?_)
    ))
  | ((with_reducible show Exs _ _ _ _ _ _); (first
      | (with_reducible refine Exs.go ?_)
      | (with_reducible refine Exs.nil ?_)
    ))
  | ((with_reducible show StoreJ _ _ _ _ _ _ _); (first
      | ((with_reducible refine StoreJ.loc ?_ ?_ ?_); rfl; rfl)
      | ((with_reducible refine StoreJ.cellX ?_ ?_ ?_ ?_ ?_ ?_ ?_); rotate_left; rotate_left; rfl; rfl; rfl; walk_at "heap")
    ))
  | ((with_reducible show Vals _ _ _ _ _ _); (first
      | (with_reducible refine Vals.nil ?_)
      | ((with_reducible refine Vals.cons ?_ ?_); rotate_left; rfl)
    ))
  | ((with_reducible show Op2 _ _ _ _ _ _ _ _); (first
      | (with_reducible refine O_add ?_)
      | (with_reducible refine O_sub ?_)
      | (with_reducible refine O_iadd ?_)
      | (with_reducible refine O_isub ?_)
      | (with_reducible refine O_lt ?_)
      | (with_reducible refine O_le ?_)
      | (with_reducible refine O_gt ?_)
      | (with_reducible refine O_ge ?_)
      | (with_reducible refine O_eqI ?_)
      | (with_reducible refine O_neI ?_)
      | (with_reducible refine O_eqT ?_)
      | (with_reducible refine O_neT ?_)
      | (with_reducible refine O_eqB ?_)
      | (with_reducible refine O_eqBN ?_)
      | (with_reducible refine O_in1 ?_)
      | (with_reducible refine O_notin1 ?_)
      | ((with_reducible refine O_addT ?_ ?_); walk_at "side")
      | ((with_reducible refine O_iaddT ?_ ?_); walk_at "side")
      | ((with_reducible refine O_eqLX ?_ ?_ ?_ ?_ ?_ ?_ ?_ ?_ ?_); rotate_left; rotate_left; rotate_left; rotate_left; walk_at "heap"; walk_at "heap"; assumption; walk_at "flat")
      | ((with_reducible refine O_neLX ?_ ?_ ?_ ?_ ?_ ?_ ?_ ?_ ?_); rotate_left; rotate_left; rotate_left; rotate_left; walk_at "heap"; walk_at "heap"; assumption; walk_at "flat")
      | ((with_reducible refine O_addLX ?_ ?_ ?_ ?_ ?_ ?_); rotate_left; rotate_left; walk_at "heap"; walk_at "heap"; walk_at "side")
      | (with_reducible refine O_isNN ?_)
      | (with_reducible refine O_isIN ?_)
      | (with_reducible refine O_isnotNN ?_)
      | (with_reducible refine O_isnotRN ?_)
    ))
  | ((with_reducible show Ex _ _ _ _ _ _); (first
      | (with_reducible refine Ex.ite ?_)
      | (with_reducible refine Ex.ret ?_)
      | (with_reducible refine Ex.retN ?_)
      | (with_reducible refine Ex.brk ?_)
      | (with_reducible refine Ex.cont ?_)
      | (with_reducible refine Ex.pass ?_)
      | ((with_reducible refine Ex.asgN ?_ ?_); rotate_left; rfl)
      | ((with_reducible refine Ex.asg ?_ ?_ ?_ ?_); rotate_left; rfl; rfl; rfl)
      | ((with_reducible refine Ex.swap2 ?_ ?_ ?_ ?_ ?_ ?_); rotate_left; rotate_left; rotate_left; rotate_left; rfl; rfl; (first | assumption | exact Ok.hh (by assumption)))
      | ((with_reducible refine Ex.swap3 ?_ ?_ ?_ ?_ ?_ ?_ ?_); rotate_left; rotate_left; rotate_left; rotate_left; rotate_left; rfl; rfl; (first | assumption | exact Ok.hh (by assumption)))
      | (with_reducible refine Ex.augN ?_)
      | ((with_reducible refine Ex.augI ?_ ?_); rotate_left; intro _ _ _; rfl)
      | (with_reducible refine Ex.delAll ?_)
      | (with_reducible refine Ex.delI ?_)
      | ((with_reducible refine Ex.expr ?_ ?_ ?_); rotate_left; rfl; rfl)
      | (with_reducible refine Ex.augA ?_)
    ))
  | ((with_reducible show CallK _ _ _ _ _ _ _); (first
      | (with_reducible refine CallK.app ?_)
      | (with_reducible refine CallK.b ?_)
      | (with_reducible refine CallK.t ?_)
      | ((with_reducible refine CallK.kX ?_ ?_ ?_ ?_ ?_); rotate_left; rotate_left; assumption; rfl)
    ))
  | ((with_reducible show CallJ _ _ _ _ _ _ _ _); (first
      | ((with_reducible refine C_appendX ?_ ?_ ?_ ?_); rotate_left; walk_at "heap"; walk_at "side")
      | ((with_reducible refine C_pop0X ?_ ?_ ?_ ?_ ?_); rotate_left; rotate_left; walk_at "heap"; walk_at "side")
      | ((with_reducible refine C_popX ?_ ?_ ?_ ?_ ?_); rotate_left; rotate_left; walk_at "heap"; walk_at "side")
      | ((with_reducible refine C_lenLX ?_ ?_ ?_ ?_); rotate_left; walk_at "heap"; walk_at "side")
      | ((with_reducible refine C_lenT ?_ ?_); walk_at "side")
      | ((with_reducible refine C_stripP ?_ ?_); walk_at "side")
      | ((with_reducible refine C_lstripP ?_ ?_); walk_at "side")
      | ((with_reducible refine C_lstripCP ?_ ?_); walk_at "side")
      | ((with_reducible refine C_rstripCP ?_ ?_); walk_at "side")
      | (with_reducible refine C_startswithP ?_)
      | (with_reducible refine C_abs ?_)
      | ((with_reducible refine C_reverseX ?_ ?_ ?_ ?_); rotate_left; walk_at "heap"; walk_at "side")
      | ((with_reducible refine C_joinX ?_ ?_ ?_ ?_); rotate_left; walk_at "heap"; walk_at "side")
      | ((with_reducible refine C_endX ?_ ?_ ?_); rotate_left; assumption)
    ))
  | ((with_reducible show MethJ _ _ _ _ _ _ _); (first
      | ((with_reducible refine MethJ.listX ?_ ?_ PySem.F.slot_list_append PySem.F.type_list_append ?_); rotate_left; walk_at "heap")
      | ((with_reducible refine MethJ.listX ?_ ?_ PySem.F.slot_list_reverse PySem.F.type_list_reverse ?_); rotate_left; walk_at "heap")
      | ((with_reducible refine MethJ.listX ?_ ?_ PySem.F.slot_list_pop PySem.F.type_list_pop ?_); rotate_left; walk_at "heap")
      | (with_reducible refine MethJ.strX PySem.F.slot_str_strip PySem.F.type_str_strip ?_)
      | (with_reducible refine MethJ.strX PySem.F.slot_str_lstrip PySem.F.type_str_lstrip ?_)
      | (with_reducible refine MethJ.strX PySem.F.slot_str_rstrip PySem.F.type_str_rstrip ?_)
      | (with_reducible refine MethJ.strX PySem.F.slot_str_startswith PySem.F.type_str_startswith ?_)
      | (with_reducible refine MethJ.strX PySem.F.slot_str_count PySem.F.type_str_count ?_)
      | (with_reducible refine MethJ.strX PySem.F.slot_str_join PySem.F.type_str_join ?_)
      | (with_reducible refine MethJ.strX PySem.F.slot_str_split PySem.F.type_str_split ?_)
      | (with_reducible refine MethJ.strX PySem.F.slot_str_splitlines PySem.F.type_str_splitlines ?_)
      | (with_reducible refine MethJ.strX PySem.F.slot_str_expandtabs PySem.F.type_str_expandtabs ?_)
      | (with_reducible refine MethJ.strX PySem.F.slot_str_index PySem.F.type_str_index ?_)
      | ((with_reducible refine MethJ.patX ?_ ?_ slot_Pattern_sub type_Pattern_sub ?_); rotate_left; assumption)
      | ((with_reducible refine MethJ.patX ?_ ?_ slot_Pattern_match type_Pattern_match ?_); rotate_left; assumption)
      | ((with_reducible refine MethJ.instX ?_ ?_ ?_ ?_ ?_ ?_ ?_ ?_ ?_ ?_ ?_ ?_ ?_ ?_); rotate_left; rotate_left; rotate_left; rotate_left; rotate_left; rotate_left; walk_at "heap"; walk_at "heap"; assumption; rfl; rfl; rfl; rfl)
      | ((with_reducible refine MethJ.matchedX ?_ ?_ ?_); rotate_left; assumption)
    ))
  | ((with_reducible show Tst _ _ _ _ _ _); (first
      | (with_reducible refine Tst.bop ?_)
      | (with_reducible refine Tst.nt ?_)
      | ((with_reducible refine Tst.cmp ?_ ?_); rotate_left; rfl)
      | ((with_reducible refine Tst.plain ?_ ?_); rotate_left; rfl)
    ))
  | ((with_reducible show TstAll _ _ _ _ _ _ _); (first
      | (with_reducible refine TstAll.and ?_)
      | (with_reducible refine TstAll.or ?_)
      | (with_reducible refine TstAll.andNil ?_)
      | (with_reducible refine TstAll.orNil ?_)
    ))
  | ((with_reducible show Tru _ _ _ _ _ _); (first
      | (with_reducible refine T_bool ?_)
      | (with_reducible refine T_int ?_)
      | (with_reducible refine T_none ?_)
      | ((with_reducible refine T_listX ?_ ?_ ?_ ?_); rotate_left; walk_at "heap"; walk_at "side")
      | ((with_reducible refine T_str ?_ ?_); walk_at "side")
    ))
  | ((with_reducible show Tgt _ _ _ _ _ _ _); (first
      | (with_reducible refine Tgt.name ?_)
      | (with_reducible refine Tgt.subI ?_)
      | ((with_reducible refine Tgt.two ?_ ?_ ?_ ?_ ?_); rotate_left; rotate_left; (first | assumption | exact Ok.hh (by assumption)); walk_at "heap")
      | ((with_reducible refine Tgt.three ?_ ?_ ?_ ?_ ?_ ?_); rotate_left; rotate_left; rotate_left; (first | assumption | exact Ok.hh (by assumption)); walk_at "heap")
      | (with_reducible refine Tgt.attr ?_)
    ))
  | ((with_reducible show ForK _ _ _ _ _ _); (first
      | (with_reducible refine ForK.next ?_)
      | (with_reducible refine ForK.cont ?_)
      | (with_reducible refine ForK.brk ?_)
      | (with_reducible refine ForK.ret ?_)
    ))
  | ((with_reducible show ItemG _ _ _ _ _ _ _); (first
      | ((with_reducible refine ItemG.lastX ?_ ?_ ?_ ?_); rotate_left; rotate_left; walk_at "heap")
      | ((with_reducible refine ItemG.strX ?_ ?_ ?_ ?_); rotate_left; rfl; decide)
      | ((with_reducible refine ItemG.listX ?_ ?_ ?_ ?_ ?_ ?_); rotate_left; rotate_left; walk_at "heap"; rfl; decide)
    ))
  | (with_reducible refine iteT ?_)
  | (with_reducible refine iteF ?_)
  | ((with_reducible show KVals _ _ _ _ _ _); (first
      | (with_reducible refine KVals.nil ?_)
      | (with_reducible refine KVals.cons ?_)
    ))
  | ((with_reducible show EvP _ _ _ _ _ _); (first
      | (with_reducible refine EvP.non ?_)
      | (with_reducible refine EvP.some ?_)
    ))
  | ((with_reducible show Op1 _ _ _ _ _ _ _); (first
      | (with_reducible refine O_not ?_)
      | (with_reducible refine O_neg ?_)
    ))
  | ((with_reducible show StoreI _ _ _ _ _ _ _); (first
      | ((with_reducible refine StoreI.lastX ?_ ?_ ?_ ?_); rotate_left; rotate_left; walk_at "heap")
      | ((with_reducible refine StoreI.atX ?_ ?_ ?_ ?_ ?_ ?_); rotate_left; walk_at "heap"; walk_at "side"; walk_at "side"; walk_at "side")
    ))
  | ((with_reducible show DelI _ _ _ _ _ _); (first
      | ((with_reducible refine DelI.lastX ?_ ?_ ?_ ?_ ?_); rotate_left; rotate_left; walk_at "heap"; walk_at "side")
      | ((with_reducible refine DelI.atX ?_ ?_ ?_ ?_ ?_ ?_); rotate_left; walk_at "heap"; walk_at "side"; walk_at "side"; walk_at "side")
    ))
  | ((with_reducible show Yld _ _ _ _ _); (first
      | (with_reducible refine Yld.f ?_)
      | (with_reducible refine Yld.t ?_)
    ))
  | ((with_reducible refine Swap2.mkX ?_ ?_ ?_ ?_); rotate_left; rotate_left; walk_at "heap")
  | ((with_reducible refine Swap3.mkX ?_ ?_ ?_ ?_ ?_); rotate_left; rotate_left; rotate_left; walk_at "heap")
  | ((with_reducible refine DelAll.mkX ?_ ?_ ?_ ?_); rotate_left; walk_at "heap"; walk_at "side")
  | ((with_reducible refine LoadJ.locX ?_ ?_ ?_ ?_ ?_); rotate_left; rfl; rfl; rfl)
  | ((with_reducible refine CallKW.kX ?_ ?_ ?_ ?_ ?_); rotate_left; rotate_left; assumption; rfl)
  | ((with_reducible refine I_listX ?_ ?_ ?_ ?_ ?_ ?_); rotate_left; rotate_left; walk_at "heap"; rfl; decide)
  | ((with_reducible refine NewL.mk ?_ ?_); walk_at "side")
  | ((with_reducible refine NewT.mk ?_ ?_); walk_at "side")
  | ((with_reducible refine AttrJ.ownX ?_ ?_ ?_ ?_ ?_ ?_ ?_ ?_ ?_ ?_ ?_ ?_ ?_ ?_ ?_ ?_ ?_); rotate_left; rotate_left; rotate_left; rotate_left; rotate_left; rotate_left; rotate_left; walk_at "heap"; walk_at "heap"; rfl; assumption; rfl; rfl; rfl; rfl; rfl)
  | ((with_reducible refine StoreA.ownX ?_ ?_ ?_ ?_ ?_ ?_ ?_ ?_ ?_ ?_ ?_ ?_ ?_ ?_); rotate_left; rotate_left; rotate_left; rotate_left; rotate_left; walk_at "heap"; walk_at "heap"; assumption; rfl; rfl; rfl; rfl; (first | exact of_decide_eq_true rfl | walk_at "side"))
  | ((with_reducible intro r hr); (try simp only [HM.set_none] at hr); (try obtain ⟨h1, hr⟩ := hr); (try obtain ⟨h2, hr⟩ := hr); (try obtain ⟨h3, hr⟩ := hr); (try obtain ⟨h4, hr⟩ := hr); (try obtain ⟨h5, hr⟩ := hr); (try obtain ⟨h6, hr⟩ := hr); (try obtain ⟨h7, hr⟩ := hr); (try obtain ⟨h8, hr⟩ := hr); (try obtain ⟨h9, hr⟩ := hr); (try obtain ⟨h10, hr⟩ := hr); (try obtain ⟨h11, hr⟩ := hr); (try obtain ⟨h12, hr⟩ := hr); (try obtain ⟨h13, hr⟩ := hr); (try obtain ⟨h14, hr⟩ := hr); (try obtain ⟨h15, hr⟩ := hr)))
local macro_rules | `(tactic| walk_at "side") => `(tactic| first | assumption | decide | omega | (simp only [setAt_length, List.length_append, List.length_cons, List.length_nil, List.length_map]; omega) | (simp only [setAt_length, List.length_append, List.length_cons, List.length_nil, List.length_map] at *; omega))
local macro_rules | `(tactic| walk_at "heap") => `(tactic| first
  | assumption
  | exact HM.set_same _ _ _
  | (refine (HM.set_ne _ _ ?_).trans ?_; walk_at "ne"; walk_at "heap"))
local macro_rules | `(tactic| walk_at "ne") => `(tactic| first
  | assumption
  | (apply Ne.symm; assumption)
  | (refine HM.ne_ofX ?_ ?_ ?_ ?_; rotate_left; rotate_left; assumption; assumption)
  | (apply Ne.symm; refine HM.ne_ofX ?_ ?_ ?_ ?_; rotate_left; rotate_left; assumption; assumption)
  | (refine HM.ne_ofY ?_ ?_ ?_ ?_; rotate_left; rotate_left; assumption; assumption)
  | (apply Ne.symm; refine HM.ne_ofY ?_ ?_ ?_ ?_; rotate_left; rotate_left; assumption; assumption)
  | omega)
local macro_rules | `(tactic| walk_at "run") => `(tactic| repeat walk_at "go")
local macro_rules | `(tactic| walk_at "flat") => `(tactic| first | exact flat_nil _ | exact flat_texts _ _ | exact flat_ints _ _)
local macro_rules | `(tactic| walk_at "inst") => `(tactic| first | assumption | (refine ⟨?_, ?_⟩; walk_at "heap"; walk_at "heap"))
local macro_rules | `(tactic| walk_at "le") => `(tactic| first | exact LM.le_nil _ | (refine LM.le_cons rfl ?_; walk_at "le"))

local macro_rules | `(tactic| walk_at "upd") => `(tactic| first | assumption | exact Upd.refl _ _ | ((with_reducible refine Upd.new ?_ ?_); (first | assumption | (simp only [HM.set_none]; refine ⟨?_, ?_⟩ <;> assumption)); walk_at "upd") | ((with_reducible refine Upd.at ?_ ?_); (first | exact List.mem_cons_self | exact List.mem_cons_of_mem _ List.mem_cons_self | exact List.mem_cons_of_mem _ (List.mem_cons_of_mem _ List.mem_cons_self)); walk_at "upd") | ((with_reducible refine Upd.old ?_ ?_); (first | assumption | (refine Upd.none (by assumption) ?_ (by assumption); simp)); walk_at "upd"))

noncomputable abbrev KK (P : Params) : Frag := Mine.hd.heap_39 P
section
variable {c : FC} {P : Params} {n : Nat} {m : LM} {H : HM} {X : XM}
theorem pat_K (O : Ok c (KK P) n) : PatAt 36 35 c.s₀.heap := by
  refine ⟨⟨_, O.X 36 _ rfl, rfl, rfl, _, rfl, rfl, rfl, rfl⟩, ⟨_, _, _, O.X 35 _ rfl, rfl, by simp [Builtin.Re.reRawOf, reCode]⟩⟩
theorem K_strip_ansi {ts : List Tk} {Q : Value → HM → Prop} (O : Ok c (KK P) (n + 1)) (hok : okT ts) (hl : (flatT ts).length ≤ 1000000) (h : Q (VT (signs ts)) H) : CallJ c (.ref 121) [VT (flatT ts)] [] m H Q X := by
  refine CallJ.run O ⟨⟨_, _, _, rfl⟩, rfl, rfl, rfl, rfl, rfl, rfl, rfl, rfl, by decide⟩ (.a1 fun _ => rfl) rfl ?_
  intro L hL Ok'
  have hp := pat_K Ok'
  show Exs _ _ [("value", VT (flatT ts))] H _ _
  walk_at "run"
  refine C_sub hp hok hl ?_
  walk_at "run"
  exact EndJ.retE h

theorem K_ansi_match {l : List Nat} {i : Nat} {Q : Value → HM → Prop} (O : Ok c (KK P) (n + 1)) (hi : i < l.length) (hl : l.length ≤ 1000000)
    (h : (l.getD i 0 ≠ 27 ∧ Q .none H) ∨ ∃ e, EscAt l.toArray i e ∧ ∀ a H', H.le H' → H a = none → MatchAt H' a e → Q (.ref a) H') : CallJ c (.ref 128) [VT l, VI i] [] m H Q X := by
  refine CallJ.run O ⟨⟨_, _, _, rfl⟩, rfl, rfl, rfl, rfl, rfl, rfl, rfl, rfl, by decide⟩ (.a2 fun _ _ => rfl) rfl ?_
  intro L hL Ok'
  have hp := pat_K Ok'
  show Exs _ _ [("i", VI i), ("text", VT l)] H _ _
  walk_at "run"
  refine C_match hp hi hl (h.imp (fun h => ⟨h.1, ?_⟩) fun ⟨e, h1, h2⟩ => ⟨e, h1, fun a H' q1 q2 q3 => ?_⟩)
  · walk_at "run"
    exact EndJ.retE h.2
  · walk_at "run"
    exact EndJ.retE (h2 a H' q1 q2 q3)
theorem K_term_len {ts : List Tk} {Q : Value → HM → Prop} (O : Ok c (KK P) (n + 2)) (hok : okT ts) (hl : (flatT ts).length ≤ 1000000) (hv : vis ts ≤ 1000000) (h : Q (VI (vis ts)) H) : CallJ c (.ref 135) [VT (flatT ts)] [] m H Q X := by
  refine CallJ.run O ⟨⟨_, _, _, rfl⟩, rfl, rfl, rfl, rfl, rfl, rfl, rfl, rfl, by decide⟩ (.a1 fun _ => rfl) rfl ?_
  intro L hL Ok'
  show Exs _ _ [("x", VT (flatT ts))] H _ _
  walk_at "run"
  with_reducible refine K_strip_ansi Ok' hok hl ?_
  unfold vis at hv h
  walk_at "run"
  exact EndJ.retE h
theorem K_truncate {ts : List Tk} {k : Int} {Q : Value → HM → Prop} (O : Ok c (KK P) (n + 2)) (hok : okT ts) (hl : (flatT ts).length ≤ 1000000) (h : Q (VT (flatT (truncV k ts))) H) : CallJ c (.ref 142) [VT (flatT ts), VI k] [] m H Q X := by
  refine CallJ.run O ⟨⟨_, _, _, rfl⟩, rfl, rfl, rfl, rfl, rfl, rfl, rfl, rfl, by decide⟩ (.a2 fun _ _ => rfl) rfl ?_
  intro L hL Ok'
  show Exs _ _ [("n", VI k), ("text", VT (flatT ts))] H _ _
  walk_at "run"
  refine iteD (fun hk => ?_) (fun hk => ?_)
  · walk_at "run"
    unfold truncV at h
    rw [if_pos hk] at h
    exact EndJ.retE h
  · unfold truncV at h
    rw [if_neg hk] at h
    walk_at "run"
    refine Ex.whileG (fun j m' H' => ∃ cp pend rest v, j = rest.length ∧ ts = cp ++ pend ++ rest ∧ truncGo k v cp pend rest = truncGo k 0 [] [] ts ∧ H' = H ∧
      m' = ([("end", VI (flatT ts).length), ("cut", VI (flatT cp).length), ("i", VI (flatT (cp ++ pend)).length), ("visible", VI v), ("n", VI k), ("text", VT (flatT ts))] : LM)) ts.length
      (Keep.here ⟨[], [], ts, 0, rfl, rfl, rfl, rfl, rfl⟩) fun j m' H' hinv => ?_
    obtain ⟨cp, pend, rest, v, rfl, hts, hgo, rfl, rfl⟩ := hinv
    have hlen : (flatT ts).length = (flatT (cp ++ pend)).length + (flatT rest).length := by rw [hts, flatT_append, List.length_append]
    have hcp : (flatT cp).length ≤ (flatT (cp ++ pend)).length := by rw [flatT_append, List.length_append]; omega
    walk_at "run"
    refine iteD (fun hi => ?_) (fun hi => ?_)
    · cases rest with
      | nil => rw [show (flatT []).length = 0 from rfl] at hlen; omega
      | cons t r =>
        have hii : (flatT (cp ++ pend)).length < (flatT ts).length := by omega
        have hat : (flatT ts).getD (flatT (cp ++ pend)).length 0 = (t.flat ++ flatT r).getD 0 0 := by
          rw [hts, flatT_append, flatT_cons]
          exact getD_right (flatT (cp ++ pend)) (t.flat ++ flatT r) 0
        cases t with
        | ch x =>
          have hx : x ≠ 27 := (hok (.ch x) (by rw [hts]; simp)).1
          walk_at "run"
          refine K_ansi_match (by assumption) hii hl (.inl ⟨by rw [hat]; exact hx, ?_⟩)
          walk_at "run"
          refine iteD (fun hv => ?_) (fun hv => ?_)
          · walk_at "run"
            refine SliceG.str .non (Bnd.ofInt (by omega)) (by omega) ?_
            walk_at "run"
            have ex : truncGo k v cp pend (.ch x :: r) = cp ++ pend ++ [.ch x] := by unfold truncGo; rw [if_pos hv]
            rw [← hgo, ex] at h
            have e2 : cut (flatT ts) none (some (((flatT (cp ++ pend)).length : Int) + 1).toNat) = flatT (cp ++ pend ++ [.ch x]) := by
              rw [hts, show cp ++ pend ++ Tk.ch x :: r = (cp ++ pend ++ [.ch x]) ++ r from by simp]
              exact cut_flat (by rw [flatT_append, List.length_append]; simp [flatT, Tk.flat]; omega)
            rw [e2]
            exact EndJ.retE h
          · walk_at "run"
            have ex : truncGo k v cp pend (.ch x :: r) = truncGo k (v + 1) (cp ++ pend ++ [.ch x]) [] r := by
              conv => lhs; unfold truncGo
              rw [if_neg hv]
            have e3 : ((flatT (cp ++ pend ++ [.ch x])).length : Int) = (flatT (cp ++ pend)).length + 1 := by
              rw [flatT_append (cp ++ pend), List.length_append]; simp [flatT, Tk.flat]
            refine ⟨r.length, by simp, _, H', ?_, HM.le.refl _, cp ++ pend ++ [.ch x], [], r, v + 1, rfl, by rw [hts]; simp, by rw [← ex, hgo], rfl, rfl⟩
            rw [List.append_nil, e3]
            walk_at "le"
        | es p =>
          have hp : (Tk.es p).ok := hok (.es p) (by rw [hts]; simp)
          have hesc := esc_at (pre := flatT (cp ++ pend)) (post := flatT r) hp
          walk_at "run"
          refine K_ansi_match (by assumption) hii hl (.inr ⟨(flatT (cp ++ pend)).length + (p.length + 3), by rw [hts, flatT_append, flatT_cons]; exact hesc, fun a H' q1 q2 q3 => ?_⟩)
          walk_at "run"
          have ex : truncGo k v cp pend (.es p :: r) = truncGo k v cp (pend ++ [.es p]) r := by
            conv => lhs; unfold truncGo
          have e3 : ((flatT (cp ++ (pend ++ [.es p]))).length : Int) = ((flatT (cp ++ pend)).length + (p.length + 3) : Nat) := by
            rw [← List.append_assoc, flatT_append (cp ++ pend), List.length_append]; simp [flatT, Tk.flat]; omega
          refine ⟨r.length, by simp, _, _, ?_, q1, cp, pend ++ [.es p], r, v, rfl, by rw [hts]; simp, by rw [← ex, hgo], rfl, rfl⟩
          rw [e3]
          walk_at "le"
    · have : rest = [] := flatT_eq_nil (by omega)
      subst this
      walk_at "run"
      refine SliceG.str .non (Bnd.ofInt (by omega)) (by omega) ?_
      walk_at "run"
      have ex : truncGo k v cp pend [] = cp := by unfold truncGo; rfl
      rw [← hgo, ex] at h
      have e2 : cut (flatT ts) none (some ((flatT cp).length : Int).toNat) = flatT cp := by
        rw [hts, List.append_nil]
        exact cut_flat (by omega)
      rw [e2]
      exact EndJ.retE h
end

section
variable {c : FC} {P : Params} {n : Nat} {m : LM} {H : HM} {X : XM}

/-! ## _split -/
def isB (x : Nat) : Bool := decide (x ∈ [9, 10, 11, 12, 13, 32])
def chunkStep (acc : List (List Nat)) (x : Nat) : List (List Nat) := match acc.getLast? with
  | some (z :: zs) => if isB z == isB x then acc.dropLast ++ [(z :: zs) ++ [x]] else acc ++ [[x]]
  | _ => acc ++ [[x]]
def chunkL (l : List Nat) : List (List Nat) := l.foldl chunkStep []
theorem chunkL_snoc (l : List Nat) (x : Nat) : chunkL (l ++ [x]) = chunkStep (chunkL l) x := by unfold chunkL; rw [List.foldl_append]; rfl
theorem chunkStep_ne {acc : List (List Nat)} (h : ∀ z ∈ acc, z ≠ []) (x : Nat) : ∀ z ∈ chunkStep acc x, z ≠ [] := by
  intro z hz
  unfold chunkStep at hz
  split at hz
  · split at hz
    · rcases List.mem_append.mp hz with hz | hz
      · exact h z (List.dropLast_subset _ hz)
      · rw [List.mem_singleton.mp hz]; simp
    · rcases List.mem_append.mp hz with hz | hz
      · exact h z hz
      · rw [List.mem_singleton.mp hz]; simp
  · rcases List.mem_append.mp hz with hz | hz
    · exact h z hz
    · rw [List.mem_singleton.mp hz]; simp
theorem chunkL_ne (l : List Nat) : ∀ z ∈ chunkL l, z ≠ [] := by
  induction l using snocInd with
  | h0 => intro z hz; cases hz
  | h1 l x ih => rw [chunkL_snoc]; exact chunkStep_ne ih x
theorem chunkL_sum (l : List Nat) : (chunkL l).flatten = l := by
  induction l using snocInd with
  | h0 => rfl
  | h1 l x ih =>
    rw [chunkL_snoc]
    unfold chunkStep
    split
    · rename_i z zs e
      have e2 : chunkL l = (chunkL l).dropLast ++ [z :: zs] := getLast_split e
      split
      · rw [e2] at ih
        simp only [List.flatten_append, List.flatten_cons, List.flatten_nil, List.append_nil] at ih ⊢
        rw [← List.append_assoc, ih]
      · simp [ih]
    · simp [ih]
theorem chunkL_len (l : List Nat) : (chunkL l).length ≤ l.length := by
  induction l using snocInd with
  | h0 => simp [chunkL]
  | h1 l x ih =>
    rw [chunkL_snoc, List.length_append]
    unfold chunkStep
    split
    · rename_i z zs e
      split
      · simp; have : (chunkL l).length ≠ 0 := by intro q; rw [List.length_eq_zero_iff.mp q] at e; cases e
        omega
      · simp; omega
    · simp; omega
theorem K_split {x : Addr} {l : List Nat} {Q : Value → HM → Prop} (O : Ok c (KK P) (n + 1)) (hl : l.length ≤ 1000000) (h : ∀ r, H r = none → Q (.ref r) (H.set r (.list ((chunkL l).map VT)))) : CallJ c (.ref 58) [.ref x, VT l] [] m H Q X := by
  refine CallJ.run O ⟨⟨_, _, _, rfl⟩, rfl, rfl, rfl, rfl, rfl, rfl, rfl, rfl, by decide⟩ (.a2 fun _ _ => rfl) rfl ?_
  intro L hL Ok'
  show Exs _ _ [("text", VT l), ("self", .ref x)] H _ _
  walk_at "run"
  rename_i r hr
  refine Ex.forG Ok'.hh ?_ (fun _ => rfl)
  walk_at "run"
  refine ⟨_, _, _, _, Src.str l (by omega), fun k m' H' => H' = H.set r (.list ((chunkL (l.take k)).map VT)) ∧ m' = ([("chunks", .ref r), ("text", VT l), ("self", .ref x)] : LM), Keep.here ⟨rfl, rfl⟩, ?_, ?_⟩
  · rintro k v m' H' hx ⟨rfl, rfl⟩
    rw [List.getElem?_map, Option.map_eq_some_iff] at hx
    obtain ⟨y, hy, rfl⟩ := hx
    have htk : l.take (k + 1) = l.take k ++ [y] := by rw [List.take_add_one, hy]; rfl
    have hkl : k < l.length := (List.getElem?_eq_some_iff.mp hy).1
    have hcl : (chunkL (l.take k)).length ≤ 1000000 := by have := chunkL_len (l.take k); simp at this; omega
    have hne := chunkL_ne (l.take k)
    have hsum := chunkL_sum (l.take k)
    generalize hC : chunkL (l.take k) = C at *
    rcases List.eq_nil_or_concat C with rfl | ⟨C', z, rfl⟩
    · walk_at "run"
      refine iteFe rfl ?_
      walk_at "run"
      refine ⟨_, _, ?_, HM.le.refl _, ?_, rfl⟩
      · walk_at "le"
      · rw [htk, chunkL_snoc, hC, HM.set_set]; rfl
    · cases z with
      | nil => exact absurd rfl (hne [] (by simp))
      | cons z zs =>
        have hcl' : (C'.map VT).length + 1 ≤ 1000000 := by rw [List.concat_eq_append, List.length_append] at hcl; simpa using hcl
        have hzl : (z :: zs).length ≤ 1000000 := by
          have := congrArg List.length hsum
          rw [List.concat_eq_append, List.flatten_append, List.length_append, List.length_take] at this
          simp at this ⊢; omega
        rw [List.concat_eq_append, List.map_append, List.map_cons, List.map_nil]
        have hcl2 : (List.map VT C' ++ [VT (z :: zs)]).length ≤ 16000000 := by rw [List.length_append]; simp at hcl' ⊢; omega
        walk_at "run"
        refine iteTe (by simp) ?_
        walk_at "run"
        have hst : chunkL (l.take (k + 1)) = if isB z == isB y then C' ++ [(z :: zs) ++ [y]] else (C' ++ [z :: zs]) ++ [[y]] := by
          rw [htk, chunkL_snoc, hC]
          unfold chunkStep
          rw [List.concat_eq_append, List.getLast?_append]
          simp
        refine iteB (fun hb => ?_) (fun hb => ?_)
        · walk_at "run"
          refine ⟨_, _, ?_, HM.le.refl _, ?_, rfl⟩
          · walk_at "le"
          · rw [hst, if_pos (show (isB z == isB y) = true from hb), HM.set_set, List.map_append]; rfl
        · walk_at "run"
          refine ⟨_, _, ?_, HM.le.refl _, ?_, rfl⟩
          · walk_at "le"
          · rw [hst, if_neg (by rw [show (isB z == isB y) = false from hb]; exact Bool.false_ne_true), HM.set_set, List.map_append, List.map_append]; rfl
  · rintro m' H' ⟨rfl, rfl⟩
    walk_at "run"
    rw [List.length_map, List.take_length]
    exact EndJ.retE (h r hr)
end

section
variable {c : FC} {P : Params} {n : Nat} {m : LM} {H : HM} {X : XM}

def tw (w : Int) (a b : List Nat) : List (Str × Value) := [("width", VI w), ("initial_indent", VT a), ("subsequent_indent", VT b), ("replace_whitespace", VB false), ("drop_whitespace", VB true), ("break_long_words", VB true), ("max_lines", .none), ("placeholder", VT [32, 91, 46, 46, 46, 93])]
theorem kcons {Ks : List (Str × Value)} {x : Str} {v : Value} {r : List (Str × Value)} (h : Ks.map (fun p => (p.1, er p.2)) = (x, v) :: r) : ∃ V Kr, Ks = (x, V) :: Kr ∧ er V = v ∧ Kr.map (fun p => (p.1, er p.2)) = r := by
  cases Ks with
  | nil => cases h
  | cons p Kr =>
    rw [List.map_cons, List.cons.injEq, Prod.mk.injEq] at h
    obtain ⟨⟨rfl, h2⟩, h3⟩ := h
    exact ⟨p.2, Kr, rfl, h2, h3⟩
theorem K_init {x d : Addr} {w : Int} {a b : List Nat} {Q : Value → HM → Prop} (O : Ok c (KK P) (n + 1)) (hx : H x = some (.raw (instObj 180 d))) (hd : H d = some (.dic [])) (hxd : x ≠ d) (h : Q .none (H.set d (.dic (tw w a b)))) :
    CodeJ c (.ref 51) [.ref x, VI w] [("initial_indent", VT a), ("subsequent_indent", VT b), ("replace_whitespace", VB false)] m H Q := by
  refine CodeJ.run (bs := [("self", .ref x), ("width", VI w), ("initial_indent", VT a), ("subsequent_indent", VT b), ("replace_whitespace", VB false), ("drop_whitespace", VB true), ("break_long_words", VB true), ("max_lines", .none), ("placeholder", VT [32, 91, 46, 46, 46, 93])])
    O ⟨⟨_, _, _, rfl⟩, rfl, rfl, rfl, rfl, rfl, rfl, rfl, rfl, by decide⟩ ?_ rfl ?_
  · intro Vs Ks e1 e2
    obtain ⟨V, W, rfl, hV, hW⟩ := call2 e1
    obtain ⟨A, Kr, rfl, hA, e2⟩ := kcons e2
    obtain ⟨B, Kr, rfl, hB, e2⟩ := kcons e2
    obtain ⟨C, Kr, rfl, hC, e2⟩ := kcons e2
    obtain rfl := kw0 e2
    refine ⟨[("self", V), ("width", W), ("initial_indent", A), ("subsequent_indent", B), ("replace_whitespace", C), ("drop_whitespace", .bool true), ("break_long_words", .bool true), ("max_lines", .none), ("placeholder", .str (S [32, 91, 46, 46, 46, 93]) _)], fun s X => binds_K X rfl rfl rfl rfl rfl, ?_⟩
    simp only [List.map_cons, List.map_nil, hV, hW, hA, hB, hC]
    rfl
  · intro L hL Ok'
    show Exs _ _ [("placeholder", VT [32, 91, 46, 46, 46, 93]), ("max_lines", .none), ("break_long_words", VB true), ("drop_whitespace", VB true), ("replace_whitespace", VB false), ("subsequent_indent", VT b), ("initial_indent", VT a), ("width", VI w), ("self", .ref x)] H _ _
    walk_at "run"
    simp only [HM.set_set]
    exact EndJ.nextE h
end

section
variable {c : FC} {P : Params} {n : Nat} {m : LM} {H : HM} {X : XM}

theorem K_term_lenR {ts : List Tk} {Q : Value → HM → Prop} (O : Ok c (KK P) (n + 2)) (hok : okT ts) (hl : (flatT ts).length ≤ 1000000) (h : Q (VI (vis ts)) H) : CallR c (.ref 135) [VT (flatT ts)] m H Q := by
  with_reducible refine CallR.run O ⟨⟨_, _, _, rfl⟩, rfl, rfl, rfl, rfl, rfl, rfl, rfl, rfl, by decide⟩ (.a1 fun _ => rfl) rfl ?_
  intro L hL Ok'
  show Exs _ _ [("x", VT (flatT ts))] H _ _
  walk_at "run"
  with_reducible refine K_strip_ansi Ok' hok hl ?_
  have hv := vis_le ts
  unfold vis at hv h
  walk_at "run"
  exact EndJ.retE h
theorem K_handle {x d rc cl : Addr} {w : Int} {a b : List Nat} {us vs : List Value} {t : List Tk} {cur wd : Int} {Q : Value → HM → Prop} (O : Ok c (KK P) (n + 3)) (hx : H x = some (.raw (instObj 180 d))) (hd : H d = some (.dic (tw w a b)))
    (hr : H rc = some (.list (vs ++ [VT (flatT t)]))) (hc : H cl = some (.list us)) (hne : rc ≠ cl) (hok : okT t) (hl : (flatT t).length ≤ 1000000) (lv : vs.length ≤ 1000000) (lu : us.length ≤ 1000000)
    (h : Q .none ((H.set cl (.list (us ++ [VT (flatT (truncV (max (wd - cur) 1) t))]))).set rc (.list (vs ++ [VT (flatT (restT (max (wd - cur) 1) t))])))) :
    CallJ c (.ref 156) [.ref x, .ref rc, .ref cl, VI cur, VI wd] [] m H Q X := by
  refine CallJ.run O ⟨⟨_, _, _, rfl⟩, rfl, rfl, rfl, rfl, rfl, rfl, rfl, rfl, by decide⟩ (.a5 fun _ _ _ _ _ => rfl) rfl ?_
  intro L hL Ok'
  show Exs _ _ [("width", VI wd), ("cur_len", VI cur), ("cur_line", .ref cl), ("reversed_chunks", .ref rc), ("self", .ref x)] H _ _
  walk_at "run"
  refine C_max Ok'.hh ?_
  walk_at "run"
  with_reducible refine K_truncate Ok' hok hl ?_
  have ht := trunc_rest (max (wd - cur) 1) t
  have hcl := congrArg (fun z => (flatT z).length) ht
  simp only [flatT_append, List.length_append] at hcl
  walk_at "run"
  refine SliceG.str (Bnd.ofInt (by omega)) .non (by omega) ?_
  walk_at "run"
  refine EndJ.nextE ?_
  rw [show cut (flatT t) (some ((flatT (truncV (max (wd - cur) 1) t)).length : Int).toNat) none = flatT (restT (max (wd - cur) 1) t) from by
    conv => lhs; arg 1; rw [← ht]
    exact cut_flat2 (by omega)]
  exact h
end

section
variable {c : FC} {P : Params} {n : Nat} {m : LM} {H : HM} {X : XM}
def VTs (cs : List (List Tk)) : List Value := cs.map fun t => VT (flatT t)
/-- the lists of _wrap_chunks -/
structure ChF (rc ln cl : Addr) (H H2 : HM) (cs ls line : List (List Tk)) : Prop where
  u : Upd [rc] H H2
  r : H2 rc = some (.list (VTs cs).reverse)
  l : H2 ln = some (.list (VTs ls))
  c : H2 cl = some (.list (VTs line))
theorem VTs_rev (t : List Tk) (cs : List (List Tk)) : (VTs (t :: cs)).reverse = (VTs cs).reverse ++ [VT (flatT t)] := by unfold VTs; simp
theorem VTs_snoc (t : List Tk) (cs : List (List Tk)) : VTs (cs ++ [t]) = VTs cs ++ [VT (flatT t)] := by unfold VTs; simp
theorem Sized.vlen {cs : List (List Tk)} (h : Sized cs) : (VTs cs).length ≤ 100000 := by unfold VTs; rw [List.length_map]; exact h.ln
set_option maxHeartbeats 2000000 in
theorem K_chunks {x d rc : Addr} {w : Int} {fi fr : List Tk} {cs out : List (List Tk)} {k : Nat} {Q : Value → HM → Prop} (O : Ok c (KK P) (n + 5)) (hx : H x = some (.raw (instObj 180 d))) (hd : H d = some (.dic (tw w (flatT fi) (flatT fr))))
    (hr : H rc = some (.list (VTs cs))) (hw : 0 < w) (oi : okT fi) (or : okT fr) (li : (flatT fi).length ≤ 100000) (lr : (flatT fr).length ≤ 100000) (hs : Sized cs) (hk : k ≤ 100000) (hf : wrapF w fi fr k cs [] = some out)
    (h : ∀ H' ln, H ln = none → Upd [rc] H H' → H' ln = some (.list (VTs out)) → Q (.ref ln) H') : CallJ c (.ref 163) [.ref x, .ref rc] [] m H Q X := by
  have nxr : x ≠ rc := by rintro rfl; rw [hx] at hr; cases hr
  have ndr : d ≠ rc := by rintro rfl; rw [hd] at hr; cases hr
  have lcs : (VTs cs).length ≤ 100000 := by unfold VTs; rw [List.length_map]; exact hs.ln
  refine CallJ.run O ⟨⟨_, _, _, rfl⟩, rfl, rfl, rfl, rfl, rfl, rfl, rfl, rfl, by decide⟩ (.a2 fun _ _ => rfl) rfl ?_
  intro L hL Ok'
  show Exs _ _ [("chunks", .ref rc), ("self", .ref x)] H _ _
  walk_at "run"
  rename_i ln hln
  refine iteD (fun hk => absurd hk (by omega)) (fun _ => ?_)
  walk_at "run"
  refine Ex.whileG (fun j m' H' => ∃ cs ls, Sized cs ∧ wrapF w fi fr j cs ls = some out ∧ ls.length + j ≤ 100000 ∧ Upd [rc] H H' ∧ H' rc = some (.list (VTs cs).reverse) ∧ H' ln = some (.list (VTs ls)) ∧
      m' = ([("lines", .ref ln), ("chunks", .ref rc), ("self", .ref x)] : LM)) k ?_ fun j m' H' hinv => ?_
  · refine Keep.here ⟨cs, [], hs, hf, by simpa using hk, ?_, ?_, ?_, rfl⟩
    · walk_at "upd"
    · walk_at "heap"
    · walk_at "heap"
  · obtain ⟨cs, ls, hs, hf, hj, hu, hrc, hl, rfl⟩ := hinv
    have hx' := hu x _ (by simp [nxr]) hx
    have hd' := hu d _ (by simp [ndr]) hd
    have lcs : (VTs cs).reverse.length ≤ 100000 := by unfold VTs; rw [List.length_reverse, List.length_map]; exact hs.ln
    have lls : (VTs ls).length ≤ 100000 := by unfold VTs; rw [List.length_map]; omega
    walk_at "run"
    cases cs with
    | nil =>
      have hf : some ls = some out := by cases j <;> exact hf
      cases hf
      refine iteFe rfl ?_
      walk_at "run"
      exact EndJ.retE (h _ _ hln hu hl)
    | cons t cs =>
      refine iteTe (by simp [VTs]) ?_
      walk_at "run"
      rename_i cl hcl
      have hcl0 : H cl = none := by
        have n1 : cl ≠ rc := by rintro rfl; rw [hcl] at hrc; cases hrc
        exact hu.none (by simp [n1]) hcl
      have n1 : cl ≠ rc := by rintro rfl; rw [hcl] at hrc; cases hrc
      have n2 : cl ≠ ln := by rintro rfl; rw [hcl] at hl; cases hl
      have n3 : ln ≠ rc := by rintro rfl; rw [hln] at hr; cases hr
      have f0 : ChF rc ln cl H (H'.set cl (.list [])) (t :: cs) ls [] := ⟨by walk_at "upd", by walk_at "heap", by walk_at "heap", by walk_at "heap"⟩
      have xd : ∀ {H2 cs' ls' line'}, ChF rc ln cl H H2 cs' ls' line' → H2 x = some (.raw (instObj 180 d)) ∧ H2 d = some (.dic (tw w (flatT fi) (flatT fr))) := fun f => ⟨f.u x _ (by simp [nxr]) hx, f.u d _ (by simp [ndr]) hd⟩
      generalize H'.set cl (.list []) = H2 at f0
      obtain ⟨ind, hind⟩ : ∃ ind, ind = if ls = [] then fi else fr := ⟨_, rfl⟩
      have oind : okT ind := by rw [hind]; split <;> assumption
      have lind : (flatT ind).length ≤ 100000 := by rw [hind]; split <;> assumption
      with_reducible refine Exs.ifVia (fun m2 H2 => ChF rc ln cl H H2 (t :: cs) ls [] ∧ m2 = ([("indent", VT (flatT ind)), ("cur_len", VI 0), ("cur_line", .ref cl), ("lines", .ref ln), ("chunks", .ref rc), ("self", .ref x)] : LM)) ?_ ?_
      · obtain ⟨hx2, hd2⟩ := xd f0
        refine iteB (fun hb => ?_) (fun hb => ?_)
        · have : ls ≠ [] := by rintro rfl; cases hb
          rw [if_neg this] at hind; subst hind
          walk_at "run"
          exact ViaJ.mk (by walk_at "le") ⟨f0, rfl⟩
        · have : ls = [] := by cases ls with
            | nil => rfl
            | cons => cases hb
          rw [if_pos this] at hind; subst hind
          walk_at "run"
          exact ViaJ.mk (by walk_at "le") ⟨f0, rfl⟩
      rintro m2 H2 ⟨f1, rfl⟩
      with_reducible refine Exs.via (fun m2 H2 => ChF rc ln cl H H2 (t :: cs) ls [] ∧ m2 = ([("width", VI (w - vis ind)), ("indent", VT (flatT ind)), ("cur_len", VI 0), ("cur_line", .ref cl), ("lines", .ref ln), ("chunks", .ref rc), ("self", .ref x)] : LM)) ?_ ?_
      · obtain ⟨hx2, hd2⟩ := xd f1
        walk_at "run"
        with_reducible refine K_term_len Ok' oind (by omega) (by have := vis_le ind; omega) ?_
        walk_at "run"
        exact ViaJ.mk (by walk_at "le") ⟨f1, rfl⟩
      rintro m2 H3 ⟨f2, rfl⟩
      generalize hwd : w - vis ind = wd
      obtain ⟨ot, lt, hs'⟩ := hs.head
      with_reducible refine Exs.via (fun m2 H2 => ChF rc ln cl H H2 (dropB (!ls.isEmpty) (t :: cs)) ls [] ∧ m2 = ([("width", VI wd), ("indent", VT (flatT ind)), ("cur_len", VI 0), ("cur_line", .ref cl), ("lines", .ref ln), ("chunks", .ref rc), ("self", .ref x)] : LM)) ?_ ?_
      · obtain ⟨hx2, hd2⟩ := xd f2
        have hr2 := f2.r
        have hl2 := f2.l
        rw [VTs_rev] at hr2
        have := hs'.vlen
        have lrv : (VTs cs).reverse.length < 16000000 := by rw [List.length_reverse]; omega
        have dB : dropB (!ls.isEmpty) (t :: cs) = if (blankT t && !ls.isEmpty) = true then cs else t :: cs := rfl
        walk_at "run"
        refine iteD (fun hb => ?_) (fun hb => ?_)
        · have hb' : blankT t = true := decide_eq_true hb
          walk_at "run"
          refine iteB (fun hb2 => ?_) (fun hb2 => ?_)
          · have e2 : (!ls.isEmpty) = true := by cases ls with
              | nil => cases hb2
              | cons => rfl
            walk_at "run"
            refine ViaJ.mk (by walk_at "le") ⟨?_, rfl⟩
            rw [dB, hb', e2, Bool.and_self, if_pos rfl]
            have f2u := f2.u
            have f2l := f2.l
            have f2c := f2.c
            exact ⟨by walk_at "upd", by walk_at "heap", by walk_at "heap", by walk_at "heap"⟩
          · have e2 : (!ls.isEmpty) = false := by cases ls with
              | nil => rfl
              | cons => cases hb2
            walk_at "run"
            refine ViaJ.mk (by walk_at "le") ⟨?_, rfl⟩
            rw [dB, e2, Bool.and_false, if_neg Bool.false_ne_true]
            exact f2
        · have hb' : blankT t = false := decide_eq_false hb
          walk_at "run"
          refine ViaJ.mk (by walk_at "le") ⟨?_, rfl⟩
          rw [dB, hb', Bool.false_and, if_neg Bool.false_ne_true]
          exact f2
      rintro m2 H4 ⟨f3, rfl⟩
      have hsd : Sized (dropB (!ls.isEmpty) (t :: cs)) := by
        show Sized (if (blankT t && !ls.isEmpty) = true then cs else t :: cs)
        split
        · exact hs'
        · exact hs
      have hlay : lay1 wd (!ls.isEmpty) (t :: cs) = (trimB (cutLong wd (greedy wd 0 [] (dropB (!ls.isEmpty) (t :: cs))).1 (greedy wd 0 [] (dropB (!ls.isEmpty) (t :: cs))).2.1 (greedy wd 0 [] (dropB (!ls.isEmpty) (t :: cs))).2.2).1, (cutLong wd (greedy wd 0 [] (dropB (!ls.isEmpty) (t :: cs))).1 (greedy wd 0 [] (dropB (!ls.isEmpty) (t :: cs))).2.1 (greedy wd 0 [] (dropB (!ls.isEmpty) (t :: cs))).2.2).2) := rfl
      generalize dropB (!ls.isEmpty) (t :: cs) = ds at f3 hsd hlay
      generalize hg : greedy wd 0 [] ds = g at hlay
      with_reducible refine Exs.via (fun m2 H2 => ChF rc ln cl H H2 g.2.2 ls g.2.1 ∧ Sized (g.2.1 ++ g.2.2) ∧ m2 = ([("width", VI wd), ("indent", VT (flatT ind)), ("cur_len", VI g.1), ("cur_line", .ref cl), ("lines", .ref ln), ("chunks", .ref rc), ("self", .ref x)] : LM)) ?_ ?_
      · walk_at "run"
        refine Ex.whileG (fun j m' H' => ∃ cur line cs, j = cs.length ∧ greedy wd cur line cs = g ∧ Sized (line ++ cs) ∧ ChF rc ln cl H H' cs ls line ∧
          m' = ([("width", VI wd), ("indent", VT (flatT ind)), ("cur_len", VI cur), ("cur_line", .ref cl), ("lines", .ref ln), ("chunks", .ref rc), ("self", .ref x)] : LM)) ds.length (Keep.here ⟨0, [], ds, rfl, hg, hsd, f3, rfl⟩) fun j m' H' hinv => ?_
        obtain ⟨cur, line, es, rfl, hgr, hse, fc, rfl⟩ := hinv
        have fr := fc.r
        have fcc := fc.c
        have fu := fc.u
        have fl := fc.l
        have lln := hse.ln
        rw [List.length_append] at lln
        have lrv : (VTs es).reverse.length < 16000000 := by unfold VTs; rw [List.length_reverse, List.length_map]; omega
        have lvl : (VTs line).length ≤ 100000 := by unfold VTs; rw [List.length_map]; omega
        cases es with
        | nil =>
          walk_at "run"
          refine iteFe rfl ?_
          have hgr : (cur, line, []) = g := hgr
          subst hgr
          exact ViaJ.mk (by walk_at "le") ⟨fc, hse, rfl⟩
        | cons e es =>
          have hoe : okT e := hse.ok _ (by simp)
          have hle : (flatT e).length ≤ 100000 := by
            have := hse.fl
            simp only [List.flatten_append, List.flatten_cons, flatT_append, List.length_append] at this
            omega
          rw [VTs_rev] at fr
          have lrv3 : ((VTs es).reverse ++ [VT (flatT e)]).length ≤ 16000000 := by rw [← VTs_rev]; omega
          walk_at "run"
          refine iteTe (by simp) ?_
          have lrv2 : (VTs es).reverse.length < 16000000 := by unfold VTs at lrv ⊢; simp at lrv ⊢; omega
          walk_at "run"
          with_reducible refine K_term_len Ok' hoe (by omega) (by have := vis_le e; omega) ?_
          walk_at "run"
          have gu : greedy wd cur line (e :: es) = if cur + vis e ≤ wd then greedy wd (cur + vis e) (line ++ [e]) es else (cur, line, e :: es) := rfl
          refine iteD (fun hb => ?_) (fun hb => ?_)
          · rw [if_pos hb] at gu
            walk_at "run"
            refine ⟨es.length, Nat.lt_succ_self _, _, _, ?_, HM.le.refl _, cur + vis e, line ++ [e], es, rfl, by rw [← gu]; exact hgr, by simpa using hse, ⟨by walk_at "upd", by walk_at "heap", by walk_at "heap", by rw [VTs_snoc]; walk_at "heap"⟩, rfl⟩
            walk_at "le"
          · rw [if_neg hb] at gu
            walk_at "run"
            rw [gu] at hgr
            subst hgr
            exact ViaJ.mk (by walk_at "le") ⟨fc, hse, rfl⟩
      rintro m2 H5 ⟨f4, hs4, rfl⟩
      have hcut := cut_sized (wd := wd) (cur := g.1) hs4
      obtain ⟨gcur, gline, gcs⟩ := g
      simp only at f4 hs4 hcut hlay
      generalize hq : cutLong wd gcur gline gcs = q at hcut hlay
      have hlay : lay1 wd (!ls.isEmpty) (t :: cs) = (trimB q.1, q.2) := hlay
      with_reducible refine Exs.via (fun m2 H2 => ChF rc ln cl H H2 q.2 ls q.1 ∧ ∃ cur', m2 = ([("width", VI wd), ("indent", VT (flatT ind)), ("cur_len", VI cur'), ("cur_line", .ref cl), ("lines", .ref ln), ("chunks", .ref rc), ("self", .ref x)] : LM)) ?_ ?_
      · obtain ⟨hx2, hd2⟩ := xd f4
        have fr := f4.r
        have fcc := f4.c
        have fu := f4.u
        have fl := f4.l
        have lln := hs4.ln
        rw [List.length_append] at lln
        have lrv : (VTs gcs).reverse.length < 16000000 := by unfold VTs; rw [List.length_reverse, List.length_map]; omega
        cases gcs with
        | nil =>
          walk_at "run"
          refine iteFe rfl ?_
          walk_at "run"
          have hq : (gline, []) = q := hq
          subst hq
          exact ViaJ.mk (by walk_at "le") ⟨f4, _, rfl⟩
        | cons e es =>
          have hoe : okT e := hs4.ok _ (by simp)
          have hle : (flatT e).length ≤ 100000 := by
            have := hs4.fl
            simp only [List.flatten_append, List.flatten_cons, flatT_append, List.length_append] at this
            omega
          rw [VTs_rev] at fr
          have lrv3 : ((VTs es).reverse ++ [VT (flatT e)]).length ≤ 16000000 := by rw [← VTs_rev]; omega
          have lrv2 : (VTs es).reverse.length < 16000000 := by unfold VTs at lrv ⊢; simp at lrv ⊢; omega
          walk_at "run"
          refine iteTe (by simp) ?_
          walk_at "run"
          with_reducible refine K_term_len Ok' hoe (by omega) (by have := vis_le e; omega) ?_
          walk_at "run"
          refine iteD (fun hb => ?_) (fun hb => ?_)
          · have hq : (if (vis e : Int) > wd then (gline ++ [truncV (max (wd - gcur) 1) e], restT (max (wd - gcur) 1) e :: es) else (gline, e :: es)) = q := hq
            rw [if_pos hb] at hq
            subst hq
            obtain ⟨hlo, hso⟩ := hcut
            walk_at "run"
            with_reducible refine K_handle (n := n + 1) (by assumption) hx2 hd2 fr fcc (Ne.symm n1) hoe (by omega) (by unfold VTs; rw [List.length_reverse, List.length_map]; simp at lln; omega) (by unfold VTs; rw [List.length_map]; omega) ?_
            have f5 : ChF rc ln cl H ((H5.set cl (.list (VTs gline ++ [VT (flatT (truncV (max (wd - gcur) 1) e))]))).set rc (.list ((VTs es).reverse ++ [VT (flatT (restT (max (wd - gcur) 1) e))]))) (restT (max (wd - gcur) 1) e :: es) ls (gline ++ [truncV (max (wd - gcur) 1) e]) :=
              ⟨by walk_at "upd", by rw [VTs_rev]; walk_at "heap", by walk_at "heap", by rw [VTs_snoc]; walk_at "heap"⟩
            generalize (H5.set cl (.list (VTs gline ++ [VT (flatT (truncV (max (wd - gcur) 1) e))]))).set rc (.list ((VTs es).reverse ++ [VT (flatT (restT (max (wd - gcur) 1) e))])) = H6 at f5
            simp only at hlo hso
            generalize gline ++ [truncV (max (wd - gcur) 1) e] = line3 at f5 hlo
            generalize restT (max (wd - gcur) 1) e :: es = cs3 at f5 hso
            have hc6 := f5.c
            have hu6 := f5.u
            have hr6 := f5.r
            have hl6 := f5.l
            walk_at "run"
            refine C_map hc6 ?_
            intro M T it oM oT oi hM hT hit e1 e2 e3 aM aT aI
            have m1 : it ≠ cl := by rintro rfl; rw [hc6] at hit; cases hit
            have m2 : it ≠ rc := by rintro rfl; rw [hr6] at hit; cases hit
            have m3 : it ≠ ln := by rintro rfl; rw [hl6] at hit; cases hit
            have m4 : T ≠ cl := by rintro rfl; rw [hc6] at hT; cases hT
            have m5 : T ≠ rc := by rintro rfl; rw [hr6] at hT; cases hT
            have m6 : T ≠ ln := by rintro rfl; rw [hl6] at hT; cases hT
            have m7 : M ≠ cl := by rintro rfl; rw [hc6] at hM; cases hM
            have m8 : M ≠ rc := by rintro rfl; rw [hr6] at hM; cases hM
            have m9 : M ≠ ln := by rintro rfl; rw [hl6] at hM; cases hM
            have hit0 : H it = none := hu6.none (by simp [m2]) hit
            have hT0 : H T = none := hu6.none (by simp [m5]) hT
            have hM0 : H M = none := hu6.none (by simp [m8]) hM
            walk_at "run"
            refine C_sum (val := fun i => vis (line3.getD i [])) (n := n + 2) (by assumption) (HM.set_same _ _ _) ((HM.set_ne _ _ (Ne.symm e1)).trans (HM.set_same _ _ _)) ((HM.set_ne _ _ (Ne.symm e2)).trans ((HM.set_ne _ _ (Ne.symm e3)).trans (HM.set_same _ _ _))) ((HM.set_ne _ _ (Ne.symm m7)).trans ((HM.set_ne _ _ (Ne.symm m4)).trans ((HM.set_ne _ _ (Ne.symm m1)).trans hc6))) aM aT aI (fun c' _ _ _ _ O' i v hv => ?_) ?_
            · unfold VTs at hv
              rw [List.getElem?_map, Option.map_eq_some_iff] at hv
              obtain ⟨y, hy, rfl⟩ := hv
              have hmem := List.mem_of_getElem? hy
              with_reducible refine K_term_lenR O' (hlo.ok y hmem) ?_ ?_
              · have := hlo.fl
                have h2 : (flatT y).length ≤ (flatT line3.flatten).length := by
                  obtain ⟨s1, s2, rfl⟩ := List.append_of_mem hmem
                  simp only [List.flatten_append, List.flatten_cons, flatT_append, List.length_append]; omega
                omega
              · show VI _ = VI _
                rw [List.getD_eq_getElem?_getD, hy]; rfl
            · walk_at "run"
              refine ViaJ.mk (by walk_at "le") ⟨⟨?_, ?_, ?_, ?_⟩, _, rfl⟩
              · exact Upd.del hit0 (Upd.old hM0 (Upd.old hT0 (Upd.old hit0 hu6)))
              · exact HM.delX (Ne.symm m2) ((HM.set_ne _ _ (Ne.symm m8)).trans ((HM.set_ne _ _ (Ne.symm m5)).trans ((HM.set_ne _ _ (Ne.symm m2)).trans hr6)))
              · exact HM.delX (Ne.symm m3) ((HM.set_ne _ _ (Ne.symm m9)).trans ((HM.set_ne _ _ (Ne.symm m6)).trans ((HM.set_ne _ _ (Ne.symm m3)).trans hl6)))
              · exact HM.delX (Ne.symm m1) ((HM.set_ne _ _ (Ne.symm m7)).trans ((HM.set_ne _ _ (Ne.symm m4)).trans ((HM.set_ne _ _ (Ne.symm m1)).trans hc6)))
          · walk_at "run"
            have hq : (if (vis e : Int) > wd then (gline ++ [truncV (max (wd - gcur) 1) e], restT (max (wd - gcur) 1) e :: es) else (gline, e :: es)) = q := hq
            rw [if_neg hb] at hq
            subst hq
            exact ViaJ.mk (by walk_at "le") ⟨f4, _, rfl⟩
      rintro m2 H6 ⟨f5, cur2, rfl⟩
      with_reducible refine Exs.via (fun m2 H2 => ChF rc ln cl H H2 q.2 ls (trimB q.1) ∧ ∃ cur', m2 = ([("width", VI wd), ("indent", VT (flatT ind)), ("cur_len", VI cur'), ("cur_line", .ref cl), ("lines", .ref ln), ("chunks", .ref rc), ("self", .ref x)] : LM)) ?_ ?_
      · obtain ⟨hx2, hd2⟩ := xd f5
        obtain ⟨hlo, hso⟩ := hcut
        have fr := f5.r
        have fcc := f5.c
        have fu := f5.u
        have fl := f5.l
        have lvl : (VTs q.1).length ≤ 1000000 := by have := hlo.ln; unfold VTs; rw [List.length_map]; omega
        generalize q.1 = line at f5 hlo fcc lvl
        rcases List.eq_nil_or_concat line with rfl | ⟨l0, e, rfl⟩
        · walk_at "run"
          refine iteFe rfl ?_
          walk_at "run"
          exact ViaJ.mk (by walk_at "le") ⟨f5, _, rfl⟩
        · rw [List.concat_eq_append] at f5 hlo fcc lvl ⊢
          rw [VTs_snoc] at fcc lvl
          rw [trimB_snoc]
          have hoe : okT e := hlo.ok _ (by simp)
          have hle : (flatT e).length ≤ 100000 := by
            have := hlo.fl
            simp only [List.flatten_append, List.flatten_cons, flatT_append, List.length_append] at this
            omega
          have lv0 : (VTs l0).length < 16000000 := by rw [List.length_append] at lvl; omega
          walk_at "run"
          refine iteTe (by simp) ?_
          walk_at "run"
          refine iteD (fun hb => ?_) (fun hb => ?_)
          · rw [if_pos (show blankT e = true from decide_eq_true hb)]
            walk_at "run"
            with_reducible refine K_term_len (by assumption) hoe (by omega) (by have := vis_le e; omega) ?_
            walk_at "run"
            exact ViaJ.mk (by walk_at "le") ⟨⟨by walk_at "upd", by walk_at "heap", by walk_at "heap", by walk_at "heap"⟩, _, rfl⟩
          · rw [if_neg (show ¬ blankT e = true from fun z => hb (of_decide_eq_true z))]
            walk_at "run"
            exact ViaJ.mk (by walk_at "le") ⟨f5, _, rfl⟩
      rintro m2 H7 ⟨f6, cur3, rfl⟩
      obtain ⟨hx2, hd2⟩ := xd f6
      have htr := trim_ok hcut.1
      have hso := hcut.2
      cases j with
      | zero => cases hf
      | succ j =>
        have hf : wrapF w fi fr j (lay1 (w - vis (if ls = [] then fi else fr)) (!ls.isEmpty) (t :: cs)).2 (if (lay1 (w - vis (if ls = [] then fi else fr)) (!ls.isEmpty) (t :: cs)).1 = [] then ls else ls ++ [(if ls = [] then fi else fr) ++ (lay1 (w - vis (if ls = [] then fi else fr)) (!ls.isEmpty) (t :: cs)).1.flatten]) = some out := hf
        rw [← hind, hwd, hlay] at hf
        simp only at hf
        generalize q.2 = cs3 at f6 hso hf
        generalize trimB q.1 = line at f6 htr hf
        have fr := f6.r
        have fcc := f6.c
        have fu := f6.u
        have fl := f6.l
        have lvl : (VTs line).length ≤ 1000000 := by have := htr.ln; unfold VTs; rw [List.length_map]; omega
        cases line with
        | nil =>
          walk_at "run"
          refine iteFe rfl ?_
          walk_at "run"
          rw [if_pos rfl] at hf
          exact ⟨j, Nat.lt_succ_self _, _, _, by walk_at "le", HM.le.refl _, cs3, ls, hso, hf, by omega, fu, fr, fl, rfl⟩
        | cons e es =>
          have fj : H7 cl = some (.list (((e :: es).map flatT).map VT)) := by rw [List.map_map]; exact fcc
          have ff := htr.fl
          have hl3 : (((e :: es).map flatT).map VT).length ≤ 16000000 := by have := htr.ln; rw [List.length_map, List.length_map]; omega
          have hjs : joinSize [] ((e :: es).map flatT) ≤ 16000000 := by rw [joinSize_nil, flatT_flatten]; omega
          have hjl : joinL [] ((e :: es).map flatT) = flatT (e :: es).flatten := by rw [joinL_nil, flatT_flatten]
          have hjn : (joinL [] ((e :: es).map flatT)).length ≤ 100000 := by rw [hjl]; exact ff
          walk_at "run"
          refine iteTe (by simp) ?_
          walk_at "run"
          rw [if_neg (by simp)] at hf
          refine ⟨j, Nat.lt_succ_self _, _, _, ?_, HM.le.refl _, cs3, ls ++ [ind ++ (e :: es).flatten], hso, hf, by rw [List.length_append, List.length_singleton]; omega, ?_, ?_, ?_, rfl⟩
          · walk_at "le"
          · walk_at "upd"
          · walk_at "heap"
          · rw [VTs_snoc, flatT_append, ← hjl]; walk_at "heap"
end

/-! ## chunks of tokens -/
def Tk.b : Tk → Bool
  | .ch x => isB x
  | .es _ => false
def chunkTS (acc : List (List Tk)) (t : Tk) : List (List Tk) := match acc.getLast? with
  | some (z :: zs) => if z.b == t.b then acc.dropLast ++ [(z :: zs) ++ [t]] else acc ++ [[t]]
  | _ => acc ++ [[t]]
def chunkT (ts : List Tk) : List (List Tk) := ts.foldl chunkTS []
theorem chunkT_snoc (ts : List Tk) (t : Tk) : chunkT (ts ++ [t]) = chunkTS (chunkT ts) t := by unfold chunkT; rw [List.foldl_append]; rfl
theorem chunkTS_cases (acc : List (List Tk)) (t : Tk) : (∃ a z zs, acc = a ++ [z :: zs] ∧ z.b = t.b ∧ chunkTS acc t = a ++ [(z :: zs) ++ [t]]) ∨ (∃ a z zs, acc = a ++ [z :: zs] ∧ z.b ≠ t.b ∧ chunkTS acc t = acc ++ [[t]]) ∨ ((acc = [] ∨ ∃ a, acc = a ++ [[]]) ∧ chunkTS acc t = acc ++ [[t]]) := by
  rcases List.eq_nil_or_concat acc with rfl | ⟨a, y, rfl⟩
  · exact .inr (.inr ⟨.inl rfl, rfl⟩)
  · rw [List.concat_eq_append]
    cases y with
    | nil => exact .inr (.inr ⟨.inr ⟨a, rfl⟩, by unfold chunkTS; simp⟩)
    | cons z zs =>
      by_cases h : z.b = t.b
      · exact .inl ⟨a, z, zs, rfl, h, by unfold chunkTS; simp [h]⟩
      · exact .inr (.inl ⟨a, z, zs, rfl, h, by unfold chunkTS; simp [h]⟩)
theorem chunkT_ne (ts : List Tk) : ∀ z ∈ chunkT ts, z ≠ [] := by
  induction ts using snocInd with
  | h0 => intro z hz; cases hz
  | h1 l x ih =>
    rw [chunkT_snoc]
    rcases chunkTS_cases (chunkT l) x with ⟨a, z, zs, e, _, e2⟩ | ⟨a, z, zs, e, _, e2⟩ | ⟨_, e2⟩ <;> rw [e2] <;> intro y hy <;> rcases List.mem_append.mp hy with hy | hy
    · exact ih y (by rw [e]; exact List.mem_append_left _ hy)
    · rw [List.mem_singleton.mp hy]; simp
    · exact ih y hy
    · rw [List.mem_singleton.mp hy]; simp
    · exact ih y hy
    · rw [List.mem_singleton.mp hy]; simp
theorem chunkT_sum (ts : List Tk) : (chunkT ts).flatten = ts := by
  induction ts using snocInd with
  | h0 => rfl
  | h1 l x ih =>
    rw [chunkT_snoc]
    rcases chunkTS_cases (chunkT l) x with ⟨a, z, zs, e, _, e2⟩ | ⟨a, z, zs, e, _, e2⟩ | ⟨_, e2⟩ <;> rw [e2]
    · rw [e] at ih
      simp only [List.flatten_append, List.flatten_cons, List.flatten_nil, List.append_nil] at ih ⊢
      rw [← List.append_assoc, ih]
    · simp [ih]
    · simp [ih]
theorem chunkT_len (ts : List Tk) : (chunkT ts).length ≤ ts.length := by
  induction ts using snocInd with
  | h0 => simp [chunkT]
  | h1 l x ih =>
    rw [chunkT_snoc, List.length_append]
    rcases chunkTS_cases (chunkT l) x with ⟨a, z, zs, e, _, e2⟩ | ⟨a, z, zs, e, _, e2⟩ | ⟨_, e2⟩ <;> rw [e2]
    · rw [e] at ih; simp at ih ⊢; omega
    · simp; omega
    · simp; omega
theorem foldl_in {a : List (List Nat)} {y ys : List Nat} {v : Nat} : ∀ (l : List Nat), (∀ x ∈ l, isB x = isB v) → List.foldl chunkStep (a ++ [v :: ys]) l = a ++ [(v :: ys) ++ l]
  | [], _ => by simp
  | x :: r, h => by
    rw [List.foldl_cons]
    have e : chunkStep (a ++ [v :: ys]) x = a ++ [v :: (ys ++ [x])] := by
      unfold chunkStep
      simp [h x List.mem_cons_self]
    rw [e, foldl_in (y := y) r fun z hz => h z (List.mem_cons_of_mem _ hz)]
    simp
theorem Tk.flat_b {t : Tk} (h : t.ok) : ∃ v vs, t.flat = v :: vs ∧ isB v = t.b ∧ ∀ x ∈ vs, isB x = isB v := by
  cases t with
  | ch x => exact ⟨x, [], rfl, rfl, fun _ h => by cases h⟩
  | es p =>
    refine ⟨27, 91 :: (p ++ [109]), rfl, show isB 27 = false by decide, fun x hx => ?_⟩
    rcases List.mem_cons.mp hx with rfl | hx
    · decide
    · rcases List.mem_append.mp hx with hx | hx
      · have hb := h x hx
        have : ∀ k, 48 ≤ k → k ≤ 59 → isB k = isB 27 := by
          intro k h1 h2
          have : isB k = false := by
            unfold isB; rw [decide_eq_false_iff_not]; simp; omega
          rw [this]; decide
        exact this x hb.1 hb.2
      · rw [List.mem_singleton.mp hx]; decide
theorem chunk_map (ts : List Tk) (h : okT ts) : chunkL (flatT ts) = (chunkT ts).map flatT := by
  induction ts using snocInd with
  | h0 => rfl
  | h1 l t ih =>
    rw [okT_append] at h
    have ot : t.ok := h.2 t List.mem_cons_self
    have ih := ih h.1
    obtain ⟨v, vs, e1, e2, e3⟩ := t.flat_b ot
    have ef : flatT [t] = v :: vs := by rw [flatT_cons, e1]; simp [flatT]
    have ec : chunkL (flatT (l ++ [t])) = List.foldl chunkStep (chunkL (flatT l)) (v :: vs) := by
      rw [flatT_append, ef]; unfold chunkL; rw [List.foldl_append]
    rw [ec, chunkT_snoc, ih, List.foldl_cons]
    have okz : ∀ z ∈ (chunkT l).flatten, z.ok := by rw [chunkT_sum]; exact h.1
    rcases chunkTS_cases (chunkT l) t with ⟨a, z, zs, e, hb, e2'⟩ | ⟨a, z, zs, e, hb, e2'⟩ | ⟨e, e2'⟩ <;> rw [e2']
    · have oz : z.ok := okz z (by rw [e]; simp)
      obtain ⟨u, us, z1, z2, z3⟩ := z.flat_b oz
      have st : chunkStep ((chunkT l).map flatT) v = a.map flatT ++ [(u :: (us ++ flatT zs)) ++ [v]] := by
        rw [e]; unfold chunkStep
        simp [flatT_cons, z1, z2, e2, hb]
      rw [st]
      have hin := foldl_in (a := a.map flatT) (y := []) (ys := (us ++ flatT zs) ++ [v]) (v := u) vs (fun x hx => by rw [e3 x hx, e2, ← hb, z2])
      rw [show ((u :: (us ++ flatT zs)) ++ [v]) = u :: ((us ++ flatT zs) ++ [v]) from rfl, hin]
      rw [List.map_append, List.map_cons, List.map_nil, flatT_append, ef, flatT_cons, z1]
      simp
    · have oz : z.ok := okz z (by rw [e]; simp)
      obtain ⟨u, us, z1, z2, z3⟩ := z.flat_b oz
      have st : chunkStep ((chunkT l).map flatT) v = (chunkT l).map flatT ++ [[v]] := by
        rw [e]; unfold chunkStep
        simp [flatT_cons, z1, z2, e2, hb]
      rw [st, foldl_in (y := []) vs e3, List.map_append, List.map_cons, List.map_nil, ef]
      simp
    · have st : chunkStep ((chunkT l).map flatT) v = (chunkT l).map flatT ++ [[v]] := by
        rcases e with e | ⟨a, e⟩ <;> rw [e] <;> unfold chunkStep <;> simp [flatT]
      rw [st, foldl_in (y := []) vs e3, List.map_append, List.map_cons, List.map_nil, ef]
      simp
theorem chunkT_sized {ts : List Tk} (h : okT ts) (hl : (flatT ts).length ≤ 100000) : Sized (chunkT ts) := by
  refine ⟨fun t ht x hx => ?_, by rw [chunkT_sum]; exact hl, ?_⟩
  · have : x ∈ (chunkT ts).flatten := List.mem_flatten.mpr ⟨t, ht, hx⟩
    rw [chunkT_sum] at this; exact h x this
  · have h1 := chunkT_len ts
    have : ts.length ≤ (flatT ts).length := by
      clear h hl h1
      induction ts with
      | nil => exact Nat.le_refl _
      | cons t r ih => rw [flatT_cons, List.length_append, List.length_cons]; have := t.flat_pos; omega
    omega

theorem flat_mem {ts : List Tk} (h : okT ts) {k : Nat} (hk : k ∈ flatT ts) : k ≠ 9 ∧ k ≠ 13 ∧ k < 128 := by
  obtain ⟨t, ht, hm⟩ := List.mem_flatMap.mp hk
  have := h t ht
  cases t with
  | ch x =>
    rw [show k = x from List.mem_singleton.mp hm]
    exact ⟨this.2.2.1, this.2.2.2, this.2.1⟩
  | es p =>
    have hm : k ∈ 27 :: 91 :: (p ++ [109]) := hm
    simp only [List.mem_cons, List.mem_append, List.not_mem_nil, or_false] at hm
    rcases hm with rfl | rfl | hm | rfl
    · decide
    · decide
    · have := this k hm; omega
    · decide

section
variable {c : FC} {P : Params} {n : Nat} {m : LM} {H : HM} {X : XM}
theorem K_wrap {x d : Addr} {w : Int} {fi fr ts : List Tk} {out : List (List Tk)} {k : Nat} {Q : Value → HM → Prop} (O : Ok c (KK P) (n + 6)) (hx : H x = some (.raw (instObj 180 d))) (hd : H d = some (.dic (tw w (flatT fi) (flatT fr))))
    (hw : 0 < w) (oi : okT fi) (or : okT fr) (ot : okT ts) (li : (flatT fi).length ≤ 100000) (lr : (flatT fr).length ≤ 100000) (lt : (flatT ts).length ≤ 100000) (hk : k ≤ 100000) (hf : wrapF w fi fr k (chunkT ts) [] = some out)
    (h : ∀ H' ln, H ln = none → H.le H' → H' ln = some (.list (VTs out)) → Q (.ref ln) H') : CallJ c (.ref 65) [.ref x, VT (flatT ts)] [] m H Q X := by
  refine CallJ.run O ⟨⟨_, _, _, rfl⟩, rfl, rfl, rfl, rfl, rfl, rfl, rfl, rfl, by decide⟩ (.a2 fun _ _ => rfl) rfl ?_
  intro L hL Ok'
  show Exs _ _ [("text", VT (flatT ts)), ("self", .ref x)] H _ _
  walk_at "run"
  refine C_expandtabs (fun h9 => (flat_mem ot h9).1 rfl) ?_
  walk_at "run"
  with_reducible refine K_split (n := n + 4) (by assumption) (by omega) (fun r hr => ?_)
  have hx' : (H.set r (.list ((chunkL (flatT ts)).map VT))) x = some (.raw (instObj 180 d)) := by walk_at "heap"
  have hd' : (H.set r (.list ((chunkL (flatT ts)).map VT))) d = some (.dic (tw w (flatT fi) (flatT fr))) := by walk_at "heap"
  have hr' : (H.set r (.list ((chunkL (flatT ts)).map VT))) r = some (.list (VTs (chunkT ts))) := by
    rw [HM.set_same, chunk_map ts ot, List.map_map]; rfl
  walk_at "run"
  with_reducible refine K_chunks (n := n) (by assumption) hx' hd' hr' hw oi or li lr (chunkT_sized ot lt) hk hf (fun H' ln h1 h2 h3 => ?_)
  walk_at "run"
  rw [HM.set_none] at h1
  refine EndJ.retE (h H' ln h1.2 ?_ h3)
  intro a o e
  exact h2 a o (by rw [List.mem_singleton]; exact HM.ne_of hr e) (by rw [HM.set_ne _ _ (HM.ne_of hr e)]; exact e)
theorem K_fill {x d : Addr} {w : Int} {fi fr ts : List Tk} {out : List (List Tk)} {k : Nat} {Q : Value → HM → Prop} (O : Ok c (KK P) (n + 7)) (hx : H x = some (.raw (instObj 180 d))) (hd : H d = some (.dic (tw w (flatT fi) (flatT fr))))
    (hw : 0 < w) (oi : okT fi) (or : okT fr) (ot : okT ts) (li : (flatT fi).length ≤ 100000) (lr : (flatT fr).length ≤ 100000) (lt : (flatT ts).length ≤ 100000) (hk : k ≤ 100000) (hf : wrapF w fi fr k (chunkT ts) [] = some out)
    (hj : joinSize [10] (out.map flatT) ≤ 16000000) (h : Q (VT (joinL [10] (out.map flatT))) H) : CallJ c (.ref 72) [.ref x, VT (flatT ts)] [] m H Q X := by
  refine CallJ.run O ⟨⟨_, _, _, rfl⟩, rfl, rfl, rfl, rfl, rfl, rfl, rfl, rfl, by decide⟩ (.a2 fun _ _ => rfl) rfl ?_
  intro L hL Ok'
  show Exs _ _ [("text", VT (flatT ts)), ("self", .ref x)] H _ _
  walk_at "run"
  with_reducible refine K_wrap (n := n) (by assumption) hx hd hw oi or ot li lr lt hk hf (fun H' ln h1 h2 h3 => ?_)
  have h4 : H' ln = some (.list ((out.map flatT).map VT)) := by rw [List.map_map]; exact h3
  walk_at "run"
  exact EndJ.ret H h2 h
end

section
variable {c : FC} {P : Params} {n : Nat} {m : LM} {H : HM} {X : XM}
theorem K_einit {e d x : Addr} {l : List Nat} {Q : Value → HM → Prop} (O : Ok c (KK P) (n + 1)) (he : H e = some (.raw (instObj 110 d))) (hd : H d = some (.dic [])) (hed : e ≠ d) (h : Q .none (H.set d (.dic [("wrapper", .ref x), ("indent", VT l)]))) :
    CodeJ c (.ref 93) [.ref e, .ref x, VT l] [] m H Q := by
  refine CodeJ.run O ⟨⟨_, _, _, rfl⟩, rfl, rfl, rfl, rfl, rfl, rfl, rfl, rfl, by decide⟩ (.a3 fun _ _ _ => rfl) rfl ?_
  intro L hL Ok'
  show Exs _ _ [("indent", VT l), ("wrapper", .ref x), ("self", .ref e)] H _ _
  walk_at "run"
  simp only [HM.set_set]
  exact EndJ.nextE h
theorem K_extra {x : Addr} {l : List Nat} {Q : Value → HM → Prop} (O : Ok c (KK P) (n + 3))
    (h : ∀ e d, H e = none → H d = none → e ≠ d → Q (.ref e) ((H.set d (.dic [("wrapper", .ref x), ("indent", VT l)])).set e (.raw (instObj 110 d)))) : CallJ c (.ref 170) [.ref x, VT l] [] m H Q X := by
  refine CallJ.run O ⟨⟨_, _, _, rfl⟩, rfl, rfl, rfl, rfl, rfl, rfl, rfl, rfl, by decide⟩ (.a2 fun _ _ => rfl) rfl ?_
  intro L hL Ok'
  show Exs _ _ [("indent", VT l), ("self", .ref x)] H _ _
  walk_at "run"
  refine CallJ.cls (fI := 93) (by assumption) rfl rfl rfl (fun c' O' e d he hd hed => ?_)
  with_reducible refine K_einit O' (HM.set_same _ _ _) ((HM.set_ne _ _ (Ne.symm hed)).trans (HM.set_same _ _ _)) hed ⟨rfl, ?_⟩
  walk_at "run"
  rw [HM.set_comm _ _ _ hed, HM.set_set]
  exact EndJ.retE (h e d he hd hed)
def ei (x : Addr) (l a b : List Nat) : List (Str × Value) := [("wrapper", .ref x), ("indent", VT l), ("old_initial_indent", VT a), ("old_subsequent_indent", VT b)]
theorem K_enter {e d x dx : Addr} {w : Int} {l a b : List Nat} {Q : Value → HM → Prop} (O : Ok c (KK P) (n + 1)) (he : H e = some (.raw (instObj 110 d))) (hd : H d = some (.dic [("wrapper", .ref x), ("indent", VT l)])) (hx : H x = some (.raw (instObj 180 dx))) (hdx : H dx = some (.dic (tw w a b)))
    (n1 : d ≠ e) (n2 : d ≠ x) (n3 : d ≠ dx) (n4 : dx ≠ e) (n5 : dx ≠ x) (la : a.length + l.length ≤ 16000000) (lb : b.length + l.length ≤ 16000000)
    (h : Q .none ((H.set d (.dic (ei x l a b))).set dx (.dic (tw w (a ++ l) (b ++ l))))) : CallJ c (.ref 100) [.ref e] [] m H Q X := by
  refine CallJ.run O ⟨⟨_, _, _, rfl⟩, rfl, rfl, rfl, rfl, rfl, rfl, rfl, rfl, by decide⟩ (.a1 fun _ => rfl) rfl ?_
  intro L hL Ok'
  show Exs _ _ [("self", .ref e)] H _ _
  walk_at "run"
  simp only [HM.set_set]
  exact EndJ.nextE h
theorem K_exit {e d x dx : Addr} {w : Int} {l a b a' b' : List Nat} {Q : Value → HM → Prop} (O : Ok c (KK P) (n + 1)) (he : H e = some (.raw (instObj 110 d))) (hd : H d = some (.dic (ei x l a b))) (hx : H x = some (.raw (instObj 180 dx))) (hdx : H dx = some (.dic (tw w a' b')))
    (n1 : d ≠ e) (n2 : d ≠ x) (n3 : d ≠ dx) (n4 : dx ≠ e) (n5 : dx ≠ x)
    (h : Q .none (H.set dx (.dic (tw w a b)))) : CallJ c (.ref 107) [.ref e, .none, .none, .none] [] m H Q X := by
  refine CallJ.run O ⟨⟨_, _, _, rfl⟩, rfl, rfl, rfl, rfl, rfl, rfl, rfl, rfl, by decide⟩ (.a4 fun _ _ _ _ => rfl) rfl ?_
  intro L hL Ok'
  show Exs _ _ [("tb", .none), ("exc_value", .none), ("exc_type", .none), ("self", .ref e)] H _ _
  walk_at "run"
  simp only [HM.set_set]
  exact EndJ.nextE h
theorem K_only {x d : Addr} {w : Int} {a b l : List Nat} {Q : Value → HM → Prop} (O : Ok c (KK P) (n + 2)) (hx : H x = some (.raw (instObj 180 d))) (hd : H d = some (.dic (tw w a b)))
    (ha : a.length ≤ 100000) (hb : b.length ≤ 100000) (hl : l.length ≤ 100000) (h13 : 13 ∉ l) (hj : joinSize [10] ((linesL l).mapIdx fun i y => (if i = 0 then a else b) ++ y) ≤ 16000000)
    (h : Q (VT (joinL [10] ((linesL l).mapIdx fun i y => (if i = 0 then a else b) ++ y))) H) : CallJ c (.ref 177) [.ref x, VT l] [] m H Q X := by
  refine CallJ.run O ⟨⟨_, _, _, rfl⟩, rfl, rfl, rfl, rfl, rfl, rfl, rfl, rfl, by decide⟩ (.a2 fun _ _ => rfl) rfl ?_
  intro L hL Ok'
  show Exs _ _ [("text", VT l), ("self", .ref x)] H _ _
  walk_at "run"
  rename_i rv hrv
  have hh := Ok'.hh
  refine Ex.forG hh ?_ (fun _ => rfl)
  walk_at "run"
  refine C_splitlines h13 (by omega) (fun li hli => ?_)
  rw [HM.set_none] at hli
  walk_at "run"
  refine C_enumerate (HM.set_same _ _ _) (fun e it oe oi he hit hne ho hi => ?_)
  rw [HM.set_none, HM.set_none] at he hit
  have hx1 : H x = some _ := hx
  walk_at "run"
  refine ⟨_, _, _, _, Src.enum (H := (((((H.set rv (.list [])).set li (.list ((linesL l).map VT)))).set it (.raw oi)).set e (.raw oe))) (HM.set_same _ _ _) ((HM.set_ne _ _ (Ne.symm hne)).trans (HM.set_same _ _ _)) ho hi (vs := (linesL l).map VT) ((HM.set_ne _ _ (Ne.symm he.1)).trans ((HM.set_ne _ _ (Ne.symm hit.1)).trans (HM.set_same _ _ _))) (by have := linesL_len l; rw [List.length_map]; omega),
    fun k m' H' => H' rv = some (.list (((linesL l).take k).mapIdx fun i y => VT ((if i = 0 then a else b) ++ y))) ∧ H.le H' ∧ m' = ([("rv", .ref rv), ("text", VT l), ("self", .ref x)] : LM), Keep.here ⟨?_, ?_, rfl⟩, ?_, ?_⟩
  · show (((((((H.set rv (.list [])).set li _).set it _).set e _).del e).del it).del li) rv = some (.list [])
    rw [HM.del_ne _ (Ne.symm hli.1), HM.del_ne _ (Ne.symm hit.2.1), HM.del_ne _ (Ne.symm he.2.1), HM.set_ne _ _ (Ne.symm he.2.1), HM.set_ne _ _ (Ne.symm hit.2.1), HM.set_ne _ _ (Ne.symm hli.1), HM.set_same]
  · intro z o hz
    have z1 : z ≠ rv := HM.ne_of hrv hz
    have z2 : z ≠ li := HM.ne_of hli.2 hz
    have z3 : z ≠ it := HM.ne_of hit.2.2 hz
    have z4 : z ≠ e := HM.ne_of he.2.2 hz
    rw [HM.del_ne _ z2, HM.del_ne _ z3, HM.del_ne _ z4, HM.set_ne _ _ z4, HM.set_ne _ _ z3, HM.set_ne _ _ z2, HM.set_ne _ _ z1]; exact hz
  · rintro k v m' H' hx ⟨h1, h2, rfl⟩
    rw [List.getElem?_map, Option.map_eq_some_iff] at hx
    obtain ⟨y, hy, rfl⟩ := hx
    have hx' := h2 _ _ hx1
    have hd' := h2 _ _ hd
    have hyl := linesL_mem (List.mem_of_getElem? hy)
    have hll := linesL_len l
    have hvl : (((linesL l).take k).mapIdx fun i y => VT ((if i = 0 then a else b) ++ y)).length ≤ 200000 := by rw [List.length_mapIdx, List.length_take]; omega
    have htk : (linesL l).take (k + 1) = (linesL l).take k ++ [y] := by rw [List.take_add_one, hy]; rfl
    have hkl : ((linesL l).take k).length = k := by rw [List.length_take]; have := (List.getElem?_eq_some_iff.mp hy).1; omega
    have hstep : ((linesL l).take (k + 1)).mapIdx (fun i y => VT ((if i = 0 then a else b) ++ y)) = ((linesL l).take k).mapIdx (fun i y => VT ((if i = 0 then a else b) ++ y)) ++ [VT ((if k = 0 then a else b) ++ y)] := by
      rw [htk, List.mapIdx_append, hkl]; simp
    walk_at "run"
    refine iteD (fun hk => ?_) (fun hk => ?_)
    · walk_at "run"
      refine ⟨_, rfl, by omega, ?_⟩
      walk_at "run"
      refine ⟨_, rfl, by omega, ?_⟩
      walk_at "run"
      refine ⟨_, _, by walk_at "le", HM.le.refl _, ?_, ?_, rfl⟩
      · rw [HM.set_same, hstep, if_neg (by omega)]
      · rename_i r0 hr0
        intro z o hz
        rw [HM.set_ne _ _ (HM.ne_of hrv hz), HM.set_ne _ _ (HM.ne_of hr0 (h2 z o hz))]; exact h2 z o hz
    · walk_at "run"
      refine ⟨_, rfl, by omega, ?_⟩
      walk_at "run"
      refine ⟨_, rfl, by omega, ?_⟩
      walk_at "run"
      refine ⟨_, _, by walk_at "le", HM.le.refl _, ?_, ?_, rfl⟩
      · rw [HM.set_same, hstep, if_pos (by omega)]
      · rename_i r0 hr0
        intro z o hz
        rw [HM.set_ne _ _ (HM.ne_of hrv hz), HM.set_ne _ _ (HM.ne_of hr0 (h2 z o hz))]; exact h2 z o hz
  · rintro m' H' ⟨h1, h2, rfl⟩
    rw [List.length_map, List.take_length] at h1
    have h3 : (H'.set li (.list ((linesL l).map VT))) rv = some (.list (((linesL l).mapIdx fun i y => ((if i = 0 then a else b) ++ y)).map VT)) := by
      rw [HM.set_ne _ _ (Ne.symm hli.1), h1]; congr 2; apply List.ext_getElem?; intro i; simp; rfl
    walk_at "run"
    exact EndJ.ret H (fun z o hz => by rw [HM.set_ne _ _ (HM.ne_of hli.2 hz)]; exact h2 z o hz) h
end

section
variable {c : FC} {P : Params} {n : Nat} {m : LM} {H : HM} {X : XM}
theorem cellsH_le {H : HM} {cs : List (Str × Addr)} {cm : Str → Option Value} (h : ∀ p ∈ cs, H p.2 = none) : H.le (cellsH H cs cm) := fun a o e => by
  rw [cellsH_none (fun p hp q => by rw [← q, h p hp] at e; cases e)]; exact e
theorem K_text0 {w : Int} {fi fr ts : List Tk} {out : List (List Tk)} {k : Nat} {Q : Value → HM → Prop} (O : Ok c (KK P) (n + 8))
    (hw : 0 < w) (oi : okT fi) (or : okT fr) (ot : okT ts) (li : (flatT fi).length ≤ 100000) (lr : (flatT fr).length ≤ 100000) (lt : (flatT ts).length ≤ 100000) (hk : k ≤ 100000) (hf : wrapF w fi fr k (chunkT ts) [] = some out)
    (hj : joinSize [10] (out.map flatT) ≤ 16000000) (h : Q (VT (joinL [10] (out.map flatT))) H) : CallJ c (.ref 190) [VT (flatT ts), VI w, VT (flatT fi), VT (flatT fr)] [] m H Q X := by
  refine CallJ.run (bs := [("text", VT (flatT ts)), ("width", VI w), ("initial_indent", VT (flatT fi)), ("subsequent_indent", VT (flatT fr)), ("preserve_paragraphs", VB false)]) O ⟨⟨_, _, _, rfl⟩, rfl, rfl, rfl, rfl, rfl, rfl, rfl, rfl, by decide⟩ ?_ rfl ?_
  · intro Vs Ks e1 e2
    obtain ⟨A, B, C, D, rfl, hA, hB, hC, hD⟩ := call4 e1
    obtain rfl := kw0 e2
    refine ⟨[("text", A), ("width", B), ("initial_indent", C), ("subsequent_indent", D), ("preserve_paragraphs", .bool false)], fun s X => binds_K X rfl rfl rfl rfl rfl, ?_⟩
    simp only [List.map_cons, List.map_nil, hA, hB, hC, hD]
    rfl
  · intro L hL Ok'
    show Exs _ _ [("preserve_paragraphs", VB false), ("subsequent_indent", VT (flatT fr)), ("initial_indent", VT (flatT fi)), ("width", VI w), ("text", VT (flatT ts))] _ _ _
    have hle : H.le (cellsH H (cellsFrom (L + 1) (fdOf (KK P) 190).scope.names []) (bindCM (c.call (fdOf (KK P) 190) L 190).env.kindOf [("text", VT (flatT ts)), ("width", VI w), ("initial_indent", VT (flatT fi)), ("subsequent_indent", VT (flatT fr)), ("preserve_paragraphs", VB false)] fun x => none)) := by
      refine cellsH_le (List.forall_mem_cons.mpr ⟨?_, List.forall_mem_cons.mpr ⟨?_, List.forall_mem_cons.mpr ⟨?_, List.forall_mem_nil _⟩⟩⟩)
      all_goals refine hL _ ?_
      all_goals (first | exact Nat.le_add_right L 1 | exact Nat.le_add_right L 2 | exact Nat.le_add_right L 3)
    generalize cellsH H (cellsFrom (L + 1) (fdOf (KK P) 190).scope.names []) (bindCM (c.call (fdOf (KK P) 190) L 190).env.kindOf [("text", VT (flatT ts)), ("width", VI w), ("initial_indent", VT (flatT fi)), ("subsequent_indent", VT (flatT fr)), ("preserve_paragraphs", VB false)] fun x => none) = HC at hle
    walk_at "run"
    refine C_expandtabs (fun h9 => (flat_mem ot h9).1 rfl) ?_
    walk_at "run"
    refine CallJ.cls (fI := 51) (by assumption) rfl rfl rfl (fun c' O' e d he hd hed => ?_)
    refine K_init O' (HM.set_same _ _ _) ((HM.set_ne _ _ (Ne.symm hed)).trans (HM.set_same _ _ _)) hed ⟨rfl, ?_⟩
    rw [HM.set_comm _ _ _ hed, HM.set_set]
    have hx' : ((HC.set d (.dic (tw w (flatT fi) (flatT fr)))).set e (.raw (instObj 180 d))) e = some (.raw (instObj 180 d)) := HM.set_same _ _ _
    have hd' : ((HC.set d (.dic (tw w (flatT fi) (flatT fr)))).set e (.raw (instObj 180 d))) d = some (.dic (tw w (flatT fi) (flatT fr))) := (HM.set_ne _ _ (Ne.symm hed)).trans (HM.set_same _ _ _)
    have hle2 : H.le ((HC.set d (.dic (tw w (flatT fi) (flatT fr)))).set e (.raw (instObj 180 d))) := fun a o z => by
      rw [HM.set_ne _ _ (HM.ne_of he (hle a o z)), HM.set_ne _ _ (HM.ne_of hd (hle a o z))]; exact hle a o z
    generalize (HC.set d (.dic (tw w (flatT fi) (flatT fr)))).set e (.raw (instObj 180 d)) = H2 at hx' hd' hle2
    walk_at "run"
    refine iteTe rfl ?_
    walk_at "run"
    with_reducible refine K_fill (n := n) (by assumption) hx' hd' hw oi or ot li lr lt hk hf hj ?_
    walk_at "run"
    exact EndJ.ret H hle2 h
end

section
variable {c : FC} {P : Params} {n : Nat} {m : LM} {H : HM} {X : XM}
def defOf : Option Stmt → Option (Arguments × List Stmt × Scope)
  | some (.FunctionDef _ ps b _ _ _ sc _ _ _) => some (ps, b, sc)
  | _ => none
noncomputable def flushOf (P : Params) : Option (Arguments × List Stmt × Scope) := match (fdOf (KK P) 190).body with
  | .stmts l => defOf l[6]?
  | _ => none
theorem K_flush {prm : Arguments} {body : List Stmt} {scope : Scope} (hd : flushOf P = some (prm, body, scope)) {nm qual : Str} {f c' bA iA pA bl pl : Addr} {oc : Obj} {doc pm ctv : Value} {bs : List (List Nat)} {ps : List Value} {ind : Nat} {Q : Value → HM → Prop}
    (O : Ok c (KK P) (n + 2)) (hf : H f = some (.raw (fnMade nm qual prm body scope [("p", pA), ("indent", iA), ("buf", bA)] doc pm c' ctv))) (hc : H c' = some (.raw oc)) (hoc : ∃ vs t, oc.data = .fields vs ∧ vs[1]? = some (.str qual t))
    (hb : H bA = some (.cell (some (.ref bl)))) (hi : H iA = some (.cell (some (VI ind)))) (hp : H pA = some (.cell (some (.ref pl)))) (hbl : H bl = some (.list (bs.map VT))) (hpl : H pl = some (.list ps)) (hne : bl ≠ pl) (hbn : bs ≠ [])
    (lb : ∀ x ∈ bs, x.length ≤ 100000) (ln : bs.length ≤ 100000) (lp : ps.length ≤ 100000) (j1 : joinSize [10] bs.tail ≤ 16000000) (j2 : joinSize [32] bs ≤ 16000000)
    (h : ∀ t, H t = none → Q .none (((H.set t (.tup [VI ind, VB (stripL Unicode.isSpace (bs.headD []) == [8]), VT (if stripL Unicode.isSpace (bs.headD []) = [8] then joinL [10] bs.tail else joinL [32] bs)])).set pl (.list (ps ++ [.ref t]))).set bl (.list []))) : CallJ c (.ref f) [] [] m H Q X := by
  have nb : bA ≠ pl := by rintro rfl; rw [hb] at hpl; cases hpl
  have nb2 : bA ≠ bl := by rintro rfl; rw [hb] at hbl; cases hbl
  have e : flushOf P = some (_, _, _) := rfl
  rw [hd] at e
  cases e
  refine CallJ.clo O hf hc rfl hoc rfl rfl ?_ rfl rfl rfl rfl rfl ?_
  · intro x hx
    simp at hx
    rcases hx with rfl | rfl | rfl <;> nofun
  · intro L hL Ok'
    cases bs with
    | nil => exact absurd rfl hbn
    | cons x xs =>
      have lbl : ((x :: xs).map VT).length ≤ 16000000 := by rw [List.length_map]; omega
      have lx := lb x List.mem_cons_self
      have hbl : H bl = some (.list (VT x :: xs.map VT)) := hbl
      walk_at "run"
      refine iteFe rfl ?_
      walk_at "run"
      refine iteD (fun hk => ?_) (fun hk => ?_)
      · rw [show (stripL Unicode.isSpace ((x :: xs).headD []) == [8]) = true from beq_iff_eq.mpr hk] at h
        walk_at "run"
        have h : ∀ t, H t = none → Q .none (((H.set t (.tup [VI ind, VB true, VT (joinL [10] xs)])).set pl (.list (ps ++ [.ref t]))).set bl (.list [])) := fun t ht => by
          have := h t ht
          rw [if_pos (show stripL Unicode.isSpace ((x :: xs).headD []) = [8] from hk)] at this
          exact this
        refine iteN (fun h0 => ?_) (fun h0 => ?_)
        · walk_at "run"
          refine SliceG.list (Bnd.ofInt (by decide)) .non hbl (by simp at lbl ⊢; omega) (fun q hq => ?_)
          walk_at "run"
          rename_i t t1 ht
          exact ⟨_, HM.set_le _ _ (HM.set_le _ _ (HM.set_le _ _ (HM.le_fresh hq))), h t ht⟩
        · obtain rfl : ind = 0 := by omega
          walk_at "run"
          refine SliceG.list (Bnd.ofInt (by decide)) .non hbl (by simp at lbl ⊢; omega) (fun q hq => ?_)
          walk_at "run"
          rename_i t t1 ht
          exact ⟨_, HM.set_le _ _ (HM.set_le _ _ (HM.set_le _ _ (HM.le_fresh hq))), h t ht⟩
      · have h : ∀ t, H t = none → Q .none (((H.set t (.tup [VI ind, VB false, VT (joinL [32] (x :: xs))])).set pl (.list (ps ++ [.ref t]))).set bl (.list [])) := fun t ht => by
          have := h t ht
          rw [show (stripL Unicode.isSpace ((x :: xs).headD []) == [8]) = false from beq_eq_false_iff_ne.mpr hk, if_neg (show ¬ stripL Unicode.isSpace ((x :: xs).headD []) = [8] from hk)] at this
          exact this
        walk_at "run"
        refine iteN (fun h0 => ?_) (fun h0 => ?_)
        · walk_at "run"
          rename_i t ht
          exact EndJ.nextE (h t ht)
        · obtain rfl : ind = 0 := by omega
          walk_at "run"
          rename_i t ht
          exact EndJ.nextE (h t ht)
theorem K_flush0 {prm : Arguments} {body : List Stmt} {scope : Scope} (hd : flushOf P = some (prm, body, scope)) {nm qual : Str} {f c' bA iA pA bl : Addr} {oc : Obj} {doc pm ctv : Value} {Q : Value → HM → Prop}
    (O : Ok c (KK P) (n + 2)) (hf : H f = some (.raw (fnMade nm qual prm body scope [("p", pA), ("indent", iA), ("buf", bA)] doc pm c' ctv))) (hc : H c' = some (.raw oc)) (hoc : ∃ vs t, oc.data = .fields vs ∧ vs[1]? = some (.str qual t))
    (hb : H bA = some (.cell (some (.ref bl)))) (hbl : H bl = some (.list [])) (h : Q .none H) : CallJ c (.ref f) [] [] m H Q X := by
  have e : flushOf P = some (_, _, _) := rfl
  rw [hd] at e
  cases e
  refine CallJ.clo O hf hc rfl hoc rfl rfl ?_ rfl rfl rfl rfl rfl ?_
  · intro x hx
    simp at hx
    rcases hx with rfl | rfl | rfl <;> nofun
  · intro L hL Ok'
    have hz : ([] : List Value).length ≤ 16000000 := by decide
    walk_at "run"
    refine iteTe rfl ?_
    walk_at "run"
    exact EndJ.retE h
end

section
variable {c : FC} {P : Params} {n : Nat} {m : LM} {H : HM} {X : XM}
theorem Ex.via {st : Stmt} {rest : List Stmt} {Q : Flow → LM → HM → Prop} (P : LM → HM → Prop) (h : Ex c st m H (ViaJ P) X) (h2 : ∀ m' H', P m' H' → Exs c rest m' H' Q X) : Ex c st m H (ThenJ c rest Q X) X :=
  Fw.mono h (fun f m1 H1 ⟨e, m2, H2, l1, l2, hp⟩ => by subst e; exact ThenJ.next ((h2 m2 H2 hp).weak l1 l2)) fun _ _ _ e => e
def fpos : Pos := { line := 165, col := 4, endLine := 172, endCol := 18 }
noncomputable def qualF (P : Params) : Str := (fdOf (KK P) 190).qualname ++ ".<locals>." ++ "_flush_par"
/-- the table of wrap_text's code: empty, or with _flush_par's -/
def TabSt (P : Params) (H : HM) : Prop := ∃ ps : Array Value, H 185 = some (.raw (tabObj ps)) ∧ TriplesOk ps.toList ∧ (codeAmong fpos ps.toList = none ∨ ∃ c' oc, codeAmong fpos ps.toList = some (.ref c') ∧ H c' = some (.raw oc) ∧ ∃ vs t, oc.data = .fields vs ∧ vs[1]? = some (.str (qualF P) t))
def FnF (P : Params) (H : HM) (f bA iA pA : Addr) : Prop := ∃ prm body scope nm qual doc pm ctv c' oc, flushOf P = some (prm, body, scope) ∧ H f = some (.raw (fnMade nm qual prm body scope [("p", pA), ("indent", iA), ("buf", bA)] doc pm c' ctv)) ∧ H c' = some (.raw oc) ∧ ∃ vs t, oc.data = .fields vs ∧ vs[1]? = some (.str qual t)
theorem FnF.upd {P : Params} {H H' : HM} {f bA iA pA : Addr} {l : List Addr} (h : FnF P H f bA iA pA) (u : Upd l H H') (hl : ∀ a ∈ l, ∀ o, H a ≠ some (.raw o)) : FnF P H' f bA iA pA := by
  obtain ⟨prm, body, scope, nm, qual, doc, pm, ctv, c', oc, e1, e2, e3, e4⟩ := h
  exact ⟨prm, body, scope, nm, qual, doc, pm, ctv, c', oc, e1, u _ _ (fun q => hl _ q _ e2) e2, u _ _ (fun q => hl _ q _ e3) e3, e4⟩
inductive F2 {α β : Type} (R : α → β → Prop) : List α → List β → Prop
  | nil : F2 R [] []
  | cons {a b as bs} (h : R a b) (t : F2 R as bs) : F2 R (a :: as) (b :: bs)
theorem FnF.kp {P : Params} {H : HM} {f bA iA pA : Addr} (h : FnF P H f bA iA pA) : Kp c (.ref f) H := by
  obtain ⟨prm, body, scope, nm, qual, doc, pm, ctv, c', oc, e1, e2, e3, e4⟩ := h
  exact Kp.raw e2 rfl
def ParAt (H : HM) (a : Addr) (q : Par) : Prop := H a = some (.tup [VI q.1, VB q.2.1, VT (flatT q.2.2)])
structure PS (H : HM) (bA iA pA bl pl : Addr) (ind : Nat) (buf : List (List Tk)) (as : List Addr) (ps : List Par) : Prop where
  b : H bA = some (.cell (some (.ref bl)))
  i : H iA = some (.cell (some (if buf = [] then .none else VI ind)))
  p : H pA = some (.cell (some (.ref pl)))
  bl : H bl = some (.list (buf.map fun l => VT (flatT l)))
  pl : H pl = some (.list (as.map .ref))
  q : F2 (ParAt H) as ps
theorem ParAt.upd {H H' : HM} {l : List Addr} (u : Upd l H H') (hl : ∀ a ∈ l, ∀ o, H a ≠ some (.tup o)) {as : List Addr} {ps : List Par} (h : F2 (ParAt H) as ps) : F2 (ParAt H') as ps := by
  induction h with
  | nil => exact .nil
  | cons h _ ih => exact .cons (u _ _ (fun q => hl _ q _ h) h) ih
theorem F2.snoc {α β : Type} {R : α → β → Prop} {as : List α} {bs : List β} {a : α} {b : β} (h : F2 R as bs) (h2 : R a b) : F2 R (as ++ [a]) (bs ++ [b]) := by
  induction h with
  | nil => exact .cons h2 .nil
  | cons h _ ih => exact .cons h ih
theorem PS.upd {H H' : HM} {bA iA pA bl pl : Addr} {ind : Nat} {buf : List (List Tk)} {as : List Addr} {ps : List Par} (S : PS H bA iA pA bl pl ind buf as ps) (u : Upd [] H H') : PS H' bA iA pA bl pl ind buf as ps :=
  ⟨u _ _ (by simp) S.b, u _ _ (by simp) S.i, u _ _ (by simp) S.p, u _ _ (by simp) S.bl, u _ _ (by simp) S.pl, ParAt.upd u (by simp) S.q⟩
theorem Upd.comp {l l' l'' : List Addr} {H H' H'' : HM} (u : Upd l H H') (v : Upd l' H' H'') (h : ∀ a, a ∈ l ∨ a ∈ l' → a ∈ l'' ∨ H a = Option.none) : Upd l'' H H'' := fun b o hb e => by
  have n1 : b ∉ l := fun q => (h b (.inl q)).elim (fun q => hb q) fun q => by rw [q] at e; cases e
  have n2 : b ∉ l' := fun q => (h b (.inr q)).elim (fun q => hb q) fun q => by rw [q] at e; cases e
  exact v b o n2 (u b o n1 e)
theorem Upd.delAt {l : List Addr} {H H' : HM} {a : Addr} (h : a ∈ l) (u : Upd l H H') : Upd l H (H'.del a) := fun b x hb e => by
  rw [HM.del_ne _ (by rintro rfl; exact hb h)]; exact u b x hb e
theorem TabSt.upd {P : Params} {H H' : HM} {l : List Addr} (h : TabSt P H) (u : Upd l H H') (hl : ∀ a ∈ l, ∀ o, H a ≠ some (.raw o)) : TabSt P H' := by
  obtain ⟨ps, h1, h2, h3⟩ := h
  refine ⟨ps, u _ _ (fun q => hl _ q _ h1) h1, h2, h3.imp id ?_⟩
  rintro ⟨c', oc, e1, e2, e3⟩
  exact ⟨c', oc, e1, u _ _ (fun q => hl _ q _ e2) e2, e3⟩
theorem F2.get {α β : Type} {R : α → β → Prop} {as : List α} {bs : List β} (h : F2 R as bs) : ∀ {k : Nat} {a : α}, as[k]? = some a → ∃ b, bs[k]? = some b ∧ R a b := by
  induction h with
  | nil => intro k a h; simp at h
  | cons h _ ih =>
    intro k x hx
    cases k with
    | zero => rw [List.getElem?_cons_zero] at hx; cases hx; exact ⟨_, rfl, h⟩
    | succ k => rw [List.getElem?_cons_succ] at hx ⊢; exact ih hx
theorem F2.len {α β : Type} {R : α → β → Prop} {as : List α} {bs : List β} (h : F2 R as bs) : as.length = bs.length := by
  induction h with
  | nil => rfl
  | cons _ _ ih => rw [List.length_cons, List.length_cons, ih]
/-- what a paragraph is laid as -/
def ParRes (w : Int) (fi fr : List Tk) (q : Par) (x : List Nat) : Prop :=
  if q.2.1 = true then joinSize [10] ((linesL (flatT q.2.2)).mapIdx fun i y => (if i = 0 then flatT fi ++ List.replicate q.1 32 else flatT fr ++ List.replicate q.1 32) ++ y) ≤ 16000000 ∧ x = joinL [10] ((linesL (flatT q.2.2)).mapIdx fun i y => (if i = 0 then flatT fi ++ List.replicate q.1 32 else flatT fr ++ List.replicate q.1 32) ++ y)
  else ∃ k out, k ≤ 100000 ∧ wrapF w (fi ++ plain (List.replicate q.1 32)) (fr ++ plain (List.replicate q.1 32)) k (chunkT q.2.2) [] = some out ∧ joinSize [10] (out.map flatT) ≤ 16000000 ∧ x = joinL [10] (out.map flatT)
/-- a flush, by tokens -/
theorem K_flushP {f bA iA pA bl pl : Addr} {ind : Nat} {buf : List (List Tk)} {as : List Addr} {ps : List Par} {Q : Value → HM → Prop} (O : Ok c (KK P) (n + 2)) (hf : FnF P H f bA iA pA) (S : PS H bA iA pA bl pl ind buf as ps)
    (lb : szL buf ≤ 90001) (lp : as.length ≤ 90001)
    (h : ∀ H' as', Upd [bl, pl] H H' → H' bA = some (.cell (some (.ref bl))) → H' pA = some (.cell (some (.ref pl))) → H' bl = some (.list []) → H' pl = some (.list (as'.map .ref)) → F2 (ParAt H') as' (ps ++ flushP ind buf) → as'.length ≤ as.length + (if buf = [] then 0 else 1) → (∀ o, H iA = some o → H' iA = some o) → Q .none H') : CallJ c (.ref f) [] [] m H Q X := by
  obtain ⟨prm, body, scope, nm, qual, doc, pm, ctv, c', oc, e1, e2, e3, e4⟩ := hf
  cases buf with
  | nil =>
    refine K_flush0 e1 O e2 e3 e4 S.b S.bl ?_
    exact h H as (Upd.refl _ _) S.b S.p S.bl S.pl (by show F2 _ _ (ps ++ []); rw [List.append_nil]; exact S.q) (by simp) fun _ e => e
  | cons x r =>
    have hi := S.i
    rw [if_neg (by simp)] at hi
    have hbl := S.bl
    have hlen : ∀ y ∈ (x :: r).map flatT, y.length ≤ 100000 := fun y hy => by
      obtain ⟨l, hl, rfl⟩ := List.mem_map.mp hy
      exact Nat.le_trans (szL_mem hl) (by omega)
    have hln : ((x :: r).map flatT).length ≤ 100000 := by
      rw [List.length_map]; have := szL_len (x :: r); omega
    have hne : bl ≠ pl := by
      intro q
      have h1 := S.bl
      rw [q, S.pl] at h1
      cases as with
      | nil => simp at h1
      | cons a as => simp only [List.map_cons, Option.some.injEq, AO.list.injEq, List.cons.injEq] at h1; exact absurd h1.1 (by simp [VT])
    have hbl' : H bl = some (.list (((x :: r).map flatT).map VT)) := by rw [hbl, List.map_map]; rfl
    have hbn : bA ≠ bl := fun q => by have := S.b; rw [q, hbl] at this; cases this
    have hbn2 : bA ≠ pl := fun q => by have := S.b; rw [q, S.pl] at this; cases this
    have hpn : pA ≠ bl := fun q => by have := S.p; rw [q, hbl] at this; cases this
    have hpn2 : pA ≠ pl := fun q => by have := S.p; rw [q, S.pl] at this; cases this
    have hin : iA ≠ bl := fun q => by rw [q, hbl] at hi; cases hi
    have hin2 : iA ≠ pl := fun q => by rw [q, S.pl] at hi; cases hi
    have js : joinSize [10] ((x :: r).map flatT).tail ≤ 16000000 := by
      rw [List.map_cons, List.tail_cons, szL_join]; rw [szL_cons] at lb; omega
    with_reducible refine K_flush (bs := (x :: r).map flatT) (ind := ind) e1 O e2 e3 e4 S.b hi S.p hbl' S.pl hne (by simp) hlen hln (by rw [List.length_map]; omega) js (by rw [szL_join]; omega) fun t ht => ?_
    have u : Upd [bl, pl] H (((H.set t (.tup [VI ind, VB (stripL Unicode.isSpace (((x :: r).map flatT).headD []) == [8]), VT (if stripL Unicode.isSpace (((x :: r).map flatT).headD []) = [8] then joinL [10] ((x :: r).map flatT).tail else joinL [32] ((x :: r).map flatT))])).set pl (.list (as.map .ref ++ [.ref t]))).set bl (.list [])) :=
      Upd.at (by simp) (Upd.at (by simp) (Upd.old ht (Upd.refl _ _)))
    have tn : ∀ a o, H a = some o → a ≠ t := fun a o e => HM.ne_of ht e
    have tl : t ≠ bl := Ne.symm (tn _ _ hbl)
    have tp : t ≠ pl := Ne.symm (tn _ _ S.pl)
    refine h _ (as ++ [t]) u (u _ _ (by simp [hbn, hbn2]) S.b) (u _ _ (by simp [hpn, hpn2]) S.p) (HM.set_same _ _ _) ?_ ?_ (by simp) (fun o e => u _ _ (by simp [hin, hin2]) e)
    · rw [HM.set_ne _ _ (Ne.symm hne), HM.set_same, List.map_append]; rfl
    · refine F2.snoc (ParAt.upd u (fun a ha o e => ?_) S.q) ?_
      · rcases List.mem_cons.mp ha with rfl | ha
        · rw [hbl] at e; cases e
        · rw [List.mem_singleton.mp ha, S.pl] at e; cases e
      · show _ = _
        rw [HM.set_ne _ _ tl, HM.set_ne _ _ tp, HM.set_same]
        show some (AO.tup [_, VB (stripL Unicode.isSpace (flatT x) == [8]), VT (if stripL Unicode.isSpace (flatT x) = [8] then joinL [10] (r.map flatT) else joinL [32] ((x :: r).map flatT))]) = some (AO.tup [_, _, VT (flatT (if stripL Unicode.isSpace (flatT x) = [8] then joinTk 10 r else joinTk 32 (x :: r)))])
        split
        · rw [joinTk_flat]
        · rw [joinTk_flat]
end

section
variable {c : FC} {P : Params} {n : Nat} {m : Value} {H : HM} {X : XM}
noncomputable def textBody (P : Params) : List Stmt := match (fdOf (KK P) 190).body with
  | .stmts l => l
  | _ => []
noncomputable def stN (P : Params) (k : Nat) : Stmt := match (textBody P)[k]? with
  | some s => s
  | none => .Pass ⟨0, 0, 0, 0⟩
theorem plain_flat_rep (fi : List Tk) (k : Nat) : flatT (fi ++ plain (List.replicate k 32)) = flatT fi ++ List.replicate k 32 := by rw [flatT_append, flatT_plain]
theorem plain_ok {l : List Nat} (h : ∀ x ∈ l, (Tk.ch x).ok) : okT (plain l) := fun t ht => by
  obtain ⟨x, hx, rfl⟩ := List.mem_map.mp ht
  exact h x hx
set_option maxHeartbeats 4000000 in
theorem K_pars {w : Int} {fi fr : List Tk} {ps : List Par} {res : List (List Nat)} {as : List Addr} {L rv r1 d e f : Addr} {Q : Value → HM → Prop}
    (O' : Ok (c.call (fdOf (KK P) 190) L 190) (KK P) (n + 7)) (v3 : H (L + 1 + 1 + 1) = some (.cell (some (.ref r1)))) (v5 : H r1 = some (.list (as.map .ref))) (v6 : F2 (ParAt H) as ps) (v9 : ∃ v, H (L + 1 + 1) = some (.cell v))
    (w6 : H d = some (.dic (tw w (flatT fi) (flatT fr)))) (w7 : H e = some (.raw (instObj 180 d))) (hrv : H rv = some (.list [])) (las : as.length ≤ 90002) (hrd : rv ≠ r1)
    (hres : F2 (ParRes w fi fr) ps res) (hok : ∀ q ∈ ps, q.1 ≤ 80001 ∧ okT q.2.2 ∧ (flatT q.2.2).length ≤ 80001) (hw : 0 < w) (oi : okT fi) (or : okT fr) (li : (flatT fi).length ≤ 10000) (lr : (flatT fr).length ≤ 10000) (hjr : joinSize [10, 10] res ≤ 16000000)
    (h : ∀ H', Upd [rv, d, L + 1 + 1] H H' → Q (VT (joinL [10, 10] res)) H') :
    Ex (c.call (fdOf (KK P) 190) L 190) (stN P 10) ([("rv", .ref rv), ("_flush_par", .ref f), ("wrapper", .ref e), ("preserve_paragraphs", VB true), ("subsequent_indent", VT (flatT fr)), ("initial_indent", VT (flatT fi)), ("width", VI w), ("text", m)] : LM) H (ThenJ (c.call (fdOf (KK P) 190) L 190) [stN P 11] (EndJ Q) XF) XF := by
  have e1 : stN P 10 = .For _ _ _ _ _ := rfl
  have e2 : stN P 11 = .Return _ _ := rfl
  rw [e1, e2]
  have nrd : rv ≠ d := fun q => by rw [q, w6] at hrv; cases hrv
  obtain ⟨v0, v9⟩ := v9
  have nri : rv ≠ L + 1 + 1 := fun q => by rw [q, v9] at hrv; cases hrv
  have ndi : d ≠ L + 1 + 1 := fun q => by rw [q, v9] at w6; cases w6
  have nr1d : r1 ≠ d := fun q => by rw [q, w6] at v5; cases v5
  have nr1i : r1 ≠ L + 1 + 1 := fun q => by rw [q, v9] at v5; cases v5
  have nre : rv ≠ e := fun q => by rw [q, w7] at hrv; cases hrv
  have nde : d ≠ e := fun q => by rw [q, w7] at w6; cases w6
  have nie : e ≠ L + 1 + 1 := fun q => by rw [q, v9] at w7; cases w7
  have nr1e : r1 ≠ e := fun q => by rw [q, w7] at v5; cases v5
  refine Ex.forGN O'.hh ?_ (fun _ => rfl)
  walk_at "run"
  have u5 : Upd [r1] H (H.del r1) := Upd.delAt (by simp) (Upd.refl _ _)
  refine ForJN.list v5 (by rw [List.length_map]; omega) (fun k m' H' => m' = ([("rv", .ref rv), ("wrapper", .ref e)] : LM) ∧ Upd [rv, d, L + 1 + 1, r1] H H' ∧ H' rv = some (.list ((res.take k).map VT)) ∧ H' d = some (.dic (tw w (flatT fi) (flatT fr))) ∧ ∃ v, H' (L + 1 + 1) = some (.cell v))
    ⟨_, _, by walk_at "le", HM.le.refl _, rfl, Upd.delAt (by simp) (Upd.refl _ _), by rw [HM.del_ne _ hrd]; exact hrv, by rw [HM.del_ne _ (Ne.symm nr1d)]; exact w6, _, by rw [HM.del_ne _ (Ne.symm nr1i)]; exact v9⟩ ?_ ?_
  · rintro k x m' H' hx hn ⟨rfl, u2, g1, g2, v1, g3⟩
    rw [List.getElem?_map, Option.map_eq_some_iff] at hx
    obtain ⟨t, ht, rfl⟩ := hx
    obtain ⟨q, hq, hqa⟩ := v6.get ht
    obtain ⟨y, hy, hyr⟩ := hres.get hq
    obtain ⟨ok1, ok2, ok3⟩ := hok q (List.mem_of_getElem? hq)
    have g4 : H' t = some (.tup [VI q.1, VB q.2.1, VT (flatT q.2.2)]) := u2 _ _ (by
      simp only [List.mem_cons, List.not_mem_nil, or_false, not_or]
      unfold ParAt at hqa
      refine ⟨fun z => ?_, fun z => ?_, fun z => ?_, fun z => ?_⟩
      · rw [z, hrv] at hqa; cases hqa
      · rw [z, w6] at hqa; cases hqa
      · rw [z, v9] at hqa; cases hqa
      · rw [z, v5] at hqa; cases hqa) hqa
    have g5 : H' e = some (.raw (instObj 180 d)) := u2 _ _ (by simp [Ne.symm nre, Ne.symm nde, nie, Ne.symm nr1e]) w7
    walk_at "run"
    refine Ex.with ?_
    have k1 : (H'.set (L + 1 + 1) (.cell (some (VI (q.1 : Int))))) (L + 1 + 1) = some (.cell (some (VI (q.1 : Int)))) := HM.set_same _ _ _
    have k2 : (H'.set (L + 1 + 1) (.cell (some (VI (q.1 : Int))))) e = some (.raw (instObj 180 d)) := by rw [HM.set_ne _ _ nie]; exact g5
    have k3 : (H'.set (L + 1 + 1) (.cell (some (VI (q.1 : Int))))) d = some (.dic (tw w (flatT fi) (flatT fr))) := by rw [HM.set_ne _ _ ndi]; exact g2
    have k4 : (H'.set (L + 1 + 1) (.cell (some (VI (q.1 : Int))))) rv = some (.list ((res.take k).map VT)) := by rw [HM.set_ne _ _ nri]; exact g1
    have k5 : Upd [rv, d, L + 1 + 1, r1] H (H'.set (L + 1 + 1) (.cell (some (VI (q.1 : Int))))) := Upd.at (by simp) u2
    generalize H'.set (L + 1 + 1) (.cell (some (VI (q.1 : Int)))) = H5 at *
    walk_at "run"
    refine O_mulT (by omega) (by simp; omega) ?_
    rw [Int.toNat_natCast, times_one]
    walk_at "run"
    with_reducible refine K_extra (n := n + 4) (by assumption) fun e2 d2 he2 hd2 hed2 => ?_
    have dn : ∀ {a o}, H5 a = some o → a ≠ d2 := fun z => HM.ne_of hd2 z
    have en : ∀ {a o}, H5 a = some o → a ≠ e2 := fun z => HM.ne_of he2 z
    refine ⟨e2, 110, d2, _, 100, 107, KK P, n + 7, rfl, HM.set_same _ _ _, (HM.set_ne _ _ (Ne.symm hed2)).trans (HM.set_same _ _ _), by assumption, rfl, rfl, rfl, rfl, ?_⟩
    have k6 : Upd [] H5 ((H5.set d2 (.dic [("wrapper", .ref e), ("indent", VT (List.replicate q.1 32))])).set e2 (.raw (instObj 110 d2))) := Upd.old he2 (Upd.old hd2 (Upd.refl _ _))
    refine K_enter (n := n + 6) (w := w) (by assumption) (HM.set_same _ _ _) ((HM.set_ne _ _ (Ne.symm hed2)).trans (HM.set_same _ _ _)) (k6 _ _ (by simp) k2) (k6 _ _ (by simp) k3) (Ne.symm hed2) (Ne.symm (dn k2)) (Ne.symm (dn k3)) (en k3) nde (by simp; omega) (by simp; omega) ?_
    have k7 : Upd [d] H5 ((((H5.set d2 (.dic [("wrapper", .ref e), ("indent", VT (List.replicate q.1 32))])).set e2 (.raw (instObj 110 d2))).set d2 (.dic (ei e (List.replicate q.1 32) (flatT fi) (flatT fr)))).set d (.dic (tw w (flatT fi ++ List.replicate q.1 32) (flatT fr ++ List.replicate q.1 32)))) :=
      Upd.at (by simp) (Upd.old hd2 (Upd.old he2 (Upd.old hd2 (Upd.refl _ _))))
    have k8 : ((((H5.set d2 (.dic [("wrapper", .ref e), ("indent", VT (List.replicate q.1 32))])).set e2 (.raw (instObj 110 d2))).set d2 (.dic (ei e (List.replicate q.1 32) (flatT fi) (flatT fr)))).set d (.dic (tw w (flatT fi ++ List.replicate q.1 32) (flatT fr ++ List.replicate q.1 32)))) d = _ := HM.set_same _ _ _
    have k9 : ((((H5.set d2 (.dic [("wrapper", .ref e), ("indent", VT (List.replicate q.1 32))])).set e2 (.raw (instObj 110 d2))).set d2 (.dic (ei e (List.replicate q.1 32) (flatT fi) (flatT fr)))).set d (.dic (tw w (flatT fi ++ List.replicate q.1 32) (flatT fr ++ List.replicate q.1 32)))) d2 = some (.dic (ei e (List.replicate q.1 32) (flatT fi) (flatT fr))) := (HM.set_ne _ _ (Ne.symm (dn k3))).trans (HM.set_same _ _ _)
    have k10 : ((((H5.set d2 (.dic [("wrapper", .ref e), ("indent", VT (List.replicate q.1 32))])).set e2 (.raw (instObj 110 d2))).set d2 (.dic (ei e (List.replicate q.1 32) (flatT fi) (flatT fr)))).set d (.dic (tw w (flatT fi ++ List.replicate q.1 32) (flatT fr ++ List.replicate q.1 32)))) e2 = some (.raw (instObj 110 d2)) := (HM.set_ne _ _ (Ne.symm (en k3))).trans ((HM.set_ne _ _ hed2).trans (HM.set_same _ _ _))
    have nrd2 : rv ≠ d2 := dn k4
    have nre2 : rv ≠ e2 := en k4
    have nd2 : d2 ≠ e := Ne.symm (dn k2)
    have nd3 : d2 ≠ d := Ne.symm (dn k3)
    have nd4 : d ≠ e2 := en k3
    generalize ((((H5.set d2 (.dic [("wrapper", .ref e), ("indent", VT (List.replicate q.1 32))])).set e2 (.raw (instObj 110 d2))).set d2 (.dic (ei e (List.replicate q.1 32) (flatT fi) (flatT fr)))).set d (.dic (tw w (flatT fi ++ List.replicate q.1 32) (flatT fr ++ List.replicate q.1 32)))) = H7 at *
    have k11 : H7 e = some (.raw (instObj 180 d)) := k7 _ _ (by simp [Ne.symm nde]) k2
    have k12 : H7 rv = some (.list ((res.take k).map VT)) := k7 _ _ (by simp [nrd]) k4
    have hvl : ((res.take k).map VT).length < 16000000 := by
      rw [List.length_map, List.length_take, ← hres.len, ← v6.len]; omega
    have htk : (res.take (k + 1)).map VT = (res.take k).map VT ++ [VT y] := by rw [List.take_add_one, hy]; simp
    have fin : ∀ m2, LM.le ([("rv", .ref rv), ("wrapper", .ref e)] : LM) m2 → Keep (fun m' H' => m' = ([("rv", .ref rv), ("wrapper", .ref e)] : LM) ∧ Upd [rv, d, L + 1 + 1, r1] H H' ∧ H' rv = some (.list ((res.take (k + 1)).map VT)) ∧ H' d = some (.dic (tw w (flatT fi) (flatT fr))) ∧ ∃ v, H' (L + 1 + 1) = some (.cell v)) m2 ((H7.set rv (.list ((res.take k).map VT ++ [VT y]))).set d (.dic (tw w (flatT fi) (flatT fr)))) := fun m2 hm2 => by
      refine ⟨_, _, hm2, HM.le.refl _, rfl, ?_, ?_, HM.set_same _ _ _, ?_⟩
      · exact Upd.at (by simp) (Upd.at (by simp) (k5.comp k7 (fun a ha => .inl (by simp at ha ⊢; rcases ha with (z | z | z | z) | z <;> simp [z]))))
      · rw [HM.set_ne _ _ nrd, HM.set_same, htk]
      · exact ⟨_, by rw [HM.set_ne _ _ (Ne.symm ndi), HM.set_ne _ _ (Ne.symm nri)]; exact k7 _ _ (by simp [Ne.symm ndi]) k1⟩
    cases hraw : q.2.1 with
    | true =>
      unfold ParRes at hyr
      rw [hraw, if_pos rfl] at hyr
      obtain ⟨z1, rfl⟩ := hyr
      walk_at "run"
      refine K_only (n := n + 5) (by assumption) k11 k8 (by simp; omega) (by simp; omega) (by omega) (fun z => (flat_mem ok2 z).2.1 rfl) z1 ?_
      walk_at "run"
      with_reducible refine K_exit (n := n + 6) (w := w) (by assumption) ((HM.set_ne _ _ (Ne.symm nre2)).trans k10) ((HM.set_ne _ _ (Ne.symm nrd2)).trans k9) ((HM.set_ne _ _ (Ne.symm nre)).trans k11) ((HM.set_ne _ _ (Ne.symm nrd)).trans k8) (Ne.symm hed2) nd2 nd3 nd4 nde ?_
      walk_at "run"
      exact fin _ (by walk_at "le")
    | false =>
      unfold ParRes at hyr
      rw [hraw, if_neg (by simp)] at hyr
      obtain ⟨kf, out, z1, z2, z3, rfl⟩ := hyr
      walk_at "run"
      have rok : ∀ k, okT (plain (List.replicate k 32)) := fun k => plain_ok fun x hx => by rw [(List.mem_replicate.mp hx).2]; exact ok32
      with_reducible refine K_fill (n := n) (fi := fi ++ plain (List.replicate q.1 32)) (fr := fr ++ plain (List.replicate q.1 32)) (by assumption) k11 (by rw [plain_flat_rep, plain_flat_rep]; exact k8) hw (okT_append.mpr ⟨oi, rok _⟩) (okT_append.mpr ⟨or, rok _⟩) ok2 (by rw [plain_flat_rep]; simp; omega) (by rw [plain_flat_rep]; simp; omega) (by omega) z1 z2 z3 ?_
      walk_at "run"
      with_reducible refine K_exit (n := n + 6) (w := w) (by assumption) ((HM.set_ne _ _ (Ne.symm nre2)).trans k10) ((HM.set_ne _ _ (Ne.symm nrd2)).trans k9) ((HM.set_ne _ _ (Ne.symm nre)).trans k11) ((HM.set_ne _ _ (Ne.symm nrd)).trans k8) (Ne.symm hed2) nd2 nd3 nd4 nde ?_
      walk_at "run"
      exact fin _ (by walk_at "le")
  · rintro m' H' hn ⟨rfl, u2, g1, g2, v1, g3⟩
    have hl : as.length = res.length := by rw [v6.len, hres.len]
    rw [List.length_map, hl, List.take_length] at g1
    have g1' : (H'.set r1 (.list (as.map .ref))) rv = some (.list (res.map VT)) := by rw [HM.set_ne _ _ hrd]; exact g1
    walk_at "run"
    refine EndJ.retE (h _ fun a o ha e => ?_)
    by_cases q : a = r1
    · subst q; rw [v5] at e; rw [HM.set_same]; exact e
    · rw [HM.set_ne _ _ q]; exact u2 a o (by simp at ha ⊢; exact ⟨ha.1, ha.2.1, ha.2.2, q⟩) e
end

section
variable {c : FC} {P : Params} {n : Nat} {m : LM} {H : HM} {X : XM}
theorem qual_eq (L f : Addr) : qualnameIn (c.call (fdOf (KK P) 190) L f).env (Str.ofString "_flush_par") (Str.ofString "_flush_par") = qualF P := rfl
set_option maxHeartbeats 4000000 in
theorem K_text1 {p : Program} {loose : List Str} {mean : ExcName → Option Value} {mg mb : Str → Option Value} (T : Top p loose mean mg mb c.s₀.heap) (C : ∀ cc, (fdOf (KK P) 190).code = .ref cc → CodeHd c.s₀.heap cc 185) {w : Int} {fi fr ts : List Tk} {Q : Value → HM → Prop} (O : Ok c (KK P) (n + 8))
    (hw : 0 < w) (oi : okT fi) (or : okT fr) (ot : okT ts) (li : (flatT fi).length ≤ 10000) (lr : (flatT fr).length ≤ 10000) (lt : (flatT ts).length ≤ 80000)
    (hT : TabSt P H)
    {res : List (List Nat)} (hres : F2 (ParRes w fi fr) (parsT ts) res) (hjr : joinSize [10, 10] res ≤ 16000000)
    (h : ∀ H', Upd [185] H H' → TabSt P H' → Q (VT (joinL [10, 10] res)) H') : CallJ c (.ref 190) [VT (flatT ts), VI w, VT (flatT fi), VT (flatT fr), VB true] [] m H Q X := by
  refine CallJ.run (bs := [("text", VT (flatT ts)), ("width", VI w), ("initial_indent", VT (flatT fi)), ("subsequent_indent", VT (flatT fr)), ("preserve_paragraphs", VB true)]) O ⟨⟨_, _, _, rfl⟩, rfl, rfl, rfl, rfl, rfl, rfl, rfl, rfl, by decide⟩ (fun Vs Ks e1 e2 => by
    obtain ⟨A, B, C, D, E, rfl, hA, hB, hC, hD, hE⟩ := call5 e1
    obtain rfl := kw0 e2
    refine ⟨[("text", A), ("width", B), ("initial_indent", C), ("subsequent_indent", D), ("preserve_paragraphs", E)], fun s X => binds_K X rfl rfl rfl rfl rfl, ?_⟩
    simp only [List.map_cons, List.map_nil, hA, hB, hC, hD, hE]) rfl ?_
  intro L hL Ok'
  show Exs _ _ [("preserve_paragraphs", VB true), ("subsequent_indent", VT (flatT fr)), ("initial_indent", VT (flatT fi)), ("width", VI w), ("text", VT (flatT ts))] (((H.set (L + 1) (.cell none)).set (L + 1 + 1) (.cell none)).set (L + 1 + 1 + 1) (.cell none)) _ _
  have h1 := hL (L + 1) (Nat.le_add_right L 1)
  have h2 := hL (L + 1 + 1) (Nat.le_add_right L 2)
  have h3 := hL (L + 1 + 1 + 1) (Nat.le_add_right L 3)
  have n1 : L + 1 ≠ L + 1 + 1 := Nat.ne_of_lt (Nat.lt_succ_self _)
  have n2 : L + 1 + 1 ≠ L + 1 + 1 + 1 := Nat.ne_of_lt (Nat.lt_succ_self _)
  have n3 : L + 1 ≠ L + 1 + 1 + 1 := Nat.ne_of_lt (Nat.lt_trans (Nat.lt_succ_self _) (Nat.lt_succ_self _))
  walk_at "run"
  refine C_expandtabs (fun h9 => (flat_mem ot h9).1 rfl) ?_
  walk_at "run"
  refine CallJ.cls (fI := 51) (by assumption) rfl rfl rfl (fun c' O' e d he hd hed => ?_)
  refine K_init O' (HM.set_same _ _ _) ((HM.set_ne _ _ (Ne.symm hed)).trans (HM.set_same _ _ _)) hed ⟨rfl, ?_⟩
  rw [HM.set_comm _ _ _ hed, HM.set_set]
  simp only [HM.set_none] at he hd
  obtain ⟨he1, he2', he3, he⟩ := he
  obtain ⟨hd1, hd2, hd3, hd⟩ := hd
  walk_at "run"
  refine iteFe rfl ?_
  walk_at "run"
  rename_i r1 k1 k2 k3 k4 k5 k0 r2 j1 j2 j3 j4 j5 j6 j7 j0
  have u0 : Upd [] H ((((((((((H.set (L + 1) (.cell none)).set (L + 1 + 1) (.cell none)).set (L + 1 + 1 + 1) (.cell none)).set d (.dic (tw w (flatT fi) (flatT fr)))).set e (.raw (instObj 180 d))).set r1 (.list [])).set (L + 1 + 1 + 1) (.cell (some (.ref r1)))).set r2 (.list [])).set (L + 1) (.cell (some (.ref r2)))).set (L + 1 + 1) (.cell (some .none))) :=
    Upd.old h2 (Upd.old h1 (Upd.old j0 (Upd.old h3 (Upd.old k0 (Upd.old he (Upd.old hd (Upd.old h3 (Upd.old h2 (Upd.old h1 (Upd.refl _ _))))))))))
  have f1 : ((((((((((H.set (L + 1) (.cell none)).set (L + 1 + 1) (.cell none)).set (L + 1 + 1 + 1) (.cell none)).set d (.dic (tw w (flatT fi) (flatT fr)))).set e (.raw (instObj 180 d))).set r1 (.list [])).set (L + 1 + 1 + 1) (.cell (some (.ref r1)))).set r2 (.list [])).set (L + 1) (.cell (some (.ref r2)))).set (L + 1 + 1) (.cell (some .none))) (L + 1) = some (.cell (some (.ref r2))) := by walk_at "heap"
  have f2 : ((((((((((H.set (L + 1) (.cell none)).set (L + 1 + 1) (.cell none)).set (L + 1 + 1 + 1) (.cell none)).set d (.dic (tw w (flatT fi) (flatT fr)))).set e (.raw (instObj 180 d))).set r1 (.list [])).set (L + 1 + 1 + 1) (.cell (some (.ref r1)))).set r2 (.list [])).set (L + 1) (.cell (some (.ref r2)))).set (L + 1 + 1) (.cell (some .none))) (L + 1 + 1) = some (.cell (some .none)) := by walk_at "heap"
  have f3 : ((((((((((H.set (L + 1) (.cell none)).set (L + 1 + 1) (.cell none)).set (L + 1 + 1 + 1) (.cell none)).set d (.dic (tw w (flatT fi) (flatT fr)))).set e (.raw (instObj 180 d))).set r1 (.list [])).set (L + 1 + 1 + 1) (.cell (some (.ref r1)))).set r2 (.list [])).set (L + 1) (.cell (some (.ref r2)))).set (L + 1 + 1) (.cell (some .none))) (L + 1 + 1 + 1) = some (.cell (some (.ref r1))) := by walk_at "heap"
  have f4 : ((((((((((H.set (L + 1) (.cell none)).set (L + 1 + 1) (.cell none)).set (L + 1 + 1 + 1) (.cell none)).set d (.dic (tw w (flatT fi) (flatT fr)))).set e (.raw (instObj 180 d))).set r1 (.list [])).set (L + 1 + 1 + 1) (.cell (some (.ref r1)))).set r2 (.list [])).set (L + 1) (.cell (some (.ref r2)))).set (L + 1 + 1) (.cell (some .none))) r1 = some (.list []) := by walk_at "heap"
  have f5 : ((((((((((H.set (L + 1) (.cell none)).set (L + 1 + 1) (.cell none)).set (L + 1 + 1 + 1) (.cell none)).set d (.dic (tw w (flatT fi) (flatT fr)))).set e (.raw (instObj 180 d))).set r1 (.list [])).set (L + 1 + 1 + 1) (.cell (some (.ref r1)))).set r2 (.list [])).set (L + 1) (.cell (some (.ref r2)))).set (L + 1 + 1) (.cell (some .none))) r2 = some (.list []) := by walk_at "heap"
  have f6 : ((((((((((H.set (L + 1) (.cell none)).set (L + 1 + 1) (.cell none)).set (L + 1 + 1 + 1) (.cell none)).set d (.dic (tw w (flatT fi) (flatT fr)))).set e (.raw (instObj 180 d))).set r1 (.list [])).set (L + 1 + 1 + 1) (.cell (some (.ref r1)))).set r2 (.list [])).set (L + 1) (.cell (some (.ref r2)))).set (L + 1 + 1) (.cell (some .none))) d = some (.dic (tw w (flatT fi) (flatT fr))) := by walk_at "heap"
  have f7 : ((((((((((H.set (L + 1) (.cell none)).set (L + 1 + 1) (.cell none)).set (L + 1 + 1 + 1) (.cell none)).set d (.dic (tw w (flatT fi) (flatT fr)))).set e (.raw (instObj 180 d))).set r1 (.list [])).set (L + 1 + 1 + 1) (.cell (some (.ref r1)))).set r2 (.list [])).set (L + 1) (.cell (some (.ref r2)))).set (L + 1 + 1) (.cell (some .none))) e = some (.raw (instObj 180 d)) := by walk_at "heap"
  have f8 : ∀ x, (((((((((((H.set (L + 1) (.cell none)).set (L + 1 + 1) (.cell none)).set (L + 1 + 1 + 1) (.cell none)).set d (.dic (tw w (flatT fi) (flatT fr)))).set e (.raw (instObj 180 d))).set r1 (.list [])).set (L + 1 + 1 + 1) (.cell (some (.ref r1)))).set r2 (.list [])).set (L + 1) (.cell (some (.ref r2)))).set (L + 1 + 1) (.cell (some .none))) x = none → x ≠ L + 1 ∧ x ≠ L + 1 + 1) := fun x hx => by
    simp only [HM.set_none] at hx; exact ⟨hx.2.1, hx.1⟩
  generalize ((((((((((H.set (L + 1) (.cell none)).set (L + 1 + 1) (.cell none)).set (L + 1 + 1 + 1) (.cell none)).set d (.dic (tw w (flatT fi) (flatT fr)))).set e (.raw (instObj 180 d))).set r1 (.list [])).set (L + 1 + 1 + 1) (.cell (some (.ref r1)))).set r2 (.list [])).set (L + 1) (.cell (some (.ref r2)))).set (L + 1 + 1) (.cell (some .none))) = H1 at *
  obtain ⟨ps, t1, t2, t3⟩ := hT
  with_reducible refine Ex.via (fun m' H' => ∃ f, m' = ([("_flush_par", .ref f), ("wrapper", .ref e), ("preserve_paragraphs", VB true), ("subsequent_indent", VT (flatT fr)), ("initial_indent", VT (flatT fi)), ("width", VI w), ("text", VT (flatT ts))] : LM) ∧ Upd [185] H1 H' ∧ TabSt P H' ∧ FnF P H' f (L + 1) (L + 1 + 1) (L + 1 + 1 + 1)) ?_ ?_
  · rcases t3 with t3 | ⟨c1, oc, t3, t4, t5⟩
    · refine Ex.defNew (P := 185) (ps := ps) (clos := [("p", L + 1 + 1 + 1), ("indent", L + 1 + 1), ("buf", L + 1)]) T (C _ rfl) rfl rfl rfl rfl rfl rfl (u0 _ _ (by simp) t1) t2 t3 ?_
      intro f c' oc ctv doc hf hc' hfc hoc
      have e1 : (185 : Addr) ≠ f := HM.ne_of hf (u0 _ _ (by simp) t1)
      have e2 : (185 : Addr) ≠ c' := HM.ne_of hc' (u0 _ _ (by simp) t1)
      walk_at "run"
      refine ViaJ.mk (by walk_at "le") ⟨f, rfl, ?_, ?_, ?_⟩
      · exact Upd.old hf (Upd.old hc' (Upd.at (by simp) (Upd.refl _ _)))
      · refine ⟨ps ++ #[rawInt fpos.line, rawInt fpos.col, .ref c'], ?_, ?_, .inr ⟨c', oc, ?_, ?_, hoc⟩⟩
        · rw [HM.set_ne _ _ e1, HM.set_ne _ _ e2, HM.set_same]; rfl
        · rw [Array.toList_append]; exact TriplesOk_snoc _ _ _ _ t2
        · rw [Array.toList_append]; exact codeAmong_snoc _ t2 t3
        · rw [HM.set_ne _ _ (Ne.symm hfc), HM.set_same]
      · exact ⟨_, _, _, _, _, _, _, _, c', oc, rfl, HM.set_same _ _ _, by rw [HM.set_ne _ _ (Ne.symm hfc), HM.set_same], hoc⟩
    · refine Ex.defHit (P := 185) (ps := ps) (clos := [("p", L + 1 + 1 + 1), ("indent", L + 1 + 1), ("buf", L + 1)]) T (C _ rfl) rfl rfl rfl rfl rfl rfl (u0 _ _ (by simp) t1) t2 t3 ?_
      intro f ctv doc hf
      walk_at "run"
      refine ViaJ.mk (by walk_at "le") ⟨f, rfl, ?_, ?_, ?_⟩
      · exact Upd.old hf (Upd.refl _ _)
      · refine ⟨ps, ?_, t2, .inr ⟨c1, oc, t3, ?_, t5⟩⟩
        · rw [HM.set_ne _ _ (HM.ne_of hf (u0 _ _ (by simp) t1))]; exact u0 _ _ (by simp) t1
        · rw [HM.set_ne _ _ (HM.ne_of hf (u0 _ _ (by simp) t4))]; exact u0 _ _ (by simp) t4
      · exact ⟨_, _, _, _, _, _, _, _, c1, oc, rfl, HM.set_same _ _ _, by rw [HM.set_ne _ _ (HM.ne_of hf (u0 _ _ (by simp) t4))]; exact u0 _ _ (by simp) t4, t5⟩
  · rintro m' H2 ⟨f, rfl, u1, hT2, hF2⟩
    have q1 : L + 1 ∉ ([185] : List Addr) := fun q => HM.ne_of h1 t1 (List.mem_singleton.mp q).symm
    have q2 : L + 1 + 1 ∉ ([185] : List Addr) := fun q => HM.ne_of h2 t1 (List.mem_singleton.mp q).symm
    have q3 : L + 1 + 1 + 1 ∉ ([185] : List Addr) := fun q => HM.ne_of h3 t1 (List.mem_singleton.mp q).symm
    have q4 : r1 ∉ ([185] : List Addr) := fun q => HM.ne_of k0 t1 (List.mem_singleton.mp q).symm
    have q5 : r2 ∉ ([185] : List Addr) := fun q => HM.ne_of j0 t1 (List.mem_singleton.mp q).symm
    have q6 : d ∉ ([185] : List Addr) := fun q => HM.ne_of hd t1 (List.mem_singleton.mp q).symm
    have q7 : e ∉ ([185] : List Addr) := fun q => HM.ne_of he t1 (List.mem_singleton.mp q).symm
    have f1 := u1 _ _ q1 f1
    have f2 := u1 _ _ q2 f2
    have f3 := u1 _ _ q3 f3
    have f4 := u1 _ _ q4 f4
    have f5 := u1 _ _ q5 f5
    have f6 := u1 _ _ q6 f6
    have f7 := u1 _ _ q7 f7
    have S0 : PS H2 (L + 1) (L + 1 + 1) (L + 1 + 1 + 1) r2 r1 0 [] [] [] := ⟨f1, f2, f3, f5, f4, .nil⟩
    have fo : ∀ a ∈ [r2, r1, L + 1 + 1], ∀ o, H2 a ≠ some (.raw o) := by
      intro a ha o e
      simp only [List.mem_cons, List.not_mem_nil, or_false] at ha
      rcases ha with rfl | rfl | rfl
      · rw [f5] at e; cases e
      · rw [f4] at e; cases e
      · rw [f2] at e; cases e
    clear f1 f2 f3 f4 f5
    walk_at "run"
    with_reducible refine Ex.via (fun m' H' => m' = ([("_flush_par", .ref f), ("wrapper", .ref e), ("preserve_paragraphs", VB true), ("subsequent_indent", VT (flatT fr)), ("initial_indent", VT (flatT fi)), ("width", VI w), ("text", VT (flatT ts))] : LM) ∧ Upd [r2, r1, L + 1 + 1] H2 H' ∧ ∃ ind buf as ps, PS H' (L + 1) (L + 1 + 1) (L + 1 + 1 + 1) r2 r1 ind buf as ps ∧ (∀ l ∈ buf, okT l) ∧ szL buf + as.length ≤ 90001 ∧ ps ++ flushP ind buf = parsT ts) ?_ ?_
    · refine Ex.forGN Ok'.hh ?_ (fun _ => rfl)
      walk_at "run"
      refine C_splitlines (fun h13 => (flat_mem ot h13).2.1 rfl) (by omega) (fun la hla => ?_)
      have hll := szL_len (linesT ts)
      have hsl := szL_lines ts
      have hlk : (linesL (flatT ts)).length = (linesT ts).length := by rw [← linesT_flat ot, List.length_map]
      refine ForJN.list (HM.set_same _ _ _) (by rw [List.length_map]; omega) (fun k m' H' => m' = ([("_flush_par", .ref f), ("wrapper", .ref e), ("preserve_paragraphs", VB true), ("subsequent_indent", VT (flatT fr)), ("initial_indent", VT (flatT fi)), ("width", VI w), ("text", VT (flatT ts))] : LM) ∧ Upd [r2, r1, L + 1 + 1] H2 H' ∧ ∃ ind buf as ps, PS H' (L + 1) (L + 1 + 1) (L + 1 + 1 + 1) r2 r1 ind buf as ps ∧ (∀ l ∈ buf, okT l) ∧ szL buf + szL ((linesT ts).drop k) + as.length ≤ 90001 ∧ ps ++ parsGo ((linesT ts).drop k) ind buf = parsT ts) (Keep.here ⟨rfl, Upd.del hla (Upd.old hla (Upd.refl _ _)), 0, [], [], [], ?_, ?_, ?_, ?_⟩) ?_ ?_
      · have u : Upd [] H2 ((H2.set la (.list ((linesL (flatT ts)).map VT))).del la) := Upd.del hla (Upd.old hla (Upd.refl _ _))
        exact S0.upd u
      · exact fun _ h => by cases h
      · rw [List.drop_zero]; simp [szL] at *; omega
      · rw [List.drop_zero]; rfl
      · rintro k x m' H' hx hn ⟨rfl, u2, ind, buf, as, ps, S, hb, hs, he2⟩
        rw [List.getElem?_map, ← linesT_flat ot, List.getElem?_map, Option.map_map, Option.map_eq_some_iff] at hx
        obtain ⟨l, hx, rfl⟩ := hx
        have hdr : (linesT ts).drop k = l :: (linesT ts).drop (k + 1) := by
          obtain ⟨hk, rfl⟩ := List.getElem?_eq_some_iff.mp hx
          exact List.drop_eq_getElem_cons hk
        rw [hdr] at hs he2
        rw [szL_cons] at hs
        have okl := linesT_ok ot l (List.mem_of_getElem? hx)
        have hF := hF2.upd u2 fo
        have sb := S.b
        have si := S.i
        have sbl := S.bl
        show Tgt _ _ (VT (flatT l)) _ _ _ _
        have hl1 : (flatT l).length ≤ 16000000 := by omega
        walk_at "run"
        have bne : L + 1 ≠ r2 := fun q => by rw [q, sbl] at sb; cases sb
        have ine : r2 ≠ L + 1 + 1 := fun q => by rw [q] at sbl; rw [sbl] at si; cases si
        have ine2 : r1 ≠ L + 1 + 1 := fun q => by have := S.pl; rw [q] at this; rw [this] at si; cases si
        cases l with
        | nil =>
          refine iteTe rfl ?_
          walk_at "run"
          refine ⟨hF.kp, ?_⟩
          with_reducible refine K_flushP (n := n + 5) (by assumption) hF S (by omega) (by omega) fun H'' as' v1 v2 v3 v4 v5 v6 v7 v8 => ?_
          have v9 := v8 _ si
          walk_at "run"
          have u3 : Upd [L + 1 + 1] H'' (H''.set (L + 1 + 1) (.cell (some .none))) := Upd.at (by simp) (Upd.refl _ _)
          refine ⟨_, _, by walk_at "le", HM.le.refl _, rfl, ?_, 0, [], as', ps ++ flushP ind buf, ⟨?_, ?_, ?_, ?_, ?_, ?_⟩, ?_, ?_, ?_⟩
          · exact Upd.at (by simp) (u2.trans (fun a o ha e => v1 a o (by simp at ha ⊢; exact ⟨ha.1, ha.2.1⟩) e))
          · rw [HM.set_ne _ _ n1]; exact v2
          · rw [HM.set_same, if_pos rfl]
          · rw [HM.set_ne _ _ (Ne.symm n2)]; exact v3
          · rw [HM.set_ne _ _ ine]; exact v4
          · rw [HM.set_ne _ _ ine2]; exact v5
          · exact ParAt.upd u3 (fun a ha o e => by rw [List.mem_singleton.mp ha, v9] at e; cases e) v6
          · exact fun _ h => by cases h
          · simp [szL, flatT] at hs ⊢
            split at v7
            · omega
            · rename_i hbn
              have : 0 < szL buf := by have := szL_len buf; have := List.length_pos_iff.mpr hbn; omega
              simp [szL] at this
              omega
          · rw [← he2]
            conv => rhs; unfold parsGo
            rw [if_pos rfl, List.append_assoc]
        | cons t l' =>
          have hne : t :: l' ≠ [] := by simp
          have hfe : (flatT (t :: l')).isEmpty = false := by
            cases q : flatT (t :: l') with
            | nil => exact absurd (flatT_eq_nil (by rw [q]; rfl)) hne
            | cons _ _ => rfl
          generalize t :: l' = l at *
          refine iteFe (by rw [hfe]; rfl) ?_
          by_cases hbn : buf = []
          · subst hbn
            rw [if_pos rfl] at si
            walk_at "run"
            with_reducible refine K_term_len (n := n + 5) (by assumption) okl (by omega) (Nat.le_trans (vis_le l) (by omega)) ?_
            walk_at "run"
            rw [← lstripT_flat]
            with_reducible refine K_term_len (ts := lstripT l) (n := n + 5) (by assumption) (lstripT_ok okl) (by have := lstripT_len l; omega) (Nat.le_trans (vis_le _) (by have := lstripT_len l; omega)) ?_
            have hsub : (vis l : Int) - (vis (lstripT l) : Int) = ((vis l - vis (lstripT l) : Nat) : Int) := by have := lstripT_vis l; omega
            walk_at "run"
            rw [hsub]
            have sbl2 : (H'.set (L + 1 + 1) (.cell (some (VI ((vis l - vis (lstripT l) : Nat) : Int))))) r2 = some (.list []) := by rw [HM.set_ne _ _ ine]; exact sbl
            have sb2 : (H'.set (L + 1 + 1) (.cell (some (VI ((vis l - vis (lstripT l) : Nat) : Int))))) (L + 1) = some (.cell (some (.ref r2))) := by rw [HM.set_ne _ _ n1]; exact sb
            have hz : ([] : List Value).length < 16000000 := by decide
            walk_at "run"
            have u3 : Upd [L + 1 + 1, r2] H' ((H'.set (L + 1 + 1) (.cell (some (VI ((vis l - vis (lstripT l) : Nat) : Int))))).set r2 (.list ([] ++ [VT (flatT (lstripT l))]))) := Upd.at (by simp) (Upd.at (by simp) (Upd.refl _ _))
            refine ⟨_, _, by walk_at "le", HM.le.refl _, rfl, ?_, vis l - vis (lstripT l), [lstripT l], as, ps, ⟨?_, ?_, ?_, ?_, ?_, ?_⟩, ?_, ?_, ?_⟩
            · exact Upd.at (by simp) (Upd.at (by simp) u2)
            · rw [HM.set_ne _ _ bne]; exact sb2
            · rw [HM.set_ne _ _ (Ne.symm ine), HM.set_same, if_neg (by simp)]
            · exact u3 _ _ (by simp [Ne.symm n2]; exact fun q => by have := S.p; rw [q, sbl] at this; cases this) S.p
            · rw [HM.set_same]; rfl
            · exact u3 _ _ (by simp; exact ⟨ine2, fun q => j2 q.symm⟩) S.pl
            · exact ParAt.upd u3 (fun a ha o e => by
                simp only [List.mem_cons, List.not_mem_nil, or_false] at ha
                rcases ha with rfl | rfl
                · rw [si] at e; cases e
                · rw [sbl] at e; cases e) S.q
            · exact fun x hx => by rw [List.mem_singleton.mp hx]; exact lstripT_ok okl
            · have := lstripT_len l
              simp [szL] at hs ⊢; omega
            · rw [← he2]
              conv => rhs; unfold parsGo
              rw [if_neg hne, if_pos rfl]
          · rw [if_neg hbn] at si
            have hbl : (buf.map fun l => VT (flatT l)).length < 16000000 := by rw [List.length_map]; have := szL_len buf; omega
            walk_at "run"
            have u3 : Upd [r2] H' (H'.set r2 (.list ((buf.map fun l => VT (flatT l)) ++ [VT (flatT l)]))) := Upd.at (by simp) (Upd.refl _ _)
            refine ⟨_, _, by walk_at "le", HM.le.refl _, rfl, ?_, ind, buf ++ [l], as, ps, ⟨?_, ?_, ?_, ?_, ?_, ?_⟩, ?_, ?_, ?_⟩
            · exact Upd.at (by simp) u2
            · rw [HM.set_ne _ _ bne]; exact sb
            · rw [HM.set_ne _ _ (Ne.symm ine), if_neg (by simp)]; exact si
            · exact u3 _ _ (by simp; exact fun q => by have := S.p; rw [q, sbl] at this; cases this) S.p
            · rw [HM.set_same, List.map_append]; rfl
            · exact u3 _ _ (by simp; exact fun q => j2 q.symm) S.pl
            · exact ParAt.upd u3 (fun a ha o e => by rw [List.mem_singleton.mp ha, sbl] at e; cases e) S.q
            · intro x hx
              rcases List.mem_append.mp hx with hx | hx
              · exact hb x hx
              · rw [List.mem_singleton.mp hx]; exact okl
            · rw [szL_append, szL_cons]; simp [szL] at hs ⊢; omega
            · rw [← he2]
              conv => rhs; unfold parsGo
              rw [if_neg hne, if_neg hbn]
      · rintro m' H' hn ⟨rfl, u2, ind, buf, as, ps, S, hb, hs, he2⟩
        rw [List.length_map, hlk, List.drop_length] at hs he2
        refine ViaJ.mk (LM.le_refl _) ⟨rfl, Upd.old hla u2, ind, buf, as, ps, S.upd (Upd.new hn (Upd.refl _ _)), hb, ?_, he2⟩
        simp [szL] at *; omega
    · rintro m' H3 ⟨rfl, u2, ind, buf, as, ps, S, hb, hs, he2⟩
      have hF := hF2.upd u2 fo
      walk_at "run"
      refine ⟨hF.kp, ?_⟩
      have si := S.i
      with_reducible refine K_flushP (n := n + 5) (by assumption) hF S (by omega) (by omega) fun H4 as' v1 v2 v3 v4 v5 v6 v7 v8 => ?_
      rw [he2] at v6
      have v9 := v8 _ si
      have uA : Upd [r2, r1, L + 1 + 1] H2 H4 := u2.trans (fun a o ha e => v1 a o (by simp at ha ⊢; exact ⟨ha.1, ha.2.1⟩) e)
      have w6 : H4 d = some (.dic (tw w (flatT fi) (flatT fr))) := uA _ _ (by
        simp only [List.mem_cons, List.not_mem_nil, or_false, not_or]
        exact ⟨fun q => j4 q.symm, fun q => k2 q.symm, hd2⟩) f6
      have w7 : H4 e = some (.raw (instObj 180 d)) := uA _ _ (by
        simp only [List.mem_cons, List.not_mem_nil, or_false, not_or]
        exact ⟨fun q => j3 q.symm, fun q => k1 q.symm, he2'⟩) f7
      have hT4 := hT2.upd uA fo
      have u04 : Upd [185] H H4 := u0.comp (u1.comp (l'' := [185, r2, r1, L + 1 + 1]) uA (fun a ha => .inl (by simp only [List.mem_cons, List.not_mem_nil, or_false] at ha ⊢; exact ha))) (fun a ha => by
        simp only [List.mem_cons, List.not_mem_nil, or_false, false_or] at ha
        rcases ha with rfl | rfl | rfl | rfl
        · exact .inl (by simp)
        · exact .inr j0
        · exact .inr k0
        · exact .inr h2)
      clear u1 uA u2 v1 v2 v8 hT2 hF2 hF S S0
      walk_at "run"
      rename_i rv hrv
      have u5 : Upd [] H4 (H4.set rv (.list [])) := Upd.new hrv (Upd.refl _ _)
      have hpk := parsT_ok ot
      refine K_pars (n := n) (H := H4.set rv (.list [])) (f := f) (r1 := r1) (e := e) (d := d) (rv := rv) (as := as') (by assumption) (u5 _ _ (by simp) v3) (u5 _ _ (by simp) v5) (ParAt.upd u5 (by simp) v6) ⟨_, u5 _ _ (by simp) v9⟩ (u5 _ _ (by simp) w6) (u5 _ _ (by simp) w7) (HM.set_same _ _ _) (by split at v7 <;> omega) (Ne.symm (HM.ne_of hrv v5)) hres (fun q hq => by have := hpk q hq; exact ⟨by omega, this.2.1, by omega⟩) hw oi or li lr hjr fun H' u6 => ?_
      refine h H' ?_ ?_
      · refine (u04.comp u5 (l'' := [185]) (fun a ha => .inl (by simpa using ha))).comp u6 fun a ha => ?_
        simp only [List.mem_cons, List.not_mem_nil, or_false] at ha
        rcases ha with rfl | rfl | rfl | rfl
        · exact .inl (by simp)
        · exact .inr (Upd.none u04 (fun q => HM.ne_of hrv hT4.choose_spec.1 (List.mem_singleton.mp q).symm) hrv)
        · exact .inr hd
        · exact .inr h2
      · refine TabSt.upd (l := [rv, d, L + 1 + 1]) (H := H4.set rv (.list [])) (TabSt.upd hT4 u5 (by simp)) u6 fun a ha o e => ?_
        simp only [List.mem_cons, List.not_mem_nil, or_false] at ha
        rcases ha with rfl | rfl | rfl
        · rw [HM.set_same] at e; cases e
        · rw [u5 _ _ (by simp) w6] at e; cases e
        · rw [u5 _ _ (by simp) v9] at e; cases e
end

section
variable {c : FC} {P : Params} {n : Nat} {m : LM} {H : HM} {X : XM}
/-- the drawing state: a number, and the list of those to come -/
def DrAt (H : HM) (d e : Addr) : Prop := d ≠ e ∧ ∃ (i : Int) (ns : List Int), H d = some (.list [VI i, .ref e]) ∧ H e = some (.list (ns.map VI)) ∧ ns.length ≤ 100
theorem DrAt.upd {H H' : HM} {d e : Addr} {l : List Addr} (D : DrAt H d e) (u : Upd l H H') (h1 : d ∉ l) (h2 : e ∉ l) : DrAt H' d e := by
  obtain ⟨h0, i, ns, hd, he, hn⟩ := D
  exact ⟨h0, i, ns, u _ _ h1 hd, u _ _ h2 he, hn⟩
theorem K_take {d e : Addr} {k : Int} {Q : Value → HM → Prop} (O : Ok c (KK P) (n + 1)) (D : DrAt H d e) (hk : 0 < k) (hk2 : k < 1000)
    (h : ∀ (v : Nat) H', (v : Int) < k → Upd [d, e] H H' → DrAt H' d e → Q (VI v) H') :
    CallJ c (.ref 197) [.ref d, VI k] [] m H Q X := by
  obtain ⟨hde, i, ns, hd, he, hns⟩ := D
  have fm : ∀ x : Int, ∃ v : Nat, x.fmod k = v ∧ (v : Int) < k := fun x => by
    have h1 := Int.fmod_nonneg_of_pos x hk
    exact ⟨(x.fmod k).toNat, (Int.toNat_of_nonneg h1).symm, by rw [Int.toNat_of_nonneg h1]; exact Int.fmod_lt_of_pos x hk⟩
  refine CallJ.run O ⟨⟨_, _, _, rfl⟩, rfl, rfl, rfl, rfl, rfl, rfl, rfl, rfl, by decide⟩ (.a2 fun _ _ => rfl) rfl ?_
  intro L hL Ok'
  show Exs _ _ [("many", VI k), ("draws", .ref d)] H _ _
  walk_at "run"
  refine iteD (fun hi => ?_) (fun hi => ?_)
  · subst hi
    cases ns with
    | nil =>
      walk_at "run"
      refine iteN (fun h => absurd rfl h) (fun _ => ?_)
      walk_at "run"
      refine O_mod (by omega) ?_
      walk_at "run"
      refine O_fdiv (by omega) (by omega) ?_
      walk_at "run"
      refine EndJ.ret (H.set d (.list [VI (Int.fdiv 0 k), .ref e])) (HM.set_le _ _ (HM.le_fresh (by assumption))) ?_
      obtain ⟨v, e1, e2⟩ := fm 0
      rw [e1]
      exact h v _ e2 (Upd.at (by simp) (Upd.refl _ _)) ⟨hde, _, [], HM.set_same _ _ _, by rw [HM.set_ne _ _ (Ne.symm hde)]; exact he, by simp⟩
    | cons x r =>
      walk_at "run"
      refine iteN (fun _ => ?_) (fun h => absurd h (by simp))
      walk_at "run"
      refine O_mod (by omega) ?_
      walk_at "run"
      refine O_fdiv (by omega) (by omega) ?_
      walk_at "run"
      obtain ⟨v, e1, e2⟩ := fm x
      rw [e1]
      refine EndJ.ret ((H.set e (.list (r.map VI))).set d (.list [VI (x.fdiv k), .ref e])) ?_ (h v _ e2 (Upd.at (by simp) (Upd.at (by simp) (Upd.refl _ _))) ⟨hde, _, r, HM.set_same _ _ _, by rw [HM.set_ne _ _ (Ne.symm hde), HM.set_same], by simp at hns; omega⟩)
      rw [HM.set_set]
      exact HM.set_le _ _ (HM.set_le _ _ (HM.le_fresh (by assumption)))
  · walk_at "run"
    refine O_mod (by omega) ?_
    walk_at "run"
    refine O_fdiv (by omega) (by omega) ?_
    walk_at "run"
    obtain ⟨v, e1, e2⟩ := fm i
    rw [e1]
    exact EndJ.retE (h v _ e2 (Upd.at (by simp) (Upd.refl _ _)) ⟨hde, _, ns, HM.set_same _ _ _, by rw [HM.set_ne _ _ (Ne.symm hde)]; exact he, hns⟩)
def WordL (l : List Nat) : Prop := l ≠ [] ∧ l.length ≤ 14 ∧ ∀ x ∈ l, 97 ≤ x ∧ x ≤ 112
theorem word_take {z : List Nat} (h1 : z.length = 16) (h2 : ∀ x ∈ z, 97 ≤ x ∧ x ≤ 112) {v : Nat} (hv : v < 14) : WordL (z.take (1 + v)) := by
  refine ⟨fun q => ?_, by rw [List.length_take]; omega, fun x hx => h2 x (List.mem_of_mem_take hx)⟩
  have : min (1 + v) 16 = 0 := by rw [← h1, ← List.length_take, q]; rfl
  omega
theorem K_word {d e : Addr} {Q : Value → HM → Prop} (O : Ok c (KK P) (n + 2)) (D : DrAt H d e) (h : ∀ wd H', WordL wd → Upd [d, e] H H' → DrAt H' d e → Q (VT wd) H') : CallJ c (.ref 230) [.ref d] [] m H Q X := by
  refine CallJ.run O ⟨⟨_, _, _, rfl⟩, rfl, rfl, rfl, rfl, rfl, rfl, rfl, rfl, by decide⟩ (.a1 fun _ => rfl) rfl ?_
  intro L hL Ok'
  show Exs _ _ [("draws", .ref d)] H _ _
  have hD : ∃ o, H d = some o := ⟨_, D.2.choose_spec.choose_spec.1⟩
  walk_at "run"
  rename_i r hr
  have nd : d ≠ r := by obtain ⟨o, ho⟩ := hD; exact HM.ne_of hr ho
  have ne : e ≠ r := HM.ne_of hr D.2.choose_spec.choose_spec.2.1
  have u1 : Upd [] H (H.set r (.list [VI 3, VI 6, VI 14])) := Upd.new hr (Upd.refl _ _)
  with_reducible refine K_take (n := n) (by assumption) (D.upd u1 (by simp) (by simp)) (by omega) (by omega) fun a H1 ha u2 D1 => ?_
  have k1 : H1 r = some (.list [VI 3, VI 6, VI 14]) := u2 _ _ (by simp [Ne.symm nd, Ne.symm ne]) (HM.set_same _ _ _)
  have hat : ∃ k : Int, at? [VI 3, VI 6, VI 14] (a : Int) = some (VI k) ∧ 0 < k ∧ k ≤ 14 := by
    match a, ha with
    | 0, _ => exact ⟨3, rfl, by decide, by decide⟩
    | 1, _ => exact ⟨6, rfl, by decide, by decide⟩
    | 2, _ => exact ⟨14, rfl, by decide, by decide⟩
    | k + 3, h => omega
  obtain ⟨k, hk, hk1, hk2⟩ := hat
  refine ItemG.list k1 hk (by omega) ?_
  walk_at "run"
  with_reducible refine K_take (n := n) (by assumption) D1 hk1 (by omega) fun b H2 hb u3 D2 => ?_
  walk_at "run"
  with_reducible refine K_take (n := n) (by assumption) D2 (by omega) (by omega) fun t H3 ht u4 D3 => ?_
  have u : Upd [d, e] H H3 := ((u1.comp u2 (l'' := [d, e]) (fun a ha => .inl (by simpa using ha))).trans u3).trans u4
  walk_at "run"
  refine iteD (fun hi => ?_) (fun hi => ?_)
  · walk_at "run"
    refine SliceG.str .non (Bnd.ofInt (by omega)) (by decide) ?_
    walk_at "run"
    refine EndJ.retE (h _ _ ?_ u D3)
    have : (1 + (b : Int)).toNat = 1 + b := by omega
    show WordL (cut _ none (some (1 + (b : Int)).toNat))
    rw [this]
    exact word_take (by decide) (by decide) (by omega)
  · walk_at "run"
    refine SliceG.str .non (Bnd.ofInt (by omega)) (by decide) ?_
    walk_at "run"
    refine EndJ.retE (h _ _ ?_ u D3)
    have : (1 + (b : Int)).toNat = 1 + b := by omega
    show WordL (cut _ none (some (1 + (b : Int)).toNat))
    rw [this]
    exact word_take (by decide) (by decide) (by omega)
end

section
variable {c : FC} {P : Params} {n : Nat} {m : LM} {H : HM} {X : XM}
def sgn (x : Nat) : Prop := x = 32 ∨ (97 ≤ x ∧ x ≤ 112)
structure LineL (l : List Nat) : Prop where
  sg : ∀ x ∈ l, sgn x
  lt : ∃ x ∈ l, x ≠ 32
  ln : l.length ≤ 200
theorem Ok.hhc {K : Frag} (O : Ok c K n) : c.A.handled = none := O.hh
theorem rep_sgn {k : Nat} : ∀ x ∈ List.replicate k 32, sgn x := fun x hx => .inl (List.mem_replicate.mp hx).2
theorem word_sgn {w : List Nat} (h : WordL w) : ∀ x ∈ w, sgn x := fun x hx => .inr (h.2.2 x hx)
theorem sgn_append {a b : List Nat} (ha : ∀ x ∈ a, sgn x) (hb : ∀ x ∈ b, sgn x) : ∀ x ∈ a ++ b, sgn x := fun x hx => (List.mem_append.mp hx).elim (ha x) (hb x)
theorem K_line {d e : Addr} {many : Int} {Q : Value → HM → Prop} (O : Ok c (KK P) (n + 3)) (D : DrAt H d e) (hm0 : 0 < many) (hm : many ≤ 8) (h : ∀ l H', LineL l → Upd [d, e] H H' → DrAt H' d e → Q (VT l) H') : CallJ c (.ref 237) [.ref d, VI many] [] m H Q X := by
  refine CallJ.run O ⟨⟨_, _, _, rfl⟩, rfl, rfl, rfl, rfl, rfl, rfl, rfl, rfl, by decide⟩ (.a2 fun _ _ => rfl) rfl ?_
  intro L hL Ok'
  show Exs _ _ [("many", VI many), ("draws", .ref d)] H _ _
  -- the blanks ahead
  with_reducible refine Exs.via (fun m' H' => ∃ l : List Nat, m' = ([("found", VT l), ("many", VI many), ("draws", .ref d)] : LM) ∧ (∀ x ∈ l, sgn x) ∧ l.length ≤ 2 ∧ Upd [d, e] H H' ∧ DrAt H' d e) ?_ ?_
  · walk_at "run"
    with_reducible refine K_take (n := n + 1) (by assumption) D (by omega) (by omega) fun a H1 ha u1 D1 => ?_
    walk_at "run"
    refine iteD (fun hi => ?_) (fun hi => ?_)
    · walk_at "run"
      with_reducible refine K_take (n := n + 1) (by assumption) D1 (by omega) (by omega) fun b H2 hb u2 D2 => ?_
      walk_at "run"
      refine O_mulT (by omega) (by simp; omega) ?_
      rw [Int.toNat_natCast, times_one]
      walk_at "run"
      exact ViaJ.mk (by walk_at "le") ⟨_, rfl, rep_sgn, by simp; omega, u1.trans u2, D2⟩
    · walk_at "run"
      exact ViaJ.mk (by walk_at "le") ⟨[], rfl, (fun x hx => by cases hx), by simp, u1, D1⟩
  rintro _ H1 ⟨l0, rfl, s0, n0, u1, D1⟩
  with_reducible refine Exs.via (fun m' H' => ∃ l : List Nat, m' = ([("found", VT l), ("draws", .ref d)] : LM) ∧ (∀ x ∈ l, sgn x) ∧ (∃ x ∈ l, x ≠ 32) ∧ l.length ≤ 180 ∧ Upd [d, e] H H' ∧ DrAt H' d e) ?_ ?_
  · have hh := Ok'.hh
    refine Ex.forG hh ?_ (fun _ => rfl)
    walk_at "run"
    with_reducible refine K_take (n := n + 1) (by assumption) D1 (by omega) (by omega) fun a H2 ha u2 D2 => ?_
    walk_at "run"
    refine C_range1 fun r o hr ho => ?_
    have dr : d ≠ r := HM.ne_of hr D2.2.choose_spec.choose_spec.1
    have er : e ≠ r := HM.ne_of hr D2.2.choose_spec.choose_spec.2.1
    refine ⟨_, _, _, _, Src.range (HM.set_same _ _ _) ho (by omega) (by omega) (by omega), fun k m' H' => ∃ l : List Nat, m' = ([("found", VT l), ("draws", .ref d)] : LM) ∧ (∀ x ∈ l, sgn x) ∧ (0 < k → ∃ x ∈ l, x ≠ 32) ∧ l.length ≤ 2 + 16 * k ∧ Upd [d, e] H H' ∧ DrAt H' d e,
      ⟨_, _, by walk_at "le", HM.le.refl _, l0, rfl, s0, fun h => absurd h (Nat.lt_irrefl 0), by omega, ?_, ?_⟩, ?_, ?_⟩
    · exact Upd.new hr (u1.trans u2)
    · exact D2.upd (Upd.new hr (Upd.refl [] _)) (by simp) (by simp)
    · rintro k x m' H' hx ⟨l, rfl, s1, s2, s3, u3, D3⟩
      have hk : k < 8 := by
        have := (List.getElem?_eq_some_iff.mp hx).1
        rw [List.length_map, List.length_range] at this; omega
      rw [List.getElem?_map, Option.map_eq_some_iff] at hx
      obtain ⟨k', hk', rfl⟩ := hx
      obtain ⟨q1, q2⟩ := List.getElem?_eq_some_iff.mp hk'
      rw [List.getElem_range] at q2
      subst q2
      walk_at "run"
      refine iteD (fun hi => ?_) (fun hi => ?_)
      · walk_at "run"
        with_reducible refine K_take (n := n + 1) (by assumption) D3 (by omega) (by omega) fun b H4 hb u4 D4 => ?_
        walk_at "run"
        have e1 : (1 + (b : Int)).toNat = 1 + b := by omega
        refine O_mulT (by omega) (by rw [e1]; simp; omega) ?_
        rw [e1, times_one]
        have y1 : l.length + (List.replicate (1 + b) 32).length ≤ 16000000 := by simp; omega
        walk_at "run"
        with_reducible refine K_word (n := n) (by assumption) D4 fun w H5 hw u5 D5 => ?_
        have y2 : (l ++ List.replicate (1 + b) 32).length + w.length ≤ 16000000 := by have := hw.2.1; simp; omega
        walk_at "run"
        refine ⟨_, _, by walk_at "le", HM.le.refl _, _, rfl, sgn_append (sgn_append s1 rep_sgn) (word_sgn hw), fun _ => ?_, ?_, (u3.trans u4).trans u5, D5⟩
        · obtain ⟨y, hy⟩ := List.exists_mem_of_ne_nil _ hw.1
          exact ⟨y, List.mem_append_right _ hy, by have := hw.2.2 y hy; omega⟩
        · have := hw.2.1; simp; omega
      · have y1 : l.length + ([] : List Nat).length ≤ 16000000 := by simp; omega
        walk_at "run"
        with_reducible refine K_word (n := n) (by assumption) D3 fun w H5 hw u5 D5 => ?_
        have y2 : (l ++ []).length + w.length ≤ 16000000 := by have := hw.2.1; simp; omega
        walk_at "run"
        refine ⟨_, _, by walk_at "le", HM.le.refl _, _, rfl, sgn_append (sgn_append s1 (fun x hx => by cases hx)) (word_sgn hw), fun _ => ?_, ?_, u3.trans u5, D5⟩
        · obtain ⟨y, hy⟩ := List.exists_mem_of_ne_nil _ hw.1
          exact ⟨y, List.mem_append_right _ hy, by have := hw.2.2 y hy; omega⟩
        · have := hw.2.1; simp; omega
    · rintro m' H' ⟨l, rfl, s1, s2, s3, u3, D3⟩
      rw [List.length_map, List.length_range] at s2 s3
      exact ViaJ.mk (by walk_at "le") ⟨l, rfl, s1, s2 (by omega), by omega, u3, D3⟩
  rintro _ H2 ⟨l, rfl, s1, s2, s3, u2, D2⟩
  walk_at "run"
  with_reducible refine K_take (n := n + 1) (by assumption) D2 (by omega) (by omega) fun a H3 ha u3 D3 => ?_
  walk_at "run"
  refine iteD (fun hi => ?_) (fun hi => ?_)
  · have y1 : l.length + [32].length ≤ 16000000 := by simp; omega
    walk_at "run"
    refine EndJ.retE (h _ _ ⟨sgn_append s1 (rep_sgn (k := 1)), s2.elim fun x hx => ⟨x, List.mem_append_left _ hx.1, hx.2⟩, by simp; omega⟩ (u2.trans u3) D3)
  · have y1 : l.length + ([] : List Nat).length ≤ 16000000 := by simp; omega
    walk_at "run"
    refine EndJ.retE (h _ _ ⟨sgn_append s1 (fun x hx => by cases hx), s2.elim fun x hx => ⟨x, List.mem_append_left _ hx.1, hx.2⟩, by simp; omega⟩ (u2.trans u3) D3)
end

section
variable {c : FC} {P : Params} {n : Nat} {m : LM} {H : HM} {X : XM}
inductive RowsL : List (List Nat) → Prop
  | nil : RowsL []
  | emp {r} (h : RowsL r) : RowsL (r ++ [[]])
  | raw {r} (h : RowsL r) (k : Nat) (hk : k < 2) : RowsL (r ++ [[], List.replicate k 32 ++ [8]])
  | line {r} (h : RowsL r) {l : List Nat} (hl : LineL l) : RowsL (r ++ [l])
theorem K_ltext {d e : Addr} {Q : Value → HM → Prop} (O : Ok c (KK P) (n + 4)) (D : DrAt H d e) (h : ∀ rows H', RowsL rows → rows ≠ [] → rows.length ≤ 8 → (∀ y ∈ rows, y.length ≤ 200) → Upd [d, e] H H' → DrAt H' d e → Q (VT (joinL [10] rows)) H') : CallJ c (.ref 244) [.ref d] [] m H Q X := by
  refine CallJ.run O ⟨⟨_, _, _, rfl⟩, rfl, rfl, rfl, rfl, rfl, rfl, rfl, rfl, by decide⟩ (.a1 fun _ => rfl) rfl ?_
  intro L hL Ok'
  show Exs _ _ [("draws", .ref d)] H _ _
  have hd0 := D.2.choose_spec.choose_spec.1
  have he0 := D.2.choose_spec.choose_spec.2.1
  walk_at "run"
  rename_i r0 hr0
  have nd0 := HM.ne_of hr0 hd0
  have ne0 := HM.ne_of hr0 he0
  with_reducible refine Ex.via (fun m' H' => ∃ r rows, m' = ([("rows", .ref r), ("draws", .ref d)] : LM) ∧ H' r = some (.list (rows.map VT)) ∧ RowsL rows ∧ rows ≠ [] ∧ rows.length ≤ 8 ∧ (∀ y ∈ rows, y.length ≤ 200) ∧ Upd [d, e] H H' ∧ DrAt H' d e) ?_ ?_
  · have hh := Ok'.hh
    refine Ex.forG hh ?_ (fun _ => rfl)
    walk_at "run"
    with_reducible refine K_take (n := n + 2) (by assumption) (D.upd (Upd.new hr0 (Upd.refl [] _)) (by simp) (by simp)) (by omega) (by omega) fun a H2 ha u2 D2 => ?_
    have g0 : H2 r0 = some (.list []) := u2 _ _ (by simp [Ne.symm nd0, Ne.symm ne0]) (HM.set_same _ _ _)
    have uu : Upd [d, e] H H2 := (Upd.comp (l'' := [d, e]) (Upd.new hr0 (Upd.refl [] H)) u2 fun a ha => .inl (by simpa using ha))
    walk_at "run"
    refine C_range1 fun r o hr ho => ?_
    refine ⟨_, _, _, _, Src.range (HM.set_same _ _ _) ho (by omega) (by omega) (by omega), fun k m' H' => ∃ r rows, m' = ([("rows", .ref r), ("draws", .ref d)] : LM) ∧ H' r = some (.list (rows.map VT)) ∧ H r = none ∧ RowsL rows ∧ (0 < k → rows ≠ []) ∧ rows.length ≤ 2 * k ∧ (∀ y ∈ rows, y.length ≤ 200) ∧ Upd [d, e] H H' ∧ DrAt H' d e,
      ⟨_, _, by walk_at "le", HM.le.refl _, r0, [], rfl, ?_, hr0, .nil, fun h => absurd h (Nat.lt_irrefl 0), Nat.le_refl _, (fun _ h => by cases h), ?_, ?_⟩, ?_, ?_⟩
    · rw [HM.set_ne _ _ (HM.ne_of hr g0)]; exact g0
    · exact Upd.new hr uu
    · exact D2.upd (Upd.new hr (Upd.refl [] _)) (by simp) (by simp)
    · rintro k x m' H' hx ⟨r, rows, rfl, g1, g2, s1, s2, s3, s4, u3, D3⟩
      have hk : k < 4 := by
        have := (List.getElem?_eq_some_iff.mp hx).1
        rw [List.length_map, List.length_range] at this; omega
      have nd := HM.ne_of g2 hd0
      have ne := HM.ne_of g2 he0
      walk_at "run"
      with_reducible refine K_take (n := n + 2) (by assumption) D3 (by omega) (by omega) fun b H4 hb u4 D4 => ?_
      have g4 : H4 r = some (.list (rows.map VT)) := u4 _ _ (by simp [Ne.symm nd, Ne.symm ne]) g1
      have hrl : (rows.map VT).length < 16000000 := by rw [List.length_map]; omega
      walk_at "run"
      refine iteD (fun hi => ?_) (fun hi => ?_)
      · walk_at "run"
        refine ⟨_, _, by walk_at "le", HM.le.refl _, r, rows ++ [[]], rfl, by rw [HM.set_same, List.map_append]; rfl, g2, s1.emp, fun _ => by simp, by simp; omega, ?_, Upd.old g2 (u3.trans u4), D4.upd (Upd.at (l := [r]) (by simp) (Upd.refl _ _)) (by simp [nd]) (by simp [ne])⟩
        intro y hy
        rcases List.mem_append.mp hy with hy | hy
        · exact s4 y hy
        · rw [List.mem_singleton.mp hy]; simp
      · walk_at "run"
        refine iteD (fun hi => ?_) (fun hi => ?_)
        · walk_at "run"
          with_reducible refine K_take (n := n + 2) (by assumption) D4 (by omega) (by omega) fun b2 H5 hb2 u5 D5 => ?_
          have g5 : H5 r = some (.list (rows.map VT)) := u5 _ _ (by simp [Ne.symm nd, Ne.symm ne]) g4
          walk_at "run"
          refine O_mulT (by omega) (by simp; omega) ?_
          rw [Int.toNat_natCast, times_one]
          have y1 : (List.replicate b2 32).length + [8].length ≤ 16000000 := by simp; omega
          have y2 : (rows.map VT).length + [VT [], VT (List.replicate b2 32 ++ [8])].length ≤ 16000000 := by rw [List.length_map]; simp; omega
          walk_at "run"
          rename_i ra hra rb hrb hrb2
          have z1 : H rb = none := Upd.none ((u3.trans u4).trans u5) (by
            simp only [List.mem_cons, List.not_mem_nil, or_false, not_or]
            exact ⟨fun q => (by rw [q, D5.2.choose_spec.choose_spec.1] at hrb2; cases hrb2), fun q => (by rw [q, D5.2.choose_spec.choose_spec.2.1] at hrb2; cases hrb2)⟩) hrb2
          refine ⟨_, _, by walk_at "le", HM.le.refl _, rb, rows ++ [[], List.replicate b2 32 ++ [8]], rfl, ?_, z1, s1.raw b2 (by omega), fun _ => by simp, by simp; omega, ?_, ?_, ?_⟩
          · rw [HM.set_same, List.map_append]; rfl
          · intro y hy
            rcases List.mem_append.mp hy with hy | hy
            · exact s4 y hy
            · simp only [List.mem_cons, List.not_mem_nil, or_false] at hy
              rcases hy with rfl | rfl
              · simp
              · simp; omega
          · exact Upd.old z1 (Upd.new hra ((u3.trans u4).trans u5))
          · exact D5.upd (Upd.new (HM.set_none.mpr ⟨hrb, hrb2⟩) (Upd.new hra (Upd.refl [] _))) (by simp) (by simp)
        · walk_at "run"
          with_reducible refine K_line (n := n) (by assumption) D4 (by omega) (by omega) fun l H5 hl u5 D5 => ?_
          have g5 : H5 r = some (.list (rows.map VT)) := u5 _ _ (by simp [Ne.symm nd, Ne.symm ne]) g4
          walk_at "run"
          refine ⟨_, _, by walk_at "le", HM.le.refl _, r, rows ++ [l], rfl, by rw [HM.set_same, List.map_append]; rfl, g2, s1.line hl, fun _ => by simp, by simp; omega, ?_, Upd.old g2 ((u3.trans u4).trans u5), D5.upd (Upd.at (l := [r]) (by simp) (Upd.refl _ _)) (by simp [nd]) (by simp [ne])⟩
          intro y hy
          rcases List.mem_append.mp hy with hy | hy
          · exact s4 y hy
          · rw [List.mem_singleton.mp hy]; exact hl.ln
    · rintro m' H' ⟨r, rows, rfl, g1, g2, s1, s2, s3, s4, u3, D3⟩
      rw [List.length_map, List.length_range] at s2 s3
      exact ViaJ.mk (by walk_at "le") ⟨r, rows, rfl, g1, s1, s2 (by omega), by omega, s4, u3, D3⟩
  rintro _ H2 ⟨r, rows, rfl, g1, s1, s2, s3, s4, u2, D2⟩
  have hj : joinSize [10] rows ≤ 16000000 := by
    have : ∀ (zs : List (List Nat)), (∀ y ∈ zs, y.length ≤ 200) → joinSize [10] zs ≤ 201 * zs.length := by
      intro zs hz
      induction zs with
      | nil => simp [joinSize]
      | cons z r ih =>
        have h1 := hz z List.mem_cons_self
        have h2 := ih fun y hy => hz y (List.mem_cons_of_mem _ hy)
        simp [joinSize] at h2 ⊢; omega
    have := this rows s4
    omega
  walk_at "run"
  exact EndJ.retE (h rows _ s1 s2 s3 s4 u2 D2)
end

section
variable {c : FC} {P : Params} {n : Nat} {m : LM} {H : HM} {X : XM}
def lettersL (l : List Nat) : List Nat := l.filter fun x => !decide (x ∈ [32, 10])
theorem K_letters {l : List Nat} {Q : Value → HM → Prop} (O : Ok c (KK P) (n + 1)) (hl : l.length ≤ 16000000) (h : ∀ r, H r = none → Q (.ref r) (H.set r (.list ((lettersL l).map fun x => VT [x])))) : CallJ c (.ref 249) [VT l] [] m H Q X := by
  refine CallJ.run O ⟨⟨_, _, _, rfl⟩, rfl, rfl, rfl, rfl, rfl, rfl, rfl, rfl, by decide⟩ (.a1 fun _ => rfl) rfl ?_
  intro L hL Ok'
  show Exs _ _ [("text", VT l)] H _ _
  walk_at "run"
  refine Ev.compG Ok'.hh rfl rfl (by decide) (by decide) ?_ (fun _ => rfl)
  walk_at "run"
  refine ⟨_, _, _, _, Src.str l (by omega), fun ys H' => H' = H ∧ ys = (lettersL l).map fun x => VT [x], fun C => ?_, ?_⟩
  · have Oc := Ok'.comp (scope := { kind := ScopeKind.function, names := [(Str.ofString ".0", NameKind.local), (Str.ofString "sign", NameKind.local)], isGenerator := false, isCoroutine := false }) rfl [] C
    with_reducible refine Turns.one (fun k ys m' H' => H' = H ∧ m' = ([] : LM) ∧ ys = (lettersL (l.take k)).map fun x => VT [x]) ?_ ?_ ?_
    · exact Keep.here ⟨rfl, rfl, rfl⟩
    · rintro k x ys m' H' hx ⟨rfl, rfl, rfl⟩
      rw [List.getElem?_map, Option.map_eq_some_iff] at hx
      obtain ⟨y, hy, rfl⟩ := hx
      have htk : l.take (k + 1) = l.take k ++ [y] := by rw [List.take_add_one, hy]; rfl
      walk_at "run"
      refine TestsJ.one ?_
      walk_at "run"
      have hfl : lettersL (l.take (k + 1)) = lettersL (l.take k) ++ (if (!decide (y ∈ [32, 10])) = true then [y] else []) := by
        unfold lettersL; rw [htk, List.filter_append]; congr 1; rw [List.filter_cons, List.filter_nil]
      rw [hfl]
      cases hb : (!decide (y ∈ [32, 10])) with
      | true =>
        rw [if_pos rfl, if_pos rfl]
        refine ⟨?_, ?_⟩
        · rw [List.length_map]
          have := List.length_filter_le (fun x => !decide (x ∈ [32, 10])) (l.take k)
          rw [List.length_take] at this
          unfold lettersL; omega
        · walk_at "run"
          exact ⟨_, _, by walk_at "le", HM.le.refl _, rfl, rfl, by rw [List.map_append]; rfl⟩
      | false =>
        rw [if_neg Bool.false_ne_true, if_neg Bool.false_ne_true, List.append_nil]
        exact ⟨_, _, by walk_at "le", HM.le.refl _, rfl, rfl, rfl⟩
    · rintro ys m' H' ⟨rfl, rfl, rfl⟩
      rw [List.length_map, List.take_length]
      exact ⟨rfl, rfl⟩
  · rintro D ys H' hD1 hD2 ⟨rfl, rfl⟩
    walk_at "run"
    exact EndJ.retE (h D hD1)
end
section
variable {c : FC} {P : Params} {n : Nat} {m : LM} {H : HM} {X : XM}
def partStep (acc : List (List Nat)) (x : Nat) : List (List Nat) := match acc.getLast? with
  | some (z :: zs) => if decide (z = 32) = decide (x = 32) then acc.dropLast ++ [(z :: zs) ++ [x]] else acc ++ [[x]]
  | _ => acc ++ [[x]]
def partsL (l : List Nat) : List (List Nat) := l.foldl partStep []
theorem partsL_snoc (l : List Nat) (x : Nat) : partsL (l ++ [x]) = partStep (partsL l) x := by unfold partsL; rw [List.foldl_append]; rfl
theorem partStep_len (acc : List (List Nat)) (x : Nat) : (partStep acc x).length ≤ acc.length + 1 := by
  unfold partStep
  split
  · rename_i z zs e
    split
    · have : 0 < acc.length := List.length_pos_iff.mpr (fun q => by rw [q] at e; cases e)
      simp only [List.length_append, List.length_dropLast, List.length_singleton]; omega
    · simp
  · simp
theorem partsL_len : ∀ l : List Nat, (partsL l).length ≤ l.length := by
  intro l
  induction l using snocInd with
  | h0 => exact Nat.le_refl _
  | h1 l x ih => rw [partsL_snoc]; have := partStep_len (partsL l) x; simp; omega
theorem partStep_sum (acc : List (List Nat)) (x : Nat) : (partStep acc x).flatten = acc.flatten ++ [x] := by
  unfold partStep
  split
  · rename_i z zs e
    have e2 := getLast_split e
    split
    · conv => rhs; rw [e2]
      simp
    · simp
  · simp
theorem partsL_sum (l : List Nat) : (partsL l).flatten = l := by
  induction l using snocInd with
  | h0 => rfl
  | h1 l x ih => rw [partsL_snoc, partStep_sum, ih]
theorem mem_flatten_len {ls : List (List Nat)} {y : List Nat} (h : y ∈ ls) : y.length ≤ ls.flatten.length := by
  induction ls with
  | nil => cases h
  | cons a r ih =>
    rw [List.flatten_cons, List.length_append]
    rcases List.mem_cons.mp h with rfl | h
    · omega
    · have := ih h; omega
theorem K_parts {l : List Nat} {Q : Value → HM → Prop} (O : Ok c (KK P) (n + 1)) (hl : l.length ≤ 1000000) (h : ∀ r, H r = none → Q (.ref r) (H.set r (.list ((partsL l).map VT)))) : CallJ c (.ref 204) [VT l] [] m H Q X := by
  refine CallJ.run O ⟨⟨_, _, _, rfl⟩, rfl, rfl, rfl, rfl, rfl, rfl, rfl, rfl, by decide⟩ (.a1 fun _ => rfl) rfl ?_
  intro L hL Ok'
  show Exs _ _ [("text", VT l)] H _ _
  walk_at "run"
  rename_i r hr t ht1 ht2
  refine Ex.forG Ok'.hh ?_ (fun _ => rfl)
  walk_at "run"
  refine ⟨_, _, _, _, Src.str l (by omega), fun k m' H' => ∃ lastv, m' = ([("last", lastv), ("found", .ref r)] : LM) ∧ H' = H.set r (.list ((partsL (l.take k)).map VT)) ∧ ((partsL (l.take k) = [] ∧ lastv = .none) ∨ ∃ ini z zs, partsL (l.take k) = ini ++ [z :: zs] ∧ lastv = VB (decide (z = 32))), ?_, ?_, ?_⟩
  · exact ⟨_, _, by walk_at "le", HM.le_fresh (HM.set_none.mpr ⟨ht1, ht2⟩), _, rfl, rfl, .inl ⟨rfl, rfl⟩⟩
  · rintro k x m' H' hx ⟨lastv, rfl, rfl, hc⟩
    rw [List.getElem?_map, Option.map_eq_some_iff] at hx
    obtain ⟨y, hy, rfl⟩ := hx
    have htk : l.take (k + 1) = l.take k ++ [y] := by rw [List.take_add_one, hy]; rfl
    have hs : (H.set r (.list ((partsL (l.take k)).map VT))) r = some (.list ((partsL (l.take k)).map VT)) := HM.set_same _ _ _
    have hpl : ((partsL (l.take k)).map VT).length < 16000000 := by
      rw [List.length_map]; have := partsL_len (l.take k); rw [List.length_take] at this; omega
    have hd : decide ([y] = [32]) = decide (y = 32) := by simp
    walk_at "run"
    rw [hd]
    rcases hc with ⟨hc, rfl⟩ | ⟨ini, z, zs, hc, rfl⟩
    · walk_at "run"
      refine ⟨_, _, by walk_at "le", HM.le.refl _, _, rfl, ?_, .inr ⟨[], y, [], ?_, ?_⟩⟩
      · rw [HM.set_set, htk, partsL_snoc, hc]; rfl
      · rw [htk, partsL_snoc, hc]; rfl
      · rfl
    · have hx2 : partStep (partsL (l.take k)) y = if (decide (y = 32) == decide (z = 32)) = true then ini ++ [(z :: zs) ++ [y]] else (ini ++ [z :: zs]) ++ [[y]] := by
        rw [hc]
        unfold partStep
        rw [List.getLast?_concat]
        simp only [List.dropLast_concat]
        by_cases q : decide (y = 32) = decide (z = 32)
        · rw [if_pos q.symm, if_pos (beq_iff_eq.mpr q)]
        · rw [if_neg (fun z => q z.symm), if_neg (fun z => q (beq_iff_eq.mp z))]
      have hs2 : (H.set r (.list ((partsL (l.take k)).map VT))) r = some (.list (ini.map VT ++ [VT (z :: zs)])) := by rw [HM.set_same, hc, List.map_append]; rfl
      have hzl : (z :: zs).length ≤ l.length := by
        have h1 := mem_flatten_len (ls := partsL (l.take k)) (y := z :: zs) (by rw [hc]; simp)
        rw [partsL_sum, List.length_take] at h1; omega
      walk_at "run"
      cases hb : (decide (y = 32) == decide (z = 32)) with
      | true =>
        rw [hb, if_pos rfl] at hx2
        rw [if_pos rfl]
        have hy1 : (z :: zs).length + [y].length ≤ 16000000 := by simp at hzl ⊢; omega
        walk_at "run"
        refine ⟨_, _, by walk_at "le", HM.le.refl _, _, rfl, ?_, .inr ⟨ini, z, zs ++ [y], ?_, ?_⟩⟩
        · rw [HM.set_set, htk, partsL_snoc, hx2, List.map_append]; rfl
        · rw [htk, partsL_snoc, hx2]; rfl
        · rw [beq_iff_eq] at hb; rw [hb]
      | false =>
        rw [hb, if_neg Bool.false_ne_true] at hx2
        rw [if_neg Bool.false_ne_true]
        have hpl2 : (ini.map VT ++ [VT (z :: zs)]).length < 16000000 := by
          rw [hc, List.length_map, List.length_append] at hpl
          rw [List.length_append, List.length_map]; exact hpl
        walk_at "run"
        refine ⟨_, _, by walk_at "le", HM.le.refl _, _, rfl, ?_, .inr ⟨ini ++ [z :: zs], y, [], ?_, ?_⟩⟩
        · rw [HM.set_set, htk, partsL_snoc, hx2, List.map_append, List.map_append]; rfl
        · rw [htk, partsL_snoc, hx2]
        · rfl
  · rintro m' H' ⟨lastv, rfl, rfl, hc⟩
    rw [List.length_map, List.take_length]
    walk_at "run"
    exact EndJ.retE (h r hr)
end

section
variable {c : FC} {P : Params} {n : Nat} {m : LM} {H : HM} {X : XM}
/-! ## _law_laid -/
def dropL (more : Bool) : List (List Nat) → List (List Nat)
  | p :: r => if (more && decide (stripL Unicode.isSpace p = [])) = true then r else p :: r
  | [] => []
def greedyL (room : Int) : List Nat → List (List Nat) → List Nat × List (List Nat)
  | line, [] => (line, [])
  | line, p :: r => if (line.length : Int) + p.length ≤ room then greedyL room (line ++ p) r else (line, p :: r)
def cutL (room : Int) (line : List Nat) : List (List Nat) → List Nat × List (List Nat)
  | p :: r => if (p.length : Int) > room then (line ++ p.take (max 1 (room - line.length)).toNat, p.drop (max 1 (room - line.length)).toNat :: r) else (line, p :: r)
  | [] => (line, [])
def layL (room : Int) (more : Bool) (parts : List (List Nat)) : List Nat × List (List Nat) :=
  let g := greedyL room [] (dropL more parts)
  let q := cutL room g.1 g.2
  (rstripL [32].contains q.1, q.2)
def lawF (w : Int) (fi fr : List Nat) : Nat → List (List Nat) → List (List Nat) → Option (List (List Nat))
  | _, [], ls => some ls
  | 0, _ :: _, _ => none
  | k + 1, p :: ps, ls =>
    let mark := if ls = [] then fi else fr
    let q := layL (w - mark.length) (!ls.isEmpty) (p :: ps)
    lawF w fi fr k q.2 (if q.1 = [] then ls else ls ++ [mark ++ q.1])
def szP (parts : List (List Nat)) : Nat := parts.flatten.length + parts.length
theorem dropL_sz (more : Bool) (parts : List (List Nat)) : szP (dropL more parts) ≤ szP parts := by
  cases parts with
  | nil => exact Nat.le_refl _
  | cons p r =>
    have e : dropL more (p :: r) = if (more && decide (stripL Unicode.isSpace p = [])) = true then r else p :: r := rfl
    rw [e]
    split
    · unfold szP; rw [List.flatten_cons, List.length_append, List.length_cons]; omega
    · exact Nat.le_refl _
theorem greedyL_sz (room : Int) : ∀ (parts : List (List Nat)) (line : List Nat), (greedyL room line parts).1.length + szP (greedyL room line parts).2 ≤ line.length + szP parts
  | [], line => Nat.le_refl _
  | p :: r, line => by
    unfold greedyL
    split
    · have := greedyL_sz room r (line ++ p)
      have e : szP (p :: r) = p.length + szP r + 1 := by unfold szP; rw [List.flatten_cons, List.length_append, List.length_cons]; omega
      rw [List.length_append] at this; omega
    · exact Nat.le_refl _
theorem cutL_sz (room : Int) (parts : List (List Nat)) (line : List Nat) : (cutL room line parts).1.length + szP (cutL room line parts).2 ≤ line.length + szP parts := by
  cases parts with
  | nil => exact Nat.le_refl _
  | cons p r =>
    have e : cutL room line (p :: r) = if (p.length : Int) > room then (line ++ p.take (max 1 (room - line.length)).toNat, p.drop (max 1 (room - line.length)).toNat :: r) else (line, p :: r) := rfl
    rw [e]
    split
    · unfold szP
      simp only [List.flatten_cons, List.length_append, List.length_cons, List.length_take, List.length_drop]; omega
    · exact Nat.le_refl _
theorem map_nil_iff {l : List (List Nat)} : decide (l.map VT = []) = decide (l = []) := by simp
set_option maxRecDepth 200000 in
theorem K_laid {l fi fr : List Nat} {w : Int} {k : Nat} {out : List (List Nat)} {Q : Value → HM → Prop} (O : Ok c (KK P) (n + 2)) (hl : l.length ≤ 100000) (li : fi.length ≤ 100000) (lr : fr.length ≤ 100000) (hk : k ≤ 1000000) (hf : lawF w fi fr k (partsL l) [] = some out)
    (h : ∀ r H', H r = none → Upd [] H H' → H' r = some (.list (out.map VT)) → Q (.ref r) H') : CallJ c (.ref 211) [VT l, VI w, VT fi, VT fr] [] m H Q X := by
  refine CallJ.run O ⟨⟨_, _, _, rfl⟩, rfl, rfl, rfl, rfl, rfl, rfl, rfl, rfl, by decide⟩ (.a4 fun _ _ _ _ => rfl) rfl ?_
  intro L hL Ok'
  show Exs _ _ [("rest", VT fr), ("first", VT fi), ("width", VI w), ("text", VT l)] H _ _
  walk_at "run"
  with_reducible refine K_parts (n := n) (by assumption) (by omega) fun p0 hp0 => ?_
  walk_at "run"
  rename_i ln hln1 hln t ht1 ht2 ht3
  have hu0 : Upd [] H (((H.set p0 (.list ((partsL l).map VT))).set ln (.list [])).set t (.tup [.ref p0, .ref ln])) := Upd.old ht3 (Upd.old hln (Upd.old hp0 (Upd.refl _ _)))
  have hsz : szP (partsL l) ≤ 200000 := by have := partsL_len l; unfold szP; rw [partsL_sum]; omega
  refine Ex.whileG (fun j m' H' => ∃ pr parts lines, m' = ([("parts", .ref pr), ("lines", .ref ln), ("rest", VT fr), ("first", VT fi), ("width", VI w), ("text", VT l)] : LM) ∧ Upd [] H H' ∧ H' pr = some (.list (parts.map VT)) ∧ H' ln = some (.list (lines.map VT)) ∧ pr ≠ ln ∧ szP parts ≤ 200000 ∧ lines.length + j ≤ 1000000 ∧ lawF w fi fr j parts lines = some out) k
    ⟨_, _, by walk_at "le", HM.le.refl _, p0, partsL l, [], rfl, hu0, by walk_at "heap", by walk_at "heap", Ne.symm hln1, hsz, by simpa using hk, hf⟩ ?_
  rintro j m' H' ⟨pr, parts, lines, rfl, hu, hpr, hlns, hne, hs, hlj, hf'⟩
  have hpl : (parts.map VT).length ≤ 16000000 := by rw [List.length_map]; unfold szP at hs; omega
  have hll : (lines.map VT).length < 16000000 := by rw [List.length_map]; omega
  have hpr0 : H' pr = some (.list (parts.map VT)) := hpr
  walk_at "run"
  rw [map_nil_iff]
  cases parts with
  | nil =>
    refine iteFe (by simp) ?_
    walk_at "run"
    rename_i r0 hr0
    have hd : lines = out := by cases j <;> exact Option.some.inj hf'
    subst hd
    refine EndJ.ret H' (HM.le_fresh hr0) (h ln H' hln hu hlns)
  | cons p ps =>
    refine iteTe (by simp) ?_
    cases j with
    | zero => cases hf'
    | succ j =>
    have hfx : lawF w fi fr j (layL (w - (if lines = [] then fi else fr).length) (!lines.isEmpty) (p :: ps)).2 (if (layL (w - (if lines = [] then fi else fr).length) (!lines.isEmpty) (p :: ps)).1 = [] then lines else lines ++ [(if lines = [] then fi else fr) ++ (layL (w - (if lines = [] then fi else fr).length) (!lines.isEmpty) (p :: ps)).1]) = some out := hf'
    clear hf'
    with_reducible refine Exs.via (fun m' H2 => m' = ([("mark", VT (if lines = [] then fi else fr)), ("parts", .ref pr), ("lines", .ref ln), ("rest", VT fr), ("first", VT fi), ("width", VI w), ("text", VT l)] : LM) ∧ H2 = H') ?_ ?_
    · rename_i r0 hr0
      walk_at "run"
      rw [map_nil_iff]
      rename_i r1 hr1 hr1'
      by_cases hle : lines = []
      · refine iteFe (by simp [hle]) ?_
        rw [if_pos hle]
        walk_at "run"
        exact ⟨rfl, _, H', by walk_at "le", HM.le_fresh' (HM.set_none.mpr ⟨hr1, hr1'⟩) (HM.le_fresh hr0), rfl, rfl⟩
      · refine iteTe (by simp [hle]) ?_
        rw [if_neg hle]
        walk_at "run"
        exact ⟨rfl, _, H', by walk_at "le", HM.le_fresh' (HM.set_none.mpr ⟨hr1, hr1'⟩) (HM.le_fresh hr0), rfl, rfl⟩
    rintro _ _ ⟨rfl, q⟩
    rw [q]; clear q
    have hmk : (if lines = [] then fi else fr).length ≤ 100000 := by split <;> assumption
    have hmk1 : (if lines = [] then fi else fr).length < 16000000 := by omega
    have hmore : (!lines.isEmpty) = !decide (lines = []) := by cases lines <;> rfl
    generalize (if lines = [] then fi else fr) = mk at *
    with_reducible refine Exs.via (fun m' H2 => m' = ([("room", VI (w - mk.length)), ("mark", VT mk), ("parts", .ref pr), ("lines", .ref ln), ("rest", VT fr), ("first", VT fi), ("width", VI w), ("text", VT l)] : LM) ∧ H2 = H') ?_ ?_
    · walk_at "run"
      exact ⟨rfl, _, H', by walk_at "le", HM.le.refl _, rfl, rfl⟩
    rintro _ _ ⟨rfl, q⟩
    rw [q]; clear q
    generalize hroom : w - (mk.length : Int) = room at *
    have hp0l : p.length ≤ 16000000 := by unfold szP at hs; rw [List.flatten_cons, List.length_append] at hs; omega
    have hpr1 : H' pr = some (.list (VT p :: ps.map VT)) := hpr
    with_reducible refine Exs.via (fun m' H2 => ∃ pr2, m' = ([("room", VI room), ("mark", VT mk), ("parts", .ref pr2), ("lines", .ref ln), ("rest", VT fr), ("first", VT fi), ("width", VI w), ("text", VT l)] : LM) ∧ Upd [] H' H2 ∧ H2 pr2 = some (.list ((dropL (!lines.isEmpty) (p :: ps)).map VT)) ∧ pr2 ≠ ln) ?_ ?_
    · walk_at "run"
      rename_i r0 hr0 r1 hr1
      rw [map_nil_iff]
      have e : dropL (!lines.isEmpty) (p :: ps) = if ((!lines.isEmpty) && decide (stripL Unicode.isSpace p = [])) = true then ps else p :: ps := rfl
      by_cases hle : lines = []
      · refine iteFe (by simp [hle]) ?_
        walk_at "run"
        have e2 : dropL (!lines.isEmpty) (p :: ps) = p :: ps := by rw [e, if_neg (by simp [hle])]
        exact ViaJ.mk (by walk_at "le") ⟨pr, rfl, Upd.new hr1 (Upd.refl _ _), by rw [e2, HM.set_ne _ _ (HM.ne_of hr1 hpr)]; exact hpr, hne⟩
      · refine iteTe (by simp [hle]) ?_
        have hle2 : (!lines.isEmpty) = true := by cases lines with
          | nil => exact absurd rfl hle
          | cons _ _ => rfl
        walk_at "run"
        by_cases hst : stripL Unicode.isSpace p = []
        · have e2 : dropL (!lines.isEmpty) (p :: ps) = ps := by rw [e, if_pos (by simp [hle2, hst])]
          refine iteTe (by simpa using hst) ?_
          have hprX : (H'.set r1 (.list [])) pr = some (.list (VT p :: ps.map VT)) := by rw [HM.set_ne _ _ (HM.ne_of hr1 hpr)]; exact hpr1
          walk_at "run"
          refine SliceG.list (Bnd.ofInt (by decide)) .non hprX (by simp at hpl ⊢; omega) (fun q hq => ?_)
          walk_at "run"
          refine ViaJ.mk (by walk_at "le") ⟨q, rfl, Upd.new hq (Upd.new hr1 (Upd.refl _ _)), by rw [e2, HM.set_same]; rfl, ?_⟩
          exact Ne.symm (HM.ne_of (HM.set_none.mp hq).2 hlns)
        · have e2 : dropL (!lines.isEmpty) (p :: ps) = p :: ps := by rw [e, if_neg (by simp [hst])]
          refine iteFe (by simpa using hst) ?_
          walk_at "run"
          exact ViaJ.mk (by walk_at "le") ⟨pr, rfl, Upd.new hr1 (Upd.refl _ _), by rw [e2, HM.set_ne _ _ (HM.ne_of hr1 hpr)]; exact hpr, hne⟩
    rintro _ H2 ⟨pr2, rfl, hu2, hpr2, hne2⟩
    have hs2 := dropL_sz (!lines.isEmpty) (p :: ps)
    have hlns2 := hu2 _ _ (by simp) hlns
    have hfy : layL room (!lines.isEmpty) (p :: ps) = (rstripL [32].contains (cutL room (greedyL room [] (dropL (!lines.isEmpty) (p :: ps))).1 (greedyL room [] (dropL (!lines.isEmpty) (p :: ps))).2).1, (cutL room (greedyL room [] (dropL (!lines.isEmpty) (p :: ps))).1 (greedyL room [] (dropL (!lines.isEmpty) (p :: ps))).2).2) := rfl
    rw [hfy] at hfx
    clear hfy hpr hpr0 hpr1 hpl
    generalize dropL (!lines.isEmpty) (p :: ps) = d1 at *
    with_reducible refine Exs.via (fun m' H3 => m' = ([("line", VT []), ("room", VI room), ("mark", VT mk), ("parts", .ref pr2), ("lines", .ref ln), ("rest", VT fr), ("first", VT fi), ("width", VI w), ("text", VT l)] : LM) ∧ H3 = H2) ?_ ?_
    · walk_at "run"
      exact ⟨rfl, _, H2, by walk_at "le", HM.le.refl _, rfl, rfl⟩
    rintro _ _ ⟨rfl, q⟩
    rw [q]; clear q
    with_reducible refine Exs.via (fun m' H3 => ∃ pr3, m' = ([("line", VT (greedyL room [] d1).1), ("room", VI room), ("mark", VT mk), ("parts", .ref pr3), ("lines", .ref ln), ("rest", VT fr), ("first", VT fi), ("width", VI w), ("text", VT l)] : LM) ∧ Upd [] H2 H3 ∧ H3 pr3 = some (.list ((greedyL room [] d1).2.map VT)) ∧ pr3 ≠ ln) ?_ ?_
    · refine Ex.whileG (fun j m' H3 => ∃ pr3 line parts, m' = ([("line", VT line), ("room", VI room), ("mark", VT mk), ("parts", .ref pr3), ("lines", .ref ln), ("rest", VT fr), ("first", VT fi), ("width", VI w), ("text", VT l)] : LM) ∧ Upd [] H2 H3 ∧ H3 pr3 = some (.list (parts.map VT)) ∧ pr3 ≠ ln ∧ greedyL room line parts = greedyL room [] d1 ∧ line.length + szP parts ≤ 200000 ∧ j = parts.length) d1.length
        (Keep.here ⟨pr2, [], d1, rfl, Upd.refl _ _, hpr2, hne2, rfl, by simp; omega, rfl⟩) ?_
      rintro i _ H3 ⟨pr3, line, parts, rfl, hu3, hpr3, hne3, hg, hs3, rfl⟩
      walk_at "run"
      rename_i r1 hr1
      rw [map_nil_iff]
      have hlns3 := hu3 _ _ (by simp) hlns2
      cases parts with
      | nil =>
        refine iteFe (by simp) ?_
        walk_at "run"
        rw [← hg]
        refine ViaJ.mk (by walk_at "le") ⟨pr3, rfl, Upd.new hr1 hu3, ?_, hne3⟩
        rw [HM.set_ne _ _ (HM.ne_of hr1 hpr3)]; exact hpr3
      | cons y ys =>
        refine iteTe (by simp) ?_
        have hpr4 : (H3.set r1 (.list [])) pr3 = some (.list (VT y :: ys.map VT)) := by rw [HM.set_ne _ _ (HM.ne_of hr1 hpr3)]; exact hpr3
        have e : szP (y :: ys) = y.length + szP ys + 1 := by unfold szP; rw [List.flatten_cons, List.length_append, List.length_cons]; omega
        have e3 : ys.length ≤ szP ys := by unfold szP; omega
        have hy1 : line.length < 16000000 := by omega
        have hy2 : y.length < 16000000 := by omega
        walk_at "run"
        by_cases hfit : (line.length : Int) + y.length ≤ room
        · refine iteTe (by simpa using hfit) ?_
          have hy3 : line.length + y.length ≤ 16000000 := by omega
          walk_at "run"
          refine SliceG.list (Bnd.ofInt (by decide)) .non hpr4 (by simp; omega) (fun q hq => ?_)
          walk_at "run"
          rename_i t1 tt1 tt2 tt3
          have hqn := HM.set_none.mp hq
          refine ⟨ys.length, by simp, _, _, by walk_at "le", HM.le.refl _, q, line ++ y, ys, rfl, ?_, ?_, ?_, ?_, ?_, rfl⟩
          · exact Upd.new (HM.set_none.mpr ⟨tt1, HM.set_none.mpr ⟨tt2, tt3⟩⟩) (Upd.new hq (Upd.new hr1 hu3))
          · rw [HM.set_ne _ _ (Ne.symm tt1), HM.set_same]; rfl
          · exact Ne.symm (HM.ne_of hqn.2 hlns3)
          · rw [← hg]; conv => rhs; unfold greedyL
            rw [if_pos hfit]
          · rw [List.length_append]; omega
        · refine iteFe (by simpa using hfit) ?_
          walk_at "run"
          have e4 : greedyL room line (y :: ys) = (line, y :: ys) := by unfold greedyL; rw [if_neg hfit]
          rw [← hg, e4]
          exact ViaJ.mk (by walk_at "le") ⟨pr3, rfl, Upd.new hr1 hu3, hpr4, hne3⟩
    rintro _ H3 ⟨pr3, rfl, hu3, hpr3, hne3⟩
    have hgs := greedyL_sz room d1 []
    have hlns3 := hu3 _ _ (by simp) hlns2
    have hcs := cutL_sz room (greedyL room [] d1).2 (greedyL room [] d1).1
    generalize (greedyL room [] d1).1 = line at *
    generalize (greedyL room [] d1).2 = parts at *
    with_reducible refine Exs.via (fun m' H4 => ∃ pr4, m' = ([("line", VT (cutL room line parts).1), ("room", VI room), ("mark", VT mk), ("parts", .ref pr4), ("lines", .ref ln), ("rest", VT fr), ("first", VT fi), ("width", VI w), ("text", VT l)] : LM) ∧ Upd [] H3 H4 ∧ H4 pr4 = some (.list ((cutL room line parts).2.map VT)) ∧ pr4 ≠ ln) ?_ ?_
    · walk_at "run"
      rename_i r1 hr1
      rw [map_nil_iff]
      cases parts with
      | nil =>
        refine iteFe (by simp) ?_
        walk_at "run"
        exact ViaJ.mk (by walk_at "le") ⟨pr3, rfl, Upd.new hr1 (Upd.refl _ _), by rw [HM.set_ne _ _ (HM.ne_of hr1 hpr3)]; exact hpr3, hne3⟩
      | cons y ys =>
        refine iteTe (by simp) ?_
        have hpr4 : (H3.set r1 (.list [])) pr3 = some (.list (VT y :: ys.map VT)) := by rw [HM.set_ne _ _ (HM.ne_of hr1 hpr3)]; exact hpr3
        have e : szP (y :: ys) = y.length + szP ys + 1 := by unfold szP; rw [List.flatten_cons, List.length_append, List.length_cons]; omega
        have e3 : ys.length ≤ szP ys := by unfold szP; omega
        have hy0 : ([] : List Nat).length = 0 := rfl
        have hy1 : line.length < 16000000 := by omega
        have hy2 : y.length < 16000000 := by omega
        have e5 : cutL room line (y :: ys) = if (y.length : Int) > room then (line ++ y.take (max 1 (room - line.length)).toNat, y.drop (max 1 (room - line.length)).toNat :: ys) else (line, y :: ys) := rfl
        walk_at "run"
        by_cases hfit : (y.length : Int) > room
        · rw [if_pos hfit] at e5
          rw [e5]
          refine iteTe (by simpa using hfit) ?_
          walk_at "run"
          refine C_max (Ok'.hh) ?_
          walk_at "run"
          refine SliceG.str .non (Bnd.ofInt (by omega)) (by omega) ?_
          have hy3 : line.length + (cut y none (some (max 1 (room - line.length)).toNat)).length ≤ 16000000 := by
            have := cut_le y none (some (max 1 (room - line.length)).toNat); omega
          walk_at "run"
          refine SliceG.str (Bnd.ofInt (by omega)) .non (by omega) ?_
          walk_at "run"
          rename_i r2 hr2 hr2'
          have hr22 : (H3.set r1 (.list [])) r2 = none := HM.set_none.mpr ⟨hr2, hr2'⟩
          have hpr5 : ((H3.set r1 (.list [])).set r2 (.list [VT (cut y (some (max 1 (room - line.length)).toNat) none)])) pr3 = some (.list (VT y :: ys.map VT)) := by rw [HM.set_ne _ _ (HM.ne_of hr22 hpr4)]; exact hpr4
          refine SliceG.list (Bnd.ofInt (by decide)) .non hpr5 (by simp; omega) (fun q hq => ?_)
          have hq2 := HM.set_none.mp hq
          have hl1 : [VT (cut y (some (max 1 (room - line.length)).toNat) none)].length + (cut (VT y :: ys.map VT) (some (Int.toNat 1)) none).length ≤ 16000000 := by
            show 1 + (ys.map VT).length ≤ _
            rw [List.length_map]; omega
          have hqr : q ≠ r2 := hq2.1
          have g1 : (((H3.set r1 (.list [])).set r2 (.list [VT (cut y (some (max 1 (room - line.length)).toNat) none)])).set q (.list (cut (VT y :: ys.map VT) (some (Int.toNat 1)) none))) r2 = some (.list [VT (cut y (some (max 1 (room - line.length)).toNat) none)]) := by rw [HM.set_ne _ _ (Ne.symm hqr), HM.set_same]
          have g2 : (((H3.set r1 (.list [])).set r2 (.list [VT (cut y (some (max 1 (room - line.length)).toNat) none)])).set q (.list (cut (VT y :: ys.map VT) (some (Int.toNat 1)) none))) q = some (.list (cut (VT y :: ys.map VT) (some (Int.toNat 1)) none)) := HM.set_same _ _ _
          have uq : Upd [] H3 (((H3.set r1 (.list [])).set r2 (.list [VT (cut y (some (max 1 (room - line.length)).toNat) none)])).set q (.list (cut (VT y :: ys.map VT) (some (Int.toNat 1)) none))) := Upd.new hq (Upd.new hr22 (Upd.new hr1 (Upd.refl _ _)))
          generalize (((H3.set r1 (.list [])).set r2 (.list [VT (cut y (some (max 1 (room - line.length)).toNat) none)])).set q (.list (cut (VT y :: ys.map VT) (some (Int.toNat 1)) none))) = H5 at *
          refine O_addLX _ _ g1 g2 hl1 (fun z hz => ?_)
          walk_at "run"
          rename_i t1 tt1 tt2
          refine ViaJ.mk (by walk_at "le") ⟨z, rfl, Upd.new (HM.set_none.mpr ⟨tt1, tt2⟩) (Upd.new hz uq), ?_, Ne.symm (HM.ne_of hz (uq _ _ (by simp) hlns3))⟩
          rw [HM.set_ne _ _ (Ne.symm tt1), HM.set_same]; rfl
        · rw [if_neg hfit] at e5
          rw [e5]
          refine iteFe (by simpa using hfit) ?_
          walk_at "run"
          exact ViaJ.mk (by walk_at "le") ⟨pr3, rfl, Upd.new hr1 (Upd.refl _ _), hpr4, hne3⟩
    rintro _ H4 ⟨pr4, rfl, hu4, hpr4, hne4⟩
    have hlns4 := hu4 _ _ (by simp) hlns3
    have hcl : (cutL room line parts).1.length ≤ 16000000 := by have : ([] : List Nat).length = 0 := rfl; omega
    have hcz : szP (cutL room line parts).2 ≤ 200000 := by have : ([] : List Nat).length = 0 := rfl; omega
    have hmk2 : mk.length + (rstripL [32].contains (cutL room line parts).1).length ≤ 16000000 := by
      have : (rstripL [32].contains (cutL room line parts).1).length ≤ (cutL room line parts).1.length := by
        unfold rstripL; rw [List.length_reverse]
        have := (List.dropWhile_sublist ([32].contains) (l := (cutL room line parts).1.reverse)).length_le
        rw [List.length_reverse] at this; exact this
      have h0 : ([] : List Nat).length = 0 := rfl
      omega
    have hU : Upd [] H H4 := ((hu.trans hu2).trans hu3).trans hu4
    generalize (cutL room line parts).1 = line4 at *
    generalize (cutL room line parts).2 = parts4 at *
    walk_at "run"
    refine iteN (fun hne0 => ?_) (fun he0 => ?_)
    · walk_at "run"
      simp only [if_neg hne0] at hfx
      refine ⟨j, by omega, _, _, by walk_at "le", HM.le.refl _, pr4, parts4, lines ++ [mk ++ rstripL [32].contains line4], rfl, ?_, ?_, ?_, hne4, hcz, by simp; omega, hfx⟩
      · exact Upd.old hln hU
      · rw [HM.set_ne _ _ hne4]; exact hpr4
      · rw [HM.set_same, List.map_append]; rfl
    · walk_at "run"
      simp only [if_pos he0] at hfx
      exact ⟨j, by omega, _, _, by walk_at "le", HM.le.refl _, pr4, parts4, lines, rfl, hU, hpr4, hlns4, hne4, hcz, by omega, hfx⟩
end

section
variable {c : FC} {P : Params} {n : Nat} {m : LM} {H : HM} {X : XM}
abbrev LPar := Nat × Bool × List (List Nat)
def lparsGo : List (List Nat) → Nat → List (List Nat) → List LPar
  | [], _, _ => []
  | l :: r, ind, rows => if l ≠ [] then (if rows = [] then lparsGo r (l.length - (lstripL [32].contains l).length) [lstripL [32].contains l] else lparsGo r ind (rows ++ [l]))
    else if rows ≠ [] then (ind, decide (rows.headD [] = [8]), rows) :: lparsGo r ind [] else lparsGo r ind rows
def lparsL (l : List Nat) : List LPar := lparsGo (splitL [10] l ++ [[]]) 0 []
def PEnt (H : HM) (a : Addr) (q : LPar) : Prop := ∃ rr, H a = some (.tup [VI q.1, VB q.2.1, .ref rr]) ∧ H rr = some (.list (q.2.2.map VT))
theorem PEnt.upd {H H' : HM} {f : Addr} {as as0 : List Addr} {ps : List LPar} (u : Upd [f] H H') (hf : H f = some (.list (as0.map .ref))) (h : F2 (PEnt H) as ps) (hne : ∀ q ∈ ps, q.2.2 ≠ []) : F2 (PEnt H') as ps := by
  induction h with
  | nil => exact .nil
  | @cons a b as bs h _ ih =>
    refine .cons ?_ (ih fun q hq => hne q (List.mem_cons_of_mem _ hq))
    obtain ⟨rr, h1, h2⟩ := h
    refine ⟨rr, u _ _ (fun q => by rw [List.mem_singleton.mp q, hf] at h1; cases h1) h1, u _ _ (fun q => ?_) h2⟩
    rw [List.mem_singleton.mp q, hf] at h2
    have hb := hne b List.mem_cons_self
    simp only [Option.some.injEq, AO.list.injEq] at h2
    cases hz : b.2.2 with
    | nil => exact hb hz
    | cons z zs =>
      rw [hz] at h2
      cases as0 with
      | nil => simp at h2
      | cons y ys => simp only [List.map_cons, List.cons.injEq] at h2; exact absurd h2.1 (by simp [VT])
theorem rows_nil_iff {l : List (List Nat)} : decide (l.map VT = []) = decide (l = []) := by simp
theorem lstripL_le (p : Nat → Bool) (l : List Nat) : (lstripL p l).length ≤ l.length := (List.dropWhile_sublist p (l := l)).length_le
def szR (ls : List (List Nat)) : Nat := (ls.map fun l => l.length + 1).sum
theorem szR_cons (l : List Nat) (ls : List (List Nat)) : szR (l :: ls) = l.length + 1 + szR ls := by simp [szR]
theorem szR_append (a b : List (List Nat)) : szR (a ++ b) = szR a + szR b := by simp [szR]
theorem szR_len : ∀ ls : List (List Nat), ls.length ≤ szR ls
  | [] => Nat.zero_le _
  | l :: r => by rw [szR_cons, List.length_cons]; have := szR_len r; omega
theorem K_lpars {l : List Nat} {Q : Value → HM → Prop} (O : Ok c (KK P) (n + 1)) (hl : l.length ≤ 90000) (h256 : ∀ x ∈ l, x < 256) (hsz : szR (splitL [10] l) ≤ 100000)
    (h : ∀ r as H', H r = none → Upd [] H H' → H' r = some (.list (as.map .ref)) → F2 (PEnt H') as (lparsL l) → Q (.ref r) H') : CallJ c (.ref 218) [VT l] [] m H Q X := by
  refine CallJ.run O ⟨⟨_, _, _, rfl⟩, rfl, rfl, rfl, rfl, rfl, rfl, rfl, rfl, by decide⟩ (.a1 fun _ => rfl) rfl ?_
  intro L hL Ok'
  show Exs _ _ [("text", VT l)] H _ _
  walk_at "run"
  rename_i f0 hf0 r0 hr01 hr0 t ht1 ht2 ht3
  have hsp := szR_len (splitL [10] l)
  with_reducible refine Ex.via (fun m' H' => ∃ as, m' = ([("found", .ref f0)] : LM) ∧ Upd [] H H' ∧ H' f0 = some (.list (as.map .ref)) ∧ F2 (PEnt H') as (lparsL l)) ?_ ?_
  · refine Ex.forGN Ok'.hh ?_ (fun _ => rfl)
    walk_at "run"
    refine C_split (by simp) h256 (by decide) (by omega) (fun s1 hs1 => ?_)
    simp only [HM.set_none] at hs1
    obtain ⟨c1, c2, c3, c4⟩ := hs1
    walk_at "run"
    rename_i ra a1 a2 a3 a4 a5 rb b1 b2 b3 b4 b5 b6
    have u0 : Upd [] H (((((((H.set f0 (.list [])).set r0 (.list [])).set t (.tup [.ref f0, .ref r0, VI 0])).set s1 (.list ((splitL [10] l).map VT))).set ra (.list [VT []])).set rb (.list ((splitL [10] l).map VT ++ [VT []]))).del rb) :=
      Upd.del b6 (Upd.old b6 (Upd.old a5 (Upd.old c4 (Upd.old ht3 (Upd.old hr0 (Upd.old hf0 (Upd.refl _ _)))))))
    have v1 : ((((((H.set f0 (.list [])).set r0 (.list [])).set t (.tup [.ref f0, .ref r0, VI 0])).set s1 (.list ((splitL [10] l).map VT))).set ra (.list [VT []])).set rb (.list ((splitL [10] l).map VT ++ [VT []]))) rb = some (.list ((splitL [10] l ++ [[]]).map VT)) := by rw [HM.set_same, List.map_append]; rfl
    refine ForJN.list v1 (by simp; omega) (fun k m' H' => ∃ as ps ind rr rows, m' = ([("indent", VI (ind : Nat)), ("rows", .ref rr), ("found", .ref f0)] : LM) ∧ Upd [] H H' ∧ H' f0 = some (.list (as.map .ref)) ∧ H' rr = some (.list (rows.map VT)) ∧ rr ≠ f0 ∧ F2 (PEnt H') as ps ∧ (∀ q ∈ ps, q.2.2 ≠ []) ∧ ps ++ lparsGo ((splitL [10] l ++ [[]]).drop k) ind rows = lparsL l ∧ szR rows + szR ((splitL [10] l ++ [[]]).drop k) ≤ 100001 ∧ as.length ≤ k)
      ⟨_, _, by walk_at "le", HM.le.refl _, [], [], 0, r0, [], rfl, u0, ?_, ?_, hr01, .nil, (fun _ h => by cases h), rfl, ?_, Nat.le_refl _⟩ ?_ ?_
    · rw [HM.del_ne _ (Ne.symm b5)]; walk_at "heap"
    · rw [HM.del_ne _ (Ne.symm b4)]; walk_at "heap"
    · rw [List.drop_zero, szR_append]; simp [szR] at *; omega
    · rintro k x m' H' hx hn ⟨as, ps, ind, rr, rows, rfl, u, g1, g2, g3, g4, g5, g6, g7, g8⟩
      rw [List.getElem?_map, Option.map_eq_some_iff] at hx
      obtain ⟨y, hy, rfl⟩ := hx
      obtain ⟨hyk, hye⟩ := List.getElem?_eq_some_iff.mp hy
      have hdr : (splitL [10] l ++ [[]]).drop k = y :: (splitL [10] l ++ [[]]).drop (k + 1) := by rw [List.drop_eq_getElem_cons hyk, hye]
      rw [hdr] at g6 g7
      rw [szR_cons] at g7
      have hk9 : k ≤ 100001 := by rw [List.length_append] at hyk; simp at hyk; omega
      have hrl := szR_len rows
      have hy1 : y.length < 16000000 := by omega
      have hy2 : (lstripL [32].contains y).length < 16000000 := Nat.lt_of_le_of_lt (lstripL_le _ _) hy1
      have hrm : (rows.map VT).length < 16000000 := by rw [List.length_map]; omega
      have hrm1 : (rows.map VT).length + [VT y].length ≤ 16000000 := by rw [List.length_map]; simp; omega
      have hrm2 : (rows.map VT).length + [VT (lstripL [32].contains y)].length ≤ 16000000 := by rw [List.length_map]; simp; omega
      have hasl : (as.map Value.ref).length < 16000000 := by rw [List.length_map]; omega
      have e0 : lparsGo (y :: (splitL [10] l ++ [[]]).drop (k + 1)) ind rows = if y ≠ [] then (if rows = [] then lparsGo ((splitL [10] l ++ [[]]).drop (k + 1)) (y.length - (lstripL [32].contains y).length) [lstripL [32].contains y] else lparsGo ((splitL [10] l ++ [[]]).drop (k + 1)) ind (rows ++ [y]))
        else if rows ≠ [] then (ind, decide (rows.headD [] = [8]), rows) :: lparsGo ((splitL [10] l ++ [[]]).drop (k + 1)) ind [] else lparsGo ((splitL [10] l ++ [[]]).drop (k + 1)) ind rows := rfl
      rw [e0] at g6
      walk_at "run"
      refine iteN (fun hne => ?_) (fun hem => ?_)
      · rw [if_pos hne] at g6
        walk_at "run"
        rename_i z hz
        rw [rows_nil_iff]
        refine iteD (fun hrn => ?_) (fun hrn => ?_)
        · rw [if_pos hrn] at g6
          subst hrn
          walk_at "run"
          rename_i x1 x2 x3 w1 w2 w3 w4
          have hsub : (y.length : Int) - ((lstripL [32].contains y).length : Int) = ((y.length - (lstripL [32].contains y).length : Nat) : Int) := by have := lstripL_le [32].contains y; omega
          rw [hsub]
          have un : Upd [] H' (((H'.set z (.list [])).set x1 (.list [VT (lstripL [32].contains y)])).set w1 (.list ([] ++ [VT (lstripL [32].contains y)]))) := Upd.old w4 (Upd.old x3 (Upd.old hz (Upd.refl _ _)))
          refine ⟨_, _, by walk_at "le", HM.le.refl _, as, ps, y.length - (lstripL [32].contains y).length, w1, [lstripL [32].contains y], rfl, u.trans un, un _ _ (by simp) g1, HM.set_same _ _ _, Ne.symm (HM.ne_of w4 g1), PEnt.upd (fun a o ha e => un a o (by simp) e) g1 g4 g5, g5, g6, ?_, by omega⟩
          have := lstripL_le [32].contains y
          simp [szR] at g7 ⊢; omega
        · rw [if_neg hrn] at g6
          walk_at "run"
          rename_i x1 x2 x3 w1 w2 w3 w4
          have un : Upd [] H' (((H'.set z (.list [])).set x1 (.list [VT y])).set w1 (.list (rows.map VT ++ [VT y]))) := Upd.old w4 (Upd.old x3 (Upd.old hz (Upd.refl _ _)))
          refine ⟨_, _, by walk_at "le", HM.le.refl _, as, ps, ind, w1, rows ++ [y], rfl, u.trans un, un _ _ (by simp) g1, by rw [HM.set_same, List.map_append]; rfl, Ne.symm (HM.ne_of w4 g1), PEnt.upd (fun a o ha e => un a o (by simp) e) g1 g4 g5, g5, g6, ?_, by omega⟩
          rw [szR_append, szR_cons]; simp [szR] at g7 ⊢; omega
      · rw [if_neg (fun z => z hem)] at g6
        walk_at "run"
        rename_i z hz
        rw [rows_nil_iff]
        refine iteN (fun hrn => ?_) (fun hrn => ?_)
        · rw [if_pos hrn] at g6
          obtain ⟨y0, ys, rfl⟩ : ∃ y0 ys, rows = y0 :: ys := List.exists_cons_of_ne_nil hrn
          have g2' : H' rr = some (.list (VT y0 :: ys.map VT)) := g2
          have hrm' : (VT y0 :: ys.map VT).length < 16000000 := by simp at hrm ⊢; omega
          walk_at "run"
          rename_i x1 x2 x3 w1 w2 w3 w5 w4
          have nzf : f0 ≠ z := HM.ne_of hz g1
          have nxf : f0 ≠ x1 := HM.ne_of x3 g1
          have un : Upd [f0] H' ((((H'.set z (.list [])).set x1 (.tup [VI ind, VB (decide (y0 = [8])), .ref rr])).set f0 (.list (as.map .ref ++ [.ref x1]))).set w1 (.list [])) := Upd.old w4 (Upd.at (by simp) (Upd.old x3 (Upd.old hz (Upd.refl _ _))))
          refine ⟨_, _, by walk_at "le", HM.le.refl _, as ++ [x1], ps ++ [(ind, decide (y0 = [8]), y0 :: ys)], ind, w1, [], rfl, ?_, ?_, HM.set_same _ _ _, w2, F2.snoc (PEnt.upd un g1 g4 g5) ?_, ?_, ?_, ?_, ?_⟩
          · exact u.comp un fun a ha => by
              rcases ha with ha | ha
              · cases ha
              · rw [List.mem_singleton.mp ha]; exact .inr hf0
          · rw [HM.set_ne _ _ (Ne.symm w2), HM.set_same, List.map_append]; rfl
          · refine ⟨rr, ?_, un _ _ (by simp [g3]) g2⟩
            rw [HM.set_ne _ _ (Ne.symm w3), HM.set_ne _ _ (Ne.symm nxf), HM.set_same]
          · intro q hq
            rcases List.mem_append.mp hq with hq | hq
            · exact g5 q hq
            · rw [List.mem_singleton.mp hq]; simp
          · rw [List.append_assoc]; exact g6
          · simp [szR] at g7 ⊢; omega
          · rw [List.length_append]; simp; omega
        · rw [if_neg (fun z => z hrn)] at g6
          walk_at "run"
          have un : Upd [] H' (H'.set z (.list [])) := Upd.new hz (Upd.refl _ _)
          refine ⟨_, _, by walk_at "le", HM.le.refl _, as, ps, ind, rr, rows, rfl, u.trans un, un _ _ (by simp) g1, un _ _ (by simp) g2, g3, PEnt.upd (fun a o ha e => un a o (by simp) e) g1 g4 g5, g5, g6, by omega, by omega⟩
    · rintro m' H' hn ⟨as, ps, ind, rr, rows, rfl, u, g1, g2, g3, g4, g5, g6, g7, g8⟩
      rw [List.length_map, List.drop_length] at g6
      have g6 : ps ++ [] = lparsL l := g6
      rw [List.append_nil] at g6
      have un : Upd [] H' (H'.set rb (.list ((splitL [10] l ++ [[]]).map VT))) := Upd.new hn (Upd.refl _ _)
      refine ViaJ.mk (by walk_at "le") ⟨as, rfl, u.trans un, un _ _ (by simp) g1, ?_⟩
      rw [← g6]
      exact PEnt.upd (fun a o ha e => un a o (by simp) e) g1 g4 g5
  · rintro _ H2 ⟨as, rfl, u, g1, g2⟩
    walk_at "run"
    exact EndJ.retE (h f0 as H2 hf0 u g1 g2)
end

section
variable {c : FC} {P : Params} {n : Nat} {m : LM} {H : HM} {X : XM}
theorem natNe (L : Nat) : L + 1 ≠ L + 1 + 1 ∧ L + 1 ≠ L + 1 + 1 + 1 ∧ L + 1 ≠ L + 1 + 1 + 1 + 1 ∧ L + 1 + 1 ≠ L + 1 + 1 + 1 ∧ L + 1 + 1 ≠ L + 1 + 1 + 1 + 1 ∧ L + 1 + 1 + 1 ≠ L + 1 + 1 + 1 + 1 := by omega
/-- what a paragraph is laid as, by the law's own walk -/
def LRes (w : Int) (fi fr : List Nat) (q : LPar) (x : List Nat) : Prop :=
  if q.2.1 = true then joinSize [10] (q.2.2.tail.mapIdx fun i y => (if i = 0 then fi else fr) ++ List.replicate q.1 32 ++ y) ≤ 16000000 ∧ x = joinL [10] (q.2.2.tail.mapIdx fun i y => (if i = 0 then fi else fr) ++ List.replicate q.1 32 ++ y)
  else ∃ k out, k ≤ 1000000 ∧ lawF w (fi ++ List.replicate q.1 32) (fr ++ List.replicate q.1 32) k (partsL (joinL [32] q.2.2)) [] = some out ∧ joinSize [10] out ≤ 16000000 ∧ x = joinL [10] out
theorem K_lwrapped {l fi fr : List Nat} {w : Int} {res : List (List Nat)} {Q : Value → HM → Prop} (O : Ok c (KK P) (n + 3)) (hl : l.length ≤ 90000) (h256 : ∀ x ∈ l, x < 256) (hsz : szR (splitL [10] l) ≤ 90000) (li : fi.length ≤ 10000) (lr : fr.length ≤ 10000)
    (hq : ∀ q ∈ lparsL l, q.1 ≤ 80000 ∧ q.2.2 ≠ [] ∧ joinSize [32] q.2.2 ≤ 90000 ∧ (∀ y ∈ q.2.2, y.length ≤ 90000)) (hps : (lparsL l).length ≤ 1000000)
    (hres : F2 (LRes w fi fr) (lparsL l) res) (hj : joinSize [10, 10] res ≤ 16000000)
    (h : Q (VT (joinL [10, 10] res)) H) : CallJ c (.ref 223) [VT l, VI w, VT fi, VT fr] [] m H Q X := by
  refine CallJ.run O ⟨⟨_, _, _, rfl⟩, rfl, rfl, rfl, rfl, rfl, rfl, rfl, rfl, by decide⟩ (.a4 fun _ _ _ _ => rfl) rfl ?_
  intro L hL Ok'
  show Exs _ _ [("width", VI w), ("text", VT l)] ((((H.set (L + 1) (.cell (some (VT fi)))).set (L + 1 + 1) (.cell (some (VT fr)))).set (L + 1 + 1 + 1) (.cell none)).set (L + 1 + 1 + 1 + 1) (.cell none)) _ _
  have h1 := hL (L + 1) (Nat.le_add_right L 1)
  have h2 := hL (L + 1 + 1) (Nat.le_add_right L 2)
  have h3 := hL (L + 1 + 1 + 1) (Nat.le_add_right L 3)
  have h4 := hL (L + 1 + 1 + 1 + 1) (Nat.le_add_right L 4)
  have n12 : L + 1 ≠ L + 1 + 1 := (natNe L).1
  have n13 : L + 1 ≠ L + 1 + 1 + 1 := (natNe L).2.1
  have n14 : L + 1 ≠ L + 1 + 1 + 1 + 1 := (natNe L).2.2.1
  have n23 : L + 1 + 1 ≠ L + 1 + 1 + 1 := (natNe L).2.2.2.1
  have n24 : L + 1 + 1 ≠ L + 1 + 1 + 1 + 1 := (natNe L).2.2.2.2.1
  have n34 : L + 1 + 1 + 1 ≠ L + 1 + 1 + 1 + 1 := (natNe L).2.2.2.2.2
  have c1 : ((((H.set (L + 1) (.cell (some (VT fi)))).set (L + 1 + 1) (.cell (some (VT fr)))).set (L + 1 + 1 + 1) (.cell none)).set (L + 1 + 1 + 1 + 1) (.cell none)) (L + 1) = some (.cell (some (VT fi))) := by
    rw [HM.set_ne _ _ n14, HM.set_ne _ _ n13, HM.set_ne _ _ n12, HM.set_same]
  have c2 : ((((H.set (L + 1) (.cell (some (VT fi)))).set (L + 1 + 1) (.cell (some (VT fr)))).set (L + 1 + 1 + 1) (.cell none)).set (L + 1 + 1 + 1 + 1) (.cell none)) (L + 1 + 1) = some (.cell (some (VT fr))) := by
    rw [HM.set_ne _ _ n24, HM.set_ne _ _ n23, HM.set_same]
  have c3 : ((((H.set (L + 1) (.cell (some (VT fi)))).set (L + 1 + 1) (.cell (some (VT fr)))).set (L + 1 + 1 + 1) (.cell none)).set (L + 1 + 1 + 1 + 1) (.cell none)) (L + 1 + 1 + 1) = some (.cell none) := by
    rw [HM.set_ne _ _ n34, HM.set_same]
  have c4 : ((((H.set (L + 1) (.cell (some (VT fi)))).set (L + 1 + 1) (.cell (some (VT fr)))).set (L + 1 + 1 + 1) (.cell none)).set (L + 1 + 1 + 1 + 1) (.cell none)) (L + 1 + 1 + 1 + 1) = some (.cell none) := HM.set_same _ _ _
  have u0 : Upd [] H ((((H.set (L + 1) (.cell (some (VT fi)))).set (L + 1 + 1) (.cell (some (VT fr)))).set (L + 1 + 1 + 1) (.cell none)).set (L + 1 + 1 + 1 + 1) (.cell none)) := Upd.old h4 (Upd.old h3 (Upd.old h2 (Upd.old h1 (Upd.refl _ _))))
  generalize ((((H.set (L + 1) (.cell (some (VT fi)))).set (L + 1 + 1) (.cell (some (VT fr)))).set (L + 1 + 1 + 1) (.cell none)).set (L + 1 + 1 + 1 + 1) (.cell none)) = H0 at *
  walk_at "run"
  rename_i f0 hf0
  refine Ex.forGN Ok'.hh ?_ (fun _ => rfl)
  walk_at "run"
  with_reducible refine K_lpars (n := n + 1) (by assumption) hl h256 (by omega) fun r as H1 hr u1 g1 g2 => ?_
  have uf : Upd [] H0 H1 := (Upd.new hf0 (Upd.refl _ _)).trans u1
  have c1 := uf _ _ (by simp) c1
  have c2 := uf _ _ (by simp) c2
  have c3 := uf _ _ (by simp) c3
  have c4 := uf _ _ (by simp) c4
  have gf : H1 f0 = some (.list []) := u1 _ _ (by simp) (HM.set_same _ _ _)
  have nf1 : f0 ≠ L + 1 := fun q => by rw [q, c1] at gf; cases gf
  have nf2 : f0 ≠ L + 1 + 1 := fun q => by rw [q, c2] at gf; cases gf
  have nf3 : f0 ≠ L + 1 + 1 + 1 := fun q => by rw [q, c3] at gf; cases gf
  have nf4 : f0 ≠ L + 1 + 1 + 1 + 1 := fun q => by rw [q, c4] at gf; cases gf
  have nr : ∀ {a o}, H0 a = some o → a ≠ r := fun {a o} e => HM.ne_of hr (by rw [HM.set_ne _ _ (HM.ne_of hf0 e)]; exact e)
  have nrf : f0 ≠ r := fun q => by rw [← q, HM.set_same] at hr; cases hr
  have hal : as.length = (lparsL l).length := g2.len
  have hrl : res.length = (lparsL l).length := hres.len.symm
  have d1 : (H1.del r) (L + 1) = some (.cell (some (VT fi))) := by rw [HM.del_ne _ (fun q => by rw [q, g1] at c1; cases c1)]; exact c1
  have d2 : (H1.del r) (L + 1 + 1) = some (.cell (some (VT fr))) := by rw [HM.del_ne _ (fun q => by rw [q, g1] at c2; cases c2)]; exact c2
  have d3 : (H1.del r) (L + 1 + 1 + 1) = some (.cell none) := by rw [HM.del_ne _ (fun q => by rw [q, g1] at c3; cases c3)]; exact c3
  have d4 : (H1.del r) (L + 1 + 1 + 1 + 1) = some (.cell none) := by rw [HM.del_ne _ (fun q => by rw [q, g1] at c4; cases c4)]; exact c4
  have d5 : (H1.del r) f0 = some (.list []) := by rw [HM.del_ne _ nrf]; exact gf
  refine ForJN.list g1 (by rw [List.length_map]; omega) (fun k m' H' => m' = ([("found", .ref f0), ("width", VI w)] : LM) ∧ Upd [r, f0, L + 1 + 1 + 1, L + 1 + 1 + 1 + 1] H1 H' ∧ H' f0 = some (.list ((res.take k).map VT)) ∧ (∃ v, H' (L + 1 + 1 + 1) = some (.cell v)) ∧ ∃ v, H' (L + 1 + 1 + 1 + 1) = some (.cell v))
    ⟨_, _, by walk_at "le", HM.le.refl _, rfl, Upd.delAt (by simp) (Upd.refl _ _), d5, ⟨_, d3⟩, _, d4⟩ ?_ ?_
  · rintro k x m' H' hx hn ⟨rfl, u2, e5, ⟨v3, e3⟩, v4, e4⟩
    rw [List.getElem?_map, Option.map_eq_some_iff] at hx
    obtain ⟨t, ht, rfl⟩ := hx
    obtain ⟨q, hqk, rr, hq1, hq2⟩ := g2.get ht
    obtain ⟨y, hy, hyr⟩ := hres.get hqk
    obtain ⟨ok1, ok2, ok3, ok4⟩ := hq q (List.mem_of_getElem? hqk)
    have nt : ∀ {b : Addr} {o : AO}, H1 b = some o → (∀ vs, o ≠ .tup vs) → t ≠ b := fun {b o} e h q => by
      rw [← q, hq1] at e; cases e; exact h _ rfl
    have z1 : H' t = some (.tup [VI q.1, VB q.2.1, .ref rr]) := u2 _ _ (by
      simp only [List.mem_cons, List.not_mem_nil, or_false, not_or]
      exact ⟨nt g1 (fun _ h => by cases h), nt gf (fun _ h => by cases h), nt c3 (fun _ h => by cases h), nt c4 (fun _ h => by cases h)⟩) hq1
    obtain ⟨w0, ws, hws⟩ : ∃ w0 ws, q.2.2 = w0 :: ws := List.exists_cons_of_ne_nil ok2
    have nrr : rr ≠ r := fun z => by
      rw [z, g1] at hq2
      simp only [Option.some.injEq, AO.list.injEq] at hq2
      rw [hws] at hq2
      cases as with
      | nil => simp at hq2
      | cons y ys => simp only [List.map_cons, List.cons.injEq] at hq2; exact absurd hq2.1 (by simp [VT])
    have nrr2 : rr ≠ f0 := fun z => by
      rw [z, gf] at hq2
      simp only [Option.some.injEq, AO.list.injEq] at hq2
      rw [hws] at hq2; simp at hq2
    have z2 : H' rr = some (.list (q.2.2.map VT)) := u2 _ _ (by
      simp only [List.mem_cons, List.not_mem_nil, or_false, not_or]
      exact ⟨nrr, nrr2, fun z => (by rw [z, c3] at hq2; cases hq2), fun z => (by rw [z, c4] at hq2; cases hq2)⟩) hq2
    have z3 : H' (L + 1) = some (.cell (some (VT fi))) := u2 _ _ (by
      simp only [List.mem_cons, List.not_mem_nil, or_false, not_or]
      exact ⟨fun q => (by rw [q, g1] at c1; cases c1), Ne.symm nf1, n13, n14⟩) c1
    have z4 : H' (L + 1 + 1) = some (.cell (some (VT fr))) := u2 _ _ (by
      simp only [List.mem_cons, List.not_mem_nil, or_false, not_or]
      exact ⟨fun q => (by rw [q, g1] at c2; cases c2), Ne.symm nf2, n23, n24⟩) c2
    have nrr3 : rr ≠ L + 1 + 1 + 1 := fun q => by rw [q, e3] at z2; cases z2
    have nrr4 : rr ≠ L + 1 + 1 + 1 + 1 := fun q => by rw [q, e4] at z2; cases z2
    have hqi : (q.1 : Int).natAbs < 2 ^ 31 := by omega
    walk_at "run"
    refine O_mulT hqi (by simp; omega) ?_
    rw [Int.toNat_natCast, times_one]
    walk_at "run"
    have p1 : ((H'.set (L + 1 + 1 + 1) (.cell (some (.ref rr)))).set (L + 1 + 1 + 1 + 1) (.cell (some (VT (List.replicate q.1 32))))) (L + 1) = some (.cell (some (VT fi))) := by rw [HM.set_ne _ _ n14, HM.set_ne _ _ n13]; exact z3
    have p2 : ((H'.set (L + 1 + 1 + 1) (.cell (some (.ref rr)))).set (L + 1 + 1 + 1 + 1) (.cell (some (VT (List.replicate q.1 32))))) (L + 1 + 1) = some (.cell (some (VT fr))) := by rw [HM.set_ne _ _ n24, HM.set_ne _ _ n23]; exact z4
    have p3 : ((H'.set (L + 1 + 1 + 1) (.cell (some (.ref rr)))).set (L + 1 + 1 + 1 + 1) (.cell (some (VT (List.replicate q.1 32))))) (L + 1 + 1 + 1) = some (.cell (some (.ref rr))) := by rw [HM.set_ne _ _ n34, HM.set_same]
    have p4 : ((H'.set (L + 1 + 1 + 1) (.cell (some (.ref rr)))).set (L + 1 + 1 + 1 + 1) (.cell (some (VT (List.replicate q.1 32))))) (L + 1 + 1 + 1 + 1) = some (.cell (some (VT (List.replicate q.1 32)))) := HM.set_same _ _ _
    have p5 : ((H'.set (L + 1 + 1 + 1) (.cell (some (.ref rr)))).set (L + 1 + 1 + 1 + 1) (.cell (some (VT (List.replicate q.1 32))))) rr = some (.list (q.2.2.map VT)) := by rw [HM.set_ne _ _ nrr4, HM.set_ne _ _ nrr3]; exact z2
    have p6 : ((H'.set (L + 1 + 1 + 1) (.cell (some (.ref rr)))).set (L + 1 + 1 + 1 + 1) (.cell (some (VT (List.replicate q.1 32))))) f0 = some (.list ((res.take k).map VT)) := by rw [HM.set_ne _ _ nf4, HM.set_ne _ _ nf3]; exact e5
    have p7 : Upd [r, f0, L + 1 + 1 + 1, L + 1 + 1 + 1 + 1] H1 ((H'.set (L + 1 + 1 + 1) (.cell (some (.ref rr)))).set (L + 1 + 1 + 1 + 1) (.cell (some (VT (List.replicate q.1 32))))) := Upd.at (by simp) (Upd.at (by simp) u2)
    generalize ((H'.set (L + 1 + 1 + 1) (.cell (some (.ref rr)))).set (L + 1 + 1 + 1 + 1) (.cell (some (VT (List.replicate q.1 32))))) = H5 at *
    have hvl : ((res.take k).map VT).length < 16000000 := by rw [List.length_map, List.length_take, hrl]; omega
    have htk : (res.take (k + 1)).map VT = (res.take k).map VT ++ [VT y] := by rw [List.take_add_one, hy]; simp
    have fin : ∀ m2 H6, Upd [] H5 H6 → LM.le ([("found", .ref f0), ("width", VI w)] : LM) m2 → Keep (fun m' H' => m' = ([("found", .ref f0), ("width", VI w)] : LM) ∧ Upd [r, f0, L + 1 + 1 + 1, L + 1 + 1 + 1 + 1] H1 H' ∧ H' f0 = some (.list ((res.take (k + 1)).map VT)) ∧ (∃ v, H' (L + 1 + 1 + 1) = some (.cell v)) ∧ ∃ v, H' (L + 1 + 1 + 1 + 1) = some (.cell v)) m2 (H6.set f0 (.list ((res.take k).map VT ++ [VT y]))) := fun m2 H6 u6 hm2 => by
      refine ⟨_, _, hm2, HM.le.refl _, rfl, Upd.at (by simp) (p7.comp u6 (fun a ha => .inl (by simpa using ha))), by rw [HM.set_same, htk], ⟨_, by rw [HM.set_ne _ _ (Ne.symm nf3)]; exact u6 _ _ (by simp) p3⟩, _, by rw [HM.set_ne _ _ (Ne.symm nf4)]; exact u6 _ _ (by simp) p4⟩
    have hrows : q.2.2.length ≤ 90000 := by
      have : ∀ zs : List (List Nat), zs.length ≤ joinSize [32] zs := fun zs => by
        induction zs with
        | nil => simp
        | cons a b ih => simp [joinSize] at ih ⊢; omega
      have := this q.2.2; omega
    have hrm : (q.2.2.map VT).length ≤ 16000000 := by rw [List.length_map]; omega
    cases hb : q.2.1 with
    | true =>
      unfold LRes at hyr
      rw [hb, if_pos rfl] at hyr
      obtain ⟨x1, rfl⟩ := hyr
      rw [if_pos rfl]
      walk_at "run"
      refine Ev.compG Ok'.hh rfl rfl (by decide) (by decide) ?_ (fun _ => rfl)
      walk_at "run"
      refine C_range2 fun ra o hra ho => ?_
      have hlen : (q.2.2.map VT).length = ws.length + 1 := by rw [List.length_map, hws, List.length_cons]
      refine ⟨_, _, _, _, Src.range (HM.set_same _ _ _) ho (by decide) (by omega) (by omega), fun ys H' => H' = H5.set ra (.raw o) ∧ ys = (q.2.2.tail.mapIdx fun i y => (if i = 0 then fi else fr) ++ List.replicate q.1 32 ++ y).map VT, fun C => ?_, ?_⟩
      · have Oc := Ok'.comp (scope := { kind := ScopeKind.function, names := [(Str.ofString ".0", NameKind.local), (Str.ofString "k", NameKind.local), (Str.ofString "blanks", NameKind.free), (Str.ofString "first", NameKind.free), (Str.ofString "rest", NameKind.free), (Str.ofString "rows", NameKind.free)], isGenerator := false, isCoroutine := false }) rfl [(Str.ofString "rows", L + 1 + 1 + 1), (Str.ofString "rest", L + 1 + 1), (Str.ofString "first", L + 1), (Str.ofString "blanks", L + 1 + 1 + 1 + 1)] C
        with_reducible refine Turns.one (fun k ys m' H' => H' = H5.set ra (.raw o) ∧ m' = ([] : LM) ∧ ys = ((q.2.2.tail.mapIdx fun i y => (if i = 0 then fi else fr) ++ List.replicate q.1 32 ++ y).take k).map VT) ?_ ?_ ?_
        · exact Keep.here ⟨rfl, rfl, rfl⟩
        · rintro i x ys m' H' hx ⟨rfl, rfl, rfl⟩
          rw [List.getElem?_map, Option.map_eq_some_iff] at hx
          obtain ⟨k', hk', rfl⟩ := hx
          obtain ⟨i1, i2⟩ := List.getElem?_eq_some_iff.mp hk'
          rw [List.getElem_range] at i2
          subst i2
          rw [List.length_range] at i1
          have hi : i < ws.length := by omega
          have r1 : (H5.set ra (.raw o)) (L + 1) = some (.cell (some (VT fi))) := by rw [HM.set_ne _ _ (HM.ne_of hra p1)]; exact p1
          have r2 : (H5.set ra (.raw o)) (L + 1 + 1) = some (.cell (some (VT fr))) := by rw [HM.set_ne _ _ (HM.ne_of hra p2)]; exact p2
          have r3 : (H5.set ra (.raw o)) (L + 1 + 1 + 1) = some (.cell (some (.ref rr))) := by rw [HM.set_ne _ _ (HM.ne_of hra p3)]; exact p3
          have r4 : (H5.set ra (.raw o)) (L + 1 + 1 + 1 + 1) = some (.cell (some (VT (List.replicate q.1 32)))) := by rw [HM.set_ne _ _ (HM.ne_of hra p4)]; exact p4
          have r5 : (H5.set ra (.raw o)) rr = some (.list (q.2.2.map VT)) := by rw [HM.set_ne _ _ (HM.ne_of hra p5)]; exact p5
          have hat : at? (q.2.2.map VT) (1 + (i : Int)) = some (VT ws[i]) := by
            rw [hws]
            unfold at?
            rw [if_pos (by omega), show (1 + (i : Int)).toNat = i + 1 from by omega, List.map_cons, List.getElem?_cons_succ, List.getElem?_map, List.getElem?_eq_getElem hi]; rfl
          have hwl : (ws[i]).length ≤ 90000 := ok4 _ (by rw [hws]; exact List.mem_cons_of_mem _ (List.getElem_mem hi))
          walk_at "run"
          refine TestsJ.nil ?_
          rw [if_pos rfl]
          refine ⟨by simp; omega, ?_⟩
          walk_at "run"
          have fi1 : fi.length + (List.replicate q.1 32).length ≤ 16000000 := by simp; omega
          have fr1 : fr.length + (List.replicate q.1 32).length ≤ 16000000 := by simp; omega
          have fi2 : (fi ++ List.replicate q.1 32).length + (ws[i]).length ≤ 16000000 := by simp; omega
          have fr2 : (fr ++ List.replicate q.1 32).length + (ws[i]).length ≤ 16000000 := by simp; omega
          have hstep : ((q.2.2.tail.mapIdx fun i y => (if i = 0 then fi else fr) ++ List.replicate q.1 32 ++ y).take (i + 1)).map VT = ((q.2.2.tail.mapIdx fun i y => (if i = 0 then fi else fr) ++ List.replicate q.1 32 ++ y).take i).map VT ++ [VT ((if i = 0 then fi else fr) ++ List.replicate q.1 32 ++ ws[i])] := by
            rw [List.take_add_one, List.getElem?_mapIdx, hws, List.tail_cons, List.getElem?_eq_getElem hi, List.map_append]; rfl
          refine iteD (fun h0 => ?_) (fun h0 => ?_)
          · rw [if_pos (show i = 0 from by omega)] at hstep
            walk_at "run"
            refine ItemG.list r5 hat (by omega) ?_
            walk_at "run"
            exact ⟨_, _, by walk_at "le", HM.le.refl _, rfl, rfl, hstep.symm⟩
          · rw [if_neg (show i ≠ 0 from by omega)] at hstep
            walk_at "run"
            refine ItemG.list r5 hat (by omega) ?_
            walk_at "run"
            exact ⟨_, _, by walk_at "le", HM.le.refl _, rfl, rfl, hstep.symm⟩
        · rintro ys m' H' ⟨rfl, rfl, rfl⟩
          refine ⟨rfl, ?_⟩
          rw [List.take_of_length_le]
          simp only [List.length_mapIdx, List.length_tail, List.length_map, List.length_range] at hlen ⊢; omega
      · rintro D ys H' hD1 hD2 ⟨rfl, rfl⟩
        have p9 : ((H5.set ra (.raw o)).set D (.list ((q.2.2.tail.mapIdx fun i y => (if i = 0 then fi else fr) ++ List.replicate q.1 32 ++ y).map VT))) D = _ := HM.set_same _ _ _
        have u6 : Upd [] H5 ((H5.set ra (.raw o)).set D (.list ((q.2.2.tail.mapIdx fun i y => (if i = 0 then fi else fr) ++ List.replicate q.1 32 ++ y).map VT))) := Upd.new hD1 (Upd.new hra (Upd.refl _ _))
        have p10 := u6 _ _ (by simp) p6
        show _
        walk_at "run"
        exact fin _ _ u6 (by walk_at "le")
    | false =>
      unfold LRes at hyr
      rw [hb, if_neg Bool.false_ne_true] at hyr
      obtain ⟨kf, out, x1, x2, x3, rfl⟩ := hyr
      rw [if_neg Bool.false_ne_true]
      have hj32 : joinSize [32] q.2.2 ≤ 16000000 := by omega
      have hjl := joinL_length [32] q.2.2
      walk_at "run"
      have y1 : fi.length + (List.replicate q.1 32).length ≤ 16000000 := by simp; omega
      have y2 : fr.length + (List.replicate q.1 32).length ≤ 16000000 := by simp; omega
      walk_at "run"
      with_reducible refine K_laid (n := n) (by assumption) (by omega) (by simp; omega) (by simp; omega) x1 x2 fun ro H6 hro u6 g6 => ?_
      have p8 := u6 _ _ (by simp) p6
      walk_at "run"
      exact fin _ _ u6 (by walk_at "le")
  · rintro m' H' hn ⟨rfl, u2, e5, ⟨v3, e3⟩, v4, e4⟩
    rw [List.length_map, hal, ← hrl, List.take_length] at e5
    have e6 : (H'.set r (.list (as.map .ref))) f0 = some (.list (res.map VT)) := by rw [HM.set_ne _ _ nrf]; exact e5
    walk_at "run"
    refine EndJ.ret H (fun a o e => ?_) h
    have ea := u0 _ _ (by simp) e
    have := u2 a o (by
      simp only [List.mem_cons, List.not_mem_nil, or_false, not_or]
      exact ⟨nr ea, HM.ne_of hf0 ea, HM.ne_of h3 e, HM.ne_of h4 e⟩) (uf _ _ (by simp) ea)
    rw [HM.set_ne _ _ (nr ea)]; exact this
end

section
variable {c : FC} {P : Params} {n : Nat} {m : LM} {H : HM} {X : XM}
def LongOk (w : Int) (fi fr : List Nat) (lines : List (List Nat)) : Prop := ∀ k y, lines[k]? = some y → (y.length : Int) ≤ max w ((if k = 0 then fi else fr).length) + 1 ∧ (if k = 0 then fi else fr).isPrefixOf y = true ∧ (y ≠ (if k = 0 then fi else fr) → ∃ y' z, y = y' ++ [z] ∧ z ≠ 32)
theorem K_llong {w : Int} {fi fr : List Nat} {lines : List (List Nat)} {lr : Addr} {Q : Value → HM → Prop} (O : Ok c (KK P) (n + 1)) (hlr : H lr = some (.list (lines.map VT))) (hl : lines.length ≤ 1000000) (hy : ∀ y ∈ lines, y.length ≤ 1000000) (li : fi.length ≤ 100000) (lf : fr.length ≤ 100000) (hok : LongOk w fi fr lines)
    (h : Q (VB true) H) : CallJ c (.ref 256) [.ref lr, VI w, VT fi, VT fr] [] m H Q X := by
  refine CallJ.run O ⟨⟨_, _, _, rfl⟩, rfl, rfl, rfl, rfl, rfl, rfl, rfl, rfl, by decide⟩ (.a4 fun _ _ _ _ => rfl) rfl ?_
  intro L hL Ok'
  show Exs _ _ [("rest", VT fr), ("first", VT fi), ("width", VI w), ("lines", .ref lr)] H _ _
  have hll : (lines.map VT).length ≤ 16000000 := by rw [List.length_map]; omega
  walk_at "run"
  refine Ex.forG Ok'.hh ?_ (fun _ => rfl)
  walk_at "run"
  refine C_range1 fun r o hr ho => ?_
  rw [List.length_map] at *
  refine ⟨_, _, _, _, Src.range (HM.set_same _ _ _) ho (by omega) (by omega) (by omega), fun k m' H' => m' = ([("rest", VT fr), ("first", VT fi), ("width", VI w), ("lines", .ref lr)] : LM) ∧ H' = H, ⟨_, _, by walk_at "le", HM.le_fresh hr, rfl, rfl⟩, ?_, ?_⟩
  · rintro k x m' H' hx ⟨rfl, rfl⟩
    rw [List.getElem?_map, Option.map_eq_some_iff] at hx
    obtain ⟨k', hk', rfl⟩ := hx
    obtain ⟨i1, i2⟩ := List.getElem?_eq_some_iff.mp hk'
    rw [List.getElem_range] at i2
    subst i2
    rw [List.length_range] at i1
    have hk : k < lines.length := by omega
    obtain ⟨q1, q2, q3⟩ := hok k _ (List.getElem?_eq_getElem hk)
    have hyl := hy _ (List.getElem_mem hk)
    have hat : at? (lines.map VT) (0 + (k : Int)) = some (VT lines[k]) := by
      unfold at?
      rw [if_pos (by omega), show (0 + (k : Int)).toNat = k from by omega, List.getElem?_map, List.getElem?_eq_getElem hk]; rfl
    refine Yld.f (Tgt.name (StoreJ.loc rfl rfl ?_))
    with_reducible refine Exs.via (fun m' H2 => m' = ([("mark", VT (if k = 0 then fi else fr)), ("k", VI (0 + (k : Int))), ("rest", VT fr), ("first", VT fi), ("width", VI w), ("lines", .ref lr)] : LM) ∧ H2 = H') ?_ ?_
    · walk_at "run"
      refine iteD (fun h0 => ?_) (fun h0 => ?_)
      · rw [if_pos (show k = 0 from by omega)]
        walk_at "run"
        exact ViaJ.mk (by walk_at "le") ⟨rfl, rfl⟩
      · rw [if_neg (show k ≠ 0 from by omega)]
        walk_at "run"
        exact ViaJ.mk (by walk_at "le") ⟨rfl, rfl⟩
    rintro _ _ ⟨rfl, q⟩
    rw [q]; clear q
    have hmk : (if k = 0 then fi else fr).length < 16000000 := by split <;> omega
    generalize (if k = 0 then fi else fr) = mk at *
    generalize lines[k] = y at *
    walk_at "run"
    refine ItemG.list hlr hat (by omega) ?_
    have hyl1 : y.length < 16000000 := by omega
    walk_at "run"
    refine C_max Ok'.hh ?_
    walk_at "run"
    refine iteFe (by simp; omega) ?_
    walk_at "run"
    refine ItemG.list hlr hat (by omega) ?_
    walk_at "run"
    refine iteFe (by simp [q2]) ?_
    walk_at "run"
    refine ItemG.list hlr hat (by omega) ?_
    walk_at "run"
    refine iteN (fun hne => ?_) (fun heq => ?_)
    · obtain ⟨y', z, hyz, hz⟩ := q3 hne
      walk_at "run"
      refine ItemG.list hlr hat (by omega) ?_
      walk_at "run"
      refine ItemG.str (x := z) (by rw [hyz]; exact at_last _ _) (by decide) ?_
      walk_at "run"
      refine iteFe (by simpa using hz) ?_
      walk_at "run"
      exact ⟨_, _, by walk_at "le", HM.le.refl _, rfl, rfl⟩
    · walk_at "run"
      exact ⟨_, _, by walk_at "le", HM.le.refl _, rfl, rfl⟩
  · rintro m' H' ⟨rfl, rfl⟩
    walk_at "run"
    exact EndJ.retE h
end
section
variable {c : FC} {P : Params} {n : Nat} {m : LM} {H : HM} {X : XM}
/-! ## _law_styled and _law_bare, by tokens -/
def es1 : Tk := .es [49]
def es0 : Tk := .es [48]
def es4 : Tk := .es [51, 49, 59, 52]
def StyOf (p : List Nat) (t : List Tk) : Prop := t = plain p ∨ (stripL Unicode.isSpace p ≠ [] ∧ (t = es1 :: plain p ++ [es0] ∨ t = plain (p.take 1) ++ es4 :: plain (p.drop 1)))
theorem K_styled {d e : Addr} {l : List Nat} {Q : Value → HM → Prop} (O : Ok c (KK P) (n + 3)) (D : DrAt H d e) (hl : l.length ≤ 1000)
    (h : ∀ ts H', F2 StyOf (partsL l) ts → Upd [d, e] H H' → DrAt H' d e → Q (VT (flatT ts.flatten)) H') : CallJ c (.ref 268) [.ref d, VT l] [] m H Q X := by
  refine CallJ.run O ⟨⟨_, _, _, rfl⟩, rfl, rfl, rfl, rfl, rfl, rfl, rfl, rfl, by decide⟩ (.a2 fun _ _ => rfl) rfl ?_
  intro L hL Ok'
  show Exs _ _ [("line", VT l), ("draws", .ref d)] H _ _
  have hd0 := D.2.choose_spec.choose_spec.1
  have he0 := D.2.choose_spec.choose_spec.2.1
  walk_at "run"
  rename_i f0 hf0
  have nfd := HM.ne_of hf0 hd0
  have nfe := HM.ne_of hf0 he0
  refine Ex.forGN Ok'.hh ?_ (fun _ => rfl)
  walk_at "run"
  with_reducible refine K_parts (n := n + 1) (by assumption) (by omega) fun r hr => ?_
  have hr' := HM.set_none.mp hr
  have nrd := HM.ne_of hr'.2 hd0
  have nre := HM.ne_of hr'.2 he0
  have hpl := partsL_len l
  have hm : ∀ p ∈ partsL l, p.length ≤ 1000 := fun p hp => by have := mem_flatten_len hp; rw [partsL_sum] at this; omega
  refine ForJN.list (HM.set_same _ _ _) (by rw [List.length_map]; omega) (fun k m' H' => ∃ ts, m' = ([("found", .ref f0), ("draws", .ref d)] : LM) ∧ Upd [d, e] H H' ∧ DrAt H' d e ∧ H' f0 = some (.list (ts.map fun t => VT (flatT t))) ∧ F2 StyOf ((partsL l).take k) ts)
    ⟨_, _, by walk_at "le", HM.le.refl _, [], rfl, ?_, ?_, ?_, .nil⟩ ?_ ?_
  · exact Upd.del hr'.2 (Upd.old hr'.2 (Upd.new hf0 (Upd.refl _ _)))
  · exact D.upd (Upd.del hr'.2 (Upd.old hr'.2 (Upd.new hf0 (Upd.refl [] _)))) (by simp) (by simp)
  · rw [HM.del_ne _ (Ne.symm hr'.1), HM.set_ne _ _ (Ne.symm hr'.1), HM.set_same]; rfl
  · rintro k x m' H' hx hn ⟨ts, rfl, u, D1, g1, g2⟩
    rw [List.getElem?_map, Option.map_eq_some_iff] at hx
    obtain ⟨p, hp, rfl⟩ := hx
    have hpm := hm p (List.mem_of_getElem? hp)
    have htk : (partsL l).take (k + 1) = (partsL l).take k ++ [p] := by rw [List.take_add_one, hp]; rfl
    have htl : (ts.map fun t => VT (flatT t)).length < 16000000 := by
      rw [List.length_map, ← g2.len, List.length_take]; omega
    refine Tgt.name (StoreJ.loc rfl rfl ?_)
    have hp1 : p.length ≤ 16000000 := by omega
    with_reducible refine Exs.via (fun m' H2 => ∃ v : Nat, m' = ([("style", VI v), ("part", VT p), ("found", .ref f0), ("draws", .ref d)] : LM) ∧ Upd [d, e] H' H2 ∧ DrAt H2 d e ∧ (stripL Unicode.isSpace p = [] → v = 0)) ?_ ?_
    · walk_at "run"
      refine iteN (fun hne => ?_) (fun heq => ?_)
      · walk_at "run"
        with_reducible refine K_take (n := n + 1) (by assumption) D1 (by omega) (by omega) fun a H2 ha u2 D2 => ?_
        walk_at "run"
        exact ViaJ.mk (by walk_at "le") ⟨a, rfl, u2, D2, fun z => absurd z hne⟩
      · walk_at "run"
        exact ViaJ.mk (by walk_at "le") ⟨0, rfl, Upd.refl _ _, D1, fun _ => rfl⟩
    rintro _ H2 ⟨v, rfl, u2, D2, hv⟩
    have g3 : H2 f0 = some (.list (ts.map fun t => VT (flatT t))) := u2 _ _ (by simp [Ne.symm nfd, Ne.symm nfe]) g1
    with_reducible refine Exs.via (fun m' H3 => ∃ t x, m' = ([("part", VT x), ("found", .ref f0), ("draws", .ref d)] : LM) ∧ H3 = H2 ∧ x = flatT t ∧ StyOf p t) ?_ ?_
    · walk_at "run"
      refine iteD (fun h1 => ?_) (fun h1 => ?_)
      · have y1 : [27, 91, 49, 109].length + p.length ≤ 16000000 := by simp; omega
        have y2 : ([27, 91, 49, 109] ++ p).length + [27, 91, 48, 109].length ≤ 16000000 := by simp; omega
        walk_at "run"
        refine ViaJ.mk (by walk_at "le") ⟨es1 :: plain p ++ [es0], _, rfl, rfl, ?_, .inr ⟨fun z => by have := hv z; omega, .inl rfl⟩⟩
        rw [flatT_append, flatT_cons, flatT_plain]; rfl
      · walk_at "run"
        refine iteD (fun h2 => ?_) (fun h2 => ?_)
        · walk_at "run"
          refine SliceG.str .non (Bnd.ofInt (by decide)) hp1 ?_
          have w1 : (cut p none (some (Int.toNat 1))).length + [27, 91, 51, 49, 59, 52, 109].length ≤ 16000000 := by have := cut_le p none (some (Int.toNat 1)); simp only [List.length_cons, List.length_nil]; omega
          walk_at "run"
          refine SliceG.str (Bnd.ofInt (by decide)) .non hp1 ?_
          have w2 : (cut p none (some (Int.toNat 1)) ++ [27, 91, 51, 49, 59, 52, 109]).length + (cut p (some (Int.toNat 1)) none).length ≤ 16000000 := by
            have := cut_le p none (some (Int.toNat 1))
            have := cut_le p (some (Int.toNat 1)) none
            rw [List.length_append]; simp only [List.length_cons, List.length_nil]; omega
          walk_at "run"
          refine ViaJ.mk (by walk_at "le") ⟨plain (p.take 1) ++ es4 :: plain (p.drop 1), _, rfl, rfl, ?_, .inr ⟨fun z => by have := hv z; omega, .inr rfl⟩⟩
          rw [flatT_append, flatT_cons, flatT_plain, flatT_plain]
          show (p.take 1 ++ _) ++ p.drop 1 = _
          rw [List.append_assoc]; rfl
        · walk_at "run"
          exact ViaJ.mk (by walk_at "le") ⟨plain p, p, rfl, rfl, (flatT_plain p).symm, .inl rfl⟩
    rintro _ _ ⟨t, x, rfl, q, rfl, hst⟩
    rw [q]; clear q
    walk_at "run"
    refine ⟨_, _, by walk_at "le", HM.le.refl _, ts ++ [t], rfl, ?_, ?_, ?_, ?_⟩
    · exact Upd.old hf0 (u.trans u2)
    · exact D2.upd (Upd.at (l := [f0]) (by simp) (Upd.refl _ _)) (by simp [nfd]) (by simp [nfe])
    · rw [HM.set_same, List.map_append]; rfl
    · rw [htk]; exact F2.snoc g2 hst
  · rintro m' H' hn ⟨ts, rfl, u, D1, g1, g2⟩
    rw [List.length_map, List.take_length] at g2
    have g3 : (H'.set r (.list ((partsL l).map VT))) f0 = some (.list ((ts.map flatT).map VT)) := by rw [HM.set_ne _ _ (Ne.symm hr'.1), g1, List.map_map]; rfl
    have hf : ∀ {ps : List (List Nat)} {ts : List (List Tk)}, F2 StyOf ps ts → joinSize [] (ts.map flatT) ≤ 20 * (ps.flatten.length + ps.length) := by
      intro ps ts hh
      induction hh with
      | nil => simp [joinSize]
      | @cons a b as bs h _ ih =>
        have : (flatT b).length ≤ a.length + 8 := by
          rcases h with rfl | ⟨_, rfl | rfl⟩
          · rw [flatT_plain]; omega
          · rw [flatT_append, flatT_cons, flatT_plain]; simp [es1, es0, Tk.flat, flatT]
          · rw [flatT_append, flatT_cons, flatT_plain, flatT_plain]; simp [es4, Tk.flat]; omega
        simp [joinSize] at ih ⊢; omega
    have hjs : joinSize [] (ts.map flatT) ≤ 16000000 := by
      have := hf g2
      rw [partsL_sum] at this; omega
    have hjn : joinL [] (ts.map flatT) = flatT ts.flatten := by
      have jn : ∀ zs : List (List Nat), joinL [] zs = zs.flatten := by
        intro zs
        induction zs with
        | nil => rfl
        | cons a b ih =>
          cases b with
          | nil => simp [joinL]
          | cons c d => rw [joinL, ih]; simp
      rw [jn, flatT_flatten]
    have ur : Upd [] H' (H'.set r (.list ((partsL l).map VT))) := Upd.new hn (Upd.refl _ _)
    walk_at "run"
    rw [hjn]
    exact EndJ.retE (h ts _ g2 (u.trans (fun a o ha e => ur a o (by simp) e)) (D1.upd ur (by simp) (by simp)))
end

section
variable {c : FC} {P : Params} {n : Nat} {m : LM} {H : HM} {X : XM}
/-! ## _law_bare -/
def splitE : List Tk → List Nat → List (List Nat)
  | [], cur => [cur]
  | .ch x :: r, cur => splitE r (cur ++ [x])
  | .es ps :: r, cur => cur :: splitE r (ps ++ [109])
theorem splitG_run : ∀ (l r cur : List Nat), 27 ∉ l → splitG [27, 91] (l ++ r) cur 0 = splitG [27, 91] r (cur ++ l) 0
  | [], r, cur, _ => by simp
  | x :: l, r, cur, h => by
    have hx : x ≠ 27 := fun q => h (by simp [q])
    have hl : 27 ∉ l := fun q => h (List.mem_cons_of_mem _ q)
    rw [List.cons_append]
    conv => lhs; unfold splitG
    have : ([27, 91] : List Nat).isPrefixOf (x :: (l ++ r)) = false := by
      simp [List.isPrefixOf]; intro q; exact absurd q.symm hx
    rw [this, if_neg Bool.false_ne_true, splitG_run l r _ hl]
    simp
theorem splitE_eq : ∀ (ts : List Tk) (cur : List Nat), okT ts → splitG [27, 91] (flatT ts) cur 0 = splitE ts cur
  | [], cur, _ => by rw [flatT_nil]; rfl
  | .ch x :: r, cur, h => by
    rw [okT_cons] at h
    rw [flatT_cons]
    show splitG [27, 91] ([x] ++ flatT r) cur 0 = splitE r (cur ++ [x])
    rw [splitG_run _ _ _ (by simp; exact fun q => h.1.1 q.symm), splitE_eq r _ h.2]
  | .es ps :: r, cur, h => by
    rw [okT_cons] at h
    rw [flatT_cons]
    show splitG [27, 91] (27 :: 91 :: (ps ++ [109]) ++ flatT r) cur 0 = cur :: splitE r (ps ++ [109])
    have e : 27 :: 91 :: (ps ++ [109]) ++ flatT r = 27 :: (91 :: ((ps ++ [109]) ++ flatT r)) := by simp
    rw [e]
    conv => lhs; unfold splitG
    have : ([27, 91] : List Nat).isPrefixOf (27 :: (91 :: ((ps ++ [109]) ++ flatT r))) = true := by simp [List.isPrefixOf]
    rw [this, if_pos rfl]
    show cur :: splitG [27, 91] (91 :: ((ps ++ [109]) ++ flatT r)) [] 1 = _
    conv => lhs; arg 2; unfold splitG
    rw [splitG_run _ _ _ (by
      simp only [List.mem_append, List.mem_singleton, not_or]
      exact ⟨fun q => by have := (h.1 27 q).1; omega, by decide⟩), List.nil_append, splitE_eq r _ h.2]
def tailE (y : List Nat) : List Nat := y.drop (y.idxOf 109 + 1)
theorem tailE_es {ps z : List Nat} (h : ∀ x ∈ ps, 48 ≤ x ∧ x ≤ 59) : tailE (ps ++ [109] ++ z) = z := by
  have : (ps ++ [109] ++ z).idxOf 109 = ps.length := by
    induction ps with
    | nil => rfl
    | cons a b ih =>
      have ha := h a List.mem_cons_self
      have := ih fun x hx => h x (List.mem_cons_of_mem _ hx)
      simp only [List.cons_append, List.length_cons]
      rw [List.idxOf_cons, this]
      have : (a == 109) = false := by simp; omega
      rw [this]; rfl
  unfold tailE
  rw [this]
  have e : ps ++ [109] ++ z = (ps ++ [109]) ++ z := rfl
  rw [show ps.length + 1 = (ps ++ [109]).length from by simp, List.drop_left]
theorem bare_eq : ∀ (ts : List Tk), okT ts → (∀ cur, ∃ y ys, splitE ts cur = y :: ys ∧ (∀ z ∈ ys, 109 ∈ z) ∧ y ++ (ys.map tailE).flatten = cur ++ signs ts ∧ y.length + ys.flatten.length + ys.length ≤ cur.length + (flatT ts).length) ∧
    (∀ ps z, (∀ x ∈ ps, 48 ≤ x ∧ x ≤ 59) → ∃ y ys, splitE ts (ps ++ [109] ++ z) = y :: ys ∧ 109 ∈ y ∧ (∀ z ∈ ys, 109 ∈ z) ∧ tailE y ++ (ys.map tailE).flatten = z ++ signs ts ∧ y.length + ys.flatten.length + ys.length ≤ (ps ++ [109] ++ z).length + (flatT ts).length)
  | [], _ => ⟨fun cur => ⟨cur, [], rfl, (fun _ h => by cases h), by simp [signs], by simp⟩, fun ps z h => ⟨_, [], rfl, by simp, (fun _ h => by cases h), by rw [tailE_es h]; simp [signs], by simp⟩⟩
  | .ch x :: r, h => by
    rw [okT_cons] at h
    obtain ⟨h1, h2⟩ := bare_eq r h.2
    have hs : signs (.ch x :: r) = x :: signs r := rfl
    have hf : (flatT (.ch x :: r)).length = 1 + (flatT r).length := by rw [flatT_cons, List.length_append]; rfl
    refine ⟨fun cur => ?_, fun ps z hp => ?_⟩
    · obtain ⟨y, ys, e1, e2, e3, e4⟩ := h1 (cur ++ [x])
      exact ⟨y, ys, e1, e2, by rw [e3, hs]; simp, by rw [hf]; simp at e4 ⊢; omega⟩
    · obtain ⟨y, ys, e1, e2, e3, e4, e5⟩ := h2 ps (z ++ [x]) hp
      refine ⟨y, ys, ?_, e2, e3, by rw [e4, hs]; simp, by rw [hf]; simp at e5 ⊢; omega⟩
      rw [← e1]; show splitE r (ps ++ [109] ++ z ++ [x]) = _; rw [List.append_assoc (ps ++ [109])]
  | .es qs :: r, h => by
    rw [okT_cons] at h
    obtain ⟨h1, h2⟩ := bare_eq r h.2
    have hs : signs (.es qs :: r) = signs r := rfl
    have hf : (flatT (.es qs :: r)).length = qs.length + 3 + (flatT r).length := by rw [flatT_cons, List.length_append]; simp [Tk.flat]
    obtain ⟨y, ys, e1, e2, e3, e4, e5⟩ := h2 qs [] h.1
    rw [List.append_nil] at e1 e5
    refine ⟨fun cur => ⟨cur, y :: ys, ?_, ?_, ?_, ?_⟩, fun ps z hp => ⟨ps ++ [109] ++ z, y :: ys, ?_, by simp, ?_, ?_, ?_⟩⟩
    · show cur :: splitE r (qs ++ [109]) = _; rw [e1]
    · intro w hw
      rcases List.mem_cons.mp hw with rfl | hw
      · exact e2
      · exact e3 w hw
    · rw [List.map_cons, List.flatten_cons, e4, hs]; simp
    · rw [hf]; simp at e5 ⊢; omega
    · show _ :: splitE r (qs ++ [109]) = _; rw [e1]
    · intro w hw
      rcases List.mem_cons.mp hw with rfl | hw
      · exact e2
      · exact e3 w hw
    · rw [tailE_es hp, List.map_cons, List.flatten_cons, e4, hs]; simp
    · rw [hf]; simp at e5 ⊢; omega
theorem joinL_cat : ∀ zs : List (List Nat), joinL [] zs = zs.flatten
  | [] => rfl
  | [a] => by simp [joinL]
  | a :: b :: r => by rw [joinL, joinL_cat (b :: r)]; simp
theorem K_bare {ts : List Tk} {Q : Value → HM → Prop} (O : Ok c (KK P) (n + 1)) (ot : okT ts) (hl : (flatT ts).length ≤ 1000000) (h : ∀ H', Upd [] H H' → Q (VT (signs ts)) H') : CallJ c (.ref 261) [VT (flatT ts)] [] m H Q X := by
  refine CallJ.run O ⟨⟨_, _, _, rfl⟩, rfl, rfl, rfl, rfl, rfl, rfl, rfl, rfl, by decide⟩ (.a1 fun _ => rfl) rfl ?_
  intro L hL Ok'
  show Exs _ _ [("text", VT (flatT ts))] H _ _
  obtain ⟨y, ys, e1, e2, e3, e4⟩ := (bare_eq ts ot).1 []
  have hsp : splitL [27, 91] (flatT ts) = y :: ys := by unfold splitL; rw [splitE_eq ts [] ot, e1]
  rw [List.nil_append] at e3
  rw [List.length_nil] at e4
  walk_at "run"
  refine C_split (y := [27, 91]) (l := flatT ts) (by simp) (fun x hx => Nat.lt_trans (flat_mem ot hx).2.2 (by decide)) (by decide) (by omega) (fun s1 hs1 => ?_)
  rw [hsp]
  walk_at "run"
  have g0 : (H.set s1 (.list ((y :: ys).map VT))) s1 = some (.list (VT y :: ys.map VT)) := HM.set_same _ _ _
  refine Ev.compG Ok'.hh rfl rfl (by decide) (by decide) ?_ (fun _ => rfl)
  walk_at "run"
  refine SliceG.list (Bnd.ofInt (by decide)) .non g0 (by simp; omega) (fun q hq => ?_)
  have hcut : cut (VT y :: ys.map VT) (some (Int.toNat 1)) none = ys.map VT := rfl
  rw [hcut]
  refine ⟨_, _, _, _, Src.list (HM.set_same _ _ _) (by simp; omega), fun zs H' => H' = (((H.set s1 (.list ((y :: ys).map VT))).set q (.list (ys.map VT))).del q) ∧ zs = (ys.map tailE).map VT, fun C => ?_, ?_⟩
  · have Oc := Ok'.comp (scope := { kind := ScopeKind.function, names := [(Str.ofString ".0", NameKind.local), (Str.ofString "row", NameKind.local)], isGenerator := false, isCoroutine := false }) rfl [] C
    with_reducible refine Turns.one (fun k zs m' H' => H' = (((H.set s1 (.list ((y :: ys).map VT))).set q (.list (ys.map VT))).del q) ∧ m' = ([] : LM) ∧ zs = ((ys.map tailE).take k).map VT) ?_ ?_ ?_
    · exact Keep.here ⟨rfl, rfl, rfl⟩
    · rintro k x zs m' H' hx ⟨rfl, rfl, rfl⟩
      rw [List.getElem?_map, Option.map_eq_some_iff] at hx
      obtain ⟨z, hz, rfl⟩ := hx
      have hzm := List.mem_of_getElem? hz
      have hz1 : z.length ≤ 1000000 := by have := mem_flatten_len hzm; omega
      have htk : ((ys.map tailE).take (k + 1)).map VT = ((ys.map tailE).take k).map VT ++ [VT (tailE z)] := by
        rw [List.take_add_one, List.getElem?_map, hz, List.map_append]; rfl
      walk_at "run"
      refine TestsJ.nil ?_
      rw [if_pos rfl]
      refine ⟨by simp; omega, ?_⟩
      walk_at "run"
      refine C_index1 (e2 z hzm) ?_
      walk_at "run"
      refine SliceG.str (Bnd.ofInt (by omega)) .non (by omega) ?_
      refine ⟨_, _, by walk_at "le", HM.le.refl _, rfl, rfl, ?_⟩
      rw [htk]; rfl
    · rintro zs m' H' ⟨rfl, rfl, rfl⟩
      refine ⟨rfl, ?_⟩
      rw [List.length_map, List.take_of_length_le (by simp)]
  · rintro D zs H' hD1 hD2 ⟨rfl, rfl⟩
    have hDq := HM.set_none.mp hD1
    have gD : (((((H.set s1 (.list ((y :: ys).map VT))).set q (.list (ys.map VT))).del q).set D (.list ((ys.map tailE).map VT))).set q (.list (ys.map VT))) D = some (.list ((ys.map tailE).map VT)) := by rw [HM.set_ne _ _ hDq.1, HM.set_same]
    have uu : Upd [] H (((((H.set s1 (.list ((y :: ys).map VT))).set q (.list (ys.map VT))).del q).set D (.list ((ys.map tailE).map VT))).set q (.list (ys.map VT))) := by
      have h1 : H q = none := (HM.set_none.mp hq).2
      have h2 : H D = none := (HM.set_none.mp hDq.2).2
      exact Upd.old h1 (Upd.old h2 (Upd.del h1 (Upd.old h1 (Upd.old hs1 (Upd.refl _ _)))))
    have htl : ∀ zs : List (List Nat), joinSize [] (zs.map tailE) ≤ zs.flatten.length := by
      intro zs
      induction zs with
      | nil => simp [joinSize]
      | cons a b ih =>
        have : (tailE a).length ≤ a.length := by unfold tailE; rw [List.length_drop]; omega
        simp [joinSize] at ih ⊢; omega
    have hj : joinSize [] (ys.map tailE) ≤ 16000000 := by have := htl ys; omega
    have hjl := joinL_length [] (ys.map tailE)
    have ha : y.length + (joinL [] (ys.map tailE)).length ≤ 16000000 := by
      have := htl ys; omega
    walk_at "run"
    refine EndJ.retE ?_
    rw [joinL_cat, e3]
    exact h _ uu
end

end Mine
end

section
open PySem PySem.W PySem.Calls PyProof.Rows PySem.Builtin PySem.Builtin.Str
set_option linter.all false
set_option maxRecDepth 100000
namespace Mine
/-! ## the wrap by signs alone -/
def blankN (p : List Nat) : Bool := decide (stripL Unicode.isSpace p = [])
def greedyN (wd : Int) : Int → List (List Nat) → List (List Nat) → Int × List (List Nat) × List (List Nat)
  | cur, line, [] => (cur, line, [])
  | cur, line, t :: r => if cur + t.length ≤ wd then greedyN wd (cur + t.length) (line ++ [t]) r else (cur, line, t :: r)
def cutN (wd cur : Int) (line : List (List Nat)) : List (List Nat) → List (List Nat) × List (List Nat)
  | t :: r => if (t.length : Int) > wd then (line ++ [t.take (max (wd - cur) 1).toNat], t.drop (max (wd - cur) 1).toNat :: r) else (line, t :: r)
  | [] => (line, [])
def trimN (line : List (List Nat)) : List (List Nat) := match line.getLast? with
  | some t => if blankN t = true then line.dropLast else line
  | none => line
def layN (wd : Int) (more : Bool) (cs : List (List Nat)) : List (List Nat) × List (List Nat) :=
  let g := greedyN wd 0 [] (dropL more cs)
  let q := cutN wd g.1 g.2.1 g.2.2
  (trimN q.1, q.2)
def wrapN (w : Int) (fi fr : List Nat) : Nat → List (List Nat) → List (List Nat) → Option (List (List Nat))
  | _, [], ls => some ls
  | 0, _ :: _, _ => none
  | k + 1, c :: cs, ls =>
    let ind := if ls = [] then fi else fr
    let q := layN (w - ind.length) (!ls.isEmpty) (c :: cs)
    wrapN w fi fr k q.2 (if q.1 = [] then ls else ls ++ [ind ++ q.1.flatten])

theorem dropWhile_nil {p : Nat → Bool} : ∀ {l : List Nat}, l.dropWhile p = [] ↔ ∀ x ∈ l, p x = true
  | [] => by simp
  | a :: r => by
    rw [List.dropWhile_cons]
    split
    · rename_i h
      rw [dropWhile_nil]
      exact ⟨fun q x hx => (List.mem_cons.mp hx).elim (fun e => e ▸ h) (q x), fun q x hx => q x (List.mem_cons_of_mem _ hx)⟩
    · rename_i h
      exact ⟨fun q => (by cases q), fun q => absurd (q a List.mem_cons_self) h⟩
theorem strip_nil {p : Nat → Bool} {l : List Nat} : stripL p l = [] ↔ ∀ x ∈ l, p x = true := by
  unfold stripL rstripL lstripL
  rw [List.reverse_eq_nil_iff, dropWhile_nil]
  constructor
  · intro h
    have h2 : l.dropWhile p = [] := by
      cases q : l.dropWhile p with
      | nil => rfl
      | cons a r =>
        exfalso
        have ha : p a = false := by
          have gen : ∀ (z : List Nat) (a : Nat) (r : List Nat), z.dropWhile p = a :: r → p a = false := by
            intro z
            induction z with
            | nil => intro a r h; cases h
            | cons b t ih =>
              intro a r h
              rw [List.dropWhile_cons] at h
              split at h
              · exact ih a r h
              · rename_i hb; cases h; simpa using hb
          exact gen l a r q
        have := h a (by rw [q]; simp)
        rw [ha] at this; cases this
    exact fun x hx => dropWhile_nil.mp h2 x hx
  · intro h x hx
    have : x ∈ l := (List.dropWhile_sublist p).subset (List.mem_reverse.mp hx)
    exact h x this
/-- a chunk: all blank, or a word (whatever escapes it holds) -/
def isCh (t : Tk) : Prop := ∃ x, t = .ch x
def Blk (c : List Tk) : Prop := ∀ t ∈ c, ∃ x, t = .ch x ∧ Unicode.isSpace x = true
def Wrd (c : List Tk) : Prop := signs c ≠ [] ∧ ∀ x ∈ signs c, Unicode.isSpace x = false
def Good (c : List Tk) : Prop := Blk c ∨ Wrd c
theorem signs_sub : ∀ {c : List Tk}, (∀ t ∈ c, isCh t) → flatT c = signs c
  | [], _ => rfl
  | t :: r, h => by
    obtain ⟨x, rfl⟩ := h t List.mem_cons_self
    rw [flatT_cons, signs_sub (fun y hy => h y (List.mem_cons_of_mem _ hy))]; rfl
theorem mem_signs {c : List Tk} {x : Nat} : x ∈ signs c ↔ Tk.ch x ∈ c := by
  unfold signs
  rw [List.mem_filterMap]
  constructor
  · rintro ⟨t, ht, e⟩
    cases t with
    | ch y => cases e; exact ht
    | es p => cases e
  · exact fun h => ⟨_, h, rfl⟩
theorem signs_flat {c : List Tk} {x : Nat} (h : x ∈ signs c) : x ∈ flatT c := List.mem_flatMap.mpr ⟨_, mem_signs.mp h, by simp [Tk.flat]⟩
theorem blank_good {c : List Tk} (h : Good c) : blankT c = blankN (signs c) := by
  unfold blankT blankN
  rcases h with h | ⟨h1, h2⟩
  · rw [signs_sub fun t ht => (h t ht).elim fun x hx => ⟨x, hx.1⟩]
  · obtain ⟨x, hx⟩ := List.exists_mem_of_ne_nil _ h1
    have e1 : ¬ stripL Unicode.isSpace (flatT c) = [] := fun q => by
      have := strip_nil.mp q x (signs_flat hx)
      rw [h2 x hx] at this; cases this
    have e2 : ¬ stripL Unicode.isSpace (signs c) = [] := fun q => by
      have := strip_nil.mp q x hx
      rw [h2 x hx] at this; cases this
    rw [decide_eq_false e1, decide_eq_false e2]
theorem trunc_signs_go : ∀ (r : List Tk) (n v : Int) (cp pend : List Tk), v < n → signs pend = [] → signs (truncGo n v cp pend r) = signs cp ++ (signs r).take (n - v).toNat
  | [], n, v, cp, pend, hv, hp => by simp [truncGo, signs]
  | .ch x :: r, n, v, cp, pend, hv, hp => by
    unfold truncGo
    have e : signs (.ch x :: r) = x :: signs r := rfl
    have e2 : signs [Tk.ch x] = [x] := rfl
    split
    · rename_i h
      rw [signs_append, signs_append, hp, e, e2, show (n - v).toNat = 1 from by omega]; simp
    · rw [trunc_signs_go r n (v + 1) _ [] (by omega) rfl, signs_append, signs_append, hp, e, e2, show (n - v).toNat = (n - (v + 1)).toNat + 1 from by omega, List.take_succ_cons]
      simp
  | .es p :: r, n, v, cp, pend, hv, hp => by
    unfold truncGo
    rw [trunc_signs_go r n v cp _ hv (by rw [signs_append, hp]; rfl)]; rfl
theorem trunc_signs {n : Int} (hn : 1 ≤ n) (c : List Tk) : signs (truncV n c) = (signs c).take n.toNat := by
  unfold truncV
  rw [if_neg (by omega), trunc_signs_go c n 0 [] [] (by omega) rfl]
  simp [signs]
theorem rest_signs {n : Int} (hn : 1 ≤ n) (c : List Tk) : signs (restT n c) = (signs c).drop n.toNat := by
  have e := congrArg signs (trunc_rest n c)
  rw [signs_append, trunc_signs hn] at e
  exact List.append_cancel_left (e.trans (List.take_append_drop n.toNat (signs c)).symm)
theorem trunc_mem {n : Int} {c : List Tk} {t : Tk} (h : t ∈ truncV n c) : t ∈ c := by rw [← trunc_rest n c]; exact List.mem_append_left _ h
theorem rest_mem {n : Int} {c : List Tk} {t : Tk} (h : t ∈ restT n c) : t ∈ c := by rw [← trunc_rest n c]; exact List.mem_append_right _ h
theorem good_trunc {n : Int} (hn : 1 ≤ n) {c : List Tk} (h : Good c) : Good (truncV n c) := by
  rcases h with h | ⟨h1, h2⟩
  · exact .inl fun t ht => h t (trunc_mem ht)
  · refine .inr ⟨?_, fun x hx => h2 x (mem_signs.mpr (trunc_mem (mem_signs.mp hx)))⟩
    rw [trunc_signs hn]
    intro q
    rcases List.take_eq_nil_iff.mp q with q | q
    · omega
    · exact h1 q
theorem good_rest {n : Int} (hn : 1 ≤ n) {c : List Tk} (h : Good c) (hc : (∀ t ∈ c, isCh t) ∨ n < (signs c).length) : Good (restT n c) := by
  rcases h with h | ⟨h1, h2⟩
  · exact .inl fun t ht => h t (rest_mem ht)
  · by_cases q : signs (restT n c) = []
    · rcases hc with hc | hc
      · have hch : ∀ t ∈ restT n c, isCh t := fun t ht => hc t (rest_mem ht)
        refine .inl fun t ht => ?_
        obtain ⟨x, rfl⟩ := hch t ht
        have := mem_signs.mpr ht
        rw [q] at this; cases this
      · exfalso
        rw [rest_signs hn] at q
        have := congrArg List.length q
        rw [List.length_drop] at this; simp at this; omega
    · exact .inr ⟨q, fun x hx => h2 x (mem_signs.mpr (rest_mem (mem_signs.mp hx)))⟩

theorem dropB_sim {more : Bool} {cs : List (List Tk)} (h : ∀ c ∈ cs, Good c) : (dropB more cs).map signs = dropL more (cs.map signs) := by
  cases cs with
  | nil => rfl
  | cons t r =>
    have e1 : dropB more (t :: r) = if (blankT t && more) = true then r else t :: r := rfl
    have e2 : dropL more ((t :: r).map signs) = if (more && decide (stripL Unicode.isSpace (signs t) = [])) = true then r.map signs else signs t :: r.map signs := rfl
    rw [e1, e2, blank_good (h t List.mem_cons_self)]
    have : (more && decide (stripL Unicode.isSpace (signs t) = [])) = (blankN (signs t) && more) := by unfold blankN; rw [Bool.and_comm]
    rw [this]
    split <;> rfl
theorem dropB_sub {more : Bool} {cs : List (List Tk)} : ∀ c ∈ dropB more cs, c ∈ cs := by
  cases cs with
  | nil => exact fun c h => h
  | cons t r =>
    have e1 : dropB more (t :: r) = if (blankT t && more) = true then r else t :: r := rfl
    rw [e1]
    split
    · exact fun c h => List.mem_cons_of_mem _ h
    · exact fun c h => h
theorem greedy_sim (wd : Int) : ∀ (cs : List (List Tk)) (cur : Int) (line : List (List Tk)), greedyN wd cur (line.map signs) (cs.map signs) = ((greedy wd cur line cs).1, (greedy wd cur line cs).2.1.map signs, (greedy wd cur line cs).2.2.map signs)
  | [], cur, line => rfl
  | t :: r, cur, line => by
    rw [List.map_cons]
    unfold greedyN greedy
    show (if cur + (vis t : Int) ≤ wd then _ else _) = _
    split
    · have := greedy_sim wd r (cur + vis t) (line ++ [t])
      rw [List.map_append] at this
      exact this
    · rfl
theorem greedy_split (wd : Int) : ∀ (cs : List (List Tk)) (cur : Int) (line : List (List Tk)), (greedy wd cur line cs).2.1 ++ (greedy wd cur line cs).2.2 = line ++ cs
  | [], cur, line => rfl
  | t :: r, cur, line => by
    unfold greedy
    split
    · rw [greedy_split wd r]; simp
    · rfl
theorem greedy_cur (wd : Int) : ∀ (cs : List (List Tk)) (cur : Int) (line : List (List Tk)), cur ≤ (greedy wd cur line cs).1
  | [], cur, line => Int.le_refl _
  | t :: r, cur, line => by
    unfold greedy
    split
    · have := greedy_cur wd r (cur + vis t) (line ++ [t]); omega
    · exact Int.le_refl _
theorem cut_sim {wd cur : Int} {line cs : List (List Tk)} : cutN wd cur (line.map signs) (cs.map signs) = ((cutLong wd cur line cs).1.map signs, (cutLong wd cur line cs).2.map signs) := by
  cases cs with
  | nil => rfl
  | cons t r =>
    have e1 : cutLong wd cur line (t :: r) = if (vis t : Int) > wd then (line ++ [truncV (max (wd - cur) 1) t], restT (max (wd - cur) 1) t :: r) else (line, t :: r) := rfl
    have e2 : cutN wd cur (line.map signs) ((t :: r).map signs) = if (vis t : Int) > wd then (line.map signs ++ [(signs t).take (max (wd - cur) 1).toNat], (signs t).drop (max (wd - cur) 1).toNat :: r.map signs) else (line.map signs, signs t :: r.map signs) := rfl
    rw [e1, e2]
    split
    · rw [List.map_append, List.map_cons, List.map_cons, trunc_signs (by omega), rest_signs (by omega)]; rfl
    · rfl
theorem cut_good {wd cur : Int} {line cs : List (List Tk)} (h : ∀ c ∈ line ++ cs, Good c) (hc : (∀ c ∈ cs, ∀ t ∈ c, isCh t) ∨ (1 ≤ wd ∧ 0 ≤ cur)) : (∀ c ∈ (cutLong wd cur line cs).1, Good c) ∧ ∀ c ∈ (cutLong wd cur line cs).2, Good c := by
  cases cs with
  | nil => exact ⟨fun c hc => h c (List.mem_append_left _ hc), fun c hc => by cases hc⟩
  | cons t r =>
    have e1 : cutLong wd cur line (t :: r) = if (vis t : Int) > wd then (line ++ [truncV (max (wd - cur) 1) t], restT (max (wd - cur) 1) t :: r) else (line, t :: r) := rfl
    rw [e1]
    have ht := h t (by simp)
    split
    · rename_i hv
      refine ⟨fun c hc => ?_, fun c hc' => ?_⟩
      · rcases List.mem_append.mp hc with hc | hc
        · exact h c (List.mem_append_left _ hc)
        · rw [List.mem_singleton.mp hc]; exact good_trunc (by omega) ht
      · rcases List.mem_cons.mp hc' with rfl | hc'
        · refine good_rest (by omega) ht (hc.imp (fun hc => hc t List.mem_cons_self) fun ⟨h1, h2⟩ => ?_)
          have : (vis t : Int) = ((signs t).length : Int) := rfl
          omega
        · exact h c (by simp [hc'])
    · exact ⟨fun c hc => h c (List.mem_append_left _ hc), fun c hc => h c (List.mem_append_right _ hc)⟩
theorem trim_sim {line : List (List Tk)} (h : ∀ c ∈ line, Good c) : (trimB line).map signs = trimN (line.map signs) := by
  rcases List.eq_nil_or_concat line with rfl | ⟨l, t, rfl⟩
  · rfl
  · rw [List.concat_eq_append] at h ⊢
    rw [trimB_snoc, List.map_append]
    have e : trimN (l.map signs ++ [t].map signs) = if blankN (signs t) = true then l.map signs else l.map signs ++ [signs t] := by
      unfold trimN; simp
    rw [e, blank_good (h t (by simp))]
    split
    · rfl
    · rw [List.map_append]; rfl
theorem lay_sim {wd : Int} {more : Bool} {cs : List (List Tk)} (h : ∀ c ∈ cs, Good c) (hc : (∀ c ∈ cs, ∀ t ∈ c, isCh t) ∨ 1 ≤ wd) :
    layN wd more (cs.map signs) = ((lay1 wd more cs).1.map signs, (lay1 wd more cs).2.map signs) ∧ ∀ c ∈ (lay1 wd more cs).2, Good c := by
  have hd : ∀ c ∈ dropB more cs, Good c := fun c hc => h c (dropB_sub c hc)
  have hs := greedy_split wd (dropB more cs) 0 []
  rw [List.nil_append] at hs
  have hg : ∀ c ∈ (greedy wd 0 [] (dropB more cs)).2.1 ++ (greedy wd 0 [] (dropB more cs)).2.2, Good c := by rw [hs]; exact hd
  have h2 := cut_good (wd := wd) (cur := (greedy wd 0 [] (dropB more cs)).1) hg (hc.imp (fun hc c hcc => hc c (dropB_sub c (by rw [← hs]; exact List.mem_append_right _ hcc))) fun h1 => ⟨h1, greedy_cur wd _ 0 []⟩)
  refine ⟨?_, h2.2⟩
  unfold layN lay1
  simp only
  rw [← dropB_sim h]
  have e := greedy_sim wd (dropB more cs) 0 []
  rw [List.map_nil] at e
  rw [e]
  simp only
  rw [cut_sim, trim_sim h2.1]
theorem signs_flatten (ls : List (List Tk)) : signs ls.flatten = (ls.map signs).flatten := by
  induction ls with
  | nil => rfl
  | cons a r ih => rw [List.flatten_cons, signs_append, ih, List.map_cons, List.flatten_cons]
theorem lay_ch {wd : Int} {more : Bool} {cs : List (List Tk)} (P : Tk → Prop) (h : ∀ c ∈ cs, ∀ t ∈ c, P t) : (∀ c ∈ (lay1 wd more cs).1, ∀ t ∈ c, P t) ∧ ∀ c ∈ (lay1 wd more cs).2, ∀ t ∈ c, P t := by
  have hs := greedy_split wd (dropB more cs) 0 []
  rw [List.nil_append] at hs
  have hg : ∀ c ∈ (greedy wd 0 [] (dropB more cs)).2.1 ++ (greedy wd 0 [] (dropB more cs)).2.2, ∀ t ∈ c, P t := by
    rw [hs]; exact fun c hc => h c (dropB_sub c hc)
  have trimsub : ∀ line : List (List Tk), ∀ c ∈ trimB line, c ∈ line := by
    intro line
    rcases List.eq_nil_or_concat line with rfl | ⟨l, t, rfl⟩
    · exact fun c h => h
    · rw [List.concat_eq_append, trimB_snoc]
      split
      · exact fun c h => List.mem_append_left _ h
      · exact fun c h => h
  unfold lay1
  simp only
  generalize (greedy wd 0 [] (dropB more cs)).1 = cur at *
  generalize (greedy wd 0 [] (dropB more cs)).2.1 = line at *
  generalize (greedy wd 0 [] (dropB more cs)).2.2 = rest at *
  cases rest with
  | nil => exact ⟨fun c hc => hg c (by simpa [cutLong] using trimsub _ c hc), fun c hc => by cases hc⟩
  | cons t r =>
    have e1 : cutLong wd cur line (t :: r) = if (vis t : Int) > wd then (line ++ [truncV (max (wd - cur) 1) t], restT (max (wd - cur) 1) t :: r) else (line, t :: r) := rfl
    rw [e1]
    split
    · refine ⟨fun c hc => ?_, fun c hc => ?_⟩
      · rcases List.mem_append.mp (trimsub _ c hc) with hc | hc
        · exact hg c (List.mem_append_left _ hc)
        · rw [List.mem_singleton.mp hc]; exact fun y hy => hg t (by simp) y (trunc_mem hy)
      · rcases List.mem_cons.mp hc with rfl | hc
        · exact fun y hy => hg t (by simp) y (rest_mem hy)
        · exact hg c (by simp [hc])
    · exact ⟨fun c hc => hg c (List.mem_append_left _ (trimsub _ c hc)), fun c hc => hg c (List.mem_append_right _ hc)⟩
theorem wrap_mem {w : Int} {fi fr : List Tk} (P : Tk → Prop) (hi : ∀ t ∈ fi, P t) (hr : ∀ t ∈ fr, P t) : ∀ (k : Nat) (cs ls out : List (List Tk)), (∀ c ∈ cs, ∀ t ∈ c, P t) → (∀ c ∈ ls, ∀ t ∈ c, P t) → wrapF w fi fr k cs ls = some out → ∀ c ∈ out, ∀ t ∈ c, P t
  | k, [], ls, out, h1, h2, h => by
    have : ls = out := by cases k <;> exact Option.some.inj h
    rw [← this]; exact h2
  | 0, c :: cs, ls, out, h1, h2, h => by cases h
  | k + 1, c :: cs, ls, out, h1, h2, h => by
    unfold wrapF at h
    simp only at h
    have hl := lay_ch (wd := w - vis (if ls = [] then fi else fr)) (more := !ls.isEmpty) P h1
    refine wrap_mem P hi hr k _ _ out hl.2 ?_ h
    have hind : ∀ t ∈ (if ls = [] then fi else fr), P t := by split <;> assumption
    generalize (if ls = [] then fi else fr) = ind at *
    by_cases q : (lay1 (w - vis ind) (!ls.isEmpty) (c :: cs)).1 = []
    · rw [if_pos q]; exact h2
    · rw [if_neg q]
      intro y hy
      rcases List.mem_append.mp hy with hy | hy
      · exact h2 y hy
      · rw [List.mem_singleton.mp hy]
        intro t ht
        rcases List.mem_append.mp ht with ht | ht
        · exact hind t ht
        · obtain ⟨z, hz, htz⟩ := List.mem_flatten.mp ht
          exact hl.1 z hz t htz
theorem wrap_sim {w : Int} {fi fr : List Tk} : ∀ (k : Nat) (cs ls : List (List Tk)), (∀ c ∈ cs, Good c) → ((∀ c ∈ cs, ∀ t ∈ c, isCh t) ∨ (1 ≤ w - vis fi ∧ 1 ≤ w - vis fr)) →
    (wrapF w fi fr k cs ls).map (·.map signs) = wrapN w (signs fi) (signs fr) k (cs.map signs) (ls.map signs)
  | k, [], ls, h1, h2 => by cases k <;> rfl
  | 0, c :: cs, ls, h1, h2 => rfl
  | k + 1, c :: cs, ls, h1, h2 => by
    rw [List.map_cons]
    unfold wrapF wrapN
    simp only
    have hind : (if ls.map signs = [] then signs fi else signs fr) = signs (if ls = [] then fi else fr) := by
      cases ls <;> simp
    have hem : (ls.map signs).isEmpty = ls.isEmpty := by cases ls <;> rfl
    rw [hind, hem]
    have hw : w - ((signs (if ls = [] then fi else fr)).length : Int) = w - vis (if ls = [] then fi else fr) := rfl
    rw [hw]
    obtain ⟨s1, s2⟩ := lay_sim (wd := w - vis (if ls = [] then fi else fr)) (more := !ls.isEmpty) h1 (h2.imp id fun ⟨a, b⟩ => by split <;> assumption)
    rw [List.map_cons] at s1
    rw [s1]
    simp only
    have hch : (∀ c' ∈ (lay1 (w - vis (if ls = [] then fi else fr)) (!ls.isEmpty) (c :: cs)).2, ∀ t ∈ c', isCh t) ∨ (1 ≤ w - vis fi ∧ 1 ≤ w - vis fr) := h2.imp (fun h => (lay_ch isCh h).2) id
    rw [wrap_sim k _ _ s2 hch]
    congr 1
    generalize (lay1 (w - vis (if ls = [] then fi else fr)) (!ls.isEmpty) (c :: cs)).1 = q1
    cases q1 with
    | nil => simp
    | cons a b =>
      simp only [List.map_cons, reduceCtorEq, if_false]
      rw [List.map_append, List.map_cons, List.map_nil, signs_append, signs_flatten]
      simp
end Mine
end

section
open PySem PySem.W PySem.Calls PyProof.Rows PySem.Builtin PySem.Builtin.Str
set_option linter.all false
set_option maxRecDepth 100000
namespace Mine
/-! ## the law's own walk lays the same -/
def BlkN (p : List Nat) : Prop := ∀ x ∈ p, x = 32
def WrdN (p : List Nat) : Prop := p ≠ [] ∧ ∀ x ∈ p, Unicode.isSpace x = false
def GoodN (p : List Nat) : Prop := BlkN p ∨ WrdN p
def AltN (ps : List (List Nat)) : Prop := ∀ i a b, ps[i]? = some a → ps[i + 1]? = some b → WrdN a ∨ WrdN b
theorem sp32 : Unicode.isSpace 32 = true := by decide +kernel
theorem BlkN.blank {p : List Nat} (h : BlkN p) : blankN p = true := decide_eq_true (strip_nil.mpr fun x hx => by rw [h x hx]; exact sp32)
theorem WrdN.blank {p : List Nat} (h : WrdN p) : blankN p = false := decide_eq_false fun q => by
  obtain ⟨x, hx⟩ := List.exists_mem_of_ne_nil _ h.1
  have := strip_nil.mp q x hx
  rw [h.2 x hx] at this; cases this
theorem WrdN.no32 {p : List Nat} (h : WrdN p) : ∀ x ∈ p, x ≠ 32 := fun x hx q => by have := h.2 x hx; rw [q, sp32] at this; cases this
theorem AltN.tail {p : List Nat} {ps : List (List Nat)} (h : AltN (p :: ps)) : AltN ps := fun i a b ha hb => h (i + 1) a b (by rw [List.getElem?_cons_succ]; exact ha) (by rw [List.getElem?_cons_succ]; exact hb)
theorem AltN.right : ∀ {a b : List (List Nat)}, AltN (a ++ b) → AltN b
  | [], b, h => h
  | x :: a, b, h => AltN.right (a := a) h.tail
theorem AltN.left {a b : List (List Nat)} (h : AltN (a ++ b)) : AltN a := fun i x y hx hy => by
  have l1 := (List.getElem?_eq_some_iff.mp hx).1
  have l2 := (List.getElem?_eq_some_iff.mp hy).1
  exact h i x y (by rw [List.getElem?_append_left l1]; exact hx) (by rw [List.getElem?_append_left l2]; exact hy)
theorem AltN.snoc {l : List (List Nat)} {t t' : List Nat} {r : List (List Nat)} (h : AltN (l ++ t' :: r)) (ht : WrdN t' → WrdN t) : AltN (l ++ [t]) := fun i x y hx hy => by
  by_cases hi : i + 1 < l.length
  · exact h i x y (by rw [List.getElem?_append_left (by omega)] at hx ⊢; exact hx) (by rw [List.getElem?_append_left hi] at hy ⊢; exact hy)
  · have hl := (List.getElem?_eq_some_iff.mp hy).1
    rw [List.length_append] at hl
    simp only [List.length_singleton] at hl
    have e : i + 1 = l.length := by omega
    rw [e, List.getElem?_append_right (Nat.le_refl _), Nat.sub_self] at hy
    cases hy
    have := h i x t' (by rw [List.getElem?_append_left (by omega)] at hx ⊢; exact hx) (by rw [e, List.getElem?_append_right (Nat.le_refl _), Nat.sub_self]; rfl)
    exact this.imp id ht
theorem AltN.head {t t' : List Nat} {r : List (List Nat)} (h : AltN (t' :: r)) (ht : WrdN t' → WrdN t) : AltN (t :: r) := fun i x y hx hy => by
  cases i with
  | zero =>
    rw [List.getElem?_cons_zero] at hx
    cases hx
    exact (h 0 t' y rfl (by simpa using hy)).imp ht id
  | succ i => exact h (i + 1) x y (by simpa using hx) (by simpa using hy)
theorem AltN.last {l : List (List Nat)} {a b : List Nat} (h : AltN (l ++ [a] ++ [b])) : WrdN a ∨ WrdN b := h l.length a b (by simp) (by simp)

theorem rstrip_blk (p : List Nat) : ∀ q : List Nat, BlkN q → rstripL [32].contains (p ++ q) = rstripL [32].contains p := fun q hq => by
  unfold rstripL
  rw [List.reverse_append]
  congr 1
  have hq' : ∀ x ∈ q.reverse, x = 32 := fun x hx => hq x (List.mem_reverse.mp hx)
  generalize q.reverse = z at hq'
  induction z with
  | nil => rfl
  | cons a r ih =>
    rw [List.cons_append, List.dropWhile_cons, hq' a List.mem_cons_self, if_pos (by decide)]
    exact ih fun x hx => hq' x (List.mem_cons_of_mem _ hx)
theorem rstrip_wrd {p q : List Nat} (hq : WrdN q) : rstripL [32].contains (p ++ q) = p ++ q := by
  obtain ⟨y, z, rfl⟩ : ∃ y z, q = y ++ [z] := by
    rcases List.eq_nil_or_concat q with h | ⟨y, z, h⟩
    · exact absurd h hq.1
    · exact ⟨y, z, by rw [h, List.concat_eq_append]⟩
  have hz := hq.no32 z (by simp)
  unfold rstripL
  rw [← List.append_assoc, List.reverse_append, List.reverse_singleton, List.singleton_append, List.dropWhile_cons, if_neg (by simp; exact hz)]
  simp
theorem trim_eq {line : List (List Nat)} (hg : ∀ p ∈ line, GoodN p) (ha : AltN line) : rstripL [32].contains line.flatten = (trimN line).flatten ∧ (trimN line = [] ↔ (trimN line).flatten = []) ∧ (∀ y, (trimN line).getLast? = some y → WrdN y) := by
  rcases List.eq_nil_or_concat line with rfl | ⟨l, t, rfl⟩
  · exact ⟨rfl, by simp [trimN], fun y h => by cases h⟩
  · rw [List.concat_eq_append] at hg ha ⊢
    have e : trimN (l ++ [t]) = if blankN t = true then l else l ++ [t] := by unfold trimN; simp
    have wl : ∀ (l : List (List Nat)) (t : List Nat), WrdN t → rstripL [32].contains (l ++ [t]).flatten = (l ++ [t]).flatten ∧ (l ++ [t] = [] ↔ (l ++ [t]).flatten = []) ∧ (∀ y, (l ++ [t]).getLast? = some y → WrdN y) := fun l t ht => by
      rw [List.flatten_append, List.flatten_cons, List.flatten_nil, List.append_nil]
      refine ⟨rstrip_wrd ht, ⟨fun q => by simp at q, fun q => ?_⟩, fun y hy => ?_⟩
      · rw [List.append_eq_nil_iff] at q; exact absurd q.2 ht.1
      · rw [List.getLast?_concat] at hy; cases hy; exact ht
    rcases hg t (by simp) with ht | ht
    · rw [e, ht.blank, if_pos rfl, List.flatten_append, List.flatten_cons, List.flatten_nil, List.append_nil, rstrip_blk _ _ ht]
      rcases List.eq_nil_or_concat l with rfl | ⟨l2, u, rfl⟩
      · exact ⟨rfl, by simp, fun y h => by cases h⟩
      · rw [List.concat_eq_append] at ha ⊢
        rcases ha.last with hu | hu
        · exact wl l2 u hu
        · by_cases q : t = []
          · exact absurd q hu.1
          · obtain ⟨x, hx⟩ := List.exists_mem_of_ne_nil _ q
            exact absurd (ht x hx) (hu.no32 x hx)
    · rw [e, ht.blank, if_neg Bool.false_ne_true]
      exact wl l t ht
theorem greedyL_N (room : Int) : ∀ (parts : List (List Nat)) (line : List (List Nat)) (cur : Int), cur = line.flatten.length → greedyL room line.flatten parts = ((greedyN room cur line parts).2.1.flatten, (greedyN room cur line parts).2.2) ∧ (greedyN room cur line parts).1 = (greedyN room cur line parts).2.1.flatten.length ∧ (greedyN room cur line parts).2.1 ++ (greedyN room cur line parts).2.2 = line ++ parts
  | [], line, cur, h => ⟨rfl, h, rfl⟩
  | p :: r, line, cur, h => by
    unfold greedyL greedyN
    rw [h]
    split
    · have := greedyL_N room r (line ++ [p]) (cur + p.length) (by rw [h]; simp)
      rw [h] at this
      rw [List.flatten_append, List.flatten_cons, List.flatten_nil, List.append_nil] at this
      refine ⟨this.1, this.2.1, ?_⟩
      rw [this.2.2]; simp
    · exact ⟨rfl, rfl, rfl⟩
theorem good_take {p : List Nat} {n : Nat} (h : GoodN p) (hn : 1 ≤ n) : GoodN (p.take n) ∧ (WrdN p → WrdN (p.take n)) := by
  have w : WrdN p → WrdN (p.take n) := fun h => ⟨fun q => by
    rcases List.take_eq_nil_iff.mp q with q | q
    · omega
    · exact h.1 q, fun x hx => h.2 x (List.mem_of_mem_take hx)⟩
  exact ⟨h.imp (fun h x hx => h x (List.mem_of_mem_take hx)) w, w⟩
theorem good_drop {p : List Nat} {n : Nat} (h : GoodN p) : GoodN (p.drop n) ∧ (WrdN p → WrdN (p.drop n) ∨ p.drop n = []) := by
  have w : WrdN p → WrdN (p.drop n) ∨ p.drop n = [] := fun h => by
    by_cases q : p.drop n = []
    · exact .inr q
    · exact .inl ⟨q, fun x hx => h.2 x (List.mem_of_mem_drop hx)⟩
  refine ⟨?_, w⟩
  rcases h with h | h
  · exact .inl fun x hx => h x (List.mem_of_mem_drop hx)
  · rcases w h with w | w
    · exact .inr w
    · exact .inl fun x hx => by rw [w] at hx; cases hx
/-- what holds at each line's begin -/
def WInv (ps ls : List (List Nat)) : Prop := (∀ p ∈ ps, GoodN p) ∧ (AltN ps ∨ (ls ≠ [] ∧ ∃ ps', ps = [] :: ps' ∧ AltN ps'))
theorem drop_alt {ps ls : List (List Nat)} (h : WInv ps ls) : (∀ p ∈ dropL (!ls.isEmpty) ps, GoodN p) ∧ AltN (dropL (!ls.isEmpty) ps) := by
  cases ps with
  | nil => exact ⟨fun p hp => (by cases hp), fun i a b h => by simp [dropL] at h⟩
  | cons p r =>
    have e : dropL (!ls.isEmpty) (p :: r) = if (!ls.isEmpty && blankN p) = true then r else p :: r := rfl
    rw [e]
    obtain ⟨h1, h2⟩ := h
    have hr : ∀ q ∈ r, GoodN q := fun q hq => h1 q (List.mem_cons_of_mem _ hq)
    split
    · refine ⟨hr, ?_⟩
      rcases h2 with h2 | ⟨_, ps', q, h2⟩
      · exact h2.tail
      · cases q; exact h2
    · rename_i hc
      refine ⟨h1, ?_⟩
      rcases h2 with h2 | ⟨q1, ps', q, h2⟩
      · exact h2
      · cases q
        exfalso
        apply hc
        have : blankN [] = true := BlkN.blank fun x hx => by cases hx
        rw [this]
        cases ls with
        | nil => exact absurd rfl q1
        | cons _ _ => rfl
theorem lay_law {room : Int} {ps ls : List (List Nat)} (h : WInv ps ls) :
    layL room (!ls.isEmpty) ps = ((layN room (!ls.isEmpty) ps).1.flatten, (layN room (!ls.isEmpty) ps).2) ∧ ((layN room (!ls.isEmpty) ps).1 = [] ↔ (layN room (!ls.isEmpty) ps).1.flatten = []) ∧ (∀ y, (layN room (!ls.isEmpty) ps).1.getLast? = some y → WrdN y) ∧
    (∀ p ∈ (layN room (!ls.isEmpty) ps).2, GoodN p) ∧ (AltN (layN room (!ls.isEmpty) ps).2 ∨ ((layN room (!ls.isEmpty) ps).1 ≠ [] ∧ ∃ ps', (layN room (!ls.isEmpty) ps).2 = [] :: ps' ∧ AltN ps')) := by
  obtain ⟨d1, d2⟩ := drop_alt h
  unfold layL layN
  simp only
  generalize dropL (!ls.isEmpty) ps = dp at *
  obtain ⟨g1, g2, g3⟩ := greedyL_N room dp [] 0 rfl
  rw [List.nil_append] at g3
  rw [List.flatten_nil] at g1
  rw [g1]
  simp only
  rw [← g3] at d1 d2
  generalize (greedyN room 0 [] dp).1 = cur at *
  generalize (greedyN room 0 [] dp).2.1 = line at *
  generalize (greedyN room 0 [] dp).2.2 = rest at *
  cases rest with
  | nil =>
    rw [List.append_nil] at d1 d2
    obtain ⟨t1, t2, t3⟩ := trim_eq d1 d2
    exact ⟨by show (rstripL [32].contains line.flatten, []) = _; rw [t1]; rfl, t2, t3, fun p hp => (by cases hp), .inl fun i a b h => by simp [cutN] at h⟩
  | cons t r =>
    have e1 : cutN room cur line (t :: r) = if (t.length : Int) > room then (line ++ [t.take (max (room - cur) 1).toNat], t.drop (max (room - cur) 1).toNat :: r) else (line, t :: r) := rfl
    have e2 : cutL room line.flatten (t :: r) = if (t.length : Int) > room then (line.flatten ++ t.take (max 1 (room - line.flatten.length)).toNat, t.drop (max 1 (room - line.flatten.length)).toNat :: r) else (line.flatten, t :: r) := rfl
    rw [e1, e2, ← g2, Int.max_comm 1]
    have ht := d1 t (by simp)
    have hl : ∀ p ∈ line, GoodN p := fun p hp => d1 p (List.mem_append_left _ hp)
    have hr : ∀ p ∈ r, GoodN p := fun p hp => d1 p (by simp [hp])
    by_cases hv : (t.length : Int) > room
    · rw [if_pos hv, if_pos hv]
      have hn : 1 ≤ (max (room - cur) 1).toNat := by omega
      obtain ⟨k1, k2⟩ := good_take (n := (max (room - cur) 1).toNat) ht hn
      obtain ⟨k3, k4⟩ := good_drop (n := (max (room - cur) 1).toNat) ht
      have al : AltN (line ++ [t.take (max (room - cur) 1).toNat]) := d2.snoc k2
      obtain ⟨t1, t2, t3⟩ := trim_eq (line := line ++ [t.take (max (room - cur) 1).toNat]) (fun p hp => (List.mem_append.mp hp).elim (hl p) fun hp => by rw [List.mem_singleton.mp hp]; exact k1) al
      refine ⟨?_, t2, t3, ?_, ?_⟩
      · rw [← t1]; simp
      · intro p hp
        rcases List.mem_cons.mp hp with rfl | hp
        · exact k3
        · exact hr p hp
      · have ar : AltN (t :: r) := d2.right
        rcases ht with hb | hw
        · by_cases hbw : WrdN t
          · rcases k4 hbw with k4 | k4
            · exact .inl (ar.head fun _ => k4)
            · refine .inr ⟨?_, r, by simp only; rw [k4], ar.tail⟩
              intro q
              have e : trimN (line ++ [t.take (max (room - cur) 1).toNat]) = if blankN (t.take (max (room - cur) 1).toNat) = true then line else line ++ [t.take (max (room - cur) 1).toNat] := by unfold trimN; simp
              rw [e, (k2 hbw).blank, if_neg Bool.false_ne_true] at q; simp at q
          · exact .inl (ar.head fun q => absurd q hbw)
        · rcases k4 hw with k4 | k4
          · exact .inl (ar.head fun _ => k4)
          · refine .inr ⟨?_, r, by simp only; rw [k4], ar.tail⟩
            intro q
            have e : trimN (line ++ [t.take (max (room - cur) 1).toNat]) = if blankN (t.take (max (room - cur) 1).toNat) = true then line else line ++ [t.take (max (room - cur) 1).toNat] := by unfold trimN; simp
            rw [e, (k2 hw).blank, if_neg Bool.false_ne_true] at q; simp at q
    · rw [if_neg hv, if_neg hv]
      obtain ⟨t1, t2, t3⟩ := trim_eq hl d2.left
      exact ⟨by simp only; rw [t1], t2, t3, fun p hp => d1 p (List.mem_append_right _ hp), .inl d2.right⟩
theorem lawF_wrapN {w : Int} {fi fr : List Nat} : ∀ (k : Nat) (ps ls : List (List Nat)), WInv ps ls → lawF w fi fr k ps ls = wrapN w fi fr k ps ls
  | k, [], ls, h => by cases k <;> rfl
  | 0, c :: cs, ls, h => rfl
  | k + 1, c :: cs, ls, h => by
    unfold lawF wrapN
    simp only
    obtain ⟨e1, e2, e3, e4, e5⟩ := lay_law (room := w - (if ls = [] then fi else fr).length) h
    rw [e1]
    simp only
    by_cases q : (layN (w - (if ls = [] then fi else fr).length) (!ls.isEmpty) (c :: cs)).1 = []
    · rw [if_pos q, if_pos (e2.mp q)]
      refine lawF_wrapN k _ _ ⟨e4, ?_⟩
      rcases e5 with e5 | ⟨e5, _⟩
      · exact .inl e5
      · exact absurd q e5
    · rw [if_neg q, if_neg (fun z => q (e2.mpr z))]
      refine lawF_wrapN k _ _ ⟨e4, ?_⟩
      rcases e5 with e5 | ⟨e5, e6⟩
      · exact .inl e5
      · exact .inr ⟨by simp, e6⟩
end Mine
end

section
open PySem PySem.W PySem.Calls PyProof.Rows PySem.Builtin PySem.Builtin.Str
set_option linter.all false
set_option maxRecDepth 100000
namespace Mine
def TxtOk (l : List Nat) : Prop := ∀ x ∈ l, x = 32 ∨ Unicode.isSpace x = false
theorem isB_sp {x : Nat} (h : x = 32 ∨ Unicode.isSpace x = false) : isB x = decide (x = 32) := by
  rcases h with rfl | h
  · rfl
  · have h32 : x ≠ 32 := fun q => by rw [q, sp32] at h; cases h
    rw [decide_eq_false h32]
    unfold isB
    refine decide_eq_false fun q => ?_
    simp only [List.mem_cons, List.not_mem_nil, or_false] at q
    rcases q with rfl | rfl | rfl | rfl | rfl | rfl
    · exact absurd h (by decide +kernel)
    · exact absurd h (by decide +kernel)
    · exact absurd h (by decide +kernel)
    · exact absurd h (by decide +kernel)
    · exact absurd h (by decide +kernel)
    · exact h32 rfl
theorem chunkL_parts {l : List Nat} (h : TxtOk l) : chunkL l = partsL l := by
  induction l using snocInd with
  | h0 => rfl
  | h1 l x ih =>
    have hl : TxtOk l := fun y hy => h y (List.mem_append_left _ hy)
    rw [chunkL_snoc, partsL_snoc, ih hl]
    unfold chunkStep partStep
    have hx := isB_sp (h x (by simp))
    cases e : (partsL l).getLast? with
    | none => rfl
    | some p =>
      cases p with
      | nil => rfl
      | cons z zs =>
        have hz : z ∈ l := by
          have e2 := getLast_split e
          have : z ∈ (partsL l).flatten := by rw [e2]; simp
          rw [partsL_sum] at this; exact this
        simp only
        rw [hx, isB_sp (hl z hz)]
        by_cases q : decide (z = 32) = decide (x = 32)
        · rw [if_pos q, if_pos (beq_iff_eq.mpr q)]
        · rw [if_neg q, if_neg (fun t => q (beq_iff_eq.mp t))]
theorem parts_good {l : List Nat} (h : TxtOk l) : (∀ p ∈ partsL l, p ≠ [] ∧ ((∀ x ∈ p, x = 32) ∨ ∀ x ∈ p, Unicode.isSpace x = false)) ∧ AltN (partsL l) := by
  induction l using snocInd with
  | h0 => exact ⟨fun p hp => (by cases hp), fun i a b h => by simp [partsL] at h⟩
  | h1 l x ih =>
    have hl : TxtOk l := fun y hy => h y (List.mem_append_left _ hy)
    obtain ⟨i1, i2⟩ := ih hl
    have hx := h x (by simp)
    have hx1 : [x] ≠ [] ∧ ((∀ y ∈ [x], y = 32) ∨ ∀ y ∈ [x], Unicode.isSpace y = false) := ⟨by simp, hx.imp (fun q y hy => by rw [List.mem_singleton.mp hy]; exact q) fun q y hy => by rw [List.mem_singleton.mp hy]; exact q⟩
    rw [partsL_snoc]
    rcases List.eq_nil_or_concat (partsL l) with e | ⟨ini, p, e⟩
    · rw [e]
      show (∀ p ∈ [[x]], _) ∧ AltN [[x]]
      exact ⟨fun p hp => by rw [List.mem_singleton.mp hp]; exact hx1, fun i a b h1 h2 => by simp at h2⟩
    · rw [List.concat_eq_append] at e
      rw [e] at i1 i2 ⊢
      obtain ⟨hp1, hp2⟩ := i1 p (by simp)
      cases p with
      | nil => exact absurd rfl hp1
      | cons z zs =>
        have e3 : partStep (ini ++ [z :: zs]) x = if decide (z = 32) = decide (x = 32) then ini ++ [(z :: zs) ++ [x]] else (ini ++ [z :: zs]) ++ [[x]] := by
          unfold partStep; rw [List.getLast?_concat]; simp only [List.dropLast_concat]
        rw [e3]
        have hz : z = 32 ∨ Unicode.isSpace z = false := hp2.imp (fun q => q z List.mem_cons_self) fun q => q z List.mem_cons_self
        by_cases q : decide (z = 32) = decide (x = 32)
        · rw [if_pos q]
          have hq : (z = 32 ∧ x = 32) ∨ (z ≠ 32 ∧ x ≠ 32) := by
            by_cases a : z = 32
            · by_cases b : x = 32
              · exact .inl ⟨a, b⟩
              · simp [a, b] at q
            · by_cases b : x = 32
              · simp [a, b] at q
              · exact .inr ⟨a, b⟩
          have hn : (z :: zs) ++ [x] ≠ [] ∧ ((∀ y ∈ (z :: zs) ++ [x], y = 32) ∨ ∀ y ∈ (z :: zs) ++ [x], Unicode.isSpace y = false) := by
            refine ⟨by simp, ?_⟩
            rcases hq with ⟨a, b⟩ | ⟨a, b⟩
            · left
              have : ∀ y ∈ z :: zs, y = 32 := hp2.elim id fun q2 => by have := q2 z List.mem_cons_self; rw [a, sp32] at this; cases this
              intro y hy
              rcases List.mem_append.mp hy with hy | hy
              · exact this y hy
              · rw [List.mem_singleton.mp hy]; exact b
            · right
              have : ∀ y ∈ z :: zs, Unicode.isSpace y = false := hp2.elim (fun q2 => absurd (q2 z List.mem_cons_self) a) id
              intro y hy
              rcases List.mem_append.mp hy with hy | hy
              · exact this y hy
              · rw [List.mem_singleton.mp hy]; exact hx.resolve_left b
          refine ⟨fun p hp => ?_, i2.snoc fun hw => ⟨by simp, ?_⟩⟩
          · rcases List.mem_append.mp hp with hp | hp
            · exact i1 p (List.mem_append_left _ hp)
            · rw [List.mem_singleton.mp hp]; exact hn
          · have hz0 : z ≠ 32 := hw.no32 z List.mem_cons_self
            exact hn.2.elim (fun q2 => absurd (q2 z (by simp)) hz0) id
        · rw [if_neg q]
          refine ⟨fun p hp => ?_, fun i a b ha hb => ?_⟩
          · rcases List.mem_append.mp hp with hp | hp
            · exact i1 p hp
            · rw [List.mem_singleton.mp hp]; exact hx1
          · by_cases hi : i + 1 < (ini ++ [z :: zs]).length
            · exact i2 i a b (by rw [List.getElem?_append_left (by omega)] at ha; exact ha) (by rw [List.getElem?_append_left hi] at hb; exact hb)
            · have hl2 := (List.getElem?_eq_some_iff.mp hb).1
              rw [List.length_append, List.length_singleton] at hl2
              have ei : i + 1 = (ini ++ [z :: zs]).length := by omega
              rw [ei, List.getElem?_append_right (Nat.le_refl _), Nat.sub_self] at hb
              cases hb
              rw [List.getElem?_append_left (by omega)] at ha
              rw [List.length_append, List.length_singleton] at ei
              have : i = ini.length := by omega
              rw [this, List.getElem?_append_right (Nat.le_refl _), Nat.sub_self] at ha
              cases ha
              by_cases hz32 : z = 32
              · right
                have hx32 : x ≠ 32 := fun w => q (by rw [hz32, w])
                exact ⟨by simp, fun y hy => by rw [List.mem_singleton.mp hy]; exact hx.resolve_left hx32⟩
              · left
                exact ⟨by simp, hp2.elim (fun q2 => absurd (q2 z List.mem_cons_self) hz32) id⟩
theorem parts_inv {l : List Nat} (h : TxtOk l) : WInv (partsL l) [] := by
  obtain ⟨h1, h2⟩ := parts_good h
  exact ⟨fun p hp => (h1 p hp).2.imp id fun q => ⟨(h1 p hp).1, q⟩, .inl h2⟩
theorem plain_ch {l : List Nat} : ∀ t ∈ plain l, isCh t := fun t ht => by
  obtain ⟨x, _, rfl⟩ := List.mem_map.mp ht
  exact ⟨x, rfl⟩
theorem chunk_mem {ts : List Tk} {c : List Tk} (h : c ∈ chunkT ts) {t : Tk} (ht : t ∈ c) : t ∈ ts := by
  have : t ∈ (chunkT ts).flatten := List.mem_flatten.mpr ⟨c, h, ht⟩
  rw [chunkT_sum] at this; exact this
theorem chunk_plain {l : List Nat} (ho : okT (plain l)) (h : TxtOk l) : (chunkT (plain l)).map signs = partsL l := by
  have e := chunk_map (plain l) ho
  rw [flatT_plain, chunkL_parts h] at e
  rw [e]
  refine List.map_congr_left fun c hc => (signs_sub fun t ht => plain_ch t (chunk_mem hc ht)).symm

/-! ## it ends -/
def WCond (w : Int) (fi : List Nat) (ps ls : List (List Nat)) : Prop := ls ≠ [] ∨ 0 ≤ w - fi.length ∨ ∃ p r, ps = p :: r ∧ WrdN p
theorem dropL_le (more : Bool) (ps : List (List Nat)) : szP (dropL more ps) < szP ps ∨ dropL more ps = ps := by
  cases ps with
  | nil => exact .inr rfl
  | cons p r =>
    have e : dropL more (p :: r) = if (more && decide (stripL Unicode.isSpace p = [])) = true then r else p :: r := rfl
    rw [e]
    split
    · left; unfold szP; rw [List.flatten_cons, List.length_append, List.length_cons]; omega
    · exact .inr rfl
theorem szP_cons (p : List Nat) (r : List (List Nat)) : szP (p :: r) = p.length + szP r + 1 := by unfold szP; rw [List.flatten_cons, List.length_append, List.length_cons]; omega
theorem greedyN_sz (wd : Int) : ∀ (ps : List (List Nat)) (cur : Int) (line : List (List Nat)), szP (greedyN wd cur line ps).2.2 < szP ps ∨ (greedyN wd cur line ps = (cur, line, ps) ∧ (∀ p r, ps = p :: r → ¬ cur + p.length ≤ wd))
  | [], cur, line => .inr ⟨rfl, fun p r h => by cases h⟩
  | p :: r, cur, line => by
    unfold greedyN
    split
    · left
      have h1 : szP (greedyN wd (cur + p.length) (line ++ [p]) r).2.2 ≤ szP r := by
        rcases greedyN_sz wd r (cur + p.length) (line ++ [p]) with h | ⟨h, _⟩
        · omega
        · rw [h]; exact Nat.le_refl _
      rw [szP_cons]; omega
    · rename_i hc
      exact .inr ⟨rfl, fun p' r' e => by cases e; exact hc⟩
theorem cutN_sz (wd cur : Int) (line ps : List (List Nat)) : szP (cutN wd cur line ps).2 ≤ szP ps := by
  cases ps with
  | nil => exact Nat.le_refl _
  | cons t r =>
    have e1 : cutN wd cur line (t :: r) = if (t.length : Int) > wd then (line ++ [t.take (max (wd - cur) 1).toNat], t.drop (max (wd - cur) 1).toNat :: r) else (line, t :: r) := rfl
    rw [e1]
    split
    · rw [szP_cons, szP_cons, List.length_drop]; omega
    · exact Nat.le_refl _
theorem layN_sz {w : Int} {fi fr : List Nat} {p : List Nat} {ps ls : List (List Nat)} (hi : WInv (p :: ps) ls) (hc : WCond w fi (p :: ps) ls) :
    szP (layN (w - (if ls = [] then fi else fr).length) (!ls.isEmpty) (p :: ps)).2 < szP (p :: ps) ∧ ((layN (w - (if ls = [] then fi else fr).length) (!ls.isEmpty) (p :: ps)).1 ≠ [] ∨ ls ≠ [] ∨ 0 ≤ w - (fi.length : Int)) := by
  have hwd : ls = [] → (w - ((if ls = [] then fi else fr).length : Int)) = w - fi.length := fun q => by rw [if_pos q]
  generalize (w - ((if ls = [] then fi else fr).length : Int)) = wd at *
  obtain ⟨a1, a2⟩ := drop_alt hi
  unfold layN
  simp only
  rcases dropL_le (!ls.isEmpty) (p :: ps) with hd | hd
  · refine ⟨?_, ?_⟩
    · refine Nat.lt_of_le_of_lt (cutN_sz _ _ _ _) (Nat.lt_of_le_of_lt ?_ hd)
      rcases greedyN_sz wd (dropL (!ls.isEmpty) (p :: ps)) 0 [] with h | ⟨h, _⟩
      · omega
      · rw [h]; exact Nat.le_refl _
    · right; left
      intro q
      rw [q] at hd
      exact absurd hd (Nat.lt_irrefl _)
  · rw [hd]
    rcases greedyN_sz wd (p :: ps) 0 [] with h | ⟨h, hno⟩
    · refine ⟨Nat.lt_of_le_of_lt (cutN_sz _ _ _ _) h, ?_⟩
      by_cases q : ls = []
      · rcases hc with hc | hc | ⟨p', r', e, hw⟩
        · exact absurd q hc
        · exact .inr (.inr hc)
        · cases e
          by_cases h0 : 0 ≤ w - (fi.length : Int)
          · exact .inr (.inr h0)
          · exfalso
            rw [hwd q] at h
            have : greedyN (w - (fi.length : Int)) 0 [] (p :: ps) = (0, [], p :: ps) := by
              unfold greedyN
              rw [if_neg (by omega)]
            rw [this] at h
            exact absurd h (Nat.lt_irrefl _)
      · exact .inr (.inl q)
    · rw [h]
      simp only
      have hp := hno p ps rfl
      have e1 : cutN wd 0 [] (p :: ps) = if (p.length : Int) > wd then ([] ++ [p.take (max (wd - 0) 1).toNat], p.drop (max (wd - 0) 1).toNat :: ps) else ([], p :: ps) := rfl
      rw [e1, if_pos (by omega)]
      have hpw : WrdN p ∨ p ≠ [] := by
        by_cases q : ls = []
        · rcases hc with hc | hc | ⟨p', r', e, hw⟩
          · exact absurd q hc
          · right
            rintro rfl
            rw [hwd q] at hp
            simp at hp; omega
          · cases e; exact .inl hw
        · right
          rintro rfl
          have e : dropL (!ls.isEmpty) ([] :: ps) = if (!ls.isEmpty && blankN []) = true then ps else [] :: ps := rfl
          have hb : blankN [] = true := BlkN.blank fun x hx => by cases hx
          have : (!ls.isEmpty) = true := by cases ls with
            | nil => exact absurd rfl q
            | cons _ _ => rfl
          rw [e, hb, this, if_pos (by decide)] at hd
          exact absurd (congrArg List.length hd) (by simp)
      have hpn : p ≠ [] := hpw.elim (fun h => h.1) id
      have hpl : 0 < p.length := List.length_pos_iff.mpr hpn
      refine ⟨?_, ?_⟩
      · simp only
        rw [szP_cons, szP_cons, List.length_drop]; omega
      · by_cases q : ls = []
        · rcases hc with hc | hc | ⟨p', r', e, hw⟩
          · exact absurd q hc
          · exact .inr (.inr hc)
          · cases e
            left
            have hw2 := (good_take (n := (max (wd - 0) 1).toNat) (.inr hw) (by omega)).2 hw
            show trimN ([] ++ [p.take (max (wd - 0) 1).toNat]) ≠ []
            have e : trimN ([] ++ [p.take (max (wd - 0) 1).toNat]) = if blankN (p.take (max (wd - 0) 1).toNat) = true then [] else [] ++ [p.take (max (wd - 0) 1).toNat] := by unfold trimN; simp
            rw [e, hw2.blank, if_neg Bool.false_ne_true]; simp
        · exact .inr (.inl q)
theorem lay_inv {room : Int} {ps ls : List (List Nat)} {ind : List Nat} (h : WInv ps ls) : WInv (layN room (!ls.isEmpty) ps).2 (if (layN room (!ls.isEmpty) ps).1 = [] then ls else ls ++ [ind ++ (layN room (!ls.isEmpty) ps).1.flatten]) := by
  obtain ⟨e1, e2, e3, e4, e5⟩ := lay_law (room := room) h
  refine ⟨e4, ?_⟩
  by_cases q : (layN room (!ls.isEmpty) ps).1 = []
  · rcases e5 with e5 | ⟨e5, _⟩
    · exact .inl e5
    · exact absurd q e5
  · rw [if_neg q]
    rcases e5 with e5 | ⟨e5, e6⟩
    · exact .inl e5
    · exact .inr ⟨by simp, e6⟩
theorem wrapN_ends {w : Int} {fi fr : List Nat} : ∀ (k : Nat) (ps ls : List (List Nat)), WInv ps ls → WCond w fi ps ls → szP ps ≤ k → ∃ out, wrapN w fi fr k ps ls = some out
  | k, [], ls, h1, h2, h3 => ⟨ls, by cases k <;> rfl⟩
  | 0, p :: ps, ls, h1, h2, h3 => by rw [szP_cons] at h3; omega
  | k + 1, p :: ps, ls, h1, h2, h3 => by
    unfold wrapN
    simp only
    obtain ⟨s1, s2⟩ := layN_sz (fr := fr) h1 h2
    refine wrapN_ends k _ _ (lay_inv h1) ?_ (by omega)
    rcases s2 with s2 | s2 | s2
    · left; rw [if_neg s2]; simp
    · left
      by_cases q : (layN (w - ((if ls = [] then fi else fr).length : Int)) (!ls.isEmpty) (p :: ps)).1 = []
      · rw [if_pos q]; exact s2
      · rw [if_neg q]; simp
    · exact .inr (.inl s2)
end Mine
end

section
open PySem PySem.W PySem.Calls PyProof.Rows PySem.Builtin PySem.Builtin.Str
set_option linter.all false
set_option maxRecDepth 100000
namespace Mine
theorem letters_append (a b : List Nat) : lettersL (a ++ b) = lettersL a ++ lettersL b := by unfold lettersL; rw [List.filter_append]
theorem letters_blk {p : List Nat} (h : BlkN p) : lettersL p = [] := by
  unfold lettersL
  rw [List.filter_eq_nil_iff]
  intro x hx
  rw [h x hx]; decide
theorem good_blank {p : List Nat} (h : GoodN p) (hb : blankN p = true) : BlkN p := h.elim id fun hw => by rw [hw.blank] at hb; cases hb
theorem greedyN_le (wd : Int) : ∀ (ps : List (List Nat)) (cur : Int) (line : List (List Nat)), cur ≤ max wd 0 → (greedyN wd cur line ps).1 ≤ max wd 0
  | [], cur, line, h => h
  | p :: r, cur, line, h => by
    unfold greedyN
    split
    · exact greedyN_le wd r _ _ (by omega)
    · exact h
theorem layN_letters {wd : Int} {more : Bool} {ps : List (List Nat)} (h : ∀ p ∈ ps, GoodN p) (ha : AltN (dropL more ps)) :
    lettersL ((layN wd more ps).1.flatten) ++ lettersL ((layN wd more ps).2.flatten) = lettersL ps.flatten ∧ ((layN wd more ps).1.flatten.length : Int) ≤ max wd 0 + 1 := by
  have hd : lettersL (dropL more ps).flatten = lettersL ps.flatten ∧ ∀ p ∈ dropL more ps, GoodN p := by
    cases ps with
    | nil => exact ⟨rfl, fun p hp => (by cases hp)⟩
    | cons p r =>
      have e : dropL more (p :: r) = if (more && blankN p) = true then r else p :: r := rfl
      rw [e]
      split
      · rename_i hb
        rw [Bool.and_eq_true] at hb
        refine ⟨?_, fun q hq => h q (List.mem_cons_of_mem _ hq)⟩
        rw [List.flatten_cons, letters_append, letters_blk (good_blank (h p List.mem_cons_self) hb.2)]; rfl
      · exact ⟨rfl, h⟩
  rw [← hd.1]
  have hg := hd.2
  clear hd
  unfold layN
  simp only
  generalize dropL more ps = dp at *
  obtain ⟨_, g2, g3⟩ := greedyL_N wd dp [] 0 rfl
  have g4 := greedyN_le wd dp 0 [] (by omega)
  rw [List.nil_append] at g3
  have e5 : dp.flatten = ((greedyN wd 0 [] dp).2.1 ++ (greedyN wd 0 [] dp).2.2).flatten := by rw [g3]
  rw [e5]
  rw [← g3] at hg ha
  clear e5
  generalize (greedyN wd 0 [] dp).1 = cur at *
  generalize (greedyN wd 0 [] dp).2.1 = line at *
  generalize (greedyN wd 0 [] dp).2.2 = rest at *
  have trim : ∀ (l : List (List Nat)), (∀ p ∈ l, GoodN p) → lettersL (trimN l).flatten = lettersL l.flatten ∧ (trimN l).flatten.length ≤ l.flatten.length := by
    intro l hl
    rcases List.eq_nil_or_concat l with rfl | ⟨l2, t, rfl⟩
    · exact ⟨rfl, Nat.le_refl _⟩
    · rw [List.concat_eq_append] at hl ⊢
      have e : trimN (l2 ++ [t]) = if blankN t = true then l2 else l2 ++ [t] := by unfold trimN; simp
      rw [e]
      split
      · rename_i hb
        rw [List.flatten_append, letters_append]
        have : lettersL [t].flatten = [] := by simp only [List.flatten_cons, List.flatten_nil, List.append_nil]; exact letters_blk (good_blank (hl t (by simp)) hb)
        rw [this]; simp
      · exact ⟨rfl, Nat.le_refl _⟩
  cases rest with
  | nil =>
    rw [List.append_nil] at hg ⊢
    obtain ⟨t1, t2⟩ := trim line hg
    show lettersL (trimN line).flatten ++ lettersL [].flatten = _ ∧ (((trimN line).flatten.length : Nat) : Int) ≤ _
    rw [t1]
    refine ⟨by simp [lettersL], by omega⟩
  | cons t r =>
    have e1 : cutN wd cur line (t :: r) = if (t.length : Int) > wd then (line ++ [t.take (max (wd - cur) 1).toNat], t.drop (max (wd - cur) 1).toNat :: r) else (line, t :: r) := rfl
    rw [e1]
    have hl : ∀ p ∈ line, GoodN p := fun p hp => hg p (List.mem_append_left _ hp)
    have ht := hg t (by simp)
    split
    · rename_i hv
      have hn : 1 ≤ (max (wd - cur) 1).toNat := by omega
      obtain ⟨k1, k2⟩ := good_take (n := (max (wd - cur) 1).toNat) ht hn
      obtain ⟨t1, t2⟩ := trim (line ++ [t.take (max (wd - cur) 1).toNat]) fun p hp => (List.mem_append.mp hp).elim (hl p) fun hp => by rw [List.mem_singleton.mp hp]; exact k1
      simp only
      rw [t1]
      refine ⟨?_, ?_⟩
      · rw [← letters_append, List.flatten_append, List.flatten_append, List.flatten_cons, List.flatten_cons, List.flatten_cons, List.flatten_nil, List.append_nil, List.append_assoc, ← List.append_assoc (t.take _), List.take_append_drop]
      · have e : (line ++ [t.take (max (wd - cur) 1).toNat]).flatten.length = line.flatten.length + (t.take (max (wd - cur) 1).toNat).length := by rw [List.flatten_append, List.length_append]; simp
        have e3 : (t.take (max (wd - cur) 1).toNat).length ≤ (max (wd - cur) 1).toNat := by rw [List.length_take]; omega
        omega
    · obtain ⟨t1, t2⟩ := trim line hl
      simp only
      rw [t1]
      refine ⟨by rw [← letters_append, List.flatten_append], by omega⟩
/-- a line's body -/
def BodyOk (w : Int) (mark b : List Nat) : Prop := (∃ y z, b = y ++ [z] ∧ Unicode.isSpace z = false) ∧ (b.length : Int) ≤ max (w - mark.length) 0 + 1
theorem wrapN_props {w : Int} {fi fr : List Nat} : ∀ (k : Nat) (ps ls out : List (List Nat)), WInv ps ls → wrapN w fi fr k ps ls = some out →
    ∃ bs : List (List Nat), out = ls ++ bs.mapIdx (fun i b => (if ls.length + i = 0 then fi else fr) ++ b) ∧ (∀ i b, bs[i]? = some b → BodyOk w (if ls.length + i = 0 then fi else fr) b) ∧ lettersL bs.flatten = lettersL ps.flatten
  | k, [], ls, out, h1, h => by
    have e : ls = out := by cases k <;> exact Option.some.inj h
    exact ⟨[], by simp [e], fun i b h => by simp at h, rfl⟩
  | 0, p :: ps, ls, out, h1, h => by cases h
  | k + 1, p :: ps, ls, out, h1, h => by
    unfold wrapN at h
    simp only at h
    have hmk : (if ls = [] then fi else fr) = if ls.length + 0 = 0 then fi else fr := by cases ls <;> simp
    obtain ⟨a1, a2⟩ := drop_alt h1
    obtain ⟨l1, l2⟩ := layN_letters (wd := w - (if ls = [] then fi else fr).length) (more := !ls.isEmpty) h1.1 a2
    obtain ⟨e1, e2, e3, e4, e5⟩ := lay_law (room := w - (if ls = [] then fi else fr).length) h1
    obtain ⟨bs, b1, b2, b3⟩ := wrapN_props k _ _ out (lay_inv h1) h
    rw [hmk] at *
    generalize hind : (if ls.length + 0 = 0 then fi else fr) = ind at *
    by_cases q : (layN (w - (ind.length : Int)) (!ls.isEmpty) (p :: ps)).1 = []
    · rw [if_pos q] at b1 b2
      refine ⟨bs, b1, b2, ?_⟩
      rw [b3, ← l1, q]; simp [lettersL]
    · rw [if_neg q] at b1 b2
      refine ⟨(layN (w - (ind.length : Int)) (!ls.isEmpty) (p :: ps)).1.flatten :: bs, ?_, ?_, ?_⟩
      · rw [b1, List.mapIdx_cons, hind, List.append_assoc]
        have : (fun i (b : List Nat) => (if (ls ++ [ind ++ (layN (w - (ind.length : Int)) (!ls.isEmpty) (p :: ps)).1.flatten]).length + i = 0 then fi else fr) ++ b) = fun i b => (if ls.length + (i + 1) = 0 then fi else fr) ++ b := by
          funext i b
          rw [List.length_append, List.length_singleton, show ls.length + 1 + i = ls.length + (i + 1) from by omega]
        rw [this]; rfl
      · intro i b hb
        cases i with
        | zero =>
          rw [List.getElem?_cons_zero] at hb
          cases hb
          rw [hind]
          refine ⟨?_, l2⟩
          rcases List.eq_nil_or_concat (layN (w - (ind.length : Int)) (!ls.isEmpty) (p :: ps)).1 with z | ⟨u, v, z⟩
          · exact absurd z q
          · rw [List.concat_eq_append] at z
            have hv := e3 v (by rw [z]; simp)
            obtain ⟨y, x, hyx⟩ : ∃ y x, v = y ++ [x] := by
              rcases List.eq_nil_or_concat v with h | ⟨y, x, h⟩
              · exact absurd h hv.1
              · exact ⟨y, x, by rw [h, List.concat_eq_append]⟩
            refine ⟨u.flatten ++ y, x, by rw [z, List.flatten_append, hyx]; simp, hv.2 x (by rw [hyx]; simp)⟩
        | succ i =>
          rw [List.getElem?_cons_succ] at hb
          have := b2 i b hb
          rw [List.length_append, List.length_singleton, show ls.length + 1 + i = ls.length + (i + 1) from by omega] at this
          exact this
      · rw [List.flatten_cons, letters_append, b3, l1]

theorem parts_cond {w : Int} {fi l : List Nat} (h : TxtOk l) (hc : 0 ≤ w - (fi.length : Int) ∨ ∃ x r, l = x :: r ∧ x ≠ 32) : WCond w fi (partsL l) [] := by
  rcases hc with hc | ⟨x, r, rfl, hx⟩
  · exact .inr (.inl hc)
  · refine .inr (.inr ?_)
    obtain ⟨g1, g2⟩ := parts_good h
    have hs := partsL_sum (x :: r)
    cases e : partsL (x :: r) with
    | nil => rw [e] at hs; cases hs
    | cons p ps =>
      rw [e] at hs g1
      obtain ⟨p1, p2⟩ := g1 p List.mem_cons_self
      cases p with
      | nil => exact absurd rfl p1
      | cons z zs =>
        rw [List.flatten_cons, List.cons_append] at hs
        have hz : z = x := (List.cons.inj hs).1
        subst hz
        exact ⟨_, _, rfl, by simp, p2.elim (fun q => absurd (q z List.mem_cons_self) hx) id⟩
/-- what is laid, three ways -/
theorem laid_all {w : Int} {fi fr l : List Nat} (oi : okT (plain fi)) (or : okT (plain fr)) (ol : okT (plain l)) (h : TxtOk l) (hc : 0 ≤ w - (fi.length : Int) ∨ l = [] ∨ ∃ x r, l = x :: r ∧ x ≠ 32) {k : Nat} (hk : 2 * l.length ≤ k) :
    ∃ (out : List (List Nat)) (outT : List (List Tk)), wrapN w fi fr k (partsL l) [] = some out ∧ lawF w fi fr k (partsL l) [] = some out ∧ wrapF w (plain fi) (plain fr) k (chunkT (plain l)) [] = some outT ∧ outT.map flatT = out ∧ (∀ c ∈ outT, ∀ t ∈ c, isCh t ∧ t.ok) := by
  have hw := parts_inv h
  have hcond : WCond w fi (partsL l) [] ∨ partsL l = [] := by
    rcases hc with hc | rfl | hc
    · exact .inl (parts_cond h (.inl hc))
    · exact .inr rfl
    · exact .inl (parts_cond h (.inr hc))
  have hsz : szP (partsL l) ≤ k := by have := partsL_len l; unfold szP; rw [partsL_sum]; omega
  obtain ⟨out, ho⟩ : ∃ out, wrapN w fi fr k (partsL l) [] = some out := by
    rcases hcond with hcond | hcond
    · exact wrapN_ends k _ _ hw hcond hsz
    · rw [hcond]; exact ⟨[], by cases k <;> rfl⟩
  have hcm := chunk_plain ol h
  have hch : ∀ c ∈ chunkT (plain l), ∀ t ∈ c, isCh t := fun c hc t ht => plain_ch t (chunk_mem hc ht)
  have hgood : ∀ c ∈ chunkT (plain l), Good c := fun c hc => by
    obtain ⟨g1, g2⟩ := parts_good h
    have hm : signs c ∈ partsL l := by rw [← hcm]; exact List.mem_map_of_mem hc
    obtain ⟨g3, g4⟩ := g1 _ hm
    rcases g4 with g4 | g4
    · left
      intro t ht
      obtain ⟨x, rfl⟩ := hch c hc t ht
      exact ⟨x, rfl, by rw [g4 x (mem_signs.mpr ht)]; exact sp32⟩
    · exact .inr ⟨g3, g4⟩
  have hsim := wrap_sim (w := w) (fi := plain fi) (fr := plain fr) k (chunkT (plain l)) [] hgood (.inl hch)
  rw [signs_plain, signs_plain, hcm, List.map_nil, ho] at hsim
  obtain ⟨outT, hoT, hoe⟩ := Option.map_eq_some_iff.mp hsim
  have hmem := wrap_mem (w := w) (fi := plain fi) (fr := plain fr) (fun t => isCh t ∧ t.ok) (fun t ht => ⟨plain_ch t ht, oi t ht⟩) (fun t ht => ⟨plain_ch t ht, or t ht⟩) k (chunkT (plain l)) [] outT (fun c hc t ht => ⟨hch c hc t ht, ol t (chunk_mem hc ht)⟩) (fun c hc => by cases hc) hoT
  refine ⟨out, outT, ho, by rw [lawF_wrapN k _ _ hw]; exact ho, hoT, ?_, hmem⟩
  rw [← hoe]
  exact List.map_congr_left fun c hc => signs_sub fun t ht => (hmem c hc t ht).1
end Mine
end

section
open PySem PySem.W PySem.Calls PyProof.Rows PySem.Builtin PySem.Builtin.Str
set_option linter.all false
set_option maxRecDepth 100000
namespace Mine
/-! ## paragraphs: the program's and the law's -/
inductive SeqOk : Bool → List (List Nat) → Prop
  | nil {b} : SeqOk b []
  | emp {b r} (h : SeqOk true r) : SeqOk b ([] :: r)
  | raw {r} (k : Nat) (hk : k < 2) (h : SeqOk false r) : SeqOk true ((List.replicate k 32 ++ [8]) :: r)
  | line {b l r} (hl : LineL l) (h : SeqOk false r) : SeqOk b (l :: r)
theorem SeqOk.up {b : Bool} {r : List (List Nat)} (h : SeqOk b r) : SeqOk true r := by
  cases h with
  | nil => exact .nil
  | emp h => exact .emp h
  | raw k hk h => exact .raw k hk h
  | line hl h => exact .line hl h
theorem RowsL.seq {r : List (List Nat)} (h : RowsL r) : ∀ r', SeqOk false r' → SeqOk true (r ++ r') := by
  induction h with
  | nil => exact fun r' h => h.up
  | emp _ ih => intro r' h; rw [List.append_assoc]; exact ih _ (.emp h.up)
  | raw _ k hk ih => intro r' h; rw [List.append_assoc]; exact ih _ (.emp (.raw k hk h))
  | line _ hl ih => intro r' h; rw [List.append_assoc]; exact ih _ (.line hl h)
theorem sgn_sp {x : Nat} (h : sgn x) : x = 32 ∨ (Unicode.isSpace x = false ∧ x ≠ 8 ∧ x ≠ 10) := by
  rcases h with rfl | ⟨h1, h2⟩
  · exact .inl rfl
  · right
    have : x = 97 ∨ x = 98 ∨ x = 99 ∨ x = 100 ∨ x = 101 ∨ x = 102 ∨ x = 103 ∨ x = 104 ∨ x = 105 ∨ x = 106 ∨ x = 107 ∨ x = 108 ∨ x = 109 ∨ x = 110 ∨ x = 111 ∨ x = 112 := by omega
    rcases this with rfl | rfl | rfl | rfl | rfl | rfl | rfl | rfl | rfl | rfl | rfl | rfl | rfl | rfl | rfl | rfl <;> exact ⟨by decide +kernel, by decide, by decide⟩
theorem sgn_nb {x : Nat} (h : sgn x ∨ x = 8) : Unicode.isLineBreak x = false := by
  rcases h with (rfl | ⟨h1, h2⟩) | rfl
  · decide +kernel
  · have : x = 97 ∨ x = 98 ∨ x = 99 ∨ x = 100 ∨ x = 101 ∨ x = 102 ∨ x = 103 ∨ x = 104 ∨ x = 105 ∨ x = 106 ∨ x = 107 ∨ x = 108 ∨ x = 109 ∨ x = 110 ∨ x = 111 ∨ x = 112 := by omega
    rcases this with rfl | rfl | rfl | rfl | rfl | rfl | rfl | rfl | rfl | rfl | rfl | rfl | rfl | rfl | rfl | rfl <;> decide +kernel
  · decide +kernel
theorem sp8 : Unicode.isSpace 8 = false := by decide +kernel
theorem lstripT_plain : ∀ {l : List Nat}, TxtOk l → lstripT (plain l) = plain (lstripL [32].contains l)
  | [], _ => rfl
  | x :: r, h => by
    show lstripT (.ch x :: plain r) = plain (lstripL [32].contains (x :: r))
    unfold lstripT lstripL
    rw [List.dropWhile_cons]
    rcases h x List.mem_cons_self with rfl | hx
    · rw [sp32, if_pos rfl, if_pos (by decide)]
      exact lstripT_plain fun y hy => h y (List.mem_cons_of_mem _ hy)
    · have h32 : x ≠ 32 := fun q => by rw [q, sp32] at hx; cases hx
      rw [hx, if_neg Bool.false_ne_true, if_neg (by simp; exact h32)]; rfl
theorem vis_plain (l : List Nat) : vis (plain l) = l.length := by unfold vis; rw [signs_plain]
theorem joinTk_plain (x : Nat) : ∀ ls : List (List Nat), joinTk x (ls.map plain) = plain (joinL [x] ls)
  | [] => rfl
  | [l] => rfl
  | l :: l2 :: r => by
    show plain l ++ .ch x :: joinTk x ((l2 :: r).map plain) = plain (l ++ [x] ++ joinL [x] (l2 :: r))
    rw [joinTk_plain x (l2 :: r), plain_append, plain_append, List.append_assoc]; rfl
def conv (q : LPar) : Par := (q.1, q.2.1, plain (if q.2.1 = true then joinL [10] q.2.2.tail else joinL [32] q.2.2))
structure HeadL (h : List Nat) : Prop where
  sg : ∀ x ∈ h, sgn x
  hd : ∃ x r, h = x :: r ∧ x ≠ 32
  ln : h.length ≤ 200
def HeadOk (h : List Nat) : Prop := h = [8] ∨ HeadL h
structure QOk (q : LPar) : Prop where
  ind : q.1 ≤ 200
  rows : ∃ h tl, q.2.2 = h :: tl ∧ ((h = [8] ∧ q.2.1 = true) ∨ (HeadL h ∧ q.2.1 = false)) ∧ ∀ y ∈ tl, LineL y
theorem head_flag {h : List Nat} (hh : HeadOk h) : (stripL Unicode.isSpace h == [8]) = decide (h = [8]) ∧ ((h = [8] ∧ decide (h = [8]) = true) ∨ (HeadL h ∧ decide (h = [8]) = false)) := by
  rcases hh with rfl | hh
  · refine ⟨?_, .inl ⟨rfl, rfl⟩⟩
    have : stripL Unicode.isSpace [8] = [8] := by
      unfold stripL rstripL lstripL
      rw [List.dropWhile_cons, sp8]
      show (List.dropWhile _ [8]).reverse = _
      rw [List.dropWhile_cons, sp8]; rfl
    rw [this]; rfl
  · obtain ⟨x, r, e, hx⟩ := hh.hd
    have hs := (sgn_sp (hh.sg x (by rw [e]; simp))).resolve_left hx
    have hne : h ≠ [8] := fun q => by rw [e] at q; exact hs.2.1 (List.cons.inj q).1
    have hst : stripL Unicode.isSpace h ≠ [8] := fun q => by
      have h1 : lstripL Unicode.isSpace h = h := by unfold lstripL; rw [e, List.dropWhile_cons, hs.1, if_neg Bool.false_ne_true]
      unfold stripL at q
      rw [h1] at q
      unfold rstripL at q
      have h2 : ∃ z, h = [8] ++ z := by
        have := List.dropWhile_suffix Unicode.isSpace (l := h.reverse)
        obtain ⟨z, hz⟩ := this
        have h3 : h.reverse.dropWhile Unicode.isSpace = [8] := by rw [← List.reverse_reverse (h.reverse.dropWhile Unicode.isSpace), q]; rfl
        rw [h3] at hz
        exact ⟨z.reverse, by have := congrArg List.reverse hz; rw [List.reverse_reverse, List.reverse_append] at this; exact this.symm⟩
      obtain ⟨z, hz⟩ := h2
      rw [e] at hz
      exact hs.2.1 (List.cons.inj hz).1
    rw [decide_eq_false hne]
    exact ⟨beq_eq_false_iff_ne.mpr hst, .inr ⟨hh, rfl⟩⟩
theorem line_txt {l : List Nat} (h : LineL l) : TxtOk l := fun x hx => (sgn_sp (h.sg x hx)).imp id fun q => q.1
theorem raw_txt (k : Nat) : TxtOk (List.replicate k 32 ++ [8]) := fun x hx => by
  rcases List.mem_append.mp hx with hx | hx
  · exact .inl (List.mem_replicate.mp hx).2
  · rw [List.mem_singleton.mp hx]; exact .inr sp8
theorem lstrip_line {l : List Nat} (h : LineL l) : HeadL (lstripL [32].contains l) := by
  refine ⟨fun x hx => h.sg x ((List.dropWhile_sublist _).subset hx), ?_, Nat.le_trans (lstripL_le _ _) h.ln⟩
  obtain ⟨x, hx, hne⟩ := h.lt
  have gen : ∀ z : List Nat, x ∈ z → ∃ y r, z.dropWhile [32].contains = y :: r ∧ y ≠ 32 := by
    intro z
    induction z with
    | nil => intro q; cases q
    | cons a b ih =>
      intro q
      rw [List.dropWhile_cons]
      by_cases ha : a = 32
      · subst ha
        rw [if_pos (by decide)]
        rcases List.mem_cons.mp q with q | q
        · exact absurd q hne
        · exact ih q
      · rw [if_neg (by simp; exact ha)]
        exact ⟨a, b, rfl, ha⟩
  exact gen l hx
theorem lstrip_raw (k : Nat) : lstripL [32].contains (List.replicate k 32 ++ [8]) = [8] := by
  induction k with
  | zero => rfl
  | succ k ih => rw [List.replicate_succ, List.cons_append]; unfold lstripL at *; rw [List.dropWhile_cons, if_pos (by decide)]; exact ih
def L8 (l : List Nat) : List Nat := (lettersL l).filter fun x => !decide (x = 8)
theorem L8_append (a b : List Nat) : L8 (a ++ b) = L8 a ++ L8 b := by unfold L8; rw [letters_append, List.filter_append]
theorem letters_lstrip (l : List Nat) : lettersL (lstripL [32].contains l) = lettersL l := by
  induction l with
  | nil => rfl
  | cons x r ih =>
    unfold lstripL at ih ⊢
    rw [List.dropWhile_cons]
    by_cases hx : x = 32
    · subst hx
      rw [if_pos (by decide), ih]; rfl
    · rw [if_neg (by simp; exact hx)]
theorem L8_lstrip (l : List Nat) : L8 (lstripL [32].contains l) = L8 l := by unfold L8; rw [letters_lstrip]
def BufL (rows : List (List Nat)) : Prop := ∃ h tl, rows = h :: tl ∧ HeadOk h ∧ ∀ y ∈ tl, LineL y
theorem plain_inj_nil {l : List Nat} : plain l = [] ↔ l = [] := by unfold plain; exact List.map_eq_nil_iff
theorem flush_conv {ind : Nat} {rows : List (List Nat)} (h : BufL rows) : flushP ind (rows.map plain) = [conv (ind, decide (rows.headD [] = [8]), rows)] := by
  obtain ⟨hd, tl, rfl, hh, ht⟩ := h
  obtain ⟨f1, _⟩ := head_flag hh
  show [(ind, stripL Unicode.isSpace (flatT (plain hd)) == [8], if stripL Unicode.isSpace (flatT (plain hd)) = [8] then joinTk 10 (tl.map plain) else joinTk 32 ((hd :: tl).map plain))] = [(ind, decide (hd = [8]), plain (if decide (hd = [8]) = true then joinL [10] tl else joinL [32] (hd :: tl)))]
  rw [flatT_plain, joinTk_plain, joinTk_plain, f1]
  by_cases q : hd = [8]
  · have f2 : stripL Unicode.isSpace hd = [8] := by rw [decide_eq_true q] at f1; exact beq_iff_eq.mp f1
    rw [decide_eq_true q, if_pos f2, if_pos rfl]
  · have f2 : ¬ stripL Unicode.isSpace hd = [8] := by rw [decide_eq_false q] at f1; exact beq_eq_false_iff_ne.mp f1
    rw [decide_eq_false q, if_neg f2, if_neg Bool.false_ne_true]
theorem pars_same : ∀ (ls : List (List Nat)) (ind : Nat) (rows : List (List Nat)) (b : Bool), SeqOk b ls → ((rows = [] ∧ b = true) ∨ (BufL rows ∧ b = false)) → ind ≤ 200 →
    parsGo (ls.map plain) ind (rows.map plain) = (lparsGo (ls ++ [[]]) ind rows).map conv ∧ (∀ q ∈ lparsGo (ls ++ [[]]) ind rows, QOk q) ∧ ((lparsGo (ls ++ [[]]) ind rows).map fun q => L8 q.2.2.flatten).flatten = L8 rows.flatten ++ L8 ls.flatten ∧
    (lparsGo (ls ++ [[]]) ind rows).length ≤ ls.length + 1 ∧ ∀ q ∈ lparsGo (ls ++ [[]]) ind rows, szR q.2.2 ≤ szR rows + szR ls
  | [], ind, rows, b, hs, hr, hi => by
    show parsGo [] ind (rows.map plain) = (lparsGo [[]] ind rows).map conv ∧ _
    have e : lparsGo [[]] ind rows = if rows ≠ [] then [(ind, decide (rows.headD [] = [8]), rows)] else [] := by
      show (if ([] : List Nat) ≠ [] then _ else if rows ≠ [] then _ else _) = _
      rw [if_neg (fun z => z rfl)]; rfl
    rw [List.nil_append, e]
    rcases hr with ⟨rfl, _⟩ | ⟨hr, _⟩
    · rw [if_neg (fun z => z rfl)]
      exact ⟨rfl, fun q hq => (by cases hq), rfl, Nat.zero_le _, fun q hq => by cases hq⟩
    · have hne : rows ≠ [] := by obtain ⟨h, tl, rfl, _⟩ := hr; simp
      rw [if_pos hne]
      refine ⟨flush_conv hr, fun q hq => ?_, ?_, by simp, fun q hq => ?_⟩
      · rw [List.mem_singleton.mp hq]
        obtain ⟨h, tl, rfl, hh, ht⟩ := hr
        exact ⟨hi, h, tl, rfl, (head_flag hh).2, ht⟩
      · simp [L8, lettersL]
      · rw [List.mem_singleton.mp hq]; simp
  | l :: ls, ind, rows, b, hs, hr, hi => by
    have e : lparsGo ((l :: ls) ++ [[]]) ind rows = if l ≠ [] then (if rows = [] then lparsGo (ls ++ [[]]) (l.length - (lstripL [32].contains l).length) [lstripL [32].contains l] else lparsGo (ls ++ [[]]) ind (rows ++ [l]))
      else if rows ≠ [] then (ind, decide (rows.headD [] = [8]), rows) :: lparsGo (ls ++ [[]]) ind [] else lparsGo (ls ++ [[]]) ind rows := rfl
    have e2 : parsGo ((l :: ls).map plain) ind (rows.map plain) = if plain l = [] then flushP ind (rows.map plain) ++ parsGo (ls.map plain) 0 [] else if rows.map plain = [] then parsGo (ls.map plain) (vis (plain l) - vis (lstripT (plain l))) [lstripT (plain l)] else parsGo (ls.map plain) ind (rows.map plain ++ [plain l]) := rfl
    have bufnil : ∀ (i j : Nat) (zs : List (List Tk)), parsGo zs i [] = parsGo zs j [] := by
      intro i j zs
      induction zs generalizing i j with
      | nil => rfl
      | cons z zs ih =>
        unfold parsGo
        split
        · rfl
        · rfl
    have inz : ∀ (i j : Nat) (zs : List (List Nat)), lparsGo zs i [] = lparsGo zs j [] := by
      intro i j zs
      induction zs generalizing i j with
      | nil => rfl
      | cons z zs ih =>
        unfold lparsGo
        split
        · rfl
        · rw [if_neg (fun q => q rfl), if_neg (fun q => q rfl)]; exact ih i j
    -- a line which is not empty
    have step : ∀ (l' : List Nat), l ≠ [] → TxtOk l → l.length ≤ 201 → HeadOk (lstripL [32].contains l) → (rows ≠ [] → LineL l) → SeqOk false ls →
        (parsGo ((l :: ls).map plain) ind (rows.map plain) = (lparsGo ((l :: ls) ++ [[]]) ind rows).map conv ∧ (∀ q ∈ lparsGo ((l :: ls) ++ [[]]) ind rows, QOk q) ∧ ((lparsGo ((l :: ls) ++ [[]]) ind rows).map fun q => L8 q.2.2.flatten).flatten = L8 rows.flatten ++ L8 (l :: ls).flatten ∧
        (lparsGo ((l :: ls) ++ [[]]) ind rows).length ≤ (l :: ls).length + 1 ∧ ∀ q ∈ lparsGo ((l :: ls) ++ [[]]) ind rows, szR q.2.2 ≤ szR rows + szR (l :: ls)) := fun l' hne ht hll hh hline hsf => by
      rw [e, e2, if_pos hne, if_neg (fun z => hne (plain_inj_nil.mp z))]
      by_cases q : rows = []
      · subst q
        rw [if_pos rfl, if_pos (show List.map plain [] = [] from rfl), lstripT_plain ht, vis_plain, vis_plain]
        have hlt : (lstripL [32].contains l).length ≥ 1 := by
          rcases hh with hh | hh
          · rw [hh]; decide
          · obtain ⟨x, r, ex, _⟩ := hh.hd
            rw [ex]; simp
        obtain ⟨p1, p2, p3, p4, p5⟩ := pars_same ls (l.length - (lstripL [32].contains l).length) [lstripL [32].contains l] false hsf (.inr ⟨⟨_, [], rfl, hh, fun _ h => by cases h⟩, rfl⟩) (by have := lstripL_le [32].contains l; omega)
        refine ⟨p1, p2, ?_, by simp only [List.length_cons]; omega, fun q hq => ?_⟩
        · rw [p3]
          simp only [List.flatten_cons, List.flatten_nil, List.append_nil]
          rw [L8_lstrip, L8_append]; rfl
        · have := p5 q hq
          have h3 := lstripL_le [32].contains l
          simp [szR] at this ⊢; omega
      · rw [if_neg q, if_neg (fun z => q (List.map_eq_nil_iff.mp z))]
        have hb : BufL rows := by
          rcases hr with ⟨hr, _⟩ | ⟨hr, _⟩
          · exact absurd hr q
          · exact hr
        have hb2 : BufL (rows ++ [l]) := by
          obtain ⟨h, tl, rfl, h1, h2⟩ := hb
          refine ⟨h, tl ++ [l], rfl, h1, fun y hy => ?_⟩
          rcases List.mem_append.mp hy with hy | hy
          · exact h2 y hy
          · rw [List.mem_singleton.mp hy]; exact hline q
        obtain ⟨p1, p2, p3, p4, p5⟩ := pars_same ls ind (rows ++ [l]) false hsf (.inr ⟨hb2, rfl⟩) hi
        refine ⟨by rw [← p1, List.map_append]; rfl, p2, ?_, by simp only [List.length_cons]; omega, fun q hq => ?_⟩
        · rw [p3]
          simp only [List.flatten_append, List.flatten_cons, List.flatten_nil, List.append_nil]
          rw [L8_append, L8_append, List.append_assoc]
        · have := p5 q hq
          rw [szR_append, szR_cons] at this; rw [szR_cons]; simp [szR] at this ⊢; omega
    cases hs with
    | @emp _ r hs =>
      rw [e, e2, if_pos (show plain [] = [] from rfl), if_neg (fun z : ([] : List Nat) ≠ [] => z rfl)]
      obtain ⟨p1, p2, p3, p4, p5⟩ := pars_same ls ind [] true hs (.inl ⟨rfl, rfl⟩) hi
      by_cases q : rows = []
      · subst q
        rw [if_neg (fun z => z rfl)]
        refine ⟨?_, p2, by rw [p3]; simp, by simp only [List.length_cons]; omega, fun q hq => by have := p5 q hq; rw [szR_cons]; omega⟩
        rw [← p1]
        show [] ++ parsGo (ls.map plain) 0 [] = parsGo (ls.map plain) ind []
        rw [List.nil_append]; exact bufnil _ _ _
      · have hb : BufL rows := by
          rcases hr with ⟨hr, _⟩ | ⟨hr, _⟩
          · exact absurd hr q
          · exact hr
        rw [if_pos q, flush_conv hb]
        refine ⟨?_, ?_, ?_, ?_, ?_⟩
        · rw [List.map_cons, ← p1, List.singleton_append]
          congr 1
          exact bufnil _ _ _
        · intro z hz
          rcases List.mem_cons.mp hz with rfl | hz
          · obtain ⟨h, tl, rfl, hh, ht⟩ := hb
            exact ⟨hi, h, tl, rfl, (head_flag hh).2, ht⟩
          · exact p2 z hz
        · rw [List.map_cons, List.flatten_cons, p3]; simp [L8, lettersL]
        · rw [List.length_cons, List.length_cons]; omega
        · intro z hz
          rcases List.mem_cons.mp hz with rfl | hz
          · show szR rows ≤ _; omega
          · have := p5 z hz; rw [szR_cons]; simp [szR] at this ⊢; omega
    | @raw r k hk hs =>
      refine step [] (by simp) (raw_txt k) (by simp; omega) (by rw [lstrip_raw]; exact .inl rfl) (fun q => ?_) hs
      rcases hr with ⟨hr, _⟩ | ⟨_, hr⟩
      · exact absurd hr q
      · cases hr
    | @line _ _ r hl hs =>
      have hne : l ≠ [] := by obtain ⟨x, hx, _⟩ := hl.lt; intro q; rw [q] at hx; cases hx
      exact step [] hne (line_txt hl) (by have := hl.ln; omega) (.inr (lstrip_line hl)) (fun _ => hl) hs
end Mine
end

section
open PySem PySem.W PySem.Calls PyProof.Rows PySem.Builtin PySem.Builtin.Str
set_option linter.all false
set_option maxRecDepth 100000
namespace Mine
theorem splitG_run10 : ∀ (l r cur : List Nat), 10 ∉ l → splitG [10] (l ++ r) cur 0 = splitG [10] r (cur ++ l) 0
  | [], r, cur, _ => by simp
  | x :: l, r, cur, h => by
    have hx : x ≠ 10 := fun q => h (by simp [q])
    rw [List.cons_append]
    conv => lhs; unfold splitG
    have : ([10] : List Nat).isPrefixOf (x :: (l ++ r)) = false := by simp [List.isPrefixOf]; exact fun q => hx q.symm
    rw [this, if_neg Bool.false_ne_true, splitG_run10 l r _ fun q => h (List.mem_cons_of_mem _ q)]
    simp
theorem split_join : ∀ (rows : List (List Nat)), rows ≠ [] → (∀ l ∈ rows, 10 ∉ l) → splitL [10] (joinL [10] rows) = rows
  | [], h, _ => absurd rfl h
  | [l], _, h => by
    show splitG [10] l [] 0 = [l]
    have := splitG_run10 l [] [] (h l (by simp))
    rw [List.append_nil] at this
    rw [this]; rfl
  | l :: l2 :: r, _, h => by
    show splitG [10] (l ++ [10] ++ joinL [10] (l2 :: r)) [] 0 = _
    rw [List.append_assoc, splitG_run10 l _ [] (h l (by simp)), List.singleton_append]
    conv => lhs; unfold splitG
    have : ([10] : List Nat).isPrefixOf (10 :: joinL [10] (l2 :: r)) = true := by simp [List.isPrefixOf]
    rw [this, if_pos rfl]
    have ih := split_join (l2 :: r) (by simp) fun y hy => h y (List.mem_cons_of_mem _ hy)
    unfold splitL at ih
    show ([] ++ l) :: splitG [10] (joinL [10] (l2 :: r)) [] 0 = _
    rw [ih]; rfl
def dropE : List (List Nat) → List (List Nat)
  | [] => []
  | [l] => if l = [] then [] else [l]
  | l :: l2 :: r => l :: dropE (l2 :: r)
theorem linesTG_run : ∀ (l : List Nat) (r cur : List Tk), (∀ x ∈ l, Unicode.isLineBreak x = false) → linesTG (plain l ++ r) cur = linesTG r (cur ++ plain l)
  | [], r, cur, _ => by simp [plain]
  | x :: l, r, cur, h => by
    show linesTG (.ch x :: (plain l ++ r)) cur = _
    conv => lhs; unfold linesTG
    rw [h x List.mem_cons_self, if_neg Bool.false_ne_true, linesTG_run l r _ fun y hy => h y (List.mem_cons_of_mem _ hy)]
    simp [plain]
theorem lines_join : ∀ (rows : List (List Nat)), (∀ l ∈ rows, ∀ x ∈ l, Unicode.isLineBreak x = false) → linesT (plain (joinL [10] rows)) = (dropE rows).map plain
  | [], h => rfl
  | [l], h => by
    show linesTG (plain l) [] = (if l = [] then [] else [l]).map plain
    have := linesTG_run l [] [] (h l (by simp))
    rw [List.append_nil] at this
    rw [this]
    show (if [] ++ plain l = [] then [] else [[] ++ plain l]) = _
    rw [List.nil_append]
    by_cases q : l = []
    · subst q; rfl
    · rw [if_neg q, if_neg (fun z => q (plain_inj_nil.mp z))]; rfl
  | l :: l2 :: r, h => by
    show linesTG (plain (l ++ [10] ++ joinL [10] (l2 :: r))) [] = _
    rw [List.append_assoc, plain_append, linesTG_run l _ [] (h l (by simp)), List.nil_append, List.singleton_append]
    show linesTG (.ch 10 :: plain (joinL [10] (l2 :: r))) (plain l) = _
    conv => lhs; unfold linesTG
    rw [show Unicode.isLineBreak 10 = true from by decide +kernel, if_pos rfl]
    have ih := lines_join (l2 :: r) fun y hy => h y (List.mem_cons_of_mem _ hy)
    unfold linesT at ih
    rw [ih]; rfl
theorem pars_dropE : ∀ (rows : List (List Nat)) (ind : Nat) (buf : List (List Tk)), parsGo ((dropE rows).map plain) ind buf = parsGo (rows.map plain) ind buf
  | [], ind, buf => rfl
  | [l], ind, buf => by
    unfold dropE
    by_cases q : l = []
    · subst q
      rw [if_pos rfl]
      show flushP ind buf = flushP ind buf ++ []
      rw [List.append_nil]
    · rw [if_neg q]
  | l :: l2 :: r, ind, buf => by
    show parsGo (plain l :: (dropE (l2 :: r)).map plain) ind buf = parsGo (plain l :: (l2 :: r).map plain) ind buf
    conv => lhs; unfold parsGo
    conv => rhs; unfold parsGo
    rw [pars_dropE, pars_dropE, pars_dropE]
theorem dropE_id : ∀ {rows : List (List Nat)}, (∀ l ∈ rows, l ≠ []) → dropE rows = rows
  | [], _ => rfl
  | [l], h => by unfold dropE; rw [if_neg (h l (by simp))]
  | l :: l2 :: r, h => by unfold dropE; rw [dropE_id fun y hy => h y (List.mem_cons_of_mem _ hy)]
def RowC (l : List Nat) : Prop := ∀ x ∈ l, sgn x ∨ x = 8
theorem RowsL.chars {rows : List (List Nat)} (h : RowsL rows) : ∀ l ∈ rows, RowC l := by
  induction h with
  | nil => exact fun l h => by cases h
  | emp _ ih =>
    intro l hl
    rcases List.mem_append.mp hl with hl | hl
    · exact ih l hl
    · rw [List.mem_singleton.mp hl]; exact fun x h => by cases h
  | raw _ k hk ih =>
    intro l hl
    rcases List.mem_append.mp hl with hl | hl
    · exact ih l hl
    · simp only [List.mem_cons, List.not_mem_nil, or_false] at hl
      rcases hl with rfl | rfl
      · exact fun x h => by cases h
      · intro x hx
        rcases List.mem_append.mp hx with hx | hx
        · exact .inl (.inl (List.mem_replicate.mp hx).2)
        · exact .inr (List.mem_singleton.mp hx)
  | line _ hl ih =>
    intro l h
    rcases List.mem_append.mp h with h | h
    · exact ih l h
    · rw [List.mem_singleton.mp h]; exact fun x hx => .inl (hl.sg x hx)
theorem rowc_ok {x : Nat} (h : sgn x ∨ x = 8) : (Tk.ch x).ok := by
  rcases h with (rfl | ⟨h1, h2⟩) | rfl
  · exact ok32
  · exact ⟨by omega, by omega, by omega, by omega⟩
  · exact ⟨by decide, by decide, by decide, by decide⟩
theorem joinL_ok {x : Nat} (hx : (Tk.ch x).ok) {rows : List (List Nat)} (h : ∀ l ∈ rows, okT (plain l)) : okT (plain (joinL [x] rows)) := by
  rw [← joinTk_plain]
  exact joinTk_ok hx fun l hl => by obtain ⟨y, hy, rfl⟩ := List.mem_map.mp hl; exact h y hy
theorem rowc_plain {l : List Nat} (h : RowC l) : okT (plain l) := plain_ok fun x hx => rowc_ok (h x hx)
theorem joinSize_szR (x : Nat) (rows : List (List Nat)) : joinSize [x] rows = szR rows := rfl
theorem szR_le {B : Nat} : ∀ {rows : List (List Nat)}, (∀ y ∈ rows, y.length ≤ B) → szR rows ≤ rows.length * (B + 1)
  | [], _ => Nat.zero_le _
  | l :: r, h => by
    rw [szR_cons, List.length_cons, Nat.add_mul]
    have h1 := h l List.mem_cons_self
    have h2 := szR_le fun y hy => h y (List.mem_cons_of_mem _ hy)
    omega
structure TextOk (t : List Nat) : Prop where
  ok : okT (plain t)
  ln : t.length ≤ 1700
  pars : parsT (plain t) = (lparsL t).map conv
  q : ∀ q ∈ lparsL t, QOk q ∧ szR q.2.2 ≤ 1700
  pl : (lparsL t).length ≤ 9
  let8 : ((lparsL t).map fun q => L8 q.2.2.flatten).flatten = L8 t
  sz : szR (splitL [10] t) ≤ 1700
theorem joinL_flat {sep : List Nat} (hs : lettersL sep = []) : ∀ ls : List (List Nat), lettersL (joinL sep ls) = lettersL ls.flatten
  | [] => rfl
  | [l] => by simp [joinL]
  | l :: l2 :: r => by
    show lettersL (l ++ sep ++ joinL sep (l2 :: r)) = _
    rw [letters_append, letters_append, hs, List.append_nil, joinL_flat hs (l2 :: r)]
    show _ = lettersL (l ++ (l2 :: r).flatten)
    rw [letters_append]
theorem text_ok {rows : List (List Nat)} (h : RowsL rows) (hne : rows ≠ []) (hl : rows.length ≤ 8) (hy : ∀ y ∈ rows, y.length ≤ 200) : TextOk (joinL [10] rows) := by
  have hc := h.chars
  have hs := h.seq [] .nil
  rw [List.append_nil] at hs
  have h10 : ∀ l ∈ rows, 10 ∉ l := fun l hl q => by
    rcases hc l hl 10 q with (q | ⟨q, _⟩) | q
    · cases q
    · omega
    · cases q
  have hsz := szR_le hy
  have hsz2 : szR rows ≤ 1608 := by
    have : rows.length * (200 + 1) ≤ 8 * 201 := Nat.mul_le_mul_right _ hl
    omega
  have hjl := joinL_length [10] rows
  rw [joinSize_szR] at hjl
  obtain ⟨p1, p2, p3, p4, p5⟩ := pars_same rows 0 [] true hs (.inl ⟨rfl, rfl⟩) (by omega)
  have hsp := split_join rows hne h10
  have e : lparsL (joinL [10] rows) = lparsGo (rows ++ [[]]) 0 [] := by unfold lparsL; rw [hsp]
  refine ⟨joinL_ok ok10 fun l hl => rowc_plain (hc l hl), by omega, ?_, ?_, ?_, ?_, ?_⟩
  · rw [e, ← p1]
    unfold parsT
    rw [lines_join rows fun l hl x hx => sgn_nb (hc l hl x hx), pars_dropE]; rfl
  · rw [e]; exact fun q hq => ⟨p2 q hq, by have := p5 q hq; simp [szR] at this hsz2 ⊢; omega⟩
  · rw [e]; omega
  · rw [e, p3]
    show [] ++ _ = _
    rw [List.nil_append]; unfold L8; rw [joinL_flat (by decide)]
  · rw [hsp]; omega
theorem lettersOf_len (l : List Nat) : (lettersL l).length ≤ l.length := List.length_filter_le _ _
theorem mapIdx_letters (f : Nat → List Nat) (hf : ∀ i, lettersL (f i) = []) : ∀ (bs : List (List Nat)), lettersL (bs.mapIdx fun i b => f i ++ b).flatten = lettersL bs.flatten := by
  intro bs
  induction bs generalizing f with
  | nil => rfl
  | cons b r ih =>
    rw [List.mapIdx_cons, List.flatten_cons, List.flatten_cons, letters_append, letters_append, letters_append, hf 0, List.nil_append]
    congr 1
    exact ih (fun i => f (i + 1)) fun i => hf (i + 1)
theorem bodies_count : ∀ {bs : List (List Nat)}, (∀ b ∈ bs, ∃ y z, b = y ++ [z] ∧ Unicode.isSpace z = false) → bs.length ≤ (lettersL bs.flatten).length
  | [], _ => Nat.zero_le _
  | b :: r, h => by
    rw [List.flatten_cons, letters_append, List.length_append, List.length_cons]
    have := bodies_count fun c hc => h c (List.mem_cons_of_mem _ hc)
    obtain ⟨y, z, rfl, hz⟩ := h b List.mem_cons_self
    have hz1 : lettersL [z] = [z] := by
      unfold lettersL
      have h1 : z ≠ 32 := fun q => by rw [q, sp32] at hz; cases hz
      have h2 : z ≠ 10 := fun q => by rw [q, show Unicode.isSpace 10 = true from by decide +kernel] at hz; cases hz
      simp [h1, h2]
    rw [letters_append, List.length_append, hz1, List.length_singleton]; omega
theorem joinSize_le {B : Nat} {sep : List Nat} {ls : List (List Nat)} (h : ∀ y ∈ ls, y.length ≤ B) : joinSize sep ls ≤ ls.length * (B + sep.length) := by
  induction ls with
  | nil => exact Nat.zero_le _
  | cons a r ih =>
    have h1 := h a List.mem_cons_self
    have h2 := ih fun y hy => h y (List.mem_cons_of_mem _ hy)
    have e : joinSize sep (a :: r) = a.length + sep.length + joinSize sep r := by simp [joinSize]
    rw [e, List.length_cons, Nat.add_mul]; omega
theorem no8_line {l : List Nat} (h : ∀ x ∈ l, sgn x) : L8 l = lettersL l := by
  unfold L8
  refine List.filter_eq_self.mpr fun x hx => ?_
  have hx := h x (List.mem_filter.mp hx).1
  have : x ≠ 8 := by rcases hx with rfl | ⟨h1, _⟩ <;> omega
  simp [this]
theorem flatten_sgn {ls : List (List Nat)} (h : ∀ l ∈ ls, ∀ x ∈ l, sgn x) : ∀ x ∈ ls.flatten, sgn x := fun x hx => by
  obtain ⟨l, hl, hx⟩ := List.mem_flatten.mp hx
  exact h l hl x hx
theorem joinL_mem {sep : List Nat} {P : Nat → Prop} (hs : ∀ x ∈ sep, P x) : ∀ {ls : List (List Nat)}, (∀ l ∈ ls, ∀ x ∈ l, P x) → ∀ x ∈ joinL sep ls, P x
  | [], _ => fun x hx => by cases hx
  | [l], h => h l (by simp)
  | l :: l2 :: r, h => fun x hx => by
    have hx : x ∈ l ++ sep ++ joinL sep (l2 :: r) := hx
    rcases List.mem_append.mp hx with hx | hx
    · rcases List.mem_append.mp hx with hx | hx
      · exact h l (by simp) x hx
      · exact hs x hx
    · exact joinL_mem hs (fun y hy => h y (List.mem_cons_of_mem _ hy)) x hx
theorem rep_letters (k : Nat) : lettersL (List.replicate k 32) = [] := letters_blk fun x hx => (List.mem_replicate.mp hx).2
/-- one paragraph, laid by both alike -/
theorem par_res {w : Int} {fi fr : List Nat} {q : LPar} (hw : 0 < w) (hw2 : w ≤ 100) (oi : okT (plain fi)) (or : okT (plain fr)) (li : fi.length ≤ 10) (lr : fr.length ≤ 10) (h : QOk q) (hz : szR q.2.2 ≤ 1700) :
    ∃ x, LRes w fi fr q x ∧ ParRes w (plain fi) (plain fr) (conv q) x ∧ x.length ≤ 800000 ∧ (fi = [] → fr = [] → lettersL x = L8 q.2.2.flatten) := by
  obtain ⟨hi, hd, tl, hrows, hk, ht⟩ := h
  obtain ⟨ind, kept, rows⟩ := q
  have hrows : rows = hd :: tl := hrows
  subst hrows
  have hz : szR (hd :: tl) ≤ 1700 := hz
  rw [szR_cons] at hz
  have hi : ind ≤ 200 := hi
  have htn : ∀ l ∈ tl, l ≠ [] := fun l hl q => by obtain ⟨x, hx, _⟩ := (ht l hl).lt; rw [q] at hx; cases hx
  have hts : ∀ x ∈ tl.flatten, sgn x := flatten_sgn fun l hl => (ht l hl).sg
  have tlen := szR_len tl
  rcases hk with ⟨rfl, hk⟩ | ⟨hh, hk⟩
  · have hk : kept = true := hk
    subst hk
    have hlen : ∀ y ∈ (tl.mapIdx fun i y => (if i = 0 then fi else fr) ++ List.replicate ind 32 ++ y), y.length ≤ 420 := by
      intro y hy
      obtain ⟨i, hi2, rfl⟩ := List.mem_mapIdx.mp hy
      have := (ht _ (List.getElem_mem hi2)).ln
      split <;> simp <;> omega
    have hjs := joinSize_le (sep := [10]) hlen
    rw [List.length_mapIdx] at hjs
    have hb : joinSize [10] (tl.mapIdx fun i y => (if i = 0 then fi else fr) ++ List.replicate ind 32 ++ y) ≤ 715700 := by
      have : tl.length * (420 + [10].length) ≤ 1700 * 421 := Nat.mul_le_mul (by omega) (Nat.le_refl _)
      omega
    refine ⟨joinL [10] (tl.mapIdx fun i y => (if i = 0 then fi else fr) ++ List.replicate ind 32 ++ y), ?_, ?_, ?_, ?_⟩
    · unfold LRes
      rw [if_pos rfl]
      exact ⟨Nat.le_trans hb (by omega), rfl⟩
    · show ParRes w (plain fi) (plain fr) (ind, true, plain (joinL [10] tl)) _
      unfold ParRes
      rw [if_pos rfl]
      have e1 : linesL (flatT (plain (joinL [10] tl))) = tl := by
        have h1 := lines_join tl fun l hl x hx => sgn_nb (.inl ((ht l hl).sg x hx))
        have h2 := linesT_flat (ts := plain (joinL [10] tl)) (joinL_ok ok10 fun l hl => rowc_plain fun x hx => .inl ((ht l hl).sg x hx))
        rw [← h2, h1, dropE_id htn, List.map_map]
        have : (flatT ∘ plain) = _root_.id := by funext l; exact flatT_plain l
        rw [this, List.map_id]
      have e2 : (fun i (y : List Nat) => (if i = 0 then flatT (plain fi) ++ List.replicate ind 32 else flatT (plain fr) ++ List.replicate ind 32) ++ y) = fun i y => (if i = 0 then fi else fr) ++ List.replicate ind 32 ++ y := by
        funext i y
        rw [flatT_plain, flatT_plain]
        split <;> rfl
      show joinSize [10] ((linesL (flatT (plain (joinL [10] tl)))).mapIdx fun i y => (if i = 0 then flatT (plain fi) ++ List.replicate ind 32 else flatT (plain fr) ++ List.replicate ind 32) ++ y) ≤ _ ∧ _ = joinL [10] ((linesL (flatT (plain (joinL [10] tl)))).mapIdx fun i y => (if i = 0 then flatT (plain fi) ++ List.replicate ind 32 else flatT (plain fr) ++ List.replicate ind 32) ++ y)
      rw [e1, e2]
      exact ⟨by omega, rfl⟩
    · have := joinL_length [10] (tl.mapIdx fun i y => (if i = 0 then fi else fr) ++ List.replicate ind 32 ++ y); omega
    · rintro rfl rfl
      rw [joinL_flat (by decide)]
      have e3 : (fun i (y : List Nat) => (if i = 0 then ([] : List Nat) else []) ++ List.replicate ind 32 ++ y) = fun i y => (fun _ : Nat => List.replicate ind 32) i ++ y := by
        funext i y
        split <;> rfl
      rw [e3, mapIdx_letters _ (fun i => rep_letters ind)]
      show _ = L8 ([8] :: tl).flatten
      rw [List.flatten_cons, L8_append, no8_line hts]; rfl
  · have hk : kept = false := hk
    subst hk
    obtain ⟨x0, r0, hx0, hne0⟩ := hh.hd
    have hall : ∀ l ∈ hd :: tl, ∀ x ∈ l, sgn x := fun l hl => (List.mem_cons.mp hl).elim (fun e => e ▸ hh.sg) fun hl => (ht l hl).sg
    have hbody : ∀ x ∈ joinL [32] (hd :: tl), sgn x := joinL_mem (fun x hx => .inl (List.mem_singleton.mp hx)) hall
    have hbl : (joinL [32] (hd :: tl)).length ≤ 1700 := by
      have := joinL_length [32] (hd :: tl)
      rw [joinSize_szR, szR_cons] at this; omega
    have hhead : ∃ x r, joinL [32] (hd :: tl) = x :: r ∧ x ≠ 32 := by
      cases tl with
      | nil => exact ⟨x0, r0, hx0, hne0⟩
      | cons a b => exact ⟨x0, r0 ++ [32] ++ joinL [32] (a :: b), by show hd ++ [32] ++ joinL [32] (a :: b) = _; rw [hx0]; simp, hne0⟩
    have rk : okT (plain (List.replicate ind 32)) := plain_ok fun x hx => by rw [(List.mem_replicate.mp hx).2]; exact ok32
    have hTx : TxtOk (joinL [32] (hd :: tl)) := fun x hx => (sgn_sp (hbody x hx)).imp id fun q => q.1
    obtain ⟨out, outT, o1, o2, o3, o4, _⟩ := laid_all (w := w) (fi := fi ++ List.replicate ind 32) (fr := fr ++ List.replicate ind 32) (l := joinL [32] (hd :: tl)) (k := 100000) (by rw [plain_append]; exact okT_append.mpr ⟨oi, rk⟩) (by rw [plain_append]; exact okT_append.mpr ⟨or, rk⟩) (rowc_plain fun x hx => .inl (hbody x hx)) hTx (.inr (.inr hhead)) (by omega)
    obtain ⟨bs, b1, b2, b3⟩ := wrapN_props _ _ _ _ (parts_inv hTx) o1
    rw [List.nil_append] at b1
    have hcnt : bs.length ≤ 1700 := by
      have h1 := bodies_count fun b hb => by
        obtain ⟨i, hi2, e⟩ := List.getElem_of_mem hb
        exact (b2 i b (by rw [← e]; exact List.getElem?_eq_getElem hi2)).1
      rw [b3, partsL_sum] at h1
      have := lettersOf_len (joinL [32] (hd :: tl)); omega
    have hlen : ∀ y ∈ out, y.length ≤ 320 := by
      intro y hy
      rw [b1] at hy
      obtain ⟨i, hi2, rfl⟩ := List.mem_mapIdx.mp hy
      have := (b2 i _ (List.getElem?_eq_getElem hi2)).2
      rw [List.length_append]
      simp only [List.length_nil, Nat.zero_add] at this ⊢
      split at this <;> simp only [List.length_append, List.length_replicate] at this <;> split <;> simp_all <;> omega
    have hjs := joinSize_le (sep := [10]) hlen
    have hol : out.length ≤ 1700 := by rw [b1, List.length_mapIdx]; exact hcnt
    have hb : joinSize [10] out ≤ 545700 := by
      have : out.length * (320 + [10].length) ≤ 1700 * 321 := Nat.mul_le_mul hol (Nat.le_refl _)
      omega
    refine ⟨joinL [10] out, ?_, ?_, ?_, ?_⟩
    · unfold LRes
      rw [if_neg Bool.false_ne_true]
      exact ⟨100000, out, by omega, o2, by omega, rfl⟩
    · show ParRes w (plain fi) (plain fr) (ind, false, plain (joinL [32] (hd :: tl))) _
      unfold ParRes
      rw [if_neg Bool.false_ne_true]
      refine ⟨100000, outT, Nat.le_refl _, ?_, by rw [o4]; omega, by rw [o4]⟩
      rw [plain_append, plain_append] at o3
      exact o3
    · have := joinL_length [10] out; omega
    · rintro rfl rfl
      rw [joinL_flat (by decide), b1]
      have e3 : (fun i (b : List Nat) => (if ([] : List (List Nat)).length + i = 0 then ([] ++ List.replicate ind 32 : List Nat) else [] ++ List.replicate ind 32) ++ b) = fun i b => (fun _ : Nat => List.replicate ind 32) i ++ b := by
        funext i b
        split <;> rfl
      rw [e3, mapIdx_letters _ (fun i => rep_letters ind), b3, partsL_sum, joinL_flat (by decide)]
      exact (no8_line (flatten_sgn hall)).symm
end Mine
end

section
open PySem PySem.W PySem.Calls PyProof.Rows PySem.Builtin PySem.Builtin.Str
set_option linter.all false
set_option maxRecDepth 100000
namespace Mine
theorem pars_res {w : Int} {fi fr : List Nat} (hw : 0 < w) (hw2 : w ≤ 100) (oi : okT (plain fi)) (or : okT (plain fr)) (li : fi.length ≤ 10) (lr : fr.length ≤ 10) : ∀ (qs : List LPar), (∀ q ∈ qs, QOk q ∧ szR q.2.2 ≤ 1700) →
    ∃ res, F2 (LRes w fi fr) qs res ∧ F2 (ParRes w (plain fi) (plain fr)) (qs.map conv) res ∧ (∀ x ∈ res, x.length ≤ 800000) ∧ (fi = [] → fr = [] → lettersL res.flatten = (qs.map fun q => L8 q.2.2.flatten).flatten)
  | [], _ => ⟨[], .nil, .nil, fun _ h => (by cases h), fun _ _ => rfl⟩
  | q :: qs, h => by
    obtain ⟨h1, h2⟩ := h q List.mem_cons_self
    obtain ⟨x, x1, x2, x3, x4⟩ := par_res hw hw2 oi or li lr h1 h2
    obtain ⟨res, r1, r2, r3, r4⟩ := pars_res hw hw2 oi or li lr qs fun q hq => h q (List.mem_cons_of_mem _ hq)
    refine ⟨x :: res, .cons x1 r1, .cons x2 r2, fun y hy => ?_, fun e1 e2 => ?_⟩
    · rcases List.mem_cons.mp hy with rfl | hy
      · exact x3
      · exact r3 y hy
    · rw [List.flatten_cons, letters_append, x4 e1 e2, r4 e1 e2]; rfl
theorem text_res {w : Int} {fi fr t : List Nat} (hw : 0 < w) (hw2 : w ≤ 100) (oi : okT (plain fi)) (or : okT (plain fr)) (li : fi.length ≤ 10) (lr : fr.length ≤ 10) (h : TextOk t) :
    ∃ res, F2 (LRes w fi fr) (lparsL t) res ∧ F2 (ParRes w (plain fi) (plain fr)) (parsT (plain t)) res ∧ joinSize [10, 10] res ≤ 16000000 ∧ (fi = [] → fr = [] → lettersL (joinL [10, 10] res) = L8 t) := by
  obtain ⟨res, r1, r2, r3, r4⟩ := pars_res hw hw2 oi or li lr (lparsL t) h.q
  refine ⟨res, r1, by rw [h.pars]; exact r2, ?_, fun e1 e2 => ?_⟩
  · have hl : res.length ≤ 9 := by rw [← r1.len]; exact h.pl
    have hj := joinSize_le (sep := [10, 10]) r3
    have : res.length * (800000 + [10, 10].length) ≤ 9 * 800002 := Nat.mul_le_mul_right _ hl
    omega
  · rw [joinL_flat (by decide), r4 e1 e2, h.let8]
/-! ## told to look otherwise -/
theorem parts_alt2 {l : List Nat} : (∀ p ∈ partsL l, p ≠ [] ∧ ∀ x ∈ p, decide (x = 32) = decide (p.headD 0 = 32)) ∧ ∀ i a b, (partsL l)[i]? = some a → (partsL l)[i + 1]? = some b → decide (a.headD 0 = 32) ≠ decide (b.headD 0 = 32) := by
  induction l using snocInd with
  | h0 => exact ⟨fun p hp => (by cases hp), fun i a b h => by simp [partsL] at h⟩
  | h1 l x ih =>
    obtain ⟨i1, i2⟩ := ih
    rw [partsL_snoc]
    rcases List.eq_nil_or_concat (partsL l) with e | ⟨ini, p, e⟩
    · rw [e]
      show (∀ p ∈ [[x]], _) ∧ ∀ i a b, [[x]][i]? = some a → [[x]][i + 1]? = some b → _
      exact ⟨fun p hp => by rw [List.mem_singleton.mp hp]; exact ⟨by simp, fun y hy => by rw [List.mem_singleton.mp hy]; rfl⟩, fun i a b h1 h2 => by simp at h2⟩
    · rw [List.concat_eq_append] at e
      rw [e] at i1 i2 ⊢
      obtain ⟨hp1, hp2⟩ := i1 p (by simp)
      cases p with
      | nil => exact absurd rfl hp1
      | cons z zs =>
        have e3 : partStep (ini ++ [z :: zs]) x = if decide (z = 32) = decide (x = 32) then ini ++ [(z :: zs) ++ [x]] else (ini ++ [z :: zs]) ++ [[x]] := by
          unfold partStep; rw [List.getLast?_concat]; simp only [List.dropLast_concat]
        rw [e3]
        have last : ∀ (zs : List (List Nat)) (u : List Nat) (i : Nat) (b : List Nat), (zs ++ [u])[i + 1]? = some b → (i + 1 < zs.length ∧ zs[i + 1]? = some b) ∨ (i + 1 = zs.length ∧ b = u) := by
          intro zs u i b h
          by_cases hi : i + 1 < zs.length
          · exact .inl ⟨hi, by rw [List.getElem?_append_left hi] at h; exact h⟩
          · have hl2 := (List.getElem?_eq_some_iff.mp h).1
            rw [List.length_append, List.length_singleton] at hl2
            have ei : i + 1 = zs.length := by omega
            rw [ei, List.getElem?_append_right (Nat.le_refl _), Nat.sub_self] at h
            cases h
            exact .inr ⟨ei, rfl⟩
        by_cases q : decide (z = 32) = decide (x = 32)
        · rw [if_pos q]
          refine ⟨fun p hp => ?_, fun i a b ha hb => ?_⟩
          · rcases List.mem_append.mp hp with hp | hp
            · exact i1 p (List.mem_append_left _ hp)
            · rw [List.mem_singleton.mp hp]
              refine ⟨by simp, fun y hy => ?_⟩
              show _ = decide (z = 32)
              rcases List.mem_append.mp hy with hy | hy
              · exact hp2 y hy
              · rw [List.mem_singleton.mp hy]; exact q.symm
          · rcases last _ _ _ _ hb with ⟨h1, h2⟩ | ⟨h1, rfl⟩
            · exact i2 i a b (by rw [List.getElem?_append_left (by omega)] at ha ⊢; exact ha) (by rw [List.getElem?_append_left h1]; exact h2)
            · have := i2 i a (z :: zs) (by rw [List.getElem?_append_left (by omega)] at ha ⊢; exact ha) (by rw [h1, List.getElem?_append_right (Nat.le_refl _), Nat.sub_self]; rfl)
              exact this
        · rw [if_neg q]
          refine ⟨fun p hp => ?_, fun i a b ha hb => ?_⟩
          · rcases List.mem_append.mp hp with hp | hp
            · exact i1 p hp
            · rw [List.mem_singleton.mp hp]; exact ⟨by simp, fun y hy => by rw [List.mem_singleton.mp hy]; rfl⟩
          · rcases last _ _ _ _ hb with ⟨h1, h2⟩ | ⟨h1, rfl⟩
            · exact i2 i a b (by rw [List.getElem?_append_left (by omega)] at ha; exact ha) h2
            · rw [List.getElem?_append_left (by omega)] at ha
              rw [List.length_append, List.length_singleton] at h1
              have : i = ini.length := by omega
              rw [this, List.getElem?_append_right (Nat.le_refl _), Nat.sub_self] at ha
              cases ha
              exact q
theorem foldl_same {a : List (List Tk)} {y : Tk} {ys : List Tk} : ∀ (g : List Tk), (∀ t ∈ g, t.b = y.b) → List.foldl chunkTS (a ++ [y :: ys]) g = a ++ [(y :: ys) ++ g]
  | [], _ => by simp
  | t :: g, h => by
    rw [List.foldl_cons]
    have e : chunkTS (a ++ [y :: ys]) t = a ++ [y :: (ys ++ [t])] := by
      unfold chunkTS
      simp [h t List.mem_cons_self]
    rw [e, foldl_same g fun z hz => h z (List.mem_cons_of_mem _ hz)]
    simp
/-- groups that differ from neighbour to neighbour are the chunks -/
def Grp (g : List Tk) (b : Bool) : Prop := g ≠ [] ∧ ∀ t ∈ g, t.b = b
theorem chunk_groups : ∀ (gs : List (List Tk)) (bs : List Bool), F2 Grp gs bs → (∀ i a b, bs[i]? = some a → bs[i + 1]? = some b → a ≠ b) → ∀ (acc : List (List Tk)), (acc = [] ∨ ∃ ini y ys, acc = ini ++ [y :: ys] ∧ ∀ b, bs[0]? = some b → y.b ≠ b) → List.foldl chunkTS acc gs.flatten = acc ++ gs
  | _, _, .nil, _, acc, _ => by simp
  | g :: gs, b :: bs, .cons hg h, ha, acc, hacc => by
    obtain ⟨g1, g2⟩ := hg
    cases g with
    | nil => exact absurd rfl g1
    | cons y ys =>
      have hy := g2 y List.mem_cons_self
      have e : chunkTS acc y = acc ++ [[y]] := by
        rcases hacc with rfl | ⟨ini, z, zs, rfl, hz⟩
        · rfl
        · have := hz b rfl
          unfold chunkTS
          rw [List.getLast?_concat]
          simp only
          rw [if_neg (fun q => this (by rw [beq_iff_eq.mp q, hy]))]
      rw [List.flatten_cons, List.foldl_append, List.foldl_cons, e, foldl_same ys fun t ht => by rw [g2 t (List.mem_cons_of_mem _ ht), hy]]
      rw [chunk_groups gs bs h (fun i a c h1 h2 => ha (i + 1) a c (by rw [List.getElem?_cons_succ]; exact h1) (by rw [List.getElem?_cons_succ]; exact h2)) _ (.inr ⟨acc, y, ys, by simp, fun c hc => by rw [hy]; exact ha 0 b c rfl (by rw [List.getElem?_cons_succ]; exact hc)⟩)]
      simp
def clsN (p : List Nat) : Bool := decide (p.headD 0 = 32)
theorem sty_facts {p : List Nat} {t : List Tk} (hp : p ≠ []) (ht : TxtOk p) (hc : ∀ x ∈ p, decide (x = 32) = decide (p.headD 0 = 32)) (h : StyOf p t) : Grp t (clsN p) ∧ signs t = p ∧ Good t := by
  have hb : ∀ x ∈ p, (Tk.ch x).b = clsN p := fun x hx => by
    show isB x = _
    rw [isB_sp (ht x hx)]; exact hc x hx
  have hpl : ∀ u ∈ plain p, u.b = clsN p := fun u hu => by
    obtain ⟨x, hx, rfl⟩ := List.mem_map.mp hu
    exact hb x hx
  rcases h with rfl | ⟨hs, h⟩
  · refine ⟨⟨fun q => hp (plain_inj_nil.mp q), hpl⟩, signs_plain p, ?_⟩
    cases hcl : clsN p with
    | true =>
      left
      intro u hu
      obtain ⟨x, hx, rfl⟩ := List.mem_map.mp hu
      have : decide (x = 32) = true := by rw [hc x hx]; exact hcl
      exact ⟨x, rfl, by rw [of_decide_eq_true this]; exact sp32⟩
    | false =>
      right
      refine ⟨by rw [signs_plain]; exact hp, fun x hx => ?_⟩
      rw [signs_plain] at hx
      have : decide (x = 32) = false := by rw [hc x hx]; exact hcl
      exact (ht x hx).resolve_left (of_decide_eq_false this)
  · have hcl : clsN p = false := by
      cases q : clsN p with
      | false => rfl
      | true =>
        exfalso
        apply hs
        refine strip_nil.mpr fun x hx => ?_
        have : decide (x = 32) = true := by rw [hc x hx]; exact q
        rw [of_decide_eq_true this]; exact sp32
    have hes : ∀ ps, (Tk.es ps).b = clsN p := fun ps => by rw [hcl]; rfl
    have hw : ∀ x ∈ p, Unicode.isSpace x = false := fun x hx => by
      have : decide (x = 32) = false := by rw [hc x hx]; exact hcl
      exact (ht x hx).resolve_left (of_decide_eq_false this)
    have hsg : signs t = p := by
      rcases h with rfl | rfl
      · rw [signs_append]
        show signs (plain p) ++ [] = p
        rw [signs_plain, List.append_nil]
      · rw [signs_append]
        show signs (plain (p.take 1)) ++ signs (plain (p.drop 1)) = p
        rw [signs_plain, signs_plain, List.take_append_drop]
    refine ⟨⟨?_, ?_⟩, hsg, .inr ⟨by rw [hsg]; exact hp, by rw [hsg]; exact hw⟩⟩
    · rcases h with rfl | rfl <;> simp
    · intro u hu
      rcases h with rfl | rfl
      · rcases List.mem_append.mp hu with hu | hu
        · rcases List.mem_cons.mp hu with rfl | hu
          · exact hes _
          · exact hpl u hu
        · rw [List.mem_singleton.mp hu]; exact hes _
      · rcases List.mem_append.mp hu with hu | hu
        · obtain ⟨x, hx, rfl⟩ := List.mem_map.mp hu
          exact hb x (List.mem_of_mem_take hx)
        · rcases List.mem_cons.mp hu with rfl | hu
          · exact hes _
          · obtain ⟨x, hx, rfl⟩ := List.mem_map.mp hu
            exact hb x (List.mem_of_mem_drop hx)
theorem F2.mapR {α β γ : Type} {R : α → β → Prop} {S : β → γ → Prop} {f : α → γ} {as : List α} {bs : List β} (h : F2 R as bs) (hf : ∀ a b, a ∈ as → R a b → S b (f a)) : F2 S bs (as.map f) := by
  induction h with
  | nil => exact .nil
  | cons h t ih => exact .cons (hf _ _ List.mem_cons_self h) (ih fun a b ha => hf a b (List.mem_cons_of_mem _ ha))
theorem F2.mapEq {α β : Type} {R : α → β → Prop} {f : β → α} {as : List α} {bs : List β} (h : F2 R as bs) (hf : ∀ a b, a ∈ as → R a b → f b = a) : bs.map f = as := by
  induction h with
  | nil => rfl
  | cons h t ih => rw [List.map_cons, hf _ _ List.mem_cons_self h, ih fun a b ha => hf a b (List.mem_cons_of_mem _ ha)]
theorem F2.all {α β : Type} {R : α → β → Prop} {P : β → Prop} {as : List α} {bs : List β} (h : F2 R as bs) (hf : ∀ a b, a ∈ as → R a b → P b) : ∀ b ∈ bs, P b := by
  induction h with
  | nil => exact fun b h => by cases h
  | cons h t ih =>
    intro b hb
    rcases List.mem_cons.mp hb with rfl | hb
    · exact hf _ _ List.mem_cons_self h
    · exact ih (fun a b ha => hf a b (List.mem_cons_of_mem _ ha)) b hb
theorem sty_ok {p : List Nat} {t : List Tk} (ho : okT (plain p)) (h : StyOf p t) : okT t ∧ (flatT t).length ≤ p.length + 8 := by
  have o1 : (es1).ok := fun x hx => by simp at hx; omega
  have o0 : (es0).ok := fun x hx => by simp at hx; omega
  have o4 : (es4).ok := fun x hx => by simp at hx; omega
  have hsub : ∀ q : List Nat, (∀ x ∈ q, x ∈ p) → okT (plain q) := fun q hq u hu => by
    obtain ⟨x, hx, rfl⟩ := List.mem_map.mp hu
    exact ho _ (List.mem_map_of_mem (hq x hx))
  rcases h with rfl | ⟨_, rfl | rfl⟩
  · exact ⟨ho, by rw [flatT_plain]; omega⟩
  · refine ⟨okT_append.mpr ⟨okT_cons.mpr ⟨o1, ho⟩, fun u hu => by rw [List.mem_singleton.mp hu]; exact o0⟩, ?_⟩
    rw [flatT_append, flatT_cons, flatT_plain]; simp [es1, es0, Tk.flat, flatT]
  · refine ⟨okT_append.mpr ⟨hsub _ fun x hx => List.mem_of_mem_take hx, okT_cons.mpr ⟨o4, hsub _ fun x hx => List.mem_of_mem_drop hx⟩⟩, ?_⟩
    rw [flatT_append, flatT_cons, flatT_plain, flatT_plain]; simp [es4, Tk.flat]; omega
/-- a text with looks: its chunks -/
theorem sty_chunks {l : List Nat} {ts : List (List Tk)} (ho : okT (plain l)) (ht : TxtOk l) (h : F2 StyOf (partsL l) ts) :
    chunkT ts.flatten = ts ∧ ts.map signs = partsL l ∧ (∀ c ∈ ts, Good c) ∧ okT ts.flatten ∧ (flatT ts.flatten).length ≤ 9 * l.length := by
  obtain ⟨a1, a2⟩ := parts_alt2 (l := l)
  have hsub : ∀ p ∈ partsL l, ∀ x ∈ p, x ∈ l := fun p hp x hx => by
    have : x ∈ (partsL l).flatten := List.mem_flatten.mpr ⟨p, hp, hx⟩
    rw [partsL_sum] at this; exact this
  have hf : ∀ p t, p ∈ partsL l → StyOf p t → Grp t (clsN p) ∧ signs t = p ∧ Good t := fun p t hp hs => sty_facts (a1 p hp).1 (fun x hx => ht x (hsub p hp x hx)) (a1 p hp).2 hs
  have hok : ∀ p t, p ∈ partsL l → StyOf p t → okT t ∧ (flatT t).length ≤ p.length + 8 := fun p t hp hs => sty_ok (fun u hu => by
    obtain ⟨x, hx, rfl⟩ := List.mem_map.mp hu
    exact ho _ (List.mem_map_of_mem (hsub p hp x hx))) hs
  refine ⟨?_, h.mapEq fun p t hp hs => (hf p t hp hs).2.1, h.all fun p t hp hs => (hf p t hp hs).2.2, ?_, ?_⟩
  · have := chunk_groups ts ((partsL l).map clsN) (h.mapR fun p t hp hs => (hf p t hp hs).1) (fun i a b h1 h2 => by
      rw [List.getElem?_map, Option.map_eq_some_iff] at h1 h2
      obtain ⟨x, hx, rfl⟩ := h1
      obtain ⟨y, hy, rfl⟩ := h2
      exact a2 i x y hx hy) [] (.inl rfl)
    exact this
  · intro u hu
    obtain ⟨c, hc, huc⟩ := List.mem_flatten.mp hu
    exact h.all (P := okT) (fun p t hp hs => (hok p t hp hs).1) c hc u huc
  · have gen : ∀ {ps : List (List Nat)} {ts : List (List Tk)}, F2 StyOf ps ts → (∀ p t, p ∈ ps → StyOf p t → (flatT t).length ≤ p.length + 8) → (∀ p ∈ ps, p ≠ []) → (flatT ts.flatten).length ≤ 9 * ps.flatten.length := by
      intro ps ts h
      induction h with
      | nil => intro _ _; exact Nat.zero_le _
      | @cons a b as bs h _ ih =>
        intro h1 h2
        have i1 := ih (fun p t hp => h1 p t (List.mem_cons_of_mem _ hp)) fun p hp => h2 p (List.mem_cons_of_mem _ hp)
        have i2 := h1 a b List.mem_cons_self h
        have i3 := List.length_pos_iff.mpr (h2 a List.mem_cons_self)
        rw [List.flatten_cons, List.flatten_cons, flatT_append, List.length_append, List.length_append]; omega
    have := gen h (fun p t hp hs => (hok p t hp hs).2) fun p hp => (a1 p hp).1
    rw [partsL_sum] at this; exact this
end Mine
end

section
open PySem PySem.W PySem.Calls PyProof.Rows PySem.Builtin PySem.Builtin.Str
set_option linter.all false
set_option maxRecDepth 100000
namespace Mine
structure LineRes (w : Int) (fi fr l : List Nat) (out : List (List Nat)) (bs : List (List Nat)) : Prop where
  n : wrapN w fi fr 100000 (partsL l) [] = some out
  law : lawF w fi fr 100000 (partsL l) [] = some out
  js : joinSize [10] out ≤ 1000000
  long : LongOk w fi fr out
  yl : ∀ y ∈ out, y.length ≤ 1000
  ol : out.length ≤ 400
  eq : out = bs.mapIdx fun i b => (if i = 0 then fi else fr) ++ b
  lt : lettersL bs.flatten = lettersL l
theorem line_res {w : Int} {fi fr l : List Nat} (hw : 0 < w) (hw2 : w ≤ 100) (oi : okT (plain fi)) (or : okT (plain fr)) (li : fi.length ≤ 10) (lr : fr.length ≤ 10) (ol : okT (plain l)) (h : TxtOk l) (hl : l.length ≤ 400) (hc : 0 ≤ w - (fi.length : Int) ∨ l = [] ∨ ∃ x r, l = x :: r ∧ x ≠ 32) :
    ∃ out bs outT, LineRes w fi fr l out bs ∧ wrapF w (plain fi) (plain fr) 100000 (chunkT (plain l)) [] = some outT ∧ outT.map flatT = out := by
  obtain ⟨out, outT, o1, o2, o3, o4, _⟩ := laid_all (w := w) (k := 100000) oi or ol h hc (by omega)
  obtain ⟨bs, b1, b2, b3⟩ := wrapN_props _ _ _ _ (parts_inv h) o1
  rw [List.nil_append] at b1
  rw [partsL_sum] at b3
  simp only [List.length_nil, Nat.zero_add] at b1 b2
  have hcnt : bs.length ≤ 400 := by
    have h1 := bodies_count fun b hb => by
      obtain ⟨i, hi2, e⟩ := List.getElem_of_mem hb
      exact (b2 i b (by rw [← e]; exact List.getElem?_eq_getElem hi2)).1
    rw [b3] at h1
    have := lettersOf_len l; omega
  have hlen : ∀ y ∈ out, y.length ≤ 1000 := by
    intro y hy
    rw [b1] at hy
    obtain ⟨i, hi2, rfl⟩ := List.mem_mapIdx.mp hy
    have := (b2 i _ (List.getElem?_eq_getElem hi2)).2
    rw [List.length_append]
    split at this <;> split <;> simp_all <;> omega
  have hol : out.length ≤ 400 := by rw [b1, List.length_mapIdx]; exact hcnt
  refine ⟨out, bs, outT, ⟨o1, o2, ?_, ?_, hlen, hol, b1, b3⟩, o3, o4⟩
  · have := joinSize_le (sep := [10]) hlen
    have h2 : out.length * (1000 + [10].length) ≤ 400 * 1001 := Nat.mul_le_mul_right _ hol
    omega
  · intro k y hy
    rw [b1, List.getElem?_mapIdx, Option.map_eq_some_iff] at hy
    obtain ⟨b, hb, rfl⟩ := hy
    obtain ⟨⟨y', z, e, hz⟩, h2⟩ := b2 k b hb
    generalize (if k = 0 then fi else fr) = mk at *
    refine ⟨by rw [List.length_append]; omega, ?_, fun _ => ⟨mk ++ y', z, by rw [e]; simp, fun q => by rw [q, sp32] at hz; cases hz⟩⟩
    exact List.isPrefixOf_iff_prefix.mpr (List.prefix_append _ _)
theorem lay_len {wd : Int} {more : Bool} {cs : List (List Tk)} : (flatT (lay1 wd more cs).1.flatten).length + (flatT (lay1 wd more cs).2.flatten).length ≤ (flatT cs.flatten).length := by
  have hd : (flatT (dropB more cs).flatten).length ≤ (flatT cs.flatten).length := by
    cases cs with
    | nil => exact Nat.le_refl _
    | cons t r =>
      have e1 : dropB more (t :: r) = if (blankT t && more) = true then r else t :: r := rfl
      rw [e1]
      split
      · rw [List.flatten_cons, flatT_append, List.length_append]; omega
      · exact Nat.le_refl _
  refine Nat.le_trans ?_ hd
  have hs := greedy_split wd (dropB more cs) 0 []
  rw [List.nil_append] at hs
  unfold lay1
  simp only
  have e5 : (flatT (dropB more cs).flatten).length = (flatT ((greedy wd 0 [] (dropB more cs)).2.1 ++ (greedy wd 0 [] (dropB more cs)).2.2).flatten).length := by rw [hs]
  rw [e5]
  generalize (greedy wd 0 [] (dropB more cs)).1 = cur
  generalize (greedy wd 0 [] (dropB more cs)).2.1 = line
  generalize (greedy wd 0 [] (dropB more cs)).2.2 = rest
  have trim : ∀ l : List (List Tk), (flatT (trimB l).flatten).length ≤ (flatT l.flatten).length := by
    intro l
    rcases List.eq_nil_or_concat l with rfl | ⟨l2, t, rfl⟩
    · exact Nat.le_refl _
    · rw [List.concat_eq_append, trimB_snoc]
      split
      · rw [List.flatten_append, flatT_append, List.length_append]; omega
      · exact Nat.le_refl _
  cases rest with
  | nil =>
    show (flatT (trimB line).flatten).length + (flatT ([] : List (List Tk)).flatten).length ≤ _
    have := trim line
    rw [List.append_nil]
    simp [flatT] at this ⊢
    exact this
  | cons t r =>
    have e1 : cutLong wd cur line (t :: r) = if (vis t : Int) > wd then (line ++ [truncV (max (wd - cur) 1) t], restT (max (wd - cur) 1) t :: r) else (line, t :: r) := rfl
    rw [e1]
    split
    · have := trim (line ++ [truncV (max (wd - cur) 1) t])
      have e := congrArg (fun z => (flatT z).length) (trunc_rest (max (wd - cur) 1) t)
      simp only [flatT_append, List.length_append] at e
      simp only [List.flatten_append, List.flatten_cons, List.flatten_nil, List.append_nil, flatT_append, List.length_append] at this ⊢
      omega
    · have := trim line
      simp only [List.flatten_append, List.flatten_cons, flatT_append, List.length_append] at this ⊢
      omega
def szT (ls : List (List Tk)) : Nat := (ls.map fun c => (flatT c).length).sum
theorem wrap_len {w : Int} {fi fr : List Tk} {M : Nat} (hi : (flatT fi).length ≤ M) (hr : (flatT fr).length ≤ M) : ∀ (k : Nat) (cs ls out : List (List Tk)), wrapF w fi fr k cs ls = some out → ls.length ≤ out.length ∧ szT out + ls.length * M ≤ szT ls + (flatT cs.flatten).length + out.length * M
  | k, [], ls, out, h => by
    have e : ls = out := by cases k <;> exact Option.some.inj h
    subst e
    exact ⟨Nat.le_refl _, by omega⟩
  | 0, c :: cs, ls, out, h => by cases h
  | k + 1, c :: cs, ls, out, h => by
    unfold wrapF at h
    simp only at h
    have hind : (flatT (if ls = [] then fi else fr)).length ≤ M := by split <;> assumption
    generalize (if ls = [] then fi else fr) = ind at *
    have hl := lay_len (wd := w - vis ind) (more := !ls.isEmpty) (cs := c :: cs)
    obtain ⟨i1, i2⟩ := wrap_len hi hr k _ _ out h
    by_cases q : (lay1 (w - vis ind) (!ls.isEmpty) (c :: cs)).1 = []
    · rw [if_pos q] at i1 i2
      exact ⟨i1, by omega⟩
    · rw [if_neg q] at i1 i2
      rw [List.length_append, List.length_singleton] at i1 i2
      have e : szT (ls ++ [ind ++ (lay1 (w - vis ind) (!ls.isEmpty) (c :: cs)).1.flatten]) = szT ls + ((flatT ind).length + (flatT (lay1 (w - vis ind) (!ls.isEmpty) (c :: cs)).1.flatten).length) := by
        unfold szT; simp [flatT_append]
      rw [e] at i2
      refine ⟨by omega, ?_⟩
      have e2 : (ls.length + 1) * M = ls.length * M + M := by rw [Nat.add_mul]; simp
      rw [e2] at i2
      omega
theorem signs_joinTk (x : Nat) : ∀ ls : List (List Tk), signs (joinTk x ls) = joinL [x] (ls.map signs)
  | [] => rfl
  | [l] => rfl
  | l :: l2 :: r => by
    show signs (l ++ .ch x :: joinTk x (l2 :: r)) = signs l ++ [x] ++ joinL [x] ((l2 :: r).map signs)
    rw [signs_append, ← signs_joinTk x (l2 :: r), List.append_assoc]; rfl
/-- the same is laid without the looks -/
theorem sty_res {w : Int} {fi fr l : List Nat} {ts tsm : List (List Tk)} {out bs : List (List Nat)} (R : LineRes w fi fr l out bs) (oi : okT (plain fi)) (or : okT (plain fr)) (ti : TxtOk fi) (li : fi.length ≤ 10) (lr : fr.length ≤ 10) (ol : okT (plain l)) (h : TxtOk l) (hl : l.length ≤ 400)
    (h1 : F2 StyOf (partsL l) ts) (h2 : F2 StyOf (partsL fi) tsm) (w1 : 1 ≤ w - (fi.length : Int)) (w2 : 1 ≤ w - (fr.length : Int)) :
    ∃ outT, wrapF w tsm.flatten (plain fr) 100000 (chunkT ts.flatten) [] = some outT ∧ okT (joinTk 10 outT) ∧ signs (joinTk 10 outT) = joinL [10] out ∧ joinSize [10] (outT.map flatT) ≤ 900000 := by
  obtain ⟨c1, c2, c3, c4, c5⟩ := sty_chunks ol h h1
  obtain ⟨d1, d2, d3, d4, d5⟩ := sty_chunks oi ti h2
  have hsm : signs tsm.flatten = fi := by rw [signs_flatten, d2, partsL_sum]
  have hv : vis tsm.flatten = fi.length := by unfold vis; rw [hsm]
  have hsim := wrap_sim (w := w) (fi := tsm.flatten) (fr := plain fr) 100000 ts [] c3 (.inr ⟨by rw [hv]; exact w1, by rw [vis_plain]; exact w2⟩)
  rw [hsm, signs_plain, c2, List.map_nil, R.n] at hsim
  obtain ⟨outT, hoT, hoe⟩ := Option.map_eq_some_iff.mp hsim
  rw [c1]
  have hmem := wrap_mem (w := w) (fi := tsm.flatten) (fr := plain fr) Tk.ok d4 or 100000 ts [] outT (fun c hc t ht => c4 t (List.mem_flatten.mpr ⟨c, hc, ht⟩)) (fun c hc => by cases hc) hoT
  refine ⟨outT, hoT, joinTk_ok ok10 hmem, by rw [signs_joinTk, hoe], ?_⟩
  obtain ⟨_, i2⟩ := wrap_len (M := 100) (by omega) (by rw [flatT_plain]; omega) _ _ _ _ hoT
  have hlen : outT.length = out.length := by rw [← hoe, List.length_map]
  have hol := R.ol
  have e : joinSize [10] (outT.map flatT) = szT outT + outT.length := by
    clear hoT hoe i2 hlen hmem hsim
    induction outT with
    | nil => rfl
    | cons a r ih => simp [joinSize, szT] at ih ⊢; omega
  rw [e]
  have h3 : szT [] = 0 := rfl
  have h4 : ([] : List (List Tk)).length = 0 := rfl
  rw [h3, h4] at i2
  omega
end Mine
end

section
open PySem PySem.W PySem.Calls PyProof.Rows
set_option linter.all false
set_option maxRecDepth 100000
set_option maxHeartbeats 4000000
namespace Mine
local macro_rules | `(tactic| walk_at "go") => `(tactic| first
  | ((with_reducible show Ev _ _ _ _ _ _); (first
      | ((with_reducible refine Ev.nameK ?_ ?_ ?_); rotate_left; rfl)
      | (with_reducible refine Ev.or2 ?_)
      | (with_reducible refine Ev.and2 ?_)
      | (with_reducible refine Ev.int ?_)
      | (with_reducible refine Ev.bool ?_)
      | (with_reducible refine Ev.non ?_)
      | (with_reducible refine Ev.textX _ t_no ?_)
      | (with_reducible refine Ev.textX _ t_blanks ?_)
      | (with_reducible refine Ev.textX _ t_sp ?_)
      | (with_reducible refine Ev.textX _ t_nl ?_)
      | (with_reducible refine Ev.textX _ t_nl2 ?_)
      | (with_reducible refine Ev.textX _ t_bs ?_)
      | (with_reducible refine Ev.textX _ t_sp2 ?_)
      | (with_reducible refine Ev.textX _ t_sp4 ?_)
      | (with_reducible refine Ev.textX _ t_star ?_)
      | (with_reducible refine Ev.textX _ t_usage ?_)
      | (with_reducible refine Ev.textX _ t_abc ?_)
      | (with_reducible refine Ev.textX _ t_pon ?_)
      | (with_reducible refine Ev.textX _ t_csi ?_)
      | (with_reducible refine Ev.textX _ t_m ?_)
      | (with_reducible refine Ev.textX _ t_b1 ?_)
      | (with_reducible refine Ev.textX _ t_b0 ?_)
      | (with_reducible refine Ev.textX _ t_314 ?_)
      | (with_reducible refine Ev.textX _ t_31 ?_)
      | (with_reducible refine Ev.textX _ t_14 ?_)
      | (with_reducible refine Ev.textX _ t_ah ?_)
      | (with_reducible refine Ev.textX _ t_spnl ?_)
      | (with_reducible refine Ev.textX _ t_dots ?_)
      | (with_reducible refine Ev.bin ?_)
      | ((with_reducible refine Ev.cmp ?_ ?_); rotate_left; rfl)
      | (with_reducible refine Ev.un ?_)
      | (with_reducible refine Ev.ifx ?_)
      | (with_reducible refine Ev.sliceG ?_)
      | ((with_reducible refine Ev.itemG ?_ ?_); rotate_left; intro _ _; rfl)
      | (with_reducible refine Ev.listG ?_)
      | (with_reducible refine Ev.tupleG ?_)
      | ((with_reducible refine Ev.methKX0 ?_ ?_ ?_); rotate_left; rfl)
      | ((with_reducible refine Ev.methKX ?_ ?_ ?_ ?_ ?_); rotate_left; rfl; rfl; rfl)
      | ((with_reducible refine Ev.callK0 ?_ ?_); rotate_left; rfl)
      | ((with_reducible refine Ev.callK ?_ ?_ ?_ ?_); rotate_left; rfl; rfl; rfl)
      | ((with_reducible refine Ev.callKW ?_ ?_ ?_ ?_ ?_ ?_ ?_); rotate_left; rotate_left; rfl; rfl; rfl; rfl; rfl)
      | (with_reducible refine Ev.fstr2 ?_)
      | ((with_reducible refine Ev.attr ?_ ?_); rotate_left; rfl)
    ))
  | ((with_reducible show NameJ _ _ _ _ _ _ _ _); (first
      | ((with_reducible refine NameJ.loc ?_ ?_ ?_ ?_ ?_); rotate_left; rfl; rfl; rfl)
      | ((with_reducible refine NameJ.cell ?_ ?_ ?_ ?_ ?_ ?_ ?_); rotate_left; rotate_left; rfl; rfl; rfl; walk_at "heap")
      | ((with_reducible refine NameJ.free ?_ ?_ ?_ ?_ ?_ ?_ ?_ ?_); rotate_left; rotate_left; rfl; rfl; rfl; rfl; walk_at "heap")
      | ((with_reducible refine NameJ.glob ?_ ?_ ?_ ?_ ?_ ?_ ?_); rotate_left; rotate_left; rotate_left; assumption; rfl; rfl)
      | ((with_reducible refine NameJ.bltB ?_ ?_ ?_ ?_ ?_ ?_ ?_ ?_ ?_); rotate_left; rotate_left; rotate_left; rfl; assumption; rfl; decide; rfl)
      | ((with_reducible refine NameJ.bltT ?_ ?_ ?_ ?_ ?_ ?_ ?_ ?_ ?_); rotate_left; rotate_left; rotate_left; rfl; assumption; rfl; decide; rfl)
    ))
  | ((with_reducible show ThenJ _ _ _ _ _ _ _); (first
      | (with_reducible refine ThenJ.next ?_)
      | (with_reducible refine ThenJ.ret ?_)
      | (with_reducible refine ThenJ.brk ?_)
      | (with_reducible refine ThenJ.cont ?_)
    ))
  | ((with_reducible show Exs _ _ _ _ _ _); (first
      | (with_reducible refine Exs.go ?_)
      | (with_reducible refine Exs.nil ?_)
    ))
  | ((with_reducible show StoreJ _ _ _ _ _ _ _); (first
      | ((with_reducible refine StoreJ.loc ?_ ?_ ?_); rfl; rfl)
      | ((with_reducible refine StoreJ.cellX ?_ ?_ ?_ ?_ ?_ ?_ ?_); rotate_left; rotate_left; rfl; rfl; rfl; walk_at "heap")
    ))
  | ((with_reducible show Vals _ _ _ _ _ _); (first
      | (with_reducible refine Vals.nil ?_)
      | ((with_reducible refine Vals.cons ?_ ?_); rotate_left; rfl)
    ))
  | ((with_reducible show Op2 _ _ _ _ _ _ _ _); (first
      | (with_reducible refine O_add ?_)
      | (with_reducible refine O_sub ?_)
      | (with_reducible refine O_iadd ?_)
      | (with_reducible refine O_isub ?_)
      | (with_reducible refine O_lt ?_)
      | (with_reducible refine O_le ?_)
      | (with_reducible refine O_gt ?_)
      | (with_reducible refine O_ge ?_)
      | (with_reducible refine O_eqI ?_)
      | (with_reducible refine O_neI ?_)
      | (with_reducible refine O_eqT ?_)
      | (with_reducible refine O_neT ?_)
      | (with_reducible refine O_eqB ?_)
      | (with_reducible refine O_eqBN ?_)
      | (with_reducible refine O_in1 ?_)
      | (with_reducible refine O_notin1 ?_)
      | ((with_reducible refine O_addT ?_ ?_); walk_at "side")
      | ((with_reducible refine O_iaddT ?_ ?_); walk_at "side")
      | ((with_reducible refine O_eqLX ?_ ?_ ?_ ?_ ?_ ?_ ?_ ?_ ?_); rotate_left; rotate_left; rotate_left; rotate_left; walk_at "heap"; walk_at "heap"; assumption; walk_at "flat")
      | ((with_reducible refine O_neLX ?_ ?_ ?_ ?_ ?_ ?_ ?_ ?_ ?_); rotate_left; rotate_left; rotate_left; rotate_left; walk_at "heap"; walk_at "heap"; assumption; walk_at "flat")
      | ((with_reducible refine O_addLX ?_ ?_ ?_ ?_ ?_ ?_); rotate_left; rotate_left; walk_at "heap"; walk_at "heap"; walk_at "side")
      | (with_reducible refine O_isNN ?_)
      | (with_reducible refine O_isIN ?_)
      | (with_reducible refine O_isnotNN ?_)
      | (with_reducible refine O_isnotRN ?_)
    ))
  | ((with_reducible show Ex _ _ _ _ _ _); (first
      | (with_reducible refine Ex.ite ?_)
      | (with_reducible refine Ex.ret ?_)
      | (with_reducible refine Ex.retN ?_)
      | (with_reducible refine Ex.brk ?_)
      | (with_reducible refine Ex.cont ?_)
      | (with_reducible refine Ex.pass ?_)
      | ((with_reducible refine Ex.asgN ?_ ?_); rotate_left; rfl)
      | ((with_reducible refine Ex.asg ?_ ?_ ?_ ?_); rotate_left; rfl; rfl; rfl)
      | ((with_reducible refine Ex.swap2 ?_ ?_ ?_ ?_ ?_ ?_); rotate_left; rotate_left; rotate_left; rotate_left; rfl; rfl; (first | assumption | exact Ok.hh (by assumption)))
      | ((with_reducible refine Ex.swap3 ?_ ?_ ?_ ?_ ?_ ?_ ?_); rotate_left; rotate_left; rotate_left; rotate_left; rotate_left; rfl; rfl; (first | assumption | exact Ok.hh (by assumption)))
      | (with_reducible refine Ex.augN ?_)
      | ((with_reducible refine Ex.augI ?_ ?_); rotate_left; intro _ _ _; rfl)
      | (with_reducible refine Ex.delAll ?_)
      | (with_reducible refine Ex.delI ?_)
      | ((with_reducible refine Ex.expr ?_ ?_ ?_); rotate_left; rfl; rfl)
      | (with_reducible refine Ex.augA ?_)
    ))
  | ((with_reducible show CallK _ _ _ _ _ _ _); (first
      | (with_reducible refine CallK.app ?_)
      | (with_reducible refine CallK.b ?_)
      | (with_reducible refine CallK.t ?_)
      | ((with_reducible refine CallK.kX ?_ ?_ ?_ ?_ ?_); rotate_left; rotate_left; assumption; rfl)
    ))
  | ((with_reducible show CallJ _ _ _ _ _ _ _ _); (first
      | ((with_reducible refine C_appendX ?_ ?_ ?_ ?_); rotate_left; walk_at "heap"; walk_at "side")
      | ((with_reducible refine C_pop0X ?_ ?_ ?_ ?_ ?_); rotate_left; rotate_left; walk_at "heap"; walk_at "side")
      | ((with_reducible refine C_popX ?_ ?_ ?_ ?_ ?_); rotate_left; rotate_left; walk_at "heap"; walk_at "side")
      | ((with_reducible refine C_lenLX ?_ ?_ ?_ ?_); rotate_left; walk_at "heap"; walk_at "side")
      | ((with_reducible refine C_lenT ?_ ?_); walk_at "side")
      | ((with_reducible refine C_stripP ?_ ?_); walk_at "side")
      | ((with_reducible refine C_lstripP ?_ ?_); walk_at "side")
      | ((with_reducible refine C_lstripCP ?_ ?_); walk_at "side")
      | ((with_reducible refine C_rstripCP ?_ ?_); walk_at "side")
      | (with_reducible refine C_startswithP ?_)
      | (with_reducible refine C_abs ?_)
      | ((with_reducible refine C_reverseX ?_ ?_ ?_ ?_); rotate_left; walk_at "heap"; walk_at "side")
      | ((with_reducible refine C_joinX ?_ ?_ ?_ ?_); rotate_left; walk_at "heap"; walk_at "side")
      | ((with_reducible refine C_endX ?_ ?_ ?_); rotate_left; assumption)
    ))
  | ((with_reducible show MethJ _ _ _ _ _ _ _); (first
      | ((with_reducible refine MethJ.listX ?_ ?_ PySem.F.slot_list_append PySem.F.type_list_append ?_); rotate_left; walk_at "heap")
      | ((with_reducible refine MethJ.listX ?_ ?_ PySem.F.slot_list_reverse PySem.F.type_list_reverse ?_); rotate_left; walk_at "heap")
      | ((with_reducible refine MethJ.listX ?_ ?_ PySem.F.slot_list_pop PySem.F.type_list_pop ?_); rotate_left; walk_at "heap")
      | (with_reducible refine MethJ.strX PySem.F.slot_str_strip PySem.F.type_str_strip ?_)
      | (with_reducible refine MethJ.strX PySem.F.slot_str_lstrip PySem.F.type_str_lstrip ?_)
      | (with_reducible refine MethJ.strX PySem.F.slot_str_rstrip PySem.F.type_str_rstrip ?_)
      | (with_reducible refine MethJ.strX PySem.F.slot_str_startswith PySem.F.type_str_startswith ?_)
      | (with_reducible refine MethJ.strX PySem.F.slot_str_count PySem.F.type_str_count ?_)
      | (with_reducible refine MethJ.strX PySem.F.slot_str_join PySem.F.type_str_join ?_)
      | (with_reducible refine MethJ.strX PySem.F.slot_str_split PySem.F.type_str_split ?_)
      | (with_reducible refine MethJ.strX PySem.F.slot_str_splitlines PySem.F.type_str_splitlines ?_)
      | (with_reducible refine MethJ.strX PySem.F.slot_str_expandtabs PySem.F.type_str_expandtabs ?_)
      | (with_reducible refine MethJ.strX PySem.F.slot_str_index PySem.F.type_str_index ?_)
      | ((with_reducible refine MethJ.patX ?_ ?_ slot_Pattern_sub type_Pattern_sub ?_); rotate_left; assumption)
      | ((with_reducible refine MethJ.patX ?_ ?_ slot_Pattern_match type_Pattern_match ?_); rotate_left; assumption)
      | ((with_reducible refine MethJ.instX ?_ ?_ ?_ ?_ ?_ ?_ ?_ ?_ ?_ ?_ ?_ ?_ ?_ ?_); rotate_left; rotate_left; rotate_left; rotate_left; rotate_left; rotate_left; walk_at "heap"; walk_at "heap"; assumption; rfl; rfl; rfl; rfl)
      | ((with_reducible refine MethJ.matchedX ?_ ?_ ?_); rotate_left; assumption)
    ))
  | ((with_reducible show Tst _ _ _ _ _ _); (first
      | (with_reducible refine Tst.bop ?_)
      | (with_reducible refine Tst.nt ?_)
      | ((with_reducible refine Tst.cmp ?_ ?_); rotate_left; rfl)
      | ((with_reducible refine Tst.plain ?_ ?_); rotate_left; rfl)
    ))
  | ((with_reducible show TstAll _ _ _ _ _ _ _); (first
      | (with_reducible refine TstAll.and ?_)
      | (with_reducible refine TstAll.or ?_)
      | (with_reducible refine TstAll.andNil ?_)
      | (with_reducible refine TstAll.orNil ?_)
    ))
  | ((with_reducible show Tru _ _ _ _ _ _); (first
      | (with_reducible refine T_bool ?_)
      | (with_reducible refine T_int ?_)
      | (with_reducible refine T_none ?_)
      | ((with_reducible refine T_listX ?_ ?_ ?_ ?_); rotate_left; walk_at "heap"; walk_at "side")
      | ((with_reducible refine T_str ?_ ?_); walk_at "side")
    ))
  | ((with_reducible show Tgt _ _ _ _ _ _ _); (first
      | (with_reducible refine Tgt.name ?_)
      | (with_reducible refine Tgt.subI ?_)
      | ((with_reducible refine Tgt.two ?_ ?_ ?_ ?_ ?_); rotate_left; rotate_left; (first | assumption | exact Ok.hh (by assumption)); walk_at "heap")
      | ((with_reducible refine Tgt.three ?_ ?_ ?_ ?_ ?_ ?_); rotate_left; rotate_left; rotate_left; (first | assumption | exact Ok.hh (by assumption)); walk_at "heap")
      | (with_reducible refine Tgt.attr ?_)
    ))
  | ((with_reducible show ForK _ _ _ _ _ _); (first
      | (with_reducible refine ForK.next ?_)
      | (with_reducible refine ForK.cont ?_)
      | (with_reducible refine ForK.brk ?_)
      | (with_reducible refine ForK.ret ?_)
    ))
  | ((with_reducible show ItemG _ _ _ _ _ _ _); (first
      | ((with_reducible refine ItemG.lastX ?_ ?_ ?_ ?_); rotate_left; rotate_left; walk_at "heap")
      | ((with_reducible refine ItemG.strX ?_ ?_ ?_ ?_); rotate_left; rfl; decide)
      | ((with_reducible refine ItemG.listX ?_ ?_ ?_ ?_ ?_ ?_); rotate_left; rotate_left; walk_at "heap"; rfl; decide)
    ))
  | (with_reducible refine iteT ?_)
  | (with_reducible refine iteF ?_)
  | ((with_reducible show KVals _ _ _ _ _ _); (first
      | (with_reducible refine KVals.nil ?_)
      | (with_reducible refine KVals.cons ?_)
    ))
  | ((with_reducible show EvP _ _ _ _ _ _); (first
      | (with_reducible refine EvP.non ?_)
      | (with_reducible refine EvP.some ?_)
    ))
  | ((with_reducible show Op1 _ _ _ _ _ _ _); (first
      | (with_reducible refine O_not ?_)
      | (with_reducible refine O_neg ?_)
    ))
  | ((with_reducible show StoreI _ _ _ _ _ _ _); (first
      | ((with_reducible refine StoreI.lastX ?_ ?_ ?_ ?_); rotate_left; rotate_left; walk_at "heap")
      | ((with_reducible refine StoreI.atX ?_ ?_ ?_ ?_ ?_ ?_); rotate_left; walk_at "heap"; walk_at "side"; walk_at "side"; walk_at "side")
    ))
  | ((with_reducible show DelI _ _ _ _ _ _); (first
      | ((with_reducible refine DelI.lastX ?_ ?_ ?_ ?_ ?_); rotate_left; rotate_left; walk_at "heap"; walk_at "side")
      | ((with_reducible refine DelI.atX ?_ ?_ ?_ ?_ ?_ ?_); rotate_left; walk_at "heap"; walk_at "side"; walk_at "side"; walk_at "side")
    ))
  | ((with_reducible show Yld _ _ _ _ _); (first
      | (with_reducible refine Yld.f ?_)
      | (with_reducible refine Yld.t ?_)
    ))
  | ((with_reducible refine Swap2.mkX ?_ ?_ ?_ ?_); rotate_left; rotate_left; walk_at "heap")
  | ((with_reducible refine Swap3.mkX ?_ ?_ ?_ ?_ ?_); rotate_left; rotate_left; rotate_left; walk_at "heap")
  | ((with_reducible refine DelAll.mkX ?_ ?_ ?_ ?_); rotate_left; walk_at "heap"; walk_at "side")
  | ((with_reducible refine LoadJ.locX ?_ ?_ ?_ ?_ ?_); rotate_left; rfl; rfl; rfl)
  | ((with_reducible refine CallKW.kX ?_ ?_ ?_ ?_ ?_); rotate_left; rotate_left; assumption; rfl)
  | ((with_reducible refine I_listX ?_ ?_ ?_ ?_ ?_ ?_); rotate_left; rotate_left; walk_at "heap"; rfl; decide)
  | ((with_reducible refine NewL.mk ?_ ?_); walk_at "side")
  | ((with_reducible refine NewT.mk ?_ ?_); walk_at "side")
  | ((with_reducible refine AttrJ.ownX ?_ ?_ ?_ ?_ ?_ ?_ ?_ ?_ ?_ ?_ ?_ ?_ ?_ ?_ ?_ ?_ ?_); rotate_left; rotate_left; rotate_left; rotate_left; rotate_left; rotate_left; rotate_left; walk_at "heap"; walk_at "heap"; rfl; assumption; rfl; rfl; rfl; rfl; rfl)
  | ((with_reducible refine StoreA.ownX ?_ ?_ ?_ ?_ ?_ ?_ ?_ ?_ ?_ ?_ ?_ ?_ ?_ ?_); rotate_left; rotate_left; rotate_left; rotate_left; rotate_left; walk_at "heap"; walk_at "heap"; assumption; rfl; rfl; rfl; rfl; (first | exact of_decide_eq_true rfl | walk_at "side"))
  | ((with_reducible intro r hr); (try simp only [HM.set_none] at hr); (try obtain ⟨h1, hr⟩ := hr); (try obtain ⟨h2, hr⟩ := hr); (try obtain ⟨h3, hr⟩ := hr); (try obtain ⟨h4, hr⟩ := hr); (try obtain ⟨h5, hr⟩ := hr); (try obtain ⟨h6, hr⟩ := hr); (try obtain ⟨h7, hr⟩ := hr); (try obtain ⟨h8, hr⟩ := hr); (try obtain ⟨h9, hr⟩ := hr); (try obtain ⟨h10, hr⟩ := hr); (try obtain ⟨h11, hr⟩ := hr); (try obtain ⟨h12, hr⟩ := hr); (try obtain ⟨h13, hr⟩ := hr); (try obtain ⟨h14, hr⟩ := hr); (try obtain ⟨h15, hr⟩ := hr)))
local macro_rules | `(tactic| walk_at "side") => `(tactic| first | assumption | decide | omega | (simp only [setAt_length, List.length_append, List.length_cons, List.length_nil, List.length_map]; omega) | (simp only [setAt_length, List.length_append, List.length_cons, List.length_nil, List.length_map] at *; omega))
local macro_rules | `(tactic| walk_at "heap") => `(tactic| first
  | assumption
  | exact HM.set_same _ _ _
  | (refine (HM.set_ne _ _ ?_).trans ?_; walk_at "ne"; walk_at "heap"))
local macro_rules | `(tactic| walk_at "ne") => `(tactic| first
  | assumption
  | (apply Ne.symm; assumption)
  | (refine HM.ne_ofX ?_ ?_ ?_ ?_; rotate_left; rotate_left; assumption; assumption)
  | (apply Ne.symm; refine HM.ne_ofX ?_ ?_ ?_ ?_; rotate_left; rotate_left; assumption; assumption)
  | (refine HM.ne_ofY ?_ ?_ ?_ ?_; rotate_left; rotate_left; assumption; assumption)
  | (apply Ne.symm; refine HM.ne_ofY ?_ ?_ ?_ ?_; rotate_left; rotate_left; assumption; assumption)
  | omega)
local macro_rules | `(tactic| walk_at "run") => `(tactic| repeat walk_at "go")
local macro_rules | `(tactic| walk_at "flat") => `(tactic| first | exact flat_nil _ | exact flat_texts _ _ | exact flat_ints _ _)
local macro_rules | `(tactic| walk_at "inst") => `(tactic| first | assumption | (refine ⟨?_, ?_⟩; walk_at "heap"; walk_at "heap"))
local macro_rules | `(tactic| walk_at "le") => `(tactic| first | exact LM.le_nil _ | (refine LM.le_cons rfl ?_; walk_at "le"))

local macro_rules | `(tactic| walk_at "upd") => `(tactic| first | assumption | exact Upd.refl _ _ | ((with_reducible refine Upd.new ?_ ?_); (first | assumption | (simp only [HM.set_none]; refine ⟨?_, ?_⟩ <;> assumption)); walk_at "upd") | ((with_reducible refine Upd.at ?_ ?_); (first | exact List.mem_cons_self | exact List.mem_cons_of_mem _ List.mem_cons_self | exact List.mem_cons_of_mem _ (List.mem_cons_of_mem _ List.mem_cons_self)); walk_at "upd") | ((with_reducible refine Upd.old ?_ ?_); (first | assumption | (refine Upd.none (by assumption) ?_ (by assumption); simp)); walk_at "upd"))

section
variable {c : FC} {P : Params} {n : Nat} {m : LM} {H : HM} {X : XM}
/-! ## the law -/
noncomputable def lawBody (P : Params) : List Stmt := match (fdOf (KK P) 280).body with
  | .stmts l => l
  | _ => []
noncomputable def lawR (P : Params) (k : Nat) : List Stmt := (lawBody P).drop k
structure LS (P : Params) (H0 H : HM) (d e : Addr) : Prop where
  D : DrAt H d e
  T : TabSt P H
  U : Upd [185] H0 H
  d0 : H0 d = none
  e0 : H0 e = none
theorem LS.step {P : Params} {H0 H H' : HM} {d e : Addr} (S : LS P H0 H d e) (u : Upd [d, e] H H') (D : DrAt H' d e) : LS P H0 H' d e := by
  refine ⟨D, TabSt.upd S.T u fun a ha o z => ?_, S.U.comp u fun a ha => ?_, S.d0, S.e0⟩
  · obtain ⟨i, ns, h1, h2, _⟩ := S.D.2
    rcases List.mem_cons.mp ha with rfl | ha
    · rw [h1] at z; cases z
    · rw [List.mem_singleton.mp ha, h2] at z; cases z
  · rcases ha with ha | ha
    · exact .inl ha
    · rcases List.mem_cons.mp ha with rfl | ha
      · exact .inr S.d0
      · rw [List.mem_singleton.mp ha]; exact .inr S.e0
theorem LS.pure {P : Params} {H0 H H' : HM} {d e : Addr} (S : LS P H0 H d e) (u : Upd [] H H') : LS P H0 H' d e :=
  S.step (fun a o ha h => u a o (by simp) h) (S.D.upd u (by simp) (by simp))
theorem LS.tab {P : Params} {H0 H H' : HM} {d e : Addr} (S : LS P H0 H d e) (u : Upd [185] H H') (T : TabSt P H') : LS P H0 H' d e := by
  obtain ⟨ps, t1, _⟩ := S.T
  obtain ⟨i, ns, h1, h2, _⟩ := S.D.2
  exact ⟨S.D.upd u (fun q => by rw [List.mem_singleton.mp q, t1] at h1; cases h1) (fun q => by rw [List.mem_singleton.mp q, t1] at h2; cases h2), T, S.U.trans u, S.d0, S.e0⟩
/-- a mark -/
structure MkOk (l : List Nat) : Prop where
  ok : okT (plain l)
  tx : TxtOk l
  ln : l.length ≤ 10
theorem mk_of {l : List Nat} (h : ∀ x ∈ l, x = 32 ∨ x = 42 ∨ x = 58 ∨ (97 ≤ x ∧ x ≤ 122)) (hl : l.length ≤ 10) : MkOk l := by
  refine ⟨plain_ok fun x hx => ?_, fun x hx => ?_, hl⟩
  · rcases h x hx with rfl | rfl | rfl | h
    · exact ok32
    · exact ⟨by decide, by decide, by decide, by decide⟩
    · exact ⟨by decide, by decide, by decide, by decide⟩
    · exact ⟨by omega, by omega, by omega, by omega⟩
  · rcases h x hx with rfl | rfl | rfl | h
    · exact .inl rfl
    · exact .inr (by decide +kernel)
    · exact .inr (by decide +kernel)
    · right
      have : x = 97 ∨ x = 98 ∨ x = 99 ∨ x = 100 ∨ x = 101 ∨ x = 102 ∨ x = 103 ∨ x = 104 ∨ x = 105 ∨ x = 106 ∨ x = 107 ∨ x = 108 ∨ x = 109 ∨ x = 110 ∨ x = 111 ∨ x = 112 ∨ x = 113 ∨ x = 114 ∨ x = 115 ∨ x = 116 ∨ x = 117 ∨ x = 118 ∨ x = 119 ∨ x = 120 ∨ x = 121 ∨ x = 122 := by omega
      rcases this with rfl | rfl | rfl | rfl | rfl | rfl | rfl | rfl | rfl | rfl | rfl | rfl | rfl | rfl | rfl | rfl | rfl | rfl | rfl | rfl | rfl | rfl | rfl | rfl | rfl | rfl <;> decide +kernel
/-- the line -/
structure LnOk (w : Int) (fi l : List Nat) : Prop where
  sg : ∀ x ∈ l, sgn x
  ln : l.length ≤ 200
  cd : 0 ≤ w - (fi.length : Int) ∨ l = [] ∨ ∃ x r, l = x :: r ∧ x ≠ 32
theorem law1 {H0 : HM} {d e L : Addr} {Q : Value → HM → Prop} (O : Ok (c.call (fdOf (KK P) 280) L 280) (KK P) (n + 10)) (S : LS P H0 H d e)
    (h : ∀ (w : Int) (fi fr l : List Nat) H', 0 < w → w ≤ 40 → MkOk fi → MkOk fr → LnOk w fi l → LS P H0 H' d e → Exs (c.call (fdOf (KK P) 280) L 280) (lawR P 5) [("line", VT l), ("rest", VT fr), ("first", VT fi), ("width", VI w), ("draws", .ref d)] H' (EndJ Q) XF) :
    Exs (c.call (fdOf (KK P) 280) L 280) (lawR P 1) [("draws", .ref d)] H (EndJ Q) XF := by
  have e1 : lawR P 1 = _ :: lawR P 2 := rfl
  have e2 : lawR P 2 = _ :: lawR P 3 := rfl
  have e3 : lawR P 3 = _ :: lawR P 4 := rfl
  have e4 : lawR P 4 = _ :: lawR P 5 := rfl
  rw [e1]
  with_reducible refine Exs.via (fun m' H' => ∃ w : Int, m' = ([("width", VI w), ("draws", .ref d)] : LM) ∧ 0 < w ∧ w ≤ 40 ∧ LS P H0 H' d e) ?_ ?_
  · walk_at "run"
    rename_i r hr
    have Sa := S.pure (Upd.new (o := .list [VI 12, VI 40]) hr (Upd.refl [] _))
    have nd : r ≠ d := Ne.symm (HM.ne_of hr S.D.2.choose_spec.choose_spec.1)
    have ne : r ≠ e := Ne.symm (HM.ne_of hr S.D.2.choose_spec.choose_spec.2.1)
    with_reducible refine K_take (n := n + 9) (by assumption) Sa.D (by decide) (by decide) fun a H1 ha u1 D1 => ?_
    have Sb := Sa.step u1 D1
    have k1 : H1 r = some (.list [VI 12, VI 40]) := u1 _ _ (by simp [nd, ne]) (HM.set_same _ _ _)
    have hat : ∃ k : Int, at? [VI 12, VI 40] (a : Int) = some (VI k) ∧ 0 < k ∧ k ≤ 40 := by
      match a, ha with
      | 0, _ => exact ⟨12, rfl, by decide, by decide⟩
      | 1, _ => exact ⟨40, rfl, by decide, by decide⟩
      | k + 2, h => omega
    obtain ⟨k, hk, hk1, hk2⟩ := hat
    refine ItemG.list k1 hk (by omega) ?_
    walk_at "run"
    with_reducible refine K_take (n := n + 9) (by assumption) D1 hk1 (by omega) fun b H2 hb u2 D2 => ?_
    walk_at "run"
    exact ViaJ.mk (by walk_at "le") ⟨1 + (b : Int), rfl, by omega, by omega, Sb.step u2 D2⟩
  rintro _ H1 ⟨w, rfl, w1, w2, S1⟩
  rw [e2]
  with_reducible refine Exs.via (fun m' H' => ∃ fi fr : List Nat, m' = ([("rest", VT fr), ("first", VT fi), ("width", VI w), ("draws", .ref d)] : LM) ∧ MkOk fi ∧ MkOk fr ∧ LS P H0 H' d e) ?_ ?_
  · walk_at "run"
    rename_i r hr
    have Sa := S1.pure (Upd.new (o := .list [VT [], VT [32, 32], VT [42, 32], VT [117, 115, 97, 103, 101, 58, 32]]) hr (Upd.refl [] _))
    have nd : r ≠ d := Ne.symm (HM.ne_of hr S1.D.2.choose_spec.choose_spec.1)
    have ne : r ≠ e := Ne.symm (HM.ne_of hr S1.D.2.choose_spec.choose_spec.2.1)
    with_reducible refine K_take (n := n + 9) (by assumption) Sa.D (by decide) (by decide) fun a H2 ha u1 D1 => ?_
    have Sb := Sa.step u1 D1
    have k1 : H2 r = some (.list [VT [], VT [32, 32], VT [42, 32], VT [117, 115, 97, 103, 101, 58, 32]]) := u1 _ _ (by simp [nd, ne]) (HM.set_same _ _ _)
    have hat : ∃ k : List Nat, at? [VT [], VT [32, 32], VT [42, 32], VT [117, 115, 97, 103, 101, 58, 32]] (a : Int) = some (VT k) ∧ MkOk k := by
      match a, ha with
      | 0, _ => exact ⟨[], rfl, mk_of (by decide) (by decide)⟩
      | 1, _ => exact ⟨[32, 32], rfl, mk_of (by decide) (by decide)⟩
      | 2, _ => exact ⟨[42, 32], rfl, mk_of (by decide) (by decide)⟩
      | 3, _ => exact ⟨[117, 115, 97, 103, 101, 58, 32], rfl, mk_of (by decide) (by decide)⟩
      | k + 4, h => omega
    obtain ⟨fi, hk, hm1⟩ := hat
    refine ItemG.list k1 hk (by omega) ?_
    walk_at "run"
    rename_i r2 hr2
    have Sc := Sb.pure (Upd.new (o := .list [VT [], VT [32, 32], VT [32, 32, 32, 32]]) hr2 (Upd.refl [] _))
    have nd2 : r2 ≠ d := Ne.symm (HM.ne_of hr2 Sb.D.2.choose_spec.choose_spec.1)
    have ne2 : r2 ≠ e := Ne.symm (HM.ne_of hr2 Sb.D.2.choose_spec.choose_spec.2.1)
    with_reducible refine K_take (n := n + 9) (by assumption) Sc.D (by decide) (by decide) fun b H3 hb u3 D3 => ?_
    have Sd := Sc.step u3 D3
    have k2 : H3 r2 = some (.list [VT [], VT [32, 32], VT [32, 32, 32, 32]]) := u3 _ _ (by simp [nd2, ne2]) (HM.set_same _ _ _)
    have hat2 : ∃ k : List Nat, at? [VT [], VT [32, 32], VT [32, 32, 32, 32]] (b : Int) = some (VT k) ∧ MkOk k := by
      match b, hb with
      | 0, _ => exact ⟨[], rfl, mk_of (by decide) (by decide)⟩
      | 1, _ => exact ⟨[32, 32], rfl, mk_of (by decide) (by decide)⟩
      | 2, _ => exact ⟨[32, 32, 32, 32], rfl, mk_of (by decide) (by decide)⟩
      | k + 3, h => omega
    obtain ⟨fr, hk2, hm2⟩ := hat2
    refine ItemG.list k2 hk2 (by omega) ?_
    walk_at "run"
    rename_i t ht
    exact ViaJ.mk (by walk_at "le") ⟨fi, fr, rfl, hm1, hm2, Sd.pure (Upd.new ht (Upd.refl _ _))⟩
  rintro _ H2 ⟨fi, fr, rfl, m1, m2, S2⟩
  rw [e3]
  with_reducible refine Exs.via (fun m' H' => ∃ l : List Nat, m' = ([("line", VT l), ("rest", VT fr), ("first", VT fi), ("width", VI w), ("draws", .ref d)] : LM) ∧ LineL l ∧ LS P H0 H' d e) ?_ ?_
  · walk_at "run"
    with_reducible refine K_line (n := n + 7) (by assumption) S2.D (by decide) (by decide) fun l H3 hl u3 D3 => ?_
    walk_at "run"
    exact ViaJ.mk (by walk_at "le") ⟨l, rfl, hl, S2.step u3 D3⟩
  rintro _ H3 ⟨l, rfl, hl, S3⟩
  rw [e4]
  with_reducible refine Exs.via (fun m' H' => ∃ l : List Nat, m' = ([("line", VT l), ("rest", VT fr), ("first", VT fi), ("width", VI w), ("draws", .ref d)] : LM) ∧ LnOk w fi l ∧ H' = H3) ?_ ?_
  · have hf1 : fi.length < 16000000 := by have := m1.ln; omega
    have hl1 : l.length ≤ 16000000 := by have := hl.ln; omega
    walk_at "run"
    refine iteD (fun hi => ?_) (fun hi => ?_)
    · walk_at "run"
      refine ViaJ.mk (by walk_at "le") ⟨lstripL [32].contains l, rfl, ⟨fun x hx => hl.sg x ((List.dropWhile_sublist _).subset hx), Nat.le_trans (lstripL_le _ _) hl.ln, .inr (.inr (lstrip_line hl).hd)⟩, rfl⟩
    · walk_at "run"
      exact ViaJ.mk (by walk_at "le") ⟨l, rfl, ⟨hl.sg, hl.ln, .inl (by omega)⟩, rfl⟩
  rintro _ _ ⟨l2, rfl, hl2, q⟩
  rw [q]
  exact h w fi fr l2 H3 w1 w2 m1 m2 hl2 S3
end

section
variable {c : FC} {P : Params} {n : Nat} {m : LM} {H : HM} {X : XM}
theorem K_text0p {w : Int} {l fi fr : List Nat} {out : List (List Nat)} {outT : List (List Tk)} {Q : Value → HM → Prop} (O : Ok c (KK P) (n + 8)) (hw : 0 < w) (oi : okT (plain fi)) (or : okT (plain fr)) (ol : okT (plain l)) (li : fi.length ≤ 100000) (lr : fr.length ≤ 100000) (ll : l.length ≤ 100000)
    (hf : wrapF w (plain fi) (plain fr) 100000 (chunkT (plain l)) [] = some outT) (ho : outT.map flatT = out) (hj : joinSize [10] out ≤ 16000000) (h : Q (VT (joinL [10] out)) H) : CallJ c (.ref 190) [VT l, VI w, VT fi, VT fr] [] m H Q X := by
  have := K_text0 (ts := plain l) (fi := plain fi) (fr := plain fr) (m := m) (H := H) (Q := Q) (X := X) (w := w) (n := n) O hw oi or ol (by rw [flatT_plain]; exact li) (by rw [flatT_plain]; exact lr) (by rw [flatT_plain]; exact ll) (Nat.le_refl _) hf (by rw [ho]; exact hj) (by rw [ho]; exact h)
  rw [flatT_plain, flatT_plain, flatT_plain] at this
  exact this
theorem line_ok {w : Int} {fi l : List Nat} (h : LnOk w fi l) : okT (plain l) ∧ TxtOk l := ⟨rowc_plain fun x hx => .inl (h.sg x hx), fun x hx => (sgn_sp (h.sg x hx)).imp id fun q => q.1⟩
theorem law2 {H0 : HM} {d e L : Addr} {w : Int} {fi fr l : List Nat} {Q : Value → HM → Prop} (O : Ok (c.call (fdOf (KK P) 280) L 280) (KK P) (n + 10)) (S : LS P H0 H d e) (hw : 0 < w) (hw2 : w ≤ 40) (m1 : MkOk fi) (m2 : MkOk fr) (hl : LnOk w fi l)
    (h : ∀ (lr : Addr) out bs H', LineRes w fi fr l out bs → H' lr = some (.list (out.map VT)) → H lr = none → LS P H0 H' d e → Exs (c.call (fdOf (KK P) 280) L 280) (lawR P 8) [("lines", .ref lr), ("line", VT l), ("rest", VT fr), ("first", VT fi), ("width", VI w), ("draws", .ref d)] H' (EndJ Q) XF) :
    Exs (c.call (fdOf (KK P) 280) L 280) (lawR P 5) [("line", VT l), ("rest", VT fr), ("first", VT fi), ("width", VI w), ("draws", .ref d)] H (EndJ Q) XF := by
  have e5 : lawR P 5 = _ :: lawR P 6 := rfl
  have e6 : lawR P 6 = _ :: lawR P 7 := rfl
  have e7 : lawR P 7 = _ :: lawR P 8 := rfl
  obtain ⟨l1, l2⟩ := line_ok hl
  have lln := hl.ln
  have ln1 := m1.ln
  have ln2 := m2.ln
  obtain ⟨out, bs, outT, R, r1, r2⟩ := line_res (w := w) hw (by omega) m1.ok m2.ok m1.ln m2.ln l1 l2 (by omega) hl.cd
  have hjs := R.js
  have hjl := joinL_length [10] out
  rw [e5]
  with_reducible refine Exs.via (fun m' H' => m' = ([("found", VT (joinL [10] out)), ("line", VT l), ("rest", VT fr), ("first", VT fi), ("width", VI w), ("draws", .ref d)] : LM) ∧ H' = H) ?_ ?_
  · walk_at "run"
    with_reducible refine K_text0p (n := n + 2) (by assumption) hw m1.ok m2.ok l1 (by omega) (by omega) (by omega) r1 r2 (by omega) ?_
    walk_at "run"
    exact ViaJ.mk (by walk_at "le") ⟨rfl, rfl⟩
  rintro _ _ ⟨rfl, q⟩
  rw [q]; clear q
  rw [e6]
  with_reducible refine Exs.via (fun m' H' => ∃ lr, m' = ([("lines", .ref lr), ("found", VT (joinL [10] out)), ("line", VT l), ("rest", VT fr), ("first", VT fi), ("width", VI w), ("draws", .ref d)] : LM) ∧ H lr = none ∧ Upd [] H H' ∧ H' lr = some (.list (out.map VT))) ?_ ?_
  · walk_at "run"
    with_reducible refine K_laid (n := n + 8) (by assumption) (by omega) (by omega) (by omega) (by omega) R.law fun lr H' h1 h2 h3 => ?_
    walk_at "run"
    exact ViaJ.mk (by walk_at "le") ⟨lr, rfl, h1, h2, h3⟩
  rintro _ H1 ⟨lr, rfl, h1, h2, h3⟩
  have S1 := S.pure h2
  have hj16 : joinSize [10] out ≤ 16000000 := by omega
  rw [e7]
  with_reducible refine Exs.via (fun m' H' => m' = ([("lines", .ref lr), ("line", VT l), ("rest", VT fr), ("first", VT fi), ("width", VI w), ("draws", .ref d)] : LM) ∧ H' = H1) ?_ ?_
  · walk_at "run"
    refine iteFe (by simp) ?_
    walk_at "run"
    with_reducible refine K_llong (n := n + 9) (by assumption) h3 (by have := R.ol; omega) (fun y hy => by have := R.yl y hy; omega) (by omega) (by omega) R.long ?_
    walk_at "run"
    refine iteFe rfl ?_
    walk_at "run"
    exact ViaJ.mk (by walk_at "le") ⟨rfl, rfl⟩
  rintro _ _ ⟨rfl, q⟩
  rw [q]; clear q
  exact h lr out bs H1 R h3 h1 S1
end

section
variable {c : FC} {P : Params} {n : Nat} {m : LM} {H : HM} {X : XM}
def LV (l : List Nat) : List Value := l.map fun x => VT [x]
theorem LV_append (a b : List Nat) : LV (a ++ b) = LV a ++ LV b := List.map_append
theorem LV_len (a : List Nat) : (LV a).length = a.length := List.length_map _
theorem LV_inj {a b : List Nat} : LV a = LV b ↔ a = b := by
  constructor
  · intro h
    induction a generalizing b with
    | nil => cases b with
      | nil => rfl
      | cons _ _ => cases h
    | cons x r ih => cases b with
      | nil => cases h
      | cons y s =>
        simp only [LV, List.map_cons, List.cons.injEq] at h
        obtain ⟨h1, h2⟩ := h
        have h1 : VT [x] = VT [y] := h1
        have : x = y := by simpa [VT, S] using h1
        rw [this, ih h2]
  · rintro rfl; rfl
theorem flat_LV (a b : List Nat) : ∀ x ∈ LV a, ∀ y ∈ LV b, Flat2 x y := by
  have e : ∀ l : List Nat, LV l = (l.map fun x => [x]).map VT := fun l => by unfold LV; rw [List.map_map]; rfl
  rw [e, e]; exact flat_texts _ _
theorem law3 {H0 : HM} {d e L lr : Addr} {w : Int} {fi fr l : List Nat} {out bs : List (List Nat)} {Q : Value → HM → Prop} (O : Ok (c.call (fdOf (KK P) 280) L 280) (KK P) (n + 10)) (S : LS P H0 H d e) (m1 : MkOk fi) (m2 : MkOk fr) (hl : LnOk w fi l)
    (R : LineRes w fi fr l out bs) (hlr : H lr = some (.list (out.map VT)))
    (h : ∀ H', LS P H0 H' d e → Exs (c.call (fdOf (KK P) 280) L 280) (lawR P 11) [("line", VT l), ("rest", VT fr), ("first", VT fi), ("width", VI w), ("draws", .ref d)] H' (EndJ Q) XF) :
    Exs (c.call (fdOf (KK P) 280) L 280) (lawR P 8) [("lines", .ref lr), ("line", VT l), ("rest", VT fr), ("first", VT fi), ("width", VI w), ("draws", .ref d)] H (EndJ Q) XF := by
  have e8 : lawR P 8 = _ :: lawR P 9 := rfl
  have e9 : lawR P 9 = _ :: lawR P 10 := rfl
  have e10 : lawR P 10 = _ :: lawR P 11 := rfl
  have lln := hl.ln
  have ln1 := m1.ln
  have ln2 := m2.ln
  have hol := R.ol
  have hbl : bs.length = out.length := by rw [R.eq, List.length_mapIdx]
  have hbs : bs.flatten.length ≤ 400000 := by
    have : ∀ (zs : List (List Nat)), (∀ y ∈ zs, y.length ≤ 1000) → zs.flatten.length ≤ 1000 * zs.length := by
      intro zs hz
      induction zs with
      | nil => simp
      | cons z r ih =>
        have h1 := hz z List.mem_cons_self
        have h2 := ih fun y hy => hz y (List.mem_cons_of_mem _ hy)
        rw [List.flatten_cons, List.length_append, List.length_cons]; omega
    have := this bs fun y hy => by
      obtain ⟨i, hi, rfl⟩ := List.getElem_of_mem hy
      have h1 := R.yl _ (List.getElem_mem (show i < out.length by omega))
      have h2 : out[i]? = some ((if i = 0 then fi else fr) ++ bs[i]) := by rw [R.eq, List.getElem?_mapIdx, List.getElem?_eq_getElem hi]; rfl
      rw [List.getElem?_eq_getElem (by omega)] at h2
      rw [Option.some.inj h2, List.length_append] at h1
      omega
    omega
  rw [e8]
  with_reducible refine Exs.via (fun m' H' => ∃ br, m' = ([("bare", .ref br), ("lines", .ref lr), ("line", VT l), ("rest", VT fr), ("first", VT fi), ("width", VI w), ("draws", .ref d)] : LM) ∧ Upd [] H H' ∧ H' br = some (.list [])) ?_ ?_
  · walk_at "run"
    rename_i br hbr
    exact ViaJ.mk (by walk_at "le") ⟨br, rfl, Upd.new hbr (Upd.refl _ _), HM.set_same _ _ _⟩
  rintro _ H1 ⟨b0, rfl, u1, hb0⟩
  have hlr1 := u1 _ _ (by simp) hlr
  have hll : (out.map VT).length ≤ 16000000 := by rw [List.length_map]; omega
  rw [e9]
  with_reducible refine Exs.via (fun m' H' => ∃ br, m' = ([("bare", .ref br), ("line", VT l), ("rest", VT fr), ("first", VT fi), ("width", VI w), ("draws", .ref d)] : LM) ∧ Upd [] H H' ∧ H' br = some (.list (LV (lettersL l)))) ?_ ?_
  · refine Ex.forG O.hh ?_ (fun _ => rfl)
    walk_at "run"
    refine C_range1 fun r o hr ho => ?_
    rw [List.length_map] at *
    refine ⟨_, _, _, _, Src.range (HM.set_same _ _ _) ho (by omega) (by omega) (by omega), fun k m' H' => ∃ br, m' = ([("bare", .ref br), ("lines", .ref lr), ("line", VT l), ("rest", VT fr), ("first", VT fi), ("width", VI w), ("draws", .ref d)] : LM) ∧ Upd [] H H' ∧ H' br = some (.list (LV (lettersL (bs.take k).flatten))), ⟨_, _, by walk_at "le", HM.le_fresh hr, b0, rfl, u1, hb0⟩, ?_, ?_⟩
    · rintro k x m' H' hx ⟨br, rfl, u2, hb⟩
      rw [List.getElem?_map, Option.map_eq_some_iff] at hx
      obtain ⟨k', hk', rfl⟩ := hx
      obtain ⟨i1, i2⟩ := List.getElem?_eq_some_iff.mp hk'
      rw [List.getElem_range] at i2
      subst i2
      rw [List.length_range] at i1
      have hk : k < out.length := by omega
      have hkb : k < bs.length := by omega
      have hlr2 := u2 _ _ (by simp) hlr
      have hov : out[k] = (if k = 0 then fi else fr) ++ bs[k] := by
        have h2 : out[k]? = some ((if k = 0 then fi else fr) ++ bs[k]) := by
          conv => lhs; rw [R.eq]
          rw [List.getElem?_mapIdx, List.getElem?_eq_getElem hkb]; rfl
        rw [List.getElem?_eq_getElem hk] at h2
        exact Option.some.inj h2
      have hat : at? (out.map VT) (0 + (k : Int)) = some (VT ((if k = 0 then fi else fr) ++ bs[k])) := by
        unfold at?
        rw [if_pos (by omega), show (0 + (k : Int)).toNat = k from by omega, List.getElem?_map, List.getElem?_eq_getElem hk, hov]; rfl
      have hyl := R.yl _ (List.getElem_mem hk)
      rw [hov, List.length_append] at hyl
      have hfi : fi.length < 16000000 := by omega
      have hfr : fr.length < 16000000 := by omega
      have htk : (bs.take (k + 1)).flatten = (bs.take k).flatten ++ bs[k] := by
        rw [List.take_add_one, List.getElem?_eq_getElem hkb, List.flatten_append]; simp
      have htl : (lettersL (bs.take k).flatten).length ≤ 400000 := by
        refine Nat.le_trans (lettersOf_len _) (Nat.le_trans ?_ hbs)
        conv => rhs; rw [← List.take_append_drop k bs]
        rw [List.flatten_append, List.length_append]; omega
      have fin : ∀ mk : List Nat, mk = (if k = 0 then fi else fr) → cut ((if k = 0 then fi else fr) ++ bs[k]) (some ((mk.length : Int)).toNat) none = bs[k] := fun mk e => by
        rw [← e, Int.toNat_natCast]
        show (mk ++ bs[k]).drop mk.length = _
        rw [List.drop_left]
      walk_at "run"
      refine ItemG.list hlr2 hat (by omega) ?_
      walk_at "run"
      refine iteD (fun h0 => ?_) (fun h0 => ?_)
      · have hmk : fi = (if k = 0 then fi else fr) := by rw [if_pos (show k = 0 from by omega)]
        walk_at "run"
        refine SliceG.str (Bnd.ofInt (by omega)) .non (by rw [List.length_append]; omega) ?_
        rw [fin fi hmk]
        walk_at "run"
        with_reducible refine K_letters (n := n + 9) (by assumption) (by omega) fun q hq => ?_
        have hb2 : (H'.set q (.list (LV (lettersL bs[k])))) br = some (.list (LV (lettersL (bs.take k).flatten))) := by rw [HM.set_ne _ _ (HM.ne_of hq hb)]; exact hb
        refine O_addLX _ _ hb2 (HM.set_same _ _ _) (by rw [LV_len, List.length_map]; have := lettersOf_len bs[k]; omega) fun z hz => ?_
        walk_at "run"
        refine ⟨_, _, by walk_at "le", HM.le.refl _, z, rfl, Upd.new hz (Upd.new hq u2), ?_⟩
        rw [HM.set_same, htk, letters_append, LV_append]; rfl
      · have hmk : fr = (if k = 0 then fi else fr) := by rw [if_neg (show ¬ k = 0 from by omega)]
        walk_at "run"
        refine SliceG.str (Bnd.ofInt (by omega)) .non (by rw [List.length_append]; omega) ?_
        rw [fin fr hmk]
        walk_at "run"
        with_reducible refine K_letters (n := n + 9) (by assumption) (by omega) fun q hq => ?_
        have hb2 : (H'.set q (.list (LV (lettersL bs[k])))) br = some (.list (LV (lettersL (bs.take k).flatten))) := by rw [HM.set_ne _ _ (HM.ne_of hq hb)]; exact hb
        refine O_addLX _ _ hb2 (HM.set_same _ _ _) (by rw [LV_len, List.length_map]; have := lettersOf_len bs[k]; omega) fun z hz => ?_
        walk_at "run"
        refine ⟨_, _, by walk_at "le", HM.le.refl _, z, rfl, Upd.new hz (Upd.new hq u2), ?_⟩
        rw [HM.set_same, htk, letters_append, LV_append]; rfl
    · rintro m' H' ⟨br, rfl, u2, hb⟩
      rw [List.length_map, List.length_range, show ((out.length : Int) - 0).toNat = bs.length from by omega, List.take_length, R.lt] at hb
      exact ViaJ.mk (by walk_at "le") ⟨br, rfl, u2, hb⟩
  rintro _ H2 ⟨br, rfl, u2, hb⟩
  rw [e10]
  with_reducible refine Exs.via (fun m' H' => m' = ([("line", VT l), ("rest", VT fr), ("first", VT fi), ("width", VI w), ("draws", .ref d)] : LM) ∧ Upd [] H H') ?_ ?_
  · walk_at "run"
    with_reducible refine K_letters (n := n + 9) (by assumption) (by omega) fun q hq => ?_
    have hb2 : (H2.set q (.list (LV (lettersL l)))) br = some (.list (LV (lettersL l))) := by rw [HM.set_ne _ _ (HM.ne_of hq hb)]; exact hb
    refine O_neL (by assumption) hb2 (HM.set_same _ _ _) (flat_LV _ _) ?_
    walk_at "run"
    refine iteFe (by simp [LV]) ?_
    walk_at "run"
    exact ViaJ.mk (by walk_at "le") ⟨rfl, Upd.new hq u2⟩
  rintro _ H3 ⟨rfl, u3⟩
  exact h H3 (S.pure u3)
end

section
variable {c : FC} {P : Params} {n : Nat} {m : LM} {H : HM} {X : XM}
variable {p : Program} {loose : List Str} {mean : ExcName → Option Value} {mg mb : Str → Option Value}
theorem K_text1p (T : Top p loose mean mg mb c.s₀.heap) (C : ∀ cc, (fdOf (KK P) 190).code = .ref cc → CodeHd c.s₀.heap cc 185) {w : Int} {fi fr t : List Nat} {Q : Value → HM → Prop} (O : Ok c (KK P) (n + 8)) (hw : 0 < w) (m1 : MkOk fi) (m2 : MkOk fr) (ht : TextOk t) (hT : TabSt P H)
    {res : List (List Nat)} (hres : F2 (ParRes w (plain fi) (plain fr)) (parsT (plain t)) res) (hjr : joinSize [10, 10] res ≤ 16000000)
    (h : ∀ H', Upd [185] H H' → TabSt P H' → Q (VT (joinL [10, 10] res)) H') : CallJ c (.ref 190) [VT t, VI w, VT fi, VT fr, VB true] [] m H Q X := by
  have h1 := ht.ln
  have h2 := m1.ln
  have h3 := m2.ln
  have := K_text1 (ts := plain t) (fi := plain fi) (fr := plain fr) (m := m) (H := H) (Q := Q) (X := X) (w := w) (n := n) T C O hw m1.ok m2.ok ht.ok (by rw [flatT_plain]; omega) (by rw [flatT_plain]; omega) (by rw [flatT_plain]; omega) hT hres hjr h
  rw [flatT_plain, flatT_plain, flatT_plain] at this
  exact this
theorem mk_nil : MkOk [] := mk_of (by decide) (by decide)
theorem ok256 {l : List Nat} (h : okT (plain l)) : ∀ x ∈ l, x < 256 := fun x hx => by
  have := (h (.ch x) (List.mem_map_of_mem hx)).2.1; omega
theorem law4 (T : Top p loose mean mg mb c.s₀.heap) (C : ∀ cc, (fdOf (KK P) 190).code = .ref cc → CodeHd c.s₀.heap cc 185) {H0 : HM} {d e L : Addr} {w : Int} {fi fr l : List Nat} {Q : Value → HM → Prop} (O : Ok (c.call (fdOf (KK P) 280) L 280) (KK P) (n + 10)) (S : LS P H0 H d e) (hw : 0 < w) (hw2 : w ≤ 40) (m1 : MkOk fi) (m2 : MkOk fr)
    (h : ∀ t H', TextOk t → LS P H0 H' d e → Exs (c.call (fdOf (KK P) 280) L 280) (lawR P 13) [("text", VT t), ("line", VT l), ("rest", VT fr), ("first", VT fi), ("width", VI w), ("draws", .ref d)] H' (EndJ Q) XF) :
    Exs (c.call (fdOf (KK P) 280) L 280) (lawR P 11) [("line", VT l), ("rest", VT fr), ("first", VT fi), ("width", VI w), ("draws", .ref d)] H (EndJ Q) XF := by
  have e11 : lawR P 11 = _ :: lawR P 12 := rfl
  have e12 : lawR P 12 = _ :: lawR P 13 := rfl
  rw [e11]
  with_reducible refine Exs.via (fun m' H' => ∃ t, m' = ([("text", VT t), ("line", VT l), ("rest", VT fr), ("first", VT fi), ("width", VI w), ("draws", .ref d)] : LM) ∧ TextOk t ∧ LS P H0 H' d e) ?_ ?_
  · walk_at "run"
    with_reducible refine K_ltext (n := n + 6) (by assumption) S.D fun rows H' r1 r2 r3 r4 u1 D1 => ?_
    walk_at "run"
    exact ViaJ.mk (by walk_at "le") ⟨_, rfl, text_ok r1 r2 r3 r4, S.step u1 D1⟩
  rintro _ H1 ⟨t, rfl, ht, S1⟩
  have t1 := ht.ln
  have f1 := m1.ln
  have f2 := m2.ln
  obtain ⟨res, r1, r2, r3, r4⟩ := text_res (w := w) hw (by omega) m1.ok m2.ok m1.ln m2.ln ht
  rw [e12]
  with_reducible refine Exs.via (fun m' H' => m' = ([("text", VT t), ("line", VT l), ("rest", VT fr), ("first", VT fi), ("width", VI w), ("draws", .ref d)] : LM) ∧ LS P H0 H' d e) ?_ ?_
  · walk_at "run"
    with_reducible refine K_text1p (n := n + 2) (c := c.call (fdOf (KK P) 280) L 280) T C (by assumption) hw m1 m2 ht S1.T r2 r3 fun H2 u2 T2 => ?_
    have S2 := S1.tab u2 T2
    walk_at "run"
    with_reducible refine K_lwrapped (n := n + 7) (by assumption) (by omega) (ok256 ht.ok) (by have := ht.sz; omega) (by omega) (by omega) (fun q hq => ?_) (by have := ht.pl; omega) r1 r3 ?_
    · obtain ⟨q1, q2⟩ := ht.q q hq
      obtain ⟨hd, tl, e, _⟩ := q1.rows
      refine ⟨by have := q1.ind; omega, by rw [e]; simp, by rw [joinSize_szR]; omega, fun y hy => ?_⟩
      have : ∀ (ls : List (List Nat)), y ∈ ls → y.length ≤ szR ls := by
        intro ls
        induction ls with
        | nil => intro h; cases h
        | cons a b ih =>
          intro h
          rw [szR_cons]
          rcases List.mem_cons.mp h with rfl | h
          · omega
          · have := ih h; omega
      have := this _ hy; omega
    walk_at "run"
    refine iteFe (by simp) ?_
    walk_at "run"
    exact ViaJ.mk (by walk_at "le") ⟨rfl, S2⟩
  rintro _ H3 ⟨rfl, S3⟩
  exact h t H3 ht S3
theorem law5 (T : Top p loose mean mg mb c.s₀.heap) (C : ∀ cc, (fdOf (KK P) 190).code = .ref cc → CodeHd c.s₀.heap cc 185) {H0 : HM} {d e L : Addr} {w : Int} {fi fr l t : List Nat} {Q : Value → HM → Prop} (O : Ok (c.call (fdOf (KK P) 280) L 280) (KK P) (n + 10)) (S : LS P H0 H d e) (hw : 0 < w) (hw2 : w ≤ 40) (ht : TextOk t)
    (h : ∀ H', LS P H0 H' d e → Exs (c.call (fdOf (KK P) 280) L 280) (lawR P 14) [("line", VT l), ("rest", VT fr), ("first", VT fi), ("width", VI w), ("draws", .ref d)] H' (EndJ Q) XF) :
    Exs (c.call (fdOf (KK P) 280) L 280) (lawR P 13) [("text", VT t), ("line", VT l), ("rest", VT fr), ("first", VT fi), ("width", VI w), ("draws", .ref d)] H (EndJ Q) XF := by
  have e13 : lawR P 13 = _ :: lawR P 14 := rfl
  have t1 := ht.ln
  obtain ⟨res, r1, r2, r3, r4⟩ := text_res (w := w) hw (by omega) mk_nil.ok mk_nil.ok (by decide) (by decide) ht
  have hjl := joinL_length [10, 10] res
  rw [e13]
  with_reducible refine Exs.via (fun m' H' => m' = ([("line", VT l), ("rest", VT fr), ("first", VT fi), ("width", VI w), ("draws", .ref d)] : LM) ∧ LS P H0 H' d e) ?_ ?_
  · walk_at "run"
    with_reducible refine K_text1p (n := n + 2) (c := c.call (fdOf (KK P) 280) L 280) T C (by assumption) hw mk_nil mk_nil ht S.T r2 r3 fun H2 u2 T2 => ?_
    have S2 := S.tab u2 T2
    walk_at "run"
    with_reducible refine K_letters (n := n + 9) (by assumption) (by omega) fun q hq => ?_
    have g1 : (H2.set q (.list (LV (lettersL (joinL [10, 10] res))))) q = _ := HM.set_same _ _ _
    have u3 : Upd [] H2 (H2.set q (.list (LV (lettersL (joinL [10, 10] res))))) := Upd.new hq (Upd.refl _ _)
    rw [r4 rfl rfl] at *
    show Ev _ _ _ (H2.set q (.list (LV (L8 t)))) _ _
    generalize H2.set q (.list (LV (L8 t))) = H3 at *
    refine Ev.compG O.hh rfl rfl (by decide) (by decide) ?_ (fun _ => rfl)
    walk_at "run"
    with_reducible refine K_letters (n := n + 9) (by assumption) (by omega) fun q2 hq2 => ?_
    have hln := lettersOf_len t
    refine ⟨_, _, _, _, Src.list (HM.set_same _ _ _) (by rw [List.length_map]; omega), fun ys H' => H' = ((H3.set q2 (.list (LV (lettersL t)))).del q2) ∧ ys = LV (L8 t), fun C => ?_, ?_⟩
    · have Oc := O.comp (scope := { kind := ScopeKind.function, names := [(Str.ofString ".0", NameKind.local), (Str.ofString "sign", NameKind.local)], isGenerator := false, isCoroutine := false }) rfl [] C
      with_reducible refine Turns.one (fun k ys m' H' => H' = ((H3.set q2 (.list (LV (lettersL t)))).del q2) ∧ m' = ([] : LM) ∧ ys = LV (((lettersL t).take k).filter fun x => !decide (x = 8))) ?_ ?_ ?_
      · exact Keep.here ⟨rfl, rfl, rfl⟩
      · rintro k x ys m' H' hx ⟨rfl, rfl, rfl⟩
        rw [List.getElem?_map, Option.map_eq_some_iff] at hx
        obtain ⟨y, hy, rfl⟩ := hx
        have htk : ((lettersL t).take (k + 1)).filter (fun x => !decide (x = 8)) = ((lettersL t).take k).filter (fun x => !decide (x = 8)) ++ (if (!decide (y = 8)) = true then [y] else []) := by
          rw [List.take_add_one, hy, List.filter_append]
          congr 1
          simp only [Option.toList_some, List.filter_cons, List.filter_nil]
        rw [htk]
        walk_at "run"
        refine TestsJ.one ?_
        walk_at "run"
        have hd8 : decide ([y] = [8]) = decide (y = 8) := by simp
        rw [hd8]
        cases hb : (!decide (y = 8)) with
        | true =>
          rw [if_pos rfl, if_pos rfl]
          refine ⟨?_, ?_⟩
          · rw [LV_len]
            have := List.length_filter_le (fun x => !decide (x = 8)) ((lettersL t).take k)
            rw [List.length_take] at this; omega
          · walk_at "run"
            exact ⟨_, _, by walk_at "le", HM.le.refl _, rfl, rfl, by rw [LV_append]; rfl⟩
        | false =>
          rw [if_neg Bool.false_ne_true, if_neg Bool.false_ne_true, List.append_nil]
          exact ⟨_, _, by walk_at "le", HM.le.refl _, rfl, rfl, rfl⟩
      · rintro ys m' H' ⟨rfl, rfl, rfl⟩
        rw [List.length_map, List.take_length]
        exact ⟨rfl, rfl⟩
    · rintro D ys H' hD1 hD2 ⟨rfl, rfl⟩
      have hDq := HM.set_none.mp hD1
      have u4 : Upd [] H3 ((((H3.set q2 (.list (LV (lettersL t)))).del q2).set D (.list (LV (L8 t)))).set q2 (.list ((lettersL t).map fun x => VT [x]))) := Upd.old hq2 (Upd.old hDq.2 (Upd.del hq2 (Upd.old hq2 (Upd.refl _ _))))
      refine O_neL (by assumption) (u4 _ _ (by simp) g1) (by rw [HM.set_ne _ _ hDq.1, HM.set_same]) (flat_LV _ _) ?_
      walk_at "run"
      refine iteFe (by simp [LV]) ?_
      walk_at "run"
      exact ViaJ.mk (by walk_at "le") ⟨rfl, (S2.pure u3).pure u4⟩
  rintro _ H3 ⟨rfl, S3⟩
  exact h H3 S3
end

section
variable {c : FC} {P : Params} {n : Nat} {m : LM} {H : HM} {X : XM}
theorem K_text0t {w : Int} {fr : List Nat} {ts fi : List Tk} {outT : List (List Tk)} {Q : Value → HM → Prop} (O : Ok c (KK P) (n + 8)) (hw : 0 < w) (oi : okT fi) (or : okT (plain fr)) (ol : okT ts) (li : (flatT fi).length ≤ 100000) (lr : fr.length ≤ 100000) (ll : (flatT ts).length ≤ 100000)
    (hf : wrapF w fi (plain fr) 100000 (chunkT ts) [] = some outT) (hj : joinSize [10] (outT.map flatT) ≤ 16000000) (h : Q (VT (flatT (joinTk 10 outT))) H) : CallJ c (.ref 190) [VT (flatT ts), VI w, VT (flatT fi), VT fr] [] m H Q X := by
  have := K_text0 (ts := ts) (fi := fi) (fr := plain fr) (m := m) (H := H) (Q := Q) (X := X) (w := w) (n := n) O hw oi or ol li (by rw [flatT_plain]; exact lr) ll (Nat.le_refl _) hf hj (by rw [← joinTk_flat]; exact h)
  rw [flatT_plain] at this
  exact this
theorem law7 {H0 : HM} {d e L : Addr} {w : Int} {fi fr l : List Nat} {Q : Value → HM → Prop} (O : Ok (c.call (fdOf (KK P) 280) L 280) (KK P) (n + 10)) (S : LS P H0 H d e) (hw : 0 < w) (hw2 : w ≤ 40) (m1 : MkOk fi) (m2 : MkOk fr) (hl : LnOk w fi l)
    (h : ∀ H', LS P H0 H' d e → Q (VB true) H') :
    Exs (c.call (fdOf (KK P) 280) L 280) (lawR P 15) [("line", VT l), ("rest", VT fr), ("first", VT fi), ("width", VI w), ("draws", .ref d)] H (EndJ Q) XF := by
  have e15 : lawR P 15 = _ :: lawR P 16 := rfl
  have e16 : lawR P 16 = _ :: lawR P 17 := rfl
  have e17 : lawR P 17 = _ :: [] := rfl
  have lln := hl.ln
  have ln1 := m1.ln
  have ln2 := m2.ln
  obtain ⟨l1, l2⟩ := line_ok hl
  have f1 : fi.length < 16000000 := by omega
  have f2 : fr.length < 16000000 := by omega
  rw [e15]
  with_reducible refine Exs.via (fun m' H' => m' = ([("wide", VI (max (fi.length : Int) fr.length + w)), ("line", VT l), ("rest", VT fr), ("first", VT fi), ("draws", .ref d)] : LM) ∧ H' = H) ?_ ?_
  · walk_at "run"
    refine C_max O.hh ?_
    walk_at "run"
    exact ViaJ.mk (by walk_at "le") ⟨rfl, rfl⟩
  rintro _ _ ⟨rfl, q⟩
  rw [q]; clear q
  have w1 : 1 ≤ max (fi.length : Int) fr.length + w - (fi.length : Int) := by omega
  have w2 : 1 ≤ max (fi.length : Int) fr.length + w - (fr.length : Int) := by omega
  have w3 : 0 < max (fi.length : Int) fr.length + w := by omega
  have w4 : max (fi.length : Int) fr.length + w ≤ 100 := by omega
  generalize max (fi.length : Int) fr.length + w = wd at *
  obtain ⟨out, bs, outP, R, r1, r2⟩ := line_res (w := wd) w3 w4 m1.ok m2.ok m1.ln m2.ln l1 l2 (by omega) (.inl (by omega))
  have hjs := R.js
  rw [e16]
  with_reducible refine Exs.via (fun m' H' => ∃ ts tsm, m' = ([("mark", VT (flatT (List.flatten tsm))), ("styled", VT (flatT (List.flatten ts))), ("wide", VI wd), ("line", VT l), ("rest", VT fr), ("first", VT fi)] : LM) ∧ F2 StyOf (partsL l) ts ∧ F2 StyOf (partsL fi) tsm ∧ LS P H0 H' d e) ?_ ?_
  · walk_at "run"
    with_reducible refine K_styled (n := n + 7) (by assumption) S.D (by omega) fun ts H1 h1 u1 D1 => ?_
    have S1 := S.step u1 D1
    walk_at "run"
    with_reducible refine K_styled (n := n + 7) (by assumption) S1.D (by omega) fun tsm H2 h2 u2 D2 => ?_
    have S2 := S1.step u2 D2
    walk_at "run"
    rename_i t ht
    exact ViaJ.mk (by walk_at "le") ⟨ts, tsm, rfl, h1, h2, S2.pure (Upd.new ht (Upd.refl _ _))⟩
  rintro _ H1 ⟨ts, tsm, rfl, h1, h2, S1⟩
  obtain ⟨outT, o1, o2, o3, o4⟩ := sty_res R m1.ok m2.ok m1.tx m1.ln m2.ln l1 l2 (by omega) h1 h2 w1 w2
  obtain ⟨_, _, _, c4, c5⟩ := sty_chunks l1 l2 h1
  obtain ⟨_, _, _, d4, d5⟩ := sty_chunks m1.ok m1.tx h2
  have hjl := joinL_length [10] (outT.map flatT)
  rw [e17]
  walk_at "run"
  with_reducible refine K_text0t (n := n + 2) (by assumption) w3 d4 m2.ok c4 (by omega) (by omega) (by omega) o1 (by omega) ?_
  walk_at "run"
  with_reducible refine K_bare (n := n + 9) (by assumption) o2 (by rw [joinTk_flat]; omega) fun H2 u2 => ?_
  rw [o3]
  walk_at "run"
  with_reducible refine K_text0p (n := n + 2) (by assumption) w3 m1.ok m2.ok l1 (by omega) (by omega) (by omega) r1 r2 (by omega) ?_
  walk_at "run"
  rw [decide_eq_true rfl]
  exact EndJ.retE (h _ (S1.pure u2))
end

section
variable {c : FC} {P : Params} {n : Nat} {m : LM} {H : HM}
theorem CallJ.runXF {K : Frag} {base U : Heap} {outer : List Env} {f : Addr} {fd : FuncData} {body : List Stmt} {as : List Value} {ks bs : List (Str × Value)} {Q : Value → HM → Prop} (O : Ok c K (n + 1)) (B : BelowS c base U outer) (W : Fn K f fd body) (hb : FnBinds K fd as ks bs)
    (hk : okBinds fd.scope.names (bs.map (·.1)) = true)
    (h : ∀ (c1 : FC) L, (∀ k, L ≤ k → H k = none) → Ok (c1.call (fdOf K f) L f) K n → BelowS (c1.call (fdOf K f) L f) base U (c.env :: outer) → Exs (c1.call (fdOf K f) L f) body (bindLM (c1.call (fdOf K f) L f).env.kindOf bs []) (cellsH H (cellsFrom (L + 1) (fdOf K f).scope.names []) (bindCM (c1.call (fdOf K f) L f).env.kindOf bs fun _ => none))
      (fun _ _ _ => False) (XFl (c1.call (fdOf K f) L f) base U (c.env :: outer))) : CallJ c (.ref f) as ks m H Q (XFlF c base U outer) := by
  have ef : fdOf K f = fd := by
    obtain ⟨_, _, _, e⟩ := W.look
    unfold fdOf; rw [e]
  subst ef
  exact CallJ.fnX O B W hb (fun x hx => by
    have := List.all_eq_true.mp hk x.1 (List.mem_map.mpr ⟨x, hx, rfl⟩)
    rw [Bool.or_eq_true, beq_iff_eq, beq_iff_eq] at this
    exact this) h
theorem CallJ.runX {K : Frag} {base U : Heap} {outer : List Env} {f : Addr} {fd : FuncData} {body : List Stmt} {as : List Value} {ks bs : List (Str × Value)} {Q : Value → HM → Prop} (O : Ok c K (n + 1)) (B : BelowS c base U outer) (W : Fn K f fd body) (hb : FnBinds K fd as ks bs)
    (hk : okBinds fd.scope.names (bs.map (·.1)) = true)
    (h : ∀ (c1 : FC) L, (∀ k, L ≤ k → H k = none) → Ok (c1.call (fdOf K f) L f) K n → BelowS (c1.call (fdOf K f) L f) base U (c.env :: outer) → Exs (c1.call (fdOf K f) L f) body (bindLM (c1.call (fdOf K f) L f).env.kindOf bs []) (cellsH H (cellsFrom (L + 1) (fdOf K f).scope.names []) (bindCM (c1.call (fdOf K f) L f).env.kindOf bs fun _ => none))
      (fun _ _ _ => False) (XFl (c1.call (fdOf K f) L f) base U (c.env :: outer))) : CallJ c (.ref f) as ks m H Q (XFl c base U outer) := fun Fv Vs Ks e0 e1 e2 => (CallJ.runXF (Q := Q) O B W hb hk h Fv Vs Ks e0 e1 e2).mono (fun _ _ q => q) fun _ _ _ q => q.fl
theorem t_inv : (Str.ofString "invalid width ") = S [105, 110, 118, 97, 108, 105, 100, 32, 119, 105, 100, 116, 104, 32] := by rfl
theorem t_must : (Str.ofString " (must be > 0)") = S [32, 40, 109, 117, 115, 116, 32, 98, 101, 32, 62, 32, 48, 41] := by rfl
theorem K_chunksX {base U : Heap} {outer : List Env} {x d rc : Addr} {w : Int} {a b : List Nat} {Q : Value → HM → Prop} (O : Ok c (KK P) (n + 1)) (B : BelowS c base U outer) (hx : H x = some (.raw (instObj 180 d))) (hd : H d = some (.dic (tw w a b))) (hw : w = 0 ∨ w = -1 ∨ w = -2) : CallJ c (.ref 163) [.ref x, .ref rc] [] m H Q (XFl c base U outer) := by
  refine CallJ.runX O B ⟨⟨_, _, _, rfl⟩, rfl, rfl, rfl, rfl, rfl, rfl, rfl, rfl, by decide⟩ (.a2 fun _ _ => rfl) rfl ?_
  intro c1 L hL Ok' B'
  show Exs _ _ [("chunks", .ref rc), ("self", .ref x)] H _ _
  walk_at "run"
  refine iteD (fun hk => ?_) (fun hk => absurd (show w ≤ 0 by omega) hk)
  walk_at "run"
  refine Ex.raiseVE Ok'.hh ?_ rfl rfl
  walk_at "run"
  refine ⟨rfl, ?_⟩
  walk_at "run"
  refine Ev.fstrR _ _ t_inv t_must (by decide) (by decide) ?_
  walk_at "run"
  refine ⟨w, rfl, hw, fun y => ?_⟩
  walk_at "run"
  exact ⟨by simp, fun F s0 h' e Vs S hm => XFl.made B' S hm⟩
theorem K_wrapX {base U : Heap} {outer : List Env} {x d : Addr} {w : Int} {a b : List Nat} {ts : List Tk} {Q : Value → HM → Prop} (O : Ok c (KK P) (n + 3)) (B : BelowS c base U outer) (hx : H x = some (.raw (instObj 180 d))) (hd : H d = some (.dic (tw w a b))) (hw : w = 0 ∨ w = -1 ∨ w = -2) (ot : okT ts) (lt : (flatT ts).length ≤ 100000) : CallJ c (.ref 65) [.ref x, VT (flatT ts)] [] m H Q (XFl c base U outer) := by
  refine CallJ.runX O B ⟨⟨_, _, _, rfl⟩, rfl, rfl, rfl, rfl, rfl, rfl, rfl, rfl, by decide⟩ (.a2 fun _ _ => rfl) rfl ?_
  intro c1 L hL Ok' B'
  show Exs _ _ [("text", VT (flatT ts)), ("self", .ref x)] H _ _
  walk_at "run"
  refine C_expandtabs (fun h9 => (flat_mem ot h9).1 rfl) ?_
  walk_at "run"
  with_reducible refine K_split (n := n + 1) (by assumption) (by omega) (fun r hr => ?_)
  have hx' : (H.set r (.list ((chunkL (flatT ts)).map VT))) x = some (.raw (instObj 180 d)) := by walk_at "heap"
  have hd' : (H.set r (.list ((chunkL (flatT ts)).map VT))) d = some (.dic (tw w a b)) := by walk_at "heap"
  walk_at "run"
  exact K_chunksX (n := n + 1) (by assumption) B' hx' hd' hw
theorem K_fillX {base U : Heap} {outer : List Env} {x d : Addr} {w : Int} {a b : List Nat} {ts : List Tk} {Q : Value → HM → Prop} (O : Ok c (KK P) (n + 4)) (B : BelowS c base U outer) (hx : H x = some (.raw (instObj 180 d))) (hd : H d = some (.dic (tw w a b))) (hw : w = 0 ∨ w = -1 ∨ w = -2) (ot : okT ts) (lt : (flatT ts).length ≤ 100000) : CallJ c (.ref 72) [.ref x, VT (flatT ts)] [] m H Q (XFl c base U outer) := by
  refine CallJ.runX O B ⟨⟨_, _, _, rfl⟩, rfl, rfl, rfl, rfl, rfl, rfl, rfl, rfl, by decide⟩ (.a2 fun _ _ => rfl) rfl ?_
  intro c1 L hL Ok' B'
  show Exs _ _ [("text", VT (flatT ts)), ("self", .ref x)] H _ _
  walk_at "run"
  exact K_wrapX (n := n) (by assumption) B' hx hd hw ot lt
theorem K_textX {base U : Heap} {outer : List Env} {w : Int} {ts : List Tk} {Q : Value → HM → Prop} (O : Ok c (KK P) (n + 8)) (B : BelowS c base U outer) (hw : w = 0 ∨ w = -1 ∨ w = -2) (ot : okT ts) (lt : (flatT ts).length ≤ 100000) : CallJ c (.ref 190) [VT (flatT ts), VI w] [] m H Q (XFlF c base U outer) := by
  refine CallJ.runXF (bs := [("text", VT (flatT ts)), ("width", VI w), ("initial_indent", VT []), ("subsequent_indent", VT []), ("preserve_paragraphs", VB false)]) O B ⟨⟨_, _, _, rfl⟩, rfl, rfl, rfl, rfl, rfl, rfl, rfl, rfl, by decide⟩ ?_ rfl ?_
  · intro Vs Ks e1 e2
    obtain ⟨A, B', rfl, hA, hB⟩ := call2 e1
    obtain rfl := kw0 e2
    refine ⟨[("text", A), ("width", B'), ("initial_indent", _), ("subsequent_indent", _), ("preserve_paragraphs", _)], fun s X => binds_K X rfl rfl rfl rfl rfl, ?_⟩
    simp only [List.map_cons, List.map_nil, hA, hB]
    rfl
  · intro c1 L hL Ok' B'
    show Exs _ _ [("preserve_paragraphs", VB false), ("subsequent_indent", VT []), ("initial_indent", VT []), ("width", VI w), ("text", VT (flatT ts))] _ _ _
    generalize cellsH H (cellsFrom (L + 1) (fdOf (KK P) 190).scope.names []) (bindCM (c1.call (fdOf (KK P) 190) L 190).env.kindOf [("text", VT (flatT ts)), ("width", VI w), ("initial_indent", VT []), ("subsequent_indent", VT []), ("preserve_paragraphs", VB false)] fun x => none) = HC
    walk_at "run"
    refine C_expandtabs (fun h9 => (flat_mem ot h9).1 rfl) ?_
    walk_at "run"
    refine CallJ.cls (fI := 51) (by assumption) rfl rfl rfl (fun c' O' e d he hd hed => ?_)
    refine K_init O' (HM.set_same _ _ _) ((HM.set_ne _ _ (Ne.symm hed)).trans (HM.set_same _ _ _)) hed ⟨rfl, ?_⟩
    rw [HM.set_comm _ _ _ hed, HM.set_set]
    have hx' : ((HC.set d (.dic (tw w [] []))).set e (.raw (instObj 180 d))) e = some (.raw (instObj 180 d)) := HM.set_same _ _ _
    have hd' : ((HC.set d (.dic (tw w [] []))).set e (.raw (instObj 180 d))) d = some (.dic (tw w [] [])) := (HM.set_ne _ _ (Ne.symm hed)).trans (HM.set_same _ _ _)
    generalize (HC.set d (.dic (tw w [] []))).set e (.raw (instObj 180 d)) = H2 at hx' hd'
    walk_at "run"
    refine iteTe rfl ?_
    walk_at "run"
    exact K_fillX (n := n + 3) (by assumption) B' hx' hd' hw ot lt
end

section
variable {c : FC} {P : Params} {n : Nat} {m : LM} {H : HM} {X : XM}
theorem K_refused {w : Int} {ts : List Tk} {Q : Value → HM → Prop} (O : Ok c (KK P) (n + 9)) (hfr : c.A.frames = some [c.env]) (hef : c.env.frame = some c.env.locals) (hek : c.env.scope.kind ≠ .module) (hw : w = 0 ∨ w = -1 ∨ w = -2) (ot : okT ts) (lt : (flatT ts).length ≤ 100000)
    (h : Q (VB true) H) : CallJ c (.ref 275) [VT (flatT ts), VI w] [] m H Q X := by
  have go : ∀ {fd : FuncData} {body : List Stmt} {bs : List (Str × Value)} (W : Fn (KK P) 275 fd body) (hb : FnBinds (KK P) fd [VT (flatT ts), VI w] [] bs)
      (hk : ∀ x ∈ bs, fd.scope.names.lookup x.1 = some .local ∨ fd.scope.names.lookup x.1 = some .cell)
      (h2 : ∀ (c1 : FC) L base U, (∀ b o, c.s₀.heap.get? b = some o → base.get? b = some o) → Ok (c1.call fd L 275) (KK P) (n + 8) → BelowS (c1.call fd L 275) base U [c.env] → ∀ F s1, St (c1.call fd L 275) (bindLM (c1.call fd L 275).env.kindOf bs []) (cellsH (fun _ => none) (cellsFrom (L + 1) fd.scope.names []) (bindCM (c1.call fd L 275).env.kindOf bs fun _ => none)) F s1 →
        wpAny (model c1.prog c1.w) (c1.call fd L 275).A (execs body (c1.call fd L 275).env) (fun f s' => ∃ a a0, f = .ret (.bool true) ∧ (∃ h t, s' = { c1.s₀ with heap := h, toks := t }) ∧ U.UpToSlots s'.heap ∧ Heap.FlyingW base [(c1.call fd L 275).env, c.env] a (.type "ValueError") a0 s'.heap) (fun _ _ => False) s1),
      CallJ c (.ref 275) [VT (flatT ts), VI w] [] m H Q X := by
    intro fd body bs W hb hk h2 Fv Vs Ks e0 e1 e2 G s St'
    obtain rfl := er_ref e0
    obtain ⟨binds, hbt, rfl⟩ := hb Vs Ks e1 e2
    obtain ⟨oc, od, osl, hlook⟩ := W.look
    obtain ⟨mr0, n0, n1⟩ := St'.ns
    obtain ⟨oL, esL, epL, hL, hLd, _⟩ := id n0
    have XK := O.inK St'
    let c1 : FC := { c with s₀ := s }
    have O1 : Ok c1 (KK P) (n + 9) := ⟨O.X.keeps St'.base, O.g.imp fun mg q => q.keeps St'.base, O.b.imp fun mb q => ⟨q.1.keeps St'.base, q.2⟩, O.nl.keeps St'.base, O.kind, O.eg, O.eb, O.hh, O.dp, O.un⟩
    refine wpAny_call (codeAny_call_function (fd := fd) (by have := O.dp; show c.A.depth < 1000; omega) (XK _ _ hlook) rfl W.co W.gen W.body (codeRec_of XK W.cd) (hbt s XK _ _ _ _ ?_))
    rw [W.clo]
    refine wpAny_newFunctionEnv_cells W.kind (fun x hx => ?_) fun env he s' x => ?_
    · have := hk (x.1, er x.2) (List.mem_map.mpr ⟨x, hx, rfl⟩)
      exact this.imp id fun q => ⟨q, cells_have _ _ _ _ (.inl q)⟩
    · obtain ⟨h', t', es'⟩ := x.toInCall.same
      have kp := x.toInCall.keep
      have eenv : env = (c1.call fd s.heap.objs.size 275).env := he
      subst eenv
      refine ⟨by rw [es'] at kp ⊢; exact (O.nl.keeps St'.base).keeps kp, codeAny_func ?_⟩
      have S1 : St (c1.call fd s.heap.objs.size 275) (bindLM (c1.call fd s.heap.objs.size 275).env.kindOf (binds.map fun p => (p.1, er p.2)) [])
          (cellsH (fun _ => none) (cellsFrom (s.heap.objs.size + 1) fd.scope.names []) (bindCM (c1.call fd s.heap.objs.size 275).env.kindOf (binds.map fun p => (p.1, er p.2)) fun _ => none)) (fun _ => none) s' := by
        refine ⟨⟨h', t', es'⟩, kp, ⟨_, x.toInCall.ns, bind_rel _ _ _ _ fun y u hy => by cases hy⟩, Nat.le_refl _, fun _ => .inr rfl, fun a ao e => ?_, fun a ao e => by cases e⟩
        rcases cellsH_some e with ⟨p, hp, rfl, rfl⟩ | ⟨_, e⟩
        · have hlk := lookup_of_nd (cells_nd fd.scope.names (s.heap.objs.size + 1) [] W.nd (fun _ _ _ hq => nomatch hq) List.Pairwise.nil) hp
          obtain ⟨o, ho, hd⟩ := x.cell p.1 p.2 hlk
          have hab := x.above p.1 p.2 hp
          refine ⟨Nat.ne_of_gt hab, ?_, o, ho, _, hd, (bind_cells _ _ _ _ (fun _ => rfl) p.1).symm⟩
          cases q : s.heap.get? p.2 with
          | none => exact q
          | some o' => exact absurd (Heap.lt_size q) (Nat.not_lt.mpr (Nat.le_of_lt hab))
        · cases e
      have B1 : BelowS (c1.call fd s.heap.objs.size 275) (hideAll s.heap [c.env.locals]) s.heap [c.env] := by
        refine ⟨?_, rfl, ?_, fun b o e => of_hideAll _ e, fun b o e => e, ⟨hek, ⟨c.env.locals, oL, hef, hideAll_none _ (by simp), hL, fun vs q => by rw [hLd] at q; cases q⟩, trivial⟩⟩
        · show (c.A.deeper _).frames = _
          unfold Around.deeper
          show c.A.frames.map _ = _
          rw [hfr]; rfl
        · show fd.scope.kind ≠ .module
          rw [W.kind]; decide
      refine wpAny_mono (h2 c1 _ _ _ (fun b o e => hideAll_get _ (St'.base b o e) (by simp; exact fun q => by rw [q, St'.l0] at e; cases e)) (O1.call W _) B1 _ _ S1) (fun fl s'' ⟨a, a0, efl, ⟨ha, ta, es2⟩, up, ⟨k1, _, _, _⟩⟩ => ?_) fun e s'' z => z.elim
      subst efl
      have keep : ∀ b o, b ≠ c.env.locals → s.heap.get? b = some o → s''.heap.get? b = some o := fun b o hb e => k1 b o (hideAll_get _ e (by simp; exact hb))
      obtain ⟨hs1, ts1, es1⟩ := St'.same
      refine ⟨H, ⟨⟨ha, ta, ?_⟩, fun b o e => keep b o (fun q => by rw [q, St'.l0] at e; cases e) (St'.base b o e), ⟨mr0, up.ns n0, n1⟩, St'.lb, St'.dj, fun a ao e => ?_, fun a ao e => ?_⟩, h⟩
      · rw [es2]; subst es1; rfl
      · obtain ⟨q1, q2, o, q3, q4⟩ := St'.hp a ao e
        exact ⟨q1, q2, o, keep _ _ q1 q3, q4⟩
      · obtain ⟨q1, q2, o, q3, q4⟩ := St'.fp a ao e
        exact ⟨q1, q2, o, keep _ _ q1 q3, q4⟩
  have go2 : ∀ {fd : FuncData} {body : List Stmt} {bs : List (Str × Value)} (W : Fn (KK P) 275 fd body) (hb : FnBinds (KK P) fd [VT (flatT ts), VI w] [] bs)
      (hk : okBinds fd.scope.names (bs.map (·.1)) = true)
      (h2 : ∀ (c1 : FC) L base U, (∀ b o, c.s₀.heap.get? b = some o → base.get? b = some o) → Ok (c1.call (fdOf (KK P) 275) L 275) (KK P) (n + 8) → BelowS (c1.call (fdOf (KK P) 275) L 275) base U [c.env] → ∀ F s1, St (c1.call (fdOf (KK P) 275) L 275) (bindLM (c1.call (fdOf (KK P) 275) L 275).env.kindOf bs []) (cellsH (fun _ => none) (cellsFrom (L + 1) (fdOf (KK P) 275).scope.names []) (bindCM (c1.call (fdOf (KK P) 275) L 275).env.kindOf bs fun _ => none)) F s1 →
        wpAny (model c1.prog c1.w) (c1.call (fdOf (KK P) 275) L 275).A (execs body (c1.call (fdOf (KK P) 275) L 275).env) (fun f s' => ∃ a a0, f = .ret (.bool true) ∧ (∃ h t, s' = { c1.s₀ with heap := h, toks := t }) ∧ U.UpToSlots s'.heap ∧ Heap.FlyingW base [(c1.call (fdOf (KK P) 275) L 275).env, c.env] a (.type "ValueError") a0 s'.heap) (fun _ _ => False) s1),
      CallJ c (.ref 275) [VT (flatT ts), VI w] [] m H Q X := by
    intro fd body bs W hb hk h2
    have ef : fdOf (KK P) 275 = fd := by
      obtain ⟨_, _, _, e⟩ := W.look
      unfold fdOf; rw [e]
    subst ef
    exact go W hb (fun x hx => by
      have := List.all_eq_true.mp hk x.1 (List.mem_map.mpr ⟨x, hx, rfl⟩)
      rw [Bool.or_eq_true, beq_iff_eq, beq_iff_eq] at this
      exact this) h2
  refine go2 ⟨⟨_, _, _, rfl⟩, rfl, rfl, rfl, rfl, rfl, rfl, rfl, rfl, by decide⟩ (.a2 fun _ _ => rfl) rfl ?_
  intro c1 L base U hcb O' B' F s1 S1
  have S1 : St (c1.call (fdOf (KK P) 275) L 275) [("width", VI w), ("text", VT (flatT ts))] (fun _ => none) F s1 := S1
  refine wpAny_execs_cons (wpAny_Try_except ?_)
  refine wpAny_mono ((?bodyJ : Exs (c1.call (fdOf (KK P) 275) L 275) _ [("width", VI w), ("text", VT (flatT ts))] (fun _ => none) (fun _ _ _ => False) (XFlF (c1.call (fdOf (KK P) 275) L 275) base U [c.env])) F s1 S1) (fun f s' ⟨_, _, _, hf⟩ => hf.elim) fun e s' he => ?_
  case bodyJ =>
    walk_at "run"
    exact K_textX (n := n) O' B' hw ot lt
  obtain ⟨⟨h0, t0, rfl⟩, up, a, a0, rfl, fl⟩ := he
  refine wpAny_looks_onW B'.fr B'.ef fl fun h1 held up1 => ?_
  refine wpAny_landsW held fun h2 fl2 up2 => ?_
  obtain ⟨ob, hob, hcls⟩ := fl2.there
  have kk : ∀ b o, c.s₀.heap.get? b = some o → h2.get? b = some o := fun b o q => fl2.1 b o (hcb b o q)
  obtain ⟨mg, g⟩ := O.g
  obtain ⟨mb, bb, hbb⟩ := O.b
  refine wpAny_handleBy_builtin (X := "ValueError") (T := "ValueError") (b := true) PySem.F.excRaise_ValueError.isExc (by rw [isSubtype_type]; kernel_rfl) (by rw [isSubtype_type]; kernel_rfl) ?_
  refine Name_function_global O'.kind rfl (loadGlobal_builtin (O'.eg ▸ g.keeps kk) (mg_none_of (K := KK P) O.X g rfl) (O'.eb ▸ bb.keeps kk) ((hbb _ (by decide)).trans rfl) ?_) rfl
  refine ⟨rfl, ⟨ob, hob, hcls⟩, ?_⟩
  rw [if_pos rfl]
  refine lands_againW fl2 fun h3 fl3 up3 => ?_
  refine wpAny_execs_cons (wpAny_Return_some (wpAny_pure ?_))
  exact ⟨a, a0, rfl, ⟨h3, _, rfl⟩, ((up.trans up1).trans up2).trans up3, fl3⟩
end

section
variable {c : FC} {P : Params} {n : Nat} {m : LM} {H : HM} {X : XM}
variable {p : Program} {loose : List Str} {mean : ExcName → Option Value} {mg mb : Str → Option Value}
theorem wrapN_nil {w : Int} {fi fr : List Nat} {k : Nat} {ls : List (List Nat)} : wrapN w fi fr k [] ls = some ls := by cases k <;> rfl
theorem K_refusedp {w : Int} {l : List Nat} {Q : Value → HM → Prop} (O : Ok c (KK P) (n + 9)) (hfr : c.A.frames = some [c.env]) (hef : c.env.frame = some c.env.locals) (hek : c.env.scope.kind ≠ .module) (hw : w = 0 ∨ w = -1 ∨ w = -2) (ol : okT (plain l)) (ll : l.length ≤ 100000)
    (h : Q (VB true) H) : CallJ c (.ref 275) [VT l, VI w] [] m H Q X := by
  have := K_refused (c := c) (n := n) (w := w) (ts := plain l) (m := m) (H := H) (Q := Q) (X := X) O hfr hef hek hw ol (by rw [flatT_plain]; exact ll) h
  rw [flatT_plain] at this
  exact this
theorem law6 {H0 : HM} {d e L : Addr} {w : Int} {fi fr l : List Nat} {Q : Value → HM → Prop} (O : Ok (c.call (fdOf (KK P) 280) L 280) (KK P) (n + 10)) (hA : c.A.frames = some []) (S : LS P H0 H d e) (hw : 0 < w) (hw2 : w ≤ 40) (m1 : MkOk fi) (m2 : MkOk fr) (hl : LnOk w fi l)
    (h : ∀ H', LS P H0 H' d e → Exs (c.call (fdOf (KK P) 280) L 280) (lawR P 15) [("line", VT l), ("rest", VT fr), ("first", VT fi), ("width", VI w), ("draws", .ref d)] H' (EndJ Q) XF) :
    Exs (c.call (fdOf (KK P) 280) L 280) (lawR P 14) [("line", VT l), ("rest", VT fr), ("first", VT fi), ("width", VI w), ("draws", .ref d)] H (EndJ Q) XF := by
  have e14 : lawR P 14 = _ :: lawR P 15 := rfl
  have lln := hl.ln
  have ln1 := m1.ln
  have ln2 := m2.ln
  obtain ⟨l1, l2⟩ := line_ok hl
  obtain ⟨out, bs, outP, R, r1, r2⟩ := line_res (w := w) (l := []) hw (by omega) m1.ok m2.ok m1.ln m2.ln (fun t ht => by cases ht) (fun x hx => by cases hx) (by simp) (.inr (.inl rfl))
  have hout : out = [] := by
    have e : partsL [] = [] := rfl
    have := R.n
    rw [e, wrapN_nil] at this
    exact (Option.some.inj this).symm
  subst hout
  rw [e14]
  with_reducible refine Exs.via (fun m' H' => m' = ([("line", VT l), ("rest", VT fr), ("first", VT fi), ("width", VI w), ("draws", .ref d)] : LM) ∧ LS P H0 H' d e) ?_ ?_
  · walk_at "run"
    with_reducible refine K_take (n := n + 9) (by assumption) S.D (by decide) (by decide) fun v H1 hv u1 D1 => ?_
    have S1 := S.step u1 D1
    walk_at "run"
    have hfr : (c.call (fdOf (KK P) 280) L 280).A.frames = some [(c.call (fdOf (KK P) 280) L 280).env] := by
      show (c.A.deeper _).frames = _
      unfold Around.deeper
      show c.A.frames.map _ = _
      rw [hA]; rfl
    refine K_refusedp (n := n + 1) (by assumption) hfr rfl (fun q => by cases q) (by omega) l1 (by omega) ?_
    walk_at "run"
    refine iteFe rfl ?_
    walk_at "run"
    refine K_text0p (n := n + 2) (by assumption) hw m1.ok m2.ok (fun t ht => by cases ht) (by omega) (by omega) (by simp) r1 r2 (by simp [joinSize]) ?_
    walk_at "run"
    refine iteFe (by simp [joinL]) ?_
    walk_at "run"
    exact ViaJ.mk (by walk_at "le") ⟨rfl, S1⟩
  rintro _ H3 ⟨rfl, S3⟩
  exact h H3 S3
theorem Ev.sliceB {value : Expr} {lower upper : Option Expr} {p pos : Pos} {ws : List Value} {r : Addr} {Q : Value → HM → Prop} (hb : c.s₀.heap.IsList r ws.toArray) (hl : ws.length ≤ 16000000)
    (h : Ev c value m H (fun o H1 => EvP c lower m H1 (fun l H2 => EvP c upper m H2 (fun u H3 => ∃ a b, Bnd l a ∧ Bnd u b ∧ o = .ref r ∧ ∀ q, H3 q = none → Q (.ref q) (H3.set q (.list (cut (ws.map er) a b)))) X) X) X) : Ev c (.Subscript value (.Slice lower upper none p) pos) m H Q X := fun G s St' => by
  refine Subscript_ (wpAny_mono (h G s St') (fun O s1 ⟨H1, S1, h1⟩ => ?_) fun _ _ e => e)
  rw [eval_Slice3]
  refine wpAny_bind (wpAny_mono (h1 G s1 S1) (fun L s2 ⟨H2, S2, h2⟩ => wpAny_bind (wpAny_holding (wpAny_mono (h2 G s2 S2) (fun U s3 ⟨H3, S3, a, b, ba, bb, e, hq⟩ => wpAny_bind (wpAny_holding (wpAny_pure ?_))) fun _ _ e => e))) fun _ _ e => e)
  obtain ⟨pa, qa, rfl, ea⟩ := ba.part
  obtain ⟨pb, qb, rfl, eb⟩ := bb.part
  refine wpAny_newObj_type ?_ (by size_fits)
  have S4 := S3.keeps' (h' := s3.heap.push { cls := .type "slice", data := .fields #[partValue qa, partValue qb, .none] }) fun b o e => Heap.get?_push_of_some _ e
  obtain rfl := er_ref e
  obtain ⟨ol, hol, hcl, nl, hdl⟩ := hb
  have hg' := Heap.get?_push_of_some { cls := .type "slice", data := .fields #[partValue qa, partValue qb, .none] } (S3.base _ _ hol)
  refine tail_any (T := "list") ⟨_, hg', hcl⟩ slot_list_getitem.lookup (wpAny_getItem_list_slice ⟨ol, hg', hcl, nl, hdl⟩ (Heap.IsSliceOf.new ..) pa pb .none (by simp) ?_ (by rw [List.size_toArray]; exact sizeLine_ge hl)) rfl
  rw [slicePick_cut]
  exact ⟨_, S4.push (ao := .list ((cut ws a b).map er)) ⟨_, 0, rfl, rfl⟩ rfl, by rw [cut_map]; exact hq _ S4.fresh.1⟩
theorem K_lawB (T : Top p loose mean mg mb c.s₀.heap) (C : ∀ cc, (fdOf (KK P) 190).code = .ref cc → CodeHd c.s₀.heap cc 185) {sc L : Addr} {ns : List Int} {ws : List Value} {Q : Value → HM → Prop} (Ok' : Ok (c.call (fdOf (KK P) 280) L 280) (KK P) (n + 10)) (hA : c.A.frames = some []) (hT : TabSt P H) (hsc : c.s₀.heap.IsList sc ws.toArray) (hws : ws.map er = ns.map VI) (hl : ns.length ≤ 1000)
    (h : ∀ H', Upd [185] H H' → TabSt P H' → Q (VB true) H') : Exs (c.call (fdOf (KK P) 280) L 280) (lawR P 0) [("script", .ref sc)] H (EndJ Q) XF := by
  have e0 : lawR P 0 = _ :: lawR P 1 := rfl
  rw [e0]
  with_reducible refine Exs.via (fun m' H' => ∃ d e, m' = ([("draws", .ref d)] : LM) ∧ LS P H H' d e) ?_ ?_
  · walk_at "run"
    refine Ev.compG Ok'.hh rfl rfl (by decide) (by decide) ?_ (fun _ => rfl)
    have hwl : ws.length = ns.length := by have := congrArg List.length hws; simpa using this
    refine Ev.sliceB hsc (by omega) ?_
    walk_at "run"
    refine ⟨none, some 10, .non, Bnd.ofInt (by decide), rfl, fun q hq => ?_⟩
    have hcut : cut (ws.map er) none (some 10) = (ns.take 10).map VI := by
      rw [hws]
      show ((ns.map VI).take 10).drop 0 = _
      rw [List.drop_zero, List.map_take]
    rw [hcut]
    refine ⟨_, _, _, _, Src.list (HM.set_same _ _ _) (by simp; omega), fun ys H' => H' = ((H.set q (.list ((ns.take 10).map VI))).del q) ∧ ∃ zs : List Int, ys = zs.map VI ∧ zs.length ≤ 10, fun C => ?_, ?_⟩
    · have Oc := Ok'.comp (scope := { kind := ScopeKind.function, names := [(Str.ofString ".0", NameKind.local), (Str.ofString "number", NameKind.local), (Str.ofString "abs", NameKind.globalImplicit)], isGenerator := false, isCoroutine := false }) rfl [] C
      with_reducible refine Turns.one (fun k ys m' H' => H' = ((H.set q (.list ((ns.take 10).map VI))).del q) ∧ m' = ([] : LM) ∧ ∃ zs : List Int, ys = zs.map VI ∧ zs.length ≤ k) ?_ ?_ ?_
      · exact Keep.here ⟨rfl, rfl, [], rfl, Nat.le_refl _⟩
      · rintro k x ys m' H' hx ⟨rfl, rfl, zs, rfl, hz⟩
        rw [List.getElem?_map, Option.map_eq_some_iff] at hx
        obtain ⟨y, hy, rfl⟩ := hx
        have hk := (List.getElem?_eq_some_iff.mp hy).1
        rw [List.length_take] at hk
        walk_at "run"
        refine TestsJ.nil ?_
        rw [if_pos rfl]
        refine ⟨by rw [List.length_map]; omega, ?_⟩
        walk_at "run"
        refine O_pow (by decide) (by decide +kernel) ?_
        walk_at "run"
        refine O_mod (by decide) ?_
        exact ⟨_, _, by walk_at "le", HM.le.refl _, rfl, rfl, zs ++ [_], by rw [List.map_append]; rfl, by rw [List.length_append, List.length_singleton]; omega⟩
      · rintro ys m' H' ⟨rfl, rfl, zs, rfl, hz⟩
        rw [List.length_map, List.length_take] at hz
        exact ⟨rfl, zs, rfl, by omega⟩
    · rintro D ys H' hD1 hD2 ⟨rfl, zs, rfl, hz⟩
      have hDq := HM.set_none.mp hD1
      have u1 : Upd [] H ((((H.set q (.list ((ns.take 10).map VI))).del q).set D (.list (zs.map VI))).set q (.list ((ns.take 10).map VI))) := Upd.old hq (Upd.old hDq.2 (Upd.del hq (Upd.old hq (Upd.refl _ _))))
      have gD : ((((H.set q (.list ((ns.take 10).map VI))).del q).set D (.list (zs.map VI))).set q (.list ((ns.take 10).map VI))) D = some (.list (zs.map VI)) := by rw [HM.set_ne _ _ hDq.1, HM.set_same]
      show Vals _ _ _ ((((H.set q (.list ((ns.take 10).map VI))).del q).set D (.list (zs.map VI))).set q (.list ((ns.take 10).map VI))) _ _
      generalize ((((H.set q (.list ((ns.take 10).map VI))).del q).set D (.list (zs.map VI))).set q (.list ((ns.take 10).map VI))) = H2 at *
      walk_at "run"
      rename_i r hr
      have u2 : Upd [] H (H2.set r (.list [VI 0, .ref D])) := Upd.new hr u1
      have hr0 : H r = none := Upd.none u1 (by simp) hr
      refine ViaJ.mk (by walk_at "le") ⟨r, D, rfl, ⟨Ne.symm (HM.ne_of hr gD), 0, zs, HM.set_same _ _ _, by rw [HM.set_ne _ _ (HM.ne_of hr gD)]; exact gD, by omega⟩, TabSt.upd hT u2 (by simp), fun a o ha z => u2 a o (by simp) z, hr0, hDq.2⟩
  rintro _ H1 ⟨d, e, rfl, S1⟩
  with_reducible refine law1 (n := n) Ok' S1 fun w fi fr l H2 w1 w2 m1 m2 hln S2 => ?_
  with_reducible refine law2 (n := n) Ok' S2 w1 w2 m1 m2 hln fun lr out bs H3 R hlr _ S3 => ?_
  with_reducible refine law3 (n := n) Ok' S3 m1 m2 hln R hlr fun H4 S4 => ?_
  with_reducible refine law4 (n := n) T C Ok' S4 w1 w2 m1 m2 fun t H5 ht S5 => ?_
  with_reducible refine law5 (n := n) T C Ok' S5 w1 w2 ht fun H6 S6 => ?_
  with_reducible refine law6 (n := n) Ok' hA S6 w1 w2 m1 m2 hln fun H7 S7 => ?_
  exact law7 (n := n) Ok' S7 w1 w2 m1 m2 hln fun H8 S8 => h H8 S8.U S8.T
end

section
variable {p : Program} {loose : List Str} {mean : ExcName → Option Value} {mg mb : Str → Option Value}
theorem law_top {P : Params} {prog : Program} {w : World} {s₁ : Shared} (KX : (KK P).In s₁.heap) (T : Top p loose mean mg mb s₁.heap) (hT9 : TabsAt [(189, 185)] s₁.heap) {a : Addr} {ws : List Value} {ns : List Int} (hL : s₁.heap.IsList a ws.toArray) (hws : ws.map er = ns.map VI) (hl : ns.length ≤ 1000)
    {R : Result → Shared → Prop} (hR : ∀ h' t, (∀ b o, (ghostOf s₁.heap [(189, 185)]).get? b = some o → h'.get? b = some o) → GrownAt 185 h' → R (.ok (.ret (.bool true))) { s₁ with heap := h', toks := t }) :
    codeAny (model prog w) callerA (.call (.ref 280) ⟨[.ref a], []⟩) R s₁ := by
  have T' := ghost_top hT9 T
  have C' := ghost_code hT9
  have X' := ghost_K hT9 KX (by kernel_rfl)
  have hsz : (ghostOf s₁.heap [(189, 185)]).objs.size = s₁.heap.objs.size := hideAll_size _ _
  have h185 : s₁.heap.get? 185 = some (tabObj #[]) := (hT9 (189, 185) (by simp)).2
  have g185 : (ghostOf s₁.heap [(189, 185)]).get? 185 = none := hideAll_none _ (by simp)
  have go : ∀ {fd : FuncData} {body : List Stmt} {bs : List (Str × Value)} (W : Fn (KK P) 280 fd body) (hb : FnBinds (KK P) fd [.ref a] [] bs)
      (hk : okBinds fd.scope.names (bs.map (·.1)) = true) (hbs : bindLM (callEnvC (fdOf (KK P) 280) s₁.heap.objs.size 280).kindOf bs [] = ([("script", .ref a)] : LM))
      (hbody : body = lawR P 0), codeAny (model prog w) callerA (.call (.ref 280) ⟨[.ref a], []⟩) R s₁ := by
    intro fd body bs W hb hk hbs hbody
    have ef : fdOf (KK P) 280 = fd := by
      obtain ⟨_, _, _, e⟩ := W.look
      unfold fdOf; rw [e]
    subst ef hbody
    obtain ⟨binds, hbt, rfl⟩ := hb [.ref a] [] rfl rfl
    obtain ⟨oc, od, osl, hlook⟩ := W.look
    let c : FC := { prog := prog, w := w, s₀ := { s₁ with heap := ghostOf s₁.heap [(189, 185)] }, A := callerA, env := callEnvC (fdOf (KK P) 280) 0 0 }
    have Ok' : Ok (c.call (fdOf (KK P) 280) s₁.heap.objs.size 280) (KK P) (10 + 10) := by
      refine ⟨X', ⟨_, T'.g⟩, ⟨_, T'.b, T'.builtins⟩, T'.nolimit, W.kind, W.g, W.b, rfl, ?_, ?_⟩
      · show callerA.depth + 1 + (10 + 10) < 900
        decide
      · show callerA.units + 3 + 4 * (10 + 10) < 9000
        decide
    refine codeAny_call_function (fd := fdOf (KK P) 280) (by decide) (KX _ _ hlook) rfl W.co W.gen W.body (codeRec_of KX W.cd) (hbt s₁ KX _ _ _ _ ?_)
    rw [W.clo]
    refine wpAny_newFunctionEnv_cells W.kind (fun x hx => ?_) fun env he s' x => ?_
    · have := List.all_eq_true.mp hk x.1 (by rw [List.map_map]; exact List.mem_map.mpr ⟨x, hx, rfl⟩)
      rw [Bool.or_eq_true, beq_iff_eq, beq_iff_eq] at this
      exact this.imp id fun q => ⟨q, cells_have _ _ _ _ (.inl q)⟩
    · obtain ⟨h', t', es'⟩ := x.toInCall.same
      have kp := x.toInCall.keep
      have eenv : env = (c.call (fdOf (KK P) 280) s₁.heap.objs.size 280).env := he
      subst eenv
      refine ⟨by rw [es'] at kp ⊢; exact T.nolimit.keeps kp, codeAny_func ?_⟩
      have S1 : St (c.call (fdOf (KK P) 280) s₁.heap.objs.size 280) [("script", .ref a)] (fun b => if b = 185 then some (.raw (tabObj #[])) else none) (fun _ => none) s' := by
        rw [← hbs]
        refine ⟨⟨h', t', es'⟩, fun b o e => kp b o (of_hideAll _ e), ⟨_, x.toInCall.ns, bind_rel _ _ _ _ fun y u hy => by cases hy⟩, Nat.le_of_eq hsz, fun _ => .inr rfl, fun b ao e => ?_, fun b ao e => by cases e⟩
        by_cases q : b = 185
        · subst q
          rw [if_pos rfl] at e
          cases e
          exact ⟨Nat.ne_of_lt (Heap.lt_size h185), g185, _, kp _ _ h185, rfl⟩
        · rw [if_neg q] at e; cases e
      have hTS : TabSt P (fun b => if b = 185 then some (.raw (tabObj #[])) else none) := ⟨#[], if_pos rfl, trivial, .inl rfl⟩
      refine wpAny_mono (K_lawB (c := c) (n := 10) (Q := fun v H' => v = VB true ∧ TabSt P H') T' (fun cc e => ?_) Ok' rfl hTS (ghost_list hT9 hL) hws hl (fun H' _ t => ⟨rfl, t⟩) _ _ S1) (fun fl s'' ⟨m', H', S', H'', hle, hv, ps, ht, _⟩ => ?_) fun _ _ z => z.elim
      · have : (fdOf (KK P) 190).code = .ref 189 := rfl
        rw [this] at e; cases e
        exact C'.1
      · obtain ⟨ha, ta, es''⟩ := S'.same
        obtain ⟨_, _, og, hog, eog⟩ := S'.hp _ _ (hle _ _ ht)
        have eog : og = tabObj ps := eog
        subst eog
        rw [es''] at hog
        have hb := S'.base
        rw [es''] at hb
        rw [es'']
        cases fl with
        | ret v =>
          obtain rfl := er_bool hv
          exact hR ha ta hb ⟨ps, hog⟩
        | next => cases hv
        | brk => cases hv
        | cont => cases hv
  exact go ⟨⟨_, _, _, rfl⟩, rfl, rfl, rfl, rfl, rfl, rfl, rfl, rfl, by decide⟩ (.a1 fun _ => rfl) rfl rfl rfl
theorem ints_er {vs : List Value} {ns : List Int} (h : IntsAre vs ns) : vs.map er = ns.map VI := by
  induction h with
  | nil => rfl
  | cons n t _ ih => rw [List.map_cons, List.map_cons, ih]; rfl
end
theorem jj : PySem.Challenge.rw_dt5003_01.Holds := by
  refine hd ?_
  intro w s₀ s₁ mg mb G Y fa o pm cd doc dV kV ho hd' hcd hD hmg hg args vals as hpre hlay hrd hwl hlo
  have KX := km_in_of Y
  have hT8 := km_tabs_of Y
  refine Ground.open G ?_
  intro T B D TE TW
  have hm2 := mg_of KX T.g (n := Str.ofString "law") (v := .ref 280) (by kernel_rfl)
  have hfa : fa = 280 := by
    have hmg : mg (Str.ofString "law") = some (.ref fa) := hmg
    rw [hm2] at hmg; cases hmg; rfl
  subst hfa
  clear ho hd' hcd hD hmg hm2 TE TW D B
  wrow_args hpre hlay hrd hwl hlo
  rename_i ns _ _ _ _ _ _ _ a ws _ hL _ _ _ hI _ hc _
  have hT9 : TabsAt ([(189, 185)] : List (Addr × Addr)) s₁.heap := List.forall_mem_cons.mpr ⟨⟨codeHd_of_K (c := 189) (P := 185) KX (by kernel_rfl), hT8 185 (by simp)⟩, fun _ h => nomatch h⟩
  refine enter_call ?_
  refine kn_post hT9 (fun _ _ => rfl) ?_
  refine law_top (P := w.params) KX T hT9 hL (ints_er hI) (by omega) fun h' t hk hgr => ⟨⟨.inl ⟨_, .bool true, [], rfl, fun _ => rfl, .bool true, (by first | kernel_rfl | rfl | (simp; done)), fun _ => ⟨List.nodup_nil, fun _ h => nomatch h⟩⟩, hk, rfl, hg⟩, hgr, trivial⟩

end Mine
end

theorem PySem.Challenge.cw_dt5003_01_holds : PySem.Challenge.rw_dt5003_01.Holds := by
  exact Mine.jj
