import PyProof.Rows.All
import Wide.All
import OpenK.AllK
import Wide.FinOn
import KE.KPar
import KE.KLam
import KE.KNestM
import Lean
import PySem.Challenge.RW_pk0101_02
set_option Elab.async false
set_option linter.unusedVariables false
namespace Mine
open PySem PySem.W PyProof.Rows
/-- what a program's value is, told without the heap -/
inductive V where
  | none
  | bool (b : Bool)
  | int (i : Int)
  | str (s : Str)
  | raw (v : Value)
  | tup (l : List V)
  | lst (l : List V)
  | obj (C : Addr) (fs : List (Str × V))
  | rng (a b c : Int)
deriving Inhabited
/-- a part of a heap: which object is read at which address -/
abbrev PH := Addr → Obj → Prop
noncomputable def tupObj (its : Array Value) (n : Nat) : Obj := { cls := .type "tuple", data := .seq its n }
noncomputable def lstObj (its : Array Value) (n : Nat) : Obj := { cls := .type "list", data := .seq its n }
/-- the keys of an object's dict -/
noncomputable def KeysOk (fs : List (Str × V)) (es : Array DictEntry) : Prop := StrKeys es ∧ ∀ x, fs.lookup x = Option.none → nsFind es x = Option.none
noncomputable def rngObj (a b c : Value) : Obj := { cls := .type "range", data := .fields #[a, b, c] }
mutual
noncomputable def VRel (P : PH) : V → Value → Prop
  | .none, rv => rv = .none
  | .bool b, rv => rv = .bool b
  | .int i, rv => ∃ t, rv = .int i t
  | .str x, rv => ∃ t, rv = .str x t
  | .raw v, rv => rv = v
  | .tup l, rv => ∃ a its n, rv = .ref a ∧ P a (tupObj its n) ∧ VRels P l its.toList
  | .lst l, rv => ∃ a its n, rv = .ref a ∧ P a (lstObj its n) ∧ VRels P l its.toList
  | .obj C fs, rv => ∃ a d es n, rv = .ref a ∧ P a (instObj C d) ∧ P d { cls := .type "dict", data := .dict es n } ∧ KeysOk fs es ∧ VFields P fs es
  | .rng a b c, rv => ∃ x ta tb tc, rv = .ref x ∧ P x (rngObj (.int a ta) (.int b tb) (.int c tc))
noncomputable def VRels (P : PH) : List V → List Value → Prop
  | [], rvs => rvs = []
  | v :: vs, rvs => ∃ r rs, rvs = r :: rs ∧ VRel P v r ∧ VRels P vs rs
noncomputable def VFields (P : PH) : List (Str × V) → Array DictEntry → Prop
  | [], _ => True
  | (x, v) :: r, es => (∃ rv, nsFind es x = some rv ∧ VRel P v rv) ∧ VFields P r es
end
mutual
/-- no list within -/
noncomputable def V.free : V → Bool
  | .lst _ => false
  | .tup l => V.frees l
  | .obj _ fs => V.freeFs fs
  | .none => true
  | .bool _ => true
  | .int _ => true
  | .str _ => true
  | .raw _ => true
  | .rng _ _ _ => true
noncomputable def V.frees : List V → Bool
  | [] => true
  | v :: r => V.free v && V.frees r
noncomputable def V.freeFs : List (Str × V) → Bool
  | [] => true
  | (_, v) :: r => V.free v && V.freeFs r
end
mutual
/-- the relation from one part of a heap into another: where the objects that it reads are carried over -/
theorem VRel.mono {P Q : PH} (hl : ∀ a its n, P a (lstObj its n) → Q a (lstObj its n)) (ho : ∀ a o, o.cls ≠ .type "list" → P a o → Q a o) : ∀ {v : V} {rv : Value}, VRel P v rv → VRel Q v rv
  | .none, _, h => h
  | .bool _, _, h => h
  | .int _, _, h => h
  | .str _, _, h => h
  | .raw _, _, h => h
  | .tup l, rv, h => by
    unfold VRel at h ⊢
    obtain ⟨a, its, n, e, p, r⟩ := h
    exact ⟨a, its, n, e, ho _ _ (by simp [tupObj]) p, VRels.mono hl ho r⟩
  | .lst l, rv, h => by
    unfold VRel at h ⊢
    obtain ⟨a, its, n, e, p, r⟩ := h
    exact ⟨a, its, n, e, hl _ _ _ p, VRels.mono hl ho r⟩
  | .obj C fs, rv, h => by
    unfold VRel at h ⊢
    obtain ⟨a, d, es, n, e, p, q, k, r⟩ := h
    exact ⟨a, d, es, n, e, ho _ _ (by simp) p, ho _ _ (by simp) q, k, VFields.mono hl ho r⟩
  | .rng _ _ _, rv, h => by
    unfold VRel at h ⊢
    obtain ⟨x, ta, tb, tc, e, p⟩ := h
    exact ⟨x, ta, tb, tc, e, ho _ _ (by simp [rngObj]) p⟩
theorem VRels.mono {P Q : PH} (hl : ∀ a its n, P a (lstObj its n) → Q a (lstObj its n)) (ho : ∀ a o, o.cls ≠ .type "list" → P a o → Q a o) : ∀ {vs : List V} {rvs : List Value}, VRels P vs rvs → VRels Q vs rvs
  | [], _, h => by unfold VRels at h ⊢; exact h
  | v :: vs, rvs, h => by
    unfold VRels at h ⊢
    obtain ⟨r, rs, e, p, q⟩ := h
    exact ⟨r, rs, e, VRel.mono hl ho p, VRels.mono hl ho q⟩
theorem VFields.mono {P Q : PH} (hl : ∀ a its n, P a (lstObj its n) → Q a (lstObj its n)) (ho : ∀ a o, o.cls ≠ .type "list" → P a o → Q a o) : ∀ {fs : List (Str × V)} {es : Array DictEntry}, VFields P fs es → VFields Q fs es
  | [], _, _ => by unfold VFields; trivial
  | (x, v) :: r, es, h => by
    unfold VFields at h ⊢
    obtain ⟨⟨rv, e, p⟩, q⟩ := h
    exact ⟨⟨rv, e, VRel.mono hl ho p⟩, VFields.mono hl ho q⟩
end
theorem VRel.le {P Q : PH} (h : ∀ a o, P a o → Q a o) {v : V} {rv : Value} (r : VRel P v rv) : VRel Q v rv := r.mono (fun _ _ _ => h _ _) (fun _ _ _ => h _ _)
theorem VRels.le {P Q : PH} (h : ∀ a o, P a o → Q a o) {vs : List V} {rvs : List Value} (r : VRels P vs rvs) : VRels Q vs rvs := r.mono (fun _ _ _ => h _ _) (fun _ _ _ => h _ _)
mutual
/-- where no list stands within, lists need not be carried over -/
theorem VRel.freeMono {P Q : PH} (ho : ∀ a o, o.cls ≠ .type "list" → P a o → Q a o) : ∀ {v : V} {rv : Value}, v.free = true → VRel P v rv → VRel Q v rv
  | .none, _, _, h => h
  | .bool _, _, _, h => h
  | .int _, _, _, h => h
  | .str _, _, _, h => h
  | .raw _, _, _, h => h
  | .tup l, rv, f, h => by
    unfold VRel at h ⊢
    unfold V.free at f
    obtain ⟨a, its, n, e, p, r⟩ := h
    exact ⟨a, its, n, e, ho _ _ (by simp [tupObj]) p, VRels.freeMono ho f r⟩
  | .lst l, rv, f, h => by unfold V.free at f; cases f
  | .obj C fs, rv, f, h => by
    unfold VRel at h ⊢
    unfold V.free at f
    obtain ⟨a, d, es, n, e, p, q, k, r⟩ := h
    exact ⟨a, d, es, n, e, ho _ _ (by simp) p, ho _ _ (by simp) q, k, VFields.freeMono ho f r⟩
  | .rng _ _ _, rv, _, h => by
    unfold VRel at h ⊢
    obtain ⟨x, ta, tb, tc, e, p⟩ := h
    exact ⟨x, ta, tb, tc, e, ho _ _ (by simp [rngObj]) p⟩
theorem VRels.freeMono {P Q : PH} (ho : ∀ a o, o.cls ≠ .type "list" → P a o → Q a o) : ∀ {vs : List V} {rvs : List Value}, V.frees vs = true → VRels P vs rvs → VRels Q vs rvs
  | [], _, _, h => by unfold VRels at h ⊢; exact h
  | v :: vs, rvs, f, h => by
    unfold VRels at h ⊢
    unfold V.frees at f
    obtain ⟨r, rs, e, p, q⟩ := h
    rw [Bool.and_eq_true] at f
    exact ⟨r, rs, e, VRel.freeMono ho f.1 p, VRels.freeMono ho f.2 q⟩
theorem VFields.freeMono {P Q : PH} (ho : ∀ a o, o.cls ≠ .type "list" → P a o → Q a o) : ∀ {fs : List (Str × V)} {es : Array DictEntry}, V.freeFs fs = true → VFields P fs es → VFields Q fs es
  | [], _, _, _ => by unfold VFields; trivial
  | (x, v) :: r, es, f, h => by
    unfold VFields at h ⊢
    unfold V.freeFs at f
    rw [Bool.and_eq_true] at f
    obtain ⟨⟨rv, e, p⟩, q⟩ := h
    exact ⟨⟨rv, e, VRel.freeMono ho f.1 p⟩, VFields.freeMono ho f.2 q⟩
end
mutual
/-- the relation reads no object without a class -/
theorem VRel.monoC {P Q : PH} (h : ∀ a o, o.cls ≠ .none → P a o → Q a o) : ∀ {v : V} {rv : Value}, VRel P v rv → VRel Q v rv
  | .none, _, q => q
  | .bool _, _, q => q
  | .int _, _, q => q
  | .str _, _, q => q
  | .raw _, _, q => q
  | .tup l, rv, q => by
    unfold VRel at q ⊢
    obtain ⟨a, its, n, e, p, r⟩ := q
    exact ⟨a, its, n, e, h _ _ (by simp [tupObj]) p, VRels.monoC h r⟩
  | .lst l, rv, q => by
    unfold VRel at q ⊢
    obtain ⟨a, its, n, e, p, r⟩ := q
    exact ⟨a, its, n, e, h _ _ (by simp [lstObj]) p, VRels.monoC h r⟩
  | .obj C fs, rv, q => by
    unfold VRel at q ⊢
    obtain ⟨a, d, es, n, e, p, q', k, r⟩ := q
    exact ⟨a, d, es, n, e, h _ _ (by simp) p, h _ _ (by simp) q', k, VFields.monoC h r⟩
  | .rng _ _ _, rv, q => by
    unfold VRel at q ⊢
    obtain ⟨x, ta, tb, tc, e, p⟩ := q
    exact ⟨x, ta, tb, tc, e, h _ _ (by simp [rngObj]) p⟩
theorem VRels.monoC {P Q : PH} (h : ∀ a o, o.cls ≠ .none → P a o → Q a o) : ∀ {vs : List V} {rvs : List Value}, VRels P vs rvs → VRels Q vs rvs
  | [], _, q => by unfold VRels at q ⊢; exact q
  | v :: vs, rvs, q => by
    unfold VRels at q ⊢
    obtain ⟨r, rs, e, p, q'⟩ := q
    exact ⟨r, rs, e, VRel.monoC h p, VRels.monoC h q'⟩
theorem VFields.monoC {P Q : PH} (h : ∀ a o, o.cls ≠ .none → P a o → Q a o) : ∀ {fs : List (Str × V)} {es : Array DictEntry}, VFields P fs es → VFields Q fs es
  | [], _, _ => by unfold VFields; trivial
  | (x, v) :: r, es, q => by
    unfold VFields at q ⊢
    obtain ⟨⟨rv, e, p⟩, q'⟩ := q
    exact ⟨⟨rv, e, VRel.monoC h p⟩, VFields.monoC h q'⟩
end
end Mine
set_option Elab.async false
set_option linter.unusedVariables false
namespace Mine
open PySem PySem.W PyProof.Rows
/-- the parts of a heap that a relation may read: all but what X bars -/
noncomputable def rd (X : Addr → Prop) (h : Heap) : PH := fun a o => h.get? a = some o ∧ ¬ X a
/-- the same, and no list of the elder heap h -/
noncomputable def rdF (X : Addr → Prop) (h h' : Heap) : PH := fun a o => h'.get? a = some o ∧ ¬ X a ∧ ∀ o', h.get? a = some o' → o'.cls ≠ .type "list"
noncomputable def InH (X : Addr → Prop) (h : Heap) : Prop := ∀ a, X a → ∃ o, h.get? a = some o
noncomputable def Hle (h h' : Heap) : Prop := ∀ b o, h.get? b = some o → h'.get? b = some o
theorem Hle.refl (h : Heap) : Hle h h := fun _ _ e => e
theorem Hle.trans {a b c : Heap} (x : Hle a b) (y : Hle b c) : Hle a c := fun i o e => y i o (x i o e)
theorem InH.le {X : Addr → Prop} {h h' : Heap} (x : InH X h) (k : Hle h h') : InH X h' := fun a ha => let ⟨o, e⟩ := x a ha; ⟨o, k a o e⟩
structure Kp (s s' : Shared) : Prop where
  same : ∃ tk, s' = { s with heap := s'.heap, toks := tk }
  le : Hle s.heap s'.heap
theorem Kp.mk' {s : Shared} {h' : Heap} {tk : Nat} (k : Hle s.heap h') : Kp s { s with heap := h', toks := tk } := ⟨⟨tk, rfl⟩, k⟩
theorem Kp.refl (s : Shared) : Kp s s := ⟨⟨s.toks, rfl⟩, Hle.refl _⟩
theorem Kp.toks (s : Shared) (t : Nat) : Kp s { s with toks := t } := ⟨⟨t, rfl⟩, Hle.refl _⟩
theorem Kp.trans {a b c : Shared} (x : Kp a b) (y : Kp b c) : Kp a c := by
  obtain ⟨⟨t, e⟩, k⟩ := x
  obtain ⟨⟨t', e'⟩, k'⟩ := y
  refine ⟨⟨t', ?_⟩, k.trans k'⟩
  rw [e'] ; rw [e]
theorem Kp.push (s : Shared) (o : Obj) : Kp s { s with heap := s.heap.push o } := ⟨⟨s.toks, rfl⟩, fun _ _ e => Heap.get?_push_of_some _ e⟩
theorem VRel.up {X : Addr → Prop} {h h' : Heap} (k : Hle h h') {v : V} {rv : Value} (r : VRel (rd X h) v rv) : VRel (rd X h') v rv := r.le fun a o p => ⟨k a o p.1, p.2⟩
theorem VRels.up {X : Addr → Prop} {h h' : Heap} (k : Hle h h') {v : List V} {rv : List Value} (r : VRels (rd X h) v rv) : VRels (rd X h') v rv := r.le fun a o p => ⟨k a o p.1, p.2⟩
theorem VRel.toB {X : Addr → Prop} {h h' : Heap} {v : V} {rv : Value} (r : VRel (rdF X h h') v rv) : VRel (rd X h') v rv := r.le fun a o p => ⟨p.1, p.2.1⟩
/-- a value without lists is no list of the elder heap -/
theorem VRel.toF {X : Addr → Prop} {h h' : Heap} (k : Hle h h') {v : V} {rv : Value} (f : v.free = true) (r : VRel (rd X h') v rv) : VRel (rdF X h h') v rv :=
  r.freeMono (fun a o hc p => ⟨p.1, p.2, fun o' e hl => hc (by have := k a o' e; rw [p.1] at this; cases this; exact hl)⟩) f
theorem VRels.toF {X : Addr → Prop} {h h' : Heap} (k : Hle h h') {v : List V} {rv : List Value} (f : V.frees v = true) (r : VRels (rd X h') v rv) : VRels (rdF X h h') v rv :=
  r.freeMono (fun a o hc p => ⟨p.1, p.2, fun o' e hl => hc (by have := k a o' e; rw [p.1] at this; cases this; exact hl)⟩) f
theorem rdF_widen {X : Addr → Prop} {g h h' h'' : Heap} (k : Hle g h) (k' : Hle h' h'') {a : Addr} {o : Obj} (p : rdF X h h' a o) : rdF X g h'' a o :=
  ⟨k' a o p.1, p.2.1, fun o' e => p.2.2 o' (k a o' e)⟩
theorem VRel.wide {X : Addr → Prop} {g h h' h'' : Heap} (k : Hle g h) (k' : Hle h' h'') {v : V} {rv : Value} (r : VRel (rdF X h h') v rv) : VRel (rdF X g h'') v rv := r.le fun _ _ p => rdF_widen k k' p
theorem VRels.wide {X : Addr → Prop} {g h h' h'' : Heap} (k : Hle g h) (k' : Hle h' h'') {v : List V} {rv : List Value} (r : VRels (rdF X h h') v rv) : VRels (rdF X g h'') v rv := r.le fun _ _ p => rdF_widen k k' p
/-- the world of one program: its model, what stands in every heap, its globals; T: tables that may grow -/
structure Cx where
  prog : Program
  w : World
  base : PH
  T : List Addr
  baseT : ∀ a o, base a o → a ∉ T
  mg : Str → Option Value
  mb : Str → Option Value
  glob : ∀ h : Heap, (∀ a o, base a o → h.get? a = some o) → h.Ns mainGlobals mg
  bui : ∀ h : Heap, (∀ a o, base a o → h.get? a = some o) → h.Ns builtinsNs mb
  lim : ∀ h : Heap, (∀ a o, base a o → h.get? a = some o) → h.NoLimit
  tk : PH → Obj → Prop
  tkm : ∀ (P Q : PH) (o : Obj), (∀ a o' vs, o'.data = .fields vs → P a o' → Q a o') → tk P o → tk Q o
noncomputable def Cx.M (C : Cx) : Model := model C.prog C.w
structure Cx.Ok (C : Cx) (h : Heap) : Prop where
  b : ∀ a o, C.base a o → h.get? a = some o
  t : ∀ a, a ∈ C.T → ∃ o, h.get? a = some o ∧ o.cls = .none
theorem Cx.Ok.le {C : Cx} {h h' : Heap} (x : C.Ok h) (k : Hle h h') : C.Ok h' := ⟨fun a o e => k a o (x.b a o e), fun a ha => let ⟨o, e, q⟩ := x.t a ha; ⟨o, k a o e, q⟩⟩
/-- the room that is left: k calls deep -/
structure Rm (k : Nat) (A : Around) : Prop where
  handled : A.handled = none
  depth : A.depth + k < recursionLimit
  units : A.units + 20 * k + 20 < cLine
/-- an environment of a def or of a comprehension of the text's -/
structure EnvOk (env : Env) : Prop where
  kind : env.scope.kind = .function
  glob : env.globals = mainGlobals
  bui : env.builtins = builtinsNs
/-- the name x holds rv -/
noncomputable def Rd (env : Env) (h : Heap) (x : Str) (rv : Value) : Prop :=
  (env.kindOf x = some .local ∧ ∃ m, h.Ns env.locals m ∧ m x = some rv) ∨
  ((env.kindOf x = some .cell ∨ env.kindOf x = some .free) ∧ ∃ c, env.cells.lookup x = some c ∧ h.IsCell c (some rv))
theorem Rd.le {env : Env} {h h' : Heap} {x : Str} {rv : Value} (r : Rd env h x rv) (k : Hle h h') : Rd env h' x rv := by
  rcases r with ⟨e, m, n, q⟩ | ⟨e, c, l, q⟩
  · exact .inl ⟨e, m, n.keeps k, q⟩
  · exact .inr ⟨e, c, l, q.keeps k⟩
inductive Slot where
  | unset
  | val (v : V)
  | own (xs : List V)
  | own2 (xss : List (List V))
deriving Inhabited
noncomputable def Slot.v : Slot → Option V
  | .unset => none
  | .val v => some v
  | .own xs => some (.lst xs)
  | .own2 xss => some (.lst (xss.map .lst))
abbrev Sg := List Slot
noncomputable def Sg.get (σ : Sg) (i : Nat) : Option V := (σ[i]?).bind Slot.v
/-- what a frame's names hold -/
noncomputable def View (X : Addr → Prop) (N : List Str) (σ : Sg) (env : Env) (h : Heap) : Prop :=
  ∀ i x v, N[i]? = some x → σ.get i = some v → ∃ rv, Rd env h x rv ∧ VRel (rd X h) v rv
theorem View.le {X : Addr → Prop} {N : List Str} {σ : Sg} {env : Env} {h h' : Heap} (V : View X N σ env h) (k : Hle h h') : View X N σ env h' := fun i x v hx hv =>
  let ⟨rv, r, q⟩ := V i x v hx hv; ⟨rv, r.le k, q.up k⟩
/-- an expression's value, lists that were there before among it -/
noncomputable def ExB (C : Cx) (k : Nat) (N : List Str) (K : Env → Prop) (e : Expr) (f : Sg → Option V) : Prop :=
  ∀ (A : Around) (env : Env) (s : Shared) (σ : Sg) (v : V) (X : Addr → Prop) (E : Value → Shared → Prop), Rm k A → EnvOk env → K env → C.Ok s.heap → InH X s.heap → View X N σ env s.heap → f σ = some v →
    wpAny C.M A (eval e env) (fun rv s' => Kp s s' ∧ VRel (rd X s'.heap) v rv) E s
/-- an expression's value, no list that was there before among it -/
noncomputable def ExF (C : Cx) (k : Nat) (N : List Str) (K : Env → Prop) (e : Expr) (f : Sg → Option V) : Prop :=
  ∀ (A : Around) (env : Env) (s : Shared) (σ : Sg) (v : V) (X : Addr → Prop) (E : Value → Shared → Prop), Rm k A → EnvOk env → K env → C.Ok s.heap → InH X s.heap → View X N σ env s.heap → f σ = some v →
    wpAny C.M A (eval e env) (fun rv s' => Kp s s' ∧ VRel (rdF X s.heap s'.heap) v rv) E s
section
variable {C : Cx} {k : Nat} {N : List Str} {K : Env → Prop} {e : Expr} {f : Sg → Option V}
theorem ExF.toB (h : ExF C k N K e f) : ExB C k N K e f := fun A env s σ v X E r o ke c i w q => wpAny_mono (h A env s σ v X E r o ke c i w q) (fun _ _ p => ⟨p.1, p.2.toB⟩) fun _ _ p => p
noncomputable def sealF (f : Sg → Option V) : Sg → Option V := fun σ => (f σ).bind fun v => if v.free then some v else none
theorem ExB.seal (h : ExB C k N K e f) : ExF C k N K e (sealF f) := fun A env s σ v X E r o ke c i w q => by
  unfold sealF at q
  obtain ⟨u, hu, q⟩ := Option.bind_eq_some_iff.mp q
  by_cases hf : u.free = true
  · rw [if_pos hf] at q; cases q
    exact wpAny_mono (h A env s σ _ X E r o ke c i w hu) (fun _ _ p => ⟨p.1, p.2.toF p.1.le hf⟩) fun _ _ p => p
  · rw [if_neg hf] at q; cases q
end
section
variable {C : Cx} {k : Nat} {N : List Str} {K : Env → Prop}
/-- a local name -/
theorem Ex_Name {x : Str} {pos : Pos} (i : Nat) (hx : N[i]? = some x) (hd : (x == ("__debug__" : Str)) = false := by decide +kernel) (hn : (x == ("__classdict__" : Str)) = false := by decide +kernel) :
    ExB C k N K (.Name x pos) (fun σ => σ.get i) := fun A env s σ v X E _ o _ _ _ w q => by
  obtain ⟨rv, r, p⟩ := w i x v hx q
  refine wpAny_Name ?_ hd
  rcases r with ⟨e, m, n, h⟩ | ⟨e | e, c, l, h⟩
  · exact wpAny_loadName_local o.kind e n h ⟨Kp.refl s, p⟩
  · exact wpAny_loadName_cell o.kind e l h ⟨Kp.refl s, p⟩
  · exact wpAny_loadName_free o.kind e l h ⟨Kp.refl s, p⟩ hn
/-- a global name of the text's -/
theorem Ex_Glob {x : Str} {pos : Pos} {rv : Value} (hk : ∀ env, K env → env.kindOf x = some .globalImplicit) (hx : C.mg x = some rv) (hd : (x == ("__debug__" : Str)) = false := by decide +kernel) :
    ExF C k N K (.Name x pos) (fun _ => some (.raw rv)) := fun A env s σ v X E _ o ke c _ _ q => by
  cases q
  refine Calls.Name_function_global o.kind (hk env ke) (Calls.loadGlobal_global (by rw [o.glob]; exact C.glob _ c.b) hx ⟨Kp.refl s, ?_⟩) hd
  unfold VRel; rfl
/-- a name of the built-ins -/
theorem Ex_Bui {x : Str} {pos : Pos} {rv : Value} (hk : ∀ env, K env → env.kindOf x = some .globalImplicit) (hm : C.mg x = none) (hx : C.mb x = some rv) (hd : (x == ("__debug__" : Str)) = false := by decide +kernel) :
    ExF C k N K (.Name x pos) (fun _ => some (.raw rv)) := fun A env s σ v X E _ o ke c _ _ q => by
  cases q
  refine Calls.Name_function_global o.kind (hk env ke) (Calls.loadGlobal_builtin (by rw [o.glob]; exact C.glob _ c.b) hm (by rw [o.bui]; exact C.bui _ c.b) hx ⟨Kp.refl s, ?_⟩) hd
  unfold VRel; rfl
theorem Ex_Int {i : Int} {kd : Nat} {pos : Pos} : ExF C k N K (.Constant (.int i) kd pos) (fun _ => some (.int i)) := fun A env s σ v X E _ o _ _ _ _ q => by
  cases q
  refine wpAny_Constant_int ⟨Kp.toks s _, ?_⟩
  unfold VRel; exact ⟨_, rfl⟩
theorem Ex_Str {x : Str} {kd : Nat} {pos : Pos} : ExF C k N K (.Constant (.str x) kd pos) (fun _ => some (.str x)) := fun A env s σ v X E _ o _ _ _ _ q => by
  cases q
  refine Calls.Constant_str ⟨Kp.toks s _, ?_⟩
  unfold VRel; exact ⟨_, rfl⟩
theorem Ex_None {kd : Nat} {pos : Pos} : ExF C k N K (.Constant .none kd pos) (fun _ => some .none) := fun A env s σ v X E _ o _ _ _ _ q => by
  cases q
  refine wpAny_pure (a := Value.none) ⟨Kp.refl s, ?_⟩
  unfold VRel; rfl
theorem Ex_Bool {b : Bool} {kd : Nat} {pos : Pos} : ExF C k N K (.Constant (.bool b) kd pos) (fun _ => some (.bool b)) := fun A env s σ v X E _ o _ _ _ _ q => by
  cases q
  refine wpAny_pure (a := Value.bool b) ⟨Kp.refl s, ?_⟩
  unfold VRel; rfl
end
end Mine
set_option Elab.async false
set_option linter.unusedVariables false
set_option maxRecDepth 100000
namespace Mine
open PySem PySem.W PyProof.Rows
noncomputable def smallI (a : Int) : Bool := decide (-(2 ^ 62) < a) && decide (a < 2 ^ 62)
theorem bits_small {a : Int} (h : smallI a = true) : Builtin.Int.intBits a ≤ 64 := by
  simp only [smallI, Bool.and_eq_true, decide_eq_true_eq] at h
  exact intBits_le_64 (by omega) (by omega)
noncomputable def binD : Operator → V → V → Option V
  | .Add, .int a, .int b => some (.int (a + b))
  | .Sub, .int a, .int b => some (.int (a - b))
  | .Mult, .int a, .int b => if smallI a then some (.int (a * b)) else none
  | .FloorDiv, .int a, .int b => if b ≠ 0 ∧ b.natAbs < 1073741824 then some (.int (a.fdiv b)) else none
  | .Mod, .int a, .int b => if b ≠ 0 then some (.int (a.fmod b)) else none
  | .Add, .str x, .str y => if x.length + y.length ≤ 16777216 then some (.str (x ++ y)) else none
  | .Mult, .str x, .int n => if n < 1000 ∧ 0 ≤ n ∧ x.length ≤ 1000 then some (.str (Txt.mul x n)) else none
  | .Add, .lst xs, .lst ys => if xs.length + ys.length ≤ 16777216 ∧ V.frees xs = true ∧ V.frees ys = true then some (.lst (xs ++ ys)) else none
  | .Mult, .lst xs, .int n => if n < 1000 ∧ 0 ≤ n ∧ xs.length ≤ 1000 ∧ V.frees xs = true then some (.lst (List.replicate n.toNat xs).flatten) else none
  | _, _, _ => none
theorem VRels.length {P : PH} : ∀ {vs : List V} {rvs : List Value}, VRels P vs rvs → rvs.length = vs.length
  | [], _, h => by unfold VRels at h; subst h; rfl
  | v :: vs, _, h => by
    unfold VRels at h
    obtain ⟨r, rs, rfl, _, q⟩ := h
    rw [List.length_cons, List.length_cons, VRels.length q]
theorem VRels.append {P : PH} : ∀ {vs ws : List V} {rs qs : List Value}, VRels P vs rs → VRels P ws qs → VRels P (vs ++ ws) (rs ++ qs)
  | [], _, _, _, h, h' => by unfold VRels at h; subst h; exact h'
  | v :: vs, ws, _, qs, h, h' => by
    unfold VRels at h
    obtain ⟨r, rs, rfl, p, q⟩ := h
    show VRels P (v :: (vs ++ ws)) (r :: (rs ++ qs))
    unfold VRels
    exact ⟨r, rs ++ qs, rfl, p, VRels.append q h'⟩
theorem VRels.get {P : PH} : ∀ {vs : List V} {rs : List Value}, VRels P vs rs → ∀ {i : Nat} {v : V}, vs[i]? = some v → ∃ rv, rs[i]? = some rv ∧ VRel P v rv
  | [], _, _, _, _, e => by cases e
  | v :: vs, _, h, 0, u, e => by
    unfold VRels at h
    obtain ⟨r, rs, rfl, p, q⟩ := h
    cases e
    exact ⟨r, rfl, p⟩
  | v :: vs, _, h, i + 1, u, e => by
    unfold VRels at h
    obtain ⟨r, rs, rfl, p, q⟩ := h
    exact VRels.get q (i := i) e
theorem VRels.none {P : PH} {vs : List V} {rs : List Value} (h : VRels P vs rs) {i : Nat} (e : vs[i]? = none) : rs[i]? = none := by
  rw [List.getElem?_eq_none_iff] at e ⊢
  rw [h.length]; exact e
theorem VRels.replicate {P : PH} {vs : List V} {rs : List Value} (h : VRels P vs rs) : ∀ n : Nat, VRels P (List.replicate n vs).flatten (List.replicate n rs).flatten
  | 0 => by unfold VRels; rfl
  | n + 1 => by
    rw [List.replicate_succ, List.replicate_succ, List.flatten_cons, List.flatten_cons]
    exact h.append (h.replicate n)
theorem VRels.one {P : PH} {v : V} {r : Value} (h : VRel P v r) : VRels P [v] [r] := by unfold VRels; exact ⟨r, [], rfl, h, by unfold VRels; rfl⟩
theorem VRels.nil {P : PH} : VRels P [] [] := by unfold VRels; rfl
theorem VRels.cons {P : PH} {v : V} {r : Value} {vs : List V} {rs : List Value} (h : VRel P v r) (q : VRels P vs rs) : VRels P (v :: vs) (r :: rs) := by unfold VRels; exact ⟨r, rs, rfl, h, q⟩
theorem frees_append : ∀ {xs ys : List V}, V.frees xs = true → V.frees ys = true → V.frees (xs ++ ys) = true
  | [], _, _, h => h
  | x :: xs, ys, h, h' => by
    unfold V.frees at h
    rw [Bool.and_eq_true] at h
    show V.frees (x :: (xs ++ ys)) = true
    unfold V.frees
    rw [Bool.and_eq_true]
    exact ⟨h.1, frees_append h.2 h'⟩
theorem frees_replicate {xs : List V} (h : V.frees xs = true) : ∀ n : Nat, V.frees (List.replicate n xs).flatten = true
  | 0 => rfl
  | n + 1 => by
    rw [List.replicate_succ, List.flatten_cons]
    exact frees_append h (frees_replicate h n)
theorem new_rdF {X : Addr → Prop} {h : Heap} (hX : InH X h) {o : Obj} (hf : o.isFreed = false) : rdF X h (h.push o) h.objs.size o :=
  have none : h.get? h.objs.size = none := by
    cases e : h.get? h.objs.size with
    | none => rfl
    | some o' => exact absurd (Heap.lt_size e) (Nat.lt_irrefl _)
  ⟨Heap.get?_push_size _ hf, (fun x => by obtain ⟨o', e⟩ := hX _ x; rw [none] at e; cases e), (fun o' e => by rw [none] at e; cases e)⟩
theorem push_le (h : Heap) (o : Obj) : Hle h (h.push o) := fun _ _ e => Heap.get?_push_of_some _ e
/-- a list that was not there before, its items as they were: they may be lists of old -/
theorem new_lst {X : Addr → Prop} {h : Heap} (hX : InH X h) {xs : List V} {its : List Value} (r : VRels (rd X h) xs its) (hf : V.frees xs = true) :
    VRel (rdF X h (h.push { cls := .type "list", data := .seq its.toArray })) (.lst xs) (.ref h.objs.size) := by
  unfold VRel
  refine ⟨_, its.toArray, 0, rfl, new_rdF hX rfl, ?_⟩
  rw [List.toList_toArray]
  exact VRels.toF (push_le _ _) hf (r.up (push_le _ _))
theorem new_lstF {X : Addr → Prop} {h h' : Heap} (k : Hle h h') (hX : InH X h') {xs : List V} {its : List Value} (r : VRels (rdF X h h') xs its) :
    VRel (rdF X h (h'.push { cls := .type "list", data := .seq its.toArray })) (.lst xs) (.ref h'.objs.size) := by
  unfold VRel
  refine ⟨_, its.toArray, 0, rfl, rdF_widen k (Hle.refl _) (new_rdF hX rfl), ?_⟩
  rw [List.toList_toArray]
  exact r.wide (Hle.refl _) (push_le _ _)
theorem new_tupF {X : Addr → Prop} {h h' : Heap} (k : Hle h h') (hX : InH X h') {xs : List V} {its : List Value} (r : VRels (rdF X h h') xs its) :
    VRel (rdF X h (h'.push { cls := .type "tuple", data := .seq its.toArray })) (.tup xs) (.ref h'.objs.size) := by
  unfold VRel
  refine ⟨_, its.toArray, 0, rfl, rdF_widen k (Hle.refl _) (new_rdF hX rfl), ?_⟩
  rw [List.toList_toArray]
  exact r.wide (Hle.refl _) (push_le _ _)
section
variable {C : Cx} {A : Around} {E : Value → Shared → Prop} {s : Shared} {X : Addr → Prop}
theorem pInt {i : Int} {t : Tok} {P : PH} : VRel P (.int i) (.int i t) := by unfold VRel; exact ⟨t, rfl⟩
theorem pStr {x : Str} {t : Tok} {P : PH} : VRel P (.str x) (.str x t) := by unfold VRel; exact ⟨t, rfl⟩
theorem pBool {b : Bool} {P : PH} : VRel P (.bool b) (.bool b) := by unfold VRel; rfl
theorem add_lists_at {l b : Addr} {its its2 : Array Value} {n n2 : Nat} {Q : Value → Shared → Prop} (hl : s.heap.get? l = some (lstObj its n)) (hb : s.heap.get? b = some (lstObj its2 n2))
    (h : Q (.ref s.heap.objs.size) { s with heap := s.heap.push { cls := .type "list", data := .seq (its.toList ++ its2.toList).toArray } }) (hsz : its.size + its2.size ≤ sizeLine) :
    wpAny C.M A (binaryOp .Add (.ref l) (.ref b)) Q E s := by
  have e : its ++ its2 = (its.toList ++ its2.toList).toArray := by apply Array.ext'; simp
  refine concat_meets ⟨_, hl, rfl⟩ ⟨_, hb, rfl⟩ noFill_list_add seq_list_add PySem.F.slot_list_add PySem.F.entry_list_add (PySem.F.args_list_add_2 _ _) (list_addW l b its its2 n n2 none none #[] #[] hsz) ⟨hl, hb, ?_⟩
  rw [e]
  exact h
theorem mul_list_at {l : Addr} {items : Array Value} {k : Nat} {x : Int} {u : Tok} {Q : Value → Shared → Prop} (hl : s.heap.get? l = some (lstObj items k))
    (hlo : -(2 ^ 63 : Int) ≤ x) (hhi : x < 2 ^ 63) (hsz : items.size * x.toNat ≤ 2 ^ 24)
    (h : Q (.ref s.heap.objs.size) { s with heap := s.heap.push { cls := .type "list", data := .seq (List.foldl (fun x1 x2 => x1 ++ x2) #[] (List.replicate (if items.isEmpty = true then 0 else x.toNat) items)) } }) :
    wpAny C.M A (binaryOp .Mult (.ref l) (.int x u)) Q E s :=
  wpAny_binaryOp_repeat_ref (T := "list") (U := "int") (by decide) ⟨_, hl, rfl⟩ (fun s' => typeIs_int s' x u) noFill_list_mul F.fills_int_mul F.slot_int_rmul repeat_list F.slot_int_index.lookup
    (call_meets F.slot_int_rmul (typeIs_int s x u) F.entry_int_rmul (F.args_int_rmul_2 _ _) (int___rmul___int_list x u l items k)
      ⟨hl, rfl, ⟨_, hl, rfl⟩, call_meets F.slot_list_mul ⟨_, hl, rfl⟩ F.entry_list_mul (F.args_list_mul_2 _ _)
        (AutoListH.list___mul___list_int_3 l items k x u (by simp [Builtin.List.listFitsIndex]; omega) (by omega) (by simp [Builtin.List.listTooLong, sizeLine]; omega))
        ⟨hl, h⟩⟩)
theorem flat_fold : ∀ (l : List (Array Value)) (acc : Array Value), (List.foldl (fun x1 x2 => x1 ++ x2) acc l).toList = acc.toList ++ (l.map Array.toList).flatten
  | [], acc => by simp
  | a :: l, acc => by rw [List.foldl_cons, flat_fold l]; simp
theorem VRel.int' {P : PH} {i : Int} {rv : Value} (h : VRel P (.int i) rv) : ∃ t, rv = .int i t := by unfold VRel at h; exact h
theorem VRel.str' {P : PH} {x : Str} {rv : Value} (h : VRel P (.str x) rv) : ∃ t, rv = .str x t := by unfold VRel at h; exact h
theorem VRel.bool' {P : PH} {b : Bool} {rv : Value} (h : VRel P (.bool b) rv) : rv = .bool b := by unfold VRel at h; exact h
theorem VRel.none' {P : PH} {rv : Value} (h : VRel P .none rv) : rv = .none := by unfold VRel at h; exact h
theorem VRel.raw' {P : PH} {v rv : Value} (h : VRel P (.raw v) rv) : rv = v := by unfold VRel at h; exact h
theorem VRel.lst' {P : PH} {l : List V} {rv : Value} (h : VRel P (.lst l) rv) : ∃ a its n, rv = .ref a ∧ P a (lstObj its n) ∧ VRels P l its.toList := by unfold VRel at h; exact h
theorem VRel.tup' {P : PH} {l : List V} {rv : Value} (h : VRel P (.tup l) rv) : ∃ a its n, rv = .ref a ∧ P a (tupObj its n) ∧ VRels P l its.toList := by unfold VRel at h; exact h
theorem bin_sound (hX : InH X s.heap) {op : Operator} {a b v : V} {x y : Value} (h : binD op a b = some v) (ra : VRel (rd X s.heap) a x) (rb : VRel (rd X s.heap) b y) :
    wpAny C.M A (binaryOp op x y) (fun rv s' => Kp s s' ∧ VRel (rdF X s.heap s'.heap) v rv) E s := by
  unfold binD at h
  split at h
  · cases h
    obtain ⟨t, rfl⟩ := ra.int'
    obtain ⟨u, rfl⟩ := rb.int'
    exact P.add_int ⟨Kp.toks s _, pInt⟩
  · cases h
    obtain ⟨t, rfl⟩ := ra.int'
    obtain ⟨u, rfl⟩ := rb.int'
    exact P.sub_int ⟨Kp.toks s _, pInt⟩
  · split at h <;> cases h
    rename_i hs
    obtain ⟨t, rfl⟩ := ra.int'
    obtain ⟨u, rfl⟩ := rb.int'
    exact P.mul_int ⟨Kp.toks s _, pInt⟩ (IntMulOk.of_left (bits_small hs))
  · split at h <;> cases h
    rename_i hs
    obtain ⟨t, rfl⟩ := ra.int'
    obtain ⟨u, rfl⟩ := rb.int'
    exact floordiv_int hs.1 ⟨Kp.toks s _, pInt⟩ (.inl (PyProof.noPylong_small hs.2))
  · split at h <;> cases h
    rename_i hs
    obtain ⟨t, rfl⟩ := ra.int'
    obtain ⟨u, rfl⟩ := rb.int'
    exact mod_int' hs ⟨Kp.toks s _, pInt⟩
  · split at h <;> cases h
    rename_i hs
    obtain ⟨t, rfl⟩ := ra.str'
    obtain ⟨u, rfl⟩ := rb.str'
    rename_i p q
    refine P.add_str ?_
    split
    · rename_i h0
      have e : p ++ q = q := by
        have : p.cps = #[] := by simpa [Str.length] using h0
        apply Str.ext'; rw [Str.cps_append, this]; simp
      rw [e]
      exact ⟨Kp.refl s, pStr⟩
    · split
      · rename_i h0
        have e : p ++ q = p := by
          have : q.cps = #[] := by simpa [Str.length] using h0
          apply Str.ext'; rw [Str.cps_append, this]; simp
        rw [e]
        exact ⟨Kp.refl s, pStr⟩
      · refine ⟨?_, Kp.toks s _, pStr⟩
        rw [Str.length_append]
        simpa [sizeLine] using hs
  · split at h <;> cases h
    rename_i hs
    obtain ⟨t, rfl⟩ := ra.str'
    obtain ⟨u, rfl⟩ := rb.int'
    rename_i p n
    refine SB.mul ⟨?_, fun h1 h2 => ?_, fun h1 h2 => ?_⟩ fun t' k => ⟨Kp.toks s _, pStr⟩
    · simp; omega
    · have : n ≤ 1000 := by omega
      have h3 : (p.length : Int) * n ≤ 1000 * 1000 := Int.mul_le_mul (by omega) (by omega) (by omega) (by omega)
      have h4 : (p.length : Int) ≤ (2 ^ 63 - 1) / n := Int.le_ediv_of_mul_le (by omega) (by omega)
      omega
    · have : p.length * n.toNat ≤ 1000 * 1000 := Nat.mul_le_mul hs.2.2 (by omega)
      simp [Builtin.Str.tooLong, sizeLine]
      omega
  · split at h <;> cases h
    rename_i hs
    obtain ⟨l, its, n, rfl, pl, rl⟩ := ra.lst'
    obtain ⟨m, its', n', rfl, pm, rm⟩ := rb.lst'
    refine add_lists_at pl.1 pm.1 ⟨Kp.push s _, ?_⟩ (by have := rl.length; have := rm.length; simp only [Array.length_toList] at *; simp only [sizeLine]; omega)
    exact new_lst hX (rl.append rm) (frees_append hs.2.1 hs.2.2)
  · split at h <;> cases h
    rename_i hs
    obtain ⟨l, its, n, rfl, pl, rl⟩ := ra.lst'
    obtain ⟨u, rfl⟩ := rb.int'
    rename_i xs k
    have hl : its.size = xs.length := by have := rl.length; simpa using this
    refine mul_list_at pl.1 (by omega) (by omega) ?_ ?_
    · have : its.size * k.toNat ≤ 1000 * 1000 := Nat.mul_le_mul (by omega) (by omega)
      omega
    · have e : (List.foldl (fun x1 x2 => x1 ++ x2) #[] (List.replicate (if its.isEmpty = true then 0 else k.toNat) its)) = ((List.replicate k.toNat its.toList).flatten).toArray := by
        apply Array.ext'
        rw [flat_fold]
        by_cases h0 : its.isEmpty = true
        · have : its = #[] := by simpa using h0
          subst this
          simp
        · rw [if_neg h0]; simp
      rw [e]
      exact ⟨Kp.push s _, new_lst hX (rl.replicate _) (frees_replicate hs.2.2.2 _)⟩
  · cases h
end
end Mine
set_option Elab.async false
set_option linter.unusedVariables false
set_option maxRecDepth 100000
namespace Mine
open PySem PySem.W PyProof.Rows PySem.SeqAt
mutual
/-- plain data, at most so deep -/
noncomputable def V.dat : Nat → V → Option PyData
  | _, .none => some .none
  | _, .bool b => some (.bool b)
  | _, .int i => some (.int i)
  | n + 1, .tup l => (V.dats n l).map .tuple
  | n + 1, .lst l => (V.dats n l).map .list
  | _, _ => Option.none
noncomputable def V.dats : Nat → List V → Option (List PyData)
  | _, [] => some []
  | n, v :: r => (V.dat n v).bind fun d => (V.dats n r).map fun ds => d :: ds
end
mutual
theorem dat_reads {X : Addr → Prop} {h : Heap} : ∀ (n : Nat) (v : V) (d : PyData) (rv : Value), V.dat n v = some d → VRel (rd X h) v rv → ∃ as, Reads h rv d as
  | n, .none, d, rv, e, r => by unfold V.dat at e; cases e; rw [r.none']; exact ⟨_, .none⟩
  | n, .bool b, d, rv, e, r => by unfold V.dat at e; cases e; rw [r.bool']; exact ⟨_, .bool b⟩
  | n, .int i, d, rv, e, r => by
    unfold V.dat at e; cases e
    obtain ⟨t, rfl⟩ := r.int'
    exact ⟨_, .int i t⟩
  | 0, .tup l, d, rv, e, r => by unfold V.dat at e; cases e
  | 0, .lst l, d, rv, e, r => by unfold V.dat at e; cases e
  | n + 1, .tup l, d, rv, e, r => by
    unfold V.dat at e
    obtain ⟨ds, hd, rfl⟩ := Option.map_eq_some_iff.mp e
    obtain ⟨a, its, m, rfl, p, q⟩ := r.tup'
    obtain ⟨as, ha⟩ := dats_reads n l ds _ hd q
    exact ⟨_, .tuple p.1 rfl rfl ha⟩
  | n + 1, .lst l, d, rv, e, r => by
    unfold V.dat at e
    obtain ⟨ds, hd, rfl⟩ := Option.map_eq_some_iff.mp e
    obtain ⟨a, its, m, rfl, p, q⟩ := r.lst'
    obtain ⟨as, ha⟩ := dats_reads n l ds _ hd q
    exact ⟨_, .list p.1 rfl rfl ha⟩
  | n, .str _, d, rv, e, r => by unfold V.dat at e; cases e
  | n, .raw _, d, rv, e, r => by unfold V.dat at e; cases e
  | n, .obj _ _, d, rv, e, r => by unfold V.dat at e; cases e
  | n, .rng _ _ _, d, rv, e, r => by unfold V.dat at e; cases e
theorem dats_reads {X : Addr → Prop} {h : Heap} : ∀ (n : Nat) (l : List V) (ds : List PyData) (rvs : List Value), V.dats n l = some ds → VRels (rd X h) l rvs → ∃ as, ReadsAll h rvs ds as
  | n, [], ds, rvs, e, r => by
    unfold V.dats at e; cases e
    unfold VRels at r; subst r
    exact ⟨_, .nil⟩
  | n, v :: l, ds, rvs, e, r => by
    unfold V.dats at e
    obtain ⟨d, hd, e⟩ := Option.bind_eq_some_iff.mp e
    obtain ⟨ds', hds, rfl⟩ := Option.map_eq_some_iff.mp e
    unfold VRels at r
    obtain ⟨rv, rvs', rfl, p, q⟩ := r
    obtain ⟨as, ha⟩ := dat_reads n v d rv hd p
    obtain ⟨bs, hb⟩ := dats_reads n l ds' rvs' hds q
    exact ⟨_, .cons ha hb⟩
end
mutual
theorem dat_ok : ∀ (n : Nat) (v : V) (d : PyData), V.dat n v = some d → d.canLay0 = true ∧ d.depth ≤ n
  | n, .none, d, e => by unfold V.dat at e; cases e; simp [PyData.canLay0, PyData.depth]
  | n, .bool b, d, e => by unfold V.dat at e; cases e; simp [PyData.canLay0, PyData.depth]
  | n, .int i, d, e => by unfold V.dat at e; cases e; simp [PyData.canLay0, PyData.depth]
  | 0, .tup l, d, e => by unfold V.dat at e; cases e
  | 0, .lst l, d, e => by unfold V.dat at e; cases e
  | n + 1, .tup l, d, e => by
    unfold V.dat at e
    obtain ⟨ds, hd, rfl⟩ := Option.map_eq_some_iff.mp e
    have := dats_ok n l ds hd
    simp only [PyData.canLay0, PyData.depth]
    exact ⟨this.1, by omega⟩
  | n + 1, .lst l, d, e => by
    unfold V.dat at e
    obtain ⟨ds, hd, rfl⟩ := Option.map_eq_some_iff.mp e
    have := dats_ok n l ds hd
    simp only [PyData.canLay0, PyData.depth]
    exact ⟨this.1, by omega⟩
  | n, .str _, d, e => by unfold V.dat at e; cases e
  | n, .raw _, d, e => by unfold V.dat at e; cases e
  | n, .obj _ _, d, e => by unfold V.dat at e; cases e
  | n, .rng _ _ _, d, e => by unfold V.dat at e; cases e
theorem dats_ok : ∀ (n : Nat) (l : List V) (ds : List PyData), V.dats n l = some ds → PyData.canLayAll0 ds = true ∧ PyData.depthAll ds ≤ n
  | n, [], ds, e => by unfold V.dats at e; cases e; simp [PyData.canLayAll0, PyData.depthAll]
  | n, v :: l, ds, e => by
    unfold V.dats at e
    obtain ⟨d, hd, e⟩ := Option.bind_eq_some_iff.mp e
    obtain ⟨ds', hds, rfl⟩ := Option.map_eq_some_iff.mp e
    have a := dat_ok n v d hd
    have b := dats_ok n l ds' hds
    simp only [PyData.canLayAll0, PyData.depthAll, Bool.and_eq_true]
    exact ⟨⟨a.1, b.1⟩, by omega⟩
end
noncomputable def V.isNone : V → Option Bool
  | .none => some true
  | .int _ => some false
  | .raw (.ref _) => some false
  | .raw (.builtin _) => some false
  | _ => Option.none
noncomputable def eqD (a b : V) : Option Bool := (V.dat 6 a).bind fun x => (V.dat 6 b).map fun y => PyData.eqv x y
noncomputable def cmpD : CmpOp → V → V → Option Bool
  | .Lt, .int a, .int b => some (decide (a < b))
  | .LtE, .int a, .int b => some (decide (a ≤ b))
  | .Gt, .int a, .int b => some (decide (a > b))
  | .GtE, .int a, .int b => some (decide (a ≥ b))
  | .Eq, .int a, .int b => some (a == b)
  | .NotEq, .int a, .int b => some (a != b)
  | .Eq, .str a, .str b => some (a.cps.toList == b.cps.toList)
  | .NotEq, .str a, .str b => some (a.cps.toList != b.cps.toList)
  | .Is, a, .none => a.isNone
  | .Eq, a, b => eqD a b
  | .NotEq, a, b => (eqD a b).map (!·)
  | _, _, _ => none
section
variable {C : Cx} {k : Nat} {A : Around} {E : Value → Shared → Prop} {s : Shared} {X : Addr → Prop}
theorem cmp_sound {op : CmpOp} {a b : V} {r : Bool} {x y : Value} (R : Rm k A) (h : cmpD op a b = some r) (ra : VRel (rd X s.heap) a x) (rb : VRel (rd X s.heap) b y) {Q : Value → Shared → Prop} (hQ : Q (.bool r) s) :
    wpAny C.M A (compareOp op x y) Q E s := by
  unfold cmpD at h
  split at h
  · cases h
    obtain ⟨t, rfl⟩ := ra.int'
    obtain ⟨u, rfl⟩ := rb.int'
    exact P.lt_int hQ
  · cases h
    obtain ⟨t, rfl⟩ := ra.int'
    obtain ⟨u, rfl⟩ := rb.int'
    exact P.le_int hQ
  · cases h
    obtain ⟨t, rfl⟩ := ra.int'
    obtain ⟨u, rfl⟩ := rb.int'
    exact P.gt_int hQ
  · cases h
    obtain ⟨t, rfl⟩ := ra.int'
    obtain ⟨u, rfl⟩ := rb.int'
    exact P.ge_int hQ
  · cases h
    obtain ⟨t, rfl⟩ := ra.int'
    obtain ⟨u, rfl⟩ := rb.int'
    exact P.eq_int hQ
  · cases h
    obtain ⟨t, rfl⟩ := ra.int'
    obtain ⟨u, rfl⟩ := rb.int'
    exact P.ne_int hQ
  · cases h
    obtain ⟨t, rfl⟩ := ra.str'
    obtain ⟨u, rfl⟩ := rb.str'
    exact P.eq_str hQ
  · cases h
    obtain ⟨t, rfl⟩ := ra.str'
    obtain ⟨u, rfl⟩ := rb.str'
    exact P.ne_str hQ
  · rw [rb.none']
    unfold V.isNone at h
    split at h <;> cases h
    · rw [ra.none']; exact is_none_none hQ
    · obtain ⟨t, rfl⟩ := ra.int'
      exact is_int_none hQ
    · rw [ra.raw']; exact is_ref_none hQ
    · rw [ra.raw']; exact is_none_ne (by intro x; cases x) hQ
  · unfold eqD at h
    obtain ⟨da, ha, h⟩ := Option.bind_eq_some_iff.mp h
    obtain ⟨db, hb, rfl⟩ := Option.map_eq_some_iff.mp h
    obtain ⟨as, qa⟩ := dat_reads _ _ _ _ ha ra
    obtain ⟨bs, qb⟩ := dat_reads _ _ _ _ hb rb
    have oa := dat_ok _ _ _ ha
    have ob := dat_ok _ _ _ hb
    exact compareEq_reads qa qb oa.1 ob.1 (by have := R.units; omega) hQ
  · obtain ⟨q, h', rfl⟩ := Option.map_eq_some_iff.mp h
    unfold eqD at h'
    obtain ⟨da, ha, h'⟩ := Option.bind_eq_some_iff.mp h'
    obtain ⟨db, hb, rfl⟩ := Option.map_eq_some_iff.mp h'
    obtain ⟨as, qa⟩ := dat_reads _ _ _ _ ha ra
    obtain ⟨bs, qb⟩ := dat_reads _ _ _ _ hb rb
    have oa := dat_ok _ _ _ ha
    have ob := dat_ok _ _ _ hb
    exact compareNe_reads qa qb oa.1 ob.1 (by have := R.units; omega) hQ
  · cases h
end
/-- a test -/
noncomputable def Tx (C : Cx) (k : Nat) (N : List Str) (K : Env → Prop) (e : Expr) (g : Sg → Option Bool) : Prop :=
  ∀ (A : Around) (env : Env) (s : Shared) (σ : Sg) (b : Bool) (X : Addr → Prop) (E : Value → Shared → Prop), Rm k A → EnvOk env → K env → C.Ok s.heap → InH X s.heap → View X N σ env s.heap → g σ = some b →
    wpAny C.M A (isTrue e env (eval e env)) (fun rb s' => Kp s s' ∧ rb = b) E s
noncomputable def fBin (op : Operator) (f g : Sg → Option V) : Sg → Option V := fun σ => (f σ).bind fun a => (g σ).bind fun b => binD op a b
noncomputable def fCmp (op : CmpOp) (f g : Sg → Option V) : Sg → Option Bool := fun σ => (f σ).bind fun a => (g σ).bind fun b => cmpD op a b
noncomputable def V.tr : V → Option Bool
  | .bool b => some b
  | _ => Option.none
noncomputable def fIf {α : Type} (t : Sg → Option Bool) (f g : Sg → Option α) : Sg → Option α := fun σ => (t σ).bind fun b => if b then f σ else g σ
section
variable {C : Cx} {k : Nat} {N : List Str} {K : Env → Prop}
theorem Ex_Bin {l r : Expr} {op : Operator} {pos : Pos} {f g : Sg → Option V} (hl : ExB C k N K l f) (hr : ExB C k N K r g) : ExF C k N K (.BinOp l op r pos) (fBin op f g) := fun A env s σ v X E R o ke c i w q => by
  unfold fBin at q
  obtain ⟨a, ha, q⟩ := Option.bind_eq_some_iff.mp q
  obtain ⟨b, hb, q⟩ := Option.bind_eq_some_iff.mp q
  refine wpAny_BinOp (wpAny_mono (hl A env s σ a X E R o ke c i w ha) (fun ra s₁ h₁ => ?_) fun _ _ x => x)
  have k₁ := h₁.1.le
  refine wpAny_mono (hr A env s₁ σ b X E R o ke (c.le k₁) (i.le k₁) (w.le k₁) hb) (fun rb s₂ h₂ => ?_) fun _ _ x => x
  have k₂ := h₂.1.le
  refine wpAny_mono (bin_sound ((i.le k₁).le k₂) q (h₁.2.up k₂) h₂.2) (fun rv s₃ h₃ => ?_) fun _ _ x => x
  exact ⟨(h₁.1.trans h₂.1).trans h₃.1, h₃.2.wide (k₁.trans k₂) (Hle.refl _)⟩
theorem cmp2 {l r : Expr} {op : CmpOp} {f g : Sg → Option V} (hl : ExB C k N K l f) (hr : ExB C k N K r g) {A : Around} {env : Env} {s : Shared} {σ : Sg} {b : Bool} {X : Addr → Prop} {E : Value → Shared → Prop}
    (R : Rm k A) (o : EnvOk env) (ke : K env) (c : C.Ok s.heap) (i : InH X s.heap) (w : View X N σ env s.heap) (q : fCmp op f g σ = some b) {Q : Value → Shared → Prop} (hQ : ∀ s', Kp s s' → Q (.bool b) s') :
    wpAny C.M A (eval l env) (fun a s₁ => wpAny C.M A (eval r env) (fun b s₂ => wpAny C.M A (compareOp op a b) Q E s₂) E s₁) E s := by
  unfold fCmp at q
  obtain ⟨a, ha, q⟩ := Option.bind_eq_some_iff.mp q
  obtain ⟨b, hb, q⟩ := Option.bind_eq_some_iff.mp q
  refine wpAny_mono (hl A env s σ a X E R o ke c i w ha) (fun ra s₁ h₁ => ?_) fun _ _ x => x
  have k₁ := h₁.1.le
  refine wpAny_mono (hr A env s₁ σ b X E R o ke (c.le k₁) (i.le k₁) (w.le k₁) hb) (fun rb s₂ h₂ => ?_) fun _ _ x => x
  have k₂ := h₂.1.le
  exact cmp_sound R q (h₁.2.up k₂) h₂.2 (hQ _ (h₁.1.trans h₂.1))
theorem Ex_Cmp {l r : Expr} {op : CmpOp} {pos : Pos} {f g : Sg → Option V} (hl : ExB C k N K l f) (hr : ExB C k N K r g) (hm : behindInMarks op r = false := by with_unfolding_all rfl) :
    ExF C k N K (.Compare l [op] [r] pos) (fun σ => (fCmp op f g σ).map .bool) := fun A env s σ v X E R o ke c i w q => by
  obtain ⟨b, q', rfl⟩ := Option.map_eq_some_iff.mp q
  exact wpAny_Compare1 (cmp2 hl hr R o ke c i w q' fun s' h => ⟨h, pBool⟩) hm
theorem Tx_Cmp {l r : Expr} {op : CmpOp} {pos : Pos} {f g : Sg → Option V} (hl : ExB C k N K l f) (hr : ExB C k N K r g) (hm : behindInMarks op r = false := by with_unfolding_all rfl) :
    Tx C k N K (.Compare l [op] [r] pos) (fCmp op f g) := fun A env s σ b X E R o ke c i w q =>
  wpAny_isTrue_Compare1 (cmp2 hl hr R o ke c i w q fun s' h => wpAny_truthy_bool ⟨h, rfl⟩) hm
/-- a test by a value that is a bool -/
theorem Tx_Val {e : Expr} {f : Sg → Option V} (h : ExB C k N K e f) (he : ∀ env whole, isTrue e env whole = (do let v ← whole; standAt e.pos; holding [v] (truthy v)) := by intro _ _; rfl) :
    Tx C k N K e (fun σ => (f σ).bind V.tr) := fun A env s σ b X E R o ke c i w q => by
  obtain ⟨v, hv, q⟩ := Option.bind_eq_some_iff.mp q
  unfold V.tr at q
  split at q <;> cases q
  exact isTrue_plain (wpAny_mono (h A env s σ _ X E R o ke c i w hv) (fun rv s' p => by rw [p.2.bool']; exact wpAny_truthy_bool ⟨p.1, rfl⟩) fun _ _ x => x) (he _ _)
theorem Ex_IfB {t b e : Expr} {pos : Pos} {ft : Sg → Option Bool} {fb fe : Sg → Option V} (ht : Tx C k N K t ft) (hb : ExB C k N K b fb) (he : ExB C k N K e fe) : ExB C k N K (.IfExp t b e pos) (fIf ft fb fe) := fun A env s σ v X E R o ke c i w q => by
  unfold fIf at q
  obtain ⟨d, hd, q⟩ := Option.bind_eq_some_iff.mp q
  refine wpAny_IfExp (wpAny_mono (ht A env s σ d X E R o ke c i w hd) (fun rb s' p => ?_) fun _ _ x => x)
  obtain ⟨p1, rfl⟩ := p
  cases rb with
  | true => rw [if_pos rfl] at q ⊢; exact wpAny_mono (hb A env s' σ v X E R o ke (c.le p1.le) (i.le p1.le) (w.le p1.le) q) (fun _ _ r => ⟨p1.trans r.1, r.2⟩) fun _ _ x => x
  | false => rw [if_neg Bool.false_ne_true] at q ⊢; exact wpAny_mono (he A env s' σ v X E R o ke (c.le p1.le) (i.le p1.le) (w.le p1.le) q) (fun _ _ r => ⟨p1.trans r.1, r.2⟩) fun _ _ x => x
theorem Ex_Neg {e : Expr} {pos : Pos} {f : Sg → Option V} (h : ExB C k N K e f) : ExF C k N K (.UnaryOp .USub e pos) (fun σ => (f σ).bind fun v => match v with | .int i => some (.int (-i)) | _ => none) := fun A env s σ v X E R o ke c i w q => by
  obtain ⟨u, hu, q⟩ := Option.bind_eq_some_iff.mp q
  split at q <;> cases q
  have e0 : eval (.UnaryOp .USub e pos) env = (do let v ← eval e env; standAt pos; holding [v] (unaryOp .USub v)) := rfl
  rw [e0]
  refine wpAny_bind (wpAny_mono (h A env s σ _ X E R o ke c i w hu) (fun rv s' p => ?_) fun _ _ x => x)
  obtain ⟨t, rfl⟩ := p.2.int'
  exact wpAny_bind (wpAny_standAt (wpAny_holding (P.neg_int ⟨p.1.trans (Kp.toks _ _), pInt⟩)))
end
end Mine
set_option Elab.async false
set_option linter.unusedVariables false
set_option maxRecDepth 100000
namespace Mine
open PySem PySem.W PyProof.Rows
/-- which addresses are a frame's own: its dict and its cells -/
noncomputable def Fra (env : Env) (a : Addr) : Prop := a = env.locals ∨ ∃ n, env.cells.lookup n = some a
/-- the frame's own and its lists -/
noncomputable def Owned (env : Env) (ow : Nat → List Addr) (a : Addr) : Prop := Fra env a ∨ ∃ i, a ∈ ow i
noncomputable def Inner (P : PH) (h : Heap) : List (List V) → List Addr → Prop
  | [], bs => bs = []
  | xs :: r, bs => ∃ b bs', bs = b :: bs' ∧ (∃ its n, h.get? b = some (lstObj its n) ∧ VRels P xs its.toList) ∧ Inner P h r bs'
noncomputable def SlotRel (P : PH) (h : Heap) (rv : Option Value) (as : List Addr) : Slot → Prop
  | .unset => as = []
  | .val v => as = [] ∧ ∃ r, rv = some r ∧ VRel P v r
  | .own xs => ∃ a its n, as = [a] ∧ rv = some (.ref a) ∧ h.get? a = some (lstObj its n) ∧ VRels P xs its.toList
  | .own2 xss => ∃ a bs n, as = a :: bs ∧ rv = some (.ref a) ∧ h.get? a = some (lstObj (bs.map Value.ref).toArray n) ∧ Inner P h xss bs
theorem Inner.mono {P Q : PH} {h h' : Heap} (hP : ∀ a o, P a o → Q a o) : ∀ {xss : List (List V)} {bs : List Addr}, (∀ b, b ∈ bs → ∀ o, h.get? b = some o → h'.get? b = some o) → Inner P h xss bs → Inner Q h' xss bs
  | [], _, _, x => x
  | xs :: r, bs, hb, x => by
    unfold Inner at x ⊢
    obtain ⟨b, bs', rfl, ⟨its, n, e, q⟩, y⟩ := x
    exact ⟨b, bs', rfl, ⟨its, n, hb b (.head _) _ e, q.le hP⟩, Inner.mono hP (fun c hc => hb c (.tail _ hc)) y⟩
theorem SlotRel.mono {P Q : PH} {h h' : Heap} {rv : Option Value} {as : List Addr} {sl : Slot} (x : SlotRel P h rv as sl) (hP : ∀ a o, P a o → Q a o) (hb : ∀ b, b ∈ as → ∀ o, h.get? b = some o → h'.get? b = some o) :
    SlotRel Q h' rv as sl := by
  cases sl with
  | unset => exact x
  | val v => obtain ⟨e, r, e', q⟩ := x; exact ⟨e, r, e', q.le hP⟩
  | own xs => obtain ⟨a, its, n, rfl, e', g, q⟩ := x; exact ⟨a, its, n, rfl, e', hb a (.head _) _ g, q.le hP⟩
  | own2 xss => obtain ⟨a, bs, n, rfl, e', g, q⟩ := x; exact ⟨a, bs, n, rfl, e', hb a (.head _) _ g, q.mono hP fun b h => hb b (.tail _ h)⟩
noncomputable def vm (env : Env) (m cm : Str → Option Value) (x : Str) : Option Value := if env.kindOf x = some .local then m x else cm x
/-- the names of a def's frame -/
structure FnEnv (N : List Str) (env : Env) : Prop where
  nodup : N.Nodup
  kinds : ∀ (i : Nat) x, N[i]? = some x → env.kindOf x = some .local ∨ (env.kindOf x = some .cell ∧ ∃ c, env.cells.lookup x = some c)
  apart : env.cells.Pairwise fun x y => x.2 ≠ y.2
  off : ∀ n c, (n, c) ∈ env.cells → c ≠ env.locals
structure StW (C : Cx) (X : Addr → Prop) (N : List Str) (G : PH) (s₀ : Shared) (env : Env) (σ : Sg) (s : Shared) (m cm : Str → Option Value) (ow : Nat → List Addr) : Prop where
  same : ∃ tk, s = { s₀ with heap := s.heap, toks := tk }
  keep : ∀ b o, b ∉ C.T → s₀.heap.get? b = some o → s.heap.get? b = some o
  tabs : ∀ a, a ∈ C.T → ∃ o, s.heap.get? a = some o ∧ o.cls = .none ∧ C.tk (rd (fun a => (X a ∨ Owned env ow a) ∨ a ∈ C.T) s.heap) o
  ns : s.heap.Ns env.locals m
  cell : ∀ n c, env.cells.lookup n = some c → s.heap.IsCell c (cm n)
  newF : ∀ a, Fra env a → s₀.heap.get? a = none ∧ ∃ o, s.heap.get? a = some o
  newO : ∀ i a, a ∈ ow i → s₀.heap.get? a = none ∧ ¬ Fra env a ∧ ∃ its n, s.heap.get? a = some (lstObj its n)
  ownD : ∀ i j a, a ∈ ow i → a ∈ ow j → i = j
  ownN : ∀ i, (ow i).Nodup
  slot : ∀ (i : Nat) x sl, N[i]? = some x → σ[i]? = some sl → SlotRel (rd (fun a => X a ∨ Owned env ow a) s.heap) s.heap (vm env m cm x) (ow i) sl
  len : σ.length = N.length
  prot : ∀ a o, G a o → s.heap.get? a = some o ∧ ¬ Owned env ow a
  inX : InH X s.heap
  ownX : ∀ i a, a ∈ ow i → ¬ X a
  gT : ∀ a o, G a o → a ∉ C.T
/-- the frame of a def of the text's, what its names hold, s₀ the state that it was called in -/
noncomputable def St (C : Cx) (X : Addr → Prop) (N : List Str) (G : PH) (s₀ : Shared) (env : Env) (σ : Sg) (s : Shared) : Prop := ∃ m cm ow, StW C X N G s₀ env σ s m cm ow
/-- what an expression may read: all but the caller's, and this frame's own -/
noncomputable def XF (X : Addr → Prop) (env : Env) : Addr → Prop := fun a => X a ∨ Fra env a
section
variable {C : Cx} {X : Addr → Prop} {N : List Str} {G : PH} {s₀ s s' : Shared} {env : Env} {σ : Sg} {m cm : Str → Option Value} {ow : Nat → List Addr}
theorem StW.ok (w : StW C X N G s₀ env σ s m cm ow) (c : C.Ok s₀.heap) : C.Ok s.heap := ⟨fun a o e => w.keep a o (C.baseT a o e) (c.b a o e), fun a ha => let ⟨o, e, q⟩ := w.tabs a ha; ⟨o, e, q.1⟩⟩
theorem StW.inXF (w : StW C X N G s₀ env σ s m cm ow) : InH (XF X env) s.heap := fun a h => by
  rcases h with h | h
  · exact w.inX a h
  · exact (w.newF a h).2
theorem StW.rdN (w : StW C X N G s₀ env σ s m cm ow) (fe : FnEnv N env) {i : Nat} {x : Str} {rv : Value} (hx : N[i]? = some x) (h : vm env m cm x = some rv) : Rd env s.heap x rv := by
  unfold vm at h
  rcases fe.kinds i x hx with e | ⟨e, c, l⟩
  · rw [if_pos e] at h; exact .inl ⟨e, m, w.ns, h⟩
  · rw [if_neg (by rw [e]; decide)] at h
    exact .inr ⟨.inl e, c, l, h ▸ w.cell x c l⟩
theorem inner_lst {P Q : PH} {h : Heap} : ∀ {xss : List (List V)} {bs : List Addr}, Inner P h xss bs → (∀ b, b ∈ bs → ∀ o, h.get? b = some o → Q b o) → (∀ a o, P a o → Q a o) → VRels Q (xss.map V.lst) (bs.map Value.ref)
  | [], _, x, _, _ => by unfold Inner at x; subst x; exact VRels.nil
  | xs :: r, bs, x, hb, hp => by
    unfold Inner at x
    obtain ⟨b, bs', rfl, ⟨its, n, e, q⟩, y⟩ := x
    refine VRels.cons ?_ (inner_lst y (fun c hc => hb c (.tail _ hc)) hp)
    unfold VRel
    exact ⟨b, its, n, rfl, hb b (.head _) _ e, q.le hp⟩
theorem StW.view (w : StW C X N G s₀ env σ s m cm ow) (fe : FnEnv N env) : View (XF X env) N σ env s.heap := fun i x v hx hv => by
  unfold Sg.get at hv
  obtain ⟨sl, hs, hv⟩ := Option.bind_eq_some_iff.mp hv
  have sr := w.slot i x sl hx hs
  have sub : ∀ a o, Mine.rd (fun a => X a ∨ Owned env ow a) s.heap a o → Mine.rd (XF X env) s.heap a o := fun a o p => ⟨p.1, fun q => p.2 (q.elim .inl fun f => .inr (.inl f))⟩
  have own : ∀ b, b ∈ ow i → ∀ o, s.heap.get? b = some o → Mine.rd (XF X env) s.heap b o := fun b hb o e => ⟨e, fun q => by
    obtain ⟨n1, n2, _⟩ := w.newO i b hb
    rcases q with q | q
    · exact w.ownX i b hb q
    · exact n2 q⟩
  cases sl with
  | unset => cases hv
  | val u =>
    cases hv
    obtain ⟨_, r, e, q⟩ := sr
    exact ⟨r, w.rdN fe hx e, q.le sub⟩
  | own xs =>
    cases hv
    obtain ⟨a, its, n, ea, e, g, q⟩ := sr
    refine ⟨.ref a, w.rdN fe hx e, ?_⟩
    unfold VRel
    exact ⟨a, its, n, rfl, own a (by rw [ea]; exact .head _) _ g, q.le sub⟩
  | own2 xss =>
    cases hv
    obtain ⟨a, bs, n, ea, e, g, q⟩ := sr
    refine ⟨.ref a, w.rdN fe hx e, ?_⟩
    unfold VRel
    refine ⟨a, (bs.map Value.ref).toArray, n, rfl, own a (by rw [ea]; exact .head _) _ g, ?_⟩
    rw [List.toList_toArray]
    exact inner_lst q (fun b hb o e => own b (by rw [ea]; exact .tail _ hb) o e) sub
/-- a pure step keeps the frame -/
theorem StW.kp (w : StW C X N G s₀ env σ s m cm ow) (k : Kp s s') : StW C X N G s₀ env σ s' m cm ow where
  same := by
    obtain ⟨tk, e⟩ := w.same
    obtain ⟨tk', e'⟩ := k.same
    exact ⟨tk', by rw [e']; rw [e]⟩
  keep := fun b o ht e => k.le b o (w.keep b o ht e)
  tabs := fun a ha => let ⟨o, e, q⟩ := w.tabs a ha; ⟨o, k.le a o e, q.1, C.tkm _ _ _ (fun a o _ _ p => ⟨k.le a o p.1, p.2⟩) q.2⟩
  ns := w.ns.keeps k.le
  cell := fun n c h => (w.cell n c h).keeps k.le
  newF := fun a h => let ⟨p, o, e⟩ := w.newF a h; ⟨p, o, k.le a o e⟩
  newO := fun i a h => let ⟨p, q, its, n, e⟩ := w.newO i a h; ⟨p, q, its, n, k.le a _ e⟩
  ownD := w.ownD
  ownN := w.ownN
  slot := fun i x sl hx hs => (w.slot i x sl hx hs).mono (fun a o p => ⟨k.le a o p.1, p.2⟩) fun b _ o e => k.le b o e
  len := w.len
  prot := fun a o h => ⟨k.le a o (w.prot a o h).1, (w.prot a o h).2⟩
  inX := w.inX.le k.le
  ownX := w.ownX
  gT := w.gT
end
end Mine
set_option Elab.async false
set_option linter.unusedVariables false
set_option maxRecDepth 100000
namespace Mine
open PySem PySem.W PyProof.Rows
noncomputable def upd (ow : Nat → List Addr) (i : Nat) (as : List Addr) : Nat → List Addr := fun j => if j = i then as else ow j
theorem upd_self (ow : Nat → List Addr) (i : Nat) (as : List Addr) : upd ow i as i = as := if_pos rfl
theorem upd_ne (ow : Nat → List Addr) {i j : Nat} (as : List Addr) (h : j ≠ i) : upd ow i as j = ow j := if_neg h
section
variable {C : Cx} {X : Addr → Prop} {N : List Str} {G : PH} {s₀ s s' : Shared} {env : Env} {σ : Sg} {m cm : Str → Option Value} {ow : Nat → List Addr}
theorem StW.gone (w : StW C X N G s₀ env σ s m cm ow) {a : Addr} (h : s.heap.get? a = none) : s₀.heap.get? a = none := by
  cases e : s₀.heap.get? a with
  | none => rfl
  | some o =>
    by_cases ht : a ∈ C.T
    · obtain ⟨o', e', _⟩ := w.tabs a ht; rw [h] at e'; cases e'
    · rw [w.keep a o ht e] at h; cases h
theorem get_set_ne {α : Type} {l : List α} {i j : Nat} {a : α} (h : j ≠ i) : (l.set i a)[j]? = l[j]? := by rw [List.getElem?_set]; simp [Ne.symm h]
/-- the frame when only the address f, one of its own or of its lists, has turned: everything that is not read there stands -/
theorem StW.turn {f : Addr} {σ' : Sg} {m' cm' : Str → Option Value} {ow' : Nat → List Addr} (w : StW C X N G s₀ env σ s m cm ow) (hf : Owned env ow f) (hs : ∃ tk, s' = { s with heap := s'.heap, toks := tk })
    (hb : ∀ b o, b ≠ f → s.heap.get? b = some o → s'.heap.get? b = some o) (hfo : ∃ o, s'.heap.get? f = some o)
    (ns : s'.heap.Ns env.locals m') (cell : ∀ n c, env.cells.lookup n = some c → s'.heap.IsCell c (cm' n))
    (newO : ∀ i a, a ∈ ow' i → s₀.heap.get? a = none ∧ ¬ Fra env a ∧ ∃ its n, s'.heap.get? a = some (lstObj its n)) (ownD : ∀ i j a, a ∈ ow' i → a ∈ ow' j → i = j) (ownN : ∀ i, (ow' i).Nodup)
    (slot : ∀ (i : Nat) x sl, N[i]? = some x → σ'[i]? = some sl → SlotRel (rd (fun a => X a ∨ Owned env ow' a) s'.heap) s'.heap (vm env m' cm' x) (ow' i) sl) (len : σ'.length = N.length) (c : C.Ok s₀.heap) (prot : ∀ a o, G a o → ¬ Owned env ow' a) (ownX : ∀ i a, a ∈ ow' i → ¬ X a) : StW C X N G s₀ env σ' s' m' cm' ow' where
  same := by
    obtain ⟨tk, e⟩ := w.same
    obtain ⟨tk', e'⟩ := hs
    exact ⟨tk', by rw [e']; rw [e]⟩
  keep := fun b o ht e => by
    refine hb b o ?_ (w.keep b o ht e)
    rintro rfl
    rcases hf with hf | ⟨i, hf⟩
    · rw [(w.newF _ hf).1] at e; cases e
    · rw [(w.newO i _ hf).1] at e; cases e
  tabs := fun a ha => by
    obtain ⟨o, e, q⟩ := w.tabs a ha
    refine ⟨o, hb a o ?_ e, q.1, C.tkm _ _ _ (fun b ob vs hvs p => ?_) q.2⟩
    rotate_left
    · have e' := hb b ob (fun e => p.2 (.inl (.inr (e ▸ hf)))) p.1
      refine ⟨e', fun z => ?_⟩
      rcases z with (z | z | ⟨j, z⟩) | z
      rotate_right
      · exact p.2 (.inr z)
      · exact p.2 (.inl (.inl z))
      · exact p.2 (.inl (.inr (.inl z)))
      · obtain ⟨_, _, its, n, e''⟩ := newO j b z
        rw [e'] at e''; cases e''; cases hvs
    rintro rfl
    obtain ⟨o', e', _⟩ := c.t a ha
    rcases hf with hf | ⟨i, hf⟩
    · rw [(w.newF _ hf).1] at e'; cases e'
    · rw [(w.newO i _ hf).1] at e'; cases e'
  ns := ns
  cell := cell
  newF := fun a h => by
    obtain ⟨p, o, e⟩ := w.newF a h
    refine ⟨p, ?_⟩
    by_cases q : a = f
    · subst q; exact hfo
    · exact ⟨o, hb a o q e⟩
  newO := newO
  ownD := ownD
  ownN := ownN
  slot := slot
  len := len
  prot := fun a o h => ⟨hb a o (fun e => (w.prot a o h).2 (e ▸ hf)) (w.prot a o h).1, prot a o h⟩
  inX := fun a h => by
    obtain ⟨o, e⟩ := w.inX a h
    by_cases q : a = f
    · subst q; exact hfo
    · exact ⟨o, hb a o q e⟩
  ownX := ownX
  gT := w.gT
/-- a name is bound to a value; as: the lists that it owns then -/
theorem StW.put {i : Nat} {x : Str} {rv : Value} {sl : Slot} {as : List Addr} {A : Around} {E : Value → Shared → Prop} {Q : Unit → Shared → Prop} (w : StW C X N G s₀ env σ s m cm ow) (fe : FnEnv N env) (eo : EnvOk env) (c : C.Ok s₀.heap)
    (k : Kp s s') (hx : N[i]? = some x) (hsl : SlotRel (rd (fun a => X a ∨ Owned env (upd ow i as) a) s'.heap) s'.heap (some rv) as sl)
    (has : ∀ a, a ∈ as → s.heap.get? a = none ∨ a ∈ ow i) (hal : ∀ a, a ∈ as → ∃ its n, s'.heap.get? a = some (lstObj its n)) (hnd : as.Nodup)
    (h : ∀ s'', St C X N G s₀ env (σ.set i sl) s'' → Q () s'') : wpAny C.M A (storeName env x rv) Q E s' := by
  have w' := w.kp k
  have newO : ∀ j a, a ∈ upd ow i as j → s₀.heap.get? a = none ∧ ¬ Fra env a := fun j a ha => by
    by_cases hj : j = i
    · subst hj
      rw [upd_self] at ha
      rcases has a ha with q | q
      · exact ⟨w.gone q, fun f => by obtain ⟨_, o, e⟩ := w.newF a f; rw [q] at e; cases e⟩
      · exact ⟨(w.newO j a q).1, (w.newO j a q).2.1⟩
    · rw [upd_ne _ _ hj] at ha; exact ⟨(w.newO j a ha).1, (w.newO j a ha).2.1⟩
  have old : ∀ j a, j ≠ i → a ∈ ow j → a ∉ as := fun j a hj ha hb => by
    rcases has a hb with q | q
    · obtain ⟨_, _, its, n, e⟩ := w.newO j a ha; rw [q] at e; cases e
    · exact hj (w.ownD j i a ha q)
  have ownD : ∀ j l a, a ∈ upd ow i as j → a ∈ upd ow i as l → j = l := fun j l a hj hl => by
    by_cases q : j = i
    · by_cases q' : l = i
      · rw [q, q']
      · subst q; rw [upd_self] at hj; rw [upd_ne _ _ q'] at hl; exact absurd hj (old l a q' hl)
    · by_cases q' : l = i
      · subst q'; rw [upd_self] at hl; rw [upd_ne _ _ q] at hj; exact absurd hl (old j a q hj)
      · rw [upd_ne _ _ q] at hj; rw [upd_ne _ _ q'] at hl; exact w.ownD j l a hj hl
  have ownN : ∀ j, (upd ow i as j).Nodup := fun j => by
    by_cases q : j = i
    · subst q; rw [upd_self]; exact hnd
    · rw [upd_ne _ _ q]; exact w.ownN j
  -- what the others read is not among the new lists
  have mask : ∀ a o, rd (fun a => X a ∨ Owned env ow a) s.heap a o → rd (fun a => X a ∨ Owned env (upd ow i as) a) s'.heap a o := fun a o p => ⟨k.le a o p.1, fun q => by
    rcases q with q | q | ⟨j, q⟩
    · exact p.2 (.inl q)
    · exact p.2 (.inr (.inl q))
    · by_cases hj : j = i
      · subst hj
        rw [upd_self] at q
        rcases has a q with e | e
        · rw [p.1] at e; cases e
        · exact p.2 (.inr (.inr ⟨j, e⟩))
      · rw [upd_ne _ _ hj] at q; exact p.2 (.inr (.inr ⟨j, q⟩))⟩
  have hpr : ∀ a o, G a o → ¬ Owned env (upd ow i as) a := fun a o h q => by
    obtain ⟨e, n⟩ := w.prot a o h
    rcases q with q | ⟨j, q⟩
    · exact n (.inl q)
    · by_cases hj : j = i
      · subst hj
        rw [upd_self] at q
        rcases has a q with e' | e'
        · rw [e] at e'; cases e'
        · exact n (.inr ⟨j, e'⟩)
      · rw [upd_ne _ _ hj] at q; exact n (.inr ⟨j, q⟩)
  have hox : ∀ j a, a ∈ upd ow i as j → ¬ X a := fun j a ha q => by
    by_cases hj : j = i
    · subst hj
      rw [upd_self] at ha
      rcases has a ha with e | e
      · obtain ⟨o', e'⟩ := w.inX a q; rw [e] at e'; cases e'
      · exact w.ownX j a e q
    · rw [upd_ne _ _ hj] at ha; exact w.ownX j a ha q
  have main : ∀ (f : Addr) (s'' : Shared) (m' cm' : Str → Option Value), Fra env f → (∃ tk, s'' = { s' with heap := s''.heap, toks := tk }) → Heap.SameBut f s'.heap s''.heap → (∃ o, s''.heap.get? f = some o) → s''.heap.Ns env.locals m' →
      (∀ n c, env.cells.lookup n = some c → s''.heap.IsCell c (cm' n)) → (∀ y, vm env m' cm' y = if y = x then some rv else vm env m cm y) → StW C X N G s₀ env (σ.set i sl) s'' m' cm' (upd ow i as) := by
    intro f s'' m' cm' hf hs hb hfo ns cell hv
    have up : ∀ b o, ¬ Fra env b → s'.heap.get? b = some o → s''.heap.get? b = some o := fun b o h e => (hb.2 b (fun q => h (q ▸ hf))).trans e
    have rdUp : ∀ a o, rd (fun a => X a ∨ Owned env (upd ow i as) a) s'.heap a o → rd (fun a => X a ∨ Owned env (upd ow i as) a) s''.heap a o := fun a o p => ⟨up a o (fun q => p.2 (.inr (.inl q))) p.1, p.2⟩
    refine w'.turn (.inl hf) hs (fun b o q e => hb.extBut b o q e) hfo ns cell (fun j a ha => ?_) ownD ownN (fun j y t hy ht => ?_) (by rw [List.length_set]; exact w.len) c hpr hox
    · obtain ⟨p1, p2⟩ := newO j a ha
      refine ⟨p1, p2, ?_⟩
      by_cases q : j = i
      · subst q; rw [upd_self] at ha
        obtain ⟨its, n, e⟩ := hal a ha
        exact ⟨its, n, up a _ p2 e⟩
      · rw [upd_ne _ _ q] at ha
        obtain ⟨_, _, its, n, e⟩ := w'.newO j a ha
        exact ⟨its, n, up a _ p2 e⟩
    · by_cases q : j = i
      · subst q
        rw [List.getElem?_set] at ht
        rw [hx] at hy; cases hy
        have hl : j < σ.length := by rw [w.len]; exact (List.getElem?_eq_some_iff.mp hx).1
        simp [hl] at ht
        subst ht
        rw [hv, if_pos rfl, upd_self]
        exact hsl.mono rdUp fun b hb' o e => up b o (newO j b (by rw [upd_self]; exact hb')).2 e
      · rw [get_set_ne q] at ht
        have hne : y ≠ x := by
          rintro rfl
          exact q ((List.getElem?_inj (List.getElem?_eq_some_iff.mp hy).1 fe.nodup).mp (hy.trans hx.symm))
        rw [hv, if_neg hne, upd_ne _ _ q]
        refine (w.slot j y t hy ht).mono (fun a o p => rdUp a o (mask a o p)) fun b hb' o e => up b o (w.newO j b hb').2.1 (k.le b o e)
  rcases fe.kinds i x hx with e | ⟨e, cc, l⟩
  · refine wpAny_storeName_local e w'.ns (fun h' hn' hs' => h _ ⟨_, cm, upd ow i as, main env.locals _ _ _ (.inl rfl) ⟨_, rfl⟩ hs' ?_ hn' ?_ ?_⟩) (by rw [eo.kind]; rfl)
    · obtain ⟨o, _, _, e, _⟩ := hn'; exact ⟨o, e⟩
    · exact fun n c' hc => (w'.cell n c' hc).sameBut hs' (fe.off n c' (mem_of_lookup hc))
    · intro y
      unfold vm
      by_cases q : y = x
      · subst q; simp [e]
      · simp [q]
  · refine wpAny_storeName_cell eo.kind e l (w'.cell x cc l) fun h' hc' hs' => h _ ⟨m, (fun y => if y = x then some rv else cm y), upd ow i as, main cc _ _ _ (.inr ⟨x, l⟩) ⟨s'.toks, rfl⟩ hs' ?_ ?_ ?_ ?_⟩
    · obtain ⟨o, e, _⟩ := hc'; exact ⟨o, e⟩
    · exact w'.ns.sameBut hs' (Ne.symm (fe.off x cc (mem_of_lookup l)))
    · intro n c' hc
      by_cases q : n = x
      · subst q; rw [l] at hc; cases hc; simpa using hc'
      · rw [if_neg q]
        exact (w'.cell n c' hc).sameBut hs' fun e' => q (name_of_addr fe.apart (mem_of_lookup hc) (e' ▸ mem_of_lookup l))
    · intro y
      unfold vm
      by_cases q : y = x
      · subst q; simp [e]
      · simp [q]
end
end Mine
set_option Elab.async false
set_option linter.unusedVariables false
set_option maxRecDepth 100000
namespace Mine
open PySem PySem.W PyProof.Rows
inductive Fl where
  | next
  | brk
  | cont
  | ret (v : V)
deriving Inhabited
noncomputable def FlRel (P : PH) : Fl → Flow → Prop
  | .next, f => f = .next
  | .brk, f => f = .brk
  | .cont, f => f = .cont
  | .ret v, f => ∃ rv, f = .ret rv ∧ VRel P v rv
abbrev Rs := Option (Fl × Sg)
/-- a statement -/
noncomputable def S1 (C : Cx) (k : Nat) (N : List Str) (K : Env → Prop) (st : Stmt) (F : Sg → Rs) : Prop :=
  ∀ (A : Around) (env : Env) (s₀ s : Shared) (σ σ' : Sg) (fl : Fl) (X : Addr → Prop) (G : PH) (E : Value → Shared → Prop), Rm k A → EnvOk env → FnEnv N env → K env → C.Ok s₀.heap → St C X N G s₀ env σ s → F σ = some (fl, σ') →
    wpAny C.M A (exec st env) (fun rf s' => St C X N G s₀ env σ' s' ∧ FlRel (rdF X s₀.heap s'.heap) fl rf) E s
/-- statements -/
noncomputable def Sx (C : Cx) (k : Nat) (N : List Str) (K : Env → Prop) (st : List Stmt) (F : Sg → Rs) : Prop :=
  ∀ (A : Around) (env : Env) (s₀ s : Shared) (σ σ' : Sg) (fl : Fl) (X : Addr → Prop) (G : PH) (E : Value → Shared → Prop), Rm k A → EnvOk env → FnEnv N env → K env → C.Ok s₀.heap → St C X N G s₀ env σ s → F σ = some (fl, σ') →
    wpAny C.M A (execs st env) (fun rf s' => St C X N G s₀ env σ' s' ∧ FlRel (rdF X s₀.heap s'.heap) fl rf) E s
noncomputable def fNil : Sg → Rs := fun σ => some (.next, σ)
noncomputable def fSeq (F G : Sg → Rs) : Sg → Rs := fun σ => (F σ).bind fun r => match r.1 with
  | .next => G r.2
  | fl => some (fl, r.2)
section
variable {C : Cx} {k : Nat} {N : List Str} {K : Env → Prop}
theorem Sx_nil : Sx C k N K [] fNil := fun A env s₀ s σ σ' fl X G E R o fe ke c w q => by
  cases q
  exact wpAny_execs_nil ⟨w, rfl⟩
theorem Sx_cons {st : Stmt} {r : List Stmt} {F G : Sg → Rs} (h : S1 C k N K st F) (h' : Sx C k N K r G) : Sx C k N K (st :: r) (fSeq F G) := fun A env s₀ s σ σ' fl X G E R o fe ke c w q => by
  unfold fSeq at q
  obtain ⟨⟨fl₁, σ₁⟩, q₁, q⟩ := Option.bind_eq_some_iff.mp q
  refine wpAny_execs_cons (wpAny_mono (h A env s₀ s σ σ₁ fl₁ X G E R o fe ke c w q₁) (fun rf s' p => ?_) fun _ _ x => x)
  obtain ⟨w', p⟩ := p
  cases fl₁ with
  | next =>
    unfold FlRel at p; subst p
    exact h' A env s₀ s' σ₁ σ' fl X G E R o fe ke c w' q
  | brk => cases q; unfold FlRel at p; subst p; exact ⟨w', rfl⟩
  | cont => cases q; unfold FlRel at p; subst p; exact ⟨w', rfl⟩
  | ret v =>
    cases q
    unfold FlRel at p
    obtain ⟨rv, rfl, p⟩ := p
    exact ⟨w', rv, rfl, p⟩
/-- what an expression gives may be kept in a name -/
theorem StW.stores {X : Addr → Prop} {G : PH} {s₀ s s' : Shared} {env : Env} {σ : Sg} {m cm : Str → Option Value} {ow : Nat → List Addr} (w : StW C X N G s₀ env σ s m cm ow) {a : Addr} {o : Obj} (p : rdF (XF X env) s.heap s'.heap a o) :
    rd (fun a => X a ∨ Owned env ow a) s'.heap a o := ⟨p.1, fun q => by
  rcases q with q | q | ⟨j, q⟩
  · exact p.2.1 (.inl q)
  · exact p.2.1 (.inr q)
  · obtain ⟨_, _, its, n, e⟩ := w.newO j a q
    exact p.2.2 _ e rfl⟩
theorem owned_drop {env : Env} {ow : Nat → List Addr} {i : Nat} {a : Addr} (h : Owned env (upd ow i []) a) : Owned env ow a := by
  rcases h with h | ⟨j, h⟩
  · exact .inl h
  · by_cases q : j = i
    · subst q; rw [upd_self] at h; cases h
    · rw [upd_ne _ _ q] at h; exact .inr ⟨j, h⟩
/-- a value is bound to a name of the frame -/
theorem St.bind {X : Addr → Prop} {G : PH} {s₀ s s' : Shared} {env : Env} {σ : Sg} {i : Nat} {x : Str} {v : V} {rv : Value} {A : Around} {E : Value → Shared → Prop} {Q : Unit → Shared → Prop} (w : St C X N G s₀ env σ s) (fe : FnEnv N env) (o : EnvOk env) (c : C.Ok s₀.heap)
    (hx : N[i]? = some x) (k : Kp s s') (r : VRel (rdF (XF X env) s.heap s'.heap) v rv) (h : ∀ s'', St C X N G s₀ env (σ.set i (.val v)) s'' → Q () s'') : wpAny C.M A (storeName env x rv) Q E s' := by
  obtain ⟨m, cm, ow, w⟩ := w
  refine w.put (sl := .val v) (as := []) fe o c k hx ⟨rfl, rv, rfl, r.le fun a o p => ?_⟩ (fun a h => nomatch h) (fun a h => nomatch h) List.nodup_nil h
  have := w.stores p
  exact ⟨this.1, fun q => this.2 (q.elim .inl fun f => .inr (owned_drop f))⟩
noncomputable def fSet (i : Nat) (f : Sg → Option V) : Sg → Rs := fun σ => (f σ).map fun v => (.next, σ.set i (.val v))
theorem S1_Assign {x : Str} {pos pos' : Pos} {e : Expr} {f : Sg → Option V} (i : Nat) (hx : N[i]? = some x) (h : ExF C k N K e f) (hs : ∀ env, K env → swapsWith e (some (.Name x pos')) pos.line env = pure false := by intro _ _; rfl) :
    S1 C k N K (.Assign [.Name x pos'] e pos) (fSet i f) := fun A env s₀ s σ σ' fl X G E R o fe ke c w q => by
  unfold fSet at q
  obtain ⟨v, hv, q⟩ := Option.map_eq_some_iff.mp q
  cases q
  obtain ⟨m, cm, ow, w'⟩ := id w
  refine wpAny_Assign_Name (wpAny_mono (h A env s σ v _ E R o ke (w'.ok c) w'.inXF (w'.view fe) hv) (fun rv s' p => ?_) fun _ _ x => x) (hs env ke)
  exact w.bind fe o c hx p.1 p.2 fun s'' w'' => ⟨w'', rfl⟩
theorem S1_If {t : Expr} {b e : List Stmt} {pos : Pos} {g : Sg → Option Bool} {F G : Sg → Rs} (ht : Tx C k N K t g) (hb : Sx C k N K b F) (he : Sx C k N K e G) : S1 C k N K (.If t b e pos) (fIf g F G) := fun A env s₀ s σ σ' fl X G E R o fe ke c w q => by
  unfold fIf at q
  obtain ⟨d, hd, q⟩ := Option.bind_eq_some_iff.mp q
  obtain ⟨m, cm, ow, w'⟩ := id w
  refine wpAny_If (wpAny_mono (ht A env s σ d _ E R o ke (w'.ok c) w'.inXF (w'.view fe) hd) (fun rb s' p => ?_) fun _ _ x => x)
  obtain ⟨p, rfl⟩ := p
  have w'' : St C X N G s₀ env σ s' := ⟨m, cm, ow, w'.kp p⟩
  cases rb with
  | true => rw [if_pos rfl] at q ⊢; exact hb A env s₀ s' σ σ' fl X G E R o fe ke c w'' q
  | false => rw [if_neg Bool.false_ne_true] at q ⊢; exact he A env s₀ s' σ σ' fl X G E R o fe ke c w'' q
noncomputable def fRet (f : Sg → Option V) : Sg → Rs := fun σ => (f σ).map fun v => (.ret v, σ)
theorem StW.ret {X : Addr → Prop} {G : PH} {s₀ s s' : Shared} {env : Env} {σ : Sg} {m cm : Str → Option Value} {ow : Nat → List Addr} (w : StW C X N G s₀ env σ s m cm ow) (c : C.Ok s₀.heap) {a : Addr} {o : Obj} (p : rdF (XF X env) s.heap s'.heap a o) : rdF X s₀.heap s'.heap a o :=
  ⟨p.1, fun q => p.2.1 (.inl q), fun o' e hl => by
    by_cases ht : a ∈ C.T
    · obtain ⟨o'', e', q⟩ := c.t a ht
      rw [e] at e'; cases e'; rw [hl] at q; cases q
    · exact p.2.2 o' (w.keep a o' ht e) hl⟩
theorem S1_Ret {e : Expr} {pos : Pos} {f : Sg → Option V} (h : ExF C k N K e f) : S1 C k N K (.Return (some e) pos) (fRet f) := fun A env s₀ s σ σ' fl X G E R o fe ke c w q => by
  unfold fRet at q
  obtain ⟨v, hv, q⟩ := Option.map_eq_some_iff.mp q
  cases q
  obtain ⟨m, cm, ow, w'⟩ := id w
  refine wpAny_Return_some (wpAny_mono (h A env s σ v _ E R o ke (w'.ok c) w'.inXF (w'.view fe) hv) (fun rv s' p => ?_) fun _ _ x => x)
  exact ⟨⟨m, cm, ow, w'.kp p.1⟩, rv, rfl, p.2.le fun a o p => w'.ret c p⟩
theorem S1_Break {pos : Pos} : S1 C k N K (.Break pos) (fun σ => some (.brk, σ)) := fun A env s₀ s σ σ' fl X G E R o fe ke c w q => by
  cases q
  exact wpAny_Break ⟨w, rfl⟩
noncomputable def fWhile (g : Sg → Option Bool) (F : Sg → Rs) : Nat → Sg → Rs
  | 0, _ => none
  | n + 1, σ => (g σ).bind fun b => if b then (F σ).bind fun r => (match r.1 with
      | .next => fWhile g F n r.2
      | .cont => fWhile g F n r.2
      | .brk => some (.next, r.2)
      | .ret v => some (.ret v, r.2)) else some (.next, σ)
theorem S1_While {t : Expr} {b : List Stmt} {pos : Pos} {g : Sg → Option Bool} {F : Sg → Rs} (n : Nat) (ht : Tx C k N K t g) (hb : Sx C k N K b F) : S1 C k N K (.While t b [] pos) (fWhile g F n) := fun A env s₀ s σ σ' fl X G E R o fe ke c w q => by
  refine wpAny_While (codeAny_whileLoop (fun n s => ∃ σ, St C X N G s₀ env σ s ∧ fWhile g F n σ = some (fl, σ')) ?_ n ⟨σ, w, q⟩)
  rintro n s ⟨σ, w, q⟩
  cases n with
  | zero => cases q
  | succ n =>
    unfold fWhile at q
    obtain ⟨d, hd, q⟩ := Option.bind_eq_some_iff.mp q
    obtain ⟨m, cm, ow, w'⟩ := id w
    refine wpAny_mono (ht A env s σ d _ _ R o ke (w'.ok c) w'.inXF (w'.view fe) hd) (fun rb s' p => ?_) fun _ _ x => x
    obtain ⟨p, rfl⟩ := p
    have w'' : St C X N G s₀ env σ s' := ⟨m, cm, ow, w'.kp p⟩
    cases rb with
    | false =>
      rw [if_neg Bool.false_ne_true] at q ⊢
      cases q
      exact wpAny_execs_nil ⟨w'', rfl⟩
    | true =>
      rw [if_pos rfl] at q ⊢
      obtain ⟨⟨fl₁, σ₁⟩, q₁, q⟩ := Option.bind_eq_some_iff.mp q
      refine wpAny_mono (hb A env s₀ s' σ σ₁ fl₁ X G _ R o fe ke c w'' q₁) (fun rf s₁ p₁ => ?_) fun _ _ x => x
      obtain ⟨w₁, p₁⟩ := p₁
      cases fl₁ with
      | next => unfold FlRel at p₁; subst p₁; exact ⟨n, Nat.lt_succ_self _, σ₁, w₁, q⟩
      | cont => unfold FlRel at p₁; subst p₁; exact ⟨n, Nat.lt_succ_self _, σ₁, w₁, q⟩
      | brk => cases q; unfold FlRel at p₁; subst p₁; exact ⟨w₁, rfl⟩
      | ret v =>
        cases q
        unfold FlRel at p₁
        obtain ⟨rv, rfl, p₁⟩ := p₁
        exact ⟨w₁, rv, rfl, p₁⟩
end
end Mine
set_option Elab.async false
set_option linter.unusedVariables false
set_option maxRecDepth 100000
namespace Mine
open PySem PySem.W PyProof.Rows
/-- a def of the text's, as every heap holds it -/
structure FnIs (C : Cx) (a : Addr) (fd : FuncData) (body : List Stmt) : Prop where
  obj : ∃ o, C.base a o ∧ o.data = .func fd
  body : fd.body = .stmts body
  code : ∀ h : Heap, (∀ a o, C.base a o → h.get? a = some o) → h.CodeRec fd.code fd.qualname
  clo : fd.closure = []
  glob : fd.globals = mainGlobals
  bui : fd.builtins = builtinsNs
  co : fd.scope.isCoroutine = false
  gen : fd.scope.isGenerator = false
  kind : fd.scope.kind = .function
theorem vm_bind {env : Env} (x : Str) : ∀ (binds : List (Str × Value)) (m cm : Str → Option Value),
    vm env (bindL env.kindOf binds m) (bindC env.kindOf binds cm) x = (binds.reverse.lookup x).or (vm env m cm x)
  | [], m, cm => by simp [bindL, bindC]
  | (n, v) :: r, m, cm => by
    unfold bindL bindC
    rw [vm_bind x r, List.reverse_cons, List.lookup_append, Option.or_assoc]
    congr 1
    by_cases hx : x = n
    · subst hx
      unfold vm
      by_cases hk : env.kindOf x = some .local <;> simp [hk, List.lookup]
    · have hb : (x == n) = false := beq_eq_false_iff_ne.mpr hx
      unfold vm
      by_cases hk : env.kindOf x = some .local <;> by_cases hn : env.kindOf n = some .local <;> simp [hk, hn, hx, hb, List.lookup]
theorem lookup_zip : ∀ {pn : List Str} {rvs : List Value}, pn.Nodup → pn.length = rvs.length → ∀ {i : Nat} {x : Str} {rv : Value}, pn[i]? = some x → rvs[i]? = some rv → (pn.zip rvs).reverse.lookup x = some rv := by
  intro pn
  induction pn with
  | nil => intro rvs _ _ i x rv h; cases h
  | cons p pn ih =>
    intro rvs hn hl i x rv hx hr
    cases rvs with
    | nil => cases hl
    | cons r rvs =>
      rw [List.zip_cons_cons, List.reverse_cons, List.lookup_append]
      obtain ⟨hp, hn⟩ := List.nodup_cons.mp hn
      cases i with
      | zero =>
        cases hx; cases hr
        have : (pn.zip rvs).reverse.lookup p = none := by
          rw [List.lookup_eq_none_iff]
          intro q hq
          have : q.1 ∈ pn := (List.of_mem_zip (List.mem_reverse.mp hq)).1
          exact bne_iff_ne.mpr fun e => hp (by rw [e]; exact this)
        rw [this]; simp [List.lookup]
      | succ i =>
        rw [ih hn (by simpa using hl) (i := i) hx hr]; rfl
section
variable {C : Cx} {k : Nat} {N : List Str} {K : Env → Prop}
theorem Rm.deeper {A : Around} {env : Env} (R : Rm (k + 1) A) : Rm k (A.deeper env) := ⟨R.handled, by have := R.depth; show A.depth + 1 + k < recursionLimit; omega, by have := R.units; show A.units + 3 + 20 * k + 20 < cLine; omega⟩
theorem none_of_ge {h : Heap} {a : Addr} (ha : h.objs.size ≤ a) : h.get? a = none := by
  cases e : h.get? a with
  | none => rfl
  | some o => exact absurd (Heap.lt_size e) (Nat.not_lt.mpr ha)
/-- a call of a def: its body is run with its parameters' values -/
theorem fn_run {a : Addr} {fd : FuncData} {body : List Stmt} (fi : FnIs C a fd body) {pn rest : List Str} {rvs : List Value} {vs : List V} {rargs : List Value} {rkws : List (Str × Value)} {F : Sg → Rs} {fl : Fl} {σ' : Sg} {X : Addr → Prop} {A : Around} {s : Shared}
    {Q : Value → Shared → Prop} {E : Value → Shared → Prop} (hN : N = pn ++ rest) (hb : BindsTo s fd ⟨rargs, rkws⟩ (pn.zip rvs)) (hnd : N.Nodup) (hk : ∀ x ∈ N, fd.scope.names.lookup x = some .local ∨ fd.scope.names.lookup x = some .cell)
    (hr : VRels (rd X s.heap) vs rvs) (hl : pn.length = vs.length) (hs : Sx C k N K body F) (hK : ∀ L, K (callEnvC fd L a)) (hF : F (vs.map .val ++ List.replicate rest.length .unset) = some (fl, σ'))
    (R : Rm (k + 1) A) (c : C.Ok s.heap) (i : InH X s.heap) (hTk : ∀ a, a ∈ C.T → ∃ o, s.heap.get? a = some o ∧ o.cls = .none ∧ C.tk (rd (fun a => X a ∨ a ∈ C.T) s.heap) o)
    (hQ : ∀ s' rv env, St C X N (fun _ _ => False) s env σ' s' → (match fl with | .ret v => VRel (rdF X s.heap s'.heap) v rv | _ => rv = .none) → Q rv s') : wpAny C.M A (call (.ref a) rargs rkws) Q E s := by
  obtain ⟨o, ho, hd⟩ := fi.obj
  refine wpAny_call (codeAny_call_function (by have := R.depth; omega) (c.b a o ho) hd fi.co fi.gen fi.body (fi.code _ c.b) (hb _ _ _ _ ?_))
  rw [fi.clo, fi.glob, fi.bui]
  have hcells : ∀ x, fd.scope.names.lookup x = some .cell → ∀ n, ((cellsFrom n fd.scope.names []).lookup x).isSome = true := fun x hx n => cellsFrom_some _ _ _ (.inl hx)
  have hbk : ∀ x ∈ pn.zip rvs, fd.scope.names.lookup x.1 = some .local ∨ (fd.scope.names.lookup x.1 = some .cell ∧ ((cellsFrom (s.heap.objs.size + 1) fd.scope.names []).lookup x.1).isSome = true) := fun x hx => by
    have hm : x.1 ∈ N := by rw [hN]; exact List.mem_append_left _ (List.of_mem_zip hx).1
    rcases hk x.1 hm with e | e
    · exact .inl e
    · exact .inr ⟨e, hcells _ e _⟩
  refine wpAny_newFunctionEnv_cells fi.kind hbk fun env he s₁ x => ?_
  have eenv : env = callEnvC fd s.heap.objs.size a := by rw [he]; unfold callEnvC; rw [fi.glob, fi.bui]
  have henv : env.locals = s.heap.objs.size := by rw [he]; rfl
  have hsc : env.scope = fd.scope := by rw [he]; rfl
  have hcl : env.cells = cellsFrom (s.heap.objs.size + 1) fd.scope.names [] := by rw [he]; rfl
  have eo : EnvOk env := ⟨by rw [hsc]; exact fi.kind, by rw [he]; rfl, by rw [he]; rfl⟩
  have fe : FnEnv N env := ⟨hnd, fun j y hy => by
      have : env.kindOf y = fd.scope.names.lookup y := by unfold Env.kindOf; rw [hsc]
      rw [this, hcl]
      rcases hk y (List.mem_of_getElem? hy) with e | e
      · exact .inl e
      · exact .inr ⟨e, Option.isSome_iff_exists.mp (hcells y e _)⟩, x.apart, fun n cc hc => Nat.ne_of_gt (x.above n cc hc)⟩
  have hlr : pn.length = rvs.length := by rw [hr.length]; exact hl
  refine ⟨(C.lim _ c.b).keeps x.toInCall.keep, codeAny_func ?_⟩
  have w : StW C X N (fun _ _ => False) s env (vs.map .val ++ List.replicate rest.length .unset) s₁ (bindL env.kindOf (pn.zip rvs) fun _ => none) (bindC env.kindOf (pn.zip rvs) fun _ => none) (fun _ => []) := by
    refine ⟨?_, fun b o _ e => x.toInCall.keep b o e, fun b hb' => ?_, x.toInCall.ns, x.cell, fun b hb' => ?_, fun _ _ h => (nomatch h), fun _ _ _ h => (nomatch h), fun _ => List.nodup_nil, fun j y sl hy hsl => ?_, ?_, fun _ _ h => h.elim, i.le x.toInCall.keep, fun _ _ h => (nomatch h), fun _ _ h => h.elim⟩
    · obtain ⟨h, tk, e⟩ := x.toInCall.same
      exact ⟨tk, by rw [e]⟩
    · obtain ⟨o', e', q⟩ := hTk b hb'
      exact ⟨o', x.toInCall.keep b o' e', q.1, C.tkm _ _ _ (fun a o _ _ p => ⟨x.toInCall.keep a o p.1, fun h => by
        rcases h with (h | (e | ⟨n, e⟩) | ⟨_, h⟩) | h
        rotate_right
        · exact p.2 (.inr h)
        · exact p.2 (.inl h)
        · have := none_of_ge (h := s.heap) (a := a) (by rw [e]; exact x.toInCall.fresh)
          rw [p.1] at this; cases this
        · have := none_of_ge (h := s.heap) (a := a) (Nat.le_of_lt (Nat.lt_of_le_of_lt x.toInCall.fresh (x.above n a (mem_of_lookup e))))
          rw [p.1] at this; cases this
        · cases h⟩) q.2⟩
    · rcases hb' with e | ⟨n, e⟩
      · refine ⟨none_of_ge (by rw [e]; exact x.toInCall.fresh), ?_⟩
        obtain ⟨o', _, _, g, _⟩ := x.toInCall.ns
        exact ⟨o', e ▸ g⟩
      · refine ⟨none_of_ge (Nat.le_of_lt (Nat.lt_of_le_of_lt x.toInCall.fresh (x.above n b (mem_of_lookup e)))), ?_⟩
        obtain ⟨o', g, _⟩ := x.cell n b e
        exact ⟨o', g⟩
    · by_cases hj : j < vs.length
      · rw [List.getElem?_append_left (by simpa using hj), List.getElem?_map] at hsl
        obtain ⟨v, hv, e⟩ := Option.map_eq_some_iff.mp hsl
        subst e
        obtain ⟨rv, er, q⟩ := hr.get hv
        refine ⟨rfl, rv, ?_, q.le fun b o p => ⟨x.toInCall.keep b o p.1, fun h => ?_⟩⟩
        · rw [vm_bind]
          have hp : pn[j]? = some y := by rw [hN, List.getElem?_append_left (by omega)] at hy; exact hy
          rw [lookup_zip (by rw [hN] at hnd; exact (List.nodup_append.mp hnd).1) hlr hp er]; rfl
        · rcases h with h | (e | ⟨n, e⟩) | ⟨_, h⟩
          · exact p.2 h
          · have := none_of_ge (h := s.heap) (a := b) (by rw [e]; exact x.toInCall.fresh)
            rw [p.1] at this; cases this
          · have := none_of_ge (h := s.heap) (a := b) (Nat.le_of_lt (Nat.lt_of_le_of_lt x.toInCall.fresh (x.above n b (mem_of_lookup e))))
            rw [p.1] at this; cases this
          · cases h
      · rw [List.getElem?_append_right (by simpa using Nat.le_of_not_lt hj)] at hsl
        have : sl = .unset := by
          have := List.mem_of_getElem? hsl
          exact (List.mem_replicate.mp this).2
        subst this
        rfl
    · rw [List.length_append, List.length_map, List.length_replicate, hN, List.length_append, hl]
  refine wpAny_mono (hs (A.deeper env) env s s₁ _ σ' fl X _ _ R.deeper eo fe (eenv ▸ hK _) c ⟨_, _, _, w⟩ hF) (fun rf s' p => ?_) fun _ _ p => p
  obtain ⟨w', p⟩ := p
  cases fl with
  | next => unfold FlRel at p; subst p; exact hQ s' _ env w' rfl
  | brk => unfold FlRel at p; subst p; exact hQ s' _ env w' rfl
  | cont => unfold FlRel at p; subst p; exact hQ s' _ env w' rfl
  | ret v =>
    unfold FlRel at p
    obtain ⟨rv, rfl, p⟩ := p
    exact hQ s' rv env w' p
theorem St.kp0 {X : Addr → Prop} {G : PH} {s₀ s : Shared} {env : Env} {σ : Sg} (w : St C X N G s₀ env σ s) (ht : C.T = []) : Kp s₀ s := by
  obtain ⟨m, cm, ow, w⟩ := w
  exact ⟨w.same, fun b o e => w.keep b o (by rw [ht]; exact fun h => nomatch h) e⟩
/-- what a call of f gives: nothing else is turned -/
noncomputable def PureFn (C : Cx) (k : Nat) (f : Value) (spec : List V → List (Str × V) → Option V) : Prop :=
  ∀ (A : Around) (s : Shared) (X : Addr → Prop) (args : List V) (kws : List (Str × V)) (rargs rkws : List Value) (v : V) (E : Value → Shared → Prop), Rm k A → C.Ok s.heap → InH X s.heap → VRels (rd X s.heap) args rargs → VRels (rd X s.heap) (kws.map (·.2)) rkws →
    spec args kws = some v → wpAny C.M A (call f rargs ((kws.map (·.1)).zip rkws)) (fun rv s' => Kp s s' ∧ VRel (rdF X s.heap s'.heap) v rv) E s
end
end Mine
set_option Elab.async false
set_option linter.unusedVariables false
set_option maxRecDepth 100000
namespace Mine
open PySem PySem.W PyProof.Rows
/-- arguments -/
noncomputable def ExAs (C : Cx) (k : Nat) (N : List Str) (K : Env → Prop) (es : List Expr) (g : Sg → Option (List V)) : Prop :=
  ∀ (A : Around) (env : Env) (s : Shared) (σ : Sg) (vs : List V) (X : Addr → Prop) (E : Value → Shared → Prop) (pos : Pos), Rm k A → EnvOk env → K env → C.Ok s.heap → InH X s.heap → View X N σ env s.heap → g σ = some vs →
    wpAny C.M A (spliced (backTo pos (starEach es env))) (fun rvs s' => Kp s s' ∧ VRels (rd X s'.heap) vs rvs) E s
noncomputable def ExKw (C : Cx) (k : Nat) (N : List Str) (K : Env → Prop) (ks : List Keyword) (g : Sg → Option (List (Str × V))) : Prop :=
  ∀ (A : Around) (env : Env) (s : Shared) (σ : Sg) (vs : List (Str × V)) (X : Addr → Prop) (E : Value → Shared → Prop) (pos : Pos), Rm k A → EnvOk env → K env → C.Ok s.heap → InH X s.heap → View X N σ env s.heap → g σ = some vs →
    (backToKw pos (keywordEach ks env)).all (·.1.isSome) = true ∧ (backToKw pos (keywordEach ks env)).filterMap (·.1) = vs.map (·.1) ∧
    wpAny C.M A (evalAll ((backToKw pos (keywordEach ks env)).map (·.2))) (fun rvs s' => Kp s s' ∧ VRels (rd X s'.heap) (vs.map (·.2)) rvs) E s
section
variable {C : Cx} {k : Nat} {N : List Str} {K : Env → Prop}
theorem As_nil : ExAs C k N K [] (fun _ => some []) := fun A env s σ vs X E pos R o ke c i w q => by
  cases q
  exact args_nil ⟨Kp.refl s, VRels.nil⟩
noncomputable def fCons (f : Sg → Option V) (g : Sg → Option (List V)) : Sg → Option (List V) := fun σ => (f σ).bind fun v => (g σ).map (v :: ·)
theorem As_cons {e : Expr} {es : List Expr} {f : Sg → Option V} {g : Sg → Option (List V)} (h : ExB C k N K e f) (h' : ExAs C k N K es g)
    (he : ∀ env, starEach (e :: es) env = (false, eval e env) :: starEach es env := by intro _; rfl) : ExAs C k N K (e :: es) (fCons f g) := fun A env s σ vs X E pos R o ke c i w q => by
  unfold fCons at q
  obtain ⟨v, hv, q⟩ := Option.bind_eq_some_iff.mp q
  obtain ⟨vs', hvs, rfl⟩ := Option.map_eq_some_iff.mp q
  refine args_cons (wpAny_mono (h A env s σ v X E R o ke c i w hv) (fun rv s₁ p => ?_) fun _ _ x => x) (he env)
  refine wpAny_mono (h' A env s₁ σ vs' X E pos R o ke (c.le p.1.le) (i.le p.1.le) (w.le p.1.le) hvs) (fun rvs s₂ p' => ?_) fun _ _ x => x
  exact ⟨p.1.trans p'.1, VRels.cons (p.2.up p'.1.le) p'.2⟩
theorem Kw_nil : ExKw C k N K [] (fun _ => some []) := fun A env s σ vs X E pos R o ke c i w q => by
  cases q
  exact ⟨rfl, rfl, wpAny_evalAll_nil ⟨Kp.refl s, VRels.nil⟩⟩
theorem evalArgs_gen {M : Model} {A : Around} {E : Value → Shared → Prop} {s : Shared} {f : Value} {ts : List (Bool × Sem Value)} {keywords : List (Option Str × Sem Value)} {Q : Args → Shared → Prop} (hp : ts.any (·.1) = false) (hall : keywords.all (·.1.isSome) = true)
    (h : wpAny M A (spliced ts) (fun vs s₁ => wpAny M A (evalAll (keywords.map (·.2))) (fun ks s₂ => Q ⟨vs, (keywords.filterMap (·.1)).zip ks⟩ s₂) E s₁) E s) :
    wpAny M A (evalArgs f true ts keywords) Q E s := by
  cases ts with
  | nil =>
    unfold evalArgs
    show wpAny M A (spliced [] >>= _) Q E s
    refine wpAny_bind (wpAny_mono h (fun vs s₁ h₁ => ?_) fun _ _ x => x)
    refine wpAny_holding ?_
    simp only [hall, if_true]
    refine wpAny_bind (wpAny_mono h₁ (fun ks s₂ h₂ => ?_) fun _ _ x => x)
    exact wpAny_bind (wpAny_pure (wpAny_pure h₂))
  | cons t ts =>
    obtain ⟨b, x⟩ := t
    cases b with
    | true => simp at hp
    | false => exact evalArgs_kw hall h
/-- the arguments of a call -/
theorem args_eval {f : Value} {es : List Expr} {ks : List Keyword} {g : Sg → Option (List V)} {gk : Sg → Option (List (Str × V))} (ha : ExAs C k N K es g) (hk : ExKw C k N K ks gk) {A : Around} {env : Env} {s : Shared} {σ : Sg} {vs : List V} {kvs : List (Str × V)} {X : Addr → Prop}
    {E : Value → Shared → Prop} {pos : Pos} (R : Rm k A) (o : EnvOk env) (ke : K env) (c : C.Ok s.heap) (i : InH X s.heap) (w : View X N σ env s.heap) (q : g σ = some vs) (qk : gk σ = some kvs) (hes : (backTo pos (starEach es env)).any (·.1) = false) {Q : Args → Shared → Prop}
    (hQ : ∀ rvs rks s', Kp s s' → VRels (rd X s'.heap) vs rvs → VRels (rd X s'.heap) (kvs.map (·.2)) rks → Q ⟨rvs, (kvs.map (·.1)).zip rks⟩ s') :
    wpAny C.M A (evalArgs f true (backTo pos (starEach es env)) (backToKw pos (keywordEach ks env))) Q E s := by
  have z := hk A env s σ kvs X E pos R o ke c i w qk
  refine evalArgs_gen hes z.1 (wpAny_mono (ha A env s σ vs X E pos R o ke c i w q) (fun rvs s₁ p => ?_) fun _ _ x => x)
  have z' := hk A env s₁ σ kvs X E pos R o ke (c.le p.1.le) (i.le p.1.le) (w.le p.1.le) qk
  refine wpAny_mono z'.2.2 (fun rks s₂ p' => ?_) fun _ _ x => x
  rw [z.2.1]
  exact hQ rvs rks s₂ (p.1.trans p'.1) (p.2.up p'.1.le) p'.2
noncomputable def fCall (spec : List V → List (Str × V) → Option V) (g : Sg → Option (List V)) (gk : Sg → Option (List (Str × V))) : Sg → Option V := fun σ => (g σ).bind fun vs => (gk σ).bind fun kvs => spec vs kvs
/-- a call of a def that a name of the frame's holds -/
theorem Ex_CallV {x : Str} {p pos : Pos} {es : List Expr} {g : Sg → Option (List V)} {Φ : Value → List V → Option V} {fx : Sg → Option V} (hx : ExB C k N K (.Name x p) fx)
    (hf : ∀ rv, (∃ a o fd, rv = .ref a ∧ C.base a o ∧ o.data = .func fd ∧ PureFn C k (.ref a) (fun vs ks => if ks.isEmpty then Φ rv vs else none)) ∨ ∀ vs, Φ rv vs = none) (ha : ExAs C k N K es g) (hes : ∀ env, (backTo pos (starEach es env)).any (·.1) = false := by intro _; rfl) :
    ExF C k N K (.Call (.Name x p) es [] pos) (fun σ => (fx σ).bind fun u => match u with | .raw rv => (g σ).bind fun vs => Φ rv vs | _ => none) := fun A env s σ v X E R o ke c i w q => by
  obtain ⟨u, hu, q⟩ := Option.bind_eq_some_iff.mp q
  split at q
  rotate_left
  · cases q
  rename_i rv
  obtain ⟨vs, hvs, q⟩ := Option.bind_eq_some_iff.mp q
  rcases hf rv with ⟨a, ob, fd, rfl, hb, hd, hf⟩ | hn
  rotate_left
  · rw [hn] at q; cases q
  refine wpAny_Call_Name_kw (wpAny_mono (hx A env s σ _ X E R o ke c i w hu) (fun rf s₁ p => ?_) fun _ _ x => x)
  have p1 := p.1
  rw [p.2.raw']
  refine callWith_function_kw (o := ob) (fd := fd) (args_eval ha Kw_nil R o ke (c.le p1.le) (i.le p1.le) (w.le p1.le) hvs rfl (hes env) fun rvs rks s₂ p₂ r₁ r₂ => ⟨⟨(c.le (p1.trans p₂).le).b _ _ hb, hd⟩, ?_⟩)
  refine wpAny_mono (hf A s₂ X vs [] rvs rks v E R (c.le (p1.trans p₂).le) (i.le (p1.trans p₂).le) r₁ r₂ q) (fun rv s₃ p₃ => ?_) fun _ _ x => x
  exact ⟨(p1.trans p₂).trans p₃.1, p₃.2.wide (p1.trans p₂).le (Hle.refl _)⟩
end
end Mine
set_option Elab.async false
set_option linter.unusedVariables false
set_option maxRecDepth 100000
namespace Mine
open PySem PySem.W PyProof.Rows
/-- the place that an index means -/
noncomputable def place (n : Nat) (k : Int) : Option Nat := if 0 ≤ k then (if k < 4611686018427387904 then some k.toNat else none) else if -(n : Int) ≤ k ∧ -4611686018427387904 < k then some (k + n).toNat else none
noncomputable def itemD : V → V → Option V
  | .lst xs, .int k => (place xs.length k).bind fun j => xs[j]?
  | .tup xs, .int k => (place xs.length k).bind fun j => xs[j]?
  | .str x, .int k => (place x.length k).bind fun j => (x.cps[j]?).map fun c => .str ⟨#[c]⟩
  | _, _ => none
section
variable {C : Cx} {k : Nat} {A : Around} {E : Value → Shared → Prop} {s : Shared} {X : Addr → Prop}
theorem seqIndex_place {n j : Nat} {k : Int} (h : place n k = some j) (hj : j < n) : seqIndex? k n = some j := by
  unfold place at h
  split at h
  · split at h <;> cases h
    rw [seqIndex_of (by assumption) (by omega)]
  · split at h <;> cases h
    rename_i h1 h2
    rw [seqIndex_neg (by omega) h2.1]
theorem place_fit {n j : Nat} {k : Int} (h : place n k = some j) : -(2 ^ 63) ≤ k ∧ k < 2 ^ 63 := by
  unfold place at h
  split at h
  · split at h <;> cases h; omega
  · split at h <;> cases h; omega
theorem item_sound {value slice : Expr} {o i v : V} {x y : Value} (h : itemD o i = some v) (ro : VRel (rd X s.heap) o x) (ri : VRel (rd X s.heap) i y)
    (hs : ∀ o i, subscripted slice false o i = operate [o, i] (getItem o i)) :
    wpAny C.M A (subscriptTail value slice x y) (fun rv s' => Kp s s' ∧ VRel (rd X s'.heap) v rv) E s := by
  unfold itemD at h
  split at h
  · obtain ⟨j, hp, hj⟩ := Option.bind_eq_some_iff.mp h
    obtain ⟨a, its, n, rfl, p, q⟩ := ro.lst'
    obtain ⟨t, rfl⟩ := ri.int'
    obtain ⟨rv, hr, hv⟩ := q.get hj
    have hl := q.length
    rw [Array.length_toList] at hl
    have hi : s.heap.IsList a its := ⟨_, p.1, rfl, n, rfl⟩
    have hr' : its[j]? = some rv := by rw [← Array.getElem?_toList]; exact hr
    refine tail_any hi.typeIs slot_list_getitem.lookup ?_ (hs _ _)
    unfold place at hp
    split at hp
    · split at hp <;> cases hp
      exact wpAny_getItem_list hi (by assumption) (by omega) hr' ⟨Kp.refl s, hv⟩
    · split at hp <;> cases hp
      rename_i h1 h2
      refine wpAny_getItem_list_neg hi (by omega) (by rw [hl]; exact h2.1) (by omega) ?_ ⟨Kp.refl s, hv⟩
      rw [hl]; exact hr'
  · obtain ⟨j, hp, hj⟩ := Option.bind_eq_some_iff.mp h
    obtain ⟨a, its, n, rfl, p, q⟩ := ro.tup'
    obtain ⟨t, rfl⟩ := ri.int'
    obtain ⟨rv, hr, hv⟩ := q.get hj
    have hl := q.length
    rw [Array.length_toList] at hl
    have hr' : its[j]? = some rv := by rw [← Array.getElem?_toList]; exact hr
    have hi : IsTup s.heap a its := ⟨_, p.1, rfl, n, rfl⟩
    refine tail_any hi.typeIs slot_tuple_getitem.lookup ?_ (hs _ _)
    refine PyProof.Rows.getItem_tuple hi (place_fit hp).1 (place_fit hp).2 (j := j) ?_ hr' ⟨Kp.refl s, hv⟩
    rw [hl]
    exact seqIndex_place hp (List.getElem?_eq_some_iff.mp hj).1
  · obtain ⟨j, hp, hj⟩ := Option.bind_eq_some_iff.mp h
    obtain ⟨c, hc, rfl⟩ := Option.map_eq_some_iff.mp hj
    obtain ⟨t, rfl⟩ := ro.str'
    obtain ⟨u, rfl⟩ := ri.int'
    refine tail_any (typeIs_str s _ t) F.slot_str_getitem.lookup ?_ (hs _ _)
    have hf := place_fit hp
    refine P.getItem_str (c := c) ?_ ?_ ⟨Kp.toks s _, pStr⟩
    · simp; omega
    · rw [seqIndex_place hp (by have := (Array.getElem?_eq_some_iff.mp hc).1; simpa [Str.length] using this)]
      exact hc
  · cases h
end
noncomputable def pick {α : Type} (xs : List α) (lo hi st : Option Int) : List α :=
  (sliceRange (sliceBounds lo hi st xs.length).1 (sliceBounds lo hi st xs.length).2.1 (sliceBounds lo hi st xs.length).2.2).filterMap (xs[·]?)
theorem VRels.pickAt {P : PH} {vs : List V} {rs : List Value} (h : VRels P vs rs) : ∀ l : List Nat, VRels P (l.filterMap (vs[·]?)) (l.filterMap (rs[·]?))
  | [] => VRels.nil
  | j :: l => by
    rw [List.filterMap_cons, List.filterMap_cons]
    cases e : vs[j]? with
    | none => rw [h.none e]; exact h.pickAt l
    | some v =>
      obtain ⟨rv, er, q⟩ := h.get e
      rw [er]
      exact VRels.cons q (h.pickAt l)
theorem VRels.pick {P : PH} {vs : List V} {its : Array Value} (h : VRels P vs its.toList) (lo hi st : Option Int) : VRels P (Mine.pick vs lo hi st) (slicePick its lo hi st).toList := by
  have hl : its.size = vs.length := by have := h.length; simpa using this
  unfold slicePick Mine.pick
  rw [hl, List.toList_toArray]
  have : (fun x : Nat => its[x]?) = fun x => its.toList[x]? := by funext x; rw [Array.getElem?_toList]
  rw [this]
  exact h.pickAt _
noncomputable def optI : V → Option (Option Int)
  | .none => some none
  | .int i => some (some i)
  | _ => none
noncomputable def sliceD : V → V → V → V → Option V
  | .lst xs, a, b, c => (optI a).bind fun lo => (optI b).bind fun hi => (optI c).bind fun st => if st ≠ some 0 ∧ xs.length ≤ 16777216 then some (.lst (pick xs lo hi st)) else none
  | .str x, a, b, .none => (optI a).bind fun lo => (optI b).bind fun hi => if x.length ≤ 16777216 then some (.str (Txt.slice x lo hi)) else none
  | _, _, _, _ => none
section
variable {C : Cx} {k : Nat} {N : List Str} {K : Env → Prop}
noncomputable def fItem (f g : Sg → Option V) : Sg → Option V := fun σ => (f σ).bind fun o => (g σ).bind fun i => itemD o i
theorem Ex_Item {value slice : Expr} {pos : Pos} {f g : Sg → Option V} (hf : ExB C k N K value f) (hg : ExB C k N K slice g) (hs : ∀ o i, subscripted slice false o i = operate [o, i] (getItem o i) := by intro _ _; rfl) :
    ExB C k N K (.Subscript value slice pos) (fItem f g) := fun A env s σ v X E R o ke c i w q => by
  unfold fItem at q
  obtain ⟨a, ha, q⟩ := Option.bind_eq_some_iff.mp q
  obtain ⟨b, hb, q⟩ := Option.bind_eq_some_iff.mp q
  refine Subscript_ (wpAny_mono (hf A env s σ a X E R o ke c i w ha) (fun ra s₁ h₁ => ?_) fun _ _ x => x)
  have k₁ := h₁.1.le
  refine wpAny_mono (hg A env s₁ σ b X E R o ke (c.le k₁) (i.le k₁) (w.le k₁) hb) (fun rb s₂ h₂ => ?_) fun _ _ x => x
  exact wpAny_mono (item_sound q (h₁.2.up h₂.1.le) h₂.2 hs) (fun rv s₃ h₃ => ⟨(h₁.1.trans h₂.1).trans h₃.1, h₃.2⟩) fun _ _ x => x
/-- a part of a slice -/
noncomputable def ExP (C : Cx) (k : Nat) (N : List Str) (K : Env → Prop) (e : Option Expr) (f : Sg → Option V) : Prop :=
  ∀ (A : Around) (env : Env) (s : Shared) (σ : Sg) (v : V) (X : Addr → Prop) (E : Value → Shared → Prop), Rm k A → EnvOk env → K env → C.Ok s.heap → InH X s.heap → View X N σ env s.heap → f σ = some v →
    wpAny C.M A (evalPart e env) (fun rv s' => Kp s s' ∧ VRel (rd X s'.heap) v rv) E s
theorem P_none : ExP C k N K none (fun _ => some .none) := fun A env s σ v X E R o ke c i w q => by
  cases q
  rw [evalPart_none]
  exact wpAny_pure ⟨Kp.refl s, by unfold VRel; rfl⟩
theorem P_some {e : Expr} {f : Sg → Option V} (h : ExB C k N K e f) : ExP C k N K (some e) f := fun A env s σ v X E R o ke c i w q => h A env s σ v X E R o ke c i w q
noncomputable def fSlice (f a b c : Sg → Option V) : Sg → Option V := fun σ => (f σ).bind fun o => (a σ).bind fun x => (b σ).bind fun y => (c σ).bind fun z => sliceD o x y z
theorem optI_part {P : PH} {v : V} {rv : Value} {i : Option Int} (h : optI v = some i) (r : VRel P v rv) : IsPart rv i := by
  unfold optI at h
  split at h <;> cases h
  · rw [r.none']; exact .none
  · obtain ⟨t, rfl⟩ := r.int'; exact .int _ t
theorem optI_tok {P : PH} {v : V} {rv : Value} {i : Option Int} (h : optI v = some i) (r : VRel P v rv) : ∃ p : Option (Int × Tok), rv = partValue p ∧ p.map (·.1) = i := by
  unfold optI at h
  split at h <;> cases h
  · rw [r.none']; exact ⟨none, rfl, rfl⟩
  · obtain ⟨t, rfl⟩ := r.int'; exact ⟨some (_, t), rfl, rfl⟩
theorem slice_sound {value slice : Expr} {A : Around} {E : Value → Shared → Prop} {s : Shared} {X : Addr → Prop} (hX : InH X s.heap) {o x y z v : V} {ro rx ry rz : Value} (h : sliceD o x y z = some v) (r0 : VRel (rd X s.heap) o ro) (r1 : VRel (rd X s.heap) x rx) (r2 : VRel (rd X s.heap) y ry) (r3 : VRel (rd X s.heap) z rz)
    (hs : ∀ o i, ∃ ops, subscripted slice false o i = operate ops (getItem o i)) :
    wpAny C.M A (subscriptTail value slice ro (.ref s.heap.objs.size)) (fun rv s' => Kp s s' ∧ VRel (rd X s'.heap) v rv) E { s with heap := s.heap.push { cls := .type "slice", data := .fields #[rx, ry, rz] } } := by
  have kp := Kp.push s { cls := .type "slice", data := .fields #[rx, ry, rz] }
  unfold sliceD at h
  split at h
  · rename_i xs
    obtain ⟨lo, h1, g⟩ := Option.bind_eq_some_iff.mp h
    obtain ⟨hi, h2, g⟩ := Option.bind_eq_some_iff.mp g
    obtain ⟨st, h3, g⟩ := Option.bind_eq_some_iff.mp g
    by_cases hc : st ≠ some 0 ∧ xs.length ≤ 16777216
    rotate_left
    · rw [if_neg hc] at g; cases g
    rw [if_pos hc] at g
    cases g
    obtain ⟨a, its, n, rfl, p, q⟩ := r0.lst'
    have hl : its.size = xs.length := by have := q.length; simpa using this
    obtain ⟨ops, ho⟩ := hs (.ref a) (.ref s.heap.objs.size)
    have isl : (s.heap.push { cls := .type "slice", data := .fields #[rx, ry, rz] }).IsList a its := ⟨_, kp.le _ _ p.1, rfl, n, rfl⟩
    refine tail_any (s := { s with heap := s.heap.push { cls := .type "slice", data := .fields #[rx, ry, rz] } }) isl.typeIs slot_list_getitem.lookup ?_ ho
    refine wpAny_getItem_list_slice (s := { s with heap := s.heap.push { cls := .type "slice", data := .fields #[rx, ry, rz] } }) isl (Heap.IsSliceOf.new _ _ _ _) (optI_part h1 r1) (optI_part h2 r2) (optI_part h3 r3) hc.1 ?_ (by rw [hl]; exact hc.2)
    refine ⟨kp.trans (Kp.push _ _), ?_⟩
    unfold VRel
    refine ⟨_, _, 0, rfl, ⟨Heap.get?_push_size _ rfl, fun hx => ?_⟩, (q.pick lo hi st).up (kp.trans (Kp.push _ _)).le⟩
    obtain ⟨o', e'⟩ := (hX.le kp.le) _ hx
    exact absurd (Heap.lt_size e') (Nat.lt_irrefl _)
  · rename_i x
    obtain ⟨lo, h1, g⟩ := Option.bind_eq_some_iff.mp h
    obtain ⟨hi, h2, g⟩ := Option.bind_eq_some_iff.mp g
    by_cases hc : x.length ≤ 16777216
    rotate_left
    · rw [if_neg hc] at g; cases g
    rw [if_pos hc] at g
    cases g
    obtain ⟨t, rfl⟩ := r0.str'
    obtain ⟨pl, rfl, el⟩ := optI_tok h1 r1
    obtain ⟨pu, rfl, eu⟩ := optI_tok h2 r2
    obtain rfl := r3.none'
    obtain ⟨ops, ho⟩ := hs (.str x t) (.ref s.heap.objs.size)
    refine tail_any (s := { s with heap := s.heap.push { cls := .type "slice", data := .fields #[partValue pl, partValue pu, .none] } }) (typeIs_str _ _ t) F.slot_str_getitem.lookup ?_ ho
    refine wpAny_getItem_str_slice (l := pl) (u := pu) (st := none) ⟨_, Heap.get?_push_size _ rfl, rfl, rfl⟩ rfl ?_
    have hle := Txt.slice_le x lo hi
    unfold sliceMade slicePicked
    rw [el, eu]
    unfold Txt.slice at hle ⊢
    simp only [Option.map_none, Option.getD_none]
    split
    · exact ⟨kp, pStr⟩
    · rename_i hn
      rw [if_neg hn] at hle
      exact ⟨Nat.le_trans hle hc, kp.trans (Kp.toks _ _), pStr⟩
  · cases h
theorem Ex_Slice {value : Expr} {lo hi st : Option Expr} {p pos : Pos} {f a b c : Sg → Option V} (hf : ExB C k N K value f) (ha : ExP C k N K lo a) (hb : ExP C k N K hi b) (hc : ExP C k N K st c)
    (hs : ∀ o i, ∃ ops, subscripted (.Slice lo hi st p) false o i = operate ops (getItem o i) := by intro _ _; exact ⟨_, rfl⟩) :
    ExB C k N K (.Subscript value (.Slice lo hi st p) pos) (fSlice f a b c) := fun A env s σ v X E R o ke cc i w q => by
  unfold fSlice at q
  obtain ⟨u, hu, q⟩ := Option.bind_eq_some_iff.mp q
  obtain ⟨x, hx, q⟩ := Option.bind_eq_some_iff.mp q
  obtain ⟨y, hy, q⟩ := Option.bind_eq_some_iff.mp q
  obtain ⟨z, hz, q⟩ := Option.bind_eq_some_iff.mp q
  refine Subscript_ (wpAny_mono (hf A env s σ u X E R o ke cc i w hu) (fun r0 s₁ h₁ => ?_) fun _ _ x => x)
  have k₁ := h₁.1.le
  refine wpAny_Slice (wpAny_mono (ha A env s₁ σ x X E R o ke (cc.le k₁) (i.le k₁) (w.le k₁) hx) (fun r1 s₂ h₂ => ?_) fun _ _ x => x)
  have k₂ := k₁.trans h₂.1.le
  refine wpAny_mono (hb A env s₂ σ y X E R o ke (cc.le k₂) (i.le k₂) (w.le k₂) hy) (fun r2 s₃ h₃ => ?_) fun _ _ x => x
  have k₃ := k₂.trans h₃.1.le
  refine wpAny_mono (hc A env s₃ σ z X E R o ke (cc.le k₃) (i.le k₃) (w.le k₃) hz) (fun r3 s₄ h₄ => ?_) fun _ _ x => x
  have k₄ := k₃.trans h₄.1.le
  refine wpAny_mono (slice_sound (i.le k₄) q (h₁.2.up ((h₂.1.trans h₃.1).trans h₄.1).le) (h₂.2.up (h₃.1.trans h₄.1).le) (h₃.2.up h₄.1.le) h₄.2 hs) (fun rv s₅ h₅ => ?_) fun _ _ x => x
  exact ⟨(((h₁.1.trans h₂.1).trans h₃.1).trans h₄.1).trans h₅.1, h₅.2⟩
end
end Mine
set_option Elab.async false
set_option linter.unusedVariables false
set_option maxRecDepth 100000
namespace Mine
open PySem PySem.W PyProof.Rows
noncomputable def V.ints : List V → Option (List Int)
  | [] => some []
  | .int i :: r => (V.ints r).map (i :: ·)
  | _ => Option.none
theorem ints_are {P : PH} : ∀ {vs : List V} {ns : List Int} {rs : List Value}, V.ints vs = some ns → VRels P vs rs → IntsAre rs ns
  | [], ns, rs, e, h => by cases e; unfold VRels at h; subst h; exact .nil
  | .int i :: r, ns, rs, e, h => by
    unfold V.ints at e
    obtain ⟨ns', e', rfl⟩ := Option.map_eq_some_iff.mp e
    unfold VRels at h
    obtain ⟨rv, rs', rfl, p, q⟩ := h
    obtain ⟨t, rfl⟩ := p.int'
    exact .cons i t (ints_are e' q)
  | .none :: _, _, _, e, _ | .bool _ :: _, _, _, e, _ | .str _ :: _, _, _, e, _ | .raw _ :: _, _, _, e, _ | .tup _ :: _, _, _, e, _ | .lst _ :: _, _, _, e, _ | .obj _ _ :: _, _, _, e, _ | .rng _ _ _ :: _, _, _, e, _ => by cases e
noncomputable def lenD : List V → Option V
  | [.lst xs] => if xs.length < 4611686018427387904 then some (.int xs.length) else none
  | [.tup xs] => if xs.length < 4611686018427387904 then some (.int xs.length) else none
  | [.str x] => if x.length < 4611686018427387904 then some (.int x.length) else none
  | _ => none
noncomputable def sumD : List V → Option V
  | [.lst xs] => (V.ints xs).map fun ns => .int ns.sum
  | _ => none
noncomputable def minD : List V → Option V
  | [.int a, .int b] => some (.int (if b < a then b else a))
  | _ => none
noncomputable def tupleD : List V → Option V
  | [.lst xs] => if xs.length ≤ 16777216 ∧ V.frees xs = true then some (.tup xs) else none
  | _ => none
noncomputable def rangeD : List V → Option V
  | [.int n] => some (.rng 0 n 1)
  | [.int a, .int b] => some (.rng a b 1)
  | _ => none
noncomputable def noKw (f : List V → Option V) : List V → List (Str × V) → Option V := fun vs ks => if ks.isEmpty then f vs else none
theorem VRels.one' {P : PH} {v : V} {rs : List Value} (h : VRels P [v] rs) : ∃ r, rs = [r] ∧ VRel P v r := by
  unfold VRels at h
  obtain ⟨r, rs', rfl, p, q⟩ := h
  unfold VRels at q
  subst q
  exact ⟨r, rfl, p⟩
theorem VRels.two' {P : PH} {v u : V} {rs : List Value} (h : VRels P [v, u] rs) : ∃ r q, rs = [r, q] ∧ VRel P v r ∧ VRel P u q := by
  unfold VRels at h
  obtain ⟨r, rs', rfl, p, q⟩ := h
  obtain ⟨q', rfl, z⟩ := q.one'
  exact ⟨r, q', rfl, p, z⟩
theorem noKw_some {f : List V → Option V} {vs : List V} {ks : List (Str × V)} {v : V} (h : noKw f vs ks = some v) : ks = [] ∧ f vs = some v := by
  unfold noKw at h
  split at h
  · rename_i e; exact ⟨List.isEmpty_iff.mp e, h⟩
  · cases h
section
variable {C : Cx} {k : Nat}
theorem pure_len : PureFn C k (.builtin "len") (noKw lenD) := fun A s X args kws rargs rkws v E R c i r rk h₀ => by
  obtain ⟨e₀, h⟩ := noKw_some h₀
  clear h₀
  subst e₀
  unfold VRels at rk
  simp only [List.map_nil] at rk
  subst rk
  unfold lenD at h
  split at h
  · split at h <;> cases h
    obtain ⟨rv, rfl, p⟩ := r.one'
    obtain ⟨a, its, n, rfl, q, z⟩ := p.lst'
    have hl := z.length
    rw [Array.length_toList] at hl
    refine PySem.Calls.call_len_list (items := its) ⟨_, q.1, rfl, n, rfl⟩ (by omega) ⟨Kp.toks s _, ?_⟩
    rw [hl]; exact pInt
  · split at h <;> cases h
    obtain ⟨rv, rfl, p⟩ := r.one'
    obtain ⟨a, its, n, rfl, q, z⟩ := p.tup'
    have hl := z.length
    rw [Array.length_toList] at hl
    refine len_tuple (items := its) ⟨_, q.1, rfl, n, rfl⟩ (by omega) ⟨Kp.toks s _, ?_⟩
    rw [hl]; exact pInt
  · split at h <;> cases h
    obtain ⟨rv, rfl, p⟩ := r.one'
    obtain ⟨t, rfl⟩ := p.str'
    exact P.len_str (by omega) ⟨Kp.toks s _, pInt⟩
  · cases h
theorem Kp.mk2 {s : Shared} {h' : Heap} {tk : Nat} (k : ∀ b o, s.heap.get? b = some o → h'.get? b = some o) : Kp s { s with heap := h', toks := tk } := ⟨⟨tk, rfl⟩, k⟩
theorem pure_sum : PureFn C k (.builtin "sum") (noKw sumD) := fun A s X args kws rargs rkws v E R c i r rk h₀ => by
  obtain ⟨e₀, h⟩ := noKw_some h₀
  clear h₀
  subst e₀
  unfold VRels at rk
  simp only [List.map_nil] at rk
  subst rk
  unfold sumD at h
  split at h
  · obtain ⟨ns, hn, rfl⟩ := Option.map_eq_some_iff.mp h
    obtain ⟨rv, rfl, p⟩ := r.one'
    obtain ⟨a, its, n, rfl, q, z⟩ := p.lst'
    have hi := ints_are hn z
    obtain ⟨xs, e⟩ := hi.allInts.items
    rw [Array.toArray_toList] at e
    have hns : ns = xs.toList.map (·.1) := by rw [← hi.numsOf, ← nums_intItems, ← e]
    refine sum_intListG (xs := xs) R.handled ⟨_, q.1, rfl, n, by rw [← e]; rfl⟩ fun h' tk t' hk => ⟨Kp.mk2 hk, ?_⟩
    rw [preSum_eq, List.take_of_length_le (by simp), ← hns]
    exact pInt
  · cases h
theorem pure_min : PureFn C k (.builtin "min") (noKw minD) := fun A s X args kws rargs rkws v E R c i r rk h₀ => by
  obtain ⟨e₀, h⟩ := noKw_some h₀
  clear h₀
  subst e₀
  unfold VRels at rk
  simp only [List.map_nil] at rk
  subst rk
  unfold minD at h
  split at h
  · cases h
    obtain ⟨x, y, rfl, p, q⟩ := r.two'
    obtain ⟨t, rfl⟩ := p.int'
    obtain ⟨u, rfl⟩ := q.int'
    refine min_two_ints R.handled fun h' tk hk => ⟨Kp.mk2 hk, ?_⟩
    split <;> exact pInt
  · cases h
theorem pure_tuple : PureFn C k (.type "tuple") (noKw tupleD) := fun A s X args kws rargs rkws v E R c i r rk h₀ => by
  obtain ⟨e₀, h⟩ := noKw_some h₀
  clear h₀
  subst e₀
  unfold VRels at rk
  simp only [List.map_nil] at rk
  subst rk
  unfold tupleD at h
  split at h
  · rename_i xs
    by_cases hc : xs.length ≤ 16777216 ∧ V.frees xs = true
    rotate_left
    · rw [if_neg hc] at h; cases h
    rw [if_pos hc] at h
    cases h
    obtain ⟨rv, rfl, p⟩ := r.one'
    obtain ⟨a, its, n, rfl, q, z⟩ := p.lst'
    have hl : its.size = xs.length := by have := z.length; rw [Array.length_toList] at this; exact this
    refine call_tuple_list (items := its) ⟨_, q.1, rfl, n, rfl⟩ (fun h' hk => ?_) (by rw [hl]; exact hc.1)
    have kp : Kp s { s with heap := h' } := ⟨⟨s.toks, rfl⟩, hk⟩
    refine ⟨kp.trans (Kp.push _ _), ?_⟩
    have := new_tupF (its := its.toList) kp.le (i.le kp.le) (VRels.toF kp.le hc.2 (z.up kp.le))
    rw [Array.toArray_toList] at this
    exact this
  · cases h
theorem pure_range : PureFn C k (.type "range") (noKw rangeD) := fun A s X args kws rargs rkws v E R c i r rk h₀ => by
  obtain ⟨e₀, h⟩ := noKw_some h₀
  clear h₀
  subst e₀
  unfold VRels at rk
  simp only [List.map_nil] at rk
  subst rk
  unfold rangeD at h
  split at h
  · cases h
    obtain ⟨rv, rfl, p⟩ := r.one'
    obtain ⟨t, rfl⟩ := p.int'
    refine call_range_1 ⟨(Kp.push s _).trans (Kp.toks _ _), ?_⟩
    unfold VRel
    exact ⟨_, _, _, _, rfl, new_rdF i rfl⟩
  · cases h
    obtain ⟨x, y, rfl, p, q⟩ := r.two'
    obtain ⟨t, rfl⟩ := p.int'
    obtain ⟨u, rfl⟩ := q.int'
    refine call_range_2 ⟨(Kp.push s _).trans (Kp.toks _ _), ?_⟩
    unfold VRel
    exact ⟨_, _, _, _, rfl, new_rdF i rfl⟩
  · cases h
end
section
variable {C : Cx} {k : Nat} {N : List Str} {K : Env → Prop}
/-- a call of a built-in by its name -/
theorem Ex_CallBi {x : Str} {p pos : Pos} {es : List Expr} {g : Sg → Option (List V)} {id : String} {spec : List V → List (Str × V) → Option V} {fx : Sg → Option V} (hx : ExB C k N K (.Name x p) fx) (hfx : ∀ σ, fx σ = some (.raw (.builtin id)))
    (hf : PureFn C k (.builtin id) spec) (ha : ExAs C k N K es g) (hes : ∀ env, (backTo pos (starEach es env)).any (·.1) = false := by intro _; rfl) :
    ExF C k N K (.Call (.Name x p) es [] pos) (fun σ => (g σ).bind fun vs => spec vs []) := fun A env s σ v X E R o ke c i w q => by
  obtain ⟨vs, hvs, q⟩ := Option.bind_eq_some_iff.mp q
  refine wpAny_Call_Name_kw (wpAny_mono (hx A env s σ _ X E R o ke c i w (hfx σ)) (fun rf s₁ p => ?_) fun _ _ x => x)
  have p1 := p.1
  rw [p.2.raw']
  refine Calls.callWith_builtin (hes env) (args_eval ha Kw_nil R o ke (c.le p1.le) (i.le p1.le) (w.le p1.le) hvs rfl (hes env) fun rvs rks s₂ p₂ r₁ r₂ => ?_)
  refine wpAny_mono (hf A s₂ X vs [] rvs rks v E R (c.le (p1.trans p₂).le) (i.le (p1.trans p₂).le) r₁ r₂ q) (fun rv s₃ p₃ => ?_) fun _ _ x => x
  exact ⟨(p1.trans p₂).trans p₃.1, p₃.2.wide (p1.trans p₂).le (Hle.refl _)⟩
theorem Ex_CallTy {x : Str} {p pos : Pos} {es : List Expr} {g : Sg → Option (List V)} {id : String} {spec : List V → List (Str × V) → Option V} {fx : Sg → Option V} (hx : ExB C k N K (.Name x p) fx) (hfx : ∀ σ, fx σ = some (.raw (.type id)))
    (hf : PureFn C k (.type id) spec) (ha : ExAs C k N K es g) (hes : ∀ env, (backTo pos (starEach es env)).any (·.1) = false := by intro _; rfl) :
    ExF C k N K (.Call (.Name x p) es [] pos) (fun σ => (g σ).bind fun vs => spec vs []) := fun A env s σ v X E R o ke c i w q => by
  obtain ⟨vs, hvs, q⟩ := Option.bind_eq_some_iff.mp q
  refine wpAny_Call_Name_kw (wpAny_mono (hx A env s σ _ X E R o ke c i w (hfx σ)) (fun rf s₁ p => ?_) fun _ _ x => x)
  have p1 := p.1
  rw [p.2.raw']
  refine PyProof.Rows.callWith_type (hes env) (args_eval ha Kw_nil R o ke (c.le p1.le) (i.le p1.le) (w.le p1.le) hvs rfl (hes env) fun rvs rks s₂ p₂ r₁ r₂ => ?_)
  refine wpAny_mono (hf A s₂ X vs [] rvs rks v E R (c.le (p1.trans p₂).le) (i.le (p1.trans p₂).le) r₁ r₂ q) (fun rv s₃ p₃ => ?_) fun _ _ x => x
  exact ⟨(p1.trans p₂).trans p₃.1, p₃.2.wide (p1.trans p₂).le (Hle.refl _)⟩
end
end Mine
set_option Elab.async false
set_option linter.unusedVariables false
set_option maxRecDepth 100000
namespace Mine
open PySem PySem.W PyProof.Rows
/-- nothing is turned but what stands at wr -/
structure Bu (wr : Addr → Prop) (s s' : Shared) : Prop where
  same : ∃ tk, s' = { s with heap := s'.heap, toks := tk }
  keep : ∀ b o, ¬ wr b → s.heap.get? b = some o → s'.heap.get? b = some o
theorem Bu.mk' {wr : Addr → Prop} {s : Shared} {h' : Heap} {tk : Nat} (k : ∀ b o, ¬ wr b → s.heap.get? b = some o → h'.get? b = some o) : Bu wr s { s with heap := h', toks := tk } := ⟨⟨tk, rfl⟩, k⟩
theorem Bu.trans {wr : Addr → Prop} {a b c : Shared} (x : Bu wr a b) (y : Bu wr b c) : Bu wr a c := by
  obtain ⟨⟨t, e⟩, k⟩ := x
  obtain ⟨⟨t', e'⟩, k'⟩ := y
  refine ⟨⟨t', ?_⟩, fun i o h g => k' i o h (k i o h g)⟩
  rw [e'] ; rw [e]
theorem Kp.bu {wr : Addr → Prop} {s s' : Shared} (k : Kp s s') : Bu wr s s' := ⟨k.same, fun b o _ e => k.le b o e⟩
/-- an iterator's run: wr its own objects, G what it reads, R its states -/
structure Src (C : Cx) (it : Addr) (tg : Expr) (wr : Addr → Prop) (G : PH) (R : Nat → Heap → Prop) (xs : List V) : Prop where
  frame : ∀ i h h', R i h → (∀ b o, wr b → h.get? b = some o → h'.get? b = some o) → R i h'
  live : ∀ i h b, R i h → wr b → ∃ o, h.get? b = some o
  item : ∀ (A : Around) (i : Nat) (s : Shared) (v : V) (Q : Value → Shared → Prop) (E : Value → Shared → Prop), A.handled = none → xs[i]? = some v → R i s.heap → (∀ a o, G a o → s.heap.get? a = some o) →
    (∀ rv s', Bu wr s s' → R (i + 1) s'.heap → VRel (fun a o => s'.heap.get? a = some o ∧ (G a o ∨ (s.heap.get? a = none ∧ ¬ wr a))) v rv → Q rv s') →
    wpAny C.M A (pyNext (.ref it)) (fun r s' => ∃ rv, r = some rv ∧ wpAny C.M A (letOwnedTupleGo tg (.ref it) rv) (fun _ s'' => Q rv s'') E s') E s
  done : ∀ (A : Around) (s : Shared) (Q : Shared → Prop) (E : Value → Shared → Prop), A.handled = none → R xs.length s.heap → (∀ a o, G a o → s.heap.get? a = some o) → (∀ s', Bu wr s s' → Q s') →
    wpAny C.M A (pyNext (.ref it)) (fun r s' => r = none ∧ Q s') E s
  self : ∀ (A : Around) (i : Nat) (s : Shared) (Q : Value → Shared → Prop) (E : Value → Shared → Prop), A.handled = none → R i s.heap → Q (.ref it) s → wpAny C.M A (pyIter (.ref it)) Q E s
/-- an iterable: what it gives, one after another -/
noncomputable def It (C : Cx) (k : Nat) (N : List Str) (K : Env → Prop) (e : Expr) (tg : Expr) (f : Sg → Option (List V)) : Prop :=
  ∀ (A : Around) (env : Env) (s : Shared) (σ : Sg) (xs : List V) (X : Addr → Prop) (E : Value → Shared → Prop) (Q : Value → Shared → Prop), Rm k A → EnvOk env → K env → C.Ok s.heap → InH X s.heap → View X N σ env s.heap → f σ = some xs →
    (∀ it wr R s', Kp s s' → (∀ b, wr b → s.heap.get? b = none) → R 0 s'.heap → Src C it tg wr (fun a o => rd X s'.heap a o ∧ ¬ wr a) R xs → Q (.ref it) s') →
    wpAny C.M A (eval e env) (fun x s₁ => wpAny C.M A (pyIter x) Q E s₁) E s
noncomputable def chrs (x : Str) : List V := x.cps.toList.map fun c => .str ⟨#[c]⟩
noncomputable def upTo (a : Int) (n : Nat) : List V := (List.range n).map fun i => .int (a + (i : Nat))
noncomputable def iterD : V → Option (List V)
  | .lst xs => some xs
  | .tup xs => some xs
  | .str x => some (chrs x)
  | .rng a b c => if c = 1 ∧ smallI a = true ∧ smallI b = true then some (upTo a (b - a).toNat) else none
  | _ => none
section
variable {C : Cx} {k : Nat} {N : List Str} {K : Env → Prop}
theorem isList_of {h : Heap} {a : Addr} {its : Array Value} {n : Nat} (e : h.get? a = some (lstObj its n)) : h.IsList a its := ⟨_, e, rfl, n, rfl⟩
theorem isTuple_of {h : Heap} {a : Addr} {its : Array Value} {n : Nat} (e : h.get? a = some (tupObj its n)) : h.IsTuple a its := ⟨_, e, rfl, n, rfl⟩
theorem letGo_list {tg : Expr} {A : Around} {E : Value → Shared → Prop} {s : Shared} {I l : Addr} {i : Nat} {rv : Value} {Q : Unit → Shared → Prop} (ht : (∃ x p, tg = .Name x p) ∨ (∃ es q p a, tg = .Tuple es q p ∧ rv = .ref a)) (hit : s.heap.IsListIter I l i) (hQ : Q () s) :
    wpAny C.M A (letOwnedTupleGo tg (.ref I) rv) Q E s := by
  rcases ht with ⟨x, p, rfl⟩ | ⟨es, q, p, a, rfl, rfl⟩
  · exact wpAny_of_eq (a := ()) rfl hQ
  · exact wpAny_letOwnedTupleGo_listiter hit hQ
/-- a list's run -/
theorem Src.list {tg : Expr} {I ax : Addr} {its : Array Value} {n : Nat} {G : PH} {xs : List V} (hw : ∀ a o, G a o → a ≠ I) (hg : G ax (lstObj its n)) (hr : VRels G xs its.toList)
    (ht : (∃ x p, tg = .Name x p) ∨ (∃ es q p, tg = .Tuple es q p ∧ ∀ v ∈ xs, ∃ l, v = .tup l)) : Src C I tg (· = I) G (fun i h => h.IsListIter I ax i) xs where
  frame := fun i h h' st hk => st.at fun o e => hk I o rfl e
  live := fun i h b st e => by subst e; obtain ⟨o, ho, _⟩ := st; exact ⟨o, ho⟩
  item := fun A i s v Q E hh hv st hG hQ => by
    obtain ⟨rv, hrv, r⟩ := hr.get hv
    refine wpAny_pyNext_list_item st (isList_of (hG _ _ hg)) (x := rv) (by simpa using hrv) fun h' hit' hs' => ⟨rv, rfl, ?_⟩
    refine letGo_list ?_ hit' (hQ rv _ (Bu.mk' (tk := s.toks) fun b o hb e => hs'.extBut b o hb e) hit' (r.le fun a o p => ⟨hs'.extBut a o (hw a o p) (hG a o p), .inl p⟩))
    rcases ht with h | ⟨es, q, p, e, h⟩
    · exact .inl h
    · obtain ⟨l, rfl⟩ := h v (List.mem_of_getElem? hv)
      obtain ⟨a, _, _, rfl, _⟩ := r.tup'
      exact .inr ⟨es, q, p, a, e, rfl⟩
  done := fun A s Q E hh st hG hQ => wpAny_pyNext_list_end hh st (isList_of (hG _ _ hg)) (by have := hr.length; simp at this; simp [this]) fun h' he' => ⟨rfl, hQ _ (Bu.mk' (tk := s.toks) fun b o hb e => he' b o hb e)⟩
  self := fun A i s Q E hh st hQ => wpAny_pyIter_listiter st hQ
theorem Src.tuple {x : Str} {p : Pos} {I ax : Addr} {its : Array Value} {n : Nat} {G : PH} {xs : List V} (hw : ∀ a o, G a o → a ≠ I) (hg : G ax (tupObj its n)) (hr : VRels G xs its.toList) :
    Src C I (.Name x p) (· = I) G (fun i h => h.IsTupleIter I ax i) xs where
  frame := fun i h h' st hk => st.at fun o e => hk I o rfl e
  live := fun i h b st e => by subst e; obtain ⟨o, ho, _⟩ := st; exact ⟨o, ho⟩
  item := fun A i s v Q E hh hv st hG hQ => by
    obtain ⟨rv, hrv, r⟩ := hr.get hv
    refine wpAny_pyNext_tuple_item st (isTuple_of (hG _ _ hg)) (x := rv) (by simpa using hrv) fun h' hit' hs' => ⟨rv, rfl, wpAny_of_eq (a := ()) rfl ?_⟩
    exact hQ rv _ (Bu.mk' (tk := s.toks) fun b o hb e => hs'.extBut b o hb e) hit' (r.le fun a o p => ⟨hs'.extBut a o (hw a o p) (hG a o p), .inl p⟩)
  done := fun A s Q E hh st hG hQ => wpAny_pyNext_tuple_end hh st (isTuple_of (hG _ _ hg)) (by have := hr.length; simp at this; simp [this]) fun h' he' => ⟨rfl, hQ _ (Bu.mk' (tk := s.toks) fun b o hb e => he' b o hb e)⟩
  self := fun A i s Q E hh st hQ => wpAny_pyIter_tupleiter st hQ
/-- a run that reads nothing but its iterator -/
theorem Src.walks {x : Str} {p : Pos} {I : Addr} {n : Nat} {P : Nat → Value → Prop} {R : Nat → Heap → Prop} {G : PH} {xs : List V} (W : ∀ A : Around, A.handled = none → Walks C.prog C.w A I [I] [I] n P R) (hn : xs.length = n) (hl : ∀ i h, R i h → ∃ o, h.get? I = some o)
    (hP : ∀ i v rv P', xs[i]? = some v → P i rv → VRel P' v rv) : Src C I (.Name x p) (· = I) G R xs where
  frame := fun i h h' st hk => (W {} rfl).frame i h h' st fun b hb o e => hk b o (by simpa using hb) e
  live := fun i h b st e => by subst e; exact hl i h st
  item := fun A i s v Q E hh hv st hG hQ => by
    refine (W A hh).item i s _ E (by rw [← hn]; exact (List.getElem?_eq_some_iff.mp hv).1) st fun rv h' tk pv st' hk => ⟨rv, rfl, wpAny_of_eq (a := ()) rfl ?_⟩
    exact hQ rv _ (Bu.mk' (tk := tk) fun b o hb e => hk b o (by simpa using hb) e) st' (hP i v rv _ hv pv)
  done := fun A s Q E hh st hG hQ => (W A hh).done s _ E (hn ▸ st) fun h' tk hk => ⟨rfl, hQ _ (Bu.mk' (tk := tk) fun b o hb e => hk b o (by simpa using hb) e)⟩
  self := fun A i s Q E hh st hQ => (W A hh).self i s Q E st hQ
/-- enumerate's run over a list -/
theorem Src.enum {es : List Expr} {q : Nat} {p : Pos} {e it ax : Addr} {its : Array Value} {n : Nat} {G : PH} {xs : List V} (hw : ∀ a o, G a o → a ≠ e ∧ a ≠ it) (hei : e ≠ it) (hg : G ax (lstObj its n)) (hr : VRels G xs its.toList) :
    Src C e (.Tuple es q p) (fun a => a = e ∨ a = it) G (fun i h => (∃ old, IsEnum h e it i old) ∧ h.IsListIter it ax i) (xs.zipIdx.map fun x => .tup [.int (x.2 : Nat), x.1]) where
  frame := fun i h h' st hk => ⟨let ⟨old, he⟩ := st.1; ⟨old, hk e _ (.inl rfl) he⟩, st.2.at fun o x => hk it o (.inr rfl) x⟩
  live := fun i h b st hb => by
    obtain ⟨⟨old, he⟩, o, ho, _⟩ := st
    rcases hb with rfl | rfl
    · exact ⟨_, he⟩
    · exact ⟨_, ho⟩
  item := fun A i s v Q E hh hv st hG hQ => by
    obtain ⟨⟨old, he⟩, hit⟩ := st
    rw [List.getElem?_map] at hv
    obtain ⟨⟨u, j⟩, hu, rfl⟩ := Option.map_eq_some_iff.mp hv
    rw [List.getElem?_zipIdx] at hu
    obtain ⟨u', hu2, e'⟩ := Option.map_eq_some_iff.mp hu
    cases e'
    obtain ⟨rv, hrv, r⟩ := hr.get hu2
    refine wpAny_pyNext_enum_item he hit (isList_of (hG _ _ hg)) (x := rv) (by simpa using hrv) hei fun h' ho hit' hT hsz hk => ⟨_, rfl, ?_⟩
    have helt : e < s.heap.objs.size := Heap.lt_size he
    have hilt : it < s.heap.objs.size := by obtain ⟨_, x, _⟩ := hit; exact Heap.lt_size x
    refine wpAny_letOwnedTupleGo_enum ho fun h'' he' hs' => ?_
    have up : ∀ b o, ¬ (b = e ∨ b = it) → h'.get? b = some o → h''.get? b = some o := fun b o hb x => (hs'.2 b fun e' => hb (.inl e')).trans x
    have hnew : ¬ (s.heap.objs.size = e ∨ s.heap.objs.size = it) := fun x => x.elim (Nat.ne_of_gt helt) (Nat.ne_of_gt hilt)
    refine hQ _ { s with heap := h'', toks := s.toks + 1 } (Bu.mk' fun b o hb x => up b o hb (hk b o (fun e' => hb (.inl e')) (fun e' => hb (.inr e')) x)) ⟨⟨rv, by simpa using he'⟩, hit'.at fun o y => (hs'.2 it hei.symm).trans y⟩ ?_
    unfold VRel
    refine ⟨s.heap.objs.size, #[.int i s.toks, rv], 0, rfl, ⟨up _ _ hnew hT, .inr ⟨none_of_ge (Nat.le_refl _), hnew⟩⟩, ?_⟩
    refine VRels.cons (by simpa using pInt) (VRels.one (r.le fun a o p => ⟨?_, .inl p⟩))
    have ha := hw a o p
    exact up a o (fun x => x.elim ha.1 ha.2) (hk a o ha.1 ha.2 (hG a o p))
  done := fun A s Q E hh st hG hQ => by
    obtain ⟨⟨old, he⟩, hit⟩ := st
    refine wpAny_pyNext_enum_end hh he hit (isList_of (hG _ _ hg)) (Array.getElem?_eq_none ?_) fun h' hx => ⟨rfl, hQ _ (Bu.mk' (tk := s.toks) fun b o hb y => hx b o (fun e' => hb (.inr e')) y)⟩
    have := hr.length; simp at this ⊢; omega
  self := fun A i s Q E hh st hQ => let ⟨⟨old, he⟩, _⟩ := st; wpAny_pyIter_enum he hQ
/-- zip's run over two lists -/
theorem Src.zip {es : List Expr} {q : Nat} {p : Pos} {z TI TO i1 i2 l1 l2 : Addr} {xs ys : List V} {its its' : Array Value} {n n' : Nat} {G : PH} (D : ZipApart z TI TO i1 i2 l1 l2) (hw : ∀ a o, G a o → a ≠ z ∧ a ≠ TI ∧ a ≠ TO ∧ a ≠ i1 ∧ a ≠ i2)
    (hg : G l1 (lstObj its n)) (hr : VRels G xs its.toList) (hg' : G l2 (lstObj its' n')) (hr' : VRels G ys its'.toList) :
    Src C z (.Tuple es q p) (fun a => a = z ∨ a = TI ∨ a = TO ∨ a = i1 ∨ a = i2) G
      (fun i h => IsZip h z TI TO .none ∧ IsPair h TI (.ref i1) (.ref i2) ∧ (∃ a b, IsPair h TO a b) ∧ h.IsListIter i1 l1 i ∧ h.IsListIter i2 l2 i) ((xs.zip ys).map fun x => .tup [x.1, x.2]) where
  frame := fun i h h' st hk => by
    obtain ⟨hz, hTI, ⟨a, b, hTO⟩, h1, h2⟩ := st
    exact ⟨hk z _ (by simp) hz, hk TI _ (by simp) hTI, ⟨a, b, hk TO _ (by simp) hTO⟩, h1.at fun o e => hk i1 o (by simp) e, h2.at fun o e => hk i2 o (by simp) e⟩
  live := fun i h b st hb => by
    obtain ⟨hz, hTI, ⟨_, _, hTO⟩, ⟨_, h1, _⟩, ⟨_, h2, _⟩⟩ := st
    rcases hb with rfl | rfl | rfl | rfl | rfl
    · exact ⟨_, hz⟩
    · exact ⟨_, hTI⟩
    · exact ⟨_, hTO⟩
    · exact ⟨_, h1⟩
    · exact ⟨_, h2⟩
  item := fun A i s v Q E hh hv st hG hQ => by
    obtain ⟨hz, hTI, ⟨a, b, hTO⟩, h1, h2⟩ := st
    rw [List.getElem?_map] at hv
    obtain ⟨⟨u, u'⟩, hu, rfl⟩ := Option.map_eq_some_iff.mp hv
    rw [List.getElem?_zip_eq_some] at hu
    obtain ⟨rv, hrv, r⟩ := hr.get hu.1
    obtain ⟨rv', hrv', r'⟩ := hr'.get hu.2
    refine wpAny_pyNext_zip_item D hz hTI hTO h1 h2 (isList_of (hG _ _ hg)) (isList_of (hG _ _ hg')) (x := rv) (y := rv') (by simpa using hrv) (by simpa using hrv') fun h' a1 a2 a3 a4 a5 a6 hk => ⟨_, rfl, ?_⟩
    refine wpAny_letOwnedTupleGo_zip a1 fun h'' hz' hs' => ?_
    have lt : ∀ {c o}, s.heap.get? c = some o → s.heap.objs.size ≠ c := fun e => Nat.ne_of_gt (Heap.lt_size e)
    have hnew : ¬ (s.heap.objs.size = z ∨ s.heap.objs.size = TI ∨ s.heap.objs.size = TO ∨ s.heap.objs.size = i1 ∨ s.heap.objs.size = i2) := fun x => by
      obtain ⟨_, e1, _⟩ := h1
      obtain ⟨_, e2, _⟩ := h2
      rcases x with x | x | x | x | x
      · exact lt hz x
      · exact lt hTI x
      · exact lt hTO x
      · exact lt e1 x
      · exact lt e2 x
    have up : ∀ b o, b ≠ z → h'.get? b = some o → h''.get? b = some o := fun b o hb x => hs'.extBut b o hb x
    refine hQ _ { s with heap := h'' } ⟨⟨s.toks, rfl⟩, fun b o hb x => up b o (fun e => hb (by simp [e])) (hk b o (fun e => hb (by simp [e])) (fun e => hb (by simp [e])) (fun e => hb (by simp [e])) (fun e => hb (by simp [e])) x)⟩
      ⟨hz', up _ _ D.TIz (hk _ _ D.TIz D.TITO D.TIi1 D.TIi2 hTI), ⟨_, _, up _ _ D.TOz a2⟩, a3.at fun o e => up _ o D.i1z e, a4.at fun o e => up _ o D.i2z e⟩ ?_
    have rds : ∀ a o, G a o → h''.get? a = some o := fun a o p => by
      obtain ⟨w1, w2, w3, w4, w5⟩ := hw a o p
      exact up a o w1 (hk a o w1 w3 w4 w5 (hG a o p))
    unfold VRel
    refine ⟨s.heap.objs.size, #[rv, rv'], 0, rfl, ⟨up _ _ (fun e => hnew (.inl e)) a5, .inr ⟨none_of_ge (Nat.le_refl _), hnew⟩⟩, ?_⟩
    exact VRels.cons (r.le fun a o p => ⟨rds a o p, .inl p⟩) (VRels.one (r'.le fun a o p => ⟨rds a o p, .inl p⟩))
  done := fun A s Q E hh st hG hQ => by
    obtain ⟨hz, hTI, ⟨a, b, hTO⟩, h1, h2⟩ := st
    have e1 := hr.length
    have e2 := hr'.length
    simp at e1 e2
    have hend : its[((xs.zip ys).map fun x => V.tup [x.1, x.2]).length]? = none ∨ its'[((xs.zip ys).map fun x => V.tup [x.1, x.2]).length]? = none := by
      rw [List.length_map, List.length_zip]
      rcases Nat.le_total xs.length ys.length with h | h
      · exact .inl (Array.getElem?_eq_none (by omega))
      · exact .inr (Array.getElem?_eq_none (by omega))
    exact wpAny_pyNext_zip_end hh D hz hTI hTO h1 h2 (isList_of (hG _ _ hg)) (isList_of (hG _ _ hg')) hend fun h' hk => ⟨rfl, hQ _ (Bu.mk' (tk := s.toks) fun c o hc e =>
      hk c o (fun x => hc (by simp [x])) (fun x => hc (by simp [x])) (fun x => hc (by simp [x])) (fun x => hc (by simp [x])) e)⟩
  self := fun A i s Q E hh st hQ => wpAny_pyIter_zip st.1 hQ
end
end Mine
set_option Elab.async false
set_option linter.unusedVariables false
set_option maxRecDepth 100000
namespace Mine
open PySem PySem.W PyProof.Rows
section
variable {C : Cx} {k : Nat} {N : List Str} {K : Env → Prop}
theorem small_range {a b : Int} (ha : smallI a = true) (hb : smallI b = true) : Builtin.Range.small a b 1 = true ∧ Builtin.Range.rangeSize a b 1 = ((b - a).toNat : Int) := by
  unfold smallI at ha hb
  simp only [Bool.and_eq_true, decide_eq_true_eq] at ha hb
  have hs : Builtin.Range.rangeSize a b 1 = ((b - a).toNat : Int) := by
    unfold Builtin.Range.rangeSize
    simp
    split <;> omega
  refine ⟨?_, hs⟩
  unfold Builtin.Range.small
  rw [hs]
  unfold Builtin.Range.rangeFitsLong
  simp
  refine ⟨⟨⟨?_, ?_⟩, ?_⟩, ?_⟩ <;> omega
theorem It_Val {e : Expr} {x : Str} {p : Pos} {f : Sg → Option V} (h : ExB C k N K e f) : It C k N K e (.Name x p) (fun σ => (f σ).bind iterD) := fun A env s σ xs X E Q R o ke c i w q hQ => by
  obtain ⟨v, hv, q⟩ := Option.bind_eq_some_iff.mp q
  refine wpAny_mono (h A env s σ v X E R o ke c i w hv) (fun rv s₁ p => ?_) fun _ _ x => x
  obtain ⟨p, r⟩ := p
  have fresh : ∀ b, b = s₁.heap.objs.size → s.heap.get? b = none := fun b e => by
    cases e' : s.heap.get? b with
    | none => rfl
    | some ob => exact absurd (Heap.lt_size (p.le b ob e')) (by rw [e]; exact Nat.lt_irrefl _)
  have old : ∀ (ob : Obj) a o, rd X s₁.heap a o → rd X (s₁.heap.push ob) a o ∧ ¬ a = s₁.heap.objs.size := fun ob a o q => ⟨⟨Heap.get?_push_of_some _ q.1, q.2⟩, Nat.ne_of_lt (Heap.lt_size q.1)⟩
  unfold iterD at q
  split at q
  · cases q
    obtain ⟨a, its, n, rfl, g, r⟩ := r.lst'
    refine wpAny_pyIter_list (isList_of g.1) ?_
    refine hQ _ (· = s₁.heap.objs.size) _ { s₁ with heap := s₁.heap.push _ } (p.trans (Kp.push s₁ _)) fresh ?_ (Src.list (fun _ _ g => g.2) (old _ _ _ g) (r.le fun a o q => old _ a o q) (.inl ⟨x, _, rfl⟩))
    exact ⟨_, Heap.get?_push_size _ rfl, rfl, rfl⟩
  · cases q
    obtain ⟨a, its, n, rfl, g, r⟩ := r.tup'
    refine wpAny_pyIter_tuple (isTuple_of g.1) ?_
    refine hQ _ (· = s₁.heap.objs.size) _ { s₁ with heap := s₁.heap.push _ } (p.trans (Kp.push s₁ _)) fresh ?_ (Src.tuple (fun _ _ g => g.2) (old _ _ _ g) (r.le fun a o q => old _ a o q))
    exact ⟨_, Heap.get?_push_size _ rfl, rfl, rfl⟩
  · cases q
    obtain ⟨t, rfl⟩ := r.str'
    rename_i y
    have fin : ∀ (ob : Obj) (St : Nat → Heap → Prop), (∀ A' : Around, A'.handled = none → Walks C.prog C.w A' s₁.heap.objs.size [s₁.heap.objs.size] [s₁.heap.objs.size] y.cps.size (SignAt y) St) → (∀ j h, St j h → ∃ o, h.get? s₁.heap.objs.size = some o) → St 0 (s₁.heap.push ob) →
        Q (.ref s₁.heap.objs.size) { s₁ with heap := s₁.heap.push ob } := fun ob St W hl h0 => by
      refine hQ _ (· = s₁.heap.objs.size) St { s₁ with heap := s₁.heap.push ob } (p.trans (Kp.push s₁ _)) fresh h0 (Src.walks (n := y.cps.size) (P := SignAt y) W ?_ hl ?_)
      · simp [chrs]
      · intro j v rv P' hv pv
        obtain ⟨cc, u, hc, rfl⟩ := pv
        unfold chrs at hv
        rw [List.getElem?_map] at hv
        have : y.cps.toList[j]? = some cc := by simpa using hc
        rw [this] at hv
        cases hv
        exact pStr
    cases ha : y.cps.all (· < 128)
    · exact wpAny_pyIter_wide ha (fin _ _ (fun A' hA => Walks.strWide hA _ y t) (fun j h st => let ⟨o, ho, _⟩ := st; ⟨o, ho⟩) ⟨_, Heap.get?_push_size _ rfl, rfl, rfl⟩)
    · exact wpAny_pyIter_ascii ha (fin _ _ (fun A' hA => Walks.strAscii hA _ y t) (fun j h st => let ⟨o, ho, _⟩ := st; ⟨o, ho⟩) ⟨_, Heap.get?_push_size _ rfl, rfl, rfl⟩)
  · split at q
    · rename_i a b cc hs
      cases q
      obtain ⟨rfl, ha, hb⟩ := hs
      unfold VRel at r
      obtain ⟨ad, ta, tb, tc, rfl, g⟩ := r
      obtain ⟨z1, z2⟩ := small_range ha hb
      refine wpAny_pyIter_range (r := ad) (a := a) (b := b) (c := 1) (t := ta) (u := tb) (v := tc) g.1 z1 ?_
      rw [z2]
      refine hQ _ (· = s₁.heap.objs.size) _ { s₁ with heap := s₁.heap.push _ } (p.trans (Kp.push s₁ _)) fresh ?_ (Src.walks (n := (b - a).toNat) (fun A' hA => Walks.range hA s₁.heap.objs.size a 1 (b - a).toNat) ?_ ?_ ?_)
      · have := Heap.get?_push_size s₁.heap (o := { cls := .type "range_iterator", data := .fields #[rawInt a, rawInt (((b - a).toNat : Nat) : Int), rawInt 1] }) rfl
        simpa [IsRangeIter] using this
      · simp [upTo]
      · intro j h st; exact ⟨_, st⟩
      · intro j v rv P' hv pv
        obtain ⟨t, rfl⟩ := pv
        unfold upTo at hv
        rw [List.getElem?_map] at hv
        obtain ⟨j', hj, rfl⟩ := Option.map_eq_some_iff.mp hv
        have : j' = j := by
          have := List.getElem?_eq_some_iff.mp hj
          obtain ⟨_, e⟩ := this
          simpa using e.symm
        subst this
        rw [Int.mul_one]
        exact pInt
    · cases q
  · cases q
noncomputable def enumD : List V → Option (List V)
  | [.lst xs] => some (xs.zipIdx.map fun x => .tup [.int (x.2 : Nat), x.1])
  | _ => none
theorem It_Enum {x : Str} {q p pos : Pos} {m : Nat} {es ts : List Expr} {g : Sg → Option (List V)} {fx : Sg → Option V} (hx : ExB C k N K (.Name x p) fx) (hfx : ∀ σ, fx σ = some (.raw (.type "enumerate"))) (ha : ExAs C k N K es g)
    (hes : ∀ env, (backTo pos (starEach es env)).any (·.1) = false := by intro _; rfl) : It C k N K (.Call (.Name x p) es [] pos) (.Tuple ts m q) (fun σ => (g σ).bind enumD) := fun A env s σ xs X E Q R o ke c i w q hQ => by
  obtain ⟨vs, hvs, q⟩ := Option.bind_eq_some_iff.mp q
  refine wpAny_Call_Name_kw (wpAny_mono (hx A env s σ _ X E R o ke c i w (hfx σ)) (fun rf s₁ p => ?_) fun _ _ x => x)
  have p1 := p.1
  rw [p.2.raw']
  refine PyProof.Rows.callWith_type (hes env) (args_eval ha Kw_nil R o ke (c.le p1.le) (i.le p1.le) (w.le p1.le) hvs rfl (hes env) fun rvs rks s₂ p₂ r₁ r₂ => ?_)
  unfold VRels at r₂
  simp only [List.map_nil] at r₂
  subst r₂
  unfold enumD at q
  split at q
  rotate_left
  · cases q
  cases q
  obtain ⟨rv, rfl, r⟩ := r₁.one'
  obtain ⟨a, its, n, rfl, gg, r⟩ := r.lst'
  refine call_enumerate_list (isList_of gg.1) fun h' he hit hsz hk => wpAny_pyIter_enum he ?_
  have p3 := p1.trans p₂
  have lo : ∀ b ob, s.heap.get? b = some ob → b < s₂.heap.objs.size := fun b ob e => Heap.lt_size (p3.le b ob e)
  have off : ∀ a o, rd X s₂.heap a o → rd X h' a o ∧ ¬ (a = s₂.heap.objs.size + 1 ∨ a = s₂.heap.objs.size) := fun a o g => ⟨⟨hk a o g.1, g.2⟩, fun e => by
    have := Heap.lt_size g.1
    rcases e with e | e
    · exact absurd (e ▸ this : s₂.heap.objs.size + 1 < s₂.heap.objs.size) (by omega)
    · exact absurd (e ▸ this : s₂.heap.objs.size < s₂.heap.objs.size) (by omega)⟩
  refine hQ _ (fun a => a = s₂.heap.objs.size + 1 ∨ a = s₂.heap.objs.size) _ { s₂ with heap := h' } (p3.trans ⟨⟨s₂.toks, rfl⟩, hk⟩) (fun b hb => ?_) ⟨⟨_, he⟩, hit⟩
    (Src.enum (fun a o g => ⟨fun e => g.2 (.inl e), fun e => g.2 (.inr e)⟩) (by show s₂.heap.objs.size + 1 ≠ s₂.heap.objs.size; omega) (off _ _ gg) (r.le off))
  cases e' : s.heap.get? b with
  | none => rfl
  | some ob =>
    have := lo b ob e'
    rcases hb with e | e
    · exact absurd (e ▸ this : s₂.heap.objs.size + 1 < s₂.heap.objs.size) (by omega)
    · exact absurd (e ▸ this : s₂.heap.objs.size < s₂.heap.objs.size) (by omega)
noncomputable def zipD : List V → Option (List V)
  | [.lst xs, .lst ys] => some ((xs.zip ys).map fun x => .tup [x.1, x.2])
  | _ => none
theorem It_Zip {x : Str} {q p pos : Pos} {m : Nat} {es ts : List Expr} {g : Sg → Option (List V)} {fx : Sg → Option V} (hx : ExB C k N K (.Name x p) fx) (hfx : ∀ σ, fx σ = some (.raw (.type "zip"))) (ha : ExAs C k N K es g)
    (hes : ∀ env, (backTo pos (starEach es env)).any (·.1) = false := by intro _; rfl) : It C k N K (.Call (.Name x p) es [] pos) (.Tuple ts m q) (fun σ => (g σ).bind zipD) := fun A env s σ xs X E Q R o ke c i w q hQ => by
  obtain ⟨vs, hvs, q⟩ := Option.bind_eq_some_iff.mp q
  refine wpAny_Call_Name_kw (wpAny_mono (hx A env s σ _ X E R o ke c i w (hfx σ)) (fun rf s₁ p => ?_) fun _ _ x => x)
  have p1 := p.1
  rw [p.2.raw']
  refine PyProof.Rows.callWith_type (hes env) (args_eval ha Kw_nil R o ke (c.le p1.le) (i.le p1.le) (w.le p1.le) hvs rfl (hes env) fun rvs rks s₂ p₂ r₁ r₂ => ?_)
  unfold VRels at r₂
  simp only [List.map_nil] at r₂
  subst r₂
  unfold zipD at q
  split at q
  rotate_left
  · cases q
  cases q
  obtain ⟨rv, rv', rfl, r, r'⟩ := r₁.two'
  obtain ⟨a, its, n, rfl, gg, r⟩ := r.lst'
  obtain ⟨a', its', n', rfl, gg', r'⟩ := r'.lst'
  refine call_zip_2 (isList_of gg.1) (isList_of gg'.1) fun h' hz hTI hTO h1 h2 hsz hk => wpAny_pyIter_zip hz ?_
  have p3 := p1.trans p₂
  have hlt : ∀ b, (b = s₂.heap.objs.size + 4 ∨ b = s₂.heap.objs.size + 2 ∨ b = s₂.heap.objs.size + 3 ∨ b = s₂.heap.objs.size ∨ b = s₂.heap.objs.size + 1) → ¬ b < s₂.heap.objs.size := fun b hb => by
    rcases hb with e | e | e | e | e <;> (rw [e]; omega)
  have off : ∀ a o, rd X s₂.heap a o → rd X h' a o ∧ ¬ (a = s₂.heap.objs.size + 4 ∨ a = s₂.heap.objs.size + 2 ∨ a = s₂.heap.objs.size + 3 ∨ a = s₂.heap.objs.size ∨ a = s₂.heap.objs.size + 1) := fun a o g => ⟨⟨hk a o g.1, g.2⟩, fun e => hlt a e (Heap.lt_size g.1)⟩
  have la : a < s₂.heap.objs.size := Heap.lt_size gg.1
  have la' : a' < s₂.heap.objs.size := Heap.lt_size gg'.1
  have ne : ∀ (i j : Nat), i ≠ j → s₂.heap.objs.size + i ≠ s₂.heap.objs.size + j := fun i j h e => h (by omega)
  have nl : ∀ (b : Addr) (j : Nat), b < s₂.heap.objs.size → b ≠ s₂.heap.objs.size + j := fun b j h e => absurd (e ▸ h : s₂.heap.objs.size + j < s₂.heap.objs.size) (by omega)
  have D : ZipApart (s₂.heap.objs.size + 4) (s₂.heap.objs.size + 2) (s₂.heap.objs.size + 3) s₂.heap.objs.size (s₂.heap.objs.size + 1) a a' :=
    ⟨ne 2 4 (by decide), ne 3 4 (by decide), ne 0 4 (by decide), ne 1 4 (by decide), ne 2 3 (by decide), ne 2 0 (by decide), ne 2 1 (by decide), ne 3 0 (by decide), ne 3 1 (by decide), ne 0 1 (by decide),
      nl a 4 la, nl a 3 la, nl a 0 la, nl a 1 la, nl a' 4 la', nl a' 3 la', nl a' 0 la', nl a' 1 la'⟩
  refine hQ _ _ _ { s₂ with heap := h' } (p3.trans ⟨⟨s₂.toks, rfl⟩, hk⟩) (fun b hb => ?_) ⟨hz, hTI, ⟨_, _, hTO⟩, h1, h2⟩ (Src.zip D (fun a o g => ?_) (off _ _ gg) (r.le off) (off _ _ gg') (r'.le off))
  · cases e' : s.heap.get? b with
    | none => rfl
    | some ob => exact absurd (Heap.lt_size (p3.le b ob e')) (hlt b hb)
  · have := g.2
    exact ⟨fun e => this (.inl e), fun e => this (.inr (.inl e)), fun e => this (.inr (.inr (.inl e))), fun e => this (.inr (.inr (.inr (.inl e)))), fun e => this (.inr (.inr (.inr (.inr e))))⟩
end
end Mine
set_option Elab.async false
set_option linter.unusedVariables false
set_option maxRecDepth 100000
namespace Mine
open PySem PySem.W PyProof.Rows
section
variable {C : Cx} {X : Addr → Prop} {N : List Str} {G : PH} {s₀ s s' : Shared} {env : Env} {σ : Sg} {m cm : Str → Option Value} {ow : Nat → List Addr}
theorem StW.guard {G' : PH} (w : StW C X N G s₀ env σ s m cm ow) (h : ∀ a o, G' a o → s.heap.get? a = some o ∧ ¬ Owned env ow a) (hT : ∀ a o, G' a o → a ∉ C.T) : StW C X N G' s₀ env σ s m cm ow := { w with prot := h, gT := hT }
theorem St.weak {G' : PH} (w : St C X N G s₀ env σ s) (h : ∀ a o, G' a o → G a o) : St C X N G' s₀ env σ s := let ⟨m, cm, ow, w⟩ := w; ⟨m, cm, ow, w.guard (fun a o p => w.prot a o (h a o p)) fun a o p => w.gT a o (h a o p)⟩
/-- what is read stays barred -/
theorem StW.addX {wr : Addr → Prop} (w : StW C X N G s₀ env σ s m cm ow) (k : Kp s s') (hf : ∀ b, wr b → s.heap.get? b = none) (hl : ∀ b, wr b → ∃ o, s'.heap.get? b = some o) : StW C (fun a => X a ∨ wr a) N G s₀ env σ s' m cm ow :=
  let w' := w.kp k
  { w' with
    slot := fun i x sl hx hs => (w.slot i x sl hx hs).mono (fun a o p => ⟨k.le a o p.1, fun q => by
      rcases q with (q | q) | q
      · exact p.2 (.inl q)
      · have := p.1; rw [hf a q] at this; cases this
      · exact p.2 (.inr q)⟩) fun b _ o e => k.le b o e
    tabs := fun a ha => let ⟨o, e, q⟩ := w.tabs a ha; ⟨o, k.le a o e, q.1, C.tkm _ _ _ (fun a o _ _ p => ⟨k.le a o p.1, fun q => by
      rcases q with ((q | q) | q) | q
      · exact p.2 (.inl (.inl q))
      · have := p.1; rw [hf a q] at this; cases this
      · exact p.2 (.inl (.inr q))
      · exact p.2 (.inr q)⟩) q.2⟩
    inX := fun a h => h.elim (w'.inX a) (hl a)
    ownX := fun i a ha q => q.elim (w.ownX i a ha) fun q => by
      obtain ⟨_, _, its, n, e⟩ := w.newO i a ha
      rw [hf a q] at e; cases e }
/-- the frame when only wr has turned, which nothing of it reads -/
theorem StW.bu {wr Y : Addr → Prop} (w : StW C (fun a => X a ∨ wr a) N G s₀ env σ s m cm ow) (b : Bu wr s s') (hY : ∀ a, Y a → X a ∨ wr a) (hi : InH Y s'.heap) (h0 : ∀ a, wr a → s₀.heap.get? a = none ∧ a ∉ C.T ∧ ¬ Fra env a) (hG : ∀ a o, G a o → ¬ wr a) :
    StW C Y N G s₀ env σ s' m cm ow :=
  have nF : ∀ a, Fra env a → ¬ wr a := fun a h q => (h0 a q).2.2 h
  have nO : ∀ i a, a ∈ ow i → ¬ wr a := fun i a h q => w.ownX i a h (.inr q)
  { same := by
      obtain ⟨tk, e⟩ := w.same
      obtain ⟨tk', e'⟩ := b.same
      exact ⟨tk', by rw [e']; rw [e]⟩
    keep := fun a o ht e => b.keep a o (fun q => by rw [(h0 a q).1] at e; cases e) (w.keep a o ht e)
    tabs := fun a ha => let ⟨o, e, q⟩ := w.tabs a ha; ⟨o, b.keep a o (fun q => (h0 a q).2.1 ha) e, q.1, C.tkm _ _ _ (fun a o _ _ p => ⟨b.keep a o (fun z => p.2 (.inl (.inl (.inr z)))) p.1, fun z => p.2 (z.elim (fun z => .inl (z.elim (fun z => .inl (hY a z)) .inr)) .inr)⟩) q.2⟩
    ns := w.ns.at' fun o e => b.keep _ o (nF _ (.inl rfl)) e
    cell := fun n c h => let ⟨o, e, q⟩ := w.cell n c h; ⟨o, b.keep _ o (nF _ (.inr ⟨n, h⟩)) e, q⟩
    newF := fun a h => let ⟨p, o, e⟩ := w.newF a h; ⟨p, o, b.keep a o (nF a h) e⟩
    newO := fun i a h => let ⟨p, q, its, n, e⟩ := w.newO i a h; ⟨p, q, its, n, b.keep a _ (nO i a h) e⟩
    ownD := w.ownD
    ownN := w.ownN
    slot := fun i x sl hx hs => (w.slot i x sl hx hs).mono (fun a o p => ⟨b.keep a o (fun q => p.2 (.inl (.inr q))) p.1, fun q => p.2 (q.elim (fun q => .inl (hY a q)) .inr)⟩) fun a ha o e => b.keep a o (nO i a ha) e
    len := w.len
    prot := fun a o h => ⟨b.keep a o (hG a o h) (w.prot a o h).1, (w.prot a o h).2⟩
    inX := hi
    ownX := fun i a ha q => w.ownX i a ha (hY a q)
    gT := w.gT }
end
section
variable {C : Cx} {k : Nat} {N : List Str} {K : Env → Prop}
/-- a value that is guarded is bound to a name -/
theorem St.bindG {X : Addr → Prop} {G P : PH} {s₀ s : Shared} {env : Env} {σ : Sg} {i : Nat} {x : Str} {v : V} {rv : Value} {A : Around} {E : Value → Shared → Prop} {Q : Unit → Shared → Prop} (w : St C X N G s₀ env σ s) (fe : FnEnv N env) (o : EnvOk env) (c : C.Ok s₀.heap)
    (hx : N[i]? = some x) (r : VRel P v rv) (hP : ∀ a o, P a o → G a o ∧ ¬ X a) (h : ∀ s'', St C X N G s₀ env (σ.set i (.val v)) s'' → Q () s'') : wpAny C.M A (storeName env x rv) Q E s := by
  obtain ⟨m, cm, ow, w⟩ := w
  refine w.put (sl := .val v) (as := []) fe o c (Kp.refl s) hx ⟨rfl, rv, rfl, r.le fun a o p => ?_⟩ (fun a h => nomatch h) (fun a h => nomatch h) List.nodup_nil h
  obtain ⟨g, nx⟩ := hP a o p
  obtain ⟨e, no⟩ := w.prot a o g
  exact ⟨e, fun q => q.elim nx fun f => no (owned_drop f)⟩
noncomputable def wpSt (C : Cx) (A : Around) (env : Env) (E : Value → Shared → Prop) (Q : Shared → Prop) : List Str → List Value → Shared → Prop
  | [], [], s => Q s
  | x :: xs, v :: vs, s => wpAny C.M A (storeName env x v) (fun _ s' => wpSt C A env E Q xs vs s') E s
  | _, _, _ => False
/-- a target: its names, and what each gets -/
noncomputable def Tg (C : Cx) (tg : Expr) (xs : List Str) (sp : V → Option (List V)) : Prop :=
  ∀ (A : Around) (env : Env) (s : Shared) (v : V) (vs : List V) (rv : Value) (P : PH) (E : Value → Shared → Prop) (Q : Shared → Prop), A.handled = none → (∀ a o, P a o → s.heap.get? a = some o) → VRel P v rv → sp v = some vs →
    (∀ rvs s', Kp s s' → VRels P vs rvs → wpSt C A env E Q xs rvs s') → wpAny C.M A (assign tg env rv) (fun _ s' => Q s') E s
theorem Tg_Name {x : Str} {p : Pos} : Tg C (.Name x p) [x] (fun v => some [v]) := fun A env s v vs rv P E Q hh hP r q h => by
  cases q
  exact wpAny_assign_Name (h [rv] s (Kp.refl s) (VRels.one r))
noncomputable def spTwo : V → Option (List V)
  | .tup [a, b] => some [a, b]
  | _ => none
theorem Tg_Two {x y : Str} {n : Nat} {p q r : Pos} : Tg C (.Tuple [.Name x p, .Name y q] n r) [x, y] spTwo := fun A env s v vs rv P E Q hh hP r q h => by
  unfold spTwo at q
  split at q
  · cases q
    obtain ⟨t, its, n, rfl, g, r⟩ := r.tup'
    obtain ⟨a, b, e, ra, rb⟩ := r.two'
    have hz : its.size = 2 := by have := congrArg List.length e; simpa using this
    refine wpAny_assign_Tuple hh (isTuple_of (hP _ _ g)) (by rw [hz]; rfl) rfl fun h' hx => ?_
    rw [e]
    have kp : Kp s { s with heap := h' } := ⟨⟨s.toks, rfl⟩, fun b o e => hx b o (Nat.ne_of_lt (Heap.lt_size e)) e⟩
    refine wpAny_assignInOrder_more (wpAny_assign_Name ?_)
    refine wpAny_mono (h [a, b] _ kp (e ▸ r)) (fun _ s₁ h₁ => ?_) fun _ _ x => x
    refine wpAny_assignInOrder_more (wpAny_assign_Name (wpAny_mono h₁ (fun _ s₂ h₂ => ?_) fun _ _ x => x))
    exact wpAny_assignInOrder_none h₂
  · cases q
noncomputable def setAll : Sg → List Nat → List V → Sg
  | σ, i :: is, v :: vs => setAll (σ.set i (.val v)) is vs
  | σ, _, _ => σ
theorem St.binds {X : Addr → Prop} {G P : PH} {s₀ : Shared} {env : Env} {A : Around} {E : Value → Shared → Prop} {Q : Shared → Prop} (fe : FnEnv N env) (o : EnvOk env) (c : C.Ok s₀.heap) (hP : ∀ a o, P a o → G a o ∧ ¬ X a) :
    ∀ {is : List Nat} {xs : List Str} {vs : List V} {rvs : List Value} {s : Shared} {σ : Sg}, St C X N G s₀ env σ s → is.map (N[·]?) = xs.map some → VRels P vs rvs → vs.length = xs.length → (∀ s'', St C X N G s₀ env (setAll σ is vs) s'' → Q s'') → wpSt C A env E Q xs rvs s
  | [], [], [], rvs, s, σ, w, _, r, _, h => by unfold VRels at r; subst r; exact h s w
  | i :: is, x :: xs, v :: vs, rvs, s, σ, w, hx, r, hl, h => by
    unfold VRels at r
    obtain ⟨rv, rs, rfl, r₁, r₂⟩ := r
    simp only [List.map_cons, List.cons.injEq] at hx
    unfold wpSt
    refine w.bindG fe o c hx.1 r₁ hP fun s'' w'' => ?_
    exact St.binds fe o c hP w'' hx.2 r₂ (by simpa using hl) h
  | [], x :: xs, _, _, _, _, _, hx, _, _, _ => by simp at hx
  | i :: is, [], _, _, _, _, _, hx, _, _, _ => by simp at hx
  | [], [], v :: vs, _, _, _, _, _, _, hl, _ => by simp at hl
  | i :: is, x :: xs, [], _, _, _, _, _, _, hl, _ => by simp at hl
noncomputable def Slot.hide : Slot → Slot
  | .own _ => .unset
  | .own2 _ => .unset
  | s => s
noncomputable def Sg.hide (σ : Sg) : Sg := σ.map Slot.hide
theorem StW.viewH {X : Addr → Prop} {G : PH} {s₀ s : Shared} {env : Env} {σ : Sg} {m cm : Str → Option Value} {ow : Nat → List Addr} (w : StW C X N G s₀ env σ s m cm ow) (fe : FnEnv N env) : View (fun a => X a ∨ Owned env ow a) N σ.hide env s.heap := fun i x v hx hv => by
  unfold Sg.get Sg.hide at hv
  rw [List.getElem?_map] at hv
  obtain ⟨sl, hs, hv⟩ := Option.bind_eq_some_iff.mp hv
  obtain ⟨sl', hs', rfl⟩ := Option.map_eq_some_iff.mp hs
  have sr := w.slot i x sl' hx hs'
  cases sl' with
  | unset => cases hv
  | val u =>
    cases hv
    obtain ⟨_, r, e, q⟩ := sr
    exact ⟨r, w.rdN fe hx e, q⟩
  | own xs => cases hv
  | own2 xss => cases hv
theorem StW.inO {X : Addr → Prop} {G : PH} {s₀ s : Shared} {env : Env} {σ : Sg} {m cm : Str → Option Value} {ow : Nat → List Addr} (w : StW C X N G s₀ env σ s m cm ow) : InH (fun a => X a ∨ Owned env ow a) s.heap := fun a h => by
  rcases h with h | h | ⟨i, h⟩
  · exact w.inX a h
  · exact (w.newF a h).2
  · obtain ⟨_, _, its, n, e⟩ := w.newO i a h; exact ⟨_, e⟩
/-- the tables are read by nothing -/
theorem View.barT {C : Cx} {N : List Str} {X : Addr → Prop} {σ : Sg} {env : Env} {h : Heap} (V : View X N σ env h) (t : ∀ a, a ∈ C.T → ∃ o, h.get? a = some o ∧ o.cls = .none) : View (fun a => X a ∨ a ∈ C.T) N σ env h := fun i x v hx hv =>
  let ⟨rv, r, q⟩ := V i x v hx hv
  ⟨rv, r, q.monoC fun a o hc p => ⟨p.1, fun z => z.elim p.2 fun z => by obtain ⟨o', e, q'⟩ := t a z; rw [p.1] at e; cases e; exact hc q'⟩⟩
noncomputable def fFor (set : V → Sg → Option Sg) (F : Sg → Rs) : List V → Sg → Rs
  | [], σ => some (.next, σ)
  | v :: vs, σ => (set v σ).bind fun σ₁ => (F σ₁).bind fun r => match r.1 with
      | .next => fFor set F vs r.2
      | .cont => fFor set F vs r.2
      | .brk => some (.next, r.2)
      | .ret v => some (.ret v, r.2)
noncomputable def fSp (sp : V → Option (List V)) (n : Nat) (is : List Nat) : V → Sg → Option Sg := fun v σ => (sp v).bind fun vs => if vs.length = n then some (setAll σ is vs) else none
theorem S1_For {tg iter : Expr} {body : List Stmt} {pos : Pos} {f : Sg → Option (List V)} {xs : List Str} {sp : V → Option (List V)} {F : Sg → Rs} (is : List Nat) (hi : It C k N K iter tg f) (ht : Tg C tg xs sp) (hx : is.map (N[·]?) = xs.map some) (hb : Sx C k N K body F)
    (hs : ∀ env x, foldedSetIterable iter env x = pure x := by intro _ _; rfl) : S1 C k N K (.For tg iter body [] pos) (fun σ => (f σ.hide).bind fun vs => fFor (fSp sp xs.length is) F vs σ) := fun A env s₀ s σ σ' fl X G E R o fe ke c w q => by
  obtain ⟨vs, hvs, q⟩ := Option.bind_eq_some_iff.mp q
  obtain ⟨m, cm, ow, w⟩ := w
  refine wpAny_For (hi A env s σ.hide vs (fun a => (X a ∨ Owned env ow a) ∨ a ∈ C.T) E _ R o ke (w.ok c) (fun a h => h.elim (w.inO a) fun h => let ⟨o, e, _⟩ := w.tabs a h; ⟨o, e⟩) ((w.viewH fe).barT fun a ha => let ⟨o, e, q⟩ := w.tabs a ha; ⟨o, e, q.1⟩) hvs fun it wr R' s₁ k₁ fr r0 src => ?_) (hs env)
  have w₁ : StW C (fun a => X a ∨ wr a) N G s₀ env σ s₁ m cm ow := w.addX k₁ fr fun b hb => src.live 0 _ b r0 hb
  have no : ∀ a o, wr a → s.heap.get? a = some o → False := fun a o ha e => by rw [fr a ha] at e; cases e
  have h0 : ∀ a, wr a → s₀.heap.get? a = none ∧ a ∉ C.T ∧ ¬ Fra env a := fun a ha => by
    refine ⟨w.gone (fr a ha), fun q => ?_, fun q => ?_⟩
    · obtain ⟨o', e, _⟩ := w.tabs a q; exact no a o' ha e
    · obtain ⟨_, o', e⟩ := w.newF a q; exact no a o' ha e
  have xw : ∀ a, X a → ¬ wr a := fun a h q => by obtain ⟨o', e⟩ := w.inX a h; exact no a o' q e
  let G₁ : PH := fun a o => G a o ∨ (rd (fun a => (X a ∨ Owned env ow a) ∨ a ∈ C.T) s₁.heap a o ∧ ¬ wr a)
  have gw : ∀ a o, G₁ a o → ¬ wr a := fun a o h => h.elim (fun h q => no a o q (w.prot a o h).1) (·.2)
  have w₂ : StW C (fun a => X a ∨ wr a) N G₁ s₀ env σ s₁ m cm ow := w₁.guard (fun a o h => h.elim (w₁.prot a o) fun h => ⟨h.1.1, fun q => h.1.2 (.inl (.inr q))⟩) fun a o h => h.elim (w₁.gT a o) fun h q => h.1.2 (.inr q)
  refine codeAny_forLoop_any (fun n s => ∃ i σ₁, n = vs.length - i ∧ i ≤ vs.length ∧ R' i s.heap ∧ St C (fun a => X a ∨ wr a) N G₁ s₀ env σ₁ s ∧ fFor (fSp sp xs.length is) F (vs.drop i) σ₁ = some (fl, σ')) ?_ vs.length ⟨0, σ, rfl, Nat.zero_le _, r0, ⟨_, _, _, w₂⟩, q⟩
  clear w w₁ w₂ q
  rintro n s ⟨i, σ₁, rfl, hi, ri, w, q⟩
  have hG : ∀ a o, (rd (fun a => (X a ∨ Owned env ow a) ∨ a ∈ C.T) s₁.heap a o ∧ ¬ wr a) → s.heap.get? a = some o := fun a o h => by
    obtain ⟨_, _, _, w⟩ := w
    exact (w.prot a o (.inr h)).1
  -- at the end, or where the body leaves it, wr is let go
  have leave : ∀ σ₂ s', St C (fun a => X a ∨ wr a) N G₁ s₀ env σ₂ s' → St C X N G s₀ env σ₂ s' := fun σ₂ s' w => by
    obtain ⟨m, cm, ow', w⟩ := w
    exact St.weak ⟨m, cm, ow', w.bu (Kp.refl s').bu (fun a h => .inl h) (fun a h => w.inX a (.inl h)) h0 gw⟩ fun a o h => .inl h
  cases hv : vs[i]? with
  | none =>
    have e : i = vs.length := Nat.le_antisymm hi (by simpa using hv)
    subst e
    rw [List.drop_length] at q
    cases q
    refine wpAny_mono (src.done A s (fun s' => St C X N G s₀ env σ' s') _ R.handled ri hG fun s' b => ?_) (fun r s' h => ?_) fun _ _ x => x
    · obtain ⟨m, cm, ow', w⟩ := w
      refine St.weak ⟨m, cm, ow', w.bu b (fun a h => .inl h) (fun a h => ?_) h0 gw⟩ fun a o h => .inl h
      obtain ⟨o', e⟩ := w.inX a (.inl h)
      exact ⟨o', b.keep a o' (xw a h) e⟩
    · obtain ⟨rfl, w'⟩ := h
      exact wpAny_execs_nil ⟨w', rfl⟩
  | some v =>
    have hlt : i < vs.length := (List.getElem?_eq_some_iff.mp hv).1
    have hd : vs.drop i = v :: vs.drop (i + 1) := by
      rw [List.drop_eq_getElem_cons hlt, (List.getElem?_eq_some_iff.mp hv).2]
    rw [hd] at q
    unfold fFor at q
    obtain ⟨σ₂, hσ₂, q⟩ := Option.bind_eq_some_iff.mp q
    obtain ⟨⟨fl₁, σ₃⟩, hF, q⟩ := Option.bind_eq_some_iff.mp q
    unfold fSp at hσ₂
    obtain ⟨us, hus, hσ₂⟩ := Option.bind_eq_some_iff.mp hσ₂
    split at hσ₂
    rotate_left
    · cases hσ₂
    rename_i hlen
    cases hσ₂
    refine wpAny_mono (src.item A i s v (fun rv s' => ?_) _ R.handled hv ri hG fun rv s' b r' rv' => ?_) (fun r s' h => ?_) fun _ _ x => x
    · exact wpAny C.M A (assign tg env rv) (fun _ s₂ => wpAny C.M A (execs body env) (fun f s₃ => match f with
            | .next | .cont => ∃ m, m < vs.length - i ∧ ∃ i σ₁, m = vs.length - i ∧ i ≤ vs.length ∧ R' i s₃.heap ∧ St C (fun a => X a ∨ wr a) N G₁ s₀ env σ₁ s₃ ∧ fFor (fSp sp xs.length is) F (vs.drop i) σ₁ = some (fl, σ')
            | .brk => St C X N G s₀ env σ' s₃ ∧ FlRel (rdF X s₀.heap s₃.heap) fl .next
            | .ret v => St C X N G s₀ env σ' s₃ ∧ FlRel (rdF X s₀.heap s₃.heap) fl (.ret v)) (notedBy C.M A env fun e s' => cameBackBy C.M A env E e s') s₂) (notedBy C.M A env fun e s' => cameBackBy C.M A env E e s') s'
    · -- the frame behind the draw
      obtain ⟨m, cm, ow', w⟩ := w
      have wd : StW C (fun a => X a ∨ wr a) N G₁ s₀ env σ₁ s' m cm ow' := w.bu b (fun a h => h) (fun a h => h.elim (fun h => by
          obtain ⟨o', e⟩ := w.inX a (.inl h)
          exact ⟨o', b.keep a o' (xw a h) e⟩) fun h => src.live (i + 1) _ a r' h) h0 gw
      let P : PH := fun a o => s'.heap.get? a = some o ∧ ((rd (fun a => (X a ∨ Owned env ow a) ∨ a ∈ C.T) s₁.heap a o ∧ ¬ wr a) ∨ (s.heap.get? a = none ∧ ¬ wr a))
      let G₂ : PH := fun a o => G₁ a o ∨ P a o ∨ (wr a ∧ s'.heap.get? a = some o)
      have hP : ∀ a o, P a o → G₂ a o ∧ ¬ (X a ∨ wr a) := fun a o p => ⟨.inr (.inl p), fun q => by
        rcases p.2 with ⟨p1, p2⟩ | ⟨p1, p2⟩
        · exact q.elim (fun q => p1.2 (.inl (.inl q))) p2
        · refine q.elim (fun q => ?_) p2
          obtain ⟨o', e⟩ := w.inX a (.inl q)
          rw [p1] at e; cases e⟩
      have w₂ : StW C (fun a => X a ∨ wr a) N G₂ s₀ env σ₁ s' m cm ow' := wd.guard (fun a o h => by
        rcases h with h | h | h
        · exact wd.prot a o h
        · refine ⟨h.1, fun q => ?_⟩
          rcases h.2 with h | h
          · exact (wd.prot a o (.inr h)).2 q
          · rcases q with q | ⟨j, q⟩
            · obtain ⟨_, o', e⟩ := w.newF a q; rw [h.1] at e; cases e
            · obtain ⟨_, _, its, n, e⟩ := w.newO j a q; rw [h.1] at e; cases e
        · refine ⟨h.2, fun q => ?_⟩
          rcases q with q | ⟨j, q⟩
          · exact (h0 a h.1).2.2 q
          · exact wd.ownX j a q (.inr h.1)) fun a o h => by
        rcases h with h | h | h
        · exact wd.gT a o h
        · rcases h.2 with h | h
          · exact fun q => h.1.2 (.inr q)
          · intro q
            obtain ⟨o', e, _⟩ := w.tabs a q
            rw [h.1] at e; cases e
        · exact (h0 a h.1).2.1
      refine ht A env s' v us rv P _ _ R.handled (fun a o p => p.1) rv' hus fun rvs s₄ k₄ rs => ?_
      refine St.binds fe o c hP ⟨m, cm, ow', w₂.kp k₄⟩ hx rs hlen fun s₅ w₅ => ?_
      refine wpAny_mono (hb A env s₀ s₅ _ σ₃ fl₁ (fun a => X a ∨ wr a) G₂ _ R o fe ke c w₅ hF) (fun rf s₆ h₆ => ?_) fun _ _ x => x
      obtain ⟨w₆, fr₆⟩ := h₆
      have w₇ : St C (fun a => X a ∨ wr a) N G₁ s₀ env σ₃ s₆ := w₆.weak fun a o h => .inl h
      have r₇ : R' (i + 1) s₆.heap := src.frame _ _ _ r' fun b o hb e => by
        obtain ⟨_, _, _, w⟩ := w₆
        exact (w.prot b o (.inr (.inr ⟨hb, e⟩))).1
      have go : fFor (fSp sp xs.length is) F (vs.drop (i + 1)) σ₃ = some (fl, σ') → ∃ m, m < vs.length - i ∧ ∃ i σ₁, m = vs.length - i ∧ i ≤ vs.length ∧ R' i s₆.heap ∧ St C (fun a => X a ∨ wr a) N G₁ s₀ env σ₁ s₆ ∧ fFor (fSp sp xs.length is) F (vs.drop i) σ₁ = some (fl, σ') :=
        fun q => ⟨vs.length - (i + 1), by omega, i + 1, σ₃, rfl, hlt, r₇, w₇, q⟩
      cases fl₁ with
      | next => unfold FlRel at fr₆; subst fr₆; exact go q
      | cont => unfold FlRel at fr₆; subst fr₆; exact go q
      | brk => cases q; unfold FlRel at fr₆; subst fr₆; exact ⟨leave _ _ w₇, rfl⟩
      | ret v =>
        cases q
        unfold FlRel at fr₆
        obtain ⟨rv, rfl, p₁⟩ := fr₆
        exact ⟨leave _ _ w₇, rv, rfl, p₁.le fun a o p => ⟨p.1, fun q => p.2.1 (.inl q), p.2.2⟩⟩
    · obtain ⟨rv, rfl, h⟩ := h
      exact h
end
end Mine
set_option Elab.async false
set_option linter.unusedVariables false
set_option maxRecDepth 100000
namespace Mine
open PySem PySem.W PyProof.Rows
section
variable {C : Cx} {X : Addr → Prop} {N : List Str} {G : PH} {s₀ s s' : Shared} {env : Env} {σ : Sg} {m cm : Str → Option Value} {ow : Nat → List Addr}
/-- a list of the frame's own is turned -/
theorem StW.mut {i : Nat} {x : Str} {a : Addr} {its' : Array Value} {n' : Nat} {xs ys : List V} (w : StW C X N G s₀ env σ s m cm ow) (c : C.Ok s₀.heap) (hx : N[i]? = some x) (hs : σ[i]? = some (.own xs)) (ha : ow i = [a])
    (h2 : ∃ tk, s' = { s with heap := s'.heap, toks := tk }) (hsb : Heap.SameBut a s.heap s'.heap) (hnew : s'.heap.get? a = some (lstObj its' n')) (r : VRels (rd (fun a => X a ∨ Owned env ow a) s.heap) ys its'.toList) :
    StW C X N G s₀ env (σ.set i (.own ys)) s' m cm ow := by
  have hm : a ∈ ow i := by rw [ha]; exact .head _
  obtain ⟨z1, nF, _⟩ := w.newO i a hm
  have up : ∀ b o, b ≠ a → s.heap.get? b = some o → s'.heap.get? b = some o := fun b o h e => hsb.extBut b o h e
  have rdUp : ∀ b o, rd (fun a => X a ∨ Owned env ow a) s.heap b o → rd (fun a => X a ∨ Owned env ow a) s'.heap b o := fun b o p => ⟨up b o (fun e => p.2 (.inr (.inr ⟨i, e ▸ hm⟩))) p.1, p.2⟩
  refine w.turn (.inr ⟨i, hm⟩) h2 up ⟨_, hnew⟩ (w.ns.sameBut hsb fun e => nF (.inl e.symm)) (fun n cc hc => (w.cell n cc hc).sameBut hsb fun e => nF (.inr ⟨n, e ▸ hc⟩)) (fun j b hb => ?_) w.ownD w.ownN (fun j y t hy ht => ?_) (by rw [List.length_set]; exact w.len) c
    (fun b o h => (w.prot b o h).2) w.ownX
  · obtain ⟨p1, p2, its, n, e⟩ := w.newO j b hb
    refine ⟨p1, p2, ?_⟩
    by_cases q : b = a
    · subst q; exact ⟨_, _, hnew⟩
    · exact ⟨its, n, up b _ q e⟩
  · by_cases q : j = i
    · subst q
      rw [hx] at hy; cases hy
      have hl : j < σ.length := (List.getElem?_eq_some_iff.mp hs).1
      rw [List.getElem?_set] at ht
      simp [hl] at ht
      subst ht
      obtain ⟨a', its, n, e1, e2, e3, e4⟩ := w.slot j x _ hx hs
      rw [ha] at e1; cases e1
      exact ⟨a, its', n', ha, e2, hnew, r.le rdUp⟩
    · rw [get_set_ne q] at ht
      refine (w.slot j y t hy ht).mono rdUp fun b hb o e => up b o (fun e' => q (w.ownD j i b hb (e' ▸ hm))) e
end
/-- a value that may be kept -/
noncomputable def ExS (C : Cx) (k : Nat) (N : List Str) (K : Env → Prop) (e : Expr) (f : Sg → Option V) : Prop :=
  ∀ (A : Around) (env : Env) (s₀ s : Shared) (σ : Sg) (v : V) (X : Addr → Prop) (G : PH) (m cm : Str → Option Value) (ow : Nat → List Addr) (E : Value → Shared → Prop), Rm k A → EnvOk env → FnEnv N env → K env → C.Ok s₀.heap → StW C X N G s₀ env σ s m cm ow → f σ = some v →
    wpAny C.M A (eval e env) (fun rv s' => Kp s s' ∧ VRel (rd (fun a => X a ∨ Owned env ow a) s'.heap) v rv) E s
section
variable {C : Cx} {k : Nat} {N : List Str} {K : Env → Prop} {e : Expr} {f : Sg → Option V}
theorem ExF.toS (h : ExF C k N K e f) : ExS C k N K e f := fun A env s₀ s σ v X G m cm ow E R o fe ke c w q =>
  wpAny_mono (h A env s σ v _ E R o ke (w.ok c) w.inXF (w.view fe) q) (fun rv s' p => ⟨p.1, p.2.le fun a o p => w.stores p⟩) fun _ _ x => x
theorem ExB.toS (h : ExB C k N K e f) : ExS C k N K e (fun σ => f σ.hide) := fun A env s₀ s σ v X G m cm ow E R o fe ke c w q =>
  h A env s σ.hide v _ E R o ke (w.ok c) w.inO (w.viewH fe) q
theorem name_rd {M : Model} {A : Around} {env : Env} {s : Shared} {x : Str} {pos : Pos} {rv : Value} {Q : Value → Shared → Prop} {E : Value → Shared → Prop} (o : EnvOk env) (r : Rd env s.heap x rv) (hd : (x == ("__debug__" : Str)) = false) (hn : (x == ("__classdict__" : Str)) = false) (h : Q rv s) :
    wpAny M A (eval (.Name x pos) env) Q E s := by
  refine wpAny_Name ?_ hd
  rcases r with ⟨e, m, n, h'⟩ | ⟨e | e, c, l, h'⟩
  · exact wpAny_loadName_local o.kind e n h' h
  · exact wpAny_loadName_cell o.kind e l h' h
  · exact wpAny_loadName_free o.kind e l h' h hn
theorem load_rd {M : Model} {A : Around} {env : Env} {s : Shared} {x : Str} {rv : Value} {Q : Value → Shared → Prop} {E : Value → Shared → Prop} (o : EnvOk env) (r : Rd env s.heap x rv) (hn : (x == ("__classdict__" : Str)) = false) (h : Q rv s) :
    wpAny M A (loadName env x) Q E s := by
  rcases r with ⟨e, m, n, h'⟩ | ⟨e | e, c, l, h'⟩
  · exact wpAny_loadName_local o.kind e n h' h
  · exact wpAny_loadName_cell o.kind e l h' h
  · exact wpAny_loadName_free o.kind e l h' h hn
noncomputable def fOwn (i : Nat) (f : Sg → Option V) : Sg → Rs := fun σ => (f σ).bind fun v => match v with
  | .lst xs => if V.frees xs = true then some (.next, σ.set i (.own xs)) else none
  | _ => none
/-- a new list is a name's own -/
theorem bind_own {X : Addr → Prop} {G : PH} {s₀ s s' : Shared} {env : Env} {σ : Sg} {i : Nat} {x : Str} {xs : List V} {rv : Value} {A : Around} {E : Value → Shared → Prop} {Q : Unit → Shared → Prop} (w : St C X N G s₀ env σ s) (fe : FnEnv N env) (o : EnvOk env) (c : C.Ok s₀.heap)
    (hx : N[i]? = some x) (k : Kp s s') (r : VRel (rdF (XF X env) s.heap s'.heap) (.lst xs) rv) (hf : V.frees xs = true) (h : ∀ s'', St C X N G s₀ env (σ.set i (.own xs)) s'' → Q () s'') : wpAny C.M A (storeName env x rv) Q E s' := by
  obtain ⟨m, cm, ow, w⟩ := w
  obtain ⟨a, its, n, rfl, g, r⟩ := r.lst'
  have hnew : s.heap.get? a = none := by
    cases e : s.heap.get? a with
    | none => rfl
    | some o' =>
      have := k.le a o' e
      rw [g.1] at this
      cases this
      exact absurd rfl (g.2.2 _ e)
  refine w.put (sl := .own xs) (as := [a]) fe o c k hx ⟨a, its, n, rfl, rfl, g.1, ?_⟩ (fun b hb => .inl (by rw [List.mem_singleton.mp hb]; exact hnew)) (fun b hb => by rw [List.mem_singleton.mp hb]; exact ⟨_, _, g.1⟩) (by simp) h
  refine r.freeMono (fun b o hc p => ?_) hf
  have := w.stores p
  refine ⟨this.1, fun q => ?_⟩
  rcases q with q | q | ⟨j, q⟩
  · exact this.2 (.inl q)
  · exact this.2 (.inr (.inl q))
  · by_cases hj : j = i
    · subst hj
      rw [upd_self] at q
      have e := p.1
      rw [List.mem_singleton.mp q, g.1] at e
      cases e
      exact hc rfl
    · rw [upd_ne _ _ hj] at q; exact this.2 (.inr (.inr ⟨j, q⟩))
theorem S1_AssignOwn {x : Str} {pos pos' : Pos} (i : Nat) (hx : N[i]? = some x) (h : ExF C k N K e f) (hs : ∀ env, K env → swapsWith e (some (.Name x pos')) pos.line env = pure false := by intro _ _; rfl) :
    S1 C k N K (.Assign [.Name x pos'] e pos) (fOwn i f) := fun A env s₀ s σ σ' fl X G E R o fe ke c w q => by
  unfold fOwn at q
  obtain ⟨v, hv, q⟩ := Option.bind_eq_some_iff.mp q
  split at q
  rotate_left
  · cases q
  split at q
  rotate_left
  · cases q
  rename_i hf
  cases q
  obtain ⟨m, cm, ow, w'⟩ := id w
  refine wpAny_Assign_Name (wpAny_mono (h A env s σ _ _ E R o ke (w'.ok c) w'.inXF (w'.view fe) hv) (fun rv s' p => ?_) fun _ _ x => x) (hs env ke)
  exact bind_own w fe o c hx p.1 p.2 hf fun s'' w'' => ⟨w'', rfl⟩
noncomputable def Sg.own (σ : Sg) (i : Nat) : Option (List V) := match σ[i]? with
  | some (.own xs) => some xs
  | _ => none
theorem Sg.own_some {σ : Sg} {i : Nat} {xs : List V} (h : σ.own i = some xs) : σ[i]? = some (.own xs) := by
  unfold Sg.own at h
  split at h
  · cases h; assumption
  · cases h
/-- a list of the frame's: where it lies -/
theorem StW.ownAt {X : Addr → Prop} {G : PH} {s₀ s : Shared} {env : Env} {σ : Sg} {m cm : Str → Option Value} {ow : Nat → List Addr} (w : StW C X N G s₀ env σ s m cm ow) {i : Nat} {x : Str} {xs : List V} (hx : N[i]? = some x) (hs : σ.own i = some xs) :
    ∃ a its n, ow i = [a] ∧ vm env m cm x = some (.ref a) ∧ s.heap.get? a = some (lstObj its n) ∧ VRels (rd (fun a => X a ∨ Owned env ow a) s.heap) xs its.toList := by
  obtain ⟨a, its, n, e1, e2, e3, e4⟩ := w.slot i x _ hx (Sg.own_some hs)
  exact ⟨a, its, n, e1, e2, e3, e4⟩
noncomputable def fAppend (i : Nat) (f : Sg → Option V) : Sg → Rs := fun σ => (f σ).bind fun v => (σ.own i).bind fun xs => if xs.length ≤ 10000 then some (.next, σ.set i (.own (xs ++ [v]))) else none
/-- append to a list of the frame's own -/
theorem S1_Append {x : Str} {p apos pos pos' : Pos} (i : Nat) (hx : N[i]? = some x) (h : ExS C k N K e f) (hd : (x == ("__debug__" : Str)) = false := by decide +kernel) (hn : (x == ("__classdict__" : Str)) = false := by decide +kernel)
    (he : ∀ env, ∃ pl, eval (.Call (.Attribute (.Name x p) "append" apos) [e] [] pos) env = (do
      let ov ← eval (.Name x p) env
      standAt apos.atName
      let (f, first) ← holding [ov] (getMethod ov "append" pl)
      callWith pos f first (backTo pos (starEach [e] env)) []) := by intro _; exact ⟨_, rfl⟩)
    (hst : ∀ env, starEach [e] env = (false, eval e env) :: starEach [] env := by intro _; rfl) (hsw : ∀ env, swapsWith (.Call (.Attribute (.Name x p) "append" apos) [e] [] pos) none pos'.line env = pure false := by intro _; rfl) :
    S1 C k N K (.Expr (.Call (.Attribute (.Name x p) "append" apos) [e] [] pos) pos') (fAppend i f) := fun A env s₀ s σ σ' fl X G E R o fe ke c w q => by
  unfold fAppend at q
  obtain ⟨v, hv, q⟩ := Option.bind_eq_some_iff.mp q
  obtain ⟨xs, hxs, q⟩ := Option.bind_eq_some_iff.mp q
  split at q
  rotate_left
  · cases q
  rename_i hlen
  cases q
  obtain ⟨m, cm, ow, w⟩ := w
  obtain ⟨a, its, n, ha, hv', ho, r⟩ := w.ownAt hx hxs
  obtain ⟨pl, he⟩ := he env
  refine wpAny_Expr (MethodCall_ (pl := pl) (name_rd o (w.rdN fe hx hv') hd hn ?_) he) (by unfold interactive; rw [o.kind]; rfl) (hsw env)
  refine getMethod_builtin (T := "list") ⟨_, ho, rfl⟩ PySem.F.plainAttrs_list slot_list_append PySem.F.type_list_append (fun b hb => by cases hb; exact ⟨_, ho, rfl⟩) ?_
  refine callWith_method1 (args_cons (wpAny_mono (h A env s₀ s σ v X G m cm ow E R o fe ke c w hv) (fun rv s₁ p => args_nil ?_) fun _ _ x => x) (hst env)) (hst env)
  have w₁ := w.kp p.1
  refine wpAny_list_append_plain (s := s₁) ⟨n, p.1.le _ _ ho⟩ (fun h' hl hsb => ?_) (by have := r.length; simp at this; unfold sizeLine; omega)
  obtain ⟨n', hl⟩ := hl
  refine ⟨⟨m, cm, ow, w₁.mut c hx (Sg.own_some hxs) ha ⟨s₁.toks, rfl⟩ hsb hl ?_⟩, rfl⟩
  rw [Array.toList_push]
  exact (r.le fun b o q => ⟨p.1.le b o q.1, q.2⟩).append (VRels.one p.2)
noncomputable def fSetItem (i : Nat) (f g : Sg → Option V) : Sg → Rs := fun σ => (f σ).bind fun v => (σ.own i).bind fun xs => (g σ).bind fun j => match j with
  | .int j => if 0 ≤ j ∧ j < xs.length ∧ xs.length ≤ 10000 then some (.next, σ.set i (.own (xs.set j.toNat v))) else none
  | _ => none
theorem VRels.set {P : PH} : ∀ {vs : List V} {rs : List Value} {v : V} {rv : Value} (j : Nat), VRels P vs rs → VRel P v rv → VRels P (vs.set j v) (rs.set j rv)
  | [], _, _, _, _, h, _ => by unfold VRels at h; subst h; exact VRels.nil
  | u :: vs, rs, v, rv, j, h, r => by
    unfold VRels at h
    obtain ⟨q, qs, rfl, h1, h2⟩ := h
    cases j with
    | zero => exact VRels.cons r h2
    | succ j => exact VRels.cons h1 (VRels.set j h2 r)
/-- an item of a list is set -/
theorem setItem_at {l : Addr} {its : Array Value} {n : Nat} {j : Int} {t : Tok} {rv : Value} {A : Around} {E : Value → Shared → Prop} {s : Shared} {Q : Unit → Shared → Prop} (ho : s.heap.get? l = some (lstObj its n)) (h0 : 0 ≤ j) (hj : j < its.size) (hfit : j < 2 ^ 63)
    (hQ : ∀ h', h'.get? l = some (lstObj (its.setIfInBounds j.toNat rv) n) → Heap.SameBut l s.heap h' → Q () { s with heap := h' }) : wpAny C.M A (setItem (.ref l) (.int j t) rv) Q E s := by
  have isl := isList_of ho
  have tail : ∀ (i : Nat), j.toNat = i → Q () { s with heap := s.heap.update l (Obj.mapSeq (·.setIfInBounds i rv)) } := fun i hi => by
    have e : Obj.mapSeq (·.setIfInBounds i rv) (lstObj its n) = lstObj (its.setIfInBounds j.toNat rv) n := by
      subst hi; simp [Obj.mapSeq, lstObj]
    refine hQ _ ?_ (Heap.SameBut.update ..)
    rw [Heap.get?_update_self _ ho (by rw [e]; rfl), e]
  unfold setItem
  refine wpAny_holding ?_
  refine wpAny_bind (wpAny_sequenceKey isl.typeIs (by decide) ?_)
  refine wpAny_bind (wpAny_callSpecial?_slot (name := Str.ofString "__setitem__") isl.typeIs PySem.slot_list_setitem (wpAny_call_entry PySem.slot_list_setitem isl.typeIs PySem.entry_list_setitem ?_ (PySem.args_list_setitem _ _ _)))
  show wpAny _ _ (Builtin.List.listSubscript? (.int j t) >>= _) _ _ s
  refine wpAny_bind (wpAny_listSubscript_int (fitsIndex_of h0 hfit) ?_)
  clear hfit
  obtain ⟨i, rfl⟩ := Int.eq_ofNat_of_zero_le h0
  have hi : i < its.size := by omega
  have hx' : its[i]? = some its[i] := Array.getElem?_eq_getElem hi
  show wpAny _ _ ((seqItemAt l i >>= fun r => pure (r.map (i, ·))) >>= _) _ _ s
  refine wpAny_bind (wpAny_bind (wpAny_seqItemAt ho rfl (wpAny_pure ?_)))
  rw [hx']
  show wpAny _ _ (setSeqItemAt l i rv >>= _) _ _ s
  refine wpAny_bind (wpAny_setSeqItemAt ho rfl ?_)
  first
    | exact wpAny_pure ⟨.none, rfl, wpAny_pure (tail i rfl)⟩
    | exact wpAny_bind (wpAny_pure (wpAny_pure ⟨.none, rfl, wpAny_pure (tail i rfl)⟩))
/-- the item of a list of the frame's own is set -/
theorem S1_SetItem {x : Str} {p sp pos : Pos} {ie : Expr} {g : Sg → Option V} (i : Nat) (hx : N[i]? = some x) (h : ExS C k N K e f) (hg : ExB C k N K ie g) (hd : (x == ("__debug__" : Str)) = false := by decide +kernel) (hn : (x == ("__classdict__" : Str)) = false := by decide +kernel)
    (hs : ∀ env, swapsWith e (some (.Subscript (.Name x p) ie sp)) pos.line env = pure false := by intro _; rfl) : S1 C k N K (.Assign [.Subscript (.Name x p) ie sp] e pos) (fSetItem i f g) := fun A env s₀ s σ σ' fl X G E R o fe ke c w q => by
  unfold fSetItem at q
  obtain ⟨v, hv, q⟩ := Option.bind_eq_some_iff.mp q
  obtain ⟨xs, hxs, q⟩ := Option.bind_eq_some_iff.mp q
  obtain ⟨j, hj, q⟩ := Option.bind_eq_some_iff.mp q
  split at q
  rotate_left
  · cases q
  rename_i j
  split at q
  rotate_left
  · cases q
  rename_i hlen
  cases q
  obtain ⟨m, cm, ow, w⟩ := w
  refine wpAny_Assign_Subscript (wpAny_mono (h A env s₀ s σ v X G m cm ow E R o fe ke c w hv) (fun rv s₁ p => ?_) fun _ _ x => x) (hs env)
  have w₁ := w.kp p.1
  obtain ⟨a, its, n, ha, hv', ho, r⟩ := w₁.ownAt hx hxs
  refine name_rd o (w₁.rdN fe hx hv') hd hn ?_
  refine wpAny_mono (hg A env s₁ σ _ _ E R o ke (w₁.ok c) w₁.inXF (w₁.view fe) hj) (fun ri s₂ p₂ => ?_) fun _ _ x => x
  obtain ⟨t, rfl⟩ := p₂.2.int'
  have w₂ := w₁.kp p₂.1
  have hz : its.size = xs.length := by have := r.length; simpa using this
  refine setItem_at (s := s₂) (p₂.1.le _ _ ho) hlen.1 (by rw [hz]; exact hlen.2.1) (by have := hlen.2; omega) fun h' hl hsb => ?_
  refine ⟨⟨m, cm, ow, w₂.mut c hx (Sg.own_some hxs) ha ⟨s₂.toks, rfl⟩ hsb hl ?_⟩, rfl⟩
  rw [Array.toList_setIfInBounds]
  exact VRels.set _ (r.le fun b o q => ⟨p₂.1.le b o q.1, q.2⟩) (p.2.le fun b o q => ⟨p₂.1.le b o q.1, q.2⟩)
/-- x op= e: numbers and texts -/
noncomputable def fAug (i : Nat) (op : Operator) (f : Sg → Option V) : Sg → Rs := fun σ => (σ.get i).bind fun u => (f σ).bind fun v => match op, u, v with
  | .Add, .int a, .int b => some (.next, σ.set i (.val (.int (a + b))))
  | .Add, .str a, .str b => if a.length + b.length ≤ 100000 then some (.next, σ.set i (.val (.str (a ++ b)))) else none
  | _, _, _ => none
theorem St.bindI {X : Addr → Prop} {G : PH} {s₀ s s' : Shared} {env : Env} {σ : Sg} {i : Nat} {x : Str} {v : V} {rv : Value} {A : Around} {E : Value → Shared → Prop} {Q : Unit → Shared → Prop} (w : St C X N G s₀ env σ s) (fe : FnEnv N env) (o : EnvOk env) (c : C.Ok s₀.heap)
    (hx : N[i]? = some x) (k : Kp s s') (r : ∀ P, VRel P v rv) (h : ∀ s'', St C X N G s₀ env (σ.set i (.val v)) s'' → Q () s'') : wpAny C.M A (storeName env x rv) Q E s' := w.bind fe o c hx k (r _) h
theorem S1_Aug {x : Str} {p pos : Pos} {op : Operator} (i : Nat) (hx : N[i]? = some x) (h : ExB C k N K e f) (hn : (x == ("__classdict__" : Str)) = false := by decide +kernel) : S1 C k N K (.AugAssign (.Name x p) op e pos) (fAug i op f) := fun A env s₀ s σ σ' fl X G E R o fe ke c w q => by
  unfold fAug at q
  obtain ⟨u, hu, q⟩ := Option.bind_eq_some_iff.mp q
  obtain ⟨v, hv, q⟩ := Option.bind_eq_some_iff.mp q
  obtain ⟨m, cm, ow, w'⟩ := id w
  obtain ⟨ru, r1, r2⟩ := w'.view fe i x u hx hu
  refine wpAny_AugAssign_Name (load_rd o r1 hn ?_)
  refine wpAny_mono (h A env s σ v _ E R o ke (w'.ok c) w'.inXF (w'.view fe) hv) (fun rv s₁ p => ?_) fun _ _ x => x
  split at q
  · cases q
    obtain ⟨t, rfl⟩ := r2.int'
    obtain ⟨t', rfl⟩ := p.2.int'
    refine PyProof.Rows.iadd_int ?_
    exact w.bindI fe o c hx (p.1.trans (Kp.toks _ _)) (fun P => pInt) fun s'' w'' => ⟨w'', rfl⟩
  · split at q
    rotate_left
    · cases q
    rename_i hl
    cases q
    obtain ⟨t, rfl⟩ := r2.str'
    obtain ⟨t', rfl⟩ := p.2.str'
    refine PyProof.Rows.iadd_str (fun t'' tk => ?_) (by unfold sizeLine; omega)
    exact w.bindI fe o c hx (p.1.trans (Kp.toks _ _)) (fun P => pStr) fun s'' w'' => ⟨w'', rfl⟩
  · cases q
theorem noFillI_list : fillsInplaceSlot (.type "list") "add" (Operator.Add == .Add) = pure false := by
  unfold fillsInplaceSlot
  show (typeLookup (.type "list") (dunderI "add") >>= fun fi => pure (fi.isSome && !isSeqSlot fi)) = pure false
  rw [PySem.F.slot_list_iadd.lookup]
  rfl
theorem seqI_list : seqSlot? (.type "list") (dunderI "add") = pure (some (.builtin "list.__iadd__")) := PySem.seqSlot_of PySem.F.slot_list_iadd.lookup (by decide +kernel)
theorem iadd_lists {l b : Addr} {its its2 : Array Value} {n n2 : Nat} {A : Around} {E : Value → Shared → Prop} {s : Shared} {Q : Value → Shared → Prop} (hl : s.heap.get? l = some (lstObj its n)) (hb : s.heap.get? b = some (lstObj its2 n2)) (hz : its.size + its2.size ≤ 1000000)
    (hQ : ∀ h' n', h'.get? l = some (lstObj (its ++ its2) n') → Heap.SameBut l s.heap h' → Q (.ref l) { s with heap := h' }) : wpAny C.M A (inplaceOp .Add (.ref l) (.ref b)) Q E s := by
  have T1 : s.TypeIs (.ref l) "list" := ⟨_, hl, rfl⟩
  have T2 : s.TypeIs (.ref b) "list" := ⟨_, hb, rfl⟩
  unfold inplaceOp
  refine wpAny_holding ?_
  refine wpAny_bind (wpAny_typeOf T1 (wpAny_bind (wpAny_of_eq noFillI_list ?_)))
  show wpAny C.M A (if false = true then _ else _) Q E s
  rw [if_neg Bool.false_ne_true]
  refine wpAny_bind (PyProof.Rows.binaryOp1_none (nm := "add") T1 T2 PySem.noFill_list_add ?_)
  refine wpAny_bind (wpAny_of_eq seqI_list ?_)
  refine wpAny_bind (wpAny_rule ?_)
  have e : Obj.mapSeq (fun x => x ++ its2) (lstObj its n) = lstObj (its ++ its2) (if (its ++ its2).size == its.size then n else n + 1) := rfl
  refine call_meets PySem.F.slot_list_iadd T1 PySem.F.entry_list_iadd (PySem.F.args_list_iadd_2 _ _) (AutoSeq1.list___iadd___list_list_0 l its n b its2 n2 ?_ (by unfold sizeLine; omega) (by unfold sizeLine; omega)) ⟨hl, hb, hQ _ _ (by rw [Heap.get?_update_self _ hl (by rw [e]; rfl), e]) (Heap.SameBut.update ..)⟩
  unfold Builtin.List.listTooLong sizeLine
  simp
  omega
noncomputable def fAugL (i : Nat) (f : Sg → Option V) : Sg → Rs := fun σ => (σ.own i).bind fun xs => (f σ).bind fun v => match v with
  | .lst ys => if xs.length + ys.length ≤ 100000 then some (.next, σ.set i (.own (xs ++ ys))) else none
  | _ => none
/-- x += e for a list of the frame's own -/
theorem S1_AugL {x : Str} {p pos : Pos} (i : Nat) (hx : N[i]? = some x) (h : ExS C k N K e f) (hn : (x == ("__classdict__" : Str)) = false := by decide +kernel) : S1 C k N K (.AugAssign (.Name x p) .Add e pos) (fAugL i f) := fun A env s₀ s σ σ' fl X G E R o fe ke c w q => by
  unfold fAugL at q
  obtain ⟨xs, hxs, q⟩ := Option.bind_eq_some_iff.mp q
  obtain ⟨v, hv, q⟩ := Option.bind_eq_some_iff.mp q
  split at q
  rotate_left
  · cases q
  split at q
  rotate_left
  · cases q
  rename_i ys hlen
  cases q
  obtain ⟨m, cm, ow, w⟩ := w
  obtain ⟨a, its, n, ha, hv', ho, r⟩ := w.ownAt hx hxs
  refine wpAny_AugAssign_Name (load_rd o (w.rdN fe hx hv') hn ?_)
  refine wpAny_mono (h A env s₀ s σ _ X G m cm ow E R o fe ke c w hv) (fun rv s₁ p => ?_) fun _ _ x => x
  have w₁ := w.kp p.1
  obtain ⟨b, its2, n2, rfl, g, r2⟩ := p.2.lst'
  have z1 := r.length
  have z2 := r2.length
  simp at z1 z2
  refine iadd_lists (s := s₁) (p.1.le _ _ ho) g.1 (by omega) fun h' n' hl hsb => ?_
  have w₂ : StW C X N G s₀ env (σ.set i (.own (xs ++ ys))) { s₁ with heap := h' } m cm ow := by
    refine w₁.mut c hx (Sg.own_some hxs) ha ⟨s₁.toks, rfl⟩ hsb hl ?_
    rw [Array.toList_append]
    exact (r.le fun b o q => ⟨p.1.le b o q.1, q.2⟩).append r2
  -- the name is bound anew, to the same list
  have ho2 := hl
  have hil : i < σ.length := by rw [w.len]; exact (List.getElem?_eq_some_iff.mp hx).1
  obtain ⟨a', its', n'', ha', hv2, ho3, r3⟩ := w₂.ownAt (xs := xs ++ ys) hx (by unfold Sg.own; rw [List.getElem?_set]; simp [hil])
  rw [ha] at ha'; cases ha'
  have same : ∀ b, Owned env (upd ow i [a]) b → Owned env ow b := fun b z => by
    rcases z with z | ⟨j, z⟩
    · exact .inl z
    · by_cases hj : j = i
      · subst hj; rw [upd_self] at z; exact .inr ⟨j, by rw [ha]; exact z⟩
      · rw [upd_ne _ _ hj] at z; exact .inr ⟨j, z⟩
  refine w₂.put (sl := .own (xs ++ ys)) (as := [a]) fe o c (Kp.refl _) hx ⟨a, its', n'', rfl, rfl, ho3, r3.le fun b o q => ⟨q.1, fun z => q.2 (z.elim .inl fun z => .inr (same b z))⟩⟩ (fun b hb => .inr (by rw [ha]; exact hb)) (fun b hb => by rw [List.mem_singleton.mp hb]; exact ⟨_, _, ho3⟩) (by simp) fun s'' w'' => ?_
  refine ⟨?_, rfl⟩
  rw [List.set_set] at w''
  exact w''
/-- a list of the frame's own is turned no more: told as a value -/
noncomputable def Sg.frz (σ : Sg) (i : Nat) : Sg := match σ[i]? with
  | some (.own xs) => σ.set i (.val (.lst xs))
  | _ => σ
theorem St.frz {X : Addr → Prop} {G : PH} {s₀ s : Shared} {env : Env} {σ : Sg} (w : St C X N G s₀ env σ s) (i : Nat) : St C X N G s₀ env (σ.frz i) s := by
  unfold Sg.frz
  split
  rotate_left
  · exact w
  rename_i xs hs
  obtain ⟨m, cm, ow, w⟩ := w
  have hil : i < σ.length := (List.getElem?_eq_some_iff.mp hs).1
  have hN : ∃ x, N[i]? = some x := by
    have : i < N.length := by rw [← w.len]; exact hil
    exact ⟨N[i], List.getElem?_eq_getElem this⟩
  obtain ⟨x, hx⟩ := hN
  obtain ⟨a, its, n, ha, hv, ho, r⟩ := w.slot i x _ hx hs
  have hm : a ∈ ow i := by rw [ha]; exact .head _
  have sub : ∀ b, Owned env (upd ow i []) b → Owned env ow b := fun b h => owned_drop h
  have noA : ¬ Owned env (upd ow i []) a := fun h => by
    rcases h with h | ⟨j, h⟩
    · exact (w.newO i a hm).2.1 h
    · by_cases hj : j = i
      · subst hj; rw [upd_self] at h; cases h
      · rw [upd_ne _ _ hj] at h; exact hj (w.ownD j i a h hm)
  have rdUp : ∀ b o, rd (fun a => X a ∨ Owned env ow a) s.heap b o → rd (fun a => X a ∨ Owned env (upd ow i []) a) s.heap b o := fun b o p => ⟨p.1, fun q => p.2 (q.elim .inl fun q => .inr (sub b q))⟩
  refine ⟨m, cm, upd ow i [], { w with
    tabs := fun a ha => let ⟨o, e, q⟩ := w.tabs a ha; ⟨o, e, q.1, C.tkm _ _ _ (fun b o _ _ p => ⟨p.1, fun z => p.2 (z.elim (fun z => .inl (z.elim .inl fun z => .inr (sub b z))) .inr)⟩) q.2⟩
    newO := fun j b hb => ?_
    ownD := fun j l b hj hl => ?_
    ownN := fun j => ?_
    slot := fun j y t hy ht => ?_
    len := by rw [List.length_set]; exact w.len
    prot := fun b o h => ⟨(w.prot b o h).1, fun q => (w.prot b o h).2 (sub b q)⟩
    ownX := fun j b hb => ?_ }⟩
  · by_cases hj : j = i
    · subst hj; rw [upd_self] at hb; cases hb
    · rw [upd_ne _ _ hj] at hb; exact w.newO j b hb
  · by_cases h1 : j = i
    · subst h1; rw [upd_self] at hj; cases hj
    · by_cases h2 : l = i
      · subst h2; rw [upd_self] at hl; cases hl
      · rw [upd_ne _ _ h1] at hj; rw [upd_ne _ _ h2] at hl; exact w.ownD j l b hj hl
  · by_cases hj : j = i
    · subst hj; rw [upd_self]; exact List.nodup_nil
    · rw [upd_ne _ _ hj]; exact w.ownN j
  · by_cases hj : j = i
    · subst hj
      rw [hx] at hy; cases hy
      rw [List.getElem?_set] at ht
      simp [hil] at ht
      subst ht
      rw [upd_self]
      refine ⟨rfl, .ref a, hv, ?_⟩
      unfold VRel
      exact ⟨a, its, n, rfl, ⟨ho, fun q => q.elim (w.ownX j a hm) noA⟩, r.le rdUp⟩
    · rw [get_set_ne hj] at ht
      rw [upd_ne _ _ hj]
      exact (w.slot j y t hy ht).mono rdUp fun b _ o e => e
  · by_cases hj : j = i
    · subst hj; rw [upd_self] at hb; cases hb
    · rw [upd_ne _ _ hj] at hb; exact w.ownX j b hb
theorem Sx_frz {st : List Stmt} {F : Sg → Rs} (i : Nat) (h : Sx C k N K st F) : Sx C k N K st (fun σ => F (σ.frz i)) := fun A env s₀ s σ σ' fl X G E R o fe ke c w q =>
  h A env s₀ s (σ.frz i) σ' fl X G E R o fe ke c (w.frz i) q
noncomputable def fRetOwn (i : Nat) : Sg → Rs := fun σ => (σ.own i).bind fun xs => if V.frees xs = true then some (.ret (.lst xs), σ) else none
/-- a list of the frame's own is handed out -/
theorem S1_RetOwn {x : Str} {p pos : Pos} (i : Nat) (hx : N[i]? = some x) (hd : (x == ("__debug__" : Str)) = false := by decide +kernel) (hn : (x == ("__classdict__" : Str)) = false := by decide +kernel) : S1 C k N K (.Return (some (.Name x p)) pos) (fRetOwn i) := fun A env s₀ s σ σ' fl X G E R o fe ke c w q => by
  unfold fRetOwn at q
  obtain ⟨xs, hxs, q⟩ := Option.bind_eq_some_iff.mp q
  split at q
  rotate_left
  · cases q
  rename_i hf
  cases q
  obtain ⟨m, cm, ow, w⟩ := w
  obtain ⟨a, its, n, ha, hv', ho, r⟩ := w.ownAt hx hxs
  refine wpAny_Return_some (name_rd o (w.rdN fe hx hv') hd hn ⟨⟨m, cm, ow, w⟩, .ref a, rfl, ?_⟩)
  have hm : a ∈ ow i := by rw [ha]; exact .head _
  unfold VRel
  refine ⟨a, its, n, rfl, ⟨ho, w.ownX i a hm, fun o' e => ?_⟩, r.freeMono (fun b o hc p => ⟨p.1, fun q => p.2 (.inl q), fun o' e hl => ?_⟩) hf⟩
  · rw [(w.newO i a hm).1] at e; cases e
  · by_cases ht : b ∈ C.T
    · obtain ⟨o'', e', q⟩ := c.t b ht
      rw [e] at e'; cases e'; rw [hl] at q; cases q
    · have := w.keep b o' ht e
      rw [p.1] at this
      cases this
      exact hc hl
end
end Mine
set_option Elab.async false
set_option linter.unusedVariables false
set_option maxRecDepth 100000
namespace Mine
open PySem PySem.W PyProof.Rows
/-- the items of a display -/
noncomputable def ExDs (C : Cx) (k : Nat) (N : List Str) (K : Env → Prop) (es : List Expr) (g : Sg → Option (List V)) : Prop :=
  ∀ (A : Around) (env : Env) (s : Shared) (σ : Sg) (vs : List V) (X : Addr → Prop) (E : Value → Shared → Prop) (pos : Pos), Rm k A → EnvOk env → K env → C.Ok s.heap → InH X s.heap → View X N σ env s.heap → g σ = some vs →
    vs.length = es.length ∧ wpAny C.M A (spliced (backTo pos (starEach es env))) (fun rvs s' => Kp s s' ∧ VRels (rdF X s.heap s'.heap) vs rvs) E s
section
variable {C : Cx} {k : Nat} {N : List Str} {K : Env → Prop}
theorem Ds_nil : ExDs C k N K [] (fun _ => some []) := fun A env s σ vs X E pos R o ke c i w q => by
  cases q
  exact ⟨rfl, args_nil ⟨Kp.refl s, VRels.nil⟩⟩
theorem Ds_cons {e : Expr} {es : List Expr} {f : Sg → Option V} {g : Sg → Option (List V)} (h : ExF C k N K e f) (h' : ExDs C k N K es g)
    (he : ∀ env, starEach (e :: es) env = (false, eval e env) :: starEach es env := by intro _; rfl) : ExDs C k N K (e :: es) (fCons f g) := fun A env s σ vs X E pos R o ke c i w q => by
  unfold fCons at q
  obtain ⟨v, hv, q⟩ := Option.bind_eq_some_iff.mp q
  obtain ⟨vs', hvs, rfl⟩ := Option.map_eq_some_iff.mp q
  refine ⟨by simp [(h' A env s σ vs' X E pos R o ke c i w hvs).1], args_cons (wpAny_mono (h A env s σ v X E R o ke c i w hv) (fun rv s₁ p => ?_) fun _ _ x => x) (he env)⟩
  refine wpAny_mono (h' A env s₁ σ vs' X E pos R o ke (c.le p.1.le) (i.le p.1.le) (w.le p.1.le) hvs).2 (fun rvs s₂ p' => ?_) fun _ _ x => x
  exact ⟨p.1.trans p'.1, VRels.cons (p.2.wide (Hle.refl _) p'.1.le) (p'.2.wide p.1.le (Hle.refl _))⟩
theorem Ex_List {es : List Expr} {pos : Pos} {g : Sg → Option (List V)} (h : ExDs C k N K es g) (hz : es.length ≤ 100 := by decide) : ExF C k N K (.List es pos) (fun σ => (g σ).map .lst) := fun A env s σ v X E R o ke c i w q => by
  obtain ⟨vs, hvs, rfl⟩ := Option.map_eq_some_iff.mp q
  obtain ⟨hl, h⟩ := h A env s σ vs X E pos R o ke c i w hvs
  refine wpAny_List_spliced (wpAny_mono h (fun rvs s₁ p => ?_) fun _ _ x => x)
  refine ⟨by rw [p.2.length, hl]; unfold sizeLine; omega, p.1.trans (Kp.push _ _), ?_⟩
  have := new_lstF p.1.le (i.le p.1.le) p.2
  exact this
theorem Ex_Tuple {es : List Expr} {n : Nat} {pos : Pos} {g : Sg → Option (List V)} (h : ExDs C k N K es g) (hz : es.length ≤ 100 := by decide) : ExF C k N K (.Tuple es n pos) (fun σ => (g σ).map .tup) := fun A env s σ v X E R o ke c i w q => by
  obtain ⟨vs, hvs, rfl⟩ := Option.map_eq_some_iff.mp q
  obtain ⟨hl, h⟩ := h A env s σ vs X E pos R o ke c i w hvs
  refine wpAny_Tuple_spliced (wpAny_mono h (fun rvs s₁ p => ?_) fun _ _ x => x)
  refine ⟨by rw [p.2.length, hl]; unfold sizeLine; omega, p.1.trans (Kp.push _ _), ?_⟩
  have := new_tupF p.1.le (i.le p.1.le) p.2
  exact this
/-- a and b, as a value: both are bools -/
noncomputable def fAndV (f g : Sg → Option V) : Sg → Option V := fun σ => (f σ).bind fun a => match a with
  | .bool true => g σ
  | .bool false => some (.bool false)
  | _ => none
theorem Ex_AndV {e e' : Expr} {pos : Pos} {f g : Sg → Option V} (h : ExB C k N K e f) (h' : ExF C k N K e' g) : ExF C k N K (.BoolOp .And [e, e'] pos) (fAndV f g) := fun A env s σ v X E R o ke c i w q => by
  unfold fAndV at q
  obtain ⟨a, ha, q⟩ := Option.bind_eq_some_iff.mp q
  refine BoolOp_and (wpAny_mono (h A env s σ a X E R o ke c i w ha) (fun ra s' p => ?_) fun _ _ x => x)
  split at q
  · rw [p.2.bool']
    refine wpAny_truthy_bool ?_
    rw [if_pos rfl]
    refine BoolOp_one (wpAny_mono (h' A env s' σ v X E R o ke (c.le p.1.le) (i.le p.1.le) (w.le p.1.le) q) (fun rv s'' p' => ⟨p.1.trans p'.1, p'.2.wide p.1.le (Hle.refl _)⟩) fun _ _ x => x)
  · cases q
    rw [p.2.bool']
    refine wpAny_truthy_bool ?_
    rw [if_neg Bool.false_ne_true]
    exact ⟨p.1, pBool⟩
  · cases q
/-- what an expression gives is guarded while names are bound to its parts -/
theorem St.bindsS {X : Addr → Prop} {G : PH} {s₀ s s' : Shared} {env : Env} {A : Around} {E : Value → Shared → Prop} {Q : Shared → Prop} {m cm : Str → Option Value} {ow : Nat → List Addr} {σ : Sg} (w : StW C X N G s₀ env σ s m cm ow) (fe : FnEnv N env) (o : EnvOk env) (c : C.Ok s₀.heap) (kp : Kp s s')
    {is : List Nat} {xs : List Str} {vs : List V} {rvs : List Value} {s₂ : Shared} (k₂ : Kp s' s₂) (hx : is.map (N[·]?) = xs.map some) (r : VRels (rd (fun a => X a ∨ Owned env ow a) s'.heap) vs rvs) (hl : vs.length = xs.length) (h : ∀ s'', St C X N G s₀ env (setAll σ is vs) s'' → Q s'') : wpSt C A env E Q xs rvs s₂ := by
  have w₂ := w.kp (kp.trans k₂)
  let P : PH := rd (fun a => (X a ∨ Owned env ow a) ∨ a ∈ C.T) s'.heap
  have rP : VRels P vs rvs := r.monoC fun a o hc p => ⟨p.1, fun z => z.elim p.2 fun z => by obtain ⟨o', e, q'⟩ := (w.kp kp).tabs a z; rw [p.1] at e; cases e; exact hc q'.1⟩
  have w₃ : StW C X N (fun a o => G a o ∨ P a o) s₀ env σ s₂ m cm ow := w₂.guard (fun a o h => h.elim (w₂.prot a o) fun h => ⟨k₂.le a o h.1, fun q => h.2 (.inl (.inr q))⟩) fun a o h => h.elim (w₂.gT a o) fun h q => h.2 (.inr q)
  exact St.binds (P := P) fe o c (fun a o p => ⟨.inr p, fun q => p.2 (.inl (.inl q))⟩) ⟨m, cm, ow, w₃⟩ hx rP hl fun s'' w'' => h s'' (w''.weak fun a o h => .inl h)
noncomputable def fSetTup (sp : V → Option (List V)) (n : Nat) (is : List Nat) (f : Sg → Option V) : Sg → Rs := fun σ => (f σ).bind fun v => (fSp sp n is v σ).map fun σ' => (.next, σ')
theorem S1_AssignTup {es : List Expr} {n : Nat} {tp pos : Pos} {e : Expr} {f : Sg → Option V} {xs : List Str} {sp : V → Option (List V)} (is : List Nat) (ht : Tg C (.Tuple es n tp) xs sp) (hx : is.map (N[·]?) = xs.map some) (h : ExS C k N K e f)
    (hs : ∀ env, K env → swapsWithSole [.Tuple es n tp] e pos.line env = pure false := by intro _ _; rfl) (hw : ∀ env, K env → swappedStores [.Tuple es n tp] e env = pure none := by intro _ _; rfl) :
    S1 C k N K (.Assign [.Tuple es n tp] e pos) (fSetTup sp xs.length is f) := fun A env s₀ s σ σ' fl X G E R o fe ke c w q => by
  unfold fSetTup at q
  obtain ⟨v, hv, q⟩ := Option.bind_eq_some_iff.mp q
  obtain ⟨σ₁, hσ, q⟩ := Option.map_eq_some_iff.mp q
  cases q
  unfold fSp at hσ
  obtain ⟨us, hus, hσ⟩ := Option.bind_eq_some_iff.mp hσ
  split at hσ
  rotate_left
  · cases hσ
  rename_i hlen
  cases hσ
  obtain ⟨m, cm, ow, w⟩ := w
  refine Assign_Tuple (wpAny_mono (h A env s₀ s σ v X G m cm ow E R o fe ke c w hv) (fun rv s₁ p => ?_) fun _ _ x => x) (hs env ke) (hw env ke)
  refine ht A env s₁ v us rv _ E (fun s' => St C X N G s₀ env (setAll σ is us) s' ∧ FlRel (rdF X s₀.heap s'.heap) .next .next) R.handled (fun a o p => p.1) p.2 hus fun rvs s₂ k₂ r => ?_
  exact St.bindsS w fe o c p.1 k₂ hx r hlen fun s'' w'' => ⟨w'', rfl⟩
/-- x, y = a, b: the stores are made from the last to the first -/
theorem S1_AssignSwap {es : List Expr} {n : Nat} {tp pos : Pos} {e : Expr} {f : Sg → Option V} {x y : Str} (i j : Nat) (hx : N[i]? = some x) (hy : N[j]? = some y) (h : ExS C k N K e f)
    (hs : ∀ env, K env → swapsWithSole [.Tuple es n tp] e pos.line env = pure false := by intro _ _; rfl) (hw : ∀ env, K env → swappedStores [.Tuple es n tp] e env = pure (some [x, y])) :
    S1 C k N K (.Assign [.Tuple es n tp] e pos) (fun σ => (f σ).bind fun v => (spTwo v).map fun us => (.next, setAll σ [j, i] us.reverse)) := fun A env s₀ s σ σ' fl X G E R o fe ke c w q => by
  obtain ⟨v, hv, q⟩ := Option.bind_eq_some_iff.mp q
  obtain ⟨us, hus, q⟩ := Option.map_eq_some_iff.mp q
  cases q
  unfold spTwo at hus
  split at hus
  rotate_left
  · cases hus
  rename_i a b
  cases hus
  obtain ⟨m, cm, ow, w⟩ := w
  refine Assign_Tuple_swapped (wpAny_mono (h A env s₀ s σ _ X G m cm ow E R o fe ke c w hv) (fun rv s₁ p => ?_) fun _ _ x => x) (hs env ke) (hw env ke)
  obtain ⟨t, its, nn, rfl, g, r⟩ := p.2.tup'
  obtain ⟨ra, rb, e', r1, r2⟩ := r.two'
  have hz : its.size = 2 := by have := congrArg List.length e'; simpa using this
  have := wpAny_unpackItems_tuple (prog := C.prog) (w := C.w) (A := A) (E := E) (s := s₁) (t := t) (items := its) (Q := fun items s₂ =>
      wpAny C.M A (assignInOrder ([x, y].reverse.map fun n => bindName env n) items.reverse) (fun _ s' => St C X N G s₀ env (setAll σ [j, i] [a, b].reverse) s' ∧ FlRel (rdF X s₀.heap s'.heap) .next .next) E s₂) R.handled (isTuple_of g.1) fun h' hx' => ?_
  · rw [hz] at this; exact this
  rw [e']
  have kp : Kp s₁ { s₁ with heap := h' } := ⟨⟨s₁.toks, rfl⟩, fun b o e => hx' b o (Nat.ne_of_lt (Heap.lt_size e)) e⟩
  have z := St.bindsS (A := A) (E := E) (Q := fun s' => St C X N G s₀ env (setAll σ [j, i] [b, a]) s' ∧ FlRel (rdF X s₀.heap s'.heap) .next .next) w fe o c p.1 kp (is := [j, i]) (xs := [y, x]) (vs := [b, a]) (rvs := [rb, ra]) (by simp [hx, hy]) (VRels.cons r2 (VRels.one r1)) rfl fun s'' w'' => ⟨w'', rfl⟩
  show wpAny C.M A (assignInOrder [bindName env y, bindName env x] [rb, ra]) _ E _
  refine wpAny_assignInOrder_more (bindName_ (wpAny_mono z (fun _ s₃ h₃ => ?_) fun _ _ x => x))
  refine wpAny_assignInOrder_more (bindName_ (wpAny_mono h₃ (fun _ s₄ h₄ => ?_) fun _ _ x => x))
  exact wpAny_assignInOrder_none h₄
/-- x = y = z = e -/
theorem S1_Three {x y z : Str} {px py pz pos : Pos} {e : Expr} {f : Sg → Option V} (i j l : Nat) (hx : N[i]? = some x) (hy : N[j]? = some y) (hz : N[l]? = some z) (h : ExS C k N K e f)
    (hw : ∀ env, K env → swappedStores [.Name x px, .Name y py, .Name z pz] e env = pure none := by intro _ _; rfl) :
    S1 C k N K (.Assign [.Name x px, .Name y py, .Name z pz] e pos) (fun σ => (f σ).map fun v => (.next, setAll σ [i, j, l] [v, v, v])) := fun A env s₀ s σ σ' fl X G E R o fe ke c w q => by
  obtain ⟨v, hv, q⟩ := Option.map_eq_some_iff.mp q
  cases q
  obtain ⟨m, cm, ow, w⟩ := w
  refine wpAny_Assign_three (wpAny_mono (h A env s₀ s σ v X G m cm ow E R o fe ke c w hv) (fun rv s₁ p => ?_) fun _ _ x => x) rfl (hw env ke)
  have zz := St.bindsS (A := A) (E := E) (Q := fun s' => St C X N G s₀ env (setAll σ [i, j, l] [v, v, v]) s' ∧ FlRel (rdF X s₀.heap s'.heap) .next .next) w fe o c p.1 (Kp.refl _) (is := [i, j, l]) (xs := [x, y, z]) (vs := [v, v, v]) (rvs := [rv, rv, rv]) (by simp [hx, hy, hz]) (VRels.cons p.2 (VRels.cons p.2 (VRels.one p.2))) rfl fun s'' w'' => ⟨w'', rfl⟩
  exact wpAny_assign_Name (wpAny_mono zz (fun _ s₂ h₂ => wpAny_assign_Name (wpAny_mono h₂ (fun _ s₃ h₃ => wpAny_assign_Name h₃) fun _ _ x => x)) fun _ _ x => x)
end
end Mine
set_option Elab.async false
set_option linter.unusedVariables false
set_option maxRecDepth 100000
namespace Mine
open PySem PySem.W PyProof.Rows
section
variable {prog : Program} {w : World} {A : Around} {E : Value → Shared → Prop} {R : Result → Shared → Prop} {s : Shared}
/-- the loop of a comprehension, whatever its target -/
theorem compLoop_any {elt target iter : Expr} {ifs : List Expr} {scope : Scope} {pos : Pos} {it acc : Value} {env : Env} (I : Nat → Shared → Prop)
    (turn : ∀ n s, I n s → wpAny (model prog w) A (pyNext it) (fun r s₁ => match r with
      | none => R (.ok .next) s₁
      | some v => wpAny (model prog w) A (letOwnedTupleGo target it v) (fun _ s₁' => wpAny (model prog w) A (assign target env v) (fun _ s₂ =>
          wpAny (model prog w) A (forIn ifs true fun c r => if r = true then do let ok ← isTrue c env (eval c env); pure (ForInStep.yield ok) else pure (ForInStep.yield r)) (fun ok s₃ =>
            if ok = true then wpAny (model prog w) A (eval elt env) (fun x s₄ =>
              wpAny (model prog w) A (call (.builtin "list.append") [acc, x]) (fun _ s₅ => ∃ m, m < n ∧ I m s₅) (notedBy (model prog w) A env fun e s' => R (.error e) s') s₄) (notedBy (model prog w) A env fun e s' => R (.error e) s') s₃
            else ∃ m, m < n ∧ I m s₃) (notedBy (model prog w) A env fun e s' => R (.error e) s') s₂) (notedBy (model prog w) A env fun e s' => R (.error e) s') s₁') (notedBy (model prog w) A env fun e s' => R (.error e) s') s₁) (notedBy (model prog w) A env fun e s' => R (.error e) s') s)
    (n : Nat) (h : I n s) : codeAny (model prog w) A (.compLoop (.ListComp elt [⟨target, iter, ifs, 0⟩] scope pos) 0 it acc env) R s := by
  refine codeAny_loop rfl I (fun n s hI => ?_) n h
  show wpAny _ A ((compTurn (.ListComp elt [⟨target, iter, ifs, 0⟩] scope pos) 0 it acc env).onRaise (fun x => do noteFrame x env; theTreesLotGoes x)) _ _ s
  refine wpAny_noted ?_
  rw [compTurn_list]
  refine wpAny_bind (wpAny_standAt (wpAny_bind (wpAny_mono (turn n s hI) (fun r s₁ h₁ => ?_) fun _ _ h' => h')))
  cases r with
  | none => exact wpAny_pure h₁
  | some v =>
    refine wpAny_bind (wpAny_mono h₁ (fun _ s₁' h₁' => ?_) fun _ _ h' => h')
    refine wpAny_bind (wpAny_mono h₁' (fun _ s₂ h₂ => wpAny_bind (wpAny_mono h₂ (fun ok s₃ h₃ => ?_) fun _ _ h' => h')) fun _ _ h' => h')
    cases ok with
    | false => exact wpAny_pure ⟨rfl, h₃⟩
    | true => exact wpAny_bind (wpAny_bind (wpAny_mono h₃ (fun x s₄ h₄ => wpAny_bind (wpAny_mono h₄ (fun _ s₅ h₅ => wpAny_pure (wpAny_pure ⟨rfl, h₅⟩)) fun _ _ h' => h')) fun _ _ h' => h'))
end
theorem cellsFrom_app : ∀ (names : List (Str × NameKind)) (n : Nat) (acc : List (Str × Addr)), cellsFrom n names acc = cellsFrom n names [] ++ acc
  | [], n, acc => rfl
  | (x, k) :: r, n, acc => by
    unfold cellsFrom
    split
    · rw [cellsFrom_app r (n + 1) ((x, n) :: acc), cellsFrom_app r (n + 1) [(x, n)], List.append_assoc]; rfl
    · exact cellsFrom_app r n acc
theorem cellsFrom_none : ∀ (names : List (Str × NameKind)) (n : Nat) (x : Str), (∀ y ∈ names, y.2 = .cell → y.1 ≠ x) → (cellsFrom n names []).lookup x = none
  | [], n, x, _ => rfl
  | (y, k) :: r, n, x, h => by
    unfold cellsFrom
    split
    · rename_i hk
      have hk' : k = .cell := by simpa using hk
      rw [cellsFrom_app, List.lookup_append, cellsFrom_none r (n + 1) x fun z hz => h z (List.mem_cons_of_mem _ hz)]
      have := h (y, k) List.mem_cons_self hk'
      have hb : (x == y) = false := beq_eq_false_iff_ne.mpr (Ne.symm this)
      simp [List.lookup, hb]
    · exact cellsFrom_none r n x fun z hz => h z (List.mem_cons_of_mem _ hz)
theorem lookup_snd (g : Str → NameKind → NameKind) (x : Str) : ∀ (l : List (Str × NameKind)), (l.map fun y => (y.1, g y.1 y.2)).lookup x = (l.lookup x).map (g x)
  | [] => rfl
  | (n, k) :: r => by
    rw [List.map_cons, List.lookup_cons, List.lookup_cons]
    cases hx : x == n with
    | true => have e : x = n := beq_iff_eq.mp hx; subst e; rfl
    | false => exact lookup_snd g x r
noncomputable def relK (env : Env) (x : Str) (k : NameKind) : NameKind := if (k == NameKind.free && env.scope.kind == .function && env.kindOf x == some .cell) = true then .cell else k
theorem lookup_relabel {env : Env} (x : Str) (scope : Scope) : (relabel scope env).names.lookup x = (scope.names.lookup x).map (relK env x) := by
  rw [← lookup_snd]
  unfold relabel
  congr 1
  apply List.map_congr_left
  intro y _
  obtain ⟨n, k⟩ := y
  show (if _ then _ else _) = (n, relK env n k)
  unfold relK
  split <;> rfl
theorem closure_go {env : Env} (f : Str × NameKind → List (Str × Addr) → Sem (ForInStep (List (Str × Addr))))
    (hf : ∀ name kind r, f (name, kind) r = if kind == .free then (do let c ← cellOf env name; pure (.yield ((name, c) :: r))) else pure (.yield r)) :
    ∀ (names : List (Str × NameKind)) (acc : List (Str × Addr)), (∀ x ∈ names, x.2 = .free → ∃ c, env.cells.lookup x.1 = some c) →
      ∃ cl, forIn names acc f = pure (cl ++ acc) ∧ (∀ x, (∃ y ∈ names, y.1 = x ∧ y.2 = .free) → cl.lookup x = env.cells.lookup x) ∧ ∀ x, (¬ ∃ y ∈ names, y.1 = x ∧ y.2 = .free) → cl.lookup x = none := by
  intro names
  induction names with
  | nil => intro acc _; exact ⟨[], rfl, (fun x h => by obtain ⟨y, hy, _⟩ := h; cases hy), fun _ _ => rfl⟩
  | cons y r ih =>
    intro acc hh
    obtain ⟨n, k⟩ := y
    have hr : ∀ x ∈ r, x.2 = .free → ∃ c, env.cells.lookup x.1 = some c := fun x hx => hh x (List.mem_cons_of_mem _ hx)
    rw [List.forIn_cons, hf]
    by_cases hk : k = .free
    · subst hk
      obtain ⟨c, hc⟩ := hh (n, .free) List.mem_cons_self rfl
      obtain ⟨cl, e, q, q'⟩ := ih ((n, c) :: acc) hr
      refine ⟨cl ++ [(n, c)], ?_, fun x hx => ?_, fun x hx => ?_⟩
      · have e1 : cellOf env n = pure c := by unfold cellOf; rw [hc]
        simp only [beq_self_eq_true, if_true, e1]
        rw [List.append_assoc]
        exact e
      · rw [List.lookup_append]
        by_cases hr' : ∃ y ∈ r, y.1 = x ∧ y.2 = .free
        · rw [q x hr']
          obtain ⟨y, hy, e1, e2⟩ := hr'
          obtain ⟨c', hc'⟩ := hr y hy e2
          rw [← e1, hc']; rfl
        · rw [q' x hr']
          obtain ⟨y, hy, e1, e2⟩ := hx
          rcases List.mem_cons.mp hy with e3 | hy
          · subst e3
            have e4 : n = x := e1
            subst e4
            simp [List.lookup, hc]
          · exact absurd ⟨y, hy, e1, e2⟩ hr'
      · have h1 : ¬ ∃ y ∈ r, y.1 = x ∧ y.2 = .free := fun ⟨y, hy, e⟩ => hx ⟨y, List.mem_cons_of_mem _ hy, e⟩
        have h2 : (x == n) = false := beq_eq_false_iff_ne.mpr fun e => hx ⟨(n, .free), List.mem_cons_self, e.symm, rfl⟩
        rw [List.lookup_append, q' x h1]
        simp [List.lookup, h2]
    · obtain ⟨cl, e, q, q'⟩ := ih acc hr
      refine ⟨cl, ?_, fun x hx => ?_, fun x hx => q' x fun ⟨y, hy, e⟩ => hx ⟨y, List.mem_cons_of_mem _ hy, e⟩⟩
      · have : (k == NameKind.free) = false := by simpa using hk
        rw [this]
        exact e
      · obtain ⟨y, hy, e1, e2⟩ := hx
        rcases List.mem_cons.mp hy with e3 | hy
        · subst e3; exact absurd e2 hk
        · exact q x ⟨y, hy, e1, e2⟩
theorem closure_fin {env : Env} (f : Str × NameKind → List (Str × Addr) → Sem (ForInStep (List (Str × Addr)))) (names : List (Str × NameKind))
    (hf : ∀ name kind r, f (name, kind) r = if kind == .free then (do let c ← cellOf env name; pure (.yield ((name, c) :: r))) else pure (.yield r)) (h : ∀ x ∈ names, x.2 = .free → ∃ c, env.cells.lookup x.1 = some c) :
    ∃ cl, (forIn names [] f >>= fun r => pure r) = pure cl ∧ ∀ x, names.lookup x = some .free → cl.lookup x = env.cells.lookup x := by
  obtain ⟨cl, e, q, _⟩ := closure_go f hf names [] h
  refine ⟨cl, ?_, fun x hx => q x ⟨(x, .free), mem_of_lookup hx, rfl, rfl⟩⟩
  rw [e, List.append_nil]
  rfl
theorem closure_is {scope : Scope} {env : Env} (h : ∀ x ∈ scope.names, x.2 = .free → ∃ c, env.cells.lookup x.1 = some c) :
    ∃ cl, closureFor scope env = pure cl ∧ ∀ x, scope.names.lookup x = some .free → cl.lookup x = env.cells.lookup x := by
  unfold closureFor
  refine closure_fin _ scope.names (fun name kind r => ?_) h
  cases hkc : kind == NameKind.free <;> simp [hkc]
section
variable {M : Model} {A : Around} {E : Value → Shared → Prop} {s : Shared}
/-- the frame of a comprehension is laid -/
theorem compFrame {scope : Scope} {cl : List (Str × Addr)} {env : Env} {Q : Env → Shared → Prop}
    (hQ : ∀ h', h' = pushCells (s.heap.push { cls := .type "dict", data := .dict #[] }) scope.names →
      Q { scope, locals := s.heap.objs.size, globals := env.globals, cells := cellsFrom (s.heap.objs.size + 1) scope.names [] ++ cl, qual := env.qual, func := none, code := env.code, frame := env.frame, builtins := env.builtins } { s with heap := h' }) :
    wpAny M A (newFunctionEnv scope env.globals cl [] env.qual none .none (some env)) Q E s := by
  simp only [newFunctionEnv, Option.isSome_some, if_true]
  refine wpAny_bind (wpAny_alloc ?_)
  refine wpAny_bind (wpAny_layCells _ (fun name kind cells => by cases hkc : kind == NameKind.cell <;> simp [hkc]) _ _ _ _ ?_)
  rw [show ({ s with heap := s.heap.push { cls := .type "dict", data := .dict #[] } } : Shared).heap.objs.size = s.heap.objs.size + 1 from Heap.size_push ..]
  rw [cellsFrom_app, List.forIn_nil]
  exact wpAny_bind (wpAny_pure (wpAny_pure (hQ _ rfl)))
end
end Mine
set_option Elab.async false
set_option linter.unusedVariables false
set_option maxRecDepth 100000
namespace Mine
open PySem PySem.W PyProof.Rows
/-- the clauses behind if -/
noncomputable def TxL (C : Cx) (k : Nat) (N : List Str) (K : Env → Prop) (ifs : List Expr) (t : Sg → Option Bool) : Prop :=
  ∀ (A : Around) (env : Env) (s : Shared) (σ : Sg) (b : Bool) (X : Addr → Prop) (E : Value → Shared → Prop), Rm k A → EnvOk env → K env → C.Ok s.heap → InH X s.heap → View X N σ env s.heap → t σ = some b →
    wpAny C.M A (forIn ifs true fun c r => if r = true then do let ok ← isTrue c env (eval c env); pure (ForInStep.yield ok) else pure (ForInStep.yield r)) (fun ok s' => Kp s s' ∧ ok = b) E s
section
variable {C : Cx} {k : Nat} {N : List Str} {K : Env → Prop}
theorem TL_nil : TxL C k N K [] (fun _ => some true) := fun A env s σ b X E R o ke c i w q => by
  cases q
  exact wpAny_tests_nil ⟨Kp.refl s, rfl⟩
theorem TL_one {c : Expr} {g : Sg → Option Bool} (h : Tx C k N K c g) : TxL C k N K [c] g := fun A env s σ b X E R o ke cc i w q => wpAny_tests_one (h A env s σ b X E R o ke cc i w q)
end
/-- a comprehension's own frame -/
noncomputable def Fro (cenv : Env) (own : List (Str × Addr)) (a : Addr) : Prop := a = cenv.locals ∨ ∃ n, own.lookup n = some a
structure CF (cenv : Env) (own : List (Str × Addr)) (s : Shared) (m cm : Str → Option Value) : Prop where
  ns : s.heap.Ns cenv.locals m
  cell : ∀ n c, own.lookup n = some c → s.heap.IsCell c (cm n)
structure CEnv (cenv : Env) (own : List (Str × Addr)) (tn : List Str) : Prop where
  eo : EnvOk cenv
  kinds : ∀ x ∈ tn, cenv.kindOf x = some .local ∨ (cenv.kindOf x = some .cell ∧ ∃ c, own.lookup x = some c)
  sub : ∀ x c, own.lookup x = some c → cenv.cells.lookup x = some c
  apart : own.Pairwise fun x y => x.2 ≠ y.2
  off : ∀ n c, (n, c) ∈ own → c ≠ cenv.locals
theorem Bu.wider {wr wr' : Addr → Prop} {s s' : Shared} (b : Bu wr s s') (h : ∀ a, wr a → wr' a) : Bu wr' s s' := ⟨b.same, fun a o n e => b.keep a o (fun q => n (h a q)) e⟩
theorem Bu.sameBut {f : Addr} {wr : Addr → Prop} {s : Shared} {h' : Heap} {tk : Nat} (hs : Heap.SameBut f s.heap h') (hf : wr f) : Bu wr s { s with heap := h', toks := tk } := ⟨⟨tk, rfl⟩, fun b o n e => hs.extBut b o (fun q => n (q ▸ hf)) e⟩
section
variable {C : Cx} {A : Around} {E : Value → Shared → Prop} {cenv : Env} {own : List (Str × Addr)} {tn : List Str}
theorem CF.kp {s s' : Shared} {m cm : Str → Option Value} (x : CF cenv own s m cm) (k : Kp s s') : CF cenv own s' m cm := ⟨x.ns.keeps k.le, fun n c h => (x.cell n c h).keeps k.le⟩
theorem CF.bu {wr : Addr → Prop} {s s' : Shared} {m cm : Str → Option Value} (x : CF cenv own s m cm) (b : Bu wr s s') (h : ∀ a, wr a → ¬ Fro cenv own a) : CF cenv own s' m cm :=
  ⟨x.ns.at' fun o e => b.keep _ o (fun q => h _ q (.inl rfl)) e, fun n c hc => let ⟨o, e, q⟩ := x.cell n c hc; ⟨o, b.keep _ o (fun q => h _ q (.inr ⟨n, hc⟩)) e, q⟩⟩
theorem CF.live {s : Shared} {m cm : Str → Option Value} (x : CF cenv own s m cm) {a : Addr} (h : Fro cenv own a) : ∃ o, s.heap.get? a = some o := by
  rcases h with rfl | ⟨n, h⟩
  · obtain ⟨o, _, _, e, _⟩ := x.ns; exact ⟨o, e⟩
  · obtain ⟨o, e, _⟩ := x.cell n a h; exact ⟨o, e⟩
theorem comp_store {x : Str} {rv : Value} {s : Shared} {m cm : Str → Option Value} {Q : Unit → Shared → Prop} (ce : CEnv cenv own tn) (cf : CF cenv own s m cm) (hx : x ∈ tn)
    (h : ∀ s' m' cm', CF cenv own s' m' cm' → Bu (Fro cenv own) s s' → (∀ y, vm cenv m' cm' y = if y = x then some rv else vm cenv m cm y) → Q () s') : wpAny C.M A (storeName cenv x rv) Q E s := by
  rcases ce.kinds x hx with e | ⟨e, c, l⟩
  · refine wpAny_storeName_local e cf.ns (fun h' hn' hs' => h _ _ cm ⟨hn', fun n c hc => (cf.cell n c hc).sameBut hs' (ce.off n c (mem_of_lookup hc))⟩ (Bu.sameBut hs' (.inl rfl)) fun y => ?_) (by rw [ce.eo.kind]; rfl)
    unfold vm
    by_cases q : y = x
    · subst q; simp [e]
    · simp [q]
  · refine wpAny_storeName_cell ce.eo.kind e (ce.sub x c l) (cf.cell x c l) fun h' hc' hs' => h _ m (fun y => if y = x then some rv else cm y) ⟨cf.ns.sameBut hs' (Ne.symm (ce.off x c (mem_of_lookup l))), fun n c' hc => ?_⟩ (Bu.sameBut (tk := s.toks) hs' (.inr ⟨x, l⟩)) fun y => ?_
    · by_cases q : n = x
      · subst q; rw [l] at hc; cases hc; simpa using hc'
      · rw [if_neg q]
        exact (cf.cell n c' hc).sameBut hs' fun e' => q (name_of_addr ce.apart (mem_of_lookup hc) (e' ▸ mem_of_lookup l))
    · unfold vm
      by_cases q : y = x
      · subst q; simp [e]
      · simp [q]
theorem comp_stores {Q : Shared → Prop} (ce : CEnv cenv own tn) : ∀ {xs : List Str} {rvs : List Value} {s : Shared} {m cm : Str → Option Value}, (∀ x ∈ xs, x ∈ tn) → xs.Nodup → xs.length = rvs.length → CF cenv own s m cm →
    (∀ s' m' cm', CF cenv own s' m' cm' → Bu (Fro cenv own) s s' → (∀ y, vm cenv m' cm' y = ((xs.zip rvs).lookup y).or (vm cenv m cm y)) → Q s') → wpSt C A cenv E Q xs rvs s
  | [], [], s, m, cm, _, _, _, cf, h => h s m cm cf (Kp.refl s).bu fun y => rfl
  | x :: xs, rv :: rvs, s, m, cm, hx, hn, hl, cf, h => by
    unfold wpSt
    obtain ⟨hn1, hn2⟩ := List.nodup_cons.mp hn
    refine comp_store ce cf (hx x List.mem_cons_self) fun s₁ m₁ cm₁ cf₁ b₁ e₁ => ?_
    refine comp_stores ce (fun y hy => hx y (List.mem_cons_of_mem _ hy)) hn2 (by simpa using hl) cf₁ fun s₂ m₂ cm₂ cf₂ b₂ e₂ => ?_
    refine h s₂ m₂ cm₂ cf₂ (b₁.trans b₂) fun y => ?_
    rw [e₂, e₁, List.zip_cons_cons, List.lookup_cons]
    by_cases q : y = x
    · subst q
      rw [beq_self_eq_true, if_pos rfl]
      have : (xs.zip rvs).lookup y = none := by
        rw [List.lookup_eq_none_iff]
        intro z hz
        exact bne_iff_ne.mpr fun e => hn1 (e ▸ (List.of_mem_zip hz).1)
      rw [this]; rfl
    · rw [if_neg q, beq_eq_false_iff_ne.mpr q]
  | [], _ :: _, _, _, _, _, _, hl, _, _ => by cases hl
  | _ :: _, [], _, _, _, _, _, hl, _, _ => by cases hl
end
noncomputable def capsGet (σ : Sg) : List Nat → Option (List V)
  | [] => some []
  | i :: r => (σ.get i).bind fun v => (capsGet σ r).map (v :: ·)
theorem capsGet_get {σ : Sg} : ∀ {caps : List Nat} {cs : List V}, capsGet σ caps = some cs → ∀ {j : Nat} {v : V}, cs[j]? = some v → ∃ i, caps[j]? = some i ∧ σ.get i = some v
  | [], cs, h, j, v, hv => by unfold capsGet at h; cases h; cases hv
  | i :: r, cs, h, j, v, hv => by
    unfold capsGet at h
    obtain ⟨u, hu, h⟩ := Option.bind_eq_some_iff.mp h
    obtain ⟨us, hus, rfl⟩ := Option.map_eq_some_iff.mp h
    cases j with
    | zero => cases hv; exact ⟨i, rfl, hu⟩
    | succ j => exact capsGet_get hus hv
theorem capsGet_len {σ : Sg} : ∀ {caps : List Nat} {cs : List V}, capsGet σ caps = some cs → cs.length = caps.length
  | [], cs, h => by unfold capsGet at h; cases h; rfl
  | i :: r, cs, h => by
    unfold capsGet at h
    obtain ⟨u, hu, h⟩ := Option.bind_eq_some_iff.mp h
    obtain ⟨us, hus, rfl⟩ := Option.map_eq_some_iff.mp h
    simp [capsGet_len hus]
noncomputable def fCompGo (sp : V → Option (List V)) (n : Nat) (t : Sg → Option Bool) (f : Sg → Option V) (cs : List V) : List V → Option (List V)
  | [] => some []
  | v :: vs => (sp v).bind fun us => if us.length = n then (t ((us ++ cs).map .val)).bind fun b => if b then (f ((us ++ cs).map .val)).bind fun y => (fCompGo sp n t f cs vs).map (y :: ·) else fCompGo sp n t f cs vs else none
noncomputable def fComp (fi : Sg → Option (List V)) (sp : V → Option (List V)) (n : Nat) (t : Sg → Option Bool) (f : Sg → Option V) (caps : List Nat) : Sg → Option V := fun σ => (fi σ).bind fun xs => (capsGet σ caps).bind fun cs =>
  if xs.length ≤ 100000 then (fCompGo sp n t f cs xs).map .lst else none
/-- what a comprehension leaves -/
structure CompEnd (X : Addr → Prop) (s s' : Shared) (L D : Addr) (ys : List V) : Prop where
  kp : Kp s s'
  fresh : s.heap.get? L = none
  ns : ∃ m, s'.heap.Ns L m
  rel : VRel (rdF (fun a => X a ∨ a = L) s.heap s'.heap) (.lst ys) (.ref D)
/-- the environments within a comprehension -/
noncomputable def CK (K : Env → Prop) (scope : Scope) : Env → Prop := fun cenv => ∃ env, K env ∧ cenv.scope = relabel scope env
structure CompOk (N : List Str) (K : Env → Prop) (scope : Scope) (tn cn : List Str) (caps : List Nat) : Prop where
  kind : scope.kind = .function
  names : ∀ x ∈ scope.names, x.2 = .local → scope.names.lookup x.1 = some .local
  tns : ∀ x ∈ tn, scope.names.lookup x = some .local ∨ scope.names.lookup x = some .cell
  nodup : tn.Nodup
  cns : ∀ x ∈ cn, scope.names.lookup x = some .free
  cellsNot : ∀ x ∈ scope.names, x.2 = .cell → x.1 ∉ cn
  free : ∀ x ∈ scope.names, x.2 = .free → x.1 ∈ cn
  idx : caps.map (N[·]?) = cn.map some
  kinds : ∀ env, K env → ∀ x ∈ cn, env.kindOf x = some .cell ∨ env.kindOf x = some .free
end Mine
set_option Elab.async false
set_option linter.unusedVariables false
set_option maxRecDepth 100000
namespace Mine
open PySem PySem.W PyProof.Rows
theorem lookup_zip' : ∀ {pn : List Str} {rvs : List Value}, pn.Nodup → ∀ {i : Nat} {x : Str} {rv : Value}, pn[i]? = some x → rvs[i]? = some rv → (pn.zip rvs).lookup x = some rv
  | [], _, _, i, x, rv, h, _ => by cases h
  | p :: pn, [], _, i, x, rv, _, h => by cases h
  | p :: pn, r :: rvs, hn, i, x, rv, hx, hr => by
    obtain ⟨hp, hn⟩ := List.nodup_cons.mp hn
    rw [List.zip_cons_cons, List.lookup_cons]
    cases i with
    | zero => cases hx; cases hr; simp
    | succ i =>
      have : x ≠ p := fun e => hp (e ▸ List.mem_of_getElem? hx)
      rw [beq_eq_false_iff_ne.mpr this]
      exact lookup_zip' hn (i := i) hx hr
section
variable {C : Cx} {k : Nat}
/-- the loop of a comprehension -/
theorem comp_loop {elt target iter : Expr} {ifs : List Expr} {scope : Scope} {pos : Pos} {tn cn : List Str} {sp : V → Option (List V)} {t : Sg → Option Bool} {f : Sg → Option V} {K' : Env → Prop}
    (ht : Tg C target tn sp) (htest : TxL C k (tn ++ cn) K' ifs t) (helt : ExF C k (tn ++ cn) K' elt f)
    {A : Around} {cenv : Env} {own : List (Str × Addr)} {wr : Addr → Prop} {G : PH} {R' : Nat → Heap → Prop} {it D : Addr} {xs cs ys : List V} {X : Addr → Prop} {s s₃ : Shared} {Rr : Result → Shared → Prop} (R : Rm k A) (ke : K' cenv) (c : C.Ok s.heap) (i : InH X s.heap) (kp : Kp s s₃)
    (ce : CEnv cenv own tn) (hnd : tn.Nodup) (Yf : ∀ a, (a = D ∨ Fro cenv own a ∨ wr a) → s.heap.get? a = none) (dis : ∀ a, wr a → ¬ Fro cenv own a ∧ a ≠ D) (hDF : ¬ Fro cenv own D)
    (src : Src C it target wr G R' xs) (hG : ∀ a o, G a o → s₃.heap.get? a = some o ∧ ¬ X a ∧ ¬ (a = D ∨ Fro cenv own a ∨ wr a)) (r0 : R' 0 s₃.heap) (cf : CF cenv own s₃ (fun _ => none) (fun _ => none)) (hD : s₃.heap.get? D = some (lstObj #[] 0))
    (vc : ∀ (j : Nat) x v, cn[j]? = some x → cs[j]? = some v → ∃ rv, (∃ cc, (cenv.kindOf x = some .cell ∨ cenv.kindOf x = some .free) ∧ cenv.cells.lookup x = some cc ∧ s.heap.IsCell cc (some rv)) ∧ VRel (rd X s.heap) v rv)
    (hlen : xs.length ≤ 100000) (hys : fCompGo sp tn.length t f cs xs = some ys) (hR : ∀ s', CompEnd X s s' cenv.locals D ys → Rr (.ok .next) s') :
    codeAny C.M A (.compLoop (.ListComp elt [⟨target, iter, ifs, 0⟩] scope pos) 0 (.ref it) (.ref D) cenv) Rr s₃ := by
  let Y : Addr → Prop := fun a => a = D ∨ Fro cenv own a ∨ wr a
  let Pe : Heap → PH := fun h a o => h.get? a = some o ∧ ¬ X a ∧ ¬ Y a ∧ ∀ o', s.heap.get? a = some o' → o'.cls ≠ .type "list"
  have peUp : ∀ {h h' : Heap} a o, (∀ b o, ¬ Y b → h.get? b = some o → h'.get? b = some o) → Pe h a o → Pe h' a o := fun a o hk p => ⟨hk a o p.2.2.1 p.1, p.2⟩
  refine compLoop_any (fun n s' => ∃ j m cm its nn done rest, n = xs.length - j ∧ j ≤ xs.length ∧ Bu Y s₃ s' ∧ CF cenv own s' m cm ∧ R' j s'.heap ∧ s'.heap.get? D = some (lstObj its nn) ∧ VRels (Pe s'.heap) done its.toList ∧ done.length ≤ j ∧
    fCompGo sp tn.length t f cs (xs.drop j) = some rest ∧ ys = done ++ rest) ?_ xs.length ⟨0, _, _, #[], 0, [], ys, rfl, Nat.zero_le _, (Kp.refl _).bu, cf, r0, hD, VRels.nil, Nat.le_refl _, hys, rfl⟩
  rintro n s' ⟨j, m, cm, its, nn, done, rest, rfl, hj, b, cf', rj, hD', hdone, hdl, hrest, hy⟩
  have sKeep : ∀ a o, s.heap.get? a = some o → s'.heap.get? a = some o := fun a o e => b.keep a o (fun q => by rw [Yf a q] at e; cases e) (kp.le a o e)
  have hGs : ∀ a o, G a o → s'.heap.get? a = some o := fun a o g => b.keep a o (hG a o g).2.2 (hG a o g).1
  have Yl : ∀ a, Y a → ∃ o, s'.heap.get? a = some o := fun a h => by
    rcases h with rfl | h | h
    · exact ⟨_, hD'⟩
    · exact cf'.live h
    · exact src.live j _ a rj h
  cases hv : xs[j]? with
  | none =>
    have e : j = xs.length := Nat.le_antisymm hj (by simpa using hv)
    subst e
    rw [List.drop_length] at hrest
    unfold fCompGo at hrest
    cases hrest
    rw [List.append_nil] at hy
    subst hy
    refine wpAny_mono (src.done A s' (fun s'' => Rr (.ok .next) s'') _ R.handled rj hGs fun s'' b₁ => hR s'' ?_) (fun r s'' h => ?_) fun _ _ x => x
    · have bY : Bu Y s' s'' := b₁.wider fun a h => .inr (.inr h)
      have k2 : Kp s s'' := by
        refine ⟨?_, fun a o e => b₁.keep a o (fun q => by rw [Yf a (.inr (.inr q))] at e; cases e) (sKeep a o e)⟩
        obtain ⟨tk, e⟩ := kp.same
        obtain ⟨tk', e'⟩ := (b.trans bY).same
        exact ⟨tk', by rw [e']; rw [e]⟩
      refine ⟨k2, Yf _ (.inr (.inl (.inl rfl))), ⟨m, (cf'.bu b₁ fun a h => (dis a h).1).ns⟩, ?_⟩
      unfold VRel
      refine ⟨D, its, nn, rfl, ⟨b₁.keep D _ (fun q => (dis D q).2 rfl) hD', fun q => ?_, fun o' e => by rw [Yf D (.inl rfl)] at e; cases e⟩, hdone.le fun a o p => ⟨b₁.keep a o (fun q => p.2.2.1 (.inr (.inr q))) p.1, fun q => ?_, p.2.2.2⟩⟩
      · rcases q with q | q
        · obtain ⟨o', e⟩ := i D q; rw [Yf D (.inl rfl)] at e; cases e
        · exact hDF (.inl q)
      · rcases q with q | q
        · exact p.2.1 q
        · exact p.2.2.1 (.inr (.inl (.inl q)))
    · obtain ⟨rfl, h⟩ := h
      exact h
  | some v =>
    have hlt : j < xs.length := (List.getElem?_eq_some_iff.mp hv).1
    have hd : xs.drop j = v :: xs.drop (j + 1) := by
      rw [List.drop_eq_getElem_cons hlt, (List.getElem?_eq_some_iff.mp hv).2]
    rw [hd] at hrest
    unfold fCompGo at hrest
    obtain ⟨us, hus, hrest⟩ := Option.bind_eq_some_iff.mp hrest
    split at hrest
    rotate_left
    · cases hrest
    rename_i hul
    obtain ⟨bt, hbt, hrest⟩ := Option.bind_eq_some_iff.mp hrest
    refine wpAny_mono (src.item A j s' v (fun rv s₁ => wpAny C.M A (assign target cenv rv) (fun _ s₂ =>
          wpAny C.M A (forIn ifs true fun c r => if r = true then do let ok ← isTrue c cenv (eval c cenv); pure (ForInStep.yield ok) else pure (ForInStep.yield r)) (fun ok s₃' =>
            if ok = true then wpAny C.M A (eval elt cenv) (fun x s₄ =>
              wpAny C.M A (call (.builtin "list.append") [.ref D, x]) (fun _ s₅ => ∃ mm, mm < xs.length - j ∧ ∃ j m cm its nn done rest, mm = xs.length - j ∧ j ≤ xs.length ∧ Bu Y s₃ s₅ ∧ CF cenv own s₅ m cm ∧ R' j s₅.heap ∧ s₅.heap.get? D = some (lstObj its nn) ∧ VRels (Pe s₅.heap) done its.toList ∧ done.length ≤ j ∧
                fCompGo sp tn.length t f cs (xs.drop j) = some rest ∧ ys = done ++ rest) (notedBy C.M A cenv fun e s' => Rr (.error e) s') s₄) (notedBy C.M A cenv fun e s' => Rr (.error e) s') s₃'
            else ∃ mm, mm < xs.length - j ∧ ∃ j m cm its nn done rest, mm = xs.length - j ∧ j ≤ xs.length ∧ Bu Y s₃ s₃' ∧ CF cenv own s₃' m cm ∧ R' j s₃'.heap ∧ s₃'.heap.get? D = some (lstObj its nn) ∧ VRels (Pe s₃'.heap) done its.toList ∧ done.length ≤ j ∧
                fCompGo sp tn.length t f cs (xs.drop j) = some rest ∧ ys = done ++ rest) (notedBy C.M A cenv fun e s' => Rr (.error e) s') s₂) (notedBy C.M A cenv fun e s' => Rr (.error e) s') s₁) _ R.handled hv rj hGs fun rv s₁ b₁ r₁ rel => ?_) (fun r s₁ h => ?_) fun _ _ x => x
    rotate_left
    · obtain ⟨rv, rfl, h⟩ := h
      exact h
    let P : PH := fun a o => s₁.heap.get? a = some o ∧ (G a o ∨ (s'.heap.get? a = none ∧ ¬ wr a))
    have hP : ∀ a o, P a o → ¬ X a ∧ ¬ Y a := fun a o p => by
      rcases p.2 with g | ⟨g, g'⟩
      · exact (hG a o g).2
      · refine ⟨fun q => ?_, fun q => ?_⟩
        · obtain ⟨o', e⟩ := i a q; rw [sKeep a o' e] at g; cases g
        · obtain ⟨o', e⟩ := Yl a q; rw [e] at g; cases g
    have cf₁ := cf'.bu b₁ fun a h => (dis a h).1
    refine ht A cenv s₁ v us rv P _ _ R.handled (fun a o p => p.1) rel hus fun rvs s₂ k₂ rs => ?_
    have hrl : tn.length = rvs.length := by rw [rs.length, hul]
    refine comp_stores (C := C) (tn := tn) ce (fun _ h => h) hnd hrl (cf₁.kp k₂) fun s₄ m₄ cm₄ cf₄ b₄ vm₄ => ?_
    -- from the draw to here
    have b₅ : Bu Y s' s₄ := ((b₁.wider fun a h => .inr (.inr h)).trans k₂.bu).trans (b₄.wider fun a h => .inr (.inl h))
    have r₄ : R' (j + 1) s₄.heap := src.frame _ _ _ r₁ fun a o ha e => b₄.keep a o (dis a ha).1 (k₂.le a o e)
    have hD₄ : s₄.heap.get? D = some (lstObj its nn) := b₄.keep D _ hDF (k₂.le D _ (b₁.keep D _ (fun q => (dis D q).2 rfl) hD'))
    have sKeep₄ : ∀ a o, s.heap.get? a = some o → s₄.heap.get? a = some o := fun a o e => b₅.keep a o (fun q => by rw [Yf a q] at e; cases e) (sKeep a o e)
    have c₄ : C.Ok s₄.heap := c.le sKeep₄
    have i₄ : InH (fun a => X a ∨ Y a) s₄.heap := fun a h => by
      rcases h with h | rfl | h | h
      · obtain ⟨o', e⟩ := i a h; exact ⟨o', sKeep₄ a o' e⟩
      · exact ⟨_, hD₄⟩
      · exact cf₄.live h
      · exact src.live _ _ a r₄ h
    have w₄ : View (fun a => X a ∨ Y a) (tn ++ cn) ((us ++ cs).map .val) cenv s₄.heap := fun l x v' hx hv' => by
      have hv2 : (us ++ cs)[l]? = some v' := by
        unfold Sg.get at hv'
        rw [List.getElem?_map] at hv'
        obtain ⟨sl, h1, h2⟩ := Option.bind_eq_some_iff.mp hv'
        obtain ⟨u, h3, rfl⟩ := Option.map_eq_some_iff.mp h1
        cases h2
        exact h3
      by_cases hl : l < tn.length
      · rw [List.getElem?_append_left hl] at hx
        rw [List.getElem?_append_left (by omega)] at hv2
        obtain ⟨rv', e', rr⟩ := rs.get hv2
        refine ⟨rv', ?_, rr.le fun a o p => ⟨b₄.keep a o (fun q => (hP a o p).2 (.inr (.inl q))) (k₂.le a o p.1), fun q => q.elim (hP a o p).1 (hP a o p).2⟩⟩
        have hz : (tn.zip rvs).lookup x = some rv' := by
          exact lookup_zip' hnd hx e'
        have hvm : vm cenv m₄ cm₄ x = some rv' := by rw [vm₄, hz]; rfl
        rcases ce.kinds x (List.mem_of_getElem? hx) with e | ⟨e, cc, lk⟩
        · unfold vm at hvm
          rw [if_pos e] at hvm
          exact .inl ⟨e, m₄, cf₄.ns, hvm⟩
        · unfold vm at hvm
          rw [if_neg (by rw [e]; decide)] at hvm
          exact .inr ⟨.inl e, cc, ce.sub x cc lk, hvm ▸ cf₄.cell x cc lk⟩
      · rw [List.getElem?_append_right (by omega)] at hx hv2
        obtain ⟨rv', ⟨cc, kk, lk, ic⟩, rr⟩ := vc (l - tn.length) x v' hx (by rw [hul] at hv2; exact hv2)
        refine ⟨rv', .inr ⟨kk, cc, lk, ic.keeps sKeep₄⟩, rr.le fun a o p => ⟨sKeep₄ a o p.1, fun q => q.elim p.2 fun q => ?_⟩⟩
        have := p.1
        rw [Yf a q] at this; cases this
    refine wpAny_mono (htest A cenv s₄ _ bt _ _ R ce.eo ke c₄ i₄ w₄ hbt) (fun okb s₅ h₅ => ?_) fun _ _ x => x
    obtain ⟨k₅, rfl⟩ := h₅
    cases okb with
    | false =>
      rw [if_neg Bool.false_ne_true] at hrest ⊢
      refine ⟨xs.length - (j + 1), by omega, j + 1, m₄, cm₄, its, nn, done, rest, rfl, hlt, (b.trans b₅).trans k₅.bu, cf₄.kp k₅, src.frame _ _ _ r₄ fun a o _ e => k₅.le a o e, k₅.le _ _ hD₄, hdone.le fun a o p => peUp a o (fun a' o' h e => k₅.le a' o' (b₅.keep a' o' h e)) p, by omega, hrest, hy⟩
    | true =>
      rw [if_pos rfl] at hrest ⊢
      obtain ⟨y, hfy, hrest⟩ := Option.bind_eq_some_iff.mp hrest
      obtain ⟨rest', hrest', rfl⟩ := Option.map_eq_some_iff.mp hrest
      refine wpAny_mono (helt A cenv s₅ _ y (fun a => X a ∨ Y a) _ R ce.eo ke (c₄.le k₅.le) (i₄.le k₅.le) (w₄.le k₅.le) hfy) (fun ry s₆ h₆ => ?_) fun _ _ x => x
      obtain ⟨k₆, r₆⟩ := h₆
      refine wpAny_list_append_plain (s := s₆) ⟨nn, k₆.le _ _ (k₅.le _ _ hD₄)⟩ (fun h' hl hsb => ?_) (by have := hdone.length; simp at this; unfold sizeLine; omega)
      obtain ⟨n', hl⟩ := hl
      have up₆ : ∀ a o, ¬ Y a → s₆.heap.get? a = some o → h'.get? a = some o := fun a o h e => hsb.extBut a o (fun q => h (.inl q)) e
      have b₇ : Bu Y s₆ { s₆ with heap := h' } := ⟨⟨s₆.toks, rfl⟩, up₆⟩
      refine ⟨xs.length - (j + 1), by omega, j + 1, m₄, cm₄, its.push ry, n', done ++ [y], rest', rfl, hlt, (((b.trans b₅).trans k₅.bu).trans k₆.bu).trans b₇,
        ((cf₄.kp k₅).kp k₆).bu (wr := (· = D)) ⟨⟨s₆.toks, rfl⟩, fun a o h e => hsb.extBut a o h e⟩ (fun a h => by subst h; exact hDF), ?_, hl, ?_, ?_, hrest', ?_⟩
      · exact src.frame _ _ _ r₄ fun a o ha e => hsb.extBut a o (dis a ha).2 (k₆.le a o (k₅.le a o e))
      · rw [Array.toList_push]
        refine (hdone.le fun a o p => peUp a o (fun a' o' h e => up₆ a' o' h (k₆.le a' o' (k₅.le a' o' (b₅.keep a' o' h e)))) p).append (VRels.one (r₆.le fun a o p => ?_))
        refine ⟨up₆ a o (fun q => p.2.1 (.inr q)) p.1, fun q => p.2.1 (.inl q), fun q => p.2.1 (.inr q), fun o' e => p.2.2 o' (k₅.le a o' (sKeep₄ a o' e))⟩
      · rw [List.length_append, List.length_singleton]; omega
      · rw [hy, List.append_assoc]; rfl
variable {N : List Str} {K : Env → Prop}
/-- a comprehension's run -/
theorem comp_run {elt target iter : Expr} {ifs : List Expr} {scope : Scope} {cp : Pos} {pos : Pos} {use : Option (Value → Sem Unit)} {tn cn : List Str} {caps : List Nat} {fi : Sg → Option (List V)} {sp : V → Option (List V)} {t : Sg → Option Bool} {f : Sg → Option V}
    (ok : CompOk N K scope tn cn caps) (hi : It C k N K iter target fi) (ht : Tg C target tn sp) (htest : TxL C k (tn ++ cn) (CK K scope) ifs t) (helt : ExF C k (tn ++ cn) (CK K scope) elt f)
    {A : Around} {env : Env} {s : Shared} {σ : Sg} {ys : List V} {X : Addr → Prop} {E : Value → Shared → Prop} (R : Rm k A) (o : EnvOk env) (ke : K env) (c : C.Ok s.heap) (i : InH X s.heap) (w : View X N σ env s.heap) (q : fComp fi sp tn.length t f caps σ = some (.lst ys))
    {Q : Value → Shared → Prop} (hs : ∀ x, foldedSetIterable iter env x = pure x)
    (hQ : ∀ s' L D, CompEnd X s s' L D ys → compPost C.M A E use Q (.ref D) L (.ok .next) s') :
    wpAny C.M A (comprehension (.ListComp elt [⟨target, iter, ifs, 0⟩] scope pos) scope env cp (newList []) false (eval iter env) use) Q E s := by
  unfold fComp at q
  obtain ⟨xs, hxs, q⟩ := Option.bind_eq_some_iff.mp q
  obtain ⟨cs, hcs, q⟩ := Option.bind_eq_some_iff.mp q
  split at q
  rotate_left
  · cases q
  rename_i hlen
  obtain ⟨ys', hys, e⟩ := Option.map_eq_some_iff.mp q
  cases e
  clear q
  -- the names that are caught
  have hcl : cn.length = caps.length := by have := congrArg List.length ok.idx; simpa using this.symm
  have capAt : ∀ (j : Nat) (x : Str) (v : V), cn[j]? = some x → cs[j]? = some v → ∃ ii, N[ii]? = some x ∧ σ.get ii = some v := fun j x v hx hv => by
    obtain ⟨ii, h1, h2⟩ := capsGet_get hcs hv
    refine ⟨ii, ?_, h2⟩
    have := congrArg (·[j]?) ok.idx
    simp only [List.getElem?_map, h1, hx, Option.map_some] at this
    exact Option.some.inj this
  have capR : ∀ (j : Nat) (x : Str) (v : V), cn[j]? = some x → cs[j]? = some v → ∃ rv cc, env.cells.lookup x = some cc ∧ s.heap.IsCell cc (some rv) ∧ VRel (rd X s.heap) v rv := fun j x v hx hv => by
    obtain ⟨ii, h1, h2⟩ := capAt j x v hx hv
    obtain ⟨rv, r, p⟩ := w ii x _ h1 h2
    rcases r with ⟨e, _⟩ | ⟨_, cc, l, ic⟩
    · rcases ok.kinds env ke x (List.mem_of_getElem? hx) with e' | e' <;> rw [e'] at e <;> cases e
    · exact ⟨rv, cc, l, ic, p⟩
  have capC : ∀ x ∈ cn, ∃ cc, env.cells.lookup x = some cc := fun x hx => by
    obtain ⟨j, hj⟩ := List.mem_iff_getElem?.mp hx
    have hjl : j < cs.length := by rw [capsGet_len hcs, ← hcl]; exact (List.getElem?_eq_some_iff.mp hj).1
    obtain ⟨_, cc, l, _⟩ := capR j x _ hj (List.getElem?_eq_getElem hjl)
    exact ⟨cc, l⟩
  obtain ⟨cl, hclo, hcl2⟩ := closure_is (scope := scope) (env := env) fun x hx hf => capC x.1 (ok.free x hx hf)
  refine wpAny_comprehension_free (use := use) (g := ⟨target, iter, ifs, 0⟩) (gs := []) rfl hs hclo ok.kind ok.names ?_
  refine hi A env s σ xs X E _ R o ke c i w hxs fun it wr R' s₁ k₁ fr r0 src => ?_
  refine wpAny_newObj_type ?_
  refine compFrame fun h₃ hh₃ => ?_
  dsimp only at hh₃ ⊢
  -- the parts of the frame
  have hL : (s₁.heap.push { cls := .type "list", dict := none, data := .seq ([] : List Value).toArray }).objs.size = s₁.heap.objs.size + 1 := Heap.size_push ..
  rw [hL]
  generalize hH2 : s₁.heap.push { cls := .type "list", dict := none, data := .seq ([] : List Value).toArray } = H2 at hh₃ hL ⊢
  have hDobj : H2.get? s₁.heap.objs.size = some (lstObj #[] 0) := by rw [← hH2]; exact Heap.get?_push_size _ rfl
  have up2 : Hle s₁.heap H2 := fun b o e => by rw [← hH2]; exact Heap.get?_push_of_some _ e
  have up3 : Hle H2 h₃ := fun b o e => by rw [hh₃]; exact pushCells_keeps _ _ b o (Heap.get?_push_of_some _ e)
  have cok := cellsFrom_ok scope.names (H2.push { cls := .type "dict", data := .dict #[] }) (s₁.heap.objs.size + 1 + 1) [] ⟨fun _ _ hm => (nomatch hm), List.Pairwise.nil⟩ (by rw [Heap.size_push, hL]; exact Nat.le_refl _)
  rw [Heap.size_push, hL, ← hh₃] at cok
  have hns : h₃.Ns (s₁.heap.objs.size + 1) (fun _ => none) := by
    have := (Heap.Ns.new H2 (.type "dict")).keeps (pushCells_keeps scope.names _)
    rw [hL, ← hh₃] at this
    exact this
  generalize hown : cellsFrom (s₁.heap.objs.size + 1 + 1) scope.names [] = own at cok ⊢
  let cenv : Env := { scope := relabel scope env, locals := s₁.heap.objs.size + 1, globals := env.globals, cells := own ++ cl, qual := env.qual, func := none, code := env.code, frame := env.frame, builtins := env.builtins }
  have kd : ∀ x, cenv.kindOf x = (scope.names.lookup x).map (relK env x) := fun x => lookup_relabel x scope
  have ownC : ∀ x, scope.names.lookup x = some .cell → ∃ cc, own.lookup x = some cc := fun x hx => by
    rw [← hown]; exact Option.isSome_iff_exists.mp (cellsFrom_some _ _ _ (.inl hx))
  have frGe : ∀ a, Fro cenv own a → s₁.heap.objs.size < a := fun a h => by
    rcases h with rfl | ⟨n, h⟩
    · exact Nat.lt_succ_self _
    · exact Nat.lt_of_lt_of_le (Nat.lt_succ_of_lt (Nat.lt_succ_self _)) (cok.empty n a (mem_of_lookup h)).2
  have wrLt : ∀ a, wr a → a < s₁.heap.objs.size := fun a h => by obtain ⟨o', e⟩ := src.live 0 _ a r0 h; exact Heap.lt_size e
  have ce : CEnv cenv own tn := by
    refine ⟨⟨ok.kind, o.glob, o.bui⟩, fun x hx => ?_, fun x cc h => ?_, cok.apart, fun n cc h => ?_⟩
    · rw [kd x]
      rcases ok.tns x hx with e | e
      · rw [e]; exact .inl rfl
      · rw [e]; exact .inr ⟨rfl, ownC x e⟩
    · show (own ++ cl).lookup x = some cc
      rw [List.lookup_append, h]; rfl
    · exact Nat.ne_of_gt (cok.empty n cc h).2
  have k₃ : Kp s₁ { s₁ with heap := h₃ } := ⟨⟨s₁.toks, rfl⟩, up2.trans up3⟩
  have Yge : ∀ a, (a = s₁.heap.objs.size ∨ Fro cenv own a) → s₁.heap.objs.size ≤ a := fun a h => by
    rcases h with rfl | h
    · exact Nat.le_refl _
    · exact Nat.le_of_lt (frGe a h)
  have loop : codeAny C.M A (.compLoop (.ListComp elt [⟨target, iter, ifs, 0⟩] scope pos) 0 (.ref it) (.ref s₁.heap.objs.size) cenv) (compPost C.M A E use Q (.ref s₁.heap.objs.size) (s₁.heap.objs.size + 1)) { s₁ with heap := h₃ } := by
    refine comp_loop (cn := cn) (cs := cs) (X := X) (s := s) (own := own) (cenv := cenv) (K' := CK K scope) ht htest helt R ⟨env, ke, rfl⟩ c i (k₁.trans k₃) ce ok.nodup (fun a h => ?_) (fun a h => ⟨fun q => ?_, fun q => ?_⟩) (fun q => ?_) src (fun a o' g => ⟨k₃.le a o' g.1.1, g.1.2, fun q => ?_⟩)
      (src.frame 0 _ _ r0 fun a o' _ e => k₃.le a o' e) ⟨hns, fun n cc h => (cok.empty n cc (mem_of_lookup h)).1⟩ (up3 _ _ hDobj) (fun j x v hx hv => ?_) hlen hys fun s' e => hQ s' _ _ e
    · cases e' : s.heap.get? a with
      | none => rfl
      | some o' =>
        have lt := Heap.lt_size (k₁.le a o' e')
        rcases h with h | h | h
        · exact absurd lt (Nat.not_lt.mpr (Yge a (.inl h)))
        · exact absurd lt (Nat.not_lt.mpr (Yge a (.inr h)))
        · rw [fr a h] at e'; cases e'
    · exact absurd (frGe a q) (Nat.not_lt.mpr (Nat.le_of_lt (wrLt a h)))
    · exact absurd (wrLt a h) (by rw [q]; exact Nat.lt_irrefl _)
    · exact absurd (frGe _ q) (Nat.lt_irrefl _)
    · rcases q with q | q | q
      · exact absurd (Heap.lt_size g.1.1) (Nat.not_lt.mpr (Yge a (.inl q)))
      · exact absurd (Heap.lt_size g.1.1) (Nat.not_lt.mpr (Yge a (.inr q)))
      · exact g.2 q
    · obtain ⟨rv, cc, l, ic, p⟩ := capR j x v hx hv
      have hm := List.mem_of_getElem? hx
      refine ⟨rv, ⟨cc, ?_, ?_, ic⟩, p⟩
      · rw [kd x, ok.cns x hm]
        show some (relK env x .free) = _ ∨ some (relK env x .free) = _
        unfold relK
        split
        · exact .inl rfl
        · exact .inr rfl
      · show (own ++ cl).lookup x = some cc
        rw [List.lookup_append, ← hown, cellsFrom_none _ _ x fun y hy hc e => ok.cellsNot y hy hc (e ▸ hm), hcl2 x (ok.cns x hm), l]
        rfl
  exact codeAny_compStart_list loop (src.self A 0 _ _ _ R.handled (src.frame 0 _ _ r0 fun a o' _ e => k₃.le a o' e) loop)
/-- a comprehension's value -/
theorem Ex_Comp {elt target iter : Expr} {ifs : List Expr} {scope : Scope} {pos : Pos} {tn cn : List Str} {fi : Sg → Option (List V)} {sp : V → Option (List V)} {t : Sg → Option Bool} {f : Sg → Option V} (caps : List Nat)
    (ok : CompOk N K scope tn cn caps) (hi : It C k N K iter target fi) (ht : Tg C target tn sp) (htest : TxL C k (tn ++ cn) (CK K scope) ifs t) (helt : ExF C k (tn ++ cn) (CK K scope) elt f)
    (hs : ∀ env x, foldedSetIterable iter env x = pure x := by intro _ _; rfl) : ExF C k N K (.ListComp elt [⟨target, iter, ifs, 0⟩] scope pos) (fComp fi sp tn.length t f caps) := fun A env s σ v X E R o ke c i w q => by
  have : ∃ ys, v = .lst ys := by
    unfold fComp at q
    obtain ⟨xs, hxs, q⟩ := Option.bind_eq_some_iff.mp q
    obtain ⟨cs, hcs, q⟩ := Option.bind_eq_some_iff.mp q
    split at q
    · obtain ⟨ys, _, e⟩ := Option.map_eq_some_iff.mp q; exact ⟨ys, e.symm⟩
    · cases q
  obtain ⟨ys, rfl⟩ := this
  rw [eval_ListComp]
  refine comp_run ok hi ht htest helt R o ke c i w q (hs env) fun s' L D ce => ?_
  obtain ⟨m, hn⟩ := ce.ns
  refine ⟨m, hn, fun h' hsb => ?_⟩
  have up : Hle s.heap h' := fun a o e => hsb.extBut a o (fun q => by rw [q, ce.fresh] at e; cases e) (ce.kp.le a o e)
  refine ⟨⟨?_, up⟩, ce.rel.le fun a o p => ⟨hsb.extBut a o (fun q => p.2.1 (.inr q)) p.1, fun q => p.2.1 (.inl q), p.2.2⟩⟩
  obtain ⟨tk, e⟩ := ce.kp.same
  exact ⟨tk, by rw [e]⟩
/-- a name gets a comprehension, and the name is written ahead of the comprehension's end -/
theorem S1_AssignComp {elt target iter : Expr} {ifs : List Expr} {scope : Scope} {pos : Pos} {tn cn : List Str} {fi : Sg → Option (List V)} {sp : V → Option (List V)} {t : Sg → Option Bool} {f : Sg → Option V} {y : Str} {py spos : Pos} (l : Nat) (hy : N[l]? = some y) (caps : List Nat)
    (ok : CompOk N K scope tn cn caps) (hi : It C k N K iter target fi) (ht : Tg C target tn sp) (htest : TxL C k (tn ++ cn) (CK K scope) ifs t) (helt : ExF C k (tn ++ cn) (CK K scope) elt f)
    (hsw : ∀ env, K env → swapsWith (.ListComp elt [⟨target, iter, ifs, 0⟩] scope pos) (some (.Name y py)) spos.line env = pure true) (hs : ∀ env x, foldedSetIterable iter env x = pure x := by intro _ _; rfl) :
    S1 C k N K (.Assign [.Name y py] (.ListComp elt [⟨target, iter, ifs, 0⟩] scope pos) spos) (fSet l (fComp fi sp tn.length t f caps)) := fun A env s₀ s σ σ' fl X G E R o fe ke c w q => by
  unfold fSet at q
  obtain ⟨v, hv, q⟩ := Option.map_eq_some_iff.mp q
  cases q
  have : ∃ ys, v = .lst ys := by
    unfold fComp at hv
    obtain ⟨xs, hxs, q⟩ := Option.bind_eq_some_iff.mp hv
    obtain ⟨cs, hcs, q⟩ := Option.bind_eq_some_iff.mp q
    split at q
    · obtain ⟨ys, _, e⟩ := Option.map_eq_some_iff.mp q; exact ⟨ys, e.symm⟩
    · cases q
  obtain ⟨ys, rfl⟩ := this
  obtain ⟨m, cm, ow, w⟩ := w
  rw [exec_Assign_Name_used _ _ _ _ (hsw env ke)]
  refine wpAny_bind (wpAny_standAt (wpAny_bind ?_))
  show wpAny C.M A (do let _ ← comprehension (.ListComp elt [⟨target, iter, ifs, 0⟩] scope pos) scope env _ (newList []) false (eval iter env) (some (assign (.Name y py) env))) _ E s
  refine wpAny_bind (wpAny_mono (comp_run (use := some (assign (.Name y py) env)) (Q := fun _ s' => St C X N G s₀ env (σ.set l (.val (.lst ys))) s' ∧ FlRel (rdF X s₀.heap s'.heap) .next .next) ok hi ht htest helt R o ke (w.ok c) w.inXF (w.view fe) hv (hs env) fun s' L D ce => ?_)
    (fun _ s' h => wpAny_pure (wpAny_pure h)) fun _ _ x => x)
  show wpAny C.M A (assign (.Name y py) env (.ref D)) _ E s'
  obtain ⟨mL, hnL⟩ := ce.ns
  obtain ⟨oL, _, _, hoL, _⟩ := id hnL
  have w₁ : StW C (fun a => X a ∨ a = L) N (fun a o => G a o ∨ (a = L ∧ s'.heap.get? a = some o)) s₀ env σ s' m cm ow := by
    have w₁ := w.addX (wr := (· = L)) ce.kp (fun b e => e ▸ ce.fresh) fun b e => ⟨oL, e ▸ hoL⟩
    refine w₁.guard (fun a o h => h.elim (w₁.prot a o) fun h => ⟨h.2, fun q => ?_⟩) fun a o h => h.elim (w₁.gT a o) fun h q => by
      obtain ⟨o', e, _⟩ := w.tabs a q; rw [h.1, ce.fresh] at e; cases e
    rcases q with q | ⟨j, q⟩
    · obtain ⟨_, o', e⟩ := w.newF a q; rw [h.1, ce.fresh] at e; cases e
    · obtain ⟨_, _, its, n, e⟩ := w.newO j a q; rw [h.1, ce.fresh] at e; cases e
  have h0 : ∀ a, a = L → s₀.heap.get? a = none ∧ a ∉ C.T ∧ ¬ Fra env a := fun a ha => by
    subst ha
    refine ⟨w.gone ce.fresh, fun q => ?_, fun q => ?_⟩
    · obtain ⟨o', e, _⟩ := w.tabs _ q; rw [ce.fresh] at e; cases e
    · obtain ⟨_, o', e⟩ := w.newF _ q; rw [ce.fresh] at e; cases e
  refine wpAny_assign_Name (w₁.put (sl := .val (.lst ys)) (as := []) fe o c (Kp.refl _) hy ⟨rfl, .ref D, rfl, ce.rel.le fun a o p => ⟨p.1, fun q => ?_⟩⟩ (fun a h => nomatch h) (fun a h => nomatch h) List.nodup_nil fun s'' w'' => ?_)
  · rcases q with q | q
    · exact q.elim (fun q => p.2.1 (.inl (.inl q))) fun q => p.2.1 (.inr q)
    · rcases owned_drop q with q | ⟨j, q⟩
      · exact p.2.1 (.inl (.inr q))
      · obtain ⟨_, _, its, n, e⟩ := w.newO j a q
        exact p.2.2 _ e rfl
  · obtain ⟨m', cm', ow', w''⟩ := w''
    have hL' : s''.heap.get? L = some oL := (w''.prot L oL (.inr ⟨rfl, hoL⟩)).1
    refine ⟨mL, hnL.at' fun o e => (w''.prot L o (.inr ⟨rfl, e⟩)).1, fun h' hsb => ⟨⟨m', cm', ow', ?_⟩, rfl⟩⟩
    have w₃ : StW C (fun a => X a ∨ a = L) N G s₀ env (σ.set l (.val (.lst ys))) s'' m' cm' ow' := w''.guard (fun a o h => w''.prot a o (.inl h)) fun a o h => w''.gT a o (.inl h)
    refine w₃.bu (s' := { s'' with heap := h' }) ⟨⟨s''.toks, rfl⟩, fun b o hb e => hsb.extBut b o hb e⟩ (fun a h => .inl h) (fun a h => ?_) h0 fun a o h q => ?_
    · obtain ⟨o', e⟩ := w₃.inX a (.inl h)
      refine ⟨o', hsb.extBut a o' (fun q => ?_) e⟩
      obtain ⟨o'', e''⟩ := w.inX a h
      rw [q, ce.fresh] at e''; cases e''
    · have := (w.prot a o h).1
      rw [q, ce.fresh] at this; cases this
end
end Mine
set_option Elab.async false
set_option linter.unusedVariables false
set_option maxRecDepth 100000
namespace Mine
open PySem PySem.W PyProof.Rows
theorem lookIn_some {es : Array DictEntry} {n : Nat} {x : Str} {rv : Value} (h : nsFind es x = some rv) : lookIn x { cls := .type "dict", data := .dict es n } = some (some rv) := by
  unfold nsFind findBy at h
  obtain ⟨e, he, rfl⟩ := Option.map_eq_some_iff.mp h
  unfold lookIn
  dsimp only
  rw [Array.find?_toList, he]
theorem noRef {es : Array DictEntry} (h : StrKeys es) : es.toList.any (·.refKey) = false := by
  rw [List.any_eq_false]
  intro e he
  obtain ⟨n, t, q⟩ := h e (by simpa using he)
  unfold DictEntry.refKey
  rw [q]
  simp
theorem lookIn_none {es : Array DictEntry} {n : Nat} {x : Str} (hs : StrKeys es) (h : nsFind es x = none) : lookIn x { cls := .type "dict", data := .dict es n } = some none := by
  unfold nsFind findBy at h
  have he := Option.map_eq_none_iff.mp h
  unfold lookIn
  dsimp only
  rw [Array.find?_toList, he]
  simp only [noRef hs]
  rfl
theorem VFields.look {P : PH} : ∀ {fs : List (Str × V)} {es : Array DictEntry} {x : Str} {v : V}, VFields P fs es → fs.lookup x = some v → ∃ rv, nsFind es x = some rv ∧ VRel P v rv
  | [], _, _, _, _, h => by cases h
  | (y, u) :: r, es, x, v, hf, h => by
    unfold VFields at hf
    rw [List.lookup_cons] at h
    cases hb : x == y with
    | true =>
      rw [hb] at h
      cases h
      rw [beq_iff_eq.mp hb]
      exact hf.1
    | false => rw [hb] at h; exact VFields.look hf.2 h
noncomputable def attrD (Cl : Addr) (attr : Str) : V → Option V
  | .obj D fs => if D = Cl then (match fs.lookup attr with | some (.raw _) => none | r => r) else none
  | _ => none
theorem handed_v {P : PH} {v : V} {rv : Value} (r : VRel P v rv) (h : ∀ u, v ≠ .raw u) : handedIn rv = true := by
  cases v with
  | none => rw [r.none']; rfl
  | bool b => rw [r.bool']; rfl
  | int i => obtain ⟨t, rfl⟩ := r.int'; rfl
  | str x => obtain ⟨t, rfl⟩ := r.str'; rfl
  | raw u => exact absurd rfl (h u)
  | tup l => obtain ⟨a, _, _, rfl, _⟩ := r.tup'; rfl
  | lst l => obtain ⟨a, _, _, rfl, _⟩ := r.lst'; rfl
  | obj C fs => unfold VRel at r; obtain ⟨a, _, _, _, rfl, _⟩ := r; rfl
  | rng a b c => unfold VRel at r; obtain ⟨a, _, _, _, rfl, _⟩ := r; rfl
section
variable {C : Cx} {k : Nat} {N : List Str} {K : Env → Prop} {Kf : Frag}
theorem Cx.Ok.frag {h : Heap} (c : C.Ok h) (hK : ∀ a o, Kf.lookup a = some o → C.base a o) : Kf.In h := fun a o e => c.b a o (hK a o e)
/-- an attribute of an object -/
theorem Ex_Attr {value : Expr} {attr : Str} {pos : Pos} {f : Sg → Option V} (hK : ∀ a o, Kf.lookup a = some o → C.base a o) (Cl : Addr) (hv : ExB C k N K value f) (hg : plainGet Kf Cl attr = true) (hh : hasDictIn Kf Cl = true) (ha : findIn Kf (.ref Cl) attr = some none)
    (he : ∀ env, eval (.Attribute value attr pos) env = (do
      let o ← eval value env
      standAt pos.atName
      let r ← holding [o] (getAttr o attr true)
      letTemporaryGo value o r
      pure r) := by intro _; with_unfolding_all rfl) : ExB C k N K (.Attribute value attr pos) (fun σ => (f σ).bind (attrD Cl attr)) := fun A env s σ v X E R o ke c i w q => by
  obtain ⟨u, hu, q₁⟩ := Option.bind_eq_some_iff.mp q
  clear q
  refine Attribute_any_ (wpAny_mono (hv A env s σ u X E R o ke c i w hu) (fun ru s₁ p => ?_) fun _ _ x => x) (he env)
  unfold attrD at q₁
  split at q₁
  rotate_left
  · cases q₁
  rename_i D fs
  by_cases e : D = Cl
  rotate_left
  · rw [if_neg e] at q₁; cases q₁
  rw [if_pos e] at q₁
  subst e
  have hl : fs.lookup attr = some v ∧ ∀ z, v ≠ .raw z := by
    split at q₁
    · cases q₁
    · rename_i hne
      refine ⟨q₁, fun z e => ?_⟩
      subst e
      exact hne z q₁
  have r := p.2
  unfold VRel at r
  obtain ⟨a, d, es, n, rfl, g1, g2, ko, vf⟩ := r
  obtain ⟨rv, hf, rr⟩ := vf.look hl.1
  refine get_value (od := some { cls := .type "dict", data := .dict es n }) ((c.le p.1.le).frag hK) ⟨g1.1, rfl, rfl, g2.1⟩ (plainGet_of hg).1 (findObj_own hh ha rfl (lookIn_some hf)) (handed_v rr hl.2) ?_
  exact ⟨p.1.trans (Kp.toks _ _), rr⟩
/-- an attribute of a class, a text -/
theorem Ex_ClsAttr {value : Expr} {attr : Str} {pos : Pos} {f : Sg → Option V} {mc : Value} {x : Str} {t : Tok} (hK : ∀ a o, Kf.lookup a = some o → C.base a o) (Cl : Addr) (hv : ExB C k N K value f) (hf : ∀ σ, f σ = some (.raw (.ref Cl))) (hr : readsIn Kf Cl mc = true) (e : findCls Kf (.ref Cl) mc attr = some (.val (.str x t)))
    (he : ∀ env, eval (.Attribute value attr pos) env = (do
      let o ← eval value env
      standAt pos.atName
      let r ← holding [o] (getAttr o attr true)
      letTemporaryGo value o r
      pure r) := by intro _; with_unfolding_all rfl) : ExF C k N K (.Attribute value attr pos) (fun _ => some (.str x)) := fun A env s σ v X E R o ke c i w q => by
  cases q
  refine Attribute_any_ (wpAny_mono (hv A env s σ _ X E R o ke c i w (hf σ)) (fun ru s₁ p => ?_) fun _ _ x => x) (he env)
  rw [p.2.raw']
  exact cls_value ((c.le p.1.le).frag hK) hr e rfl ⟨p.1.trans (Kp.toks _ _), pStr⟩
/-- a call of what a global name holds: a def or a class -/
theorem Ex_CallK {x : Str} {p pos : Pos} {es : List Expr} {ks : List Keyword} {g : Sg → Option (List V)} {gk : Sg → Option (List (Str × V))} {a : Addr} {spec : List V → List (Str × V) → Option V} {fx : Sg → Option V} (hK : ∀ a o, Kf.lookup a = some o → C.base a o) (hx : ExB C k N K (.Name x p) fx) (hfx : ∀ σ, fx σ = some (.raw (.ref a)))
    (hf : PureFn C k (.ref a) spec) (hk : keepIn Kf (.ref a) = true) (ha : ExAs C k N K es g) (hkw : ExKw C k N K ks gk) (hes : ∀ env, (backTo pos (starEach es env)).any (·.1) = false := by intro _; rfl) (hks : ∀ env, (backToKw pos (keywordEach ks env)).any (·.1.isNone) = false := by intro _; rfl) :
    ExF C k N K (.Call (.Name x p) es ks pos) (fCall spec g gk) := fun A env s σ v X E R o ke c i w q => by
  unfold fCall at q
  obtain ⟨vs, hvs, q⟩ := Option.bind_eq_some_iff.mp q
  obtain ⟨kvs, hkvs, q⟩ := Option.bind_eq_some_iff.mp q
  refine wpAny_Call_Name_kw (wpAny_mono (hx A env s σ _ X E R o ke c i w (hfx σ)) (fun rf s₁ p => ?_) fun _ _ x => x)
  have p1 := p.1
  rw [p.2.raw']
  refine callWith_of (P := Kf.In) (by rw [hes env, hks env]; rfl) (keeps_K hk) (args_eval ha hkw R o ke (c.le p1.le) (i.le p1.le) (w.le p1.le) hvs hkvs (hes env) fun rvs rks s₂ p₂ r₁ r₂ => ⟨(c.le (p1.trans p₂).le).frag hK, ?_⟩)
  refine wpAny_mono (hf A s₂ X vs kvs rvs rks v E R (c.le (p1.trans p₂).le) (i.le (p1.trans p₂).le) r₁ r₂ q) (fun rv s₃ p₃ => ?_) fun _ _ x => x
  exact ⟨(p1.trans p₂).trans p₃.1, p₃.2.wide (p1.trans p₂).le (Hle.refl _)⟩
/-- a method of an object -/
noncomputable def methD (Cl : Addr) (name : Str) (spec : List V → List (Str × V) → Option V) (u : V) (vs : List V) : Option V := match u with
  | .obj D fs => if D = Cl ∧ fs.lookup name = none then spec (.obj D fs :: vs) [] else none
  | _ => none
theorem Ex_Meth {ob : Expr} {name : Str} {apos pos : Pos} {es : List Expr} {f : Sg → Option V} {g : Sg → Option (List V)} {fa : Addr} {spec : List V → List (Str × V) → Option V} (hK : ∀ a o, Kf.lookup a = some o → C.base a o) (Cl : Addr) (ho : ExB C k N K ob f) (hg : plainGet Kf Cl name = true)
    (hfi : findIn Kf (.ref Cl) name = some (some (.ref fa))) (hfn : isFn Kf (.ref fa) = true) (hk : keepIn Kf (.ref fa) = true) (hf : PureFn C k (.ref fa) spec) (ha : ExAs C k N K es g) (hes : ∀ env, (backTo pos (starEach es env)).any (·.1) = false := by intro _; rfl)
    (he : ∀ env, ∃ pl, eval (.Call (.Attribute ob name apos) es [] pos) env = (do
      let ov ← eval ob env
      standAt apos.atName
      let (f, first) ← holding [ov] (getMethod ov name pl)
      callWith pos f first (backTo pos (starEach es env)) []) := by intro _; exact ⟨_, rfl⟩) :
    ExF C k N K (.Call (.Attribute ob name apos) es [] pos) (fun σ => (f σ).bind fun u => (g σ).bind fun vs => methD Cl name spec u vs) := fun A env s σ v X E R o ke c i w q => by
  obtain ⟨u, hu, q₁⟩ := Option.bind_eq_some_iff.mp q
  obtain ⟨vs, hvs, q₂⟩ := Option.bind_eq_some_iff.mp q₁
  clear q q₁
  unfold methD at q₂
  split at q₂
  rotate_left
  · cases q₂
  rename_i D fs
  by_cases hD : D = Cl ∧ fs.lookup name = none
  rotate_left
  · rw [if_neg hD] at q₂; cases q₂
  rw [if_pos hD] at q₂
  obtain ⟨eD, hno⟩ := hD
  subst eD
  obtain ⟨pl, he⟩ := he env
  refine MethodCall_ (pl := pl) (wpAny_mono (ho A env s σ _ X E R o ke c i w hu) (fun ru s₁ p => ?_) fun _ _ x => x) he
  have p1 := p.1
  have r := p.2
  unfold VRel at r
  obtain ⟨a, d, es', n, rfl, g1, g2, ko, vf⟩ := r
  refine method_fn (od := some { cls := .type "dict", data := .dict es' n }) ((c.le p1.le).frag hK) ⟨g1.1, rfl, rfl, g2.1⟩ (plainGet_of hg).1 (plainGet_of hg).2 hfi (beq_iff_eq.mp hfn) ?_ ?_
  · show (lookIn name _).map _ = _
    rw [lookIn_none ko.1 (ko.2 _ hno)]; rfl
  refine callWith_of (P := Kf.In) (by rw [hes env]; rfl) (keeps_K hk) (args_eval ha Kw_nil R o ke (c.le p1.le) (i.le p1.le) (w.le p1.le) hvs rfl (hes env) fun rvs rks s₂ p₂ r₁ r₂ => ⟨(c.le (p1.trans p₂).le).frag hK, ?_⟩)
  refine wpAny_mono (hf A s₂ X (.obj D fs :: vs) [] (.ref a :: rvs) rks v E R (c.le (p1.trans p₂).le) (i.le (p1.trans p₂).le) (VRels.cons (p.2.up p₂.le) r₁) r₂ q₂) (fun rv s₃ p₃ => ?_) fun _ _ x => x
  exact ⟨(p1.trans p₂).trans p₃.1, p₃.2.wide (p1.trans p₂).le (Hle.refl _)⟩
/-- a method of a built-in type -/
noncomputable def typeOfV : V → String
  | .str _ => "str"
  | .lst _ => "list"
  | .tup _ => "tuple"
  | _ => ""
theorem typeOfV_is {X : Addr → Prop} {s : Shared} {u : V} {rv : Value} {T : String} (h : typeOfV u = T) (hT : T ≠ "") (r : VRel (rd X s.heap) u rv) : s.TypeIs rv T ∧ ∀ a, rv = .ref a → ∃ o, s.heap.get? a = some o ∧ o.dict = none := by
  subst h
  cases u <;> try exact absurd rfl hT
  · obtain ⟨t, rfl⟩ := r.str'
    exact ⟨typeIs_str _ _ t, fun a e => by cases e⟩
  · obtain ⟨a, its, n, rfl, g, _⟩ := r.tup'
    exact ⟨⟨_, g.1, rfl⟩, fun b e => by cases e; exact ⟨_, g.1, rfl⟩⟩
  · obtain ⟨a, its, n, rfl, g, _⟩ := r.lst'
    exact ⟨⟨_, g.1, rfl⟩, fun b e => by cases e; exact ⟨_, g.1, rfl⟩⟩
theorem Ex_MethB {ob : Expr} {name : Str} {apos pos : Pos} {es : List Expr} {f : Sg → Option V} {g : Sg → Option (List V)} {T id : String} {spec : List V → List (Str × V) → Option V} (ho : ExB C k N K ob f) (hT : T ≠ "") (pa : PlainAttrs T) (slot : PySem.Slot T name id) (hty : typeOf (.builtin id) = pure (.type "method_descriptor"))
    (hf : PureFn C k (.builtin id) spec) (ha : ExAs C k N K es g) (hes : ∀ env, (backTo pos (starEach es env)).any (·.1) = false := by intro _; rfl)
    (he : ∀ env, ∃ pl, eval (.Call (.Attribute ob name apos) es [] pos) env = (do
      let ov ← eval ob env
      standAt apos.atName
      let (f, first) ← holding [ov] (getMethod ov name pl)
      callWith pos f first (backTo pos (starEach es env)) []) := by intro _; exact ⟨_, rfl⟩) :
    ExF C k N K (.Call (.Attribute ob name apos) es [] pos) (fun σ => (f σ).bind fun u => (g σ).bind fun vs => if typeOfV u = T then spec (u :: vs) [] else none) := fun A env s σ v X E R o ke c i w q => by
  obtain ⟨u, hu, q⟩ := Option.bind_eq_some_iff.mp q
  obtain ⟨vs, hvs, q⟩ := Option.bind_eq_some_iff.mp q
  split at q
  rotate_left
  · cases q
  rename_i ht
  obtain ⟨pl, he⟩ := he env
  refine MethodCall_ (pl := pl) (wpAny_mono (ho A env s σ _ X E R o ke c i w hu) (fun ru s₁ p => ?_) fun _ _ x => x) he
  have p1 := p.1
  obtain ⟨t1, t2⟩ := typeOfV_is ht hT p.2
  refine getMethod_builtin t1 pa slot hty t2 ?_
  refine Calls.callWith_builtin (hes env) (args_eval ha Kw_nil R o ke (c.le p1.le) (i.le p1.le) (w.le p1.le) hvs rfl (hes env) fun rvs rks s₂ p₂ r₁ r₂ => ?_)
  refine wpAny_mono (hf A s₂ X (u :: vs) [] (ru :: rvs) rks v E R (c.le (p1.trans p₂).le) (i.le (p1.trans p₂).le) (VRels.cons (p.2.up p₂.le) r₁) r₂ q) (fun rv s₃ p₃ => ?_) fun _ _ x => x
  exact ⟨(p1.trans p₂).trans p₃.1, p₃.2.wide (p1.trans p₂).le (Hle.refl _)⟩
end
end Mine
set_option Elab.async false
set_option linter.unusedVariables false
set_option maxRecDepth 100000
namespace Mine
open PySem PySem.W PyProof.Rows
section
variable {C : Cx} {k : Nat} {N : List Str} {K : Env → Prop}
/-- a call of a def, up to its frame -/
theorem fn_code {a : Addr} {fd : FuncData} {body : List Stmt} (fi : FnIs C a fd body) {pn rest : List Str} {rvs : List Value} {vs : List V} {rargs : List Value} {rkws : List (Str × Value)} {X : Addr → Prop} {A : Around} {s : Shared}
    {Rr : Result → Shared → Prop} (hN : N = pn ++ rest) (hb : BindsTo s fd ⟨rargs, rkws⟩ (pn.zip rvs)) (hnd : N.Nodup) (hk : ∀ x ∈ N, fd.scope.names.lookup x = some .local ∨ fd.scope.names.lookup x = some .cell)
    (hr : VRels (rd X s.heap) vs rvs) (hl : pn.length = vs.length) (hK : ∀ L, K (callEnvC fd L a)) (R : Rm (k + 1) A) (c : C.Ok s.heap) (i : InH X s.heap) (hTk : ∀ a, a ∈ C.T → ∃ o, s.heap.get? a = some o ∧ o.cls = .none ∧ C.tk (rd (fun a => X a ∨ a ∈ C.T) s.heap) o)
    (hQ : ∀ env s₁, Rm k (A.deeper env) → EnvOk env → FnEnv N env → K env → St C X N (fun _ _ => False) s env (vs.map .val ++ List.replicate rest.length .unset) s₁ →
      wpAny C.M (A.deeper env) (execs body env) (fun f s' => Rr (.ok (.ret (match f with | .ret v => v | _ => .none))) s')
      (fun e s' => wpAny C.M (A.deeper env) (leaving env e) (fun _ s'' => Rr (.error e) s'') (fun e' s'' => Rr (.error e') s'') s') s₁) : codeAny C.M A (.call (.ref a) ⟨rargs, rkws⟩) Rr s := by
  obtain ⟨o, ho, hd⟩ := fi.obj
  refine codeAny_call_function (by have := R.depth; omega) (c.b a o ho) hd fi.co fi.gen fi.body (fi.code _ c.b) (hb _ _ _ _ ?_)
  rw [fi.clo, fi.glob, fi.bui]
  have hcells : ∀ x, fd.scope.names.lookup x = some .cell → ∀ n, ((cellsFrom n fd.scope.names []).lookup x).isSome = true := fun x hx n => cellsFrom_some _ _ _ (.inl hx)
  have hbk : ∀ x ∈ pn.zip rvs, fd.scope.names.lookup x.1 = some .local ∨ (fd.scope.names.lookup x.1 = some .cell ∧ ((cellsFrom (s.heap.objs.size + 1) fd.scope.names []).lookup x.1).isSome = true) := fun x hx => by
    have hm : x.1 ∈ N := by rw [hN]; exact List.mem_append_left _ (List.of_mem_zip hx).1
    rcases hk x.1 hm with e | e
    · exact .inl e
    · exact .inr ⟨e, hcells _ e _⟩
  refine wpAny_newFunctionEnv_cells fi.kind hbk fun env he s₁ x => ?_
  have eenv : env = callEnvC fd s.heap.objs.size a := by rw [he]; unfold callEnvC; rw [fi.glob, fi.bui]
  have henv : env.locals = s.heap.objs.size := by rw [he]; rfl
  have hsc : env.scope = fd.scope := by rw [he]; rfl
  have hcl : env.cells = cellsFrom (s.heap.objs.size + 1) fd.scope.names [] := by rw [he]; rfl
  have eo : EnvOk env := ⟨by rw [hsc]; exact fi.kind, by rw [he]; rfl, by rw [he]; rfl⟩
  have fe : FnEnv N env := ⟨hnd, fun j y hy => by
      have : env.kindOf y = fd.scope.names.lookup y := by unfold Env.kindOf; rw [hsc]
      rw [this, hcl]
      rcases hk y (List.mem_of_getElem? hy) with e | e
      · exact .inl e
      · exact .inr ⟨e, Option.isSome_iff_exists.mp (hcells y e _)⟩, x.apart, fun n cc hc => Nat.ne_of_gt (x.above n cc hc)⟩
  have hlr : pn.length = rvs.length := by rw [hr.length]; exact hl
  refine ⟨(C.lim _ c.b).keeps x.toInCall.keep, codeAny_func ?_⟩
  have w : StW C X N (fun _ _ => False) s env (vs.map .val ++ List.replicate rest.length .unset) s₁ (bindL env.kindOf (pn.zip rvs) fun _ => none) (bindC env.kindOf (pn.zip rvs) fun _ => none) (fun _ => []) := by
    refine ⟨?_, fun b o _ e => x.toInCall.keep b o e, fun b hb' => ?_, x.toInCall.ns, x.cell, fun b hb' => ?_, fun _ _ h => (nomatch h), fun _ _ _ h => (nomatch h), fun _ => List.nodup_nil, fun j y sl hy hsl => ?_, ?_, fun _ _ h => h.elim, i.le x.toInCall.keep, fun _ _ h => (nomatch h), fun _ _ h => h.elim⟩
    · obtain ⟨h, tk, e⟩ := x.toInCall.same
      exact ⟨tk, by rw [e]⟩
    · obtain ⟨o', e', q⟩ := hTk b hb'
      exact ⟨o', x.toInCall.keep b o' e', q.1, C.tkm _ _ _ (fun a o _ _ p => ⟨x.toInCall.keep a o p.1, fun h => by
        rcases h with (h | (e | ⟨n, e⟩) | ⟨_, h⟩) | h
        rotate_right
        · exact p.2 (.inr h)
        · exact p.2 (.inl h)
        · have := none_of_ge (h := s.heap) (a := a) (by rw [e]; exact x.toInCall.fresh)
          rw [p.1] at this; cases this
        · have := none_of_ge (h := s.heap) (a := a) (Nat.le_of_lt (Nat.lt_of_le_of_lt x.toInCall.fresh (x.above n a (mem_of_lookup e))))
          rw [p.1] at this; cases this
        · cases h⟩) q.2⟩
    · rcases hb' with e | ⟨n, e⟩
      · refine ⟨none_of_ge (by rw [e]; exact x.toInCall.fresh), ?_⟩
        obtain ⟨o', _, _, g, _⟩ := x.toInCall.ns
        exact ⟨o', e ▸ g⟩
      · refine ⟨none_of_ge (Nat.le_of_lt (Nat.lt_of_le_of_lt x.toInCall.fresh (x.above n b (mem_of_lookup e)))), ?_⟩
        obtain ⟨o', g, _⟩ := x.cell n b e
        exact ⟨o', g⟩
    · by_cases hj : j < vs.length
      · rw [List.getElem?_append_left (by simpa using hj), List.getElem?_map] at hsl
        obtain ⟨v, hv, e⟩ := Option.map_eq_some_iff.mp hsl
        subst e
        obtain ⟨rv, er, q⟩ := hr.get hv
        refine ⟨rfl, rv, ?_, q.le fun b o p => ⟨x.toInCall.keep b o p.1, fun h => ?_⟩⟩
        · rw [vm_bind]
          have hp : pn[j]? = some y := by rw [hN, List.getElem?_append_left (by omega)] at hy; exact hy
          rw [lookup_zip (by rw [hN] at hnd; exact (List.nodup_append.mp hnd).1) hlr hp er]; rfl
        · rcases h with h | (e | ⟨n, e⟩) | ⟨_, h⟩
          · exact p.2 h
          · have := none_of_ge (h := s.heap) (a := b) (by rw [e]; exact x.toInCall.fresh)
            rw [p.1] at this; cases this
          · have := none_of_ge (h := s.heap) (a := b) (Nat.le_of_lt (Nat.lt_of_le_of_lt x.toInCall.fresh (x.above n b (mem_of_lookup e))))
            rw [p.1] at this; cases this
          · cases h
      · rw [List.getElem?_append_right (by simpa using Nat.le_of_not_lt hj)] at hsl
        have : sl = .unset := by
          have := List.mem_of_getElem? hsl
          exact (List.mem_replicate.mp this).2
        subst this
        rfl
    · rw [List.length_append, List.length_map, List.length_replicate, hN, List.length_append, hl]
  exact hQ env s₁ R.deeper eo fe (eenv ▸ hK _) ⟨_, _, _, w⟩
/-- an attribute of an object is set -/
theorem set_at {prog : Program} {w : World} {A : Around} {E : Value → Shared → Prop} {s : Shared} {Kf : Frag} {x d Cl : Addr} {es : List DictEntry} {n : Nat} {name : Str} {v : Value} {Q : Unit → Shared → Prop} (X : Kf.In s.heap)
    (hx : s.heap.get? x = some (instObj Cl d)) (hdd : s.heap.get? d = some (dictOf es n)) (hs : findIn Kf (.ref Cl) "__setattr__" = some (some (.builtin "object.__setattr__"))) (hp : plainOver Kf Cl = true) (ht : takerIn Kf Cl name = some none) (hh : hasDictIn Kf Cl = true)
    (hl : (getL name es).isSome = true) (hz : es.length ≤ 100)
    (h : ∀ h', h'.get? d = some (dictOf (putL name (PyData.keyHash w.params name) (.str name (s.toks + 1)) v es) (putN name es n)) → Heap.SameBut d s.heap h' → Q () { s with heap := h', toks := s.toks + 2 }) :
    wpAny (model prog w) A (setAttr (.ref x) name v) Q E s := by
  have I : InstAt s.heap x (instObj Cl d) Cl (some (dictOf es n)) := ⟨hx, rfl, rfl, hdd⟩
  refine set_plain X I hs ?_
  have I' : InstAt ({ s with toks := s.toks + 1 } : Shared).heap x (instObj Cl d) Cl (some (dictOf es n)) := I
  refine osa_open (s := { s with toks := s.toks + 1 }) X I' hp ht fun b => ?_
  obtain ⟨cd, hc, hd'⟩ := any_some hh
  have eo : Obj.putName name (PyData.keyHash w.params name) (.str name (s.toks + 1)) v (dictOf es n) = dictOf (putL name (PyData.keyHash w.params name) (.str name (s.toks + 1)) v es) (putN name es n) := putName_dict _ _ _ _ _ _
  have hup : (s.heap.update d (Obj.putName name (PyData.keyHash w.params name) (.str name (s.toks + 1)) v)).get? d = some (dictOf (putL name (PyData.keyHash w.params name) (.str name (s.toks + 1)) v es) (putN name es n)) := by
    rw [Heap.get?_update_self _ hdd (by rw [eo]; rfl), eo]
  refine wpAny_bind (wpAny_pure (wpAny_bind (wpAny_bind (wpAny_loadPart hx ?_))))
  refine wpAny_bind ?_
  refine (looks_clsIn X hc).here (s := { s with toks := s.toks + 1 }) ?_
  dsimp only
  rw [hd']
  refine wpAny_pure (a := some d) (wpAny_bind (wpAny_pure (wpAny_bind ?_)))
  unfold nsSet
  refine wpAny_bind (wpAny_bind (wpAny_askSetting (wpAny_pure (wpAny_bind (wpAny_mkText (wpAny_bind (wpAny_loadPart hdd ?_)))))))
  dsimp only
  have cc : (!es.toArray.any (·.key.isStr name) && es.toArray.any (·.refKey)) = false := by
    rw [← Array.any_toList, ← Array.any_toList]
    unfold getL at hl
    split at hl
    · rename_i en he
      show (!es.any _ && es.any _) = false
      rw [List.any_eq_true.mpr ⟨en, List.mem_of_find?_eq_some he, List.find?_some he⟩]; rfl
    · split at hl
      · cases hl
      · rename_i z; rw [Bool.not_eq_true] at z; show (!es.any _ && es.any _) = false; rw [z, Bool.and_false]
  rw [aRefKeyMayBeTheName_at, cc]
  refine wpAny_updatePart hdd ?_
  refine wpAny_bind (wpAny_lookBehind hup (pastItsLine_dict ?_) ?_)
  · rw [List.size_toArray, sizeLine_eq]
    have : ∀ es : List DictEntry, (putL name (PyData.keyHash w.params name) (.str name (s.toks + 1)) v es).length ≤ es.length + 1 := by
      intro es
      induction es with
      | nil => exact Nat.le_refl _
      | cons e r ih => unfold putL; split <;> simp <;> omega
    have := this es
    omega
  · exact wpAny_pure (h _ hup (Heap.SameBut.update ..))
end
end Mine
set_option Elab.async false
set_option linter.unusedVariables false
set_option maxRecDepth 100000
namespace Mine
open PySem PySem.W PyProof.Rows
/-- the world with more that stands in its heap -/
noncomputable def Cx.ext (C : Cx) (L : List (Addr × Obj)) (hT : ∀ p ∈ L, p.1 ∉ C.T) : Cx := { C with
  base := fun a o => C.base a o ∨ (a, o) ∈ L
  baseT := fun a o h => h.elim (C.baseT a o) fun h => hT _ h
  glob := fun h hb => C.glob h fun a o e => hb a o (.inl e)
  bui := fun h hb => C.bui h fun a o e => hb a o (.inl e)
  lim := fun h hb => C.lim h fun a o e => hb a o (.inl e) }
section
variable {C : Cx} {X : Addr → Prop} {N : List Str} {G : PH} {s₀ s s' : Shared} {env : Env} {σ : Sg} {m cm : Str → Option Value} {ow : Nat → List Addr}
theorem StW.toExt {L : List (Addr × Obj)} {hT : ∀ p ∈ L, p.1 ∉ C.T} (w : StW C X N G s₀ env σ s m cm ow) : StW (C.ext L hT) X N G s₀ env σ s m cm ow := ⟨w.same, w.keep, w.tabs, w.ns, w.cell, w.newF, w.newO, w.ownD, w.ownN, w.slot, w.len, w.prot, w.inX, w.ownX, w.gT⟩
theorem StW.ofExt {L : List (Addr × Obj)} {hT : ∀ p ∈ L, p.1 ∉ C.T} (w : StW (C.ext L hT) X N G s₀ env σ s m cm ow) : StW C X N G s₀ env σ s m cm ow := ⟨w.same, w.keep, w.tabs, w.ns, w.cell, w.newF, w.newO, w.ownD, w.ownN, w.slot, w.len, w.prot, w.inX, w.ownX, w.gT⟩
/-- an object that lay there before the call, and that nothing reads, is turned: in the call's start, too -/
theorem StW.rebase {d : Addr} {o' : Obj} (w : StW C (fun a => X a ∨ a = d) N G s₀ env σ s m cm ow) (hd : ∃ o, s₀.heap.get? d = some o) (hT : d ∉ C.T) (hG : ∀ a o, G a o → a ≠ d) (hs : ∃ tk, s' = { s with heap := s'.heap, toks := tk }) (hsb : Heap.SameBut d s.heap s'.heap)
    (hd' : s'.heap.get? d = some o') (hf : o'.isFreed = false) : StW C (fun a => X a ∨ a = d) N G { s₀ with heap := s₀.heap.update d (fun _ => o') } env σ s' m cm ow := by
  obtain ⟨od, hod⟩ := hd
  have s0 : Heap.SameBut d s₀.heap (s₀.heap.update d fun _ => o') := Heap.SameBut.update ..
  have s0d : (s₀.heap.update d fun _ => o').get? d = some o' := Heap.get?_update_self _ hod hf
  have up : ∀ b o, b ≠ d → s.heap.get? b = some o → s'.heap.get? b = some o := fun b o h e => hsb.extBut b o h e
  have dn : ∀ b o, b ≠ d → (s₀.heap.update d fun _ => o').get? b = some o → s₀.heap.get? b = some o := fun b o h e => by rw [s0.2 b h] at e; exact e
  have nF : ∀ a, Fra env a → a ≠ d := fun a h e => by have := (w.newF a h).1; rw [e, hod] at this; cases this
  have nO : ∀ i a, a ∈ ow i → a ≠ d := fun i a h e => by have := (w.newO i a h).1; rw [e, hod] at this; cases this
  have no0 : ∀ a, a ≠ d → s₀.heap.get? a = none → (s₀.heap.update d fun _ => o').get? a = none := fun a h e => by rw [s0.2 a h]; exact e
  refine ⟨?_, fun b o ht e => ?_, fun a ha => ?_, w.ns.at' fun o e => up _ o (nF _ (.inl rfl)) e, fun n c h => ?_, fun a h => ?_, fun i a h => ?_, w.ownD, w.ownN, fun i x sl hx hsl => ?_, w.len, fun a o h => ⟨up a o (hG a o h) (w.prot a o h).1, (w.prot a o h).2⟩, fun a h => ?_, w.ownX, w.gT⟩
  · obtain ⟨tk, e⟩ := w.same
    obtain ⟨tk', e'⟩ := hs
    exact ⟨tk', by rw [e']; rw [e]⟩
  · by_cases hb : b = d
    · subst hb; rw [s0d] at e; cases e; exact hd'
    · exact up b o hb (w.keep b o ht (dn b o hb e))
  · obtain ⟨o, e, q⟩ := w.tabs a ha
    exact ⟨o, up a o (fun q => hT (q ▸ ha)) e, q.1, C.tkm _ _ _ (fun a o _ _ p => ⟨up a o (fun z => p.2 (.inl (.inl (.inr z)))) p.1, p.2⟩) q.2⟩
  · obtain ⟨o, e, q⟩ := w.cell n c h
    exact ⟨o, up _ o (nF _ (.inr ⟨n, h⟩)) e, q⟩
  · obtain ⟨p, o, e⟩ := w.newF a h
    exact ⟨no0 a (nF a h) p, o, up a o (nF a h) e⟩
  · obtain ⟨p, q, its, n, e⟩ := w.newO i a h
    exact ⟨no0 a (nO i a h) p, q, its, n, up a _ (nO i a h) e⟩
  · exact (w.slot i x sl hx hsl).mono (fun a o p => ⟨up a o (fun q => p.2 (.inl (.inr q))) p.1, p.2⟩) fun b hb o e => up b o (nO i b hb) e
  · by_cases ha : a = d
    · subst ha; exact ⟨_, hd'⟩
    · obtain ⟨o, e⟩ := w.inX a h; exact ⟨o, up a o ha e⟩
end
theorem isStr_str (x y : Str) (t : Tok) : (Value.str y t).isStr x = decide (x = y) := by
  unfold Value.isStr
  by_cases h : x = y
  · subst h; simp
  · simp [h, Ne.symm h]
theorem putL_keys {name : Str} {hsh : Int} {t : Tok} {v : Value} : ∀ {es : List DictEntry}, StrKeys es.toArray → StrKeys (putL name hsh (.str name t) v es).toArray
  | [], _ => fun e he => by
    have : e = ⟨hsh, .str name t, v⟩ := by simpa [putL] using he
    subst this; exact ⟨name, t, rfl⟩
  | e0 :: r, h => fun e he => by
    have h0 : ∀ e ∈ e0 :: r, ∃ n t, e.key = .str n t := fun e he => h e (by simpa using he)
    unfold putL at he
    split at he
    · have he' : e = ⟨e0.hash, e0.key, v⟩ ∨ e ∈ r := by simpa using he
      rcases he' with rfl | he'
      · exact h0 e0 List.mem_cons_self
      · exact h0 e (List.mem_cons_of_mem _ he')
    · have he' : e = e0 ∨ e ∈ putL name hsh (.str name t) v r := by simpa using he
      rcases he' with rfl | he'
      · exact h0 _ List.mem_cons_self
      · exact putL_keys (es := r) (fun e he => h0 e (List.mem_cons_of_mem _ (by simpa using he))) e (by simpa using he')
theorem nsFind_list (es : List DictEntry) (x : Str) : nsFind es.toArray x = (es.find? fun e => e.key.isStr x).map (·.val) := by
  unfold nsFind findBy
  rw [List.find?_toArray]
theorem putL_find' {name : Str} {hsh : Int} {t : Tok} {v : Value} (x : Str) : ∀ {es : List DictEntry}, StrKeys es.toArray → nsFind (putL name hsh (.str name t) v es).toArray x = if x = name then some v else nsFind es.toArray x
  | [], _ => by
    rw [nsFind_list, nsFind_list]
    unfold putL
    rw [List.find?_cons, isStr_str]
    by_cases h : x = name
    · simp [h]
    · simp [h]
  | e0 :: r, h => by
    have h0 : ∀ e ∈ e0 :: r, ∃ n t, e.key = .str n t := fun e he => h e (by simpa using he)
    have ih := putL_find' (name := name) (hsh := hsh) (t := t) (v := v) x (es := r) fun e he => h0 e (List.mem_cons_of_mem _ (by simpa using he))
    rw [nsFind_list] at ih ⊢
    rw [nsFind_list] at ih ⊢
    obtain ⟨y, u, hy⟩ := h0 e0 List.mem_cons_self
    unfold putL
    rw [hy, isStr_str]
    by_cases hn : name = y
    · subst hn
      simp only [decide_true, if_true, List.find?_cons, isStr_str, hy]
      by_cases hx : x = name
      · simp [hx]
      · simp [hx]
    · simp only [hn, decide_false, Bool.false_eq_true, if_false, List.find?_cons, hy, isStr_str]
      by_cases hx : x = y
      · subst hx
        simp [Ne.symm hn]
      · simp only [hx, decide_false, Bool.false_eq_true]
        exact ih
theorem getL_some {es : List DictEntry} (h : StrKeys es.toArray) (x : Str) : (getL x es).isSome = true := by
  unfold getL
  split
  · rfl
  · have := noRef h
    simp only at this
    rw [if_neg (by rw [this]; decide)]
    rfl
end Mine
set_option Elab.async false
set_option linter.unusedVariables false
set_option maxRecDepth 100000
namespace Mine
open PySem PySem.W PyProof.Rows
abbrev Fs := List (Str × V)
/-- where __init__ stands: x the object, d its dict -/
structure IAt (C : Cx) (X : Addr → Prop) (N : List Str) (Cl x d : Addr) (s₀ : Shared) (env : Env) (σ : Sg) (fs : Fs) (s : Shared) (G P : PH) (es : List DictEntry) (n : Nat) : Prop where
  ok : C.Ok s₀.heap
  ob : s₀.heap.get? x = some (instObj Cl d)
  dd : s₀.heap.get? d = some (dictOf es n)
  len : es.length ≤ fs.length
  keys : KeysOk fs es.toArray
  vals : VFields P fs es.toArray
  hP : ∀ a o, P a o → G a o ∧ ¬ (X a ∨ a = d)
  hG : ∀ a o, G a o → a ≠ d
  st : St C (fun a => X a ∨ a = d) N G s₀ env σ s
noncomputable def IEnd (C : Cx) (X : Addr → Prop) (N : List Str) (Cl x d : Addr) (s₀ : Shared) (env : Env) (σ : Sg) (fs : Fs) (s : Shared) : Prop :=
  ∃ s₀' G P es n, Heap.SameBut d s₀.heap s₀'.heap ∧ s₀' = { s₀ with heap := s₀'.heap } ∧ IAt C X N Cl x d s₀' env σ fs s G P es n
/-- statements of __init__ -/
noncomputable def IS (C : Cx) (k : Nat) (N : List Str) (K : Env → Prop) (Cl : Addr) (sts : List Stmt) (F : Addr → Sg → Fs → Option (Sg × Fs)) : Prop :=
  ∀ (A : Around) (env : Env) (s₀ s : Shared) (σ σ' : Sg) (fs fs' : Fs) (X : Addr → Prop) (G P : PH) (E : Value → Shared → Prop) (x d : Addr) (es : List DictEntry) (n : Nat), Rm k A → EnvOk env → FnEnv N env → K env → x ∉ C.T → d ∉ C.T → (∀ o, ¬ C.base d o) → InH X s₀.heap → ¬ X x →
    IAt C X N Cl x d s₀ env σ fs s G P es n → F x σ fs = some (σ', fs') → wpAny C.M A (execs sts env) (fun rf s' => rf = .next ∧ IEnd C X N Cl x d s₀ env σ' fs' s') E s
section
variable {C : Cx} {k : Nat} {N : List Str} {K : Env → Prop} {Cl : Addr}
theorem IS_nil : IS C k N K Cl [] (fun _ σ fs => some (σ, fs)) := fun A env s₀ s σ σ' fs fs' X G P E x d es n R o fe ke hx hd hB iX nX I q => by
  cases q
  exact wpAny_execs_nil ⟨rfl, s₀, G, P, es, n, .refl .., rfl, I⟩
theorem IEnd.then {X : Addr → Prop} {x d : Addr} {s₀ s₁ s : Shared} {env : Env} {σ : Sg} {fs : Fs} (h1 : Heap.SameBut d s₀.heap s₁.heap) (h2 : s₁ = { s₀ with heap := s₁.heap }) (h : IEnd C X N Cl x d s₁ env σ fs s) : IEnd C X N Cl x d s₀ env σ fs s := by
  obtain ⟨s₂, G, P, es, n, a, b, c⟩ := h
  refine ⟨s₂, G, P, es, n, h1.trans a, ?_, c⟩
  rw [b]; rw [h2]
theorem VFields.put {P : PH} {es es' : Array DictEntry} {attr : Str} {rv : Value} {v : V} (he : ∀ y, nsFind es' y = if y = attr then some rv else nsFind es y) (hv : VRel P v rv) : ∀ {fs : Fs}, VFields P fs es → fs.lookup attr = none → VFields P (fs ++ [(attr, v)]) es'
  | [], _, _ => by
    show VFields P [(attr, v)] es'
    unfold VFields
    exact ⟨⟨rv, by rw [he, if_pos rfl], hv⟩, by unfold VFields; trivial⟩
  | (y, u) :: r, hf, hl => by
    unfold VFields at hf
    rw [List.lookup_cons] at hl
    cases hb : attr == y with
    | true => rw [hb] at hl; cases hl
    | false =>
      rw [hb] at hl
      show VFields P ((y, u) :: (r ++ [(attr, v)])) es'
      unfold VFields
      obtain ⟨⟨ru, e, p⟩, q⟩ := hf
      exact ⟨⟨ru, by rw [he, if_neg (fun e => by rw [e] at hb; simp at hb)]; exact e, p⟩, VFields.put he hv q hl⟩
noncomputable def fISet (i : Nat) (attr : Str) (f : Sg → Option V) (F : Addr → Sg → Fs → Option (Sg × Fs)) : Addr → Sg → Fs → Option (Sg × Fs) := fun x σ fs => (f σ).bind fun v => (σ.get i).bind fun u => match u with
  | .raw (.ref y) => if y = x ∧ fs.lookup attr = none ∧ fs.length ≤ 50 ∧ v.free = true then F x σ (fs ++ [(attr, v)]) else none
  | _ => none
/-- self.attr = e -/
theorem IS_set {Kf : Frag} {z attr : Str} {zp ap pos : Pos} {e : Expr} {f : Sg → Option V} {r : List Stmt} {F : Addr → Sg → Fs → Option (Sg × Fs)} (hK : ∀ a o, Kf.lookup a = some o → C.base a o) (i : Nat) (hz : N[i]? = some z) (h : ExB C k N K e f)
    (hs : findIn Kf (.ref Cl) "__setattr__" = some (some (.builtin "object.__setattr__"))) (hp : plainOver Kf Cl = true) (ht : takerIn Kf Cl attr = some none) (hh : hasDictIn Kf Cl = true) (hr : IS C k N K Cl r F)
    (hsw : ∀ env, swapsWith e (some (.Attribute (.Name z zp) attr ap)) pos.line env = pure false := by intro _; rfl) (hd : (z == ("__debug__" : Str)) = false := by decide +kernel) (hn : (z == ("__classdict__" : Str)) = false := by decide +kernel) :
    IS C k N K Cl (.Assign [.Attribute (.Name z zp) attr ap] e pos :: r) (fISet i attr f F) := fun A env s₀ s σ σ' fs fs' X G P E x d es n R o fe ke hx hdT hB iX nX I q => by
  unfold fISet at q
  obtain ⟨v, hv, q₁⟩ := Option.bind_eq_some_iff.mp q
  obtain ⟨u, hu, q₂⟩ := Option.bind_eq_some_iff.mp q₁
  clear q q₁
  split at q₂
  rotate_left
  · cases q₂
  rename_i y
  by_cases hc : y = x ∧ fs.lookup attr = none ∧ fs.length ≤ 50 ∧ v.free = true
  rotate_left
  · rw [if_neg hc] at q₂; cases q₂
  rw [if_pos hc] at q₂
  obtain ⟨rfl, hno, hfl, hfree⟩ := hc
  obtain ⟨m, cm, ow, w⟩ := I.st
  have xd : y ≠ d := fun e => by have := I.ob; rw [e, I.dd] at this; cases this
  refine wpAny_execs_cons (plainObj_wpAny_Assign_Attribute (wpAny_mono (h A env s σ v _ E R o ke (w.ok I.ok) w.inXF (w.view fe) hv) (fun rv s₁ p => ?_) fun _ _ x => x) (hsw env))
  have w₁ := w.kp p.1
  obtain ⟨ru, rr, rv'⟩ := w₁.view fe i z _ hz hu
  refine name_rd o rr hd hn ?_
  rw [rv'.raw']
  have ok₁ := w₁.ok I.ok
  have hx₁ := w₁.keep y _ hx I.ob
  have hd₁ := w₁.keep d _ hdT I.dd
  refine set_at (prog := C.prog) (w := C.w) (s := s₁) (ok₁.frag hK) hx₁ hd₁ hs hp ht hh (getL_some I.keys.1 attr) (by have := I.len; omega) fun h' hd' hsb => ?_
  generalize hes : putL attr (PyData.keyHash C.w.params attr) (.str attr (s₁.toks + 1)) rv es = es' at hd'
  generalize hnn : putN attr es n = n' at hd'
  have find' : ∀ y, nsFind es'.toArray y = if y = attr then some rv else nsFind es.toArray y := fun y => by rw [← hes]; exact putL_find' y I.keys.1
  have w₂ : StW C (fun a => X a ∨ a = d) N G { s₀ with heap := s₀.heap.update d (fun _ => dictOf es' n') } env σ { s₁ with heap := h', toks := s₁.toks + 2 } m cm ow :=
    w₁.rebase (s' := { s₁ with heap := h', toks := s₁.toks + 2 }) ⟨_, I.dd⟩ hdT I.hG ⟨_, rfl⟩ hsb hd' rfl
  have sb0 : Heap.SameBut d s₀.heap (s₀.heap.update d fun _ => dictOf es' n') := Heap.SameBut.update ..
  -- what the new attribute reads is guarded from now on
  let P₁ : PH := rd (fun a => ((X a ∨ a = d) ∨ Owned env ow a) ∨ a ∈ C.T) h'
  have vP0 : VRel (rd (fun a => (X a ∨ a = d) ∨ Owned env ow a) h') v rv := p.2.freeMono (fun a o' hcl g => ⟨hsb.extBut a o' (fun e => g.2 (.inl (.inr e))) g.1, fun q => by
    rcases q with q | q | ⟨j, q⟩
    · exact g.2 (.inl q)
    · exact g.2 (.inr q)
    · obtain ⟨_, _, its, nn, e⟩ := w₁.newO j a q
      have := g.1
      rw [e] at this; cases this
      exact hcl rfl⟩) hfree
  have vP : VRel P₁ v rv := vP0.monoC fun a o' hcl g => ⟨g.1, fun z => z.elim g.2 fun z => by obtain ⟨o'', e, q'⟩ := w₂.tabs a z; have := g.1; rw [this] at e; cases e; exact hcl q'.1⟩
  let G₁ : PH := fun a o => G a o ∨ P₁ a o
  have w₃ : StW C (fun a => X a ∨ a = d) N G₁ { s₀ with heap := s₀.heap.update d (fun _ => dictOf es' n') } env σ { s₁ with heap := h', toks := s₁.toks + 2 } m cm ow :=
    w₂.guard (fun a o hh => hh.elim (w₂.prot a o) fun g => ⟨g.1, fun q => g.2 (.inl (.inr q))⟩) fun a o hh => hh.elim (w₂.gT a o) fun g q => g.2 (.inr q)
  have I' : IAt C X N Cl y d { s₀ with heap := s₀.heap.update d (fun _ => dictOf es' n') } env σ (fs ++ [(attr, v)]) { s₁ with heap := h', toks := s₁.toks + 2 } G₁ (fun a o => P a o ∨ P₁ a o) es' n' := by
    refine ⟨⟨fun a o' e => ?_, fun a ha => ?_⟩, ?_, Heap.get?_update_self _ I.dd rfl, ?_, ⟨?_, fun z' hz' => ?_⟩, ?_, fun a o' g => ?_, fun a o' g => ?_, ⟨m, cm, ow, w₃⟩⟩
    · exact (sb0.2 a fun e' => hB o' (e' ▸ e)).trans (I.ok.b a o' e)
    · obtain ⟨o', e, q⟩ := I.ok.t a ha
      exact ⟨o', (sb0.2 a fun e' => hdT (e' ▸ ha)).trans e, q⟩
    · exact (sb0.2 y xd).trans I.ob
    · have : ∀ es : List DictEntry, (putL attr (PyData.keyHash C.w.params attr) (.str attr (s₁.toks + 1)) rv es).length ≤ es.length + 1 := by
        intro es
        induction es with
        | nil => exact Nat.le_refl _
        | cons e r ih => unfold putL; split <;> simp <;> omega
      have h1 := this es
      rw [hes] at h1
      have := I.len
      rw [List.length_append, List.length_singleton]
      omega
    · rw [← hes]; exact putL_keys I.keys.1
    · rw [List.lookup_append] at hz'
      obtain ⟨z1, z2⟩ := Option.or_eq_none_iff.mp hz'
      rw [find', if_neg, I.keys.2 z' z1]
      intro e
      subst e
      simp at z2
    · exact VFields.put find' (vP.le fun a o' g => .inr g) (I.vals.mono (fun a its n g => .inl g) fun a o' _ g => .inl g) hno
    · rcases g with g | g
      · exact ⟨.inl (I.hP a o' g).1, (I.hP a o' g).2⟩
      · exact ⟨.inr g, fun q => g.2 (.inl (.inl q))⟩
    · rcases g with g | g
      · exact I.hG a o' g
      · exact fun e => g.2 (.inl (.inl (.inr e)))
  refine wpAny_mono (hr A env _ _ σ σ' _ fs' X G₁ _ E y d es' n' R o fe ke hx hdT hB ?_ nX I' q₂) (fun rf s' hh => ⟨hh.1, hh.2.then sb0 rfl⟩) fun _ _ x => x
  intro a ha
  obtain ⟨o', e⟩ := iX a ha
  by_cases hda : a = d
  · subst hda; exact ⟨_, Heap.get?_update_self _ I.dd rfl⟩
  · exact ⟨o', (sb0.2 a hda).trans e⟩
noncomputable def fIMid (F₁ : Addr → Fs → Sg → Rs) (F : Addr → Sg → Fs → Option (Sg × Fs)) : Addr → Sg → Fs → Option (Sg × Fs) := fun x σ fs => (F₁ x fs σ).bind fun r => match r.1 with
  | .next => F x r.2 fs
  | _ => none
/-- a statement of __init__ that sets no attribute -/
theorem IS_mid {st : Stmt} {r : List Stmt} {F₁ : Addr → Fs → Sg → Rs} {F : Addr → Sg → Fs → Option (Sg × Fs)} (h : ∀ x d es n fs P (hT : ∀ p ∈ [(x, instObj Cl d), (d, dictOf es n)], p.1 ∉ C.T), VFields P fs es.toArray → S1 (C.ext [(x, instObj Cl d), (d, dictOf es n)] hT) k N K st (F₁ x fs)) (hr : IS C k N K Cl r F) :
    IS C k N K Cl (st :: r) (fIMid F₁ F) := fun A env s₀ s σ σ' fs fs' X G P E x d es n R o fe ke hx hdT hB iX nX I q => by
  unfold fIMid at q
  obtain ⟨⟨fl, σ₁⟩, hF, q₁⟩ := Option.bind_eq_some_iff.mp q
  clear q
  cases fl with
  | next =>
    have hT : ∀ p ∈ [(x, instObj Cl d), (d, dictOf es n)], p.1 ∉ C.T := fun p hp => by
      rcases List.mem_cons.mp hp with rfl | hp
      · exact hx
      · rw [List.mem_singleton.mp hp]; exact hdT
    have okE : (C.ext [(x, instObj Cl d), (d, dictOf es n)] hT).Ok s₀.heap := ⟨fun a o' e => by
      rcases e with e | e
      · exact I.ok.b a o' e
      · rcases List.mem_cons.mp e with e | e
        · cases e; exact I.ob
        · have := List.mem_singleton.mp e; cases this; exact I.dd, I.ok.t⟩
    obtain ⟨m, cm, ow, w⟩ := I.st
    refine wpAny_execs_cons (wpAny_mono (h x d es n fs P hT I.vals A env s₀ s σ σ₁ .next _ G E R o fe ke okE ⟨m, cm, ow, w.toExt⟩ hF) (fun rf s₁ p => ?_) fun _ _ x => x)
    obtain ⟨⟨m', cm', ow', w'⟩, pf⟩ := p
    unfold FlRel at pf
    subst pf
    exact hr A env s₀ s₁ σ₁ σ' fs fs' X G P E x d es n R o fe ke hx hdT hB iX nX ⟨I.ok, I.ob, I.dd, I.len, I.keys, I.vals, I.hP, I.hG, m', cm', ow', w'.ofExt⟩ q₁
  | brk => cases q₁
  | cont => cases q₁
  | ret v => cases q₁
/-- self.attr, a text, while __init__ runs -/
noncomputable def fSelf (i : Nat) (attr : Str) (x : Addr) (fs : Fs) : Sg → Option V := fun σ => (σ.get i).bind fun u => match u, fs.lookup attr with
  | .raw (.ref y), some (.str t) => if y = x then some (.str t) else none
  | _, _ => none
theorem Ex_Self {Kf : Frag} {z attr : Str} {zp pos : Pos} {x d : Addr} {es : List DictEntry} {n : Nat} {fs : Fs} {P : PH} {hT : ∀ p ∈ [(x, instObj Cl d), (d, dictOf es n)], p.1 ∉ C.T} (hK : ∀ a o, Kf.lookup a = some o → C.base a o) (i : Nat) (hz : N[i]? = some z) (hf : VFields P fs es.toArray)
    (hg : plainGet Kf Cl attr = true) (hh : hasDictIn Kf Cl = true) (ha : findIn Kf (.ref Cl) attr = some none)
    (he : ∀ env, eval (.Attribute (.Name z zp) attr pos) env = (do
      let o ← eval (.Name z zp) env
      standAt pos.atName
      let r ← holding [o] (getAttr o attr true)
      letTemporaryGo (.Name z zp) o r
      pure r) := by intro _; with_unfolding_all rfl) (hd : (z == ("__debug__" : Str)) = false := by decide +kernel) (hn : (z == ("__classdict__" : Str)) = false := by decide +kernel) :
    ExF (C.ext [(x, instObj Cl d), (d, dictOf es n)] hT) k N K (.Attribute (.Name z zp) attr pos) (fSelf i attr x fs) := fun A env s σ v X E R o ke c iX w q => by
  unfold fSelf at q
  obtain ⟨u, hu, q₁⟩ := Option.bind_eq_some_iff.mp q
  clear q
  split at q₁
  rotate_left
  · cases q₁
  rename_i y t hl
  by_cases e : y = x
  rotate_left
  · rw [if_neg e] at q₁; cases q₁
  rw [if_pos e] at q₁
  subst e
  cases q₁
  obtain ⟨ru, rr, rv⟩ := w i z _ hz hu
  refine Attribute_any_ (name_rd o rr hd hn ?_) (he env)
  rw [rv.raw']
  obtain ⟨rs, hf', rr'⟩ := hf.look hl
  obtain ⟨tk, rfl⟩ := rr'.str'
  have X' : Kf.In s.heap := fun a o' e => c.b a o' (.inl (hK a o' e))
  refine get_value (od := some (dictOf es n)) X' ⟨c.b _ _ (.inr (.head _)), rfl, rfl, c.b _ _ (.inr (.tail _ (.head _)))⟩ (plainGet_of hg).1 (findObj_own hh ha rfl (lookIn_some hf')) rfl ⟨Kp.toks _ _, pStr⟩
/-- a class is called: its __init__ is run on a new object -/
theorem pure_new {Kf : Frag} {fI : Addr} {fd : FuncData} {body : List Stmt} {pn rest : List Str} {F : Addr → Sg → Fs → Option (Sg × Fs)} {spec : List V → Option Fs} (ht : C.T = []) (hK : ∀ a o, Kf.lookup a = some o → C.base a o) (hm : makesIn Kf Cl = true) (hi : findIn Kf (.ref Cl) "__init__" = some (some (.ref fI)))
    (hf : typeIn Kf (.ref fI) = some (.type "function")) (fi : FnIs C fI fd body) (hN : N = pn ++ rest) (hb : ∀ s rargs, rargs.length = pn.length → BindsTo s fd ⟨rargs, []⟩ (pn.zip rargs)) (hnd : N.Nodup) (hk : ∀ x ∈ N, fd.scope.names.lookup x = some .local ∨ fd.scope.names.lookup x = some .cell)
    (hKe : ∀ L, K (callEnvC fd L fI)) (h : IS C k N K Cl body F)
    (hs : ∀ vs fs, spec vs = some fs → pn.length = vs.length + 1 ∧ V.freeFs fs = true ∧ ∀ x, ∃ σ', F x ((.raw (.ref x) :: vs).map .val ++ List.replicate rest.length .unset) [] = some (σ', fs)) :
    PureFn C (k + 2) (.ref Cl) (noKw fun vs => (spec vs).map (.obj Cl)) := fun A s X args kws rargs rkws v E R c iX r rk h₀ => by
  obtain ⟨e₀, h₁⟩ := noKw_some h₀
  clear h₀
  subst e₀
  unfold VRels at rk
  simp only [List.map_nil] at rk
  subst rk
  obtain ⟨fs, hfs, e⟩ := Option.map_eq_some_iff.mp h₁
  subst e
  obtain ⟨hl, hfree, hF⟩ := hs args fs hfs
  obtain ⟨hp, g, dr, tk, os⟩ := s
  refine wpAny_call ?_
  show codeAny C.M A (.call (.ref Cl) ⟨rargs, []⟩) _ _
  refine make_core (makes_of (c.frag hK) hm) (looks_findIn (c.frag hK) hi) (fun self => bind_fn (c.frag hK) self hf) (.inl rfl) ?_
  have up : Hle hp ((hp.push emptyDict).push (instObj Cl hp.objs.size)) := fun b o e => Heap.get?_push_of_some _ (Heap.get?_push_of_some _ e)
  generalize hx : hp.objs.size + 1 = x
  generalize hd : hp.objs.size = d at up ⊢
  have hxo : ((hp.push emptyDict).push (instObj Cl d)).get? x = some (instObj Cl d) := by
    have := Heap.get?_push_size (hp.push emptyDict) (o := instObj Cl d) rfl
    rw [Heap.size_push, hx] at this
    exact this
  have hdo : ((hp.push emptyDict).push (instObj Cl d)).get? d = some (dictOf [] 0) := by
    have := Heap.get?_push_size hp (o := emptyDict) rfl
    rw [hd] at this
    exact Heap.get?_push_of_some _ this
  generalize ((hp.push emptyDict).push (instObj Cl d)) = h2 at up hxo hdo ⊢
  have c2 : C.Ok h2 := c.le up
  have freshd : hp.get? d = none := none_of_ge (by rw [← hd]; exact Nat.le_refl _)
  have freshx : hp.get? x = none := none_of_ge (by rw [← hx]; exact Nat.le_succ _)
  have nXd : ¬ X d := fun q => by obtain ⟨o', e⟩ := iX d q; rw [freshd] at e; cases e
  have nXx : ¬ X x := fun q => by obtain ⟨o', e⟩ := iX x q; rw [freshx] at e; cases e
  have iX2 : InH (fun a => X a ∨ a = d) h2 := fun a ha => ha.elim (fun q => iX.le up a q) fun q => ⟨_, q ▸ hdo⟩
  have R1 : Rm (k + 1) (A.under (.builtin "type.__call__" ⟨.ref Cl :: rargs, []⟩)) := ⟨R.handled, by
      have := R.depth
      show A.depth + 1 + (k + 1) < recursionLimit
      omega, by
      have := R.units
      show A.units + (Code.builtin "type.__call__" ⟨.ref Cl :: rargs, []⟩).cUnits + 20 * (k + 1) + 20 < cLine
      have hcu : (Code.builtin "type.__call__" ⟨.ref Cl :: rargs, []⟩).cUnits = 1 := rfl
      omega⟩
  have hvr : VRels (rd (fun a => X a ∨ a = d) h2) (.raw (.ref x) :: args) (.ref x :: rargs) := VRels.cons (by unfold VRel; rfl) (r.le fun a o p => ⟨up a o p.1, fun q => q.elim p.2 fun q => by
    have := p.1
    simp only at this
    rw [q, freshd] at this; cases this⟩)
  refine fn_code (C := C) (k := k) (N := N) (K := K) (X := fun a => X a ∨ a = d) (s := ⟨h2, g, dr, tk, os⟩) (vs := .raw (.ref x) :: args) (rvs := .ref x :: rargs) fi hN (hb _ _ (by have := r.length; simp; omega)) hnd hk hvr (by simpa using hl) hKe R1 c2 iX2 (by rw [ht]; exact fun _ q => nomatch q) fun env s₁ R₁ eo fe ke w => ?_
  obtain ⟨σ', hF⟩ := hF x
  refine wpAny_mono (h (A.under (.builtin "type.__call__" ⟨.ref Cl :: rargs, []⟩) |>.deeper env) env ⟨h2, g, dr, tk, os⟩ s₁ _ σ' [] fs X (fun _ _ => False) (fun _ _ => False) _ x d [] 0 R₁ eo fe ke (by rw [ht]; exact fun q => nomatch q) (by rw [ht]; exact fun q => nomatch q)
    (fun o q => ?_) (iX.le up) nXx ⟨c2, hxo, hdo, Nat.le_refl _, ⟨fun e he => by simp at he, fun y _ => by rfl⟩, by unfold VFields; trivial, fun _ _ q => q.elim, fun _ _ q => q.elim, w⟩ hF) (fun rf s' hh => ?_) fun _ _ z => z
  · have := c.b d o q
    simp only at this
    rw [freshd] at this; cases this
  · obtain ⟨rfl, s₀', G, P, es, n, sb, es0, I⟩ := hh
    refine ⟨rfl, ?_⟩
    obtain ⟨m, cm, ow, w'⟩ := I.st
    have kT : ∀ b o, s₀'.heap.get? b = some o → s'.heap.get? b = some o := fun b o e => w'.keep b o (by rw [ht]; exact fun q => nomatch q) e
    have hx' : s'.heap.get? x = some (instObj Cl d) := kT _ _ I.ob
    have hd' : s'.heap.get? d = some (dictOf es n) := kT _ _ I.dd
    have kp : Kp ⟨hp, g, dr, tk, os⟩ s' := by
      refine ⟨?_, fun b o e => kT b o ((sb.2 b fun q => ?_).trans (up b o e))⟩
      · obtain ⟨t, e⟩ := w'.same
        exact ⟨t, by rw [e]; rw [es0]⟩
      · have := e
        simp only at this
        rw [q, freshd] at this; cases this
    refine ⟨kp, VRel.toF (h := hp) kp.le (by unfold V.free; exact hfree) ?_⟩
    unfold VRel
    refine ⟨x, d, es.toArray, n, rfl, ⟨hx', nXx⟩, ⟨hd', nXd⟩, I.keys, I.vals.mono (fun a its nn g => ?_) fun a o _ g => ?_⟩
    · obtain ⟨z1, z2⟩ := I.hP a _ g; exact ⟨(w'.prot a _ z1).1, fun q => z2 (.inl q)⟩
    · obtain ⟨z1, z2⟩ := I.hP a _ g; exact ⟨(w'.prot a _ z1).1, fun q => z2 (.inl q)⟩
end
end Mine
set_option Elab.async false
set_option linter.unusedVariables false
set_option maxRecDepth 100000
namespace Mine
open PySem PySem.W PyProof.Rows
noncomputable def V.strs : List V → Option (List Str)
  | [] => some []
  | .str x :: r => (V.strs r).map (x :: ·)
  | _ :: _ => Option.none
noncomputable def lenSum : List Str → Nat
  | [] => 0
  | x :: r => x.length + lenSum r
/-- the texts one behind another -/
noncomputable def catAll : List Str → Str
  | [] => ⟨#[]⟩
  | x :: r => x ++ catAll r
noncomputable def joinD : List V → Option V
  | [.str sep, .lst l] => if sep.length = 0 then (V.strs l).bind fun xs => if lenSum xs ≤ 100000 then some (.str (catAll xs)) else Option.none else Option.none
  | _ => Option.none
theorem strs_are {P : PH} : ∀ {l : List V} {xs : List Str} {rs : List Value}, V.strs l = some xs → VRels P l rs → ∃ ps : List (Str × Tok), rs = strValues ps ∧ ps.map (·.1) = xs
  | [], xs, rs, h, r => by unfold V.strs at h; cases h; unfold VRels at r; subst r; exact ⟨[], rfl, rfl⟩
  | .str x :: l, xs, rs, h, r => by
    unfold V.strs at h
    obtain ⟨ys, hy, rfl⟩ := Option.map_eq_some_iff.mp h
    unfold VRels at r
    obtain ⟨q, qs, rfl, r1, r2⟩ := r
    obtain ⟨t, rfl⟩ := r1.str'
    obtain ⟨ps, rfl, rfl⟩ := strs_are hy r2
    exact ⟨(x, t) :: ps, rfl, rfl⟩
theorem str_app (x y : Str) : x ++ y = ⟨x.cps ++ y.cps⟩ := rfl
theorem catAll_len : ∀ xs : List Str, (catAll xs).length = lenSum xs
  | [] => rfl
  | x :: r => by
    have ih := catAll_len r
    show (x.cps ++ (catAll r).cps).size = x.cps.size + lenSum r
    rw [Array.size_append, ← ih]; rfl
theorem foldl_len (n : Nat) : ∀ (l : List Str) (a : Nat), l.foldl (fun a x => a + x.length + n) a = a + lenSum l + n * l.length
  | [], a => by simp [lenSum]
  | x :: r, a => by
    rw [List.foldl_cons, foldl_len n r]
    simp only [lenSum, List.length_cons, Nat.mul_add]
    omega
theorem fold_cat : ∀ (l : List Str) (a : Array Nat), l.foldl (fun acc p => acc ++ (⟨#[]⟩ : Str).cps ++ p.cps) a = a ++ (catAll l).cps
  | [], a => by simp [catAll]
  | x :: r, a => by
    rw [List.foldl_cons, fold_cat r]
    simp only [catAll, str_app, Array.append_empty, Array.append_assoc]
theorem glued_nil (xs : List Str) : Builtin.Str.glued ⟨#[]⟩ xs = catAll xs := by
  unfold Builtin.Str.glued
  rw [fold_cat]
  cases xs with
  | nil => simp [catAll, Str.empty]
  | cons x r => simp [catAll, str_app]
section
variable {C : Cx} {k : Nat}
theorem pure_join : PureFn C k (.builtin "str.join") (noKw joinD) := fun A s X args kws rargs rkws v E R c i r rk h₀ => by
  obtain ⟨e₀, h⟩ := noKw_some h₀
  clear h₀
  subst e₀
  unfold VRels at rk
  simp only [List.map_nil] at rk
  subst rk
  unfold joinD at h
  split at h
  rotate_left
  · cases h
  rename_i sep l
  by_cases hsep : sep.length = 0
  rotate_left
  · rw [if_neg hsep] at h; cases h
  rw [if_pos hsep] at h
  obtain ⟨xs, hxs, h2⟩ := Option.bind_eq_some_iff.mp h
  by_cases hl : lenSum xs ≤ 100000
  rotate_left
  · rw [if_neg hl] at h2; cases h2
  rw [if_pos hl] at h2
  cases h2
  have esep : sep = ⟨#[]⟩ := by
    obtain ⟨cps⟩ := sep
    have : cps.size = 0 := hsep
    rw [Array.size_eq_zero_iff.mp this]
  subst esep
  obtain ⟨r1, r2, rfl, p1, p2⟩ := r.two'
  obtain ⟨t, rfl⟩ := p1.str'
  obtain ⟨a, its, n, rfl, g, q⟩ := p2.lst'
  obtain ⟨ps, e, e2⟩ := strs_are hxs q
  have hits : its = (strValues ps).toArray := by rw [← e]
  subst hits
  refine call_meets (self := .str ⟨#[]⟩ t) (rest := [.ref a]) PySem.F.slot_str_join (typeIs_str _ _ t) PySem.F.entry_str_join (PySem.F.args_str_join_2 _ _) (meets_str_join_list ⟨#[]⟩ t a ps ?_) ⟨isList_of g.1, ?_⟩
  · have e3 : List.foldl (fun x1 x2 => x1 + x2.length + (⟨#[]⟩ : Str).length) 0 xs = lenSum xs := by
      have := foldl_len (⟨#[]⟩ : Str).length xs 0
      rw [this]
      show 0 + lenSum xs + 0 * xs.length = lenSum xs
      omega
    rw [e2, List.foldl_toArray']
    · rw [e3]
      show decide (_ > sizeLine) = false
      rw [decide_eq_false_iff_not]
      unfold sizeLine
      omega
    · simp
  · match ps, e2 with
    | [], e2 =>
      subst e2
      refine ⟨?_, Kp.toks _ _, pStr⟩
      decide
    | [p], e2 =>
      subst e2
      refine ⟨Kp.refl _, ?_⟩
      unfold VRel
      refine ⟨p.2, ?_⟩
      simp [catAll, str_app]
    | p :: q :: r', e2 =>
      subst e2
      have : Builtin.Str.glued ⟨#[]⟩ ((p :: q :: r').map (·.1)) = catAll ((p :: q :: r').map (·.1)) := glued_nil _
      refine ⟨?_, Kp.toks _ _, ?_⟩
      · show (Builtin.Str.glued ⟨#[]⟩ ((p :: q :: r').map (·.1))).length ≤ sizeLine
        rw [this, catAll_len]; unfold sizeLine; omega
      · rw [this]; exact pStr
noncomputable def listD : List V → Option V
  | [.rng a b c] => if c = 1 ∧ smallI a = true ∧ smallI b = true ∧ b - a ≤ 100000 then some (.lst (upTo a (b - a).toNat)) else Option.none
  | _ => Option.none
theorem VRels.ofGet {P : PH} : ∀ {vs : List V} {rs : List Value}, vs.length = rs.length → (∀ (i : Nat) v rv, vs[i]? = some v → rs[i]? = some rv → VRel P v rv) → VRels P vs rs
  | [], [], _, _ => VRels.nil
  | v :: vs, r :: rs, hl, h => VRels.cons (h 0 v r rfl rfl) (VRels.ofGet (by simpa using hl) fun i v rv h1 h2 => h (i + 1) v rv h1 h2)
  | [], _ :: _, hl, _ => by cases hl
  | _ :: _, [], hl, _ => by cases hl
theorem pure_list : PureFn C k (.type "list") (noKw listD) := fun A s X args kws rargs rkws v E R c i r rk h₀ => by
  obtain ⟨e₀, h⟩ := noKw_some h₀
  clear h₀
  subst e₀
  unfold VRels at rk
  simp only [List.map_nil] at rk
  subst rk
  unfold listD at h
  split at h
  rotate_left
  · cases h
  rename_i a b cc
  by_cases hs : cc = 1 ∧ smallI a = true ∧ smallI b = true ∧ b - a ≤ 100000
  rotate_left
  · rw [if_neg hs] at h; cases h
  rw [if_pos hs] at h
  cases h
  obtain ⟨rfl, ha, hb, hl⟩ := hs
  obtain ⟨rv, rfl, p⟩ := r.one'
  unfold VRel at p
  obtain ⟨x, ta, tb, tc, rfl, g⟩ := p
  obtain ⟨z1, z2⟩ := small_range ha hb
  refine call_list_range (r := x) (a := a) (b := b) (c := 1) (t := ta) (u := tb) (v := tc) (n := (b - a).toNat) R.handled g.1 z1 z2 (by omega) fun h' tk acc' c' hk ho hacc => ?_
  refine ⟨⟨⟨tk, rfl⟩, hk⟩, ?_⟩
  unfold VRel
  refine ⟨_, acc', c', rfl, ⟨ho, fun q => ?_, fun o' e => ?_⟩, VRels.ofGet ?_ fun j u ru h1 h2 => ?_⟩
  · obtain ⟨o', e⟩ := i _ q
    exact absurd (Heap.lt_size e) (Nat.lt_irrefl _)
  · exact absurd (Heap.lt_size e) (Nat.lt_irrefl _)
  · simp [upTo, hacc.1]
  · obtain ⟨t, rfl⟩ := hacc.2 j ru (by simpa using h2)
    unfold upTo at h1
    rw [List.getElem?_map] at h1
    obtain ⟨j', hj, rfl⟩ := Option.map_eq_some_iff.mp h1
    have : j' = j := by
      obtain ⟨_, e⟩ := List.getElem?_eq_some_iff.mp hj
      simpa using e.symm
    subst this
    rw [Int.mul_one]
    exact pInt
theorem take_pick (xs : Array Value) (k : Nat) : ((List.range (min k xs.size)).filterMap fun (j : Nat) => xs[((0 : Int) + (j : Int) * 1).toNat]?).toArray = (xs.toList.take k).toArray := by
  have e : (fun (j : Nat) => xs[((0 : Int) + (j : Int) * 1).toNat]?) = fun j => xs.toList[j]? := by
    funext j
    have : ((0 : Int) + (j : Int) * 1).toNat = j := by omega
    rw [this]; simp
  rw [e]
  congr 1
  apply List.ext_getElem?
  intro j
  have main : ∀ (l : List Value) (m : Nat), m ≤ l.length → (List.range m).filterMap (fun j => l[j]?) = l.take m := by
    intro l m
    induction m with
    | zero => intro _; simp
    | succ m ih =>
      intro hm
      rw [List.range_succ, List.filterMap_append, ih (by omega)]
      have : l[m]? = some l[m] := List.getElem?_eq_getElem (by omega)
      simp only [List.filterMap_cons, List.filterMap_nil, this]
      rw [List.take_succ, this]; rfl
  rw [main _ _ (by simp; omega)]
  rcases Nat.le_total k xs.size with h | h
  · rw [Nat.min_eq_left h]
  · rw [Nat.min_eq_right h, List.take_of_length_le (by simp), List.take_of_length_le (by simp; omega)]
theorem tuple_upTo {A : Around} {E : Value → Shared → Prop} {s : Shared} {t sl : Addr} {its : Array Value} {n k : Nat} {u : Tok} {Q : Value → Shared → Prop} (ht : s.heap.get? t = some (tupObj its n)) (hs : s.heap.get? sl = some { cls := .type "slice", data := .fields #[.none, .int k u, .none] }) (hsz : its.size ≤ 1000)
    (h1 : its.size ≤ k → Q (.ref t) s) (h2 : k < its.size → Q (.ref s.heap.objs.size) { s with heap := s.heap.push (tupObj (its.toList.take k).toArray 0) }) : wpAny C.M A (getItem (.ref t) (.ref sl)) Q E s := by
  have isT : IsTup s.heap t its := ⟨_, ht, rfl, n, rfl⟩
  have hTs : s.TypeIs (.ref sl) "slice" := ⟨_, hs, rfl⟩
  unfold getItem
  refine wpAny_holding ?_
  refine wpAny_bind (wpAny_sequenceKey isT.typeIs (by decide) ?_)
  refine wpAny_bind (wpAny_callSpecial?_slot (name := Str.ofString "__getitem__") isT.typeIs slot_tuple_getitem (wpAny_call_entry slot_tuple_getitem isT.typeIs entry_tuple_getitem ?_ (args_tuple_getitem _ _)))
  show wpAny _ _ (Builtin.Tuple.tupleItemsOf (.ref t) >>= _) _ _ s
  refine wpAny_bind (tupleItemsOf_ isT ?_)
  refine wpAny_bind (wpAny_typeOf hTs ?_)
  rw [if_pos (by decide)]
  have adj : Builtin.Slice.sliceAdjust none (some (k : Int)) 1 (its.size : Int) = (0, ((min k its.size : Nat) : Int)) := by
    unfold Builtin.Slice.sliceAdjust
    have h1 : ¬ ((1 : Int) < 0) := by omega
    have h2 : ¬ ((k : Int) < 0) := by omega
    simp only [h1, h2, if_false]
    congr 1
    omega
  have plc : Builtin.Slice.slicePlaces 0 ((min k its.size : Nat) : Int) 1 = min k its.size := by
    unfold Builtin.Slice.slicePlaces
    simp
    split <;> omega
  have app : ∀ {A' : Around} {E' : Value → Shared → Prop} {Q' : Int × Int × Nat → Shared → Prop}, Q' (0, 1, min k its.size) s → wpAny C.M A' (Builtin.Slice.sliceApplied (.ref sl) (pure (its.size : Int))) Q' E' s := fun hq => by
    unfold Builtin.Slice.sliceApplied Builtin.Slice.sliceFields
    refine wpAny_bind (wpAny_bind (wpAny_field hs rfl (x := .none) rfl (wpAny_bind (wpAny_field hs rfl (x := .int k u) rfl (wpAny_bind (wpAny_field hs rfl (x := .none) rfl (wpAny_pure ?_)))))))
    refine wpAny_bind (slicePart_none ?_)
    show wpAny _ _ (if ((1 : Int) == 0) = true then _ else _) _ _ s
    rw [if_neg (by decide)]
    refine wpAny_bind (slicePart_none (wpAny_bind (slicePart_int (wpAny_bind (wpAny_pure ?_)))))
    show wpAny _ _ (match Builtin.Slice.sliceAdjust none (some (k : Int)) 1 (its.size : Int) with | (lo, hi) => pure (lo, (1 : Int), Builtin.Slice.slicePlaces lo hi 1)) _ _ s
    rw [adj]
    show wpAny _ _ (pure ((0 : Int), (1 : Int), Builtin.Slice.slicePlaces 0 ((min k its.size : Nat) : Int) 1)) _ _ s
    rw [plc]
    exact wpAny_pure hq
  refine wpAny_bind (app ?_)
  show wpAny _ _ (if ((0 : Int) == 0 && (1 : Int) == 1 && (min k its.size) == its.size) = true then _ else _) _ _ s
  by_cases hk : its.size ≤ k
  · have hm : (min k its.size == its.size) = true := by rw [Nat.min_eq_right hk]; simp
    rw [if_pos (by rw [hm]; rfl)]
    refine wpAny_bind (wpAny_bind (wpAny_typeOf isT.typeIs (wpAny_pure ?_)))
    have hb : (Value.type "tuple" == Value.type "tuple") = true := by simp
    rw [hb]
    first
      | exact wpAny_bind (wpAny_rule (wpAny_pure ⟨_, rfl, wpAny_pure (h1 hk)⟩))
      | exact wpAny_rule (wpAny_pure ⟨_, rfl, wpAny_pure (h1 hk)⟩)
      | exact wpAny_bind (wpAny_rule (wpAny_bind (wpAny_pure (wpAny_pure ⟨_, rfl, wpAny_pure (h1 hk)⟩))))
  · have hm : (min k its.size == its.size) = false := by rw [Nat.min_eq_left (by omega)]; rw [beq_eq_false_iff_ne]; omega
    rw [if_neg (by rw [hm]; simp), take_pick]
    have hsz' : sizeOk (.seq (its.toList.take k).toArray) := by
      show (its.toList.take k).toArray.size ≤ sizeLine
      rw [List.size_toArray, List.length_take, Array.length_toList]
      unfold sizeLine
      omega
    have hq := h2 (by omega)
    first
      | exact wpAny_bind (m := Builtin.Tuple.tupleExact _) (wpAny_newObj_type (wpAny_pure ⟨_, rfl, wpAny_pure hq⟩) hsz')
      | exact wpAny_bind (m := Builtin.Tuple.tupleExact _) (wpAny_newObj_type (wpAny_bind (wpAny_pure (wpAny_pure ⟨_, rfl, wpAny_pure hq⟩))) hsz')
end
end Mine
set_option Elab.async false
set_option linter.unusedVariables false
set_option linter.unusedSimpArgs false
set_option maxRecDepth 100000
namespace Mine
open PySem PySem.W PyProof.Rows
open PySem.Sre (M Frame Wait Kept)
/-- the machine ends, within k steps, and so -/
noncomputable def Ends (k : Nat) (m : M) (P : M → Prop) : Prop := ∃ n, n ≤ k ∧ (M.runFor n m).outcome.isSome = true ∧ P (M.runFor n m)
theorem Ends.step {k : Nat} {m : M} {P : M → Prop} (h : m.outcome = none) (e : Ends k m.step P) : Ends (k + 1) m P := by
  obtain ⟨n, hn, a, b⟩ := e
  refine ⟨n + 1, by omega, ?_, ?_⟩
  · unfold M.runFor; rw [h]; exact a
  · unfold M.runFor; rw [h]; exact b
theorem Ends.done {k : Nat} {m : M} {P : M → Prop} (h : m.outcome.isSome = true) (p : P m) : Ends k m P := ⟨0, Nat.zero_le _, h, p⟩
theorem Ends.more {k k' : Nat} {m : M} {P : M → Prop} (h : k ≤ k') (e : Ends k m P) : Ends k' m P := let ⟨n, a, b⟩ := e; ⟨n, by omega, b⟩
noncomputable def code1 : Array Nat := #[14, 4, 0, 1, 1, 6, 1, 16, 46, 1]
noncomputable def fr1 (s : Nat) (first : Bool) : Sre.Frame := { wait := .nextStart, pc := 5, pos := s, outermost := first }
noncomputable def st1 (text : Array Nat) (s : Nat) (first : Bool) (seen : Sre.Seen) : M :=
  { code := code1, text, lim := text.size, start := s, lastStart := text.size, pc := 5, pos := s, handed := s, outermost := first, marks := #[], frames := [fr1 s first], weight := 1, seen }
noncomputable def hit1 (text : Array Nat) (s : Nat) : Bool := decide (s < text.size) && text.getD s 0 == 46 && (s == 0 || text.getD (s - 1) 0 == 10)
noncomputable def find1 (text : Array Nat) : Nat → Nat → Option Nat
  | 0, _ => none
  | n + 1, s => if hit1 text s then some s else find1 text n (s + 1)
noncomputable def Hit (r : Option (Nat × Nat)) (m : M) : Prop := match r with
  | some (b, e) => (match m.outcome with | some .matched => True | _ => False) ∧ m.start = b ∧ m.handed = e
  | none => match m.outcome with | some .failed => True | _ => False
theorem p1_try {text : Array Nat} {s : Nat} {first : Bool} {seen : Sre.Seen} : (st1 text s first seen).step = (if s = 0 ∨ text.getD (s - 1) 0 = 10 then { st1 text s first ((seen.add 6).add 44) with pc := 7 } else { st1 text s first ((seen.add 6).add 44) with answer := some false }) := by
  unfold M.step st1
  simp [M.exec, M.word, code1, Sre.ops, M.isAt, M.say]
/-- a start has failed: on to the next one -/
theorem p1_next {text : Array Nat} {s p : Nat} {pc : Nat} {first : Bool} {seen : Sre.Seen} : ({ st1 text s first seen with answer := some false, pc := pc, pos := p } : M).step =
    (if s < text.size then st1 text (s + 1) false seen else { st1 text s first seen with answer := some false, frames := [], weight := 0 }) := by
  unfold M.step st1
  simp [M.resume, fr1, code1, Sre.ops, M.attemptFrom, M.hasFirstSet, M.attemptAt, M.attempt, M.say]
theorem p1_over {text : Array Nat} {s : Nat} {first : Bool} {seen : Sre.Seen} : ({ st1 text s first seen with answer := some false, frames := [], weight := 0 } : M).step = { st1 text s first seen with answer := some false, frames := [], weight := 0, outcome := some .failed } := by
  unfold M.step st1
  simp
theorem p1_lit {text : Array Nat} {s : Nat} {first : Bool} {seen : Sre.Seen} : ({ st1 text s first seen with pc := 7 } : M).step =
    (if s < text.size then (if text.getD s 0 = 46 then { st1 text s first (seen.add 16) with pc := 9, pos := s + 1 } else { st1 text s first (seen.add 16) with pc := 7, answer := some false }) else { st1 text s first (seen.add 16) with pc := 7, answer := some false }) := by
  unfold M.step st1
  by_cases h : s < text.size
  · have h' : ¬ text.size ≤ s := by omega
    by_cases h2 : text.getD s 0 = 46
    · simp [M.exec, M.word, code1, Sre.ops, M.say, h, h', h2, Sre.accepts, Sre.itemWidth]
    · have h3 : (text[s] == 46) = false := by rw [beq_eq_false_iff_ne]; simpa [h] using h2
      have h4 : ¬ text[s] = 46 := by simpa [h] using h2
      simp [M.exec, M.word, code1, Sre.ops, M.say, h, h', h3, h4, Sre.accepts, Sre.itemWidth]
  · have h' : text.size ≤ s := by omega
    simp [M.exec, M.word, code1, Sre.ops, M.say, h, h']
theorem p1_yes {text : Array Nat} {s : Nat} {first : Bool} {seen : Sre.Seen} : ({ st1 text s first seen with pc := 9, pos := s + 1 } : M).step = { st1 text s first (seen.add 1) with pc := 9, pos := s + 1, handed := s + 1, answer := some true } := by
  unfold M.step st1
  simp [M.exec, M.word, code1, Sre.ops, M.say]
theorem p1_yes2 {text : Array Nat} {s : Nat} {first : Bool} {seen : Sre.Seen} : ({ st1 text s first seen with pc := 9, pos := s + 1, handed := s + 1, answer := some true } : M).step = { st1 text s first seen with handed := s + 1, answer := some true, frames := [], weight := 0 } := by
  unfold M.step st1
  simp [M.resume, fr1, M.say]
theorem p1_yes3 {text : Array Nat} {s : Nat} {first : Bool} {seen : Sre.Seen} : ({ st1 text s first seen with handed := s + 1, answer := some true, frames := [], weight := 0 } : M).step = { st1 text s first seen with handed := s + 1, answer := some true, frames := [], weight := 0, outcome := some .matched } := by
  unfold M.step st1
  simp
theorem p1_search (text : Array Nat) : ∀ (n s : Nat) (first : Bool) (seen : Sre.Seen), text.size - s ≤ n → s ≤ text.size → Ends (6 * n + 8) (st1 text s first seen) (Hit ((find1 text (n + 1) s).map fun p => (p, p + 1))) := by
  intro n
  induction n with
  | zero =>
    intro s first seen hn hs
    have e : s = text.size := by omega
    have hno : hit1 text s = false := by unfold hit1; simp [e]
    have hf : find1 text 1 s = none := by unfold find1; rw [hno]; rfl
    rw [hf]
    have over : ∀ (pc p : Nat) (seen : Sre.Seen), Ends 3 ({ st1 text s first seen with answer := some false, pc := pc, pos := p } : M) (Hit none) := fun pc p seen => by
      refine Ends.step rfl ?_
      rw [p1_next, if_neg (by omega)]
      refine Ends.step rfl ?_
      rw [p1_over]
      exact Ends.done rfl trivial
    refine Ends.step rfl ?_
    rw [p1_try]
    by_cases hb : s = 0 ∨ text.getD (s - 1) 0 = 10
    · rw [if_pos hb]
      refine Ends.step rfl ?_
      rw [p1_lit, if_neg (by omega)]
      exact (over 7 s _).more (by omega)
    · rw [if_neg hb]; exact (over 5 s _).more (by omega)
  | succ n ih =>
    intro s first seen hn hs
    by_cases hlt : s < text.size
    rotate_left
    · have hno : hit1 text s = false := by unfold hit1; simp [hlt]
      have hf : find1 text (n + 1 + 1) s = find1 text (n + 1) (s + 1) := by
        conv => lhs; unfold find1
        rw [hno]; rfl
      have z : ∀ m t, ¬ t < text.size → find1 text m t = none := by
        intro m
        induction m with
        | zero => intro t _; rfl
        | succ m ihm =>
          intro t ht
          have : hit1 text t = false := by unfold hit1; simp [ht]
          unfold find1
          rw [this]
          exact ihm (t + 1) (by omega)
      rw [hf, z _ _ (by omega)]
      have over : ∀ (pc p : Nat) (seen : Sre.Seen), Ends 3 ({ st1 text s first seen with answer := some false, pc := pc, pos := p } : M) (Hit none) := fun pc p seen => by
        refine Ends.step rfl ?_
        rw [p1_next, if_neg hlt]
        refine Ends.step rfl ?_
        rw [p1_over]
        exact Ends.done rfl trivial
      refine Ends.more (k := 5) (by omega) (Ends.step rfl ?_)
      rw [p1_try]
      by_cases hb : s = 0 ∨ text.getD (s - 1) 0 = 10
      · rw [if_pos hb]
        refine Ends.step rfl ?_
        rw [p1_lit, if_neg hlt]
        exact over 7 s _
      · rw [if_neg hb]; exact (over 5 s _).more (by omega)
    · have next : ∀ (pc p : Nat) (seen : Sre.Seen), hit1 text s = false → Ends (6 * n + 9) ({ st1 text s first seen with answer := some false, pc := pc, pos := p } : M) (Hit ((find1 text (n + 1 + 1) s).map fun p => (p, p + 1))) := fun pc p seen hno => by
        have hf : find1 text (n + 1 + 1) s = find1 text (n + 1) (s + 1) := by
          conv => lhs; unfold find1
          rw [hno]; rfl
        rw [hf]
        refine Ends.step rfl ?_
        rw [p1_next, if_pos hlt]
        exact ih (s + 1) false seen (by omega) (by omega)
      refine Ends.more (k := 6 * n + 9 + 2) (by omega) (Ends.step rfl ?_)
      rw [p1_try]
      by_cases hb : s = 0 ∨ text.getD (s - 1) 0 = 10
      · rw [if_pos hb]
        refine Ends.step rfl ?_
        rw [p1_lit, if_pos hlt]
        by_cases h46 : text.getD s 0 = 46
        · rw [if_pos h46]
          have hyes : hit1 text s = true := by
            unfold hit1
            have : (s == 0 || text.getD (s - 1) 0 == 10) = true := by
              rcases hb with h | h
              · simp [h]
              · rw [h]; simp
            rw [this, h46]; simp [hlt]
          have hf : find1 text (n + 1 + 1) s = some s := by unfold find1; rw [hyes]; rfl
          rw [hf]
          refine Ends.more (k := 3) (by omega) (Ends.step rfl ?_)
          rw [p1_yes]
          refine Ends.step rfl ?_
          rw [p1_yes2]
          refine Ends.step rfl ?_
          rw [p1_yes3]
          exact Ends.done rfl ⟨trivial, rfl, rfl⟩
        · rw [if_neg h46]
          exact next 7 s _ (by
            unfold hit1
            have : (text.getD s 0 == 46) = false := beq_eq_false_iff_ne.mpr h46
            rw [this, Bool.and_false, Bool.false_and])
      · rw [if_neg hb]
        refine (next 5 s _ ?_).more (by omega)
        unfold hit1
        simp only [not_or] at hb
        have h1 : (s == 0) = false := beq_eq_false_iff_ne.mpr hb.1
        have h2 : (text.getD (s - 1) 0 == 10) = false := beq_eq_false_iff_ne.mpr hb.2
        rw [h1, h2, Bool.or_false, Bool.and_false]
end Mine
set_option Elab.async false
set_option linter.unusedVariables false
set_option linter.unusedSimpArgs false
set_option maxRecDepth 100000
namespace Mine
open PySem PySem.W PyProof.Rows
open PySem.Sre (M Wait Kept)
noncomputable def code2 : Array Nat := #[14, 9, 4, 1, 2, 16, 10, 16, 13, 0, 7, 7, 16, 13, 16, 10, 15, 18, 5, 16, 10, 15, 13, 11, 16, 13, 5, 5, 0, 16, 10, 1, 15, 2, 0, 1]
noncomputable def fr2 (s : Nat) (first : Bool) : Sre.Frame := { wait := .nextStart, pc := 10, pos := s, outermost := first }
noncomputable def st2 (text : Array Nat) (s : Nat) (first : Bool) (seen : Sre.Seen) : M :=
  { code := code2, text, lim := text.size, start := s, lastStart := text.size, pc := 10, pos := s, handed := s, outermost := first, marks := #[], frames := [fr2 s first], weight := 1, seen }
/-- within the branches -/
noncomputable def br2 (text : Array Nat) (s : Nat) (first : Bool) (seen : Sre.Seen) (alt pc pos hd : Nat) (ans : Option Bool) : M :=
  { code := code2, text, lim := text.size, start := s, lastStart := text.size, pc, pos, handed := hd, outermost := first, marks := #[], frames := [{ wait := .nextBranch, pc := alt, pos := s, outermost := first }, fr2 s first], weight := 2, answer := ans, seen }
theorem p2_branch {text : Array Nat} {s : Nat} {first : Bool} {seen : Sre.Seen} : (st2 text s first seen).step = br2 text s first (seen.add 7) 11 12 s s none := by
  unfold M.step st2 br2
  simp [M.exec, M.word, code2, Sre.ops, M.alternative, M.attempt, M.frame, M.keep, fr2]
theorem p2_lit {text : Array Nat} {s alt pc pos hd c : Nat} {first : Bool} {seen : Sre.Seen} (hpc : (pc = 12 ∧ c = 13) ∨ (pc = 14 ∧ c = 10) ∨ (pc = 19 ∧ c = 10) ∨ (pc = 24 ∧ c = 13)) : (br2 text s first seen alt pc pos hd none).step =
    (if pos < text.size ∧ text.getD pos 0 = c then br2 text s first (seen.add 16) alt (pc + 2) (pos + 1) hd none else br2 text s first (seen.add 16) alt pc pos hd (some false)) := by
  unfold M.step br2
  by_cases h : pos < text.size
  · have h' : ¬ text.size ≤ pos := by omega
    by_cases h2 : text[pos] = c
    · rcases hpc with ⟨rfl, rfl⟩ | ⟨rfl, rfl⟩ | ⟨rfl, rfl⟩ | ⟨rfl, rfl⟩ <;>
        simp [M.exec, M.word, code2, Sre.ops, M.say, h, h', h2, Sre.accepts, Sre.itemWidth]
    · have h3 : (text[pos] == c) = false := by rw [beq_eq_false_iff_ne]; exact h2
      rcases hpc with ⟨rfl, rfl⟩ | ⟨rfl, rfl⟩ | ⟨rfl, rfl⟩ | ⟨rfl, rfl⟩ <;>
        simp [M.exec, M.word, code2, Sre.ops, M.say, h, h', h2, h3, Sre.accepts, Sre.itemWidth]
  · have h' : text.size ≤ pos := by omega
    rcases hpc with ⟨rfl, rfl⟩ | ⟨rfl, rfl⟩ | ⟨rfl, rfl⟩ | ⟨rfl, rfl⟩ <;>
      simp [M.exec, M.word, code2, Sre.ops, M.say, h, h']
theorem p2_jump {text : Array Nat} {s alt pc pos hd : Nat} {first : Bool} {seen : Sre.Seen} (hpc : pc = 16 ∨ pc = 21 ∨ pc = 32) : (br2 text s first seen alt pc pos hd none).step = br2 text s first (seen.add 15) alt 35 pos hd none := by
  unfold M.step br2
  rcases hpc with rfl | rfl | rfl <;> simp [M.exec, M.word, code2, Sre.ops]
theorem p2_no {text : Array Nat} {s alt pc pos hd : Nat} {first : Bool} {seen : Sre.Seen} (ha : alt = 11 ∨ alt = 18) : (br2 text s first seen alt pc pos hd (some false)).step = br2 text s first seen (if alt = 11 then 18 else 23) (if alt = 11 then 19 else 24) s s none := by
  unfold M.step br2
  rcases ha with rfl | rfl <;> simp [M.resume, M.putBack, M.alternative, M.attempt, M.frame, code2]
theorem p2_succ {text : Array Nat} {s alt pos hd : Nat} {first : Bool} {seen : Sre.Seen} (hp : s < pos) : Ends 4 (br2 text s first seen alt 35 pos hd none) (Hit (some (s, pos))) := by
  refine ⟨4, Nat.le_refl _, ?_⟩
  have hb : (pos == s) = false := by rw [beq_eq_false_iff_ne]; omega
  unfold br2
  simp [M.runFor, M.step, M.exec, M.word, code2, Sre.ops, M.say, M.resume, fr2, M.putBack, Hit]
theorem p2_not {text : Array Nat} {s alt pos hd : Nat} {first : Bool} {seen : Sre.Seen} (hn : ¬ (pos < text.size ∧ text.getD pos 0 = 10)) : ∃ seen', M.runFor 3 (br2 text s first seen alt 26 pos hd none) = br2 text s first seen' alt 32 pos pos none := by
  unfold br2
  by_cases h : pos < text.size
  · have h' : ¬ text.size ≤ pos := by omega
    have h2 : ¬ text[pos] = 10 := fun e => hn ⟨h, by simpa [h] using e⟩
    have h3 : (text[pos] == 10) = false := by rw [beq_eq_false_iff_ne]; exact h2
    simp [M.runFor, M.step, M.exec, M.word, code2, Sre.ops, M.say, M.resume, M.attempt, M.frame, M.keep, M.putBack, h, h', h2, h3, Sre.accepts, Sre.itemWidth]
  · have h' : text.size ≤ pos := by omega
    simp [M.runFor, M.step, M.exec, M.word, code2, Sre.ops, M.say, M.resume, M.attempt, M.frame, M.keep, M.putBack, h, h', Sre.accepts, Sre.itemWidth]
theorem run_over {m : M} (h : m.outcome.isSome = true) : ∀ n, M.runFor n m = m
  | 0 => rfl
  | n + 1 => by show (if m.outcome.isSome = true then m else M.runFor n m.step) = m; rw [if_pos h]
theorem run_add : ∀ (n j : Nat) (m : M), M.runFor (n + j) m = M.runFor j (M.runFor n m)
  | 0, j, m => by rw [Nat.zero_add]; rfl
  | n + 1, j, m => by
    rw [Nat.succ_add]
    by_cases hm : m.outcome.isSome = true
    · rw [run_over hm, run_over hm, run_over hm]
    · show (if m.outcome.isSome = true then m else M.runFor (n + j) m.step) = M.runFor j (if m.outcome.isSome = true then m else M.runFor n m.step)
      rw [if_neg hm, if_neg hm]
      exact run_add n j m.step
theorem Ends.run {k n : Nat} {m m' : M} {P : M → Prop} (h : M.runFor n m = m') (ho : m'.outcome = none) (e : Ends k m' P) : Ends (k + n) m P := by
  obtain ⟨j, hj, a, b⟩ := e
  refine ⟨n + j, by omega, ?_, ?_⟩
  · rw [run_add, h]; exact a
  · rw [run_add, h]; exact b
/-- how long a line's end at s is -/
noncomputable def nl (text : Array Nat) (s : Nat) : Nat := if text.getD s 0 = 13 ∧ s + 1 < text.size ∧ text.getD (s + 1) 0 = 10 then 2 else 1
theorem p2_at {text : Array Nat} {s : Nat} {first : Bool} {seen : Sre.Seen} (hs : s < text.size) (hc : text.getD s 0 = 10 ∨ text.getD s 0 = 13) : Ends 30 (st2 text s first seen) (Hit (some (s, s + nl text s))) := by
  refine Ends.more (k := 29 + 1) (by omega) (Ends.step rfl ?_)
  rw [p2_branch]
  refine Ends.more (k := 28 + 1) (by omega) (Ends.step rfl ?_)
  rw [p2_lit (.inl ⟨rfl, rfl⟩)]
  rcases hc with hc | hc
  · -- a feed
    have h1 : ¬ (s < text.size ∧ text.getD s 0 = 13) := fun h => by rw [hc] at h; exact absurd h.2 (by decide)
    have hl : nl text s = 1 := by unfold nl; rw [if_neg fun h => by rw [hc] at h; exact absurd h.1 (by decide)]
    rw [if_neg h1, hl]
    refine Ends.more (k := 10 + 1) (by omega) (Ends.step rfl ?_)
    rw [p2_no (.inl rfl)]
    refine Ends.more (k := 9 + 1) (by omega) (Ends.step rfl ?_)
    show Ends 9 (br2 text s first _ 18 19 s s none).step _
    rw [p2_lit (.inr (.inr (.inl ⟨rfl, rfl⟩))), if_pos ⟨hs, hc⟩]
    refine Ends.more (k := 8 + 1) (by omega) (Ends.step rfl ?_)
    rw [p2_jump (.inr (.inl rfl))]
    exact (p2_succ (by omega)).more (by omega)
  · rw [if_pos ⟨hs, hc⟩]
    refine Ends.more (k := 26 + 1) (by omega) (Ends.step rfl ?_)
    rw [p2_lit (.inr (.inl ⟨rfl, rfl⟩))]
    by_cases h2 : s + 1 < text.size ∧ text.getD (s + 1) 0 = 10
    · have hl : nl text s = 2 := by unfold nl; rw [if_pos ⟨hc, h2⟩]
      rw [if_pos h2, hl]
      refine Ends.more (k := 8 + 1) (by omega) (Ends.step rfl ?_)
      rw [p2_jump (.inl rfl)]
      exact (p2_succ (by omega)).more (by omega)
    · have hl : nl text s = 1 := by unfold nl; rw [if_neg fun h => h2 h.2]
      rw [if_neg h2, hl]
      refine Ends.more (k := 25 + 1) (by omega) (Ends.step rfl ?_)
      rw [p2_no (.inl rfl)]
      refine Ends.more (k := 24 + 1) (by omega) (Ends.step rfl ?_)
      show Ends 24 (br2 text s first _ 18 19 s s none).step _
      have h10 : ¬ (s < text.size ∧ text.getD s 0 = 10) := fun h => by rw [hc] at h; exact absurd h.2 (by decide)
      rw [p2_lit (.inr (.inr (.inl ⟨rfl, rfl⟩))), if_neg h10]
      refine Ends.more (k := 23 + 1) (by omega) (Ends.step rfl ?_)
      rw [p2_no (.inr rfl)]
      refine Ends.more (k := 22 + 1) (by omega) (Ends.step rfl ?_)
      show Ends 22 (br2 text s first _ 23 24 s s none).step _
      rw [p2_lit (.inr (.inr (.inr ⟨rfl, rfl⟩))), if_pos ⟨hs, hc⟩]
      obtain ⟨seen', hr⟩ := p2_not (text := text) (s := s) (alt := 23) (pos := s + 1) (hd := s) (first := first) (seen := ((((((seen.add 7).add 16).add 16).add 16).add 16))) h2
      refine Ends.more (k := 10 + 3) (by omega) (Ends.run hr rfl ?_)
      refine Ends.more (k := 8 + 1) (by omega) (Ends.step rfl ?_)
      rw [p2_jump (.inr (.inr rfl))]
      exact (p2_succ (by omega)).more (by omega)
noncomputable def isNl (c : Nat) : Bool := c == 10 || c == 13
noncomputable def find2 (text : Array Nat) : Nat → Nat → Option Nat
  | 0, _ => none
  | n + 1, s => if decide (s < text.size) && isNl (text.getD s 0) then some s else find2 text n (s + 1)
theorem in2 (c : Nat) (seen : Sre.Seen) : ∃ seen', Sre.inSet code2 c 36 5 true seen = .ok (isNl c, seen') := by
  unfold isNl
  by_cases h : c = 10
  · subst h; exact ⟨_, rfl⟩
  · by_cases h' : c = 13
    · subst h'; exact ⟨_, rfl⟩
    · have h1 : (c == 10) = false := beq_eq_false_iff_ne.mpr h
      have h2 : (c == 13) = false := beq_eq_false_iff_ne.mpr h'
      simp [Sre.inSet, code2, Sre.ops, h1, h2, h, h']
theorem p2_admit {m : M} (hc : m.code = code2) (hl : m.lim = m.text.size) : ∀ (n s : Nat) (seen : Sre.Seen), ∃ seen', M.admitted m n s seen = .ok (find2 m.text n s, seen')
  | 0, s, seen => ⟨seen, rfl⟩
  | n + 1, s, seen => by
    unfold M.admitted find2
    rw [hl]
    by_cases h : s ≥ m.text.size
    · rw [if_pos h]
      have : decide (s < m.text.size) = false := by rw [decide_eq_false_iff_not]; omega
      rw [this]
      have z : ∀ m' t, ¬ t < m.text.size → find2 m.text m' t = none := by
        intro m'
        induction m' with
        | zero => intro t _; rfl
        | succ m' ih =>
          intro t ht
          unfold find2
          have : decide (t < m.text.size) = false := by rw [decide_eq_false_iff_not]; exact ht
          rw [this]
          exact ih (t + 1) (by omega)
      exact ⟨seen, by rw [show (if (false && isNl (m.text.getD s 0)) = true then some s else find2 m.text n (s + 1)) = find2 m.text n (s + 1) from rfl, z _ _ (by omega)]⟩
    · rw [if_neg h]
      obtain ⟨seen', e⟩ := in2 (m.text.getD s 0) seen
      have hz : m.code.size = 36 := by rw [hc]; rfl
      rw [hz, hc, e]
      have : decide (s < m.text.size) = true := by rw [decide_eq_true_eq]; omega
      rw [this, Bool.true_and]
      cases hb : isNl (m.text.getD s 0) with
      | true => exact ⟨seen', rfl⟩
      | false =>
        obtain ⟨seen'', e'⟩ := p2_admit hc hl n (s + 1) seen'
        exact ⟨seen'', e'⟩
end Mine
set_option Elab.async false
set_option linter.unusedVariables false
set_option linter.unusedSimpArgs false
set_option maxRecDepth 100000
namespace Mine
open PySem PySem.W PyProof.Rows Builtin.Re
open PySem.Sre (M Wait Kept)
theorem search1 {text : Array Nat} {s : Nat} (hs : s ≤ text.size) : Ends (6 * text.size + 20) (Sre.forSearch code1 text 0 s text.size false) (Hit ((find1 text (text.size - s + 1) s).map fun p => (p, p + 1))) := by
  by_cases h : s = text.size
  · have e : ∃ m : M, Sre.forSearch code1 text 0 s text.size false = { m with answer := some false } ∧ m.frames = [] ∧ m.outcome = none := by
      unfold Sre.forSearch
      have hlt : text.size - s < (Sre.header code1).1 := by rw [h, Nat.sub_self]; exact Nat.zero_lt_one
      have hc : (decide (s > text.size) || decide (text.size - s < (Sre.header code1).1)) = true := by rw [decide_eq_true hlt, Bool.or_true]
      rw [if_pos hc]
      exact ⟨_, rfl, rfl, rfl⟩
    obtain ⟨m, e, hf, ho⟩ := e
    rw [e]
    have hno : hit1 text s = false := by unfold hit1; simp [h]
    have hfi : find1 text (text.size - s + 1) s = none := by
      rw [h, Nat.sub_self]
      unfold find1
      rw [← h, hno]; rfl
    rw [hfi]
    refine Ends.more (k := 0 + 1) (by omega) (Ends.step ho ?_)
    have : ({ m with answer := some false } : M).step = { m with answer := some false, outcome := some .failed } := by
      unfold M.step
      simp [hf, ho]
    rw [this]
    exact Ends.done rfl trivial
  · have e : Sre.forSearch code1 text 0 s text.size false = st1 text s true (({} : Sre.Seen).add 14) := by
      unfold Sre.forSearch
      have hc : ¬ (decide (s > text.size) || decide (text.size - s < (Sre.header code1).1)) = true := by
        simp
        refine ⟨hs, ?_⟩
        show 1 ≤ text.size - s
        omega
      rw [if_neg hc]
      rfl
    rw [e]
    exact (p1_search text (text.size - s) s true _ (Nat.le_refl _) hs).more (by omega)
theorem search2 {text : Array Nat} {s : Nat} (hs : s ≤ text.size) : Ends (6 * text.size + 40) (Sre.forSearch code2 text 0 s text.size false) (Hit ((find2 text (text.size - s + 1) s).map fun p => (p, p + nl text p))) := by
  have fail : ∀ m : M, m.frames = [] → m.outcome = none → Ends 1 ({ m with answer := some false } : M) (Hit none) := fun m hf ho => by
    refine Ends.step ho ?_
    have : ({ m with answer := some false } : M).step = { m with answer := some false, outcome := some .failed } := by
      unfold M.step
      simp [hf, ho]
    rw [this]
    exact Ends.done rfl trivial
  by_cases h : s = text.size
  · have e : ∃ m : M, Sre.forSearch code2 text 0 s text.size false = { m with answer := some false } ∧ m.frames = [] ∧ m.outcome = none := by
      unfold Sre.forSearch
      have hlt : text.size - s < (Sre.header code2).1 := by rw [h, Nat.sub_self]; exact Nat.zero_lt_one
      have hc : (decide (s > text.size) || decide (text.size - s < (Sre.header code2).1)) = true := by rw [decide_eq_true hlt, Bool.or_true]
      rw [if_pos hc]
      exact ⟨_, rfl, rfl, rfl⟩
    obtain ⟨m, e, hf, ho⟩ := e
    rw [e]
    have hfi : find2 text (text.size - s + 1) s = none := by
      rw [h, Nat.sub_self]
      unfold find2
      simp [find2]
    rw [hfi]
    exact (fail m hf ho).more (by omega)
  · obtain ⟨m0, e0, h1, h2, h3, h4, h5, h6⟩ : ∃ m0 : M, Sre.forSearch code2 text 0 s text.size false = m0.attemptFrom s true ∧ m0.code = code2 ∧ m0.lim = m0.text.size ∧ m0.text = text ∧ m0.frames = [] ∧ m0.outcome = none ∧
        ∀ p seen, ({ m0 with mustAdvance := false, seen } : M).attemptAt p true = st2 text p true seen := by
      unfold Sre.forSearch
      have hc : ¬ (decide (s > text.size) || decide (text.size - s < (Sre.header code2).1)) = true := by
        simp
        refine ⟨hs, ?_⟩
        show 1 ≤ text.size - s
        omega
      rw [if_neg hc]
      exact ⟨_, rfl, rfl, rfl, rfl, rfl, rfl, fun p seen => rfl⟩
    rw [e0]
    unfold M.attemptFrom
    have hfs : (!m0.hasFirstSet) = false := by unfold M.hasFirstSet; rw [h1]; rfl
    rw [hfs, if_neg Bool.false_ne_true]
    obtain ⟨seen', ea⟩ := p2_admit h1 h2 (m0.lim + 1 - s) s m0.seen
    have hz : m0.lim + 1 - s = text.size - s + 1 := by rw [h2, h3]; omega
    have ea2 : M.admitted m0 (m0.lim + 1 - s) s m0.seen = .ok (find2 text (text.size - s + 1) s, seen') := ea.trans (by rw [h3, hz])
    rw [ea2]
    cases hf : find2 text (text.size - s + 1) s with
    | none => exact (fail { m0 with seen := seen' } h4 h5).more (by omega)
    | some p =>
      have hp : p < text.size ∧ isNl (text.getD p 0) = true := by
        have : ∀ n t, find2 text n t = some p → p < text.size ∧ isNl (text.getD p 0) = true := by
          intro n
          induction n with
          | zero => intro t ht; cases ht
          | succ n ih =>
            intro t ht
            unfold find2 at ht
            by_cases hb : (decide (t < text.size) && isNl (text.getD t 0)) = true
            · rw [if_pos hb] at ht
              cases ht
              rw [Bool.and_eq_true, decide_eq_true_eq] at hb
              exact hb
            · rw [if_neg hb] at ht
              exact ih (t + 1) ht
        exact this _ _ hf
      show Ends _ (M.attemptAt ({ m0 with mustAdvance := false, seen := seen' } : M) p true) _
      rw [h6]
      refine (p2_at hp.1 ?_).more (by omega)
      have := hp.2
      unfold isNl at this
      rw [Bool.or_eq_true, beq_iff_eq, beq_iff_eq] at this
      exact this
section
variable {Mo : Model} {A : Around} {E : Value → Shared → Prop} {s : Shared}
theorem drive {P : M → Prop} {Q : M → Shared → Prop} (hQ : ∀ m, m.outcome.isSome = true → P m → Q m s) : ∀ (turns k : Nat) (m : M), Ends k m P → k ≤ 4 * turns → (turns = 0 → k ≠ 0 ∨ False) → 0 < turns → wpAny Mo A (reDrive turns m) Q E s := by
  intro turns
  induction turns with
  | zero => intro k m _ _ _ h; exact absurd h (Nat.lt_irrefl _)
  | succ t ih =>
    intro k m e hk _ _
    obtain ⟨n, hn, ho, hp⟩ := e
    unfold reDrive
    dsimp only
    by_cases h4 : n ≤ reTurnSteps
    · have e4 : M.runFor reTurnSteps m = M.runFor n m := by
        have : reTurnSteps = n + (reTurnSteps - n) := by omega
        rw [this, run_add, run_over ho]
      rw [e4, if_pos ho]
      exact wpAny_pure (hQ _ ho hp)
    · have h4' : 4 < n := by unfold reTurnSteps at h4; omega
      by_cases h5 : (M.runFor reTurnSteps m).outcome.isSome = true
      · rw [if_pos h5]
        refine wpAny_pure (hQ _ h5 ?_)
        have : n = reTurnSteps + (n - reTurnSteps) := by unfold reTurnSteps; omega
        rw [this, run_add, run_over h5] at hp
        exact hp
      · rw [if_neg h5]
        refine wpAny_bind (wpAny_rule (ih (k - 4) (M.runFor reTurnSteps m) ⟨n - 4, by omega, ?_, ?_⟩ (by omega) (fun h => by subst h; omega) (by omega)))
        · have : n = reTurnSteps + (n - 4) := by unfold reTurnSteps; omega
          rw [this, run_add] at ho
          exact ho
        · have : n = reTurnSteps + (n - 4) := by unfold reTurnSteps; omega
          rw [this, run_add] at hp
          exact hp
theorem wp_rules {Q : PUnit → Shared → Prop} (h : Q ⟨⟩ s) (f : Nat → PUnit → Sem (ForInStep PUnit)) (hf : ∀ i u, (∃ t : String, f i u = (rule t >>= fun _ => pure (.yield ⟨⟩))) ∨ f i u = pure (.yield ⟨⟩)) : ∀ l : List Nat, wpAny Mo A (forIn l ⟨⟩ f) Q E s
  | [] => by rw [List.forIn_nil]; exact wpAny_pure h
  | i :: r => by
    rw [List.forIn_cons]
    rcases hf i ⟨⟩ with ⟨t, e⟩ | e
    · rw [e]; exact wpAny_bind (wpAny_bind (wpAny_rule (wpAny_pure (wp_rules h f hf r))))
    · rw [e]; exact wpAny_bind (wpAny_pure (wp_rules h f hf r))
theorem run_end {k : Nat} {m : M} {r : Option (Nat × Nat)} {Q : Option M → Shared → Prop} (e : Ends k m (Hit r)) (hk : k ≤ 4 * 2 ^ 64) (h1 : ∀ m' b e', r = some (b, e') → m'.start = b → m'.handed = e' → Q (some m') s) (h2 : r = none → Q none s) : wpAny Mo A (reRunToEnd m) Q E s := by
  unfold reRunToEnd
  refine wpAny_bind (drive (P := Hit r) (fun m' ho hp => ?_) (2 ^ 64) k m e hk (fun h => absurd h (by decide)) (by decide))
  refine wpAny_bind (wp_rules ?_ _ (fun i u => ?_) _)
  · unfold Hit at hp
    cases r with
    | none =>
      dsimp only at hp
      cases ho' : m'.outcome with
      | none => rw [ho'] at ho; cases ho
      | some oc =>
        rw [ho'] at hp
        cases oc with
        | failed => exact wpAny_pure (h2 rfl)
        | matched => exact hp.elim
        | stuck w => exact hp.elim
    | some be =>
      obtain ⟨b, e'⟩ := be
      dsimp only at hp
      obtain ⟨hp, h3, h4⟩ := hp
      cases ho' : m'.outcome with
      | none => rw [ho'] at ho; cases ho
      | some oc =>
        rw [ho'] at hp
        cases oc with
        | matched => exact wpAny_pure (h1 m' b e' rfl h3 h4)
        | failed => exact hp.elim
        | stuck w => exact hp.elim
  · by_cases hs : m'.seen.has i = true
    · exact .inl ⟨Sre.names.getD i "", by simp only [hs, if_true]⟩
    · exact .inr (by simp only [hs]; rfl)
end
end Mine
set_option Elab.async false
set_option linter.unusedVariables false
set_option linter.unusedSimpArgs false
set_option maxRecDepth 100000
namespace Mine
open PySem PySem.W PyProof.Rows Builtin.Re
open PySem.Sre (M Wait Kept)
theorem slot_sub : PySem.Slot "re.Pattern" "sub" "re.Pattern.sub" :=
  .of (owner := "re.Pattern") (n := "sub") (by rw [typeLookup_type, builtinLookup_eq_fast]; kernel_rfl) (by decide +kernel) (by decide +kernel) (by decide +kernel)
    (by first | exact .inl (by decide +kernel) | exact .inr (by decide +kernel)) (by rw [isSubtype_type]; kernel_rfl)
theorem plainAttrs_pat : PlainAttrs "re.Pattern" := ⟨⟨"object.__getattribute__", by rw [typeLookup_type, builtinLookup_eq_fast]; kernel_rfl, by decide +kernel⟩, by rw [typeLookup_type, builtinLookup_eq_fast]; kernel_rfl⟩
theorem type_sub : typeOf (.builtin "re.Pattern.sub") = pure (.type "method_descriptor") := by show builtinType _ = _; rw [builtinType_eq_fast]; kernel_rfl
theorem entry_sub : entryFor table "re.Pattern.sub" = some Builtin.«re.Pattern.sub» := entryFor_of_tree (by kernel_rfl)
theorem entry_loop : entryFor table "re.Pattern.sub.loop" = some Builtin.«re.Pattern.sub.loop» := entryFor_of_tree (by kernel_rfl)
theorem args_sub (a b c : Value) : argsOk "re.Pattern.sub" ⟨[a, b, c], []⟩ := by unfold argsOk; kernel_rfl
theorem plain_loop : plainId "re.Pattern.sub.loop" = true := by decide +kernel
theorem no_call_str : typeLookup (.type "str") "__call__" = pure none := by rw [typeLookup_type, builtinLookup_eq_fast]; kernel_rfl
/-- a pattern's object -/
structure PatAt (h : Heap) (pa : Addr) (code : Array Nat) : Prop where
  ex : ∃ vs o ca oc items n ts, h.get? pa = some o ∧ o.data = .fields vs ∧ o.cls = .type "re.Pattern" ∧ o.dict = none ∧ vs.getD 2 .none = .int 0 0 ∧ vs.getD 6 .none = .int 0 0 ∧ vs.getD 5 .none = .ref ca ∧ h.get? ca = some oc ∧ oc.data = .seq items n ∧ (items.map reRawOf).map (·.toNat) = code ∧ ts = ()
section
variable {C : Cx} {A : Around} {E : Value → Shared → Prop} {s : Shared}
noncomputable def targ (pa : Addr) (x : Str) (t : Tok) (code : Array Nat) : ReTarget := { pattern := .ref pa, string := .str x t, code, text := x.cps, kind := 0, groups := 0, pos := 0, lim := x.cps.size }
theorem whole {pa : Addr} {x : Str} {t : Tok} {code : Array Nat} {Q : ReTarget → Shared → Prop} (p : PatAt s.heap pa code) (h : Q (targ pa x t code) s) : wpAny C.M A (reWholeTarget (.ref pa) (.str x t)) Q E s := by
  obtain ⟨vs, o, ca, oc, items, n, ts, h1, h2, h3, h4, h5, h6, h7, h8, h9, h10, h11⟩ := p.ex
  unfold reWholeTarget
  refine wpAny_bind (wpAny_fieldsOf h1 h2 ?_)
  refine wpAny_bind (wpAny_of_eq (a := (x.cps, 0)) rfl ?_)
  dsimp only
  rw [h6]
  show wpAny C.M A (do
    reNoCollectionInside (.str x t) 0
    pure { pattern := .ref pa, string := .str x t, code := (← reRawItems (vs.getD 5 .none)).map (·.toNat), text := x.cps, kind := 0, groups := reRawNat (vs.getD 2 .none), pos := 0, lim := x.cps.size }) Q E s
  refine wpAny_bind (wpAny_of_eq (a := ()) rfl ?_)
  rw [h7, h5]
  refine wpAny_bind ?_
  unfold reRawItems
  refine wpAny_bind (wpAny_seqItems h8 h9 (wpAny_pure ?_))
  refine wpAny_pure ?_
  simp only [Option.getD_some]
  rw [h10]
  exact h
end
end Mine
set_option Elab.async false
set_option linter.unusedVariables false
set_option linter.unusedSimpArgs false
set_option maxRecDepth 100000
namespace Mine
open PySem PySem.W PyProof.Rows Builtin.Re
open PySem.Sre (M Wait Kept)
/-- what is glued together -/
noncomputable def pieces (find : Nat → Option (Nat × Nat)) (x repl : Str) : Nat → Nat → List Str
  | 0, _ => []
  | f + 1, st => match find st with
    | some (b, e) => (if st < b then [⟨x.cps.extract st b⟩] else []) ++ repl :: pieces find x repl f e
    | none => if st < x.cps.size then [⟨x.cps.extract st x.cps.size⟩] else []
section
variable {C : Cx}
theorem push_piece {A : Around} {E : Value → Shared → Prop} {s : Shared} {L : Addr} {acc : List (Str × Tok)} {nn : Nat} {y : Str} {ty : Tok} {Q : Unit → Shared → Prop} (hL : s.heap.get? L = some (lstObj (strValues acc).toArray nn)) (hz : acc.length ≤ 100000)
    (hQ : ∀ h' nn', h'.get? L = some (lstObj (strValues (acc ++ [(y, ty)])).toArray nn') → Heap.SameBut L s.heap h' → Q () { s with heap := h' }) : wpAny C.M A (updateSeq L (·.push (.str y ty))) Q E s := by
  have e : (strValues (acc ++ [(y, ty)])).toArray = (strValues acc).toArray.push (.str y ty) := by simp [strValues]
  have hl : (strValues acc).toArray.size = acc.length := by simp [strValues]
  refine wpAny_updateSeq hL rfl (hQ _ (nn + 1) ?_ (Heap.SameBut.update ..)) (by rw [hl]; unfold sizeLine; omega) (by rw [Array.size_push, hl]; unfold sizeLine; omega)
  have e2 : Obj.mapSeq (·.push (.str y ty)) (lstObj (strValues acc).toArray nn) = lstObj ((strValues acc).toArray.push (.str y ty)) (nn + 1) := Obj.mapSeq_push_plain _ _ _
  rw [Heap.get?_update_self _ hL (by rw [e2]; rfl), e2, e]
theorem lenSum_app : ∀ (a b : List Str), lenSum (a ++ b) = lenSum a + lenSum b
  | [], b => by simp [lenSum]
  | x :: a, b => by simp only [List.cons_append, lenSum, lenSum_app a b]; omega
/-- the loop of sub -/
theorem sub_loop {pa L : Addr} {x repl : Str} {t tr : Tok} {code : Array Nat} {find : Nat → Option (Nat × Nat)} {s₀ : Shared} {Rr : Result → Shared → Prop} (hp : ∀ h' : Heap, (∀ b o, s₀.heap.get? b = some o → h'.get? b = some o) → PatAt h' pa code) (hLn : s₀.heap.get? L = none)
    (hf : ∀ st b e, find st = some (b, e) → st ≤ b ∧ b < e ∧ e ≤ x.cps.size) (hs : ∀ st, st ≤ x.cps.size → ∃ k, k ≤ 4 * 2 ^ 64 ∧ Ends k (Sre.forSearch code x.cps 0 st x.cps.size false) (Hit (find st))) (hx : x.cps.size ≤ 10000) (hrl : repl.length ≤ 2) :
    ∀ (f st n : Nat) (A : Around) (s : Shared) (acc : List (Str × Tok)) (nn : Nat), x.cps.size - st < f → st ≤ x.cps.size → (∃ tk, s = { s₀ with heap := s.heap, toks := tk }) → (∀ b o, s₀.heap.get? b = some o → s.heap.get? b = some o) → s.heap.get? L = some (lstObj (strValues acc).toArray nn) → acc.length ≤ 2 * st →
      lenSum (acc.map (·.1)) ≤ 3 * st →
      (∀ s' t', (∃ tk, s' = { s₀ with heap := s'.heap, toks := tk }) → (∀ b o, s₀.heap.get? b = some o → s'.heap.get? b = some o) → Rr (.ok (.ret (.str (catAll (acc.map (·.1) ++ pieces find x repl f st)) t'))) s') →
      codeAny C.M A (.builtin "re.Pattern.sub.loop" ⟨[.ref pa, .str x t, .str repl tr, rawInt 0, rawInt 0, rawInt n, rawInt st, rawInt st, .bool false, .ref L, .bool false], []⟩) Rr s := by
  intro f
  induction f with
  | zero => intro st n A s acc nn hst; omega
  | succ f ih =>
    intro st n A s acc nn hst hle hsame hk hL hal hsum hR
    refine codeAny_builtin entry_loop ?_
    rw [Around.under_plainId plain_loop]
    unfold Builtin.«re.Pattern.sub.loop»
    dsimp only [rawInt]
    refine wpAny_bind (whole (hp _ hk) ?_)
    refine wpAny_bind (wpAny_of_eq (a := ()) rfl ?_)
    have hto : ((st : Int)).toNat = st := by omega
    have hno : ((0 : Int) != 0 && decide ((n : Int) ≥ 0)) = false := rfl
    obtain ⟨k, hk4, he⟩ := hs st hle
    have nextF : ∀ {Q : Option M → Shared → Prop}, (∀ m' b e', find st = some (b, e') → m'.start = b → m'.handed = e' → Q (some m') s) → (find st = none → Q none s) →
        wpAny C.M A.in1 (if ((0 : Int) != 0 && decide ((n : Int) ≥ 0)) = true then pure none else reNextFound (targ pa x t code) ((st : Int)).toNat false) Q (fun e s' => Rr (.error e) s') s := fun h1 h2 => by
      rw [hno, if_neg Bool.false_ne_true, hto]
      exact run_end he hk4 h1 h2
    refine wpAny_bind (nextF (fun m' b e' hfd hb he' => ?_) fun hfd => ?_)
    · -- one more is found
      obtain ⟨z1, z2, z3⟩ := hf st b e' hfd
      have hpc : pieces find x repl (f + 1) st = (if st < b then [⟨x.cps.extract st b⟩] else []) ++ repl :: pieces find x repl f e' := by
        conv => lhs; unfold pieces
        rw [hfd]
      have tail : ∀ (s₁ : Shared) (acc₁ : List (Str × Tok)) (nn₁ : Nat), (∃ tk, s₁ = { s₀ with heap := s₁.heap, toks := tk }) → (∀ b o, s₀.heap.get? b = some o → s₁.heap.get? b = some o) → s₁.heap.get? L = some (lstObj (strValues acc₁).toArray nn₁) → acc₁.length ≤ 2 * st + 1 → lenSum (acc₁.map (·.1)) ≤ 3 * st + (b - st) →
          acc₁.map (·.1) = acc.map (·.1) ++ (if st < b then [⟨x.cps.extract st b⟩] else []) →
          wpAny C.M A.in1 (do
            updateSeq L fun x => x.push (.str repl tr)
            again (Code.builtin "re.Pattern.sub.loop" ⟨[.ref pa, .str x t, .str repl tr, .int 0 0, .int 0 0, .int ((n : Int) + 1) 0, .int (m'.handed : Int) 0, .int (m'.handed : Int) 0, .bool (m'.handed == b), .ref L, .bool false], []⟩))
          (fun fin s' => match fin with | .done f => Rr (.ok f) s' | .again c' => c'.quiet = true ∧ codeAny C.M A c' Rr s') (fun e s' => Rr (.error e) s') s₁ := fun s₁ acc₁ nn₁ q1 q2 q3 q4 q5 q6 => by
        refine wpAny_bind (push_piece q3 (by omega) fun h' nn' hL' hsb => ?_)
        refine wpAny_pure ⟨plainId_quiet plain_loop _, ?_⟩
        have hbs : (m'.handed == b) = false := by rw [beq_eq_false_iff_ne, he']; omega
        rw [hbs, he']
        have up : ∀ b o, s₀.heap.get? b = some o → h'.get? b = some o := fun b o e => hsb.extBut b o (fun q => by rw [q, hLn] at e; cases e) (q2 b o e)
        have := ih e' (n + 1) A { s₁ with heap := h' } (acc₁ ++ [(repl, tr)]) nn' (by omega) z3 (by obtain ⟨tk, e⟩ := q1; exact ⟨tk, by rw [e]⟩) up hL' (by rw [List.length_append, List.length_singleton]; omega) (by
          rw [List.map_append, lenSum_app]
          show _ + (repl.length + 0) ≤ _
          omega) (fun s' t' r1 r2 => by
          have := hR s' t' r1 r2
          rw [hpc, ← List.append_assoc, ← q6] at this
          rw [List.map_append, List.append_assoc]
          exact this)
        exact this
      show wpAny C.M A.in1 (if ((st : Int)).toNat < m'.start then _ else _) _ _ s
      rw [hto, hb]
      by_cases hlt : st < b
      · rw [if_pos hlt]
        refine wpAny_bind (wpAny_mkStr ?_ ?_)
        · refine wpAny_bind (push_piece (acc := acc) (s := { s with toks := s.toks + 1 }) hL (by omega) fun h' nn' hL' hsb => ?_)
          have up : ∀ b o, s₀.heap.get? b = some o → h'.get? b = some o := fun b o e => hsb.extBut b o (fun q => by rw [q, hLn] at e; cases e) (hk b o e)
          have hz : (x.cps.extract st b).size = b - st := by rw [Array.size_extract]; omega
          refine tail { s with heap := h', toks := s.toks + 1 } (acc ++ [(⟨x.cps.extract st b⟩, s.toks)]) nn' (by obtain ⟨tk, e⟩ := hsame; exact ⟨s.toks + 1, by rw [e]⟩) up hL' (by rw [List.length_append, List.length_singleton]; omega) (by
            rw [List.map_append, lenSum_app]
            show _ + ((x.cps.extract st b).size + 0) ≤ _
            omega) (by rw [if_pos hlt, List.map_append]; rfl)
        · show (x.cps.extract st b).size ≤ sizeLine
          rw [Array.size_extract]; unfold sizeLine; omega
      · rw [if_neg hlt]
        exact tail s acc nn hsame hk hL (by omega) (by omega) (by rw [if_neg hlt, List.append_nil])
    · -- no more
      have hpc : pieces find x repl (f + 1) st = (if st < x.cps.size then [⟨x.cps.extract st x.cps.size⟩] else []) := by
        conv => lhs; unfold pieces
        rw [hfd]
      have tail : ∀ (s₁ : Shared) (acc₁ : List (Str × Tok)) (nn₁ : Nat), (∃ tk, s₁ = { s₀ with heap := s₁.heap, toks := tk }) → (∀ b o, s₀.heap.get? b = some o → s₁.heap.get? b = some o) → s₁.heap.get? L = some (lstObj (strValues acc₁).toArray nn₁) → acc₁.length ≤ 2 * st + 1 → lenSum (acc₁.map (·.1)) ≤ 3 * x.cps.size →
          acc₁.map (·.1) = acc.map (·.1) ++ (if st < x.cps.size then [⟨x.cps.extract st x.cps.size⟩] else []) →
          wpAny C.M A.in1 (do
            let joiner ← reSlice x.cps 0 0 0
            let l ← seqItems? (.ref L)
            if (l.getD #[]).isEmpty = true then (do
              let text ← pure joiner
              ret text)
            else (do
              let text ← call (.builtin "str.join") [joiner, .ref L]
              ret text))
          (fun fin s' => match fin with | .done f => Rr (.ok f) s' | .again c' => c'.quiet = true ∧ codeAny C.M A c' Rr s') (fun e s' => Rr (.error e) s') s₁ := fun s₁ acc₁ nn₁ q1 q2 q3 q4 q5 q6 => by
        have hR' : ∀ s' t', (∃ tk, s' = { s₀ with heap := s'.heap, toks := tk }) → (∀ b o, s₀.heap.get? b = some o → s'.heap.get? b = some o) → Rr (.ok (.ret (.str (catAll (acc₁.map (·.1))) t'))) s' := fun s' t' r1 r2 => by
          have := hR s' t' r1 r2
          rw [hpc, ← q6] at this
          exact this
        have e0 : (⟨x.cps.extract 0 0⟩ : Str) = ⟨#[]⟩ := by simp
        refine wpAny_bind (wpAny_mkStr ?_ (by show (x.cps.extract 0 0).size ≤ sizeLine; simp))
        rw [e0]
        refine wpAny_bind (wpAny_seqItems (s := { s₁ with toks := s₁.toks + 1 }) q3 rfl ?_)
        have same1 : ∃ tk, ({ s₁ with toks := s₁.toks + 1 } : Shared) = { s₀ with heap := s₁.heap, toks := tk } := by
          obtain ⟨tk, e⟩ := q1; exact ⟨s₁.toks + 1, by rw [e]⟩
        show wpAny C.M A.in1 (if (strValues acc₁).toArray.isEmpty = true then _ else _) _ _ _
        match acc₁, q3, q6, hR', q5 with
        | [], q3, q6, hR', q5 =>
          rw [if_pos (by simp [strValues])]
          exact wpAny_bind (wpAny_pure (wpAny_pure (hR' _ _ same1 q2)))
        | p :: r, q3, q6, hR', q5 =>
          rw [if_neg (by simp [strValues])]
          refine wpAny_bind (call_meets (self := .str ⟨#[]⟩ s₁.toks) (rest := [.ref L]) PySem.F.slot_str_join (typeIs_str _ _ _) PySem.F.entry_str_join (PySem.F.args_str_join_2 _ _) (meets_str_join_list ⟨#[]⟩ s₁.toks L (p :: r) ?_) ⟨isList_of q3, ?_⟩)
          · have e3 : List.foldl (fun x1 x2 => x1 + x2.length + (⟨#[]⟩ : Str).length) 0 ((p :: r).map (·.1)) = lenSum ((p :: r).map (·.1)) := by
              have := foldl_len (⟨#[]⟩ : Str).length ((p :: r).map (·.1)) 0
              rw [this]
              show 0 + lenSum ((p :: r).map (·.1)) + 0 * ((p :: r).map (·.1)).length = _
              omega
            rw [List.foldl_toArray']
            · rw [e3]
              show decide (_ > sizeLine) = false
              rw [decide_eq_false_iff_not]
              unfold sizeLine
              omega
            · simp
          · match r, q5, hR' with
            | [], q5, hR' =>
              refine wpAny_pure ?_
              have := hR' { s₁ with toks := s₁.toks + 1 } p.2 same1 q2
              have e4 : catAll (([p] : List (Str × Tok)).map (·.1)) = p.1 := by simp [catAll, str_app]
              rw [e4] at this
              exact this
            | q :: r', q5, hR' =>
              have e5 : Builtin.Str.glued ⟨#[]⟩ ((p :: q :: r').map (·.1)) = catAll ((p :: q :: r').map (·.1)) := glued_nil _
              refine ⟨?_, wpAny_pure ?_⟩
              · show (Builtin.Str.glued ⟨#[]⟩ ((p :: q :: r').map (·.1))).length ≤ sizeLine
                rw [e5, catAll_len]; unfold sizeLine; omega
              · have := hR' { s₁ with toks := s₁.toks + 1 + 1 } (s₁.toks + 1) (by obtain ⟨tk, e⟩ := q1; exact ⟨s₁.toks + 1 + 1, by rw [e]⟩) q2
                rw [← e5] at this
                exact this
      show wpAny C.M A.in1 (if ((st : Int)).toNat < x.cps.size then _ else _) _ _ s
      rw [hto]
      by_cases hlt : st < x.cps.size
      · rw [if_pos hlt]
        refine wpAny_bind (wpAny_mkStr ?_ ?_)
        · refine wpAny_bind (push_piece (acc := acc) (s := { s with toks := s.toks + 1 }) hL (by omega) fun h' nn' hL' hsb => ?_)
          have up : ∀ b o, s₀.heap.get? b = some o → h'.get? b = some o := fun b o e => hsb.extBut b o (fun q => by rw [q, hLn] at e; cases e) (hk b o e)
          have hz : (x.cps.extract st x.cps.size).size = x.cps.size - st := by rw [Array.size_extract]; omega
          refine tail { s with heap := h', toks := s.toks + 1 } (acc ++ [(⟨x.cps.extract st x.cps.size⟩, s.toks)]) nn' (by obtain ⟨tk, e⟩ := hsame; exact ⟨s.toks + 1, by rw [e]⟩) up hL' (by rw [List.length_append, List.length_singleton]; omega) (by
            rw [List.map_append, lenSum_app]
            show _ + ((x.cps.extract st x.cps.size).size + 0) ≤ _
            omega) (by rw [if_pos hlt, List.map_append]; rfl)
        · show (x.cps.extract st x.cps.size).size ≤ sizeLine
          rw [Array.size_extract]; unfold sizeLine; omega
      · rw [if_neg hlt]
        exact tail s acc nn hsame hk hL (by omega) (by omega) (by rw [if_neg hlt, List.append_nil])
end
end Mine
set_option Elab.async false
set_option linter.unusedVariables false
set_option linter.unusedSimpArgs false
set_option maxRecDepth 100000
namespace Mine
open PySem PySem.W PyProof.Rows Builtin.Re
open PySem.Sre (M Wait Kept)
noncomputable def subD (pa : Addr) (R : Str) (find : Array Nat → Nat → Option (Nat × Nat)) : List V → Option V
  | [.raw (.ref a), .str r, .str x] => if a = pa ∧ r = R ∧ x.cps.size ≤ 10000 then some (.str (catAll (pieces (find x.cps) x R (x.cps.size + 1) 0))) else none
  | _ => none
section
variable {C : Cx} {k : Nat} {N : List Str} {K : Env → Prop}
theorem pure_sub {pa : Addr} {code : Array Nat} {R : Str} {find : Array Nat → Nat → Option (Nat × Nat)} (hp : ∀ h : Heap, (∀ a o, C.base a o → h.get? a = some o) → PatAt h pa code) (hR : R.cps.contains 92 = false) (hrl : R.length ≤ 2)
    (hf : ∀ x st b e, find x st = some (b, e) → st ≤ b ∧ b < e ∧ e ≤ x.size) (hs : ∀ x : Array Nat, x.size ≤ 10000 → ∀ st, st ≤ x.size → ∃ k, k ≤ 4 * 2 ^ 64 ∧ Ends k (Sre.forSearch code x 0 st x.size false) (Hit (find x st))) :
    PureFn C k (.builtin "re.Pattern.sub") (noKw (subD pa R find)) := fun A s X args kws rargs rkws v E Rm' c i r rk h₀ => by
  obtain ⟨e₀, h⟩ := noKw_some h₀
  clear h₀
  subst e₀
  unfold VRels at rk
  simp only [List.map_nil] at rk
  subst rk
  unfold subD at h
  split at h
  rotate_left
  · cases h
  rename_i a r' x
  by_cases hc : a = pa ∧ r' = R ∧ x.cps.size ≤ 10000
  rotate_left
  · rw [if_neg hc] at h; cases h
  rw [if_pos hc] at h
  cases h
  obtain ⟨rfl, rfl, hx⟩ := hc
  unfold VRels at r
  obtain ⟨r1, rs, rfl, p1, r⟩ := r
  obtain ⟨r2, r3, rfl, p2, p3⟩ := r.two'
  obtain rfl := p1.raw'
  obtain ⟨tr, rfl⟩ := p2.str'
  obtain ⟨t, rfl⟩ := p3.str'
  have pat := hp _ c.b
  obtain ⟨vs, ob, ca, oc, items, n, ts, h1, h2, h3, h4, _⟩ := pat.ex
  have hT : s.TypeIs (.ref a) "re.Pattern" := ⟨ob, h1, h3⟩
  refine wpAny_call (codeAny_call_builtin slot_sub.plain entry_sub (slot_sub.check _ _ _ _ _ _ _ _ hT (args_sub _ _ _) ?_))
  unfold Builtin.«re.Pattern.sub» reSubstitute
  dsimp only
  refine wpAny_bind (wpAny_of_eq (a := [some (.str r' tr), some (.str x t), none]) (by rfl) ?_)
  refine wpAny_bind (wpAny_pure ?_)
  refine wpAny_bind (wpAny_specialOf (typeIs_str _ _ tr) no_call_str ?_)
  refine wpAny_bind (wpAny_of_eq (a := some r') rfl ?_)
  dsimp only
  rw [hR]
  refine wpAny_bind (wpAny_pure ?_)
  show wpAny C.M A.in1 (do
      let __x ← pure ((.str r' tr : Value), (0 : Int))
      let _ ← holding [__x.1] (reWholeTarget (.ref a) (.str x t))
      _) _ _ s
  refine wpAny_bind (wpAny_pure ?_)
  dsimp only
  refine wpAny_bind (wpAny_holding (whole pat ?_))
  refine wpAny_bind (wpAny_newObj_type ?_)
  refine wpAny_pure ⟨plainId_quiet plain_loop _, ?_⟩
  have up : ∀ b o, s.heap.get? b = some o → (s.heap.push { cls := .type "list", dict := none, data := .seq ([] : List Value).toArray }).get? b = some o := fun b o e => Heap.get?_push_of_some _ e
  refine sub_loop (C := C) (pa := a) (L := s.heap.objs.size) (x := x) (repl := r') (t := t) (tr := tr) (code := code) (find := find x.cps) (s₀ := s) (fun h' hk => hp h' fun a' o' e => hk a' o' (c.b a' o' e)) (none_of_ge (Nat.le_refl _)) (hf x.cps) (hs x.cps hx) hx hrl
    (x.cps.size + 1) 0 0 A { s with heap := s.heap.push { cls := .type "list", dict := none, data := .seq ([] : List Value).toArray } } [] 0 (by omega) (by omega) ⟨s.toks, rfl⟩ up (Heap.get?_push_size _ rfl) (by simp) (by simp [lenSum]) fun s' t' q1 q2 => ?_
  refine ⟨⟨?_, q2⟩, pStr⟩
  obtain ⟨tk, e⟩ := q1
  exact ⟨tk, e⟩
/-- a method of what a global name holds -/
theorem Ex_MethR {ob : Expr} {name : Str} {apos pos : Pos} {es : List Expr} {f : Sg → Option V} {g : Sg → Option (List V)} {T id : String} {a : Addr} {o : Obj} {spec : List V → List (Str × V) → Option V} (ho : ExB C k N K ob f) (hfo : ∀ σ, f σ = some (.raw (.ref a))) (hb : C.base a o) (hc : o.cls = .type T) (hd : o.dict = none)
    (pa : PlainAttrs T) (slot : PySem.Slot T name id) (hty : typeOf (.builtin id) = pure (.type "method_descriptor")) (hf : PureFn C k (.builtin id) spec) (ha : ExAs C k N K es g) (hes : ∀ env, (backTo pos (starEach es env)).any (·.1) = false := by intro _; rfl)
    (he : ∀ env, ∃ pl, eval (.Call (.Attribute ob name apos) es [] pos) env = (do
      let ov ← eval ob env
      standAt apos.atName
      let (f, first) ← holding [ov] (getMethod ov name pl)
      callWith pos f first (backTo pos (starEach es env)) []) := by intro _; exact ⟨_, rfl⟩) :
    ExF C k N K (.Call (.Attribute ob name apos) es [] pos) (fun σ => (g σ).bind fun vs => spec (.raw (.ref a) :: vs) []) := fun A env s σ v X E R eo ke c i w q => by
  obtain ⟨vs, hvs, q₁⟩ := Option.bind_eq_some_iff.mp q
  clear q
  obtain ⟨pl, he⟩ := he env
  refine MethodCall_ (pl := pl) (wpAny_mono (ho A env s σ _ X E R eo ke c i w (hfo σ)) (fun ru s₁ p => ?_) fun _ _ x => x) he
  have p1 := p.1
  obtain rfl := p.2.raw'
  have hg := (c.le p1.le).b a o hb
  refine getMethod_builtin (T := T) ⟨o, hg, hc⟩ pa slot hty (fun b e => by cases e; exact ⟨o, hg, hd⟩) ?_
  refine Calls.callWith_builtin (hes env) (args_eval ha Kw_nil R eo ke (c.le p1.le) (i.le p1.le) (w.le p1.le) hvs rfl (hes env) fun rvs rks s₂ p₂ r₁ r₂ => ?_)
  refine wpAny_mono (hf A s₂ X (.raw (.ref a) :: vs) [] (.ref a :: rvs) rks v E R (c.le (p1.trans p₂).le) (i.le (p1.trans p₂).le) (VRels.cons (p.2.up p₂.le) r₁) r₂ q₁) (fun rv s₃ p₃ => ?_) fun _ _ x => x
  exact ⟨(p1.trans p₂).trans p₃.1, p₃.2.wide (p1.trans p₂).le (Hle.refl _)⟩
noncomputable def f1 (x : Array Nat) (st : Nat) : Option (Nat × Nat) := (find1 x (x.size - st + 1) st).map fun p => (p, p + 1)
noncomputable def f2 (x : Array Nat) (st : Nat) : Option (Nat × Nat) := (find2 x (x.size - st + 1) st).map fun p => (p, p + nl x p)
theorem find1_some {x : Array Nat} {p : Nat} : ∀ {n st : Nat}, find1 x n st = some p → st ≤ p ∧ hit1 x p = true
  | 0, st, h => by cases h
  | n + 1, st, h => by
    unfold find1 at h
    by_cases hb : hit1 x st = true
    · rw [if_pos hb] at h; cases h; exact ⟨Nat.le_refl _, hb⟩
    · rw [if_neg hb] at h
      have := find1_some h
      exact ⟨by omega, this.2⟩
theorem find2_some {x : Array Nat} {p : Nat} : ∀ {n st : Nat}, find2 x n st = some p → st ≤ p ∧ p < x.size ∧ isNl (x.getD p 0) = true
  | 0, st, h => by cases h
  | n + 1, st, h => by
    unfold find2 at h
    by_cases hb : (decide (st < x.size) && isNl (x.getD st 0)) = true
    · rw [if_pos hb] at h; cases h
      rw [Bool.and_eq_true, decide_eq_true_eq] at hb
      exact ⟨Nat.le_refl _, hb⟩
    · rw [if_neg hb] at h
      have := find2_some h
      exact ⟨by omega, this.2⟩
theorem f1_ok (x : Array Nat) (st b e : Nat) (h : f1 x st = some (b, e)) : st ≤ b ∧ b < e ∧ e ≤ x.size := by
  unfold f1 at h
  obtain ⟨p, hp, e'⟩ := Option.map_eq_some_iff.mp h
  cases e'
  obtain ⟨z1, z2⟩ := find1_some hp
  unfold hit1 at z2
  simp only [Bool.and_eq_true, decide_eq_true_eq] at z2
  omega
theorem f2_ok (x : Array Nat) (st b e : Nat) (h : f2 x st = some (b, e)) : st ≤ b ∧ b < e ∧ e ≤ x.size := by
  unfold f2 at h
  obtain ⟨p, hp, e'⟩ := Option.map_eq_some_iff.mp h
  cases e'
  obtain ⟨z1, z2, z3⟩ := find2_some hp
  have hn : nl x b = 1 ∨ (nl x b = 2 ∧ b + 1 < x.size) := by
    by_cases hh : x.getD b 0 = 13 ∧ b + 1 < x.size ∧ x.getD (b + 1) 0 = 10
    · exact .inr ⟨by unfold nl; rw [if_pos hh], hh.2.1⟩
    · exact .inl (by unfold nl; rw [if_neg hh])
  omega
theorem f1_run (x : Array Nat) (hx : x.size ≤ 10000) (st : Nat) (hst : st ≤ x.size) : ∃ k, k ≤ 4 * 2 ^ 64 ∧ Ends k (Sre.forSearch code1 x 0 st x.size false) (Hit (f1 x st)) := ⟨_, by omega, search1 hst⟩
theorem f2_run (x : Array Nat) (hx : x.size ≤ 10000) (st : Nat) (hst : st ≤ x.size) : ∃ k, k ≤ 4 * 2 ^ 64 ∧ Ends k (Sre.forSearch code2 x 0 st x.size false) (Hit (f2 x st)) := ⟨_, by omega, search2 hst⟩
end
end Mine
set_option Elab.async false
set_option linter.unusedVariables false
set_option maxRecDepth 100000
namespace Mine
open PySem PySem.W PyProof.Rows
noncomputable def retV : Fl × Sg → Option V
  | (.ret v, _) => some v
  | (.next, _) => some .none
  | _ => none
section
variable {C : Cx} {k : Nat} {N : List Str} {K : Env → Prop}
theorem FnIs.of {Kf : Frag} {a : Addr} {o : Obj} {fd : FuncData} {body : List Stmt} (hK : ∀ a o, Kf.lookup a = some o → C.base a o) (ho : Kf.lookup a = some o) (hd : o.data = .func fd) (hb : fd.body = .stmts body) (hc : codeIn Kf fd.code fd.qualname = true) (h1 : fd.closure = [] := by rfl) (h2 : fd.globals = mainGlobals := by rfl)
    (h3 : fd.builtins = builtinsNs := by rfl) (h4 : fd.scope.isCoroutine = false := by rfl) (h5 : fd.scope.isGenerator = false := by rfl) (h6 : fd.scope.kind = .function := by rfl) : FnIs C a fd body :=
  ⟨⟨o, hK _ _ ho, hd⟩, hb, fun h hh => codeRec_of (K := Kf) (fun a o e => hh a o (hK a o e)) hc, h1, h2, h3, h4, h5, h6⟩
/-- a def's contract -/
theorem pure_def {a : Addr} {fd : FuncData} {body : List Stmt} {pn rest : List Str} {F : Sg → Rs} {bind : List V → List (Str × V) → Option (List V)} (ht : C.T = []) (fi : FnIs C a fd body) (hN : N = pn ++ rest) (hnd : N.Nodup) (hk : ∀ x ∈ N, fd.scope.names.lookup x = some .local ∨ fd.scope.names.lookup x = some .cell)
    (hKe : ∀ L, K (callEnvC fd L a)) (h : Sx C k N K body F)
    (hb : ∀ (s : Shared) (X : Addr → Prop) args kws rargs rkws vs, C.Ok s.heap → VRels (rd X s.heap) args rargs → VRels (rd X s.heap) (kws.map (·.2)) rkws → bind args kws = some vs → ∃ rvs, pn.length = vs.length ∧ BindsTo s fd ⟨rargs, (kws.map (·.1)).zip rkws⟩ (pn.zip rvs) ∧ VRels (rd X s.heap) vs rvs) :
    PureFn C (k + 1) (.ref a) (fun args kws => (bind args kws).bind fun vs => (F (vs.map .val ++ List.replicate rest.length .unset)).bind retV) := fun A s X args kws rargs rkws v E R c i r rk q => by
  obtain ⟨vs, hvs, q₁⟩ := Option.bind_eq_some_iff.mp q
  obtain ⟨⟨fl, σ'⟩, hF, q₂⟩ := Option.bind_eq_some_iff.mp q₁
  obtain ⟨rvs, hl, hbt, hr⟩ := hb s X args kws rargs rkws vs c r rk hvs
  refine fn_run fi hN hbt hnd hk hr hl h hKe hF R c i (by rw [ht]; exact fun _ q => nomatch q) fun s' rv env w hrv => ?_
  refine ⟨w.kp0 ht, ?_⟩
  cases fl with
  | ret u => cases q₂; exact hrv
  | next => cases q₂; dsimp only at hrv; rw [hrv]; unfold VRel; rfl
  | brk => cases q₂
  | cont => cases q₂
noncomputable def bindPos (n : Nat) (args : List V) (kws : List (Str × V)) : Option (List V) := if kws.isEmpty ∧ args.length = n then some args else none
theorem bindPos_ok {fd : FuncData} {pn : List Str} (hp : ∀ s rargs, rargs.length = pn.length → BindsTo s fd ⟨rargs, []⟩ (pn.zip rargs)) (s : Shared) (X : Addr → Prop) (args : List V) (kws : List (Str × V)) (rargs rkws : List Value) (vs : List V) (c : C.Ok s.heap) (r : VRels (rd X s.heap) args rargs) (rk : VRels (rd X s.heap) (kws.map (·.2)) rkws)
    (h : bindPos pn.length args kws = some vs) : ∃ rvs, pn.length = vs.length ∧ BindsTo s fd ⟨rargs, (kws.map (·.1)).zip rkws⟩ (pn.zip rvs) ∧ VRels (rd X s.heap) vs rvs := by
  unfold bindPos at h
  split at h
  · rename_i hc
    cases h
    have : kws = [] := List.isEmpty_iff.mp hc.1
    subst this
    refine ⟨rargs, hc.2.symm, ?_, r⟩
    exact hp s rargs (by rw [r.length]; exact hc.2)
  · cases h
end
end Mine
set_option Elab.async false
set_option linter.unusedVariables false
set_option maxRecDepth 100000
namespace Mine
open PySem PySem.W PyProof.Rows
noncomputable def fnOf (K : Frag) (a : Addr) : FuncData := match K.lookup a with
  | some ⟨_, _, .func fd, _⟩ => fd
  | _ => default
noncomputable def bodyOf (fd : FuncData) : List Stmt := match fd.body with
  | .stmts b => b
  | _ => []
/-- the globals, told by the heap's fragment -/
structure GL (C : Cx) (Kf : Frag) : Prop where
  K : ∀ a o, Kf.lookup a = some o → C.base a o
  g : ∀ x v, nsIn Kf mainGlobals x = some (some v) → C.mg x = some v
  gn : ∀ x, nsIn Kf mainGlobals x = some none → C.mg x = none
  b : ∀ x v, bootBuiltins x = some v → x ≠ "__name__" → C.mb x = some v
noncomputable def KS (sc : Scope) : Env → Prop := fun env => env.scope = sc
theorem kg {sc : Scope} {x : Str} (h : sc.names.lookup x = some .globalImplicit) : ∀ env : Env, KS sc env → env.kindOf x = some .globalImplicit := fun env e => by
  unfold Env.kindOf; rw [e]; exact h
theorem kgc {K : Env → Prop} {sc : Scope} {x : Str} (h : sc.names.lookup x = some .globalImplicit) : ∀ env : Env, CK K sc env → env.kindOf x = some .globalImplicit := fun env e => by
  obtain ⟨env0, _, e⟩ := e
  unfold Env.kindOf
  rw [e, lookup_relabel, h]
  rfl
theorem kcell {sc : Scope} {cn : List Str} (h : ∀ x ∈ cn, sc.names.lookup x = some .cell ∨ sc.names.lookup x = some .free) : ∀ env, KS sc env → ∀ x ∈ cn, env.kindOf x = some .cell ∨ env.kindOf x = some .free := fun env e x hx => by
  unfold Env.kindOf; rw [e]; exact h x hx
section
variable {C : Cx} {k : Nat} {N : List Str} {K : Env → Prop} {Kf : Frag}
theorem Sx_never {st : List Stmt} : Sx C k N K st (fun _ => none) := fun A env s₀ s σ σ' fl X G E R o fe ke c w q => by cases q
noncomputable def fNever : Sg → Rs := fun _ => none
theorem Sx_no {st : List Stmt} : Sx C k N K st fNever := Sx_never
noncomputable def fRaw (v : Value) : Sg → Option V := fun _ => some (.raw v)
noncomputable def fV (v : V) : Sg → Option V := fun _ => some v
noncomputable def fGet (i : Nat) : Sg → Option V := fun σ => σ.get i
noncomputable def fNil' : Sg → Option (List V) := fun _ => some []
noncomputable def fKwNil : Sg → Option (List (Str × V)) := fun _ => some []
noncomputable def fBi (spec : List V → Option V) (g : Sg → Option (List V)) : Sg → Option V := fun σ => (g σ).bind spec
noncomputable def fLst (g : Sg → Option (List V)) : Sg → Option V := fun σ => (g σ).map .lst
noncomputable def fTup (g : Sg → Option (List V)) : Sg → Option V := fun σ => (g σ).map .tup
noncomputable def fNeg (f : Sg → Option V) : Sg → Option V := fun σ => (f σ).bind fun v => match v with | .int i => some (.int (-i)) | _ => none
noncomputable def fTr (f : Sg → Option V) : Sg → Option Bool := fun σ => (f σ).bind V.tr
noncomputable def fCmpV (op : CmpOp) (f g : Sg → Option V) : Sg → Option V := fun σ => (fCmp op f g σ).map .bool
noncomputable def fAttr (Cl : Addr) (attr : Str) (f : Sg → Option V) : Sg → Option V := fun σ => (f σ).bind (attrD Cl attr)
noncomputable def fMeth (Cl : Addr) (name : Str) (spec : List V → List (Str × V) → Option V) (f : Sg → Option V) (g : Sg → Option (List V)) : Sg → Option V := fun σ => (f σ).bind fun u => (g σ).bind fun vs => methD Cl name spec u vs
noncomputable def fMethB (T : String) (spec : List V → Option V) (f : Sg → Option V) (g : Sg → Option (List V)) : Sg → Option V := fun σ => (f σ).bind fun u => (g σ).bind fun vs => if typeOfV u = T then spec (u :: vs) else none
noncomputable def fMethR (a : Addr) (spec : List V → Option V) (g : Sg → Option (List V)) : Sg → Option V := fun σ => (g σ).bind fun vs => spec (.raw (.ref a) :: vs)
noncomputable def fIt (f : Sg → Option V) : Sg → Option (List V) := fun σ => (f σ).bind iterD
noncomputable def fItE (g : Sg → Option (List V)) : Sg → Option (List V) := fun σ => (g σ).bind enumD
noncomputable def fItZ (g : Sg → Option (List V)) : Sg → Option (List V) := fun σ => (g σ).bind zipD
noncomputable def fForS (sp : V → Option (List V)) (n : Nat) (is : List Nat) (f : Sg → Option (List V)) (F : Sg → Rs) : Sg → Rs := fun σ => (f σ.hide).bind fun vs => fFor (fSp sp n is) F vs σ
noncomputable def fBrk : Sg → Rs := fun σ => some (.brk, σ)
noncomputable def fHid (f : Sg → Option V) : Sg → Option V := fun σ => f σ.hide
noncomputable def fFrz (i : Nat) (F : Sg → Rs) : Sg → Rs := fun σ => F (σ.frz i)
noncomputable def sp1 : V → Option (List V) := fun v => some [v]
noncomputable def tTrue : Sg → Option Bool := fun _ => some true
theorem x_Name {x : Str} {pos : Pos} (i : Nat) (hx : N[i]? = some x) (hd : (x == ("__debug__" : Str)) = false := by decide +kernel) (hn : (x == ("__classdict__" : Str)) = false := by decide +kernel) : ExB C k N K (.Name x pos) (fGet i) := Ex_Name i hx hd hn
theorem x_Glob {x : Str} {pos : Pos} {rv : Value} (gl : GL C Kf) (hk : ∀ env, K env → env.kindOf x = some .globalImplicit) (hx : nsIn Kf mainGlobals x = some (some rv)) (hd : (x == ("__debug__" : Str)) = false := by decide +kernel) : ExF C k N K (.Name x pos) (fRaw rv) := Ex_Glob hk (gl.g _ _ hx) hd
theorem x_Bui {x : Str} {pos : Pos} {rv : Value} (gl : GL C Kf) (hk : ∀ env, K env → env.kindOf x = some .globalImplicit) (hx : nsIn Kf mainGlobals x = some none) (hb : bootBuiltins x = some rv) (hne : x ≠ "__name__" := by decide +kernel) (hd : (x == ("__debug__" : Str)) = false := by decide +kernel) : ExF C k N K (.Name x pos) (fRaw rv) := Ex_Bui hk (gl.gn _ hx) (gl.b _ _ hb hne) hd
theorem x_Int {i : Int} {kd : Nat} {pos : Pos} : ExF C k N K (.Constant (.int i) kd pos) (fV (.int i)) := Ex_Int
theorem x_Str {x : Str} {kd : Nat} {pos : Pos} : ExF C k N K (.Constant (.str x) kd pos) (fV (.str x)) := Ex_Str
theorem x_None {kd : Nat} {pos : Pos} : ExF C k N K (.Constant .none kd pos) (fV .none) := Ex_None
theorem x_Bool {b : Bool} {kd : Nat} {pos : Pos} : ExF C k N K (.Constant (.bool b) kd pos) (fV (.bool b)) := Ex_Bool
theorem x_As0 : ExAs C k N K [] fNil' := As_nil
theorem x_Ds0 : ExDs C k N K [] fNil' := Ds_nil
theorem x_Kw0 : ExKw C k N K [] fKwNil := Kw_nil
theorem x_Bi {x : Str} {p pos : Pos} {es : List Expr} {g : Sg → Option (List V)} {id : String} {spec : List V → Option V} (hx : ExF C k N K (.Name x p) (fRaw (.builtin id))) (hf : PureFn C k (.builtin id) (noKw spec)) (ha : ExAs C k N K es g) (hes : ∀ env, (backTo pos (starEach es env)).any (·.1) = false := by intro _; rfl) :
    ExF C k N K (.Call (.Name x p) es [] pos) (fBi spec g) := Ex_CallBi hx.toB (fun _ => rfl) hf ha hes
theorem x_Ty {x : Str} {p pos : Pos} {es : List Expr} {g : Sg → Option (List V)} {id : String} {spec : List V → Option V} (hx : ExF C k N K (.Name x p) (fRaw (.type id))) (hf : PureFn C k (.type id) (noKw spec)) (ha : ExAs C k N K es g) (hes : ∀ env, (backTo pos (starEach es env)).any (·.1) = false := by intro _; rfl) :
    ExF C k N K (.Call (.Name x p) es [] pos) (fBi spec g) := Ex_CallTy hx.toB (fun _ => rfl) hf ha hes
theorem x_Neg {e : Expr} {pos : Pos} {f : Sg → Option V} (h : ExB C k N K e f) : ExF C k N K (.UnaryOp .USub e pos) (fNeg f) := Ex_Neg h
theorem x_Lst {es : List Expr} {pos : Pos} {g : Sg → Option (List V)} (h : ExDs C k N K es g) (hz : es.length ≤ 100 := by decide) : ExF C k N K (.List es pos) (fLst g) := Ex_List h hz
theorem x_Tup {es : List Expr} {n : Nat} {pos : Pos} {g : Sg → Option (List V)} (h : ExDs C k N K es g) (hz : es.length ≤ 100 := by decide) : ExF C k N K (.Tuple es n pos) (fTup g) := Ex_Tuple h hz
theorem x_Cmp {l r : Expr} {op : CmpOp} {pos : Pos} {f g : Sg → Option V} (hl : ExB C k N K l f) (hr : ExB C k N K r g) (hm : behindInMarks op r = false := by with_unfolding_all rfl) : ExF C k N K (.Compare l [op] [r] pos) (fCmpV op f g) := Ex_Cmp hl hr hm
theorem x_Tr {e : Expr} {f : Sg → Option V} (h : ExB C k N K e f) (he : ∀ env whole, isTrue e env whole = (do let v ← whole; standAt e.pos; holding [v] (truthy v)) := by intro _ _; rfl) : Tx C k N K e (fTr f) := Tx_Val h he
theorem x_Fn {x : Str} {p pos : Pos} {es : List Expr} {ks : List Keyword} {g : Sg → Option (List V)} {gk : Sg → Option (List (Str × V))} {a : Addr} {spec : List V → List (Str × V) → Option V} (gl : GL C Kf) (hx : ExF C k N K (.Name x p) (fRaw (.ref a))) (hf : PureFn C k (.ref a) spec) (hk : keepIn Kf (.ref a) = true)
    (ha : ExAs C k N K es g) (hkw : ExKw C k N K ks gk) (hes : ∀ env, (backTo pos (starEach es env)).any (·.1) = false := by intro _; rfl) (hks : ∀ env, (backToKw pos (keywordEach ks env)).any (·.1.isNone) = false := by intro _; rfl) : ExF C k N K (.Call (.Name x p) es ks pos) (fCall spec g gk) := Ex_CallK gl.K hx.toB (fun _ => rfl) hf hk ha hkw hes hks
theorem x_It {e : Expr} {x : Str} {p : Pos} {f : Sg → Option V} (h : ExB C k N K e f) : It C k N K e (.Name x p) (fIt f) := It_Val h
theorem x_ItE {x : Str} {q p pos : Pos} {m : Nat} {es ts : List Expr} {g : Sg → Option (List V)} (hx : ExF C k N K (.Name x p) (fRaw (.type "enumerate"))) (ha : ExAs C k N K es g) (hes : ∀ env, (backTo pos (starEach es env)).any (·.1) = false := by intro _; rfl) : It C k N K (.Call (.Name x p) es [] pos) (.Tuple ts m q) (fItE g) := It_Enum hx.toB (fun _ => rfl) ha hes
theorem x_ItZ {x : Str} {q p pos : Pos} {m : Nat} {es ts : List Expr} {g : Sg → Option (List V)} (hx : ExF C k N K (.Name x p) (fRaw (.type "zip"))) (ha : ExAs C k N K es g) (hes : ∀ env, (backTo pos (starEach es env)).any (·.1) = false := by intro _; rfl) : It C k N K (.Call (.Name x p) es [] pos) (.Tuple ts m q) (fItZ g) := It_Zip hx.toB (fun _ => rfl) ha hes
theorem x_For {tg iter : Expr} {body : List Stmt} {pos : Pos} {f : Sg → Option (List V)} {xs : List Str} {sp : V → Option (List V)} {F : Sg → Rs} (is : List Nat) (n : Nat) (hi : It C k N K iter tg f) (ht : Tg C tg xs sp) (hx : is.map (N[·]?) = xs.map some) (hn : xs.length = n) (hb : Sx C k N K body F) (hs : ∀ env x, foldedSetIterable iter env x = pure x := by intro _ _; rfl) :
    S1 C k N K (.For tg iter body [] pos) (fForS sp n is f F) := by subst hn; exact S1_For is hi ht hx hb hs
theorem x_Brk {pos : Pos} : S1 C k N K (.Break pos) fBrk := S1_Break
theorem x_Hid {e : Expr} {f : Sg → Option V} (h : ExB C k N K e f) : ExS C k N K e (fHid f) := h.toS
theorem x_Frz {st : List Stmt} {F : Sg → Rs} (i : Nat) (h : Sx C k N K st F) : Sx C k N K st (fFrz i F) := Sx_frz i h
theorem x_T1 {x : Str} {p : Pos} : Tg C (.Name x p) [x] sp1 := Tg_Name
end
end Mine
set_option Elab.async false
set_option linter.unusedVariables false
set_option maxRecDepth 100000
namespace Mine
open PySem PySem.W PyProof.Rows
section
variable {C : Cx} {k : Nat} {N : List Str} {K : Env → Prop} {Kf : Frag}
theorem okCells {sc : Scope} {cn : List Str} (h : (cn.all fun x => sc.names.lookup x == some .cell || sc.names.lookup x == some .free) = true) : ∀ x ∈ cn, sc.names.lookup x = some .cell ∨ sc.names.lookup x = some .free := fun x hx => by
  have := List.all_eq_true.mp h x hx
  rw [Bool.or_eq_true, beq_iff_eq, beq_iff_eq] at this
  exact this
noncomputable def fCallV (Φ : Value → List V → Option V) (f : Sg → Option V) (g : Sg → Option (List V)) : Sg → Option V := fun σ => (f σ).bind fun u => match u with | .raw rv => (g σ).bind fun vs => Φ rv vs | _ => none
theorem x_CallV {x : Str} {p pos : Pos} {es : List Expr} {g : Sg → Option (List V)} {Φ : Value → List V → Option V} {fx : Sg → Option V} (hx : ExB C k N K (.Name x p) fx)
    (hf : ∀ rv, (∃ a o fd, rv = .ref a ∧ C.base a o ∧ o.data = .func fd ∧ PureFn C k (.ref a) (fun vs ks => if ks.isEmpty then Φ rv vs else none)) ∨ ∀ vs, Φ rv vs = none) (ha : ExAs C k N K es g) (hes : ∀ env, (backTo pos (starEach es env)).any (·.1) = false := by intro _; rfl) :
    ExF C k N K (.Call (.Name x p) es [] pos) (fCallV Φ fx g) := Ex_CallV hx hf ha hes
noncomputable def fStrG (x : Str) : Sg → Option V := fun _ => some (.str x)
theorem x_GlobS {x : Str} {pos : Pos} {y : Str} {t : Tok} (gl : GL C Kf) (hk : ∀ env, K env → env.kindOf x = some .globalImplicit) (hx : nsIn Kf mainGlobals x = some (some (.str y t))) (hd : (x == ("__debug__" : Str)) = false := by decide +kernel) : ExF C k N K (.Name x pos) (fStrG y) := fun A env s σ v X E R o ke c i w q => by
  cases q
  refine Calls.Name_function_global o.kind (hk env ke) (Calls.loadGlobal_global (by rw [o.glob]; exact C.glob _ c.b) (gl.g _ _ hx) ⟨Kp.refl s, pStr⟩) hd
theorem x_Join {ob : Expr} {apos pos : Pos} {es : List Expr} {f : Sg → Option V} {g : Sg → Option (List V)} (ho : ExB C k N K ob f) (ha : ExAs C k N K es g) (hes : ∀ env, (backTo pos (starEach es env)).any (·.1) = false := by intro _; rfl)
    (he : ∀ env, ∃ pl, eval (.Call (.Attribute ob "join" apos) es [] pos) env = (do
      let ov ← eval ob env
      standAt apos.atName
      let (f, first) ← holding [ov] (getMethod ov "join" pl)
      callWith pos f first (backTo pos (starEach es env)) []) := by intro _; exact ⟨_, rfl⟩) : ExF C k N K (.Call (.Attribute ob "join" apos) es [] pos) (fMethB "str" joinD f g) :=
  Ex_MethB ho (by decide) PySem.F.plainAttrs_str PySem.F.slot_str_join PySem.F.type_str_join pure_join ha hes he
theorem compOk {scope : Scope} {tn cn : List Str} {caps : List Nat} (h1 : scope.kind = .function) (h2 : ∀ x ∈ scope.names, x.2 = .local → scope.names.lookup x.1 = some .local) (h3 : ∀ x ∈ tn, scope.names.lookup x = some .local ∨ scope.names.lookup x = some .cell) (h4 : tn.Nodup) (h5 : ∀ x ∈ cn, scope.names.lookup x = some .free)
    (h6 : ∀ x ∈ scope.names, x.2 = .cell → x.1 ∉ cn) (h7 : ∀ x ∈ scope.names, x.2 = .free → x.1 ∈ cn) (h8 : caps.map (N[·]?) = cn.map some) (h9 : ∀ env, K env → ∀ x ∈ cn, env.kindOf x = some .cell ∨ env.kindOf x = some .free) : CompOk N K scope tn cn caps := ⟨h1, h2, h3, h4, h5, h6, h7, h8, h9⟩
noncomputable def fThree (i j l : Nat) (f : Sg → Option V) : Sg → Rs := fun σ => (f σ).map fun v => (.next, setAll σ [i, j, l] [v, v, v])
noncomputable def fSwap (i j : Nat) (f : Sg → Option V) : Sg → Rs := fun σ => (f σ).bind fun v => (spTwo v).map fun us => (.next, setAll σ [j, i] us.reverse)
theorem x_Swap {es : List Expr} {n : Nat} {tp pos : Pos} {e : Expr} {f : Sg → Option V} {x y : Str} (i j : Nat) (hx : N[i]? = some x) (hy : N[j]? = some y) (h : ExS C k N K e f) (hw : ∀ env, K env → swappedStores [.Tuple es n tp] e env = pure (some [x, y]))
    (hs : ∀ env, K env → swapsWithSole [.Tuple es n tp] e pos.line env = pure false := by intro _ _; rfl) : S1 C k N K (.Assign [.Tuple es n tp] e pos) (fSwap i j f) := S1_AssignSwap i j hx hy h hs hw
noncomputable def sliceTD : V → V → Option V
  | .tup xs, .int j => if 0 ≤ j ∧ xs.length ≤ 100 then some (.tup (xs.take j.toNat)) else none
  | _, _ => none
noncomputable def fSliceT (f g : Sg → Option V) : Sg → Option V := fun σ => (f σ).bind fun o => (g σ).bind fun i => sliceTD o i
theorem VRels.take {P : PH} : ∀ {vs : List V} {rs : List Value} (j : Nat), VRels P vs rs → VRels P (vs.take j) (rs.take j)
  | _, _, 0, _ => by simp only [List.take_zero]; exact VRels.nil
  | [], _, j + 1, h => by unfold VRels at h; subst h; exact VRels.nil
  | v :: vs, rs, j + 1, h => by
    unfold VRels at h
    obtain ⟨r, rs', rfl, h1, h2⟩ := h
    exact VRels.cons h1 (VRels.take j h2)
theorem Ex_SliceT {value hi : Expr} {p pos : Pos} {f g : Sg → Option V} (hf : ExB C k N K value f) (hg : ExB C k N K hi g) (hs : ∀ o i, ∃ ops, subscripted (.Slice none (some hi) none p) false o i = operate ops (getItem o i) := by intro _ _; exact ⟨_, rfl⟩) :
    ExB C k N K (.Subscript value (.Slice none (some hi) none p) pos) (fSliceT f g) := fun A env s σ v X E R o ke cc i w q => by
  unfold fSliceT at q
  obtain ⟨u, hu, q₁⟩ := Option.bind_eq_some_iff.mp q
  obtain ⟨y, hy, q₂⟩ := Option.bind_eq_some_iff.mp q₁
  clear q q₁
  unfold sliceTD at q₂
  split at q₂
  rotate_left
  · cases q₂
  rename_i xs j
  by_cases hj : 0 ≤ j ∧ xs.length ≤ 100
  rotate_left
  · rw [if_neg hj] at q₂; cases q₂
  rw [if_pos hj] at q₂
  cases q₂
  refine Subscript_ (wpAny_mono (hf A env s σ _ X E R o ke cc i w hu) (fun r0 s₁ h₁ => ?_) fun _ _ x => x)
  have k₁ := h₁.1.le
  refine wpAny_Slice (wpAny_mono (P_none A env s₁ σ .none X E R o ke (cc.le k₁) (i.le k₁) (w.le k₁) rfl) (fun r1 s₂ h₂ => ?_) fun _ _ x => x)
  have k₂ := k₁.trans h₂.1.le
  refine wpAny_mono (P_some hg A env s₂ σ _ X E R o ke (cc.le k₂) (i.le k₂) (w.le k₂) hy) (fun r2 s₃ h₃ => ?_) fun _ _ x => x
  have k₃ := k₂.trans h₃.1.le
  refine wpAny_mono (P_none A env s₃ σ .none X E R o ke (cc.le k₃) (i.le k₃) (w.le k₃) rfl) (fun r3 s₄ h₄ => ?_) fun _ _ x => x
  have k14 := (h₂.1.trans h₃.1).trans h₄.1
  obtain rfl := h₂.2.none'
  obtain ⟨t, rfl⟩ := h₃.2.int'
  obtain rfl := h₄.2.none'
  obtain ⟨a, its, n, rfl, g0, r⟩ := h₁.2.tup'
  have kp := Kp.push s₄ { cls := .type "slice", data := .fields #[.none, .int j t, .none] }
  obtain ⟨m, rfl⟩ := Int.eq_ofNat_of_zero_le hj.1
  have hz : its.size = xs.length := by have := r.length; simpa using this
  have ht := kp.le _ _ (k14.le _ _ g0.1)
  obtain ⟨ops, ho⟩ := hs (.ref a) (.ref s₄.heap.objs.size)
  have isT : IsTup (s₄.heap.push { cls := .type "slice", data := .fields #[.none, .int m t, .none] }) a its := ⟨_, ht, rfl, n, rfl⟩
  refine tail_any (s := { s₄ with heap := s₄.heap.push { cls := .type "slice", data := .fields #[.none, .int m t, .none] } }) isT.typeIs slot_tuple_getitem.lookup ?_ ho
  have kall := (h₁.1.trans k14).trans kp
  refine tuple_upTo (s := { s₄ with heap := s₄.heap.push { cls := .type "slice", data := .fields #[.none, .int m t, .none] } }) ht (Heap.get?_push_size _ rfl) (by omega) (fun hle => ⟨kall, ?_⟩) fun hlt => ⟨kall.trans (Kp.push _ _), ?_⟩
  · unfold VRel
    refine ⟨a, its, n, rfl, ⟨ht, g0.2⟩, ?_⟩
    have : xs.take ((m : Int)).toNat = xs := List.take_of_length_le (by omega)
    rw [this]
    exact r.up (k14.trans kp).le
  · unfold VRel
    refine ⟨_, _, 0, rfl, ⟨Heap.get?_push_size _ rfl, fun hx => ?_⟩, ?_⟩
    · obtain ⟨o', e'⟩ := (i.le kall.le) _ hx
      exact absurd (Heap.lt_size e') (Nat.lt_irrefl _)
    · have e1 : ((m : Int)).toNat = m := by omega
      rw [e1]
      show VRels _ _ (its.toList.take m)
      exact VRels.take m (r.up ((k14.trans kp).trans (Kp.push _ _)).le)
end
end Mine
set_option Elab.async false
set_option linter.unusedVariables false
set_option maxRecDepth 100000
namespace Mine
open PySem PySem.W PyProof.Rows
/-- nothing is turned but the tables, which stay tables -/
structure Gr (C : Cx) (X : Addr → Prop) (s s' : Shared) : Prop where
  same : ∃ tk, s' = { s with heap := s'.heap, toks := tk }
  keep : ∀ b o, b ∉ C.T → s.heap.get? b = some o → s'.heap.get? b = some o
  tabs : ∀ a, a ∈ C.T → ∃ o, s'.heap.get? a = some o ∧ o.cls = .none ∧ C.tk (rd (fun a => X a ∨ a ∈ C.T) s'.heap) o
section
variable {C : Cx} {X : Addr → Prop} {N : List Str} {G : PH} {s₀ s s' : Shared} {env : Env} {σ : Sg} {m cm : Str → Option Value} {ow : Nat → List Addr}
theorem Inner.monoC {P Q : PH} {h h' : Heap} (hP : ∀ a o, o.cls ≠ .none → P a o → Q a o) : ∀ {xss : List (List V)} {bs : List Addr}, (∀ b, b ∈ bs → ∀ o, h.get? b = some o → h'.get? b = some o) → Inner P h xss bs → Inner Q h' xss bs
  | [], _, _, x => x
  | xs :: r, bs, hb, x => by
    unfold Inner at x ⊢
    obtain ⟨b, bs', rfl, ⟨its, n, e, q⟩, y⟩ := x
    exact ⟨b, bs', rfl, ⟨its, n, hb b (.head _) _ e, q.monoC hP⟩, Inner.monoC hP (fun c hc => hb c (.tail _ hc)) y⟩
theorem SlotRel.monoC {P Q : PH} {h h' : Heap} {rv : Option Value} {as : List Addr} {sl : Slot} (x : SlotRel P h rv as sl) (hP : ∀ a o, o.cls ≠ .none → P a o → Q a o) (hb : ∀ b, b ∈ as → ∀ o, h.get? b = some o → h'.get? b = some o) : SlotRel Q h' rv as sl := by
  cases sl with
  | unset => exact x
  | val v => obtain ⟨e, r, e', q⟩ := x; exact ⟨e, r, e', q.monoC hP⟩
  | own xs => obtain ⟨a, its, n, rfl, e', g, q⟩ := x; exact ⟨a, its, n, rfl, e', hb a (.head _) _ g, q.monoC hP⟩
  | own2 xss => obtain ⟨a, bs, n, rfl, e', g, q⟩ := x; exact ⟨a, bs, n, rfl, e', hb a (.head _) _ g, q.monoC hP fun b h => hb b (.tail _ h)⟩
theorem StW.grow (w : StW C X N G s₀ env σ s m cm ow) (c : C.Ok s₀.heap) (g : Gr C (XF X env) s s') : StW C X N G s₀ env σ s' m cm ow := by
  have nF : ∀ a, Fra env a → a ∉ C.T := fun a h q => by obtain ⟨o, e, _⟩ := c.t a q; rw [(w.newF a h).1] at e; cases e
  have nO : ∀ i a, a ∈ ow i → a ∉ C.T := fun i a h q => by obtain ⟨o, e, _⟩ := c.t a q; rw [(w.newO i a h).1] at e; cases e
  have nC : ∀ a o, o.cls ≠ .none → s.heap.get? a = some o → a ∉ C.T := fun a o hc e q => by obtain ⟨o', e', q'⟩ := w.tabs a q; rw [e] at e'; cases e'; exact hc q'.1
  refine ⟨?_, fun b o ht e => g.keep b o ht (w.keep b o ht e), fun a ha => ?_, w.ns.at' fun o e => g.keep _ o (nF _ (.inl rfl)) e, fun n cc h => ?_, fun a h => ?_, fun i a h => ?_, w.ownD, w.ownN, fun i x sl hx hs => ?_, w.len, fun a o h => ⟨g.keep a o (w.gT a o h) (w.prot a o h).1, (w.prot a o h).2⟩, fun a h => ?_, w.ownX, w.gT⟩
  · obtain ⟨tk, e⟩ := w.same
    obtain ⟨tk', e'⟩ := g.same
    exact ⟨tk', by rw [e']; rw [e]⟩
  · obtain ⟨o, e, q, q'⟩ := g.tabs a ha
    refine ⟨o, e, q, C.tkm _ _ _ (fun b o' vs hvs p => ⟨p.1, fun z => ?_⟩) q'⟩
    rcases z with (z | z | ⟨j, z⟩) | z
    · exact p.2 (.inl (.inl z))
    · exact p.2 (.inl (.inr z))
    · obtain ⟨_, _, _, _, e''⟩ := w.newO j b z
      have := g.keep b _ (nO j b z) e''
      rw [p.1] at this; cases this; cases hvs
    · exact p.2 (.inr z)
  · obtain ⟨o, e, q⟩ := w.cell n cc h
    exact ⟨o, g.keep _ o (nF _ (.inr ⟨n, h⟩)) e, q⟩
  · obtain ⟨p, o, e⟩ := w.newF a h
    exact ⟨p, o, g.keep a o (nF a h) e⟩
  · obtain ⟨p, q, its, n, e⟩ := w.newO i a h
    exact ⟨p, q, its, n, g.keep a _ (nO i a h) e⟩
  · exact (w.slot i x sl hx hs).monoC (fun a o hc p => ⟨g.keep a o (nC a o hc p.1) p.1, p.2⟩) fun b hb o e => g.keep b o (nO i b hb) e
  · by_cases ht : a ∈ C.T
    · obtain ⟨o, e, _⟩ := g.tabs a ht; exact ⟨o, e⟩
    · obtain ⟨o, e⟩ := w.inX a h; exact ⟨o, g.keep a o ht e⟩
end
/-- a call that may let the tables grow -/
noncomputable def TFn (C : Cx) (k : Nat) (f : Value) (spec : List V → List (Str × V) → Option V) : Prop :=
  ∀ (A : Around) (s : Shared) (X : Addr → Prop) (args : List V) (rargs : List Value) (v : V) (E : Value → Shared → Prop), Rm k A → C.Ok s.heap → InH X s.heap → (∀ a, a ∈ C.T → ∃ o, s.heap.get? a = some o ∧ o.cls = .none ∧ C.tk (rd (fun a => X a ∨ a ∈ C.T) s.heap) o) → VRels (rd X s.heap) args rargs → spec args [] = some v →
    wpAny C.M A (call f rargs) (fun rv s' => Gr C X s s' ∧ ∀ P, VRel P v rv) E s
section
variable {C : Cx} {k : Nat} {N : List Str} {K : Env → Prop} {Kf : Frag}
theorem x_CallT {y x : Str} {py p pos spos : Pos} {es : List Expr} {g : Sg → Option (List V)} {a : Addr} {spec : List V → List (Str × V) → Option V} (gl : GL C Kf) (i : Nat) (hy : N[i]? = some y) (hx : ExF C k N K (.Name x p) (fRaw (.ref a))) (hf : TFn C k (.ref a) spec) (hk : keepIn Kf (.ref a) = true) (ha : ExAs C k N K es g)
    (hes : ∀ env, (backTo pos (starEach es env)).any (·.1) = false := by intro _; rfl) (hs : ∀ env, swapsWith (.Call (.Name x p) es [] pos) (some (.Name y py)) spos.line env = pure false := by intro _; rfl) :
    S1 C k N K (.Assign [.Name y py] (.Call (.Name x p) es [] pos) spos) (fSet i (fCall spec g fKwNil)) := fun A env s₀ s σ σ' fl X G E R o fe ke c w q => by
  unfold fSet fCall fKwNil at q
  obtain ⟨v, hv, q₁⟩ := Option.map_eq_some_iff.mp q
  cases q₁
  obtain ⟨vs, hvs, hv₁⟩ := Option.bind_eq_some_iff.mp hv
  have hv₂ : spec vs [] = some v := hv₁
  obtain ⟨m, cm, ow, w⟩ := w
  refine wpAny_Assign_Name ?_ (hs env)
  refine wpAny_Call_Name_kw (wpAny_mono (hx A env s σ _ _ E R o ke (w.ok c) w.inXF (w.view fe) rfl) (fun rf s₁ p => ?_) fun _ _ x => x)
  have p1 := p.1
  obtain rfl := p.2.toB.raw'
  have w₁ := w.kp p1
  refine callWith_of (P := Kf.In) (by rw [hes env]; rfl) (keeps_K hk) (args_eval ha Kw_nil R o ke (w₁.ok c) w₁.inXF (w₁.view fe) hvs rfl (hes env) fun rvs rks s₂ p₂ r₁ r₂ => ?_)
  have w₂ := w₁.kp p₂
  unfold VRels at r₂
  simp only [List.map_nil] at r₂
  subst r₂
  refine ⟨(w₂.ok c).frag gl.K, ?_⟩
  refine wpAny_mono (hf A s₂ _ vs rvs v E R (w₂.ok c) w₂.inXF (fun a ha => let ⟨o, e, q⟩ := w₂.tabs a ha; ⟨o, e, q.1, C.tkm _ _ _ (fun b o _ _ p => ⟨p.1, fun z => p.2 (z.elim (fun z => .inl (z.elim .inl fun z => .inr (.inl z))) .inr)⟩) q.2⟩) r₁ hv₂) (fun rv s₃ p₃ => ?_) fun _ _ x => x
  have w₃ := w₂.grow c p₃.1
  exact St.bindI ⟨m, cm, ow, w₃⟩ fe o c hy (Kp.refl _) p₃.2 fun s'' w'' => ⟨w'', rfl⟩
end
end Mine
set_option Elab.async false
set_option linter.unusedVariables false
set_option maxRecDepth 100000
namespace Mine
open PySem PySem.W PyProof.Rows
/-- what a def's parameters are -/
structure ParsAre (fd : FuncData) (pos kwo : List Str) (dv kv : Value) : Prop where
  po : fd.params.posonlyargs = []
  ar : fd.params.args.map (·.arg) = pos
  va : fd.params.vararg = none
  kw : fd.params.kwonlyargs.map (·.arg) = kwo
  ka : fd.params.kwarg = none
  dv : fd.defaults = dv
  kv : fd.kwdefaults = kv
theorem okLocs {sc : Scope} {N : List Str} (h : (N.all fun x => sc.names.lookup x == some .local || sc.names.lookup x == some .cell) = true) : ∀ x ∈ N, sc.names.lookup x = some .local ∨ sc.names.lookup x = some .cell := fun x hx => by
  have := List.all_eq_true.mp h x hx
  rw [Bool.or_eq_true, beq_iff_eq, beq_iff_eq] at this
  exact this
noncomputable def fdq (q : Str) (pos kwo : List Str) (dv kv : Value) : FuncData := { name := q, qualname := q, params := ⟨[], pos.map (⟨·, none, ⟨0, 0, 0, 0⟩⟩), none, kwo.map (⟨·, none, ⟨0, 0, 0, 0⟩⟩), [], none, []⟩, body := .stmts [], scope := default, globals := 0, closure := [], defaults := dv, kwdefaults := kv }
theorem ParsAre.eq {fd : FuncData} {pos kwo : List Str} {dv kv : Value} (h : ParsAre fd pos kwo dv kv) : ∃ q, ∀ args, bindArgs fd args = bindArgs (fdq q pos kwo dv kv) args := by
  obtain ⟨_, q, ⟨po, ar, va, kw, kd, ka, df⟩, _, _, _, _, dv, kv', _, _, _, _, _, _⟩ := fd
  obtain ⟨h1, h2, h3, h4, h5, h6, h7⟩ := h
  dsimp only at h1 h2 h3 h4 h5 h6 h7
  subst h1 h3 h5 h6 h7
  have e : ∀ l : List Str, (l.map fun x => (⟨x, none, ⟨0, 0, 0, 0⟩⟩ : Arg)).map (·.arg) = l := fun l => by rw [List.map_map]; exact List.map_id l
  refine ⟨q, fun args => ?_⟩
  unfold bindArgs fdq
  dsimp only
  rw [h2, h4, e, e]
theorem bind1 {fd : FuncData} {a : Str} {kv : Value} (h : ParsAre fd [a] [] .none kv) (hf : ∀ q x, bindArgs (fdq q [a] [] .none kv) ⟨[x], []⟩ = pure [(a, x)] := by intro _ _; rfl) (s : Shared) (rargs : List Value) (hl : rargs.length = [a].length) : BindsTo s fd ⟨rargs, []⟩ ([a].zip rargs) := by
  obtain ⟨q, e⟩ := h.eq
  match rargs, hl with
  | [x], _ => exact BindsTo.of_eq ((e _).trans (hf q x))
theorem bind2 {fd : FuncData} {a b : Str} {kv : Value} (h : ParsAre fd [a, b] [] .none kv) (hf : ∀ q x y, bindArgs (fdq q [a, b] [] .none kv) ⟨[x, y], []⟩ = pure [(a, x), (b, y)] := by intro _ _ _; rfl) (s : Shared) (rargs : List Value) (hl : rargs.length = [a, b].length) : BindsTo s fd ⟨rargs, []⟩ ([a, b].zip rargs) := by
  obtain ⟨q, e⟩ := h.eq
  match rargs, hl with
  | [x, y], _ => exact BindsTo.of_eq ((e _).trans (hf q x y))
theorem bind5 {fd : FuncData} {a b c d f : Str} {kv : Value} (h : ParsAre fd [a, b, c, d, f] [] .none kv) (hf : ∀ q x y z u v, bindArgs (fdq q [a, b, c, d, f] [] .none kv) ⟨[x, y, z, u, v], []⟩ = pure [(a, x), (b, y), (c, z), (d, u), (f, v)] := by intro _ _ _ _ _ _; rfl)
    (s : Shared) (rargs : List Value) (hl : rargs.length = [a, b, c, d, f].length) : BindsTo s fd ⟨rargs, []⟩ ([a, b, c, d, f].zip rargs) := by
  obtain ⟨q, e⟩ := h.eq
  match rargs, hl with
  | [x, y, z, u, v], _ => exact BindsTo.of_eq ((e _).trans (hf q x y z u v))
/-- bisect(a, x): the defaults -/
noncomputable def bisN : List Str := [(Str.ofString "a"), (Str.ofString "x"), (Str.ofString "lo"), (Str.ofString "hi"), (Str.ofString "key")]
theorem bindB2 {fd : FuncData} {Kf : Frag} {T d : Addr} {t : Tok} (h : ParsAre fd (bisN.take 4) (bisN.drop 4) (.ref T) (.ref d)) (s : Shared) (x y : Value) (X : Kf.In s.heap) (hf : ∀ q S, peek Kf S (bindArgs (fdq q (bisN.take 4) (bisN.drop 4) (.ref T) (.ref d)) ⟨[x, y], []⟩) = some (bisN.zip [x, y, .int 0 t, .none, .none])) :
    BindsTo s fd ⟨[x, y], []⟩ (bisN.zip [x, y, .int 0 t, .none, .none]) := by
  obtain ⟨q, e⟩ := h.eq
  intro M A E Q hq
  rw [e]
  exact kp_binds X (hf q) M A E Q hq
/-- bisect(a, x, lo, hi, key=f) -/
theorem bindB5 {fd : FuncData} {T d : Addr} {n : Nat} {t : Tok} (h : ParsAre fd (bisN.take 4) (bisN.drop 4) (.ref T) (.ref d)) (s : Shared) (x y z u v : Value) (ho : s.heap.get? T = some (tupObj #[.int 0 t, .none] n)) :
    BindsTo s fd ⟨[x, y, z, u], [(Str.ofString "key", v)]⟩ (bisN.zip [x, y, z, u, v]) := by
  obtain ⟨q, e⟩ := h.eq
  intro M A E Q hq
  rw [e]
  exact (BindsTo.of_defaults (fd := fdq q (bisN.take 4) (bisN.drop 4) (.ref T) (.ref d)) rfl ho rfl rfl rfl) M A E Q hq
end Mine
set_option Elab.async false
set_option linter.unusedVariables false
set_option maxRecDepth 100000
namespace Mine
open PySem PySem.W PyProof.Rows
/-- what a captured name's cell holds: nothing of the heap's -/
structure CapIs (C : Cx) (clos : List (Str × Addr)) (x : Str) (v : V) : Prop where
  ex : ∃ c o rv, clos.lookup x = some c ∧ C.base c o ∧ o.data = .cell (some rv) ∧ ∀ P, VRel P v rv
inductive Caps (C : Cx) (clos : List (Str × Addr)) : List Str → List V → Prop
  | nil : Caps C clos [] []
  | cons {x : Str} {v : V} {xs : List Str} {vs : List V} : CapIs C clos x v → Caps C clos xs vs → Caps C clos (x :: xs) (v :: vs)
theorem Caps.at {C : Cx} {clos : List (Str × Addr)} : ∀ {xs : List Str} {vs : List V}, Caps C clos xs vs → ∀ {i : Nat} {x : Str} {v : V}, xs[i]? = some x → vs[i]? = some v → CapIs C clos x v
  | _, _, .nil, i, x, v, h, _ => by cases h
  | _, _, .cons a b, 0, x, v, h, h' => by cases h; cases h'; exact a
  | _, _, .cons a b, i + 1, x, v, h, h' => b.at (i := i) h h'
section
variable {C : Cx} {k : Nat}
theorem pure_lam {f c' : Addr} {name qual : Str} {params : Arguments} {body : Expr} {scope : Scope} {clos : List (Str × Addr)} {pm ctv : Value} {pn : Str} {cn : List Str} {cvs : List V} {g : Sg → Option V}
    (hf : C.base f (kla_obj name qual params body scope clos pm c' ctv)) (hcd : ∀ h : Heap, (∀ a o, C.base a o → h.get? a = some o) → h.CodeRec (.ref c') qual) (hb : ∀ x, bindArgs (kla_fn name qual params body scope clos pm (.ref c') ctv) ⟨[x], []⟩ = pure [(pn, x)])
    (hbody : ExF C k (pn :: cn) (KS scope) body g) (hl : scope.names.lookup pn = some .local) (hc : ∀ x ∈ cn, scope.names.lookup x = some .free) (cap : Caps C clos cn cvs) (hco : scope.isCoroutine = false) (hgen : scope.isGenerator = false) (hk : scope.kind = .function) (hcell : ∀ x ∈ scope.names, x.2 ≠ .cell) :
    PureFn C (k + 1) (.ref f) (fun args kws => if kws.isEmpty then (match args with | [v] => g (.val v :: cvs.map .val) | _ => none) else none) := fun A s X args kws rargs rkws v E R c i r rk q => by
  dsimp only at q
  split at q
  rotate_left
  · cases q
  rename_i hkw
  have : kws = [] := List.isEmpty_iff.mp hkw
  subst this
  have e0 : rkws = [] := by unfold VRels at rk; exact rk
  subst e0
  split at q
  rotate_left
  · cases q
  rename_i u
  unfold VRels at r
  obtain ⟨ru, rs, rfl, r1, r2⟩ := r
  unfold VRels at r2
  subst r2
  refine wpAny_call (kla_callFunE (by have := R.depth; omega) (c.b f _ hf) rfl hco hgen rfl (hcd _ c.b) ?_)
  show wpAny _ _ (bindArgs (kla_fn name qual params body scope clos pm (.ref c') ctv) ⟨[ru], []⟩) _ _ _
  rw [hb]
  refine wpAny_pure (wpAny_newFunctionEnv hcell (fun x hx => by rw [List.mem_singleton.mp hx]; exact hl) (fun h₁ hns hsb => ⟨(C.lim _ c.b).fresh _ hsb, ?_⟩) hk)
  have hk₁ : Hle s.heap h₁ := fun b o e => hsb.extBut b o (Nat.ne_of_lt (Heap.lt_size e)) (Heap.get?_push_of_some _ e)
  have eo : EnvOk (newEnv scope s.heap.objs.size mainGlobals clos (qual ++ ".<locals>.") (some f) (.ref c') none builtinsNs) := ⟨hk, rfl, rfl⟩
  have vw : View X (pn :: cn) (.val u :: cvs.map .val) (newEnv scope s.heap.objs.size mainGlobals clos (qual ++ ".<locals>.") (some f) (.ref c') none builtinsNs) h₁ := fun j x w hx hw => by
    cases j with
    | zero =>
      cases hx; cases hw
      refine ⟨ru, .inl ⟨hl, _, hns, ?_⟩, r1.up hk₁⟩
      simp [List.lookup]
    | succ j =>
      unfold Sg.get at hw
      rw [List.getElem?_cons_succ] at hx
      rw [List.getElem?_cons_succ, List.getElem?_map] at hw
      obtain ⟨sl, hsl, hw⟩ := Option.bind_eq_some_iff.mp hw
      obtain ⟨w', hw', rfl⟩ := Option.map_eq_some_iff.mp hsl
      cases hw
      obtain ⟨cc, o, rv, e1, e2, e3, e4⟩ := (cap.at hx hw').ex
      exact ⟨rv, .inr ⟨.inr (hc x (List.mem_of_getElem? hx)), cc, e1, o, hk₁ _ _ (c.b _ _ e2), e3⟩, e4 _⟩
  refine kla_codeExpr (wpAny_mono (hbody (A.deeper _) _ { s with heap := h₁, toks := s.toks + 1 } _ v X _ R.deeper eo rfl (c.le hk₁) (i.le hk₁) vw q) (fun rv s' p => ?_) fun _ _ x => x)
  exact ⟨(Kp.mk' (s := s) (tk := s.toks + 1) hk₁).trans p.1, p.2.wide hk₁ (Hle.refl _)⟩
/-- what a table of one lambda's code may be -/
noncomputable def tkL (pos : Pos) (qual : Str) (P : PH) (o : Obj) : Prop := o = tabObj #[] ∨ ∃ c' oc vs t, o = tabObj #[rawInt pos.line, rawInt pos.col, .ref c'] ∧ P c' oc ∧ oc.data = .fields vs ∧ vs[1]? = some (.str qual t)
theorem tkL_mono {pos : Pos} {qual : Str} (P Q : PH) (o : Obj) (h : ∀ a o' vs, o'.data = .fields vs → P a o' → Q a o') (x : tkL pos qual P o) : tkL pos qual Q o := by
  rcases x with x | ⟨c', oc, vs, t, e, p, d, q⟩
  · exact .inl x
  · exact .inr ⟨c', oc, vs, t, e, h _ _ _ d p, d, q⟩
/-- a lambda is made -/
theorem mk_lam {T cc : Addr} {pos : Pos} {params : Arguments} {body : Expr} {scope : Scope} {env : Env} {clos : List (Str × Addr)} {X : Addr → Prop} {s : Shared} {A : Around} {E : Value → Shared → Prop} {Q : Value → Shared → Prop} (hT : C.T = [T]) (htk : C.tk = tkL pos (env.qual ++ "<lambda>")) (c : C.Ok s.heap)
    (hTk : ∀ a, a ∈ C.T → ∃ o, s.heap.get? a = some o ∧ o.cls = .none ∧ C.tk (rd (fun a => X a ∨ a ∈ C.T) s.heap) o) (iX : InH X s.heap) (hge0 : env.globals = mainGlobals) (hcode : env.code = .ref cc) (hCH : ∀ h : Heap, (∀ a o, C.base a o → h.get? a = some o) → CodeHd h cc T) (hcl : closureFor scope env = pure clos) (hdef : defaultsOf params env = ([], []))
    (hB : ∀ h : Heap, (∀ a o, C.base a o → h.get? a = some o) → h.BuiltinsAt C.mg T) (hgT : mainGlobals ≠ T)
    (h : ∀ f c' ctv s', Gr C X s s' → s.heap.get? f = none → s'.heap.get? f = some (kla_obj "<lambda>" (env.qual ++ "<lambda>") params body scope clos ((C.mg "__name__").getD .none) c' ctv) → s'.heap.CodeRec (.ref c') (env.qual ++ "<lambda>") → Q (.ref f) s') :
    wpAny C.M A (eval (.Lambda params body scope pos) env) Q E s := by
  refine kla_eval hdef ?_
  have hm : T ∈ C.T := by rw [hT]; exact .head _
  obtain ⟨o, ho, hcls, htb⟩ := hTk T hm
  rw [htk] at htb
  have inT : ∀ a, a ∈ C.T → a = T := fun a ha => by rw [hT] at ha; exact List.mem_singleton.mp ha
  rcases htb with rfl | ⟨c', oc, vs, t, rfl, p, d, q⟩
  · refine kla_makeFunction (ps := #[]) hcl hge0 (C.glob _ c.b) hcode (hCH _ c.b) ho trivial rfl hgT (hB _ c.b) fun c' ctv h' tk hx hge hlt hrec htb => ?_
    obtain ⟨c₂, oc, vs, t, e2, hoc, hd, hv⟩ := id hrec
    cases e2
    have hszT : T < s.heap.objs.size := Heap.lt_size ho
    refine h h'.objs.size c' ctv _ ⟨⟨_, rfl⟩, fun b o hb e => Heap.get?_push_of_some _ (hx b o (fun z => hb (z ▸ hm)) e), fun a ha => ?_⟩ ?_ (Heap.get?_push_size _ rfl) ⟨c', oc, vs, t, rfl, Heap.get?_push_of_some _ hoc, hd, hv⟩
    · obtain rfl := inT a ha
      refine ⟨_, Heap.get?_push_of_some _ htb, rfl, ?_⟩
      rw [htk]
      refine .inr ⟨c', oc, vs, t, rfl, ⟨Heap.get?_push_of_some _ hoc, fun z => ?_⟩, hd, hv⟩
      rcases z with z | z
      · obtain ⟨o', e'⟩ := iX c' z; rw [none_of_ge hge] at e'; cases e'
      · have h1 := inT c' z
        have h2 : s.heap.objs.size ≤ c' := hge
        rw [h1] at h2
        exact absurd (Heap.lt_size ho) (Nat.not_lt.mpr h2)
    · exact none_of_ge (by omega)
  · refine kla_makeFunctionHit (ps := #[rawInt pos.line, rawInt pos.col, .ref c']) (cv := .ref c') hcl hge0 (C.glob _ c.b) hcode (hCH _ c.b) ho trivial (by unfold rawInt; simp [codeAmong]) (hB _ c.b) fun ctv h' tk hk hsz => ?_
    refine h h'.objs.size c' ctv _ ⟨⟨_, rfl⟩, fun b o hb e => Heap.get?_push_of_some _ (hk b o e), fun a ha => ?_⟩ (none_of_ge hsz) (Heap.get?_push_size _ rfl) ⟨c', oc, vs, t, rfl, Heap.get?_push_of_some _ (hk _ _ p.1), d, q⟩
    · obtain rfl := inT a ha
      refine ⟨_, Heap.get?_push_of_some _ (hk _ _ ho), rfl, ?_⟩
      rw [htk]
      exact .inr ⟨c', oc, vs, t, rfl, ⟨Heap.get?_push_of_some _ (hk _ _ p.1), p.2⟩, d, q⟩
end
/-- the same world, no table of which may grow -/
noncomputable def Cx.noT (C : Cx) : Cx := { C with T := [], baseT := fun _ _ _ h => nomatch h }
theorem Cx.Ok.noT {C : Cx} {h : Heap} (c : C.Ok h) : C.noT.Ok h := ⟨c.b, fun _ h => nomatch h⟩
theorem GL.noT {C : Cx} {Kf : Frag} (gl : GL C Kf) : GL C.noT Kf := ⟨gl.K, gl.g, gl.gn, gl.b⟩
theorem PureFn.ofNoT {C : Cx} {k : Nat} {f : Value} {spec : List V → List (Str × V) → Option V} (h : PureFn C.noT k f spec) : PureFn C k f spec := fun A s X args kws rargs rkws v E R c => h A s X args kws rargs rkws v E R c.noT
end Mine
set_option Elab.async false
set_option linter.unusedVariables false
set_option maxRecDepth 100000
set_option maxHeartbeats 2000000
namespace Mine
open PySem PySem.W PyProof.Rows
noncomputable def iL (l : List Int) : List V := l.map .int
theorem frees_iL : ∀ l : List Int, V.frees (iL l) = true
  | [] => rfl
  | a :: r => by unfold iL; rw [List.map_cons]; unfold V.frees; rw [show V.free (.int a) = true from rfl]; exact frees_iL r
theorem iL_len (l : List Int) : (iL l).length = l.length := List.length_map _
theorem len_lst {xs : List V} (h : xs.length ≤ 1000000) : lenD [.lst xs] = some (.int xs.length) := if_pos (by omega)
theorem len_tup {xs : List V} (h : xs.length ≤ 1000000) : lenD [.tup xs] = some (.int xs.length) := if_pos (by omega)
theorem len_str {x : Str} (h : x.length ≤ 1000000) : lenD [.str x] = some (.int x.length) := if_pos (by omega)
theorem add_int (a b : Int) : binD .Add (.int a) (.int b) = some (.int (a + b)) := rfl
theorem sub_int (a b : Int) : binD .Sub (.int a) (.int b) = some (.int (a - b)) := rfl
theorem mul_int {a : Int} (b : Int) (h : smallI a = true) : binD .Mult (.int a) (.int b) = some (.int (a * b)) := if_pos h
theorem div_int (a : Int) {b : Int} (h : b ≠ 0 ∧ b.natAbs < 1073741824) : binD .FloorDiv (.int a) (.int b) = some (.int (a.fdiv b)) := if_pos h
theorem mod_int (a : Int) {b : Int} (h : b ≠ 0) : binD .Mod (.int a) (.int b) = some (.int (a.fmod b)) := if_pos h
theorem add_str {x y : Str} (h : x.length + y.length ≤ 1000000) : binD .Add (.str x) (.str y) = some (.str (x ++ y)) := if_pos (by omega)
theorem add_lst {xs ys : List V} (h : xs.length + ys.length ≤ 1000000) (h1 : V.frees xs = true) (h2 : V.frees ys = true) : binD .Add (.lst xs) (.lst ys) = some (.lst (xs ++ ys)) := if_pos ⟨by omega, h1, h2⟩
theorem mul_lst {xs : List V} {n : Int} (h : n < 1000 ∧ 0 ≤ n ∧ xs.length ≤ 1000 ∧ V.frees xs = true) : binD .Mult (.lst xs) (.int n) = some (.lst (List.replicate n.toNat xs).flatten) := if_pos h
theorem place_nat {n j : Nat} (h : j ≤ 1000000) : place n j = some j := by
  unfold place
  rw [if_pos (by omega), if_pos (by omega)]
  simp
theorem place_neg {n : Nat} {j : Int} (h : j < 0) (h1 : -(n : Int) ≤ j) (h2 : n ≤ 1000000) : place n j = some (j + n).toNat := by
  unfold place
  rw [if_neg (by omega), if_pos ⟨h1, by omega⟩]
theorem item_lst {xs : List V} {j : Nat} (h : j ≤ 1000000) : itemD (.lst xs) (.int j) = xs[j]? := by
  simp only [itemD, place_nat h, Option.bind_some]
theorem item_tup {xs : List V} {j : Nat} (h : j ≤ 1000000) : itemD (.tup xs) (.int j) = xs[j]? := by
  simp only [itemD, place_nat h, Option.bind_some]
theorem item_last {xs : List V} {v : V} (h : xs.length + 1 ≤ 1000000) : itemD (.lst (xs ++ [v])) (.int (-1)) = some v := by
  have hl : (xs ++ [v]).length = xs.length + 1 := by simp
  simp only [itemD]
  rw [place_neg (by omega) (by rw [hl]; omega) (by omega), hl]
  have : (-1 + ((xs.length + 1 : Nat) : Int)).toNat = xs.length := by omega
  rw [this]
  simp
theorem iL_get (l : List Int) (j : Nat) : (iL l)[j]? = (l[j]?).map .int := by unfold iL; rw [List.getElem?_map]
theorem fSeq_next {F G : Sg → Rs} {σ σ₁ : Sg} (h : F σ = some (.next, σ₁)) : fSeq F G σ = G σ₁ := by unfold fSeq; rw [h]; rfl
theorem fSeq_brk {F G : Sg → Rs} {σ σ₁ : Sg} (h : F σ = some (.brk, σ₁)) : fSeq F G σ = some (.brk, σ₁) := by unfold fSeq; rw [h]; rfl
theorem fSeq_ret {F G : Sg → Rs} {σ σ₁ : Sg} {v : V} (h : F σ = some (.ret v, σ₁)) : fSeq F G σ = some (.ret v, σ₁) := by unfold fSeq; rw [h]; rfl
theorem fIf_t {α : Type} {t : Sg → Option Bool} {f g : Sg → Option α} {σ : Sg} (h : t σ = some true) : fIf t f g σ = f σ := by unfold fIf; rw [h]; rfl
theorem fIf_f {α : Type} {t : Sg → Option Bool} {f g : Sg → Option α} {σ : Sg} (h : t σ = some false) : fIf t f g σ = g σ := by unfold fIf; rw [h]; rfl
theorem fSet_e {i : Nat} {f : Sg → Option V} {σ : Sg} {v : V} (h : f σ = some v) : fSet i f σ = some (.next, σ.set i (.val v)) := by unfold fSet; rw [h]; rfl
theorem fBin_e {op : Operator} {f g : Sg → Option V} {σ : Sg} {a b c : V} (h1 : f σ = some a) (h2 : g σ = some b) (h : binD op a b = some c) : fBin op f g σ = some c := by unfold fBin; rw [h1, h2]; exact h
theorem fCmp_e {op : CmpOp} {f g : Sg → Option V} {σ : Sg} {a b : V} {c : Bool} (h1 : f σ = some a) (h2 : g σ = some b) (h : cmpD op a b = some c) : fCmp op f g σ = some c := by unfold fCmp; rw [h1, h2]; exact h
theorem fItem_e {f g : Sg → Option V} {σ : Sg} {a b c : V} (h1 : f σ = some a) (h2 : g σ = some b) (h : itemD a b = some c) : fItem f g σ = some c := by unfold fItem; rw [h1, h2]; exact h
theorem fBi_e {spec : List V → Option V} {g : Sg → Option (List V)} {σ : Sg} {vs : List V} {c : V} (h1 : g σ = some vs) (h : spec vs = some c) : fBi spec g σ = some c := by unfold fBi; rw [h1]; exact h
theorem fCons_e {f : Sg → Option V} {g : Sg → Option (List V)} {σ : Sg} {v : V} {vs : List V} (h1 : f σ = some v) (h2 : g σ = some vs) : fCons f g σ = some (v :: vs) := by unfold fCons; rw [h1, h2]; rfl
theorem fNil_e {σ : Sg} : fNil' σ = some [] := rfl
theorem fLst_e {g : Sg → Option (List V)} {σ : Sg} {vs : List V} (h : g σ = some vs) : fLst g σ = some (.lst vs) := by unfold fLst; rw [h]; rfl
theorem fTup_e {g : Sg → Option (List V)} {σ : Sg} {vs : List V} (h : g σ = some vs) : fTup g σ = some (.tup vs) := by unfold fTup; rw [h]; rfl
theorem fOwn_e {i : Nat} {f : Sg → Option V} {σ : Sg} {xs : List V} (h : f σ = some (.lst xs)) (hf : V.frees xs = true) : fOwn i f σ = some (.next, σ.set i (.own xs)) := by unfold fOwn; rw [h]; exact if_pos hf
theorem fApp_e {i : Nat} {f : Sg → Option V} {σ : Sg} {xs : List V} {v : V} (h : f σ = some v) (ho : σ.own i = some xs) (hl : xs.length ≤ 10000) : fAppend i f σ = some (.next, σ.set i (.own (xs ++ [v]))) := by unfold fAppend; rw [h, ho]; exact if_pos hl
theorem fSetItem_e {i : Nat} {f g : Sg → Option V} {σ : Sg} {xs : List V} {v : V} {j : Nat} (h : f σ = some v) (ho : σ.own i = some xs) (hg : g σ = some (.int j)) (hj : j < xs.length) (hl : xs.length ≤ 10000) : fSetItem i f g σ = some (.next, σ.set i (.own (xs.set j v))) := by
  unfold fSetItem
  rw [h, ho, hg]
  show (if _ then _ else _) = _
  rw [if_pos ⟨by omega, by omega, hl⟩]
  simp
theorem fSeal_e {f : Sg → Option V} {σ : Sg} {v : V} (h : f σ = some v) (hf : v.free = true) : sealF f σ = some v := by unfold sealF; rw [h]; exact if_pos hf
theorem fCall_e {spec : List V → List (Str × V) → Option V} {g : Sg → Option (List V)} {σ : Sg} {vs : List V} {v : V} (h1 : g σ = some vs) (h : spec vs [] = some v) : fCall spec g fKwNil σ = some v := by unfold fCall fKwNil; rw [h1]; exact h
theorem fSlice_e {f a b c : Sg → Option V} {σ : Sg} {o x y z v : V} (h1 : f σ = some o) (h2 : a σ = some x) (h3 : b σ = some y) (h4 : c σ = some z) (h : sliceD o x y z = some v) : fSlice f a b c σ = some v := by unfold fSlice; rw [h1, h2, h3, h4]; exact h
theorem fRet_e {f : Sg → Option V} {σ : Sg} {v : V} (h : f σ = some v) : fRet f σ = some (.ret v, σ) := by unfold fRet; rw [h]; rfl
theorem fMeth_e {Cl : Addr} {name : Str} {spec : List V → List (Str × V) → Option V} {f : Sg → Option V} {g : Sg → Option (List V)} {σ : Sg} {u v : V} {vs : List V} (h1 : f σ = some u) (h2 : g σ = some vs) (h : methD Cl name spec u vs = some v) : fMeth Cl name spec f g σ = some v := by unfold fMeth; rw [h1, h2]; exact h
end Mine
set_option Elab.async false
set_option linter.unusedVariables false
set_option maxRecDepth 100000
set_option maxHeartbeats 2000000
namespace Mine
open PySem PySem.W PyProof.Rows
/-- the loop's body of Whitespace.__init__ -/
noncomputable def iGrow : Sg → Rs := (fIf (fCmp .GtE (fGet 5) (fBi lenD (fCons (fGet 4) fNil'))) (fSeq (fOwn 4 (fBin .Add (fGet 4) (fBin .Mult (fLst (fCons (fV (.int 0)) fNil')) (fBin .Add (fBin .Sub (fGet 5) (fBi lenD (fCons (fGet 4) fNil'))) (fV (.int 1)))))) fNil) fNil)
noncomputable def iBump : Sg → Rs := (fSetItem 4 (fBin .Add (fItem (fGet 4) (fGet 5)) (fV (.int 1))) (fGet 5))
noncomputable def initBody : Sg → Rs := (fSeq (fIf (fCmp .Eq (fGet 8) (fGet 2)) (fSeq (fSet 6 (fBin .Add (fGet 6) (fV (.int 1)))) (fSeq (fSet 5 (fBin .Add (fGet 5) (fV (.int 1)))) fNil)) (fSeq (fIf (fCmp .Eq (fGet 8) (fGet 3)) (fSeq (fSet 6 (fBin .Add (fGet 6) (fV (.int 1)))) (fSeq (fSet 7 (fBin .Add (fGet 7) (fV (.int 1)))) (fSeq iGrow (fSeq iBump (fSeq (fSet 5 (fV (.int 0))) fNil))))) (fSeq fBrk fNil)) fNil)) fNil)
noncomputable def initF : Addr → Sg → Fs → Option (Sg × Fs) := (fISet 0 (Str.ofString "raw") (fGet 1) (fIMid (fun x fs => (fSwap 2 3 (fTup (fCons (fV (.str (Str.ofString " "))) (fCons (fV (.str (Str.ofString "\t"))) fNil'))))) (fIMid (fun x fs => (fOwn 4 (fLst fNil'))) (fIMid (fun x fs => (fThree 5 6 7 (fV (.int 0)))) (fIMid (fun x fs => (fForS sp1 1 [8] (fIt (fSelf 0 (Str.ofString "raw") x fs)) initBody)) (fISet 0 (Str.ofString "n") (fGet 6) (fISet 0 (Str.ofString "nt") (fGet 7) (fISet 0 (Str.ofString "norm") (fTup (fCons (fBi tupleD (fCons (fGet 4) fNil')) (fCons (sealF (fGet 5)) fNil'))) (fISet 0 (Str.ofString "is_simple") (fCmpV .LtE (fBi lenD (fCons (fGet 4) fNil')) (fV (.int 1))) (fun _ σ fs => some (σ, fs)))))))))))
noncomputable def wide (c : List Int) (b : Nat) : List Int := if c.length ≤ b then c ++ List.replicate (b - c.length + 1) 0 else c
noncomputable def bump (c : List Int) (b : Nat) : List Int := (wide c b).set b ((wide c b).getD b 0 + 1)
theorem wide_len (c : List Int) (b : Nat) : b < (wide c b).length ∧ (wide c b).length ≤ max c.length (b + 1) := by
  unfold wide
  split
  · simp; omega
  · omega
noncomputable def wsRun : List Nat → List Int → Nat → Nat → Nat → List Int × Nat × Nat × Nat
  | [], c, b, n, t => (c, b, n, t)
  | ch :: r, c, b, n, t => if ch = 32 then wsRun r c (b + 1) (n + 1) t else if ch = 9 then wsRun r (bump c b) 0 (n + 1) (t + 1) else (c, b, n, t)
noncomputable def iSt (x : Addr) (ws : Str) (c : List Int) (b n t : Nat) (ch : Slot) : Sg := [.val (.raw (.ref x)), .val (.str ws), .val (.str ⟨#[32]⟩), .val (.str ⟨#[9]⟩), .own (iL c), .val (.int b), .val (.int n), .val (.int t), ch]
theorem eS : Str.ofString " " = ⟨#[32]⟩ := by decide +kernel
theorem eT : Str.ofString "\t" = ⟨#[9]⟩ := by decide +kernel
theorem body_S (x : Addr) (ws : Str) (c : List Int) (b n t : Nat) : initBody (iSt x ws c b n t (.val (.str ⟨#[32]⟩))) = some (.next, iSt x ws c (b + 1) (n + 1) t (.val (.str ⟨#[32]⟩))) := rfl
theorem body_X (x : Addr) (ws : Str) (c : List Int) (b n t ch : Nat) (h1 : ch ≠ 32) (h2 : ch ≠ 9) : initBody (iSt x ws c b n t (.val (.str ⟨#[ch]⟩))) = some (.brk, iSt x ws c b n t (.val (.str ⟨#[ch]⟩))) := by
  have e1 : cmpD .Eq (.str ⟨#[ch]⟩) (.str ⟨#[32]⟩) = some false := by unfold cmpD; simp [h1]
  have e2 : cmpD .Eq (.str ⟨#[ch]⟩) (.str ⟨#[9]⟩) = some false := by unfold cmpD; simp [h2]
  unfold initBody
  refine fSeq_brk ?_
  rw [fIf_f (fCmp_e rfl rfl e1)]
  refine fSeq_brk ?_
  rw [fIf_f (fCmp_e rfl rfl e2)]
  rfl
theorem body_T (x : Addr) (ws : Str) (c : List Int) (b n t : Nat) (hc : c.length ≤ 600) (hb : b ≤ 500) : initBody (iSt x ws c b n t (.val (.str ⟨#[9]⟩))) = some (.next, iSt x ws (bump c b) 0 (n + 1) (t + 1) (.val (.str ⟨#[9]⟩))) := by
  have hw := wide_len c b
  have e3 : ∀ n t, fBi lenD (fCons (fGet 4) fNil') (iSt x ws c b n t (.val (.str ⟨#[9]⟩))) = some (.int c.length) := fun n t => fBi_e (fCons_e rfl rfl) (by rw [len_lst (by rw [iL_len]; omega), iL_len])
  have g1 : iGrow (iSt x ws c b (n + 1) (t + 1) (.val (.str ⟨#[9]⟩))) = some (.next, iSt x ws (wide c b) b (n + 1) (t + 1) (.val (.str ⟨#[9]⟩))) := by
    unfold iGrow
    by_cases h : c.length ≤ b
    · rw [fIf_t (fCmp_e (a := .int b) rfl (e3 _ _) (by simp [cmpD]; omega))]
      have e4 : binD .Mult (.lst [.int 0]) (.int ((b : Int) - c.length + 1)) = some (.lst (iL (List.replicate (b - c.length + 1) 0))) := by
        rw [mul_lst ⟨by omega, by omega, by decide, rfl⟩]
        have : ((b : Int) - c.length + 1).toNat = b - c.length + 1 := by omega
        rw [this]
        unfold iL
        rw [List.map_replicate]
        congr 2
        generalize b - c.length + 1 = m
        induction m with
        | zero => rfl
        | succ m ih => rw [List.replicate_succ, List.flatten_cons, ih]; rfl
      refine fSeq_next (fOwn_e (xs := iL (wide c b)) (fBin_e (a := .lst (iL c)) rfl (fBin_e (fLst_e (fCons_e rfl rfl)) (fBin_e (fBin_e (a := .int b) rfl (e3 _ _) rfl) rfl rfl) e4) ?_) (frees_iL _))
      rw [add_lst (by rw [iL_len, iL_len, List.length_replicate]; omega) (frees_iL _) (frees_iL _)]
      unfold wide
      rw [if_pos h]
      unfold iL
      rw [List.map_append]
    · rw [fIf_f (fCmp_e (a := .int b) rfl (e3 _ _) (by simp [cmpD]; omega))]
      have : wide c b = c := by unfold wide; rw [if_neg h]
      rw [this]
      rfl
  have g2 : iBump (iSt x ws (wide c b) b (n + 1) (t + 1) (.val (.str ⟨#[9]⟩))) = some (.next, iSt x ws (bump c b) b (n + 1) (t + 1) (.val (.str ⟨#[9]⟩))) := by
    have e4 : itemD (.lst (iL (wide c b))) (.int b) = some (.int ((wide c b).getD b 0)) := by
      rw [item_lst (by omega), iL_get, List.getElem?_eq_getElem hw.1, List.getD_eq_getElem?_getD, List.getElem?_eq_getElem hw.1]
      rfl
    unfold iBump
    rw [fSetItem_e (xs := iL (wide c b)) (j := b) (fBin_e (fItem_e (a := .lst (iL (wide c b))) (b := .int b) rfl rfl e4) rfl (add_int _ _)) rfl rfl (by rw [iL_len]; exact hw.1) (by rw [iL_len]; omega)]
    have : (iL (wide c b)).set b (.int ((wide c b).getD b 0 + 1)) = iL (bump c b) := by unfold bump iL; rw [List.map_set]
    rw [this]
    rfl
  unfold initBody
  refine fSeq_next ?_
  rw [fIf_f (fCmp_e (a := .str ⟨#[9]⟩) (b := .str ⟨#[32]⟩) rfl rfl rfl)]
  refine (fSeq_next (σ₁ := iSt x ws (bump c b) 0 (n + 1) (t + 1) (.val (.str ⟨#[9]⟩))) ?_).trans rfl
  rw [fIf_t (fCmp_e (a := .str ⟨#[9]⟩) (b := .str ⟨#[9]⟩) rfl rfl rfl)]
  refine (fSeq_next (σ₁ := iSt x ws c b (n + 1) t (.val (.str ⟨#[9]⟩))) rfl).trans ?_
  refine (fSeq_next (σ₁ := iSt x ws c b (n + 1) (t + 1) (.val (.str ⟨#[9]⟩))) rfl).trans ?_
  exact (fSeq_next g1).trans ((fSeq_next g2).trans rfl)
theorem bump_len (c : List Int) (b : Nat) : (bump c b).length ≤ max c.length (b + 1) := by unfold bump; rw [List.length_set]; exact (wide_len c b).2
theorem loop_ws (x : Addr) (ws : Str) : ∀ (l : List Nat) (c : List Int) (b n t : Nat) (ch : Slot), c.length ≤ 500 → b + l.length ≤ 490 →
    ∃ ch', fFor (fSp sp1 1 [8]) initBody (l.map fun c => .str ⟨#[c]⟩) (iSt x ws c b n t ch) = some (.next, iSt x ws (wsRun l c b n t).1 (wsRun l c b n t).2.1 (wsRun l c b n t).2.2.1 (wsRun l c b n t).2.2.2 ch')
  | [], c, b, n, t, ch, _, _ => ⟨ch, rfl⟩
  | a :: l, c, b, n, t, ch, hc, hb => by
    rw [List.length_cons] at hb
    have e0 : fSp sp1 1 [8] (.str ⟨#[a]⟩) (iSt x ws c b n t ch) = some (iSt x ws c b n t (.val (.str ⟨#[a]⟩))) := rfl
    rw [List.map_cons]
    unfold fFor
    rw [e0]
    simp only [Option.bind_some]
    unfold wsRun
    by_cases h1 : a = 32
    · subst h1
      rw [body_S]
      simp only [Option.bind_some, if_true]
      exact loop_ws x ws l c (b + 1) (n + 1) t _ hc (by omega)
    · rw [if_neg h1]
      by_cases h2 : a = 9
      · subst h2
        rw [body_T x ws c b n t (by omega) (by omega)]
        simp only [Option.bind_some, if_true]
        exact loop_ws x ws l (bump c b) 0 (n + 1) (t + 1) _ (by have := bump_len c b; omega) (by omega)
      · rw [if_neg h2, body_X x ws c b n t a h1 h2]
        exact ⟨_, rfl⟩
noncomputable def wsFs (ws : Str) : Fs :=
  let r := wsRun ws.cps.toList [] 0 0 0
  [(Str.ofString "raw", .str ws), (Str.ofString "n", .int r.2.2.1), (Str.ofString "nt", .int r.2.2.2), (Str.ofString "norm", .tup [.tup (iL r.1), .int r.2.1]), (Str.ofString "is_simple", .bool (decide (r.1.length ≤ 1)))]
theorem wsRun_len : ∀ (l : List Nat) (c : List Int) (b n t : Nat), c.length ≤ 500 → b + l.length ≤ 490 → (wsRun l c b n t).1.length ≤ 500
  | [], c, b, n, t, hc, _ => hc
  | a :: l, c, b, n, t, hc, hb => by
    rw [List.length_cons] at hb
    unfold wsRun
    split
    · exact wsRun_len l c _ _ _ hc (by omega)
    · split
      · exact wsRun_len l _ _ _ _ (by have := bump_len c b; omega) (by omega)
      · exact hc
theorem init_ws (x : Addr) (ws : Str) (h : ws.length ≤ 400) : ∃ σ', initF x [.val (.raw (.ref x)), .val (.str ws), .unset, .unset, .unset, .unset, .unset, .unset, .unset] [] = some (σ', wsFs ws) := by
  have hl : ws.cps.toList.length ≤ 400 := by rw [Array.length_toList]; exact h
  obtain ⟨ch', lp⟩ := loop_ws x ws ws.cps.toList [] 0 0 0 .unset (by simp) (by omega)
  have hr := wsRun_len ws.cps.toList [] 0 0 0 (by simp) (by omega)
  refine ⟨iSt x ws (wsRun ws.cps.toList [] 0 0 0).1 (wsRun ws.cps.toList [] 0 0 0).2.1 (wsRun ws.cps.toList [] 0 0 0).2.2.1 (wsRun ws.cps.toList [] 0 0 0).2.2.2 ch', ?_⟩
  unfold wsFs
  generalize wsRun ws.cps.toList [] 0 0 0 = r at lp hr ⊢
  obtain ⟨c, b, n, t⟩ := r
  dsimp only at lp hr ⊢
  unfold initF
  rw [eS, eT]
  have s1 : ∀ (attr : Str) (f : Sg → Option V) (F : Addr → Sg → Fs → Option (Sg × Fs)) (σ : Sg) (fs : Fs) (v : V), f σ = some v → σ.get 0 = some (.raw (.ref x)) → fs.lookup attr = none → fs.length ≤ 50 → v.free = true → fISet 0 attr f F x σ fs = F x σ (fs ++ [(attr, v)]) := fun attr f F σ fs v h1 h2 h3 h4 h5 => by
    unfold fISet
    rw [h1, h2]
    show (if _ then _ else _) = _
    rw [if_pos ⟨rfl, h3, h4, h5⟩]
  have s2 : ∀ (F₁ : Addr → Fs → Sg → Rs) (F : Addr → Sg → Fs → Option (Sg × Fs)) (σ σ' : Sg) (fs : Fs), F₁ x fs σ = some (.next, σ') → fIMid F₁ F x σ fs = F x σ' fs := fun F₁ F σ σ' fs h => by
    unfold fIMid; rw [h]; rfl
  rw [s1 _ _ _ _ _ (.str ws) rfl rfl rfl (by decide) rfl]
  rw [s2 _ _ _ [.val (.raw (.ref x)), .val (.str ws), .val (.str ⟨#[32]⟩), .val (.str ⟨#[9]⟩), .unset, .unset, .unset, .unset, .unset] _ rfl]
  rw [s2 _ _ _ [.val (.raw (.ref x)), .val (.str ws), .val (.str ⟨#[32]⟩), .val (.str ⟨#[9]⟩), .own [], .unset, .unset, .unset, .unset] _ rfl]
  rw [s2 _ _ _ (iSt x ws [] 0 0 0 .unset) _ rfl]
  rw [s2 _ _ _ (iSt x ws c b n t ch') _ ?lp]
  case lp =>
    unfold fForS
    have e : fIt (fSelf 0 (Str.ofString "raw") x ([] ++ [(Str.ofString "raw", .str ws)])) (iSt x ws [] 0 0 0 .unset).hide = some (chrs ws) := by
      unfold fIt fSelf
      have e1 : (iSt x ws [] 0 0 0 .unset).hide.get 0 = some (.raw (.ref x)) := rfl
      have e2 : ([] ++ [(Str.ofString "raw", V.str ws)]).lookup (Str.ofString "raw") = some (.str ws) := rfl
      rw [e1]
      simp only [Option.bind_some, e2]
      simp [iterD]
    rw [e]
    exact lp
  rw [s1 _ _ _ _ _ (.int n) rfl rfl rfl (by simp) rfl]
  rw [s1 _ _ _ _ _ (.int t) rfl rfl rfl (by simp) rfl]
  rw [s1 _ _ _ _ _ (.tup [.tup (iL c), .int b]) ?a rfl rfl (by simp) ?b]
  rw [s1 _ _ _ _ _ (.bool (decide (c.length ≤ 1))) ?c rfl rfl (by simp) rfl]
  · rfl
  case a =>
    refine fTup_e (fCons_e (fBi_e (fCons_e (v := .lst (iL c)) rfl rfl) (if_pos ⟨by rw [iL_len]; omega, frees_iL _⟩)) (fCons_e (fSeal_e (v := .int b) rfl rfl) rfl))
  case b =>
    show (V.frees (iL c) && _) = true
    rw [frees_iL]; rfl
  case c =>
    unfold fCmpV
    rw [fCmp_e (a := .int c.length) (b := .int 1) (c := decide (c.length ≤ 1)) (fBi_e (fCons_e (v := .lst (iL c)) rfl rfl) (by rw [len_lst (by rw [iL_len]; omega), iL_len])) rfl ?_]
    · rfl
    · simp [cmpD]; omega
end Mine
set_option Elab.async false
set_option linter.unusedVariables false
set_option maxRecDepth 100000
set_option maxHeartbeats 2000000
namespace Mine
open PySem PySem.W PyProof.Rows
/-- halving -/
theorem bis_loop {t : Sg → Option Bool} {body : Sg → Rs} {S : Nat → Nat → Slot → Sg} {p : Nat → Bool} {lo0 hi0 r : Nat} (ht : ∀ lo hi m, t (S lo hi m) = some (decide (lo < hi)))
    (hb : ∀ lo hi m, lo0 ≤ lo → lo < hi → hi ≤ hi0 → ∃ m', body (S lo hi m) = some (.next, if p ((lo + hi) / 2) then S ((lo + hi) / 2 + 1) hi m' else S lo ((lo + hi) / 2) m'))
    (hp : ∀ j, lo0 ≤ j → j < hi0 → p j = decide (j < r)) : ∀ (n lo hi : Nat) (m : Slot), hi - lo < n → lo0 ≤ lo → lo ≤ r → r ≤ hi → hi ≤ hi0 → ∃ m', fWhile t body n (S lo hi m) = some (.next, S r r m')
  | 0, lo, hi, m, h, _, _, _, _ => absurd h (Nat.not_lt_zero _)
  | n + 1, lo, hi, m, h, h0, h1, h2, h3 => by
    unfold fWhile
    rw [ht]
    by_cases hl : lo < hi
    · obtain ⟨m', e⟩ := hb lo hi m h0 hl h3
      rw [decide_eq_true hl]
      simp only [Option.bind_some, if_true, e]
      have hm : (lo + hi) / 2 < hi := by omega
      have hm' : lo ≤ (lo + hi) / 2 := by omega
      rw [hp _ (by omega) (by omega)]
      by_cases hr : (lo + hi) / 2 < r
      · rw [decide_eq_true hr, if_pos rfl]
        exact bis_loop ht hb hp n _ hi m' (by omega) (by omega) (by omega) h2 h3
      · rw [decide_eq_false hr, if_neg Bool.false_ne_true]
        exact bis_loop ht hb hp n lo _ m' (by omega) h0 h1 (by omega) (by omega)
    · rw [decide_eq_false hl]
      have : lo = r := by omega
      have h' : hi = r := by omega
      subst this; subst h'
      exact ⟨m, rfl⟩
theorem mid_e {lo hi : Nat} : ((lo : Int) + (hi : Int)).fdiv 2 = (((lo + hi) / 2 : Nat) : Int) := by
  rw [Int.fdiv_eq_ediv_of_nonneg _ (by decide)]
  omega
/-- a for whose body goes on -/
theorem fFor_inv {set : V → Sg → Option Sg} {F : Sg → Rs} (I : Nat → Sg → Prop) : ∀ (vs : List V) (i : Nat) (σ : Sg), I i σ → (∀ j v σ, vs[j]? = some v → I (i + j) σ → ∃ σ₁ σ₂, set v σ = some σ₁ ∧ F σ₁ = some (.next, σ₂) ∧ I (i + j + 1) σ₂) →
    ∃ σ', fFor set F vs σ = some (.next, σ') ∧ I (i + vs.length) σ'
  | [], i, σ, h, _ => ⟨σ, rfl, h⟩
  | v :: vs, i, σ, h, hs => by
    obtain ⟨σ₁, σ₂, e1, e2, h2⟩ := hs 0 v σ rfl h
    obtain ⟨σ', e, h'⟩ := fFor_inv I vs (i + 1) σ₂ h2 fun j u τ hu hI => by
      have := hs (j + 1) u τ hu (by rw [show i + (j + 1) = i + 1 + j by omega]; exact hI)
      rw [show i + (j + 1) = i + 1 + j by omega] at this
      exact this
    refine ⟨σ', ?_, by rw [List.length_cons, show i + (vs.length + 1) = i + 1 + vs.length by omega]; exact h'⟩
    unfold fFor
    rw [e1]
    simp only [Option.bind_some, e2]
    exact e
theorem compGo_map {sp : V → Option (List V)} {n : Nat} {f : Sg → Option V} {cs : List V} {α : Type} {inj : α → V} {us : α → List V} {g : α → V} : ∀ (xs : List α), (∀ x ∈ xs, sp (inj x) = some (us x)) → (∀ x ∈ xs, (us x).length = n) → (∀ x ∈ xs, f ((us x ++ cs).map .val) = some (g x)) →
    fCompGo sp n tTrue f cs (xs.map inj) = some (xs.map g)
  | [], _, _, _ => rfl
  | x :: xs, h1, h2, h3 => by
    rw [List.map_cons]
    unfold fCompGo
    rw [h1 x (.head _)]
    simp only [Option.bind_some]
    rw [if_pos (h2 x (.head _)), h3 x (.head _)]
    unfold tTrue
    simp only [Option.bind_some, if_true]
    rw [show (fun _ => some true) = tTrue from rfl, compGo_map xs (fun y hy => h1 y (.tail _ hy)) (fun y hy => h2 y (.tail _ hy)) (fun y hy => h3 y (.tail _ hy))]
    rfl
theorem compGo_filter {sp : V → Option (List V)} {n : Nat} {t : Sg → Option Bool} {f : Sg → Option V} {cs : List V} {α : Type} {inj : α → V} {us : α → List V} {p : α → Bool} {g : α → V} : ∀ (xs : List α), (∀ x ∈ xs, sp (inj x) = some (us x)) → (∀ x ∈ xs, (us x).length = n) →
    (∀ x ∈ xs, t ((us x ++ cs).map .val) = some (p x)) → (∀ x ∈ xs, p x = true → f ((us x ++ cs).map .val) = some (g x)) → fCompGo sp n t f cs (xs.map inj) = some ((xs.filter p).map g)
  | [], _, _, _, _ => rfl
  | x :: xs, h1, h2, h3, h4 => by
    rw [List.map_cons]
    unfold fCompGo
    rw [h1 x (.head _)]
    simp only [Option.bind_some]
    rw [if_pos (h2 x (.head _)), h3 x (.head _)]
    simp only [Option.bind_some]
    rw [compGo_filter xs (fun y hy => h1 y (.tail _ hy)) (fun y hy => h2 y (.tail _ hy)) (fun y hy => h3 y (.tail _ hy)) (fun y hy => h4 y (.tail _ hy))]
    by_cases hp : p x = true
    · rw [hp, if_pos rfl, h4 x (.head _) hp, List.filter_cons_of_pos hp]; rfl
    · rw [Bool.not_eq_true _ |>.mp hp, if_neg Bool.false_ne_true, List.filter_cons_of_neg hp]
theorem fComp_e {fi : Sg → Option (List V)} {sp : V → Option (List V)} {n : Nat} {t : Sg → Option Bool} {f : Sg → Option V} {caps : List Nat} {σ : Sg} {xs cs ys : List V} (h1 : fi σ = some xs) (h2 : capsGet σ caps = some cs) (h3 : xs.length ≤ 100000) (h4 : fCompGo sp n t f cs xs = some ys) :
    fComp fi sp n t f caps σ = some (.lst ys) := by
  unfold fComp
  rw [h1, h2]
  show (if _ then _ else _) = _
  rw [if_pos h3, h4]
  rfl
theorem fForS_e {sp : V → Option (List V)} {n : Nat} {is : List Nat} {f : Sg → Option (List V)} {F : Sg → Rs} {σ : Sg} {vs : List V} (h : f σ.hide = some vs) : fForS sp n is f F σ = fFor (fSp sp n is) F vs σ := by unfold fForS; rw [h]; rfl
theorem fIt_e {f : Sg → Option V} {σ : Sg} {v : V} {xs : List V} (h : f σ = some v) (h' : iterD v = some xs) : fIt f σ = some xs := by unfold fIt; rw [h]; exact h'
theorem small_nat {n : Nat} (h : n ≤ 1000000) : smallI (n : Int) = true := by simp only [smallI, Bool.and_eq_true, decide_eq_true_eq]; omega
theorem iter_rng {n : Nat} (h : n ≤ 1000000) : iterD (.rng 0 n 1) = some ((List.range n).map fun i => .int (i : Nat)) := by
  have h0 : smallI 0 = true := by decide
  simp [iterD, upTo, h0, small_nat h]
theorem datPairs (l : List (Int × Int)) (n : Nat) : V.dats (n + 1) (l.map fun x => .tup [.int x.1, .int x.2]) = some (l.map fun x => .tuple [.int x.1, .int x.2]) := by
  induction l with
  | nil => rfl
  | cons x l ih =>
    rw [List.map_cons]
    unfold V.dats
    rw [ih]
    rfl
theorem eqD_refl {v : V} {d : PyData} (h : V.dat 6 v = some d) : eqD v v = some true := by
  unfold eqD
  rw [h]
  simp only [Option.bind_some, Option.map_some]
  rw [PySem.SeqAt.eqv_refl d (dat_ok 6 v d h).1]
theorem eqD_pairs (l : List (Int × Int)) : eqD (.lst (l.map fun x => .tup [.int x.1, .int x.2])) (.lst (l.map fun x => .tup [.int x.1, .int x.2])) = some true := by
  refine eqD_refl (d := .list (l.map fun x => .tuple [.int x.1, .int x.2])) ?_
  unfold V.dat
  rw [datPairs]
  rfl
end Mine
set_option Elab.async false
set_option linter.unusedVariables false
set_option maxRecDepth 100000
set_option maxHeartbeats 2000000
namespace Mine
open PySem PySem.W PyProof.Rows
theorem str_appL (a b : Str) : (a ++ b).cps.toList = a.cps.toList ++ b.cps.toList := by
  show (a.cps ++ b.cps).toList = _
  rw [Array.toList_append]
noncomputable def toL (ps : List Str) : List Nat := (catAll ps).cps.toList
theorem toL_nil : toL [] = [] := rfl
theorem toL_cons (a : Str) (r : List Str) : toL (a :: r) = a.cps.toList ++ toL r := str_appL _ _
theorem extr (x : Array Nat) (a b : Nat) : (x.extract a b).toList = (x.toList.drop a).take (b - a) := by simp [Array.toList_extract, List.extract]
structure Finds1 (x : Str) (hit : Nat → Bool) (e : Nat → Nat) (find : Nat → Option (Nat × Nat)) : Prop where
  done : ∀ st, x.cps.size ≤ st → find st = none
  step : ∀ st, st < x.cps.size → find st = if hit st then some (st, e st) else find (st + 1)
  le : ∀ st b c, find st = some (b, c) → st ≤ b ∧ b < x.cps.size
section
variable {x R : Str} {hit : Nat → Bool} {e : Nat → Nat} {find : Nat → Option (Nat × Nat)}
theorem pieces_end (F : Finds1 x hit e find) {f st : Nat} (h : x.cps.size ≤ st) : toL (pieces find x R (f + 1) st) = [] := by
  unfold pieces
  rw [F.done st h]
  dsimp only
  rw [if_neg (by omega)]
  rfl
theorem pieces_hit (F : Finds1 x hit e find) {f st : Nat} (h : st < x.cps.size) (hh : hit st = true) : toL (pieces find x R (f + 1) st) = R.cps.toList ++ toL (pieces find x R f (e st)) := by
  conv => lhs; unfold pieces
  rw [F.step st h, hh, if_pos rfl]
  dsimp only
  rw [if_neg (by omega), List.nil_append, toL_cons]
theorem drop_get {l : List Nat} {st : Nat} (h : st < l.length) : l.drop st = l.getD st 0 :: l.drop (st + 1) := by
  rw [List.drop_eq_getElem_cons h]
  congr 1
  rw [List.getD_eq_getElem?_getD, List.getElem?_eq_getElem h]; rfl
theorem pieces_char (F : Finds1 x hit e find) {f st : Nat} (h : st < x.cps.size) (hh : hit st = false) : toL (pieces find x R (f + 1) st) = x.cps.toList.getD st 0 :: toL (pieces find x R (f + 1) (st + 1)) := by
  have hl : st < x.cps.toList.length := by simpa using h
  unfold pieces
  rw [F.step st h, hh, if_neg Bool.false_ne_true]
  cases q : find (st + 1) with
  | none =>
    dsimp only
    rw [if_pos h, toL_cons, toL_nil, List.append_nil, extr, drop_get hl]
    rw [List.take_of_length_le (by simp; omega)]
    by_cases h2 : st + 1 < x.cps.size
    · rw [if_pos h2, toL_cons, toL_nil, List.append_nil, extr, List.take_of_length_le (by simp)]
    · rw [if_neg h2, List.drop_of_length_le (by simp; omega)]
      rfl
  | some be =>
    obtain ⟨b, c⟩ := be
    have hb := (F.le _ _ _ q).1
    dsimp only
    rw [if_pos (by omega)]
    by_cases h2 : st + 1 < b
    · rw [if_pos h2]
      rw [List.cons_append, List.nil_append, toL_cons, List.cons_append, List.nil_append, toL_cons (⟨x.cps.extract (st + 1) b⟩ : Str), extr, extr, drop_get hl, show b - st = (b - (st + 1)) + 1 by omega, List.take_succ_cons]
      rfl
    · rw [if_neg h2]
      have : b = st + 1 := by omega
      subst this
      rw [List.cons_append, List.nil_append, toL_cons, extr, drop_get hl, show st + 1 - st = 0 + 1 by omega, List.take_succ_cons]
      rfl
end
theorem find2_le (x : Array Nat) : ∀ n s b, find2 x n s = some b → s ≤ b ∧ b < x.size
  | 0, s, b, h => by cases h
  | n + 1, s, b, h => by
    unfold find2 at h
    split at h
    · rename_i hc
      cases h
      rw [Bool.and_eq_true, decide_eq_true_eq] at hc
      exact ⟨Nat.le_refl _, hc.1⟩
    · have := find2_le x n _ b h
      exact ⟨by omega, this.2⟩
theorem fi2 (x : Str) : Finds1 x (fun s => isNl (x.cps.getD s 0)) (fun s => s + nl x.cps s) (f2 x.cps) where
  done := fun st h => by
    unfold f2
    rw [show x.cps.size - st + 1 = 1 by omega]
    unfold find2
    rw [decide_eq_false (by omega)]
    rfl
  step := fun st h => by
    unfold f2
    conv => lhs; unfold find2
    rw [show x.cps.size - (st + 1) + 1 = x.cps.size - st by omega]
    have hc : (decide (st < x.cps.size) && isNl (x.cps.getD st 0)) = isNl (x.cps.getD st 0) := by
      generalize isNl (x.cps.getD st 0) = b
      rw [decide_eq_true h]; cases b <;> rfl
    rw [hc]
    cases isNl (x.cps.getD st 0) <;> rfl
  le := fun st b c h => by
    unfold f2 at h
    obtain ⟨p, hp, e⟩ := Option.map_eq_some_iff.mp h
    cases e
    exact find2_le _ _ _ _ hp
theorem find1_le (x : Array Nat) : ∀ n s b, find1 x n s = some b → s ≤ b ∧ b < x.size
  | 0, s, b, h => by cases h
  | n + 1, s, b, h => by
    unfold find1 at h
    split at h
    · rename_i hc
      cases h
      unfold hit1 at hc
      rw [Bool.and_eq_true, Bool.and_eq_true, decide_eq_true_eq] at hc
      exact ⟨Nat.le_refl _, hc.1.1⟩
    · have := find1_le x n _ b h
      exact ⟨by omega, this.2⟩
theorem fi1 (x : Str) : Finds1 x (fun s => hit1 x.cps s) (fun s => s + 1) (f1 x.cps) where
  done := fun st h => by
    unfold f1
    rw [show x.cps.size - st + 1 = 1 by omega]
    unfold find1 hit1
    rw [decide_eq_false (by omega)]
    rfl
  step := fun st h => by
    unfold f1
    conv => lhs; unfold find1
    split
    · rfl
    · rw [show x.cps.size - (st + 1) + 1 = x.cps.size - st by omega]
  le := fun st b c h => by
    unfold f1 at h
    obtain ⟨p, hp, e⟩ := Option.map_eq_some_iff.mp h
    cases e
    exact find1_le _ _ _ _ hp
/-- line ends made whole; p: behind a return -/
noncomputable def nrm : Bool → List Nat → List Nat
  | _, [] => []
  | p, c :: r => if c = 10 then (if p then nrm false r else 13 :: 10 :: nrm false r) else if c = 13 then 13 :: 10 :: nrm true r else c :: nrm false r
/-- dots at a line's start doubled; p: at a line's start -/
noncomputable def dot : Bool → List Nat → List Nat
  | _, [] => []
  | p, c :: r => if c = 46 ∧ p = true then 46 :: 46 :: dot false r else c :: dot (c == 10) r
theorem getD_l (x : Array Nat) (s : Nat) : x.getD s 0 = x.toList.getD s 0 := by
  rw [Array.getD_eq_getD_getElem?, List.getD_eq_getElem?_getD, Array.getElem?_toList]
theorem nrm_tf {r : List Nat} (h : r.getD 0 0 ≠ 10) : nrm true r = nrm false r := by
  cases r with
  | nil => rfl
  | cons c r =>
    have hc : ¬ c = 10 := h
    simp only [nrm, if_neg hc]
theorem nrm_10 (p : Bool) (r : List Nat) : nrm p (10 :: r) = if p then nrm false r else 13 :: 10 :: nrm false r := rfl
theorem nrm_13 (p : Bool) (r : List Nat) : nrm p (13 :: r) = 13 :: 10 :: nrm true r := rfl
theorem nrm_ch {c : Nat} (p : Bool) (r : List Nat) (h : c ≠ 10) (h' : c ≠ 13) : nrm p (c :: r) = c :: nrm false r := by simp only [nrm, if_neg h, if_neg h']
theorem nl_pos (t : Array Nat) (s : Nat) : 1 ≤ nl t s := by
  unfold nl
  by_cases hq : t.getD s 0 = 13 ∧ s + 1 < t.size ∧ t.getD (s + 1) 0 = 10
  · rw [if_pos hq]; decide
  · rw [if_neg hq]; decide
theorem pieces_nrm (x : Str) : ∀ (k st f : Nat), x.cps.size - st ≤ k → k < f → toL (pieces (f2 x.cps) x ⟨#[13, 10]⟩ f st) = nrm false (x.cps.toList.drop st)
  | k, st, 0, _, h => absurd h (Nat.not_lt_zero _)
  | 0, st, f + 1, h, _ => by rw [pieces_end (fi2 x) (by omega), List.drop_of_length_le (by simp; omega)]; rfl
  | k + 1, st, f + 1, h, hf => by
    by_cases hs : st < x.cps.size
    rotate_left
    · rw [pieces_end (fi2 x) (by omega), List.drop_of_length_le (by simp; omega)]; rfl
    have hl : st < x.cps.toList.length := by simpa using hs
    rw [drop_get hl]
    cases hn : isNl (x.cps.getD st 0) with
    | false =>
      rw [pieces_char (fi2 x) hs hn, pieces_nrm x k (st + 1) (f + 1) (by omega) (by omega)]
      rw [getD_l] at hn
      unfold isNl at hn
      rw [Bool.or_eq_false_iff, beq_eq_false_iff_ne, beq_eq_false_iff_ne] at hn
      rw [nrm_ch _ _ hn.1 hn.2]
    | true =>
      have hnl : 1 ≤ nl x.cps st := nl_pos _ _
      rw [pieces_hit (fi2 x) hs hn, pieces_nrm x k (st + nl x.cps st) f (by omega) (by omega)]
      unfold nl
      rw [getD_l] at hn ⊢
      unfold isNl at hn
      rw [Bool.or_eq_true, beq_iff_eq, beq_iff_eq] at hn
      rcases hn with hn | hn
      · have hne : ¬ (x.cps.toList.getD st 0 = 13 ∧ st + 1 < x.cps.size ∧ x.cps.getD (st + 1) 0 = 10) := fun q => by rw [hn] at q; exact absurd q.1 (by decide)
        rw [if_neg hne, hn, nrm_10]
        rfl
      · rw [hn, nrm_13]
        by_cases h2 : st + 1 < x.cps.size ∧ x.cps.getD (st + 1) 0 = 10
        · rw [if_pos ⟨rfl, h2⟩]
          have hl2 : st + 1 < x.cps.toList.length := by simpa using h2.1
          have e10 := h2.2
          rw [getD_l] at e10
          rw [drop_get hl2, e10, nrm_10, if_pos rfl]
          rfl
        · rw [if_neg (fun q => h2 q.2), nrm_tf ?_]
          · rfl
          · by_cases h3 : st + 1 < x.cps.size
            · have : x.cps.toList.getD (st + 1) 0 ≠ 10 := fun q => h2 ⟨h3, by rw [getD_l]; exact q⟩
              rw [List.getD_eq_getElem?_getD, List.getElem?_drop, ← List.getD_eq_getElem?_getD]
              exact this
            · rw [List.drop_of_length_le (by simp; omega)]
              decide
theorem pieces_dot (x : Str) : ∀ (k st f : Nat), x.cps.size - st ≤ k → k < f → toL (pieces (f1 x.cps) x ⟨#[46, 46]⟩ f st) = dot (st == 0 || x.cps.toList.getD (st - 1) 0 == 10) (x.cps.toList.drop st)
  | k, st, 0, _, h => absurd h (Nat.not_lt_zero _)
  | 0, st, f + 1, h, _ => by rw [pieces_end (fi1 x) (by omega), List.drop_of_length_le (by simp; omega)]; rfl
  | k + 1, st, f + 1, h, hf => by
    by_cases hs : st < x.cps.size
    rotate_left
    · rw [pieces_end (fi1 x) (by omega), List.drop_of_length_le (by simp; omega)]; rfl
    have hl : st < x.cps.toList.length := by simpa using hs
    rw [drop_get hl]
    cases hn : hit1 x.cps st with
    | false =>
      rw [pieces_char (fi1 x) hs hn, pieces_dot x k (st + 1) (f + 1) (by omega) (by omega)]
      unfold hit1 at hn
      rw [decide_eq_true hs, Bool.true_and, getD_l, getD_l] at hn
      conv => rhs; unfold dot
      have hc : ¬ (x.cps.toList.getD st 0 = 46 ∧ (st == 0 || x.cps.toList.getD (st - 1) 0 == 10) = true) := fun q => by
        rw [q.1, q.2] at hn; simp at hn
      rw [if_neg hc]
      rfl
    | true =>
      rw [pieces_hit (fi1 x) hs hn, pieces_dot x k (st + 1) f (by omega) (by omega)]
      unfold hit1 at hn
      rw [decide_eq_true hs, Bool.true_and, getD_l, getD_l, Bool.and_eq_true, beq_iff_eq] at hn
      conv => rhs; unfold dot
      rw [if_pos hn]
      have : (st + 1 == 0 || x.cps.toList.getD (st + 1 - 1) 0 == 10) = false := by
        rw [show st + 1 - 1 = st by omega, hn.1]; rfl
      rw [this]
      rfl
noncomputable def mk (l : List Nat) : Str := ⟨l.toArray⟩
theorem mk_l (l : List Nat) : (mk l).cps.toList = l := List.toList_toArray
theorem mk_len (l : List Nat) : (mk l).length = l.length := by show l.toArray.size = _; simp
theorem mk_of (s : Str) : mk s.cps.toList = s := by unfold mk; rw [Array.toArray_toList]
theorem mk_app (a b : List Nat) : mk a ++ mk b = mk (a ++ b) := by
  rw [← mk_of (mk a ++ mk b), str_appL, mk_l, mk_l]
noncomputable def qd (l : List Nat) : List Nat := dot true (nrm false l)
theorem nrm_len : ∀ (l : List Nat) (p : Bool), (nrm p l).length ≤ 2 * l.length
  | [], _ => Nat.zero_le _
  | c :: r, p => by
    unfold nrm
    have h1 := nrm_len r true
    have h2 := nrm_len r false
    repeat' split
    all_goals simp only [List.length_cons]; omega
theorem sub2_e (l : List Nat) (h : l.length ≤ 4000) : subD 48 (Str.ofString "\r\n") f2 [.raw (.ref 48), .str (Str.ofString "\r\n"), .str (mk l)] = some (.str (mk (nrm false l))) := by
  have e : Str.ofString "\r\n" = ⟨#[13, 10]⟩ := by decide +kernel
  have hsz : (mk l).cps.size = l.length := mk_len l
  refine (if_pos ⟨rfl, rfl, by rw [hsz]; omega⟩).trans ?_
  rw [e]
  have := pieces_nrm (mk l) l.length 0 ((mk l).cps.size + 1) (by rw [hsz]; omega) (by rw [hsz]; omega)
  rw [mk_l, List.drop_zero] at this
  rw [← this]
  unfold toL
  rw [mk_of]
theorem sub1_e (l : List Nat) (h : l.length ≤ 8000) : subD 43 (Str.ofString "..") f1 [.raw (.ref 43), .str (Str.ofString ".."), .str (mk l)] = some (.str (mk (dot true l))) := by
  have e : Str.ofString ".." = ⟨#[46, 46]⟩ := by decide +kernel
  have hsz : (mk l).cps.size = l.length := mk_len l
  refine (if_pos ⟨rfl, rfl, by rw [hsz]; omega⟩).trans ?_
  rw [e]
  have := pieces_dot (mk l) l.length 0 ((mk l).cps.size + 1) (by rw [hsz]; omega) (by rw [hsz]; omega)
  rw [mk_l, List.drop_zero] at this
  rw [show (0 == 0 || l.getD (0 - 1) 0 == 10) = true from rfl] at this
  rw [← this]
  unfold toL
  rw [mk_of]
end Mine
set_option Elab.async false
set_option linter.unusedVariables false
set_option maxRecDepth 100000
set_option maxHeartbeats 2000000
namespace Mine
open PySem PySem.W PyProof.Rows
/-- the column that a Whitespace tells -/
noncomputable def wR (l : List Nat) : List Int × Nat × Nat × Nat := wsRun l [] 0 0 0
noncomputable def lg (size : Nat) (c : List Int) (i : Nat) : Int := (((size + i) / size : Nat) : Int) * c.getD (size + i) 0
noncomputable def lsum (size : Nat) (c : List Int) (n : Nat) : Int := ((List.range n).map (lg size c)).sum
noncomputable def lvl (size : Nat) (r : List Int × Nat × Nat × Nat) : Int := r.2.1 + size * (lsum size r.1 (r.1.length - size) + r.2.2.2)
theorem lsum_succ (size : Nat) (c : List Int) (n : Nat) : lsum size c (n + 1) = lsum size c n + lg size c n := by unfold lsum; rw [List.range_succ]; simp
noncomputable def lvlBody : Sg → Rs := (fSeq (fSet 4 (fBin .Add (fGet 4) (fBin .Mult (fBin .FloorDiv (fGet 5) (fGet 1)) (fItem (fGet 2) (fGet 5))))) fNil)
noncomputable def lvlF : Sg → Rs := (fSeq (fSetTup spTwo 2 [2, 3] (sealF (fAttr 135 (Str.ofString "norm") (fGet 0)))) (fSeq (fSet 4 (fV (.int 0))) (fSeq (fForS sp1 1 [5] (fIt (fBi rangeD (fCons (fGet 1) (fCons (fBi lenD (fCons (fGet 2) fNil')) fNil')))) lvlBody) (fSeq (fRet (fBin .Add (fGet 3) (fBin .Mult (fGet 1) (fBin .Add (fGet 4) (fAttr 135 (Str.ofString "nt") (fGet 0)))))) fNil))))
noncomputable def lSt (o : V) (size : Int) (c : List Int) (b : Int) (il : Int) (i : Slot) : Sg := [.val o, .val (.int size), .val (.tup (iL c)), .val (.int b), .val (.int il), i]
theorem lvl_body (o : V) (size : Nat) (c : List Int) (b : Int) (il : Int) (i : Nat) (h1 : 1 ≤ size) (h2 : size ≤ 1000) (hc : c.length ≤ 600) (hi : size + i < c.length) :
    lvlBody (lSt o size c b il (.val (.int ((size : Int) + i)))) = some (.next, lSt o size c b (il + lg size c i) (.val (.int ((size : Int) + i)))) := by
  unfold lvlBody
  refine (fSeq_next (fSet_e (v := .int (il + lg size c i)) ?_)).trans rfl
  refine fBin_e (a := .int il) (b := .int (lg size c i)) rfl (fBin_e (fBin_e (a := .int ((size : Int) + i)) (b := .int size) rfl rfl (div_int _ ⟨by omega, by omega⟩)) (fItem_e (a := .tup (iL c)) (b := .int ((size + i : Nat) : Int)) (c := .int (c.getD (size + i) 0)) rfl rfl ?_) ?_) rfl
  · rw [item_tup (by omega), iL_get, List.getElem?_eq_getElem hi, List.getD_eq_getElem?_getD, List.getElem?_eq_getElem hi]
    rfl
  · have e : ((size : Int) + i).fdiv size = (((size + i) / size : Nat) : Int) := by
      rw [Int.fdiv_eq_ediv_of_nonneg _ (by omega)]
      push_cast
      rfl
    rw [e]
    refine mul_int _ (small_nat ?_)
    have := Nat.div_le_self (size + i) size
    omega
theorem lvl_e (ws : Str) (size : Nat) (h1 : 1 ≤ size) (h2 : size ≤ 1000) (hw : ws.length ≤ 400) : ∃ σ', lvlF [.val (.obj 135 (wsFs ws)), .val (.int size), .unset, .unset, .unset, .unset] = some (.ret (.int (lvl size (wR ws.cps.toList))), σ') := by
  have hl : ws.cps.toList.length ≤ 400 := by rw [Array.length_toList]; exact hw
  have hr := wsRun_len ws.cps.toList [] 0 0 0 (by simp) (by omega)
  have a1 : (wsFs ws).lookup (Str.ofString "norm") = some (.tup [.tup (iL (wR ws.cps.toList).1), .int (wR ws.cps.toList).2.1]) := rfl
  have a2 : (wsFs ws).lookup (Str.ofString "nt") = some (.int (wR ws.cps.toList).2.2.2) := rfl
  change (wR ws.cps.toList).1.length ≤ 500 at hr
  generalize wR ws.cps.toList = r at hr a1 a2 ⊢
  obtain ⟨c, b, n, t⟩ := r
  dsimp only at hr a1 a2 ⊢
  generalize wsFs ws = fs at a1 a2 ⊢
  unfold lvlF
  have e1 : fSetTup spTwo 2 [2, 3] (sealF (fAttr 135 (Str.ofString "norm") (fGet 0))) [.val (.obj 135 fs), .val (.int size), .unset, .unset, .unset, .unset] = some (.next, [.val (.obj 135 fs), .val (.int size), .val (.tup (iL c)), .val (.int b), .unset, .unset]) := by
    unfold fSetTup
    rw [fSeal_e (v := .tup [.tup (iL c), .int b]) ?_ ?_]
    · rfl
    · unfold fAttr
      show attrD 135 (Str.ofString "norm") (.obj 135 fs) = _
      unfold attrD
      simp only [if_true, a1]
    · show (V.frees (iL c) && _) = true
      rw [frees_iL]; rfl
  rw [fSeq_next e1, fSeq_next (F := fSet 4 (fV (.int 0))) (σ₁ := lSt (.obj 135 fs) size c b 0 .unset) rfl]
  have hit : (fIt (fBi rangeD (fCons (fGet 1) (fCons (fBi lenD (fCons (fGet 2) fNil')) fNil')))) (lSt (.obj 135 fs) size c b 0 .unset).hide = some ((List.range (c.length - size)).map fun i => .int ((size : Int) + (i : Nat))) := by
    refine fIt_e (v := .rng size c.length 1) (fBi_e (fCons_e (v := .int size) rfl (fCons_e (v := .int c.length) (fBi_e (fCons_e (v := .tup (iL c)) rfl rfl) (by rw [len_tup (by rw [iL_len]; omega), iL_len])) rfl)) rfl) ?_
    simp only [iterD, small_nat (show size ≤ 1000000 by omega), small_nat (show c.length ≤ 1000000 by omega)]
    have : ((c.length : Int) - size).toNat = c.length - size := by omega
    simp [upTo, this]
  obtain ⟨σ₂, e2, sl, rfl⟩ := fFor_inv (set := fSp sp1 1 [5]) (F := lvlBody) (fun j σ => ∃ sl, σ = lSt (.obj 135 fs) size c b (lsum size c j) sl) ((List.range (c.length - size)).map fun i => .int ((size : Int) + (i : Nat))) 0 (lSt (.obj 135 fs) size c b 0 .unset) ⟨.unset, rfl⟩ fun j v σ hj hI => by
    obtain ⟨sl, rfl⟩ := hI
    rw [List.getElem?_map] at hj
    obtain ⟨i, hi, rfl⟩ := Option.map_eq_some_iff.mp hj
    obtain ⟨hlt, rfl⟩ := List.getElem?_eq_some_iff.mp hi
    rw [List.length_range] at hlt
    rw [List.getElem_range, Nat.zero_add]
    refine ⟨_, lSt (.obj 135 fs) size c b (lsum size c (j + 1)) (.val (.int ((size : Int) + (j : Nat)))), rfl, ?_, _, rfl⟩
    rw [lsum_succ]
    exact lvl_body (.obj 135 fs) size c b (lsum size c j) j h1 h2 (by omega) (by omega)
  rw [List.length_map, List.length_range, Nat.zero_add] at e2
  rw [fSeq_next ((fForS_e hit).trans e2)]
  refine ⟨_, fSeq_ret (fRet_e (fBin_e (a := .int b) (b := .int (size * (lsum size c (c.length - size) + t))) rfl (fBin_e (a := .int size) (b := .int (lsum size c (c.length - size) + t)) rfl (fBin_e (a := .int (lsum size c (c.length - size))) (b := .int t) rfl ?_ rfl) (mul_int _ (small_nat (by omega)))) rfl))⟩
  unfold fAttr
  show attrD 135 (Str.ofString "nt") (.obj 135 fs) = _
  unfold attrD
  simp only [if_true, a2]
/-- bisect over a list of ints -/
noncomputable def bRB : Sg → Rs := (fSeq (fSet 5 (fBin .FloorDiv (fBin .Add (fGet 2) (fGet 3)) (fV (.int 2)))) (fSeq (fIf (fCmp .Lt (fGet 1) (fItem (fGet 0) (fGet 5))) (fSeq (fSet 3 (sealF (fGet 5))) fNil) (fSeq (fSet 2 (fBin .Add (fGet 5) (fV (.int 1)))) fNil)) fNil))
noncomputable def bLB : Sg → Rs := (fSeq (fSet 5 (fBin .FloorDiv (fBin .Add (fGet 2) (fGet 3)) (fV (.int 2)))) (fSeq (fIf (fCmp .Lt (fItem (fGet 0) (fGet 5)) (fGet 1)) (fSeq (fSet 2 (fBin .Add (fGet 5) (fV (.int 1)))) fNil) (fSeq (fSet 3 (sealF (fGet 5))) fNil)) fNil))
noncomputable def bLK (Φ : Value → List V → Option V) : Sg → Rs := (fSeq (fSet 5 (fBin .FloorDiv (fBin .Add (fGet 2) (fGet 3)) (fV (.int 2)))) (fSeq (fIf (fCmp .Lt (fCallV Φ (fGet 4) (fCons (fItem (fGet 0) (fGet 5)) fNil')) (fGet 1)) (fSeq (fSet 2 (fBin .Add (fGet 5) (fV (.int 1)))) fNil) (fSeq (fSet 3 (sealF (fGet 5))) fNil)) fNil))
noncomputable def bTest : Sg → Option Bool := (fCmp .Lt (fGet 2) (fGet 3))
noncomputable def bSt (a x k : V) (lo hi : Nat) (m : Slot) : Sg := [.val a, .val x, .val (.int lo), .val (.int hi), .val k, m]
theorem bTest_e (a x k : V) (lo hi : Nat) (m : Slot) : bTest (bSt a x k lo hi m) = some (decide (lo < hi)) := by
  unfold bTest
  refine fCmp_e (a := .int lo) (b := .int hi) rfl rfl ?_
  simp [cmpD]
theorem bMid_e (a x k : V) (lo hi : Nat) (m : Slot) : fSet 5 (fBin .FloorDiv (fBin .Add (fGet 2) (fGet 3)) (fV (.int 2))) (bSt a x k lo hi m) = some (.next, bSt a x k lo hi (.val (.int ((lo + hi) / 2 : Nat)))) := by
  refine (fSet_e (v := .int ((lo + hi) / 2 : Nat)) (fBin_e (a := .int ((lo : Int) + hi)) (b := .int 2) rfl rfl ?_)).trans rfl
  rw [div_int _ ⟨by decide, by decide⟩, mid_e]
theorem bRB_e (a : List V) (x k : V) (lo hi : Nat) (m : Slot) (h : lo < hi) (hh : hi ≤ 1000) {u : V} {p : Bool} (hu : a[(lo + hi) / 2]? = some u) (hp : cmpD .Lt x u = some (!p)) :
    ∃ m', bRB (bSt (.lst a) x k lo hi m) = some (.next, if p then bSt (.lst a) x k ((lo + hi) / 2 + 1) hi m' else bSt (.lst a) x k lo ((lo + hi) / 2) m') := by
  have ei : fItem (fGet 0) (fGet 5) (bSt (.lst a) x k lo hi (.val (.int ((lo + hi) / 2 : Nat)))) = some u := fItem_e (a := .lst a) (b := .int ((lo + hi) / 2 : Nat)) rfl rfl ((item_lst (by omega)).trans hu)
  refine ⟨.val (.int ((lo + hi) / 2 : Nat)), (fSeq_next (bMid_e _ _ _ _ _ _)).trans ?_⟩
  cases p with
  | true =>
    refine (fSeq_next (σ₁ := bSt (.lst a) x k ((lo + hi) / 2 + 1) hi (.val (.int ((lo + hi) / 2 : Nat)))) ?_).trans rfl
    rw [fIf_f (fCmp_e (a := x) rfl ei hp)]
    rfl
  | false =>
    refine (fSeq_next (σ₁ := bSt (.lst a) x k lo ((lo + hi) / 2) (.val (.int ((lo + hi) / 2 : Nat)))) ?_).trans rfl
    rw [fIf_t (fCmp_e (a := x) rfl ei hp)]
    rfl
theorem fCallV_e {Φ : Value → List V → Option V} {f : Sg → Option V} {g : Sg → Option (List V)} {σ : Sg} {rv : Value} {vs : List V} {y : V} (h1 : f σ = some (.raw rv)) (h2 : g σ = some vs) (h : Φ rv vs = some y) : fCallV Φ f g σ = some y := by
  unfold fCallV
  rw [h1]
  simp only [Option.bind_some]
  rw [h2]
  exact h
theorem bLK_k {Φ : Value → List V → Option V} (a : List V) (x : V) (rv : Value) (lo hi : Nat) (m : Slot) (h : lo < hi) (hh : hi ≤ 1000) {u y : V} (hu : a[(lo + hi) / 2]? = some u) (hy : Φ rv [u] = some y) :
    fCallV Φ (fGet 4) (fCons (fItem (fGet 0) (fGet 5)) fNil') (bSt (.lst a) x (.raw rv) lo hi (.val (.int ((lo + hi) / 2 : Nat)))) = some y :=
  fCallV_e (rv := rv) rfl (fCons_e (fItem_e (a := .lst a) (b := .int ((lo + hi) / 2 : Nat)) rfl rfl ((item_lst (by omega)).trans hu)) fNil_e) hy
theorem bLK_e {Φ : Value → List V → Option V} (a : List V) (x : V) (rv : Value) (lo hi : Nat) (m : Slot) (h : lo < hi) (hh : hi ≤ 1000) {u y : V} {p : Bool} (hu : a[(lo + hi) / 2]? = some u) (hy : Φ rv [u] = some y) (hp : cmpD .Lt y x = some p) :
    ∃ m', bLK Φ (bSt (.lst a) x (.raw rv) lo hi m) = some (.next, if p then bSt (.lst a) x (.raw rv) ((lo + hi) / 2 + 1) hi m' else bSt (.lst a) x (.raw rv) lo ((lo + hi) / 2) m') := by
  have ek := bLK_k (Φ := Φ) a x rv lo hi m h hh hu hy
  refine ⟨.val (.int ((lo + hi) / 2 : Nat)), (fSeq_next (bMid_e _ _ _ _ _ _)).trans ?_⟩
  cases p with
  | true =>
    refine (fSeq_next (σ₁ := bSt (.lst a) x (.raw rv) ((lo + hi) / 2 + 1) hi (.val (.int ((lo + hi) / 2 : Nat)))) ?_).trans rfl
    exact (fIf_t (fCmp_e (b := x) ek rfl hp)).trans rfl
  | false =>
    refine (fSeq_next (σ₁ := bSt (.lst a) x (.raw rv) lo ((lo + hi) / 2) (.val (.int ((lo + hi) / 2 : Nat)))) ?_).trans rfl
    exact (fIf_f (fCmp_e (b := x) ek rfl hp)).trans rfl
noncomputable def bisRF (Φ : Value → List V → Option V) (W : Sg → Rs) : Sg → Rs := (fSeq (fIf (fCmp .Lt (fGet 2) (fV (.int 0))) fNever fNil) (fSeq (fIf (fCmp .Is (fGet 3) (fV .none)) (fSeq (fSet 3 (fBi lenD (fCons (fGet 0) fNil'))) fNil) fNil) (fSeq (fIf (fCmp .Is (fGet 4) (fV .none)) (fSeq (fWhile bTest bRB 40) fNil) W) (fSeq (fRet (sealF (fGet 2))) fNil))))
noncomputable def bisLF (Φ : Value → List V → Option V) : Sg → Rs := (fSeq (fIf (fCmp .Lt (fGet 2) (fV (.int 0))) fNever fNil) (fSeq (fIf (fCmp .Is (fGet 3) (fV .none)) (fSeq (fSet 3 (fBi lenD (fCons (fGet 0) fNil'))) fNil) fNil) (fSeq (fIf (fCmp .Is (fGet 4) (fV .none)) (fSeq (fWhile bTest bLB 40) fNil) (fSeq (fWhile bTest (bLK Φ) 40) fNil)) (fSeq (fRet (sealF (fGet 2))) fNil))))
theorem ge0 (a x : V) (lo : Nat) (h y : Slot) (m : Slot) : fIf (fCmp .Lt (fGet 2) (fV (.int 0))) fNever fNil [.val a, .val x, .val (.int lo), h, y, m] = some (.next, [.val a, .val x, .val (.int lo), h, y, m]) := by
  rw [fIf_f (fCmp_e (a := .int lo) (b := .int 0) rfl rfl (by simp [cmpD]))]
  rfl
theorem bisR_e {Φ : Value → List V → Option V} {W : Sg → Rs} (a : List V) (x : V) {p : Nat → Bool} {r : Nat} (ha : a.length < 40) (hu : ∀ j u, a[j]? = some u → cmpD .Lt x u = some (!p j)) (hp : ∀ j, j < a.length → p j = decide (j < r)) (hr : r ≤ a.length) :
    ∃ σ', bisRF Φ W [.val (.lst a), .val x, .val (.int 0), .val .none, .val .none, .unset] = some (.ret (.int r), σ') := by
  obtain ⟨m', e⟩ := bis_loop (t := bTest) (body := bRB) (S := bSt (.lst a) x .none) (p := p) (lo0 := 0) (hi0 := a.length) (r := r) (bTest_e _ _ _) (fun lo hi m _ h2 h3 => by
    have hm : (lo + hi) / 2 < a.length := by omega
    exact bRB_e a x .none lo hi m h2 (by omega) (List.getElem?_eq_getElem hm) (hu _ _ (List.getElem?_eq_getElem hm))) (fun j _ h => hp j h) 40 0 a.length .unset (by omega) (Nat.le_refl _) (Nat.zero_le _) hr (Nat.le_refl _)
  refine ⟨bSt (.lst a) x .none r r m', (fSeq_next (ge0 (.lst a) x 0 _ _ _)).trans ?_⟩
  refine (fSeq_next (σ₁ := bSt (.lst a) x .none 0 a.length .unset) ?_).trans ?_
  · rw [fIf_t (fCmp_e (a := .none) (b := .none) rfl rfl rfl)]
    refine (fSeq_next (fSet_e (v := .int a.length) (fBi_e (fCons_e (v := .lst a) rfl rfl) (len_lst (by omega))))).trans rfl
  refine (fSeq_next (σ₁ := bSt (.lst a) x .none r r m') ?_).trans (fSeq_ret (fRet_e (fSeal_e (v := .int r) rfl rfl)))
  rw [fIf_t (fCmp_e (a := .none) (b := .none) rfl rfl rfl)]
  exact (fSeq_next e).trans rfl
/-- with a key; the end is a number or the list's -/
theorem bisK_e {Φ : Value → List V → Option V} (a : List V) (x : V) {f : Addr} {p : Nat → Bool} {lo hi r : Nat} {h : V} (hh : h = .none ∧ hi = a.length ∨ h = .int hi) (ha : a.length < 1000) (hl : hi ≤ a.length) (h40 : hi - lo < 40)
    (hu : ∀ j u, lo ≤ j → j < hi → a[j]? = some u → ∃ y, Φ (.ref f) [u] = some y ∧ cmpD .Lt y x = some (p j)) (hp : ∀ j, lo ≤ j → j < hi → p j = decide (j < r)) (hr : lo ≤ r) (hr' : r ≤ hi) :
    ∃ σ', bisLF Φ [.val (.lst a), .val x, .val (.int lo), .val h, .val (.raw (.ref f)), .unset] = some (.ret (.int r), σ') := by
  obtain ⟨m', e⟩ := bis_loop (t := bTest) (body := bLK Φ) (S := bSt (.lst a) x (.raw (.ref f))) (p := p) (lo0 := lo) (hi0 := hi) (r := r) (bTest_e _ _ _) (fun lo' hi' m h1 h2 h3 => by
    have hm : (lo' + hi') / 2 < a.length := by omega
    obtain ⟨y, e1, e2⟩ := hu _ _ (by omega) (by omega) (List.getElem?_eq_getElem hm)
    exact bLK_e a x (.ref f) lo' hi' m h2 (by omega) (List.getElem?_eq_getElem hm) e1 e2) (fun j h1 h => hp j h1 h) 40 lo hi .unset h40 (Nat.le_refl _) hr hr' (Nat.le_refl _)
  refine ⟨bSt (.lst a) x (.raw (.ref f)) r r m', (fSeq_next (ge0 (.lst a) x lo _ _ _)).trans ?_⟩
  refine (fSeq_next (σ₁ := bSt (.lst a) x (.raw (.ref f)) lo hi .unset) ?_).trans ?_
  · rcases hh with ⟨rfl, rfl⟩ | rfl
    · rw [fIf_t (fCmp_e (a := .none) (b := .none) rfl rfl rfl)]
      refine (fSeq_next (fSet_e (v := .int a.length) (fBi_e (fCons_e (v := .lst a) rfl rfl) (len_lst (by omega))))).trans rfl
    · rw [fIf_f (fCmp_e (a := .int hi) (b := .none) rfl rfl rfl)]
      rfl
  refine (fSeq_next (σ₁ := bSt (.lst a) x (.raw (.ref f)) r r m') ?_).trans (fSeq_ret (fRet_e (fSeal_e (v := .int r) rfl rfl)))
  rw [fIf_f (fCmp_e (a := .raw (.ref f)) (b := .none) rfl rfl rfl)]
  exact (fSeq_next e).trans rfl
end Mine
set_option Elab.async false
set_option linter.unusedVariables false
set_option maxRecDepth 100000
set_option maxHeartbeats 2000000
namespace Mine
open PySem PySem.W PyProof.Rows PySem.Builtin.Str
theorem rangePick (l : List Nat) : ∀ (n a : Nat), a + n ≤ l.length → ((List.range n).map (a + ·)).filterMap (l.toArray[·]?) = (l.drop a).take n
  | 0, a, _ => by simp
  | n + 1, a, h => by
    have ha : a < l.length := by omega
    rw [List.range_succ_eq_map, List.map_cons, List.map_map, List.filterMap_cons]
    have e0 : l.toArray[a + 0]? = some l[a] := by simp [ha]
    rw [e0]
    dsimp only
    rw [List.drop_eq_getElem_cons ha, List.take_succ_cons]
    congr 1
    rw [← rangePick l n (a + 1) (by omega)]
    congr 1
    apply List.map_congr_left
    intro i _
    show a + (i + 1) = a + 1 + i
    omega
theorem slice_core (l : List Nat) {lo hi : Option Int} {a b : Nat} (h : strSliceIndices lo hi 1 l.length = (List.range (b - a)).map (a + ·)) (hab : a ≤ b) (hb : b ≤ l.length) : Txt.slice (mk l) lo hi = mk ((l.take b).drop a) := by
  unfold Txt.slice
  rw [mk_len, h]
  have hp : ((List.range (b - a)).map (a + ·)).filterMap ((mk l).cps[·]?) = (l.take b).drop a := by
    show ((List.range (b - a)).map (a + ·)).filterMap (l.toArray[·]?) = _
    rw [rangePick l (b - a) a (by omega), List.drop_take]
  split
  · rename_i hc
    simp only [List.length_map, List.length_range, Bool.and_eq_true, beq_iff_eq] at hc
    have e1 : a = 0 := by omega
    have e2 : b = l.length := by omega
    subst e1 e2
    simp
  · rw [hp]
    rfl
theorem sr1 {a b : Nat} (h : a ≤ b) : sliceRange (a : Int) (b : Int) 1 = (List.range (b - a)).map (a + ·) := by
  unfold sliceRange
  have : (if (1 : Int) > 0 then (if (a : Int) < (b : Int) then ((b : Int) - a + 1 - 1) / 1 else 0) else (if (a : Int) > b then ((a : Int) - b - 1 - 1) / (-1) else 0)).toNat = b - a := by
    rw [if_pos (by decide)]
    split <;> omega
  dsimp only
  rw [this]
  apply List.map_congr_left
  intro i _
  omega
theorem slice_ab (l : List Nat) {a b : Nat} (hab : a ≤ b) (hb : b ≤ l.length) : Txt.slice (mk l) (some a) (some b) = mk ((l.take b).drop a) := by
  refine slice_core l ?_ hab hb
  rw [← sr1 hab]
  unfold strSliceIndices
  dsimp only
  congr 1
  · rw [if_pos (show (1 : Int) > 0 by decide)]; split <;> omega
  · rw [if_pos (show (1 : Int) > 0 by decide)]; split <;> omega
theorem slice_0b (l : List Nat) {b : Nat} : Txt.slice (mk l) none (some b) = mk (l.take b) := by
  have := slice_core l (lo := none) (hi := some (b : Int)) (a := 0) (b := min b l.length) ?_ (Nat.zero_le _) (Nat.min_le_right _ _)
  · rw [this, List.drop_zero]
    congr 1
    rw [List.take_eq_take_iff]
    omega
  · rw [← sr1 (Nat.zero_le _)]
    unfold strSliceIndices
    dsimp only
    congr 1
    rw [if_pos (show (1 : Int) > 0 by decide)]; split <;> omega
theorem slice_last (l : List Nat) : Txt.slice (mk l) (some (-1)) none = mk (l.drop (l.length - 1)) := by
  have := slice_core l (lo := some (-1)) (hi := none) (a := l.length - 1) (b := l.length) ?_ (Nat.sub_le _ _) (Nat.le_refl _)
  · rw [this, List.take_length]
  · rw [← sr1 (Nat.sub_le _ _)]
    unfold strSliceIndices
    dsimp only
    congr 1
    rw [if_pos (show (1 : Int) > 0 by decide)]; split <;> omega
theorem str_add {a b : List Nat} (h : a.length + b.length ≤ 10000) : binD .Add (.str (mk a)) (.str (mk b)) = some (.str (mk (a ++ b))) := by
  rw [add_str (by rw [mk_len, mk_len]; omega), mk_app]
theorem str_eq (a b : List Nat) : cmpD .Eq (.str (mk a)) (.str (mk b)) = some (a == b) := by
  show some ((mk a).cps.toList == (mk b).cps.toList) = _
  rw [mk_l, mk_l]
theorem str_ne (a b : List Nat) : cmpD .NotEq (.str (mk a)) (.str (mk b)) = some (a != b) := by
  show some ((mk a).cps.toList != (mk b).cps.toList) = _
  rw [mk_l, mk_l]
theorem sl_str {l : List Nat} {a b : V} {lo hi : Option Int} (h1 : optI a = some lo) (h2 : optI b = some hi) (h : l.length ≤ 10000) : sliceD (.str (mk l)) a b .none = some (.str (Txt.slice (mk l) lo hi)) := by
  have e : sliceD (.str (mk l)) a b .none = (optI a).bind fun lo => (optI b).bind fun hi => if (mk l).length ≤ 16777216 then some (.str (Txt.slice (mk l) lo hi)) else none := rfl
  rw [e, h1, h2]
  simp only [Option.bind_some]
  rw [if_pos (by rw [mk_len]; omega)]
theorem strs_map (l : List Nat) : V.strs (l.map fun c => .str (mk [c])) = some (l.map fun c => mk [c]) := by
  induction l with
  | nil => rfl
  | cons c l ih => rw [List.map_cons]; unfold V.strs; rw [ih]; rfl
theorem cat_map (l : List Nat) : catAll (l.map fun c => mk [c]) = mk l := by
  induction l with
  | nil => rfl
  | cons c l ih => rw [List.map_cons]; unfold catAll; rw [ih, mk_app]; rfl
theorem lenSum_map (l : List Nat) : lenSum (l.map fun c => mk [c]) = l.length := by
  induction l with
  | nil => rfl
  | cons c l ih => rw [List.map_cons]; unfold lenSum; rw [ih, mk_len, List.length_cons]; simp; omega
theorem join_e (l : List Nat) (h : l.length ≤ 10000) : joinD [.str (Str.ofString ""), .lst (l.map fun c => .str (mk [c]))] = some (.str (mk l)) := by
  have e : Str.ofString "" = ⟨#[]⟩ := by decide +kernel
  rw [e]
  have e' : joinD [.str ⟨#[]⟩, .lst (l.map fun c => .str (mk [c]))] = (V.strs (l.map fun c => .str (mk [c]))).bind fun xs => if lenSum xs ≤ 100000 then some (.str (catAll xs)) else Option.none := rfl
  rw [e', strs_map]
  simp only [Option.bind_some]
  rw [if_pos (by rw [lenSum_map]; omega), cat_map]
theorem fAug_str {i : Nat} {f : Sg → Option V} {σ : Sg} {a b : List Nat} (h1 : σ.get i = some (.str (mk a))) (h2 : f σ = some (.str (mk b))) (h : a.length + b.length ≤ 10000) : fAug i .Add f σ = some (.next, σ.set i (.val (.str (mk (a ++ b))))) := by
  unfold fAug
  rw [h1, h2]
  simp only [Option.bind_some]
  rw [if_pos (by rw [mk_len, mk_len]; omega), mk_app]
theorem fAugL_e {i : Nat} {f : Sg → Option V} {σ : Sg} {xs ys : List V} (h1 : σ.own i = some xs) (h2 : f σ = some (.lst ys)) (h : xs.length + ys.length ≤ 10000) : fAugL i f σ = some (.next, σ.set i (.own (xs ++ ys))) := by
  unfold fAugL
  rw [h1, h2]
  simp only [Option.bind_some]
  rw [if_pos (by omega)]
end Mine
set_option Elab.async false
namespace Mine
open PySem PySem.W PyProof.Rows
set_option maxRecDepth 100000
set_option maxHeartbeats 8000000
open_top hd for PySem.Challenge.rw_pk0101_02
end Mine
set_option Elab.async false
set_option linter.unusedVariables false
set_option maxRecDepth 100000
set_option maxHeartbeats 4000000
namespace Mine
open PySem PySem.W PyProof.Rows
noncomputable def n_bisect_right : List Str := [(Str.ofString "a"), (Str.ofString "x"), (Str.ofString "lo"), (Str.ofString "hi"), (Str.ofString "key"), (Str.ofString "mid")]
noncomputable def F_bisect_right (Φ : Value → List V → Option V) : Sg → Rs := (fSeq (fIf (fCmp .Lt (fGet 2) (fV (.int 0))) fNever fNil) (fSeq (fIf (fCmp .Is (fGet 3) (fV .none)) (fSeq (fSet 3 (fBi lenD (fCons (fGet 0) fNil'))) fNil) fNil) (fSeq (fIf (fCmp .Is (fGet 4) (fV .none)) (fSeq (fWhile (fCmp .Lt (fGet 2) (fGet 3)) (fSeq (fSet 5 (fBin .FloorDiv (fBin .Add (fGet 2) (fGet 3)) (fV (.int 2)))) (fSeq (fIf (fCmp .Lt (fGet 1) (fItem (fGet 0) (fGet 5))) (fSeq (fSet 3 (sealF (fGet 5))) fNil) (fSeq (fSet 2 (fBin .Add (fGet 5) (fV (.int 1)))) fNil)) fNil)) 40) fNil) (fSeq (fWhile (fCmp .Lt (fGet 2) (fGet 3)) (fSeq (fSet 5 (fBin .FloorDiv (fBin .Add (fGet 2) (fGet 3)) (fV (.int 2)))) (fSeq (fIf (fCmp .Lt (fGet 1) (fCallV Φ (fGet 4) (fCons (fItem (fGet 0) (fGet 5)) fNil'))) (fSeq (fSet 3 (sealF (fGet 5))) fNil) (fSeq (fSet 2 (fBin .Add (fGet 5) (fV (.int 1)))) fNil)) fNil)) 40) fNil)) (fSeq (fRet (sealF (fGet 2))) fNil))))
theorem sx_bisect_right {C : Cx} {k : Nat} {P : Params} {Φ : Value → List V → Option V} (gl : GL C (hd.heap_39 P)) (hΦ : ∀ rv, (∃ a o fd, rv = .ref a ∧ C.base a o ∧ o.data = .func fd ∧ PureFn C k (.ref a) (fun vs ks => if ks.isEmpty then Φ rv vs else none)) ∨ ∀ vs, Φ rv vs = none) : Sx C k n_bisect_right (KS (fnOf (hd.heap_39 P) 64).scope) (bodyOf (fnOf (hd.heap_39 P) 64)) (F_bisect_right Φ) :=
  (Sx_cons (S1_If (Tx_Cmp (x_Name 2 rfl) (x_Int).toB) Sx_no Sx_nil) (Sx_cons (S1_If (Tx_Cmp (x_Name 3 rfl) (x_None).toB) (Sx_cons (S1_Assign 3 rfl (x_Bi (x_Bui gl (kg rfl) rfl rfl) pure_len (As_cons (x_Name 0 rfl) x_As0))) Sx_nil) Sx_nil) (Sx_cons (S1_If (Tx_Cmp (x_Name 4 rfl) (x_None).toB) (Sx_cons (S1_While 40 (Tx_Cmp (x_Name 2 rfl) (x_Name 3 rfl)) (Sx_cons (S1_Assign 5 rfl (Ex_Bin ((Ex_Bin (x_Name 2 rfl) (x_Name 3 rfl))).toB (x_Int).toB)) (Sx_cons (S1_If (Tx_Cmp (x_Name 1 rfl) (Ex_Item (x_Name 0 rfl) (x_Name 5 rfl))) (Sx_cons (S1_Assign 3 rfl ((x_Name 5 rfl)).seal) Sx_nil) (Sx_cons (S1_Assign 2 rfl (Ex_Bin (x_Name 5 rfl) (x_Int).toB)) Sx_nil)) Sx_nil))) Sx_nil) (Sx_cons (S1_While 40 (Tx_Cmp (x_Name 2 rfl) (x_Name 3 rfl)) (Sx_cons (S1_Assign 5 rfl (Ex_Bin ((Ex_Bin (x_Name 2 rfl) (x_Name 3 rfl))).toB (x_Int).toB)) (Sx_cons (S1_If (Tx_Cmp (x_Name 1 rfl) ((x_CallV (x_Name 4 rfl) hΦ (As_cons (Ex_Item (x_Name 0 rfl) (x_Name 5 rfl)) x_As0))).toB) (Sx_cons (S1_Assign 3 rfl ((x_Name 5 rfl)).seal) Sx_nil) (Sx_cons (S1_Assign 2 rfl (Ex_Bin (x_Name 5 rfl) (x_Int).toB)) Sx_nil)) Sx_nil))) Sx_nil)) (Sx_cons (S1_Ret ((x_Name 2 rfl)).seal) Sx_nil))))
noncomputable def n_bisect_left : List Str := [(Str.ofString "a"), (Str.ofString "x"), (Str.ofString "lo"), (Str.ofString "hi"), (Str.ofString "key"), (Str.ofString "mid")]
noncomputable def F_bisect_left (Φ : Value → List V → Option V) : Sg → Rs := (fSeq (fIf (fCmp .Lt (fGet 2) (fV (.int 0))) fNever fNil) (fSeq (fIf (fCmp .Is (fGet 3) (fV .none)) (fSeq (fSet 3 (fBi lenD (fCons (fGet 0) fNil'))) fNil) fNil) (fSeq (fIf (fCmp .Is (fGet 4) (fV .none)) (fSeq (fWhile (fCmp .Lt (fGet 2) (fGet 3)) (fSeq (fSet 5 (fBin .FloorDiv (fBin .Add (fGet 2) (fGet 3)) (fV (.int 2)))) (fSeq (fIf (fCmp .Lt (fItem (fGet 0) (fGet 5)) (fGet 1)) (fSeq (fSet 2 (fBin .Add (fGet 5) (fV (.int 1)))) fNil) (fSeq (fSet 3 (sealF (fGet 5))) fNil)) fNil)) 40) fNil) (fSeq (fWhile (fCmp .Lt (fGet 2) (fGet 3)) (fSeq (fSet 5 (fBin .FloorDiv (fBin .Add (fGet 2) (fGet 3)) (fV (.int 2)))) (fSeq (fIf (fCmp .Lt (fCallV Φ (fGet 4) (fCons (fItem (fGet 0) (fGet 5)) fNil')) (fGet 1)) (fSeq (fSet 2 (fBin .Add (fGet 5) (fV (.int 1)))) fNil) (fSeq (fSet 3 (sealF (fGet 5))) fNil)) fNil)) 40) fNil)) (fSeq (fRet (sealF (fGet 2))) fNil))))
theorem sx_bisect_left {C : Cx} {k : Nat} {P : Params} {Φ : Value → List V → Option V} (gl : GL C (hd.heap_39 P)) (hΦ : ∀ rv, (∃ a o fd, rv = .ref a ∧ C.base a o ∧ o.data = .func fd ∧ PureFn C k (.ref a) (fun vs ks => if ks.isEmpty then Φ rv vs else none)) ∨ ∀ vs, Φ rv vs = none) : Sx C k n_bisect_left (KS (fnOf (hd.heap_39 P) 73).scope) (bodyOf (fnOf (hd.heap_39 P) 73)) (F_bisect_left Φ) :=
  (Sx_cons (S1_If (Tx_Cmp (x_Name 2 rfl) (x_Int).toB) Sx_no Sx_nil) (Sx_cons (S1_If (Tx_Cmp (x_Name 3 rfl) (x_None).toB) (Sx_cons (S1_Assign 3 rfl (x_Bi (x_Bui gl (kg rfl) rfl rfl) pure_len (As_cons (x_Name 0 rfl) x_As0))) Sx_nil) Sx_nil) (Sx_cons (S1_If (Tx_Cmp (x_Name 4 rfl) (x_None).toB) (Sx_cons (S1_While 40 (Tx_Cmp (x_Name 2 rfl) (x_Name 3 rfl)) (Sx_cons (S1_Assign 5 rfl (Ex_Bin ((Ex_Bin (x_Name 2 rfl) (x_Name 3 rfl))).toB (x_Int).toB)) (Sx_cons (S1_If (Tx_Cmp (Ex_Item (x_Name 0 rfl) (x_Name 5 rfl)) (x_Name 1 rfl)) (Sx_cons (S1_Assign 2 rfl (Ex_Bin (x_Name 5 rfl) (x_Int).toB)) Sx_nil) (Sx_cons (S1_Assign 3 rfl ((x_Name 5 rfl)).seal) Sx_nil)) Sx_nil))) Sx_nil) (Sx_cons (S1_While 40 (Tx_Cmp (x_Name 2 rfl) (x_Name 3 rfl)) (Sx_cons (S1_Assign 5 rfl (Ex_Bin ((Ex_Bin (x_Name 2 rfl) (x_Name 3 rfl))).toB (x_Int).toB)) (Sx_cons (S1_If (Tx_Cmp ((x_CallV (x_Name 4 rfl) hΦ (As_cons (Ex_Item (x_Name 0 rfl) (x_Name 5 rfl)) x_As0))).toB (x_Name 1 rfl)) (Sx_cons (S1_Assign 2 rfl (Ex_Bin (x_Name 5 rfl) (x_Int).toB)) Sx_nil) (Sx_cons (S1_Assign 3 rfl ((x_Name 5 rfl)).seal) Sx_nil)) Sx_nil))) Sx_nil)) (Sx_cons (S1_Ret ((x_Name 2 rfl)).seal) Sx_nil))))
noncomputable def n_law_columns : List Str := [(Str.ofString "lead"), (Str.ofString "size"), (Str.ofString "columns"), (Str.ofString "sign"), (Str.ofString "here")]
noncomputable def F_law_columns : Sg → Rs := (fSeq (fOwn 2 (fLst (fCons (fV (.int 0)) fNil'))) (fSeq (fForS sp1 1 [3] (fIt (fGet 0)) (fSeq (fSet 4 (sealF (fItem (fGet 2) (fNeg (fV (.int 1)))))) (fSeq (fAppend 2 (fBin .Add (fGet 4) (fIf (fCmp .Eq (fGet 3) (fV (.str (Str.ofString "\t")))) (fBin .Sub (fGet 1) (fBin .Mod (fGet 4) (fGet 1))) (fV (.int 1))))) fNil))) (fSeq (fRetOwn 2) fNil)))
theorem sx_law_columns {C : Cx} {k : Nat} {P : Params} (gl : GL C (hd.heap_39 P)) : Sx C k n_law_columns (KS (fnOf (hd.heap_39 P) 146).scope) (bodyOf (fnOf (hd.heap_39 P) 146)) (F_law_columns) :=
  (Sx_cons (S1_AssignOwn 2 rfl (x_Lst (Ds_cons x_Int x_Ds0))) (Sx_cons (x_For [3] 1 (x_It (x_Name 0 rfl)) x_T1 rfl rfl (Sx_cons (S1_Assign 4 rfl ((Ex_Item (x_Name 2 rfl) ((x_Neg (x_Int).toB)).toB)).seal) (Sx_cons (S1_Append 2 rfl ((Ex_Bin (x_Name 4 rfl) (Ex_IfB (Tx_Cmp (x_Name 3 rfl) (x_Str).toB) ((Ex_Bin (x_Name 1 rfl) ((Ex_Bin (x_Name 4 rfl) (x_Name 1 rfl))).toB)).toB (x_Int).toB))).toS) Sx_nil))) (Sx_cons (S1_RetOwn 2 rfl) Sx_nil)))
noncomputable def n_indent_level : List Str := [(Str.ofString "self"), (Str.ofString "tabsize"), (Str.ofString "count"), (Str.ofString "trailing"), (Str.ofString "il"), (Str.ofString "i")]
noncomputable def F_indent_level : Sg → Rs := (fSeq (fSetTup spTwo 2 [2, 3] (sealF (fAttr 135 (Str.ofString "norm") (fGet 0)))) (fSeq (fSet 4 (fV (.int 0))) (fSeq (fForS sp1 1 [5] (fIt (fBi rangeD (fCons (fGet 1) (fCons (fBi lenD (fCons (fGet 2) fNil')) fNil')))) (fSeq (fSet 4 (fBin .Add (fGet 4) (fBin .Mult (fBin .FloorDiv (fGet 5) (fGet 1)) (fItem (fGet 2) (fGet 5))))) fNil)) (fSeq (fRet (fBin .Add (fGet 3) (fBin .Mult (fGet 1) (fBin .Add (fGet 4) (fAttr 135 (Str.ofString "nt") (fGet 0)))))) fNil))))
theorem sx_indent_level {C : Cx} {k : Nat} {P : Params} (gl : GL C (hd.heap_39 P)) : Sx C k n_indent_level (KS (fnOf (hd.heap_39 P) 104).scope) (bodyOf (fnOf (hd.heap_39 P) 104)) (F_indent_level) :=
  (Sx_cons (S1_AssignTup [2, 3] Tg_Two rfl (((Ex_Attr gl.K 135 (x_Name 0 rfl) rfl rfl rfl)).seal).toS) (Sx_cons (S1_Assign 4 rfl x_Int) (Sx_cons (x_For [5] 1 (x_It ((x_Ty (x_Bui gl (kg rfl) rfl rfl) pure_range (As_cons (x_Name 1 rfl) (As_cons ((x_Bi (x_Bui gl (kg rfl) rfl rfl) pure_len (As_cons (x_Name 2 rfl) x_As0))).toB x_As0)))).toB) x_T1 rfl rfl (Sx_cons (S1_Assign 4 rfl (Ex_Bin (x_Name 4 rfl) ((Ex_Bin ((Ex_Bin (x_Name 5 rfl) (x_Name 1 rfl))).toB (Ex_Item (x_Name 2 rfl) (x_Name 5 rfl)))).toB)) Sx_nil)) (Sx_cons (S1_Ret (Ex_Bin (x_Name 3 rfl) ((Ex_Bin (x_Name 1 rfl) ((Ex_Bin (x_Name 4 rfl) (Ex_Attr gl.K 135 (x_Name 0 rfl) rfl rfl rfl))).toB)).toB)) Sx_nil))))
theorem GL.ext {C : Cx} {Kf : Frag} (gl : GL C Kf) (L : List (Addr × Obj)) (hT : ∀ p ∈ L, p.1 ∉ C.T) : GL (C.ext L hT) Kf := ⟨fun a o e => .inl (gl.K a o e), gl.g, gl.gn, gl.b⟩
noncomputable def fINil : Addr → Sg → Fs → Option (Sg × Fs) := fun _ σ fs => some (σ, fs)
theorem x_INil {C : Cx} {k : Nat} {N : List Str} {K : Env → Prop} {Cl : Addr} : IS C k N K Cl [] fINil := IS_nil
noncomputable def n_init : List Str := [(Str.ofString "self"), (Str.ofString "ws"), (Str.ofString "S"), (Str.ofString "T"), (Str.ofString "count"), (Str.ofString "b"), (Str.ofString "n"), (Str.ofString "nt"), (Str.ofString "ch")]
noncomputable def F_init : Addr → Sg → Fs → Option (Sg × Fs) := (fISet 0 (Str.ofString "raw") (fGet 1) (fIMid (fun x fs => (fSwap 2 3 (fTup (fCons (fV (.str (Str.ofString " "))) (fCons (fV (.str (Str.ofString "\t"))) fNil'))))) (fIMid (fun x fs => (fOwn 4 (fLst fNil'))) (fIMid (fun x fs => (fThree 5 6 7 (fV (.int 0)))) (fIMid (fun x fs => (fForS sp1 1 [8] (fIt (fSelf 0 (Str.ofString "raw") x fs)) (fSeq (fIf (fCmp .Eq (fGet 8) (fGet 2)) (fSeq (fSet 6 (fBin .Add (fGet 6) (fV (.int 1)))) (fSeq (fSet 5 (fBin .Add (fGet 5) (fV (.int 1)))) fNil)) (fSeq (fIf (fCmp .Eq (fGet 8) (fGet 3)) (fSeq (fSet 6 (fBin .Add (fGet 6) (fV (.int 1)))) (fSeq (fSet 7 (fBin .Add (fGet 7) (fV (.int 1)))) (fSeq (fIf (fCmp .GtE (fGet 5) (fBi lenD (fCons (fGet 4) fNil'))) (fSeq (fOwn 4 (fBin .Add (fGet 4) (fBin .Mult (fLst (fCons (fV (.int 0)) fNil')) (fBin .Add (fBin .Sub (fGet 5) (fBi lenD (fCons (fGet 4) fNil'))) (fV (.int 1)))))) fNil) fNil) (fSeq (fSetItem 4 (fBin .Add (fItem (fGet 4) (fGet 5)) (fV (.int 1))) (fGet 5)) (fSeq (fSet 5 (fV (.int 0))) fNil))))) (fSeq fBrk fNil)) fNil)) fNil))) (fISet 0 (Str.ofString "n") (fGet 6) (fISet 0 (Str.ofString "nt") (fGet 7) (fISet 0 (Str.ofString "norm") (fTup (fCons (fBi tupleD (fCons (fGet 4) fNil')) (fCons (sealF (fGet 5)) fNil'))) (fISet 0 (Str.ofString "is_simple") (fCmpV .LtE (fBi lenD (fCons (fGet 4) fNil')) (fV (.int 1))) fINil)))))))))
theorem is_init {C : Cx} {k : Nat} {P : Params} (gl : GL C (hd.heap_39 P)) : IS C k n_init (KS (fnOf (hd.heap_39 P) 90).scope) 135 (bodyOf (fnOf (hd.heap_39 P) 90)) F_init :=
  (IS_set gl.K 0 rfl (x_Name 1 rfl) rfl rfl rfl rfl (IS_mid (fun x d es n fs P hT hf => have gl0 := gl; have gl := gl.ext _ hT; (x_Swap 2 3 rfl rfl ((x_Tup (Ds_cons (Ex_ClsAttr (mc := .type "type") gl.K 135 ((x_Glob gl (kg rfl) rfl)).toB (fun _ => rfl) rfl rfl) (Ds_cons (Ex_ClsAttr (mc := .type "type") gl.K 135 ((x_Glob gl (kg rfl) rfl)).toB (fun _ => rfl) rfl rfl) x_Ds0)))).toS (by intro env e; unfold swappedStores Env.blockKind Env.kindOf; rw [e]; rfl))) (IS_mid (fun x d es n fs P hT hf => have gl0 := gl; have gl := gl.ext _ hT; (S1_AssignOwn 4 rfl (x_Lst x_Ds0))) (IS_mid (fun x d es n fs P hT hf => have gl0 := gl; have gl := gl.ext _ hT; (S1_Three 5 6 7 rfl rfl rfl (x_Int).toS)) (IS_mid (fun x d es n fs P hT hf => have gl0 := gl; have gl := gl.ext _ hT; (x_For [8] 1 (x_It ((Ex_Self gl0.K 0 rfl hf rfl rfl rfl)).toB) x_T1 rfl rfl (Sx_cons (S1_If (Tx_Cmp (x_Name 8 rfl) (x_Name 2 rfl)) (Sx_cons (S1_Assign 6 rfl (Ex_Bin (x_Name 6 rfl) (x_Int).toB)) (Sx_cons (S1_Assign 5 rfl (Ex_Bin (x_Name 5 rfl) (x_Int).toB)) Sx_nil)) (Sx_cons (S1_If (Tx_Cmp (x_Name 8 rfl) (x_Name 3 rfl)) (Sx_cons (S1_Assign 6 rfl (Ex_Bin (x_Name 6 rfl) (x_Int).toB)) (Sx_cons (S1_Assign 7 rfl (Ex_Bin (x_Name 7 rfl) (x_Int).toB)) (Sx_cons (S1_If (Tx_Cmp (x_Name 5 rfl) ((x_Bi (x_Bui gl (kg rfl) rfl rfl) pure_len (As_cons (x_Name 4 rfl) x_As0))).toB) (Sx_cons (S1_AssignOwn 4 rfl (Ex_Bin (x_Name 4 rfl) ((Ex_Bin ((x_Lst (Ds_cons x_Int x_Ds0))).toB ((Ex_Bin ((Ex_Bin (x_Name 5 rfl) ((x_Bi (x_Bui gl (kg rfl) rfl rfl) pure_len (As_cons (x_Name 4 rfl) x_As0))).toB)).toB (x_Int).toB)).toB)).toB)) Sx_nil) Sx_nil) (Sx_cons (S1_SetItem 4 rfl ((Ex_Bin (Ex_Item (x_Name 4 rfl) (x_Name 5 rfl)) (x_Int).toB)).toS (x_Name 5 rfl)) (Sx_cons (S1_Assign 5 rfl x_Int) Sx_nil))))) (Sx_cons x_Brk Sx_nil)) Sx_nil)) Sx_nil))) (IS_set gl.K 0 rfl (x_Name 6 rfl) rfl rfl rfl rfl (IS_set gl.K 0 rfl (x_Name 7 rfl) rfl rfl rfl rfl (IS_set gl.K 0 rfl ((x_Tup (Ds_cons (x_Ty (x_Bui gl (kg rfl) rfl rfl) pure_tuple (As_cons (x_Name 4 rfl) x_As0)) (Ds_cons ((x_Name 5 rfl)).seal x_Ds0)))).toB rfl rfl rfl rfl (IS_set gl.K 0 rfl ((x_Cmp ((x_Bi (x_Bui gl (kg rfl) rfl rfl) pure_len (As_cons (x_Name 4 rfl) x_As0))).toB (x_Int).toB)).toB rfl rfl rfl rfl x_INil)))))))))
theorem pat1 {P : Params} {h : Heap} (hh : ∀ a o, (hd.heap_39 P).lookup a = some o → h.get? a = some o) : PatAt h 43 code1 := ⟨⟨_, _, 42, _, _, _, (), hh 43 _ rfl, rfl, rfl, rfl, rfl, rfl, rfl, hh 42 _ rfl, rfl, by decide +kernel, rfl⟩⟩
theorem pat2 {P : Params} {h : Heap} (hh : ∀ a o, (hd.heap_39 P).lookup a = some o → h.get? a = some o) : PatAt h 48 code2 := ⟨⟨_, _, 47, _, _, _, (), hh 48 _ rfl, rfl, rfl, rfl, rfl, rfl, rfl, hh 47 _ rfl, rfl, by decide +kernel, rfl⟩⟩
theorem x_sub1 {C : Cx} {k : Nat} {N : List Str} {K : Env → Prop} {P : Params} (gl : GL C (hd.heap_39 P)) {ob : Expr} {apos pos : Pos} {es : List Expr} {g : Sg → Option (List V)} (ho : ExF C k N K ob (fRaw (.ref 43))) (ha : ExAs C k N K es g) (hes : ∀ env, (backTo pos (starEach es env)).any (·.1) = false := by intro _; rfl)
    (he : ∀ env, ∃ pl, eval (.Call (.Attribute ob "sub" apos) es [] pos) env = (do
      let ov ← eval ob env
      standAt apos.atName
      let (f, first) ← holding [ov] (getMethod ov "sub" pl)
      callWith pos f first (backTo pos (starEach es env)) []) := by intro _; exact ⟨_, rfl⟩) : ExF C k N K (.Call (.Attribute ob "sub" apos) es [] pos) (fMethR 43 (subD 43 (Str.ofString "..") f1) g) :=
  Ex_MethR ho.toB (fun _ => rfl) (gl.K 43 _ rfl) rfl rfl plainAttrs_pat slot_sub type_sub (pure_sub (fun h hh => pat1 fun a o e => hh a o (gl.K a o e)) (by decide +kernel) (by decide +kernel) f1_ok f1_run) ha hes he
theorem x_sub2 {C : Cx} {k : Nat} {N : List Str} {K : Env → Prop} {P : Params} (gl : GL C (hd.heap_39 P)) {ob : Expr} {apos pos : Pos} {es : List Expr} {g : Sg → Option (List V)} (ho : ExF C k N K ob (fRaw (.ref 48))) (ha : ExAs C k N K es g) (hes : ∀ env, (backTo pos (starEach es env)).any (·.1) = false := by intro _; rfl)
    (he : ∀ env, ∃ pl, eval (.Call (.Attribute ob "sub" apos) es [] pos) env = (do
      let ov ← eval ob env
      standAt apos.atName
      let (f, first) ← holding [ov] (getMethod ov "sub" pl)
      callWith pos f first (backTo pos (starEach es env)) []) := by intro _; exact ⟨_, rfl⟩) : ExF C k N K (.Call (.Attribute ob "sub" apos) es [] pos) (fMethR 48 (subD 48 (Str.ofString "\r\n") f2) g) :=
  Ex_MethR ho.toB (fun _ => rfl) (gl.K 48 _ rfl) rfl rfl plainAttrs_pat slot_sub type_sub (pure_sub (fun h hh => pat2 fun a o e => hh a o (gl.K a o e)) (by decide +kernel) (by decide +kernel) f2_ok f2_run) ha hes he
noncomputable def n_quotedata : List Str := [(Str.ofString "data")]
noncomputable def F_quotedata : Sg → Rs := (fSeq (fRet (fMethR 43 (subD 43 (Str.ofString "..") f1) (fCons (fV (.str (Str.ofString ".."))) (fCons (fMethR 48 (subD 48 (Str.ofString "\r\n") f2) (fCons (fStrG (Str.ofString "\r\n")) (fCons (fGet 0) fNil'))) fNil')))) fNil)
theorem sx_quotedata {C : Cx} {k : Nat} {P : Params} (gl : GL C (hd.heap_39 P)) : Sx C k n_quotedata (KS (fnOf (hd.heap_39 P) 55).scope) (bodyOf (fnOf (hd.heap_39 P) 55)) (F_quotedata) :=
  (Sx_cons (S1_Ret (x_sub1 gl (x_Glob gl (kg rfl) rfl) (As_cons (x_Str).toB (As_cons ((x_sub2 gl (x_Glob gl (kg rfl) rfl) (As_cons ((x_GlobS gl (kg rfl) rfl)).toB (As_cons (x_Name 0 rfl) x_As0)))).toB x_As0)))) Sx_nil)
noncomputable def n_law : List Str := [(Str.ofString "script"), (Str.ofString "cells"), (Str.ofString "size"), (Str.ofString "text"), (Str.ofString "due"), (Str.ofString "rows"), (Str.ofString "starts"), (Str.ofString "walked"), (Str.ofString "number"), (Str.ofString "cell"), (Str.ofString "lead"), (Str.ofString "columns"), (Str.ofString "piece"), (Str.ofString "line"), (Str.ofString "short"), (Str.ofString "sent"), (Str.ofString "told"), (Str.ofString "place"), (Str.ofString "row"), (Str.ofString "start"), (Str.ofString "spots"), (Str.ofString "column"), (Str.ofString "back")]
noncomputable def F_law (quoteS bisRS columnsS wsS levelS placeS : List V → List (Str × V) → Option V) : Sg → Rs := (fSeq (fSet 1 (fComp (fItE (fCons (fLst (fCons (fV (.int 256)) (fCons (fV (.int 0)) (fCons (fV (.int 147)) (fCons (fV (.int 3)) fNil'))))) fNil')) spTwo 2 tTrue (fBin .Add (fGet 1) (fBi sumD (fCons (fSlice (fGet 2) (fGet 0) (fV .none) (fV (.int 4))) fNil'))) [0])) (fSeq (fSet 2 (fBin .Add (fBin .Mod (fItem (fGet 1) (fV (.int 3))) (fV (.int 4))) (fV (.int 1)))) (fSeq (fSet 3 (fV (.str (Str.ofString "")))) (fSeq (fSet 4 (fV (.str (Str.ofString "")))) (fSeq (fOwn 5 (fLst fNil')) (fSeq (fOwn 6 (fLst fNil')) (fSeq (fOwn 7 (fLst fNil')) (fSeq (fForS spTwo 2 [8, 9] (fItE (fCons (fSlice (fGet 1) (fV .none) (fV (.int 3)) (fV .none)) fNil')) (fSeq (fSet 10 (fMethB "str" joinD (fV (.str (Str.ofString ""))) (fCons (fComp (fIt (fSliceT (fTup (fCons (fV (.int 4)) (fCons (fV (.int 8)) (fCons (fV (.int 16)) fNil')))) (fBin .Mod (fGet 9) (fV (.int 4))))) sp1 1 tTrue (sealF (fItem (fV (.str (Str.ofString " \t"))) (fBin .Mod (fBin .FloorDiv (fGet 1) (fGet 0)) (fV (.int 2))))) [9]) fNil'))) (fSeq (fSet 11 (fCall columnsS (fCons (fGet 10) (fCons (fGet 2) fNil')) fKwNil)) (fSeq (fSet 12 (fBin .Add (fGet 10) (fItem (fTup (fCons (fV (.str (Str.ofString ""))) (fCons (fV (.str (Str.ofString ".\t"))) (fCons (fV (.str (Str.ofString "..\t"))) fNil')))) (fBin .Mod (fBin .FloorDiv (fGet 9) (fV (.int 96))) (fV (.int 3)))))) (fSeq (fSet 13 (fBin .Add (fBin .Add (fIf (fCmp .Eq (fSlice (fGet 12) (fV .none) (fV (.int 1)) (fV .none)) (fV (.str (Str.ofString ".")))) (fV (.str (Str.ofString "."))) (fV (.str (Str.ofString "")))) (fGet 12)) (fV (.str (Str.ofString "\r\n"))))) (fSeq (fAppend 6 (fBi lenD (fCons (fCall quoteS (fCons (fGet 3) fNil') fKwNil) fNil'))) (fSeq (fSet 14 (fAndV (fCmpV .Eq (fGet 12) (fV (.str (Str.ofString "")))) (fCmpV .Eq (fSlice (fGet 3) (fNeg (fV (.int 1))) (fV .none) (fV .none)) (fV (.str (Str.ofString "\r")))))) (fSeq (fAug 3 .Add (fBin .Add (fGet 12) (fIf (fTr (fGet 14)) (fV (.str (Str.ofString "\r"))) (fItem (fTup (fCons (fV (.str (Str.ofString "\r\n"))) (fCons (fV (.str (Str.ofString "\n"))) (fCons (fV (.str (Str.ofString "\r"))) fNil')))) (fBin .Mod (fBin .FloorDiv (fGet 9) (fV (.int 32))) (fV (.int 3))))))) (fSeq (fAug 4 .Add (fGet 13)) (fSeq (fAppend 5 (fHid (fGet 11))) (fSeq (fAugL 7 (fComp (fIt (fBi rangeD (fCons (fBi lenD (fCons (fGet 13) fNil')) fNil'))) sp1 1 tTrue (fTup (fCons (sealF (fGet 1)) (fCons (sealF (fItem (fGet 3) (fBi minD (fCons (fGet 0) (fCons (fBi lenD (fCons (fGet 2) fNil')) fNil'))))) fNil'))) [8, 10, 11])) fNil))))))))))) (fSeq (fSet 15 (fCall quoteS (fCons (fGet 3) fNil') fKwNil)) (fSeq (fIf (fCmp .NotEq (fGet 15) (fGet 4)) (fSeq (fRet (fV (.bool false))) fNil) fNil) (fSeq (fOwn 16 (fLst fNil')) (fSeq (fForS sp1 1 [17] (fIt (fBi rangeD (fCons (fBi lenD (fCons (fGet 15) fNil')) fNil'))) (fSeq (fSet 18 (fBin .Sub (fCall bisRS (fCons (fGet 6) (fCons (fGet 17) fNil')) fKwNil) (fV (.int 1)))) (fSeq (fAppend 16 (fTup (fCons (sealF (fGet 18)) (fCons (fMeth 135 (Str.ofString "indent_level") levelS (fCall wsS (fCons (fSlice (fGet 15) (fItem (fGet 6) (fGet 18)) (fGet 17) (fV .none)) fNil') fKwNil) (fCons (fGet 2) fNil')) fNil')))) fNil))) (fSeq (fIf (fCmp .NotEq (fGet 16) (fGet 7)) (fSeq (fRet (fV (.bool false))) fNil) fNil) (fFrz 5 (fFrz 6 (fSeq (fForS spTwo 2 [19, 20] (fItZ (fCons (fGet 6) (fCons (fGet 5) fNil'))) (fSeq (fForS sp1 1 [21] (fIt (fBi rangeD (fCons (fBin .Add (fItem (fGet 20) (fNeg (fV (.int 1)))) (fV (.int 2))) fNil'))) (fSeq (fSet 22 (fCall placeS (fCons (fGet 15) (fCons (fGet 19) (fCons (fBin .Sub (fBi lenD (fCons (fGet 20) fNil')) (fV (.int 1))) (fCons (fGet 2) (fCons (fGet 21) fNil'))))) fKwNil)) (fSeq (fIf (fCmp .NotEq (fGet 22) (fBin .Add (fGet 19) (fBi lenD (fCons (fComp (fIt (fGet 20)) sp1 1 (fCmp .Lt (fGet 0) (fGet 1)) (sealF (fGet 0)) [21]) fNil')))) (fSeq (fRet (fV (.bool false))) fNil) fNil) fNil))) fNil)) (fSeq (fRet (fV (.bool true))) fNil)))))))))))))))))
theorem sx_law {C : Cx} {k : Nat} {P : Params} {quoteS bisRS columnsS wsS levelS placeS : List V → List (Str × V) → Option V} (gl : GL C (hd.heap_39 P)) (hQ : PureFn C k (.ref 55) quoteS) (hBR : PureFn C k (.ref 64) bisRS) (hCo : PureFn C k (.ref 146) columnsS) (hWS : PureFn C k (.ref 135) wsS) (hLv : PureFn C k (.ref 104) levelS) (hPl : TFn C k (.ref 153) placeS) : Sx C k n_law (KS (fnOf (hd.heap_39 P) 158).scope) (bodyOf (fnOf (hd.heap_39 P) 158)) (F_law quoteS bisRS columnsS wsS levelS placeS) :=
  (Sx_cons (S1_AssignComp 1 rfl [0] (compOk (cn := [(Str.ofString "script")]) (tn := [(Str.ofString "at"), (Str.ofString "first")]) rfl (by decide +kernel) (by decide +kernel) (by decide +kernel) (by decide +kernel) (by decide +kernel) (by decide +kernel) rfl (kcell (okCells rfl))) (x_ItE (x_Bui gl (kg rfl) rfl rfl) (As_cons ((x_Lst (Ds_cons x_Int (Ds_cons x_Int (Ds_cons x_Int (Ds_cons x_Int x_Ds0)))))).toB x_As0)) Tg_Two TL_nil (Ex_Bin (x_Name 1 rfl) ((x_Bi (x_Bui gl (kgc rfl) rfl rfl) pure_sum (As_cons (Ex_Slice (x_Name 2 rfl) (P_some (x_Name 0 rfl)) P_none (P_some (x_Int).toB)) x_As0))).toB) (by intro env e; unfold swapsWith Env.blockKind Env.kindOf; rw [e]; rfl)) (Sx_cons (S1_Assign 2 rfl (Ex_Bin ((Ex_Bin (Ex_Item (x_Name 1 rfl) (x_Int).toB) (x_Int).toB)).toB (x_Int).toB)) (Sx_cons (S1_Assign 3 rfl x_Str) (Sx_cons (S1_Assign 4 rfl x_Str) (Sx_cons (S1_AssignOwn 5 rfl (x_Lst x_Ds0)) (Sx_cons (S1_AssignOwn 6 rfl (x_Lst x_Ds0)) (Sx_cons (S1_AssignOwn 7 rfl (x_Lst x_Ds0)) (Sx_cons (x_For [8, 9] 2 (x_ItE (x_Bui gl (kg rfl) rfl rfl) (As_cons (Ex_Slice (x_Name 1 rfl) P_none (P_some (x_Int).toB) P_none) x_As0)) Tg_Two rfl rfl (Sx_cons (S1_Assign 10 rfl (x_Join (x_Str).toB (As_cons ((Ex_Comp [9] (compOk (cn := [(Str.ofString "cell")]) (tn := [(Str.ofString "step")]) rfl (by decide +kernel) (by decide +kernel) (by decide +kernel) (by decide +kernel) (by decide +kernel) (by decide +kernel) rfl (kcell (okCells rfl))) (x_It (Ex_SliceT ((x_Tup (Ds_cons x_Int (Ds_cons x_Int (Ds_cons x_Int x_Ds0))))).toB ((Ex_Bin (x_Name 9 rfl) (x_Int).toB)).toB)) x_T1 TL_nil ((Ex_Item (x_Str).toB ((Ex_Bin ((Ex_Bin (x_Name 1 rfl) (x_Name 0 rfl))).toB (x_Int).toB)).toB)).seal)).toB x_As0))) (Sx_cons (S1_Assign 11 rfl (x_Fn gl (x_Glob gl (kg rfl) rfl) hCo rfl (As_cons (x_Name 10 rfl) (As_cons (x_Name 2 rfl) x_As0)) x_Kw0)) (Sx_cons (S1_Assign 12 rfl (Ex_Bin (x_Name 10 rfl) (Ex_Item ((x_Tup (Ds_cons x_Str (Ds_cons x_Str (Ds_cons x_Str x_Ds0))))).toB ((Ex_Bin ((Ex_Bin (x_Name 9 rfl) (x_Int).toB)).toB (x_Int).toB)).toB))) (Sx_cons (S1_Assign 13 rfl (Ex_Bin ((Ex_Bin (Ex_IfB (Tx_Cmp (Ex_Slice (x_Name 12 rfl) P_none (P_some (x_Int).toB) P_none) (x_Str).toB) (x_Str).toB (x_Str).toB) (x_Name 12 rfl))).toB (x_Str).toB)) (Sx_cons (S1_Append 6 rfl ((x_Bi (x_Bui gl (kg rfl) rfl rfl) pure_len (As_cons ((x_Fn gl (x_Glob gl (kg rfl) rfl) hQ rfl (As_cons (x_Name 3 rfl) x_As0) x_Kw0)).toB x_As0))).toS) (Sx_cons (S1_Assign 14 rfl (Ex_AndV ((x_Cmp (x_Name 12 rfl) (x_Str).toB)).toB (x_Cmp (Ex_Slice (x_Name 3 rfl) (P_some ((x_Neg (x_Int).toB)).toB) P_none P_none) (x_Str).toB))) (Sx_cons (S1_Aug 3 rfl ((Ex_Bin (x_Name 12 rfl) (Ex_IfB (x_Tr (x_Name 14 rfl)) (x_Str).toB (Ex_Item ((x_Tup (Ds_cons x_Str (Ds_cons x_Str (Ds_cons x_Str x_Ds0))))).toB ((Ex_Bin ((Ex_Bin (x_Name 9 rfl) (x_Int).toB)).toB (x_Int).toB)).toB)))).toB) (Sx_cons (S1_Aug 4 rfl (x_Name 13 rfl)) (Sx_cons (S1_Append 5 rfl (x_Hid (x_Name 11 rfl))) (Sx_cons (S1_AugL 7 rfl ((Ex_Comp [8, 10, 11] (compOk (cn := [(Str.ofString "number"), (Str.ofString "lead"), (Str.ofString "columns")]) (tn := [(Str.ofString "at")]) rfl (by decide +kernel) (by decide +kernel) (by decide +kernel) (by decide +kernel) (by decide +kernel) (by decide +kernel) rfl (kcell (okCells rfl))) (x_It ((x_Ty (x_Bui gl (kg rfl) rfl rfl) pure_range (As_cons ((x_Bi (x_Bui gl (kg rfl) rfl rfl) pure_len (As_cons (x_Name 13 rfl) x_As0))).toB x_As0))).toB) x_T1 TL_nil (x_Tup (Ds_cons ((x_Name 1 rfl)).seal (Ds_cons ((Ex_Item (x_Name 3 rfl) ((x_Bi (x_Bui gl (kgc rfl) rfl rfl) pure_min (As_cons (x_Name 0 rfl) (As_cons ((x_Bi (x_Bui gl (kgc rfl) rfl rfl) pure_len (As_cons (x_Name 2 rfl) x_As0))).toB x_As0)))).toB)).seal x_Ds0))))).toS) Sx_nil))))))))))) (Sx_cons (S1_Assign 15 rfl (x_Fn gl (x_Glob gl (kg rfl) rfl) hQ rfl (As_cons (x_Name 3 rfl) x_As0) x_Kw0)) (Sx_cons (S1_If (Tx_Cmp (x_Name 15 rfl) (x_Name 4 rfl)) (Sx_cons (S1_Ret x_Bool) Sx_nil) Sx_nil) (Sx_cons (S1_AssignOwn 16 rfl (x_Lst x_Ds0)) (Sx_cons (x_For [17] 1 (x_It ((x_Ty (x_Bui gl (kg rfl) rfl rfl) pure_range (As_cons ((x_Bi (x_Bui gl (kg rfl) rfl rfl) pure_len (As_cons (x_Name 15 rfl) x_As0))).toB x_As0))).toB) x_T1 rfl rfl (Sx_cons (S1_Assign 18 rfl (Ex_Bin ((x_Fn gl (x_Glob gl (kg rfl) rfl) hBR rfl (As_cons (x_Name 6 rfl) (As_cons (x_Name 17 rfl) x_As0)) x_Kw0)).toB (x_Int).toB)) (Sx_cons (S1_Append 16 rfl ((x_Tup (Ds_cons ((x_Name 18 rfl)).seal (Ds_cons (Ex_Meth gl.K 135 ((x_Fn gl (x_Glob gl (kg rfl) rfl) hWS rfl (As_cons (Ex_Slice (x_Name 15 rfl) (P_some (Ex_Item (x_Name 6 rfl) (x_Name 18 rfl))) (P_some (x_Name 17 rfl)) P_none) x_As0) x_Kw0)).toB rfl rfl rfl rfl hLv (As_cons (x_Name 2 rfl) x_As0)) x_Ds0)))).toS) Sx_nil))) (Sx_cons (S1_If (Tx_Cmp (x_Name 16 rfl) (x_Name 7 rfl)) (Sx_cons (S1_Ret x_Bool) Sx_nil) Sx_nil) (x_Frz 5 (x_Frz 6 (Sx_cons (x_For [19, 20] 2 (x_ItZ (x_Bui gl (kg rfl) rfl rfl) (As_cons (x_Name 6 rfl) (As_cons (x_Name 5 rfl) x_As0))) Tg_Two rfl rfl (Sx_cons (x_For [21] 1 (x_It ((x_Ty (x_Bui gl (kg rfl) rfl rfl) pure_range (As_cons ((Ex_Bin (Ex_Item (x_Name 20 rfl) ((x_Neg (x_Int).toB)).toB) (x_Int).toB)).toB x_As0))).toB) x_T1 rfl rfl (Sx_cons (x_CallT gl 22 rfl (x_Glob gl (kg rfl) rfl) hPl rfl (As_cons (x_Name 15 rfl) (As_cons (x_Name 19 rfl) (As_cons ((Ex_Bin ((x_Bi (x_Bui gl (kg rfl) rfl rfl) pure_len (As_cons (x_Name 20 rfl) x_As0))).toB (x_Int).toB)).toB (As_cons (x_Name 2 rfl) (As_cons (x_Name 21 rfl) x_As0)))))) (Sx_cons (S1_If (Tx_Cmp (x_Name 22 rfl) ((Ex_Bin (x_Name 19 rfl) ((x_Bi (x_Bui gl (kg rfl) rfl rfl) pure_len (As_cons ((Ex_Comp [21] (compOk (cn := [(Str.ofString "column")]) (tn := [(Str.ofString "one")]) rfl (by decide +kernel) (by decide +kernel) (by decide +kernel) (by decide +kernel) (by decide +kernel) (by decide +kernel) rfl (kcell (okCells rfl))) (x_It (x_Name 20 rfl)) x_T1 (TL_one (Tx_Cmp (x_Name 0 rfl) (x_Name 1 rfl))) ((x_Name 0 rfl)).seal)).toB x_As0))).toB)).toB) (Sx_cons (S1_Ret x_Bool) Sx_nil) Sx_nil) Sx_nil))) Sx_nil)) (Sx_cons (S1_Ret x_Bool) Sx_nil)))))))))))))))))
end Mine
set_option Elab.async false
set_option linter.unusedVariables false
set_option maxRecDepth 100000
set_option maxHeartbeats 4000000
namespace Mine
open PySem PySem.W PyProof.Rows
section
variable {C : Cx} {k : Nat} {P : Params}
theorem fi_quotedata (gl : GL C (hd.heap_39 P)) : FnIs C 55 (fnOf (hd.heap_39 P) 55) (bodyOf (fnOf (hd.heap_39 P) 55)) := FnIs.of gl.K (o := _) rfl rfl rfl rfl
theorem fi_bisect_right (gl : GL C (hd.heap_39 P)) : FnIs C 64 (fnOf (hd.heap_39 P) 64) (bodyOf (fnOf (hd.heap_39 P) 64)) := FnIs.of gl.K (o := _) rfl rfl rfl rfl
theorem fi_bisect_left (gl : GL C (hd.heap_39 P)) : FnIs C 73 (fnOf (hd.heap_39 P) 73) (bodyOf (fnOf (hd.heap_39 P) 73)) := FnIs.of gl.K (o := _) rfl rfl rfl rfl
theorem fi_init (gl : GL C (hd.heap_39 P)) : FnIs C 90 (fnOf (hd.heap_39 P) 90) (bodyOf (fnOf (hd.heap_39 P) 90)) := FnIs.of gl.K (o := _) rfl rfl rfl rfl
theorem fi_level (gl : GL C (hd.heap_39 P)) : FnIs C 104 (fnOf (hd.heap_39 P) 104) (bodyOf (fnOf (hd.heap_39 P) 104)) := FnIs.of gl.K (o := _) rfl rfl rfl rfl
theorem fi_columns (gl : GL C (hd.heap_39 P)) : FnIs C 146 (fnOf (hd.heap_39 P) 146) (bodyOf (fnOf (hd.heap_39 P) 146)) := FnIs.of gl.K (o := _) rfl rfl rfl rfl
theorem pa_quotedata : ParsAre (fnOf (hd.heap_39 P) 55) [(Str.ofString "data")] [] .none .none := ⟨rfl, rfl, rfl, rfl, rfl, rfl, rfl⟩
theorem pa_columns : ParsAre (fnOf (hd.heap_39 P) 146) [(Str.ofString "lead"), (Str.ofString "size")] [] .none .none := ⟨rfl, rfl, rfl, rfl, rfl, rfl, rfl⟩
theorem pa_level : ParsAre (fnOf (hd.heap_39 P) 104) [(Str.ofString "self"), (Str.ofString "tabsize")] [] .none .none := ⟨rfl, rfl, rfl, rfl, rfl, rfl, rfl⟩
theorem pa_init : ParsAre (fnOf (hd.heap_39 P) 90) [(Str.ofString "self"), (Str.ofString "ws")] [] .none .none := ⟨rfl, rfl, rfl, rfl, rfl, rfl, rfl⟩
theorem pa_bisect_right : ParsAre (fnOf (hd.heap_39 P) 64) (bisN.take 4) (bisN.drop 4) (.ref 56) (.ref 57) := ⟨rfl, rfl, rfl, rfl, rfl, rfl, rfl⟩
theorem pa_bisect_left : ParsAre (fnOf (hd.heap_39 P) 73) (bisN.take 4) (bisN.drop 4) (.ref 65) (.ref 66) := ⟨rfl, rfl, rfl, rfl, rfl, rfl, rfl⟩
theorem dv_right : ∃ t n t' n' z, (hd.heap_39 P).lookup 56 = some (tupObj #[.int 0 t, .none] n) ∧ (hd.heap_39 P).lookup 57 = some { cls := .type "dict", data := .dict #[⟨z, .str (Str.ofString "key") t', .none⟩] n' } := ⟨_, _, _, _, _, rfl, rfl⟩
theorem dv_left : ∃ t n, (hd.heap_39 P).lookup 65 = some (tupObj #[.int 0 t, .none] n) := ⟨_, _, rfl⟩
noncomputable def quoteS : List V → List (Str × V) → Option V := fun args kws => (bindPos 1 args kws).bind fun vs => (F_quotedata (vs.map .val ++ List.replicate 0 .unset)).bind retV
theorem pf_quotedata (ht : C.T = []) (gl : GL C (hd.heap_39 P)) : PureFn C (k + 1) (.ref 55) quoteS :=
  pure_def (pn := [(Str.ofString "data")]) (rest := []) ht (fi_quotedata gl) rfl (by decide +kernel) (okLocs rfl) (fun _ => rfl) (sx_quotedata gl) (bindPos_ok (pn := [(Str.ofString "data")]) (bind1 pa_quotedata))
noncomputable def columnsS : List V → List (Str × V) → Option V := fun args kws => (bindPos 2 args kws).bind fun vs => (F_law_columns (vs.map .val ++ List.replicate 3 .unset)).bind retV
theorem pf_columns (ht : C.T = []) (gl : GL C (hd.heap_39 P)) : PureFn C (k + 1) (.ref 146) columnsS :=
  pure_def (pn := [(Str.ofString "lead"), (Str.ofString "size")]) (rest := n_law_columns.drop 2) ht (fi_columns gl) rfl (by decide +kernel) (okLocs rfl) (fun _ => rfl) (sx_law_columns gl) (bindPos_ok (pn := [(Str.ofString "lead"), (Str.ofString "size")]) (bind2 pa_columns))
noncomputable def levelS : List V → List (Str × V) → Option V := fun args kws => (bindPos 2 args kws).bind fun vs => (F_indent_level (vs.map .val ++ List.replicate 4 .unset)).bind retV
theorem pf_level (ht : C.T = []) (gl : GL C (hd.heap_39 P)) : PureFn C (k + 1) (.ref 104) levelS :=
  pure_def (pn := [(Str.ofString "self"), (Str.ofString "tabsize")]) (rest := n_indent_level.drop 2) ht (fi_level gl) rfl (by decide +kernel) (okLocs rfl) (fun _ => rfl) (sx_indent_level gl) (bindPos_ok (pn := [(Str.ofString "self"), (Str.ofString "tabsize")]) (bind2 pa_level))
noncomputable def bindB : List V → List (Str × V) → Option (List V)
  | [a, x], [] => some [a, x, .int 0, .none, .none]
  | _, _ => none
noncomputable def bindK : List V → List (Str × V) → Option (List V)
  | [a, x, lo, hi], [(n, f)] => if n = Str.ofString "key" then some [a, x, lo, hi, f] else none
  | _, _ => none
theorem VRels.inv1 {P : PH} {v : V} {rs : List Value} (h : VRels P [v] rs) : ∃ r, rs = [r] ∧ VRel P v r := by
  unfold VRels at h
  obtain ⟨r, rs', rfl, h1, h2⟩ := h
  unfold VRels at h2
  exact ⟨r, by rw [h2], h1⟩
theorem VRels.invC {P : PH} {v : V} {vs : List V} {rs : List Value} (h : VRels P (v :: vs) rs) : ∃ r rs', rs = r :: rs' ∧ VRel P v r ∧ VRels P vs rs' := by
  unfold VRels at h; exact h
theorem VRels.invN {P : PH} {rs : List Value} (h : VRels P [] rs) : rs = [] := by
  unfold VRels at h; exact h
noncomputable def bisRS : List V → List (Str × V) → Option V := fun args kws => (bindB args kws).bind fun vs => (F_bisect_right (fun _ _ => none) (vs.map .val ++ List.replicate 1 .unset)).bind retV
theorem pf_bisect_right (ht : C.T = []) (gl : GL C (hd.heap_39 P)) : PureFn C (k + 1) (.ref 64) bisRS :=
  pure_def (pn := bisN) (rest := [(Str.ofString "mid")]) ht (fi_bisect_right gl) rfl (by decide +kernel) (okLocs rfl) (fun _ => rfl) (sx_bisect_right gl fun _ => .inr fun _ => rfl) fun s X args kws rargs rkws vs c r rk h => by
    unfold bindB at h
    split at h
    rotate_left
    · cases h
    cases h
    obtain ⟨r1, rs1, rfl, v1, r'⟩ := r.invC
    obtain ⟨r2, rfl, v2⟩ := r'.inv1
    obtain rfl := rk.invN
    obtain ⟨t, n, t', n', z, e1, e2⟩ := dv_right (P := P)
    refine ⟨[r1, r2, .int 0 t, .none, .none], rfl, bindB2 (Kf := [(56, tupObj #[.int 0 t, .none] n), (57, { cls := .type "dict", data := .dict #[⟨z, .str (Str.ofString "key") t', .none⟩] n' })]) pa_bisect_right s r1 r2 (fun a o e => ?_) (fun q S => rfl), VRels.cons v1 (VRels.cons v2 (VRels.cons ⟨t, rfl⟩ (VRels.cons (by unfold VRel; rfl) (VRels.cons (by unfold VRel; rfl) VRels.nil))))⟩
    rw [List.lookup_cons] at e
    by_cases h1 : a = 56
    · subst h1; cases e; exact c.b _ _ (gl.K _ _ e1)
    · rw [beq_eq_false_iff_ne.mpr h1] at e
      rw [List.lookup_cons] at e
      by_cases h2 : a = 57
      · subst h2; cases e; exact c.b _ _ (gl.K _ _ e2)
      · rw [beq_eq_false_iff_ne.mpr h2] at e; cases e
noncomputable def bisLS (Φ : Value → List V → Option V) : List V → List (Str × V) → Option V := fun args kws => (bindK args kws).bind fun vs => (F_bisect_left Φ (vs.map .val ++ List.replicate 1 .unset)).bind retV
theorem pf_bisect_left {Φ : Value → List V → Option V} (ht : C.T = []) (gl : GL C (hd.heap_39 P)) (hΦ : ∀ rv, (∃ a o fd, rv = .ref a ∧ C.base a o ∧ o.data = .func fd ∧ PureFn C k (.ref a) (fun vs ks => if ks.isEmpty then Φ rv vs else none)) ∨ ∀ vs, Φ rv vs = none) : PureFn C (k + 1) (.ref 73) (bisLS Φ) :=
  pure_def (pn := bisN) (rest := [(Str.ofString "mid")]) ht (fi_bisect_left gl) rfl (by decide +kernel) (okLocs rfl) (fun _ => rfl) (sx_bisect_left gl hΦ) fun s X args kws rargs rkws vs c r rk h => by
    unfold bindK at h
    split at h
    rotate_left
    · cases h
    rename_i a x lo hi n f
    by_cases hn : n = Str.ofString "key"
    rotate_left
    · rw [if_neg hn] at h; cases h
    rw [if_pos hn] at h
    subst hn
    cases h
    obtain ⟨r1, rs1, rfl, v1, r'⟩ := r.invC
    obtain ⟨r2, rs2, rfl, v2, r'⟩ := r'.invC
    obtain ⟨r3, rs3, rfl, v3, r'⟩ := r'.invC
    obtain ⟨r4, rfl, v4⟩ := r'.inv1
    obtain ⟨r5, rfl, v5⟩ := rk.inv1
    obtain ⟨t, m, e1⟩ := dv_left (P := P)
    exact ⟨[r1, r2, r3, r4, r5], rfl, bindB5 pa_bisect_left s r1 r2 r3 r4 r5 (c.b _ _ (gl.K _ _ e1)), VRels.cons v1 (VRels.cons v2 (VRels.cons v3 (VRels.cons v4 (VRels.cons v5 VRels.nil))))⟩
end
end Mine
set_option Elab.async false
set_option linter.unusedVariables false
set_option maxRecDepth 100000
set_option maxHeartbeats 4000000
namespace Mine
open PySem PySem.W PyProof.Rows
noncomputable def wsS : List V → List (Str × V) → Option V := noKw fun vs => (match vs with | [.str ws] => if ws.length ≤ 400 then some (wsFs ws) else none | _ => none).map (.obj 135)
theorem freeFs_ws (ws : Str) : V.freeFs (wsFs ws) = true := by
  unfold wsFs
  generalize wsRun ws.cps.toList [] 0 0 0 = r
  show (true && (true && (true && ((V.frees (iL r.1) && (true && true)) && (true && true))))) = true
  rw [frees_iL]; rfl
section
variable {C : Cx} {k : Nat} {P : Params}
theorem pf_ws (ht : C.T = []) (gl : GL C (hd.heap_39 P)) : PureFn C (k + 2) (.ref 135) wsS :=
  pure_new (Kf := hd.heap_39 P) (fI := 90) (pn := [(Str.ofString "self"), (Str.ofString "ws")]) (rest := n_init.drop 2) (spec := fun vs => match vs with | [.str ws] => if ws.length ≤ 400 then some (wsFs ws) else none | _ => none)
    ht gl.K rfl rfl rfl (fi_init gl) rfl (bind2 pa_init) (by decide +kernel) (okLocs rfl) (fun _ => rfl) (is_init gl) fun vs fs h => by
      split at h
      rotate_left
      · cases h
      rename_i ws
      by_cases hw : ws.length ≤ 400
      rotate_left
      · rw [if_neg hw] at h; cases h
      rw [if_pos hw] at h
      cases h
      exact ⟨rfl, freeFs_ws ws, fun x => init_ws x ws hw⟩
noncomputable def lamE : List Stmt → Expr
  | [.Return (some (.Call _ _ [⟨_, .Lambda _ b _ _, _⟩] _)) _] => b
  | _ => .Constant .none 0 ⟨0, 0, 0, 0⟩
noncomputable def lamS : List Stmt → Scope
  | [.Return (some (.Call _ _ [⟨_, .Lambda _ _ s _, _⟩] _)) _] => s
  | _ => default
noncomputable def lamA : List Stmt → Arguments
  | [.Return (some (.Call _ _ [⟨_, .Lambda p _ _ _, _⟩] _)) _] => p
  | _ => ⟨[], [], none, [], [], none, []⟩
noncomputable def lamP : List Stmt → Pos
  | [.Return (some (.Call _ _ [⟨_, .Lambda _ _ _ p, _⟩] _)) _] => p
  | _ => ⟨0, 0, 0, 0⟩
noncomputable def placeB (P : Params) : List Stmt := bodyOf (fnOf (hd.heap_39 P) 153)
noncomputable def lamQ : Str := Str.ofString "_law_place.<locals>.<lambda>"
noncomputable def n_key : List Str := [(Str.ofString "place"), (Str.ofString "sent"), (Str.ofString "start"), (Str.ofString "size")]
noncomputable def F_key : Sg → Option V := (fMeth 135 (Str.ofString "indent_level") levelS (fCall wsS (fCons (fSlice (fGet 1) (fGet 2) (fGet 0) (fV .none)) fNil') fKwNil) (fCons (fGet 3) fNil'))
theorem ex_key (gl : GL C (hd.heap_39 P)) (hWS : PureFn C k (.ref 135) wsS) (hLv : PureFn C k (.ref 104) levelS) : ExF C k n_key (KS (lamS (placeB P))) (lamE (placeB P)) F_key :=
  (Ex_Meth gl.K 135 ((x_Fn gl (x_Glob gl (kg rfl) rfl) hWS rfl (As_cons (Ex_Slice (x_Name 1 rfl) (P_some (x_Name 2 rfl)) (P_some (x_Name 0 rfl)) P_none) x_As0) x_Kw0)).toB rfl rfl rfl rfl hLv (As_cons (x_Name 3 rfl) x_As0))
noncomputable def n_place : List Str := [(Str.ofString "sent"), (Str.ofString "start"), (Str.ofString "signs"), (Str.ofString "size"), (Str.ofString "column")]
noncomputable def F_pargs : Sg → Option (List V) := (fCons (fBi listD (fCons (fBi rangeD (fCons (fBi lenD (fCons (fGet 0) fNil')) fNil')) fNil')) (fCons (fGet 4) (fCons (fGet 1) (fCons (fBin .Add (fBin .Add (fGet 1) (fGet 2)) (fV (.int 1))) fNil'))))
noncomputable def placeEs : List Stmt → List Expr
  | [.Return (some (.Call _ es _ _)) _] => es
  | _ => []
theorem ex_pargs (gl : GL C (hd.heap_39 P)) : ExAs C k n_place (KS (fnOf (hd.heap_39 P) 153).scope) (placeEs (placeB P)) F_pargs :=
  (As_cons ((x_Ty (x_Bui gl (kg rfl) rfl rfl) pure_list (As_cons ((x_Ty (x_Bui gl (kg rfl) rfl rfl) pure_range (As_cons ((x_Bi (x_Bui gl (kg rfl) rfl rfl) pure_len (As_cons (x_Name 0 rfl) x_As0))).toB x_As0))).toB x_As0))).toB (As_cons (x_Name 4 rfl) (As_cons (x_Name 1 rfl) (As_cons ((Ex_Bin ((Ex_Bin (x_Name 1 rfl) (x_Name 2 rfl))).toB (x_Int).toB)).toB x_As0))))
noncomputable def keyF (f : Addr) (sent : Str) (start size : Int) : Value → List V → Option V := fun rv vs => match rv with
  | .ref a => if a = f then (match vs with | [v] => F_key (.val v :: [.str sent, .int start, .int size].map .val) | _ => none) else none
  | _ => none
noncomputable def Finds (sent : Str) (start size : Int) (pvs : List V) (i : Int) : Prop := ∀ f, bisLS (keyF f sent start size) pvs [(Str.ofString "key", .raw (.ref f))] = some (.int i)
open Classical in
noncomputable def placeS : List V → List (Str × V) → Option V := fun args kws => match args, kws with
  | [.str sent, .int start, .int signs, .int size, .int column], [] => (F_pargs ([.str sent, .int start, .int signs, .int size, .int column].map .val)).bind fun pvs =>
      if h : ∃ i : Int, Finds sent start size pvs i then some (.int (Classical.choose h)) else none
  | _, _ => none
theorem placeS_e {sent : Str} {start signs size column i : Int} {pvs : List V} (h1 : F_pargs ([.str sent, .int start, .int signs, .int size, .int column].map .val) = some pvs) (h2 : Finds sent start size pvs i) : placeS [.str sent, .int start, .int signs, .int size, .int column] [] = some (.int i) := by
  unfold placeS
  simp only [h1, Option.bind_some]
  have hx : ∃ i : Int, Finds sent start size pvs i := ⟨i, h2⟩
  rw [dif_pos hx]
  have := Classical.choose_spec hx 0
  rw [h2 0] at this
  exact this.symm
theorem placeS_some {args : List V} {v : V} (h : placeS args [] = some v) : ∃ sent start signs size column i pvs, args = [.str sent, .int start, .int signs, .int size, .int column] ∧ F_pargs ([.str sent, .int start, .int signs, .int size, .int column].map .val) = some pvs ∧ Finds sent start size pvs i ∧ v = .int i := by
  unfold placeS at h
  split at h
  rotate_left
  · cases h
  rename_i sent start signs size column _
  obtain ⟨pvs, h1, h2⟩ := Option.bind_eq_some_iff.mp h
  split at h2
  · rename_i hx
    cases h2
    exact ⟨sent, start, signs, size, column, _, pvs, rfl, h1, Classical.choose_spec hx, rfl⟩
  · cases h2
end
end Mine
set_option Elab.async false
set_option linter.unusedVariables false
set_option maxRecDepth 100000
set_option maxHeartbeats 4000000
namespace Mine
open PySem PySem.W PyProof.Rows
noncomputable def fPl : Sg → Option V := fun σ => ((fCons (fGet 0) (fCons (fGet 1) (fCons (fGet 2) (fCons (fGet 3) (fCons (fGet 4) fNil'))))) σ).bind fun args => placeS args []
noncomputable def K153 (P : Params) : Env → Prop := fun env => ∃ L, env = callEnvC (fnOf (hd.heap_39 P) 153) L 153
section
variable {C : Cx} {k : Nat} {P : Params}
theorem pb_eq : ∃ p pos kp rpos, placeB P = [.Return (some (.Call (.Name (Str.ofString "bisect_left") p) (placeEs (placeB P)) [⟨some (Str.ofString "key"), .Lambda (lamA (placeB P)) (lamE (placeB P)) (lamS (placeB P)) (lamP (placeB P)), kp⟩] pos)) rpos] := ⟨_, _, _, _, rfl⟩
theorem clos_eq (L : Addr) : ∃ clos, closureFor (lamS (placeB P)) (callEnvC (fnOf (hd.heap_39 P) 153) L 153) = pure clos ∧ clos.lookup (Str.ofString "sent") = (callEnvC (fnOf (hd.heap_39 P) 153) L 153).cells.lookup (Str.ofString "sent") ∧
    clos.lookup (Str.ofString "start") = (callEnvC (fnOf (hd.heap_39 P) 153) L 153).cells.lookup (Str.ofString "start") ∧ clos.lookup (Str.ofString "size") = (callEnvC (fnOf (hd.heap_39 P) 153) L 153).cells.lookup (Str.ofString "size") := ⟨_, rfl, rfl, rfl, rfl⟩
theorem qual_eq (L : Addr) : (callEnvC (fnOf (hd.heap_39 P) 153) L 153).qual ++ "<lambda>" = lamQ := by
  have : (callEnvC (fnOf (hd.heap_39 P) 153) L 153).qual = Str.ofString "_law_place" ++ ".<locals>." := rfl
  rw [this]
  decide +kernel
theorem kinds_eq (L : Addr) : (callEnvC (fnOf (hd.heap_39 P) 153) L 153).kindOf (Str.ofString "sent") = some .cell ∧ (callEnvC (fnOf (hd.heap_39 P) 153) L 153).kindOf (Str.ofString "start") = some .cell ∧ (callEnvC (fnOf (hd.heap_39 P) 153) L 153).kindOf (Str.ofString "size") = some .cell := ⟨rfl, rfl, rfl⟩
theorem Rd.cell {env : Env} {h : Heap} {x : Str} {rv : Value} (r : Rd env h x rv) (hk : env.kindOf x = some .cell) : ∃ c o, env.cells.lookup x = some c ∧ h.get? c = some o ∧ o.data = .cell (some rv) := by
  rcases r with ⟨e, _⟩ | ⟨_, c, l, o, q1, q2⟩
  · rw [hk] at e; cases e
  · exact ⟨c, o, l, q1, q2⟩
theorem hCH (gl : GL C (hd.heap_39 P)) (h : Heap) (hb : ∀ a o, C.base a o → h.get? a = some o) : CodeHd h 152 148 := codeHd_of_K (K := hd.heap_39 P) (fun a o e => hb a o (gl.K a o e)) rfl
theorem lamBind (q : Str) (clos : List (Str × Addr)) (pm ctv : Value) (c' : Addr) (x : Value) : bindArgs (kla_fn "<lambda>" q (lamA (placeB P)) (lamE (placeB P)) (lamS (placeB P)) clos pm (.ref c') ctv) ⟨[x], []⟩ = pure [(Str.ofString "place", x)] := by
  obtain ⟨q', e⟩ := (show ParsAre (kla_fn "<lambda>" q (lamA (placeB P)) (lamE (placeB P)) (lamS (placeB P)) clos pm (.ref c') ctv) [Str.ofString "place"] [] .none .none from ⟨rfl, rfl, rfl, rfl, rfl, rfl, rfl⟩).eq
  rw [e]
  rfl
theorem lamNames : (lamS (placeB P)).names.lookup (Str.ofString "place") = some .local ∧ ((n_key.drop 1).all fun x => (lamS (placeB P)).names.lookup x == some .free) = true ∧ (lamS (placeB P)).isCoroutine = false ∧ (lamS (placeB P)).isGenerator = false ∧ (lamS (placeB P)).kind = .function ∧ ((lamS (placeB P)).names.all fun x => x.2 != .cell) = true := ⟨rfl, rfl, rfl, rfl, rfl, rfl⟩
theorem fCons_inv {f : Sg → Option V} {g : Sg → Option (List V)} {σ : Sg} {v : V} {vs : List V} (h : fCons f g σ = some (v :: vs)) : f σ = some v ∧ g σ = some vs := by
  unfold fCons at h
  obtain ⟨x, h0, h⟩ := Option.bind_eq_some_iff.mp h
  obtain ⟨y, h1, e⟩ := Option.map_eq_some_iff.mp h
  cases e
  exact ⟨h0, h1⟩
theorem get5 {σ : Sg} {a b c d e : V} (h : (fCons (fGet 0) (fCons (fGet 1) (fCons (fGet 2) (fCons (fGet 3) (fCons (fGet 4) fNil'))))) σ = some [a, b, c, d, e]) : σ.get 0 = some a ∧ σ.get 1 = some b ∧ σ.get 2 = some c ∧ σ.get 3 = some d ∧ σ.get 4 = some e := by
  obtain ⟨h0, h⟩ := fCons_inv h
  obtain ⟨h1, h⟩ := fCons_inv h
  obtain ⟨h2, h⟩ := fCons_inv h
  obtain ⟨h3, h⟩ := fCons_inv h
  obtain ⟨h4, h⟩ := fCons_inv h
  exact ⟨h0, h1, h2, h3, h4⟩
theorem pargs_same {σ : Sg} {a b c d e : V} (h0 : σ.get 0 = some a) (h1 : σ.get 1 = some b) (h2 : σ.get 2 = some c) (h4 : σ.get 4 = some e) : F_pargs σ = F_pargs ([a, b, c, d, e].map .val) := by
  unfold F_pargs
  simp only [fCons, fBi, fBin, fGet, fNil', fV, h0, h1, h2, h4]
  rfl
theorem sx_place (gl : GL C (hd.heap_39 P)) (hT : C.T = [148]) (htk : C.tk = tkL (lamP (placeB P)) lamQ) (hB : ∀ h : Heap, (∀ a o, C.base a o → h.get? a = some o) → h.BuiltinsAt C.mg 148) :
    Sx C 4 n_place (K153 P) (placeB P) (fSeq (fRet fPl) fNil) := by
  obtain ⟨p, pos, kp, rpos, e⟩ := pb_eq (P := P)
  rw [e]
  refine Sx_cons (fun A env s₀ s σ σ' fl X G E R o fe ke c w q => ?_) Sx_nil
  unfold fRet at q
  obtain ⟨v, hv, q₁⟩ := Option.map_eq_some_iff.mp q
  cases q₁
  unfold fPl at hv
  obtain ⟨args, ha, hv₁⟩ := Option.bind_eq_some_iff.mp hv
  obtain ⟨sent, start, signs, size, column, i, pvs, rfl, hp, hfi, rfl⟩ := placeS_some hv₁
  obtain ⟨g0, g1, g2, g3, g4⟩ := get5 ha
  have hpv : F_pargs σ = some pvs := (pargs_same (d := .int size) g0 g1 g2 g4).trans hp
  obtain ⟨L, rfl⟩ := ke
  have ke' : KS (fnOf (hd.heap_39 P) 153).scope (callEnvC (fnOf (hd.heap_39 P) 153) L 153) := rfl
  obtain ⟨m, cm, ow, w⟩ := w
  refine wpAny_Return_some ?_
  refine wpAny_Call_Name_kw (wpAny_mono ((x_Glob gl (kg rfl) rfl : ExF C 4 n_place (KS (fnOf (hd.heap_39 P) 153).scope) (.Name (Str.ofString "bisect_left") p) (fRaw (.ref 73))) A _ s σ _ _ E R o ke' (w.ok c) w.inXF (w.view fe) rfl) (fun rf s₁ p₁ => ?_) fun _ _ x => x)
  have k₁ := p₁.1
  obtain rfl := p₁.2.toB.raw'
  have w₁ := w.kp k₁
  refine callWith_of (P := (hd.heap_39 P).In) (by rfl) (keeps_K (K := hd.heap_39 P) rfl) ?_
  refine evalArgs_gen (by rfl) (by rfl) (wpAny_mono (ex_pargs gl A _ s₁ σ pvs _ E pos R o ke' (w₁.ok c) w₁.inXF (w₁.view fe) hpv) (fun rvs s₂ p₂ => ?_) fun _ _ x => x)
  have w₂ := w₁.kp p₂.1
  obtain ⟨clos, hcl, c0, c1, c2⟩ := clos_eq (P := P) L
  obtain ⟨k0, kk1, kk2⟩ := kinds_eq (P := P) L
  show wpAny C.M A (evalAll [do let v ← eval (.Lambda (lamA (placeB P)) (lamE (placeB P)) (lamS (placeB P)) (lamP (placeB P))) (callEnvC (fnOf (hd.heap_39 P) 153) L 153); standAt pos; pure v]) _ _ s₂
  refine wpAny_evalAll_cons (wpAny_bind (mk_lam (T := 148) (cc := 152) (X := XF X (callEnvC (fnOf (hd.heap_39 P) 153) L 153)) hT (by rw [htk, qual_eq]) (w₂.ok c) (fun a ha => ?_) w₂.inXF rfl rfl (hCH gl) hcl rfl hB (by decide) fun f c' ctv s₃ gr nf hf hrec => wpAny_bind (wpAny_standAt (wpAny_pure (wpAny_evalAll_nil ?_)))))
  · obtain ⟨o', e', q'⟩ := w₂.tabs a ha
    exact ⟨o', e', q'.1, C.tkm _ _ _ (fun b o _ _ p => ⟨p.1, fun z => p.2 (z.elim (fun z => .inl (z.elim .inl fun z => .inr (.inl z))) .inr)⟩) q'.2⟩
  have w₃ := w₂.grow c gr
  have ok₃ := w₃.ok c
  rw [qual_eq] at hf hrec
  obtain ⟨c₂, oc, vs, t, e2, hoc, hd', hv'⟩ := id hrec
  cases e2
  obtain ⟨r0, rd0, v0⟩ := w₃.view fe 0 _ _ rfl g0
  obtain ⟨r1, rd1, v1⟩ := w₃.view fe 1 _ _ rfl g1
  obtain ⟨r3, rd3, v3⟩ := w₃.view fe 3 _ _ rfl g3
  obtain ⟨a0, o0, l0, h0, d0⟩ := rd0.cell k0
  obtain ⟨a1, o1, l1, h1, d1⟩ := rd1.cell kk1
  obtain ⟨a3, o3, l3, h3, d3⟩ := rd3.cell kk2
  obtain ⟨t0, rfl⟩ := v0.str'
  obtain ⟨t1, rfl⟩ := v1.int'
  obtain ⟨t3, rfl⟩ := v3.int'
  let LL : List (Addr × Obj) := [(f, kla_obj "<lambda>" lamQ (lamA (placeB P)) (lamE (placeB P)) (lamS (placeB P)) clos ((C.mg "__name__").getD .none) c' ctv), (c', oc), (a0, o0), (a1, o1), (a3, o3)]
  have mf : (f, kla_obj "<lambda>" lamQ (lamA (placeB P)) (lamE (placeB P)) (lamS (placeB P)) clos ((C.mg "__name__").getD .none) c' ctv) ∈ LL := .head _
  have mc : (c', oc) ∈ LL := .tail _ (.head _)
  have m0 : (a0, o0) ∈ LL := .tail _ (.tail _ (.head _))
  have m1 : (a1, o1) ∈ LL := .tail _ (.tail _ (.tail _ (.head _)))
  have m3 : (a3, o3) ∈ LL := .tail _ (.tail _ (.tail _ (.tail _ (.head _))))
  let CE : Cx := C.noT.ext LL (fun _ _ h => nomatch h)
  have okE : CE.Ok s₃.heap := ⟨fun a ob hb => by
    rcases hb with hb | hb
    · exact ok₃.b a ob hb
    · simp only [LL, List.mem_cons, List.not_mem_nil, or_false, Prod.mk.injEq] at hb
      rcases hb with ⟨rfl, rfl⟩ | ⟨rfl, rfl⟩ | ⟨rfl, rfl⟩ | ⟨rfl, rfl⟩ | ⟨rfl, rfl⟩
      · exact hf
      · exact hoc
      · exact h0
      · exact h1
      · exact h3, fun _ h => nomatch h⟩
  have glE : GL CE (hd.heap_39 P) := gl.noT.ext LL (fun _ _ h => nomatch h)
  obtain ⟨n1, n2, n3, n4, n5, n6⟩ := lamNames (P := P)
  have cap : Caps CE clos (n_key.drop 1) [.str sent, .int start, .int size] := .cons ⟨a0, o0, _, c0.trans l0, .inr m0, d0, fun _ => ⟨t0, rfl⟩⟩ (.cons ⟨a1, o1, _, c1.trans l1, .inr m1, d1, fun _ => ⟨t1, rfl⟩⟩ (.cons ⟨a3, o3, _, c2.trans l3, .inr m3, d3, fun _ => ⟨t3, rfl⟩⟩ .nil))
  have pl : PureFn CE 3 (.ref f) (fun args kws => if kws.isEmpty then (match args with | [v] => F_key (.val v :: [.str sent, .int start, .int size].map .val) | _ => none) else none) :=
    pure_lam (C := CE) (k := 2) (pn := Str.ofString "place") (cn := n_key.drop 1) (.inr mf) (fun h hh => ⟨c', oc, vs, t, rfl, hh _ _ (.inr mc), hd', hv'⟩) (lamBind lamQ clos _ ctv c') (ex_key glE (pf_ws (k := 0) rfl glE) (pf_level (k := 1) rfl glE)) n1
      (fun x hx => beq_iff_eq.mp (List.all_eq_true.mp n2 x hx)) cap n3 n4 n5 (fun x hx => bne_iff_ne.mp (List.all_eq_true.mp n6 x hx))
  have hΦ : ∀ rv, (∃ a o fd, rv = .ref a ∧ CE.base a o ∧ o.data = .func fd ∧ PureFn CE 3 (.ref a) (fun vs ks => if ks.isEmpty then keyF f sent start size rv vs else none)) ∨ ∀ vs, keyF f sent start size rv vs = none := fun rv => by
    cases rv with
    | ref a =>
      by_cases h : a = f
      · subst h
        refine .inl ⟨a, _, _, rfl, .inr mf, rfl, ?_⟩
        have : (fun (vs : List V) (ks : List (Str × V)) => if ks.isEmpty then keyF a sent start size (.ref a) vs else none) = (fun args kws => if kws.isEmpty then (match args with | [v] => F_key (.val v :: [.str sent, .int start, .int size].map .val) | _ => none) else none) := by
          funext vs ks
          unfold keyF
          first
            | (simp only [if_true]; done)
            | (simp only [if_true]; rcases vs with _ | ⟨v, _ | ⟨_, _⟩⟩ <;> rfl)
        rw [this]
        exact pl
      · refine .inr fun vs => ?_
        unfold keyF
        simp only [if_neg h]
    | _ => exact .inr fun vs => rfl
  have nC : ∀ a o, o.cls ≠ .none → s₂.heap.get? a = some o → a ∉ C.T := fun a o hc e q => by obtain ⟨o', e', q'⟩ := w₂.tabs a q; rw [e] at e'; cases e'; exact hc q'.1
  have rel₃ : VRels (rd (XF X (callEnvC (fnOf (hd.heap_39 P) 153) L 153)) s₃.heap) pvs rvs := p₂.2.monoC fun a o hc p => ⟨gr.keep a o (nC a o hc p.1) p.1, p.2⟩
  refine ⟨ok₃.frag gl.K, ?_⟩
  refine wpAny_mono (pf_bisect_left (C := CE) (k := 3) (Φ := keyF f sent start size) rfl glE hΦ A s₃ _ pvs [(Str.ofString "key", .raw (.ref f))] rvs [.ref f] (.int i) E R okE w₃.inXF rel₃ (VRels.cons (by unfold VRel; rfl) VRels.nil) (hfi f)) (fun rv s₄ p₄ => ?_) fun _ _ x => x
  refine ⟨⟨m, cm, ow, w₃.kp p₄.1⟩, rv, rfl, ?_⟩
  obtain ⟨t, rfl⟩ := p₄.2.int'
  exact ⟨t, rfl⟩
theorem fi_place (gl : GL C (hd.heap_39 P)) : FnIs C 153 (fnOf (hd.heap_39 P) 153) (placeB P) := FnIs.of gl.K (o := _) rfl rfl rfl rfl
theorem pa_place : ParsAre (fnOf (hd.heap_39 P) 153) [(Str.ofString "sent"), (Str.ofString "start"), (Str.ofString "signs"), (Str.ofString "size"), (Str.ofString "column")] [] .none .none := ⟨rfl, rfl, rfl, rfl, rfl, rfl, rfl⟩
theorem tf_place (gl : GL C (hd.heap_39 P)) (hT : C.T = [148]) (htk : C.tk = tkL (lamP (placeB P)) lamQ) (hB : ∀ h : Heap, (∀ a o, C.base a o → h.get? a = some o) → h.BuiltinsAt C.mg 148) : TFn C 5 (.ref 153) placeS := fun A s X args rargs v E R c i hTk r q => by
  obtain ⟨sent, start, signs, size, column, j, pvs, rfl, hp, hfi, rfl⟩ := placeS_some q
  have hF : fSeq (fRet fPl) fNil ([.str sent, .int start, .int signs, .int size, .int column].map .val ++ List.replicate 0 .unset) = some (.ret (.int j), [.str sent, .int start, .int signs, .int size, .int column].map .val ++ List.replicate 0 .unset) := by
    refine fSeq_ret (fRet_e ?_)
    unfold fPl
    show (some [V.str sent, .int start, .int signs, .int size, .int column]).bind (fun args => placeS args []) = _
    exact q
  refine fn_run (C := C) (k := 4) (fi_place gl) (pn := n_place) (rest := []) (vs := [.str sent, .int start, .int signs, .int size, .int column]) rfl (bind5 pa_place (by intro _ _ _ _ _ _; rfl) s rargs (by rw [r.length]; rfl)) (by decide +kernel) (okLocs rfl) r rfl (sx_place gl hT htk hB) (fun L => ⟨L, rfl⟩) hF R c i hTk fun s' rv env w hrv => ?_
  obtain ⟨m, cm, ow, w⟩ := w
  refine ⟨⟨w.same, w.keep, fun a ha => ?_⟩, ?_⟩
  · obtain ⟨o, e, q'⟩ := w.tabs a ha
    exact ⟨o, e, q'.1, C.tkm _ _ _ (fun b o _ _ p => ⟨p.1, fun z => p.2 (z.elim (fun z => .inl (.inl z)) .inr)⟩) q'.2⟩
  · dsimp only at hrv
    obtain ⟨t, rfl⟩ := hrv.int'
    exact fun _ => ⟨t, rfl⟩
end
end Mine
set_option Elab.async false
set_option linter.unusedVariables false
set_option maxRecDepth 100000
set_option maxHeartbeats 8000000
namespace Mine
open PySem PySem.W PyProof.Rows
theorem ints_rel {P : PH} : ∀ {vs : List Value} {ns : List Int}, IntsAre vs ns → VRels P (iL ns) vs
  | _, _, .nil => VRels.nil
  | _, _, .cons _ _ h => VRels.cons pInt (ints_rel h)
theorem well_lst {P : Params} {h : Heap} {l : Addr} {xs : List PyData} {vs : List Value} (w : Well P h (.ref l) (ofPy (.list xs))) (i : h.IsList l vs.toArray) : h.get? l = some (lstObj vs.toArray 0) := by
  obtain ⟨o, e, _, n, d⟩ := i
  unfold ofPy at w
  cases w with
  | list e' _ =>
    rw [e] at e'
    cases e'
    cases d
    exact e
/-- what the law's F must give -/
noncomputable def Law2 : Prop := ∀ ns : List Int, ns.length ≤ 63 → ∃ σ', F_law quoteS bisRS columnsS wsS levelS placeS (.val (.lst (iL ns)) :: List.replicate 22 .unset) = some (.ret (.bool true), σ')
section
variable {C : Cx} {P : Params}
theorem fi_law (gl : GL C (hd.heap_39 P)) : FnIs C 158 (fnOf (hd.heap_39 P) 158) (bodyOf (fnOf (hd.heap_39 P) 158)) := FnIs.of gl.K (o := _) rfl rfl rfl rfl
theorem pa_law : ParsAre (fnOf (hd.heap_39 P) 158) [(Str.ofString "script")] [] .none .none := ⟨rfl, rfl, rfl, rfl, rfl, rfl, rfl⟩
theorem law2_of (hF : Law2) : PySem.Challenge.rw_pk0101_02.Holds := hd (by
  intro w s₀ s₁ mg mb G Y fa o pm cd doc dV kV ho hd' hcd hD hmg hg args vals as hpre hlay hrd hwl hlo
  have KX := km_in_of Y
  have hT8 := km_tabs_of Y
  clear Y
  have T := G.T
  clear G
  have e158 : mg (Str.ofString "law") = some (.ref 158) := mg_of KX T.g rfl
  have hmg' : mg (Str.ofString "law") = some (.ref fa) := hmg
  rw [e158] at hmg'
  obtain rfl : fa = 158 := by cases hmg'; rfl
  clear hmg hmg'
  wrow_args hpre hlay hrd hwl hlo
  rename_i ns _ _ _ _ _ _ _ l vs _ hL _ hW _ hI _ hn _
  have hn' : ns.length ≤ 63 := by omega
  obtain ⟨σ', hF'⟩ := hF ns hn'
  have h148 : s₁.heap.get? 148 = some (tabObj #[]) := hT8 148 (.head _)
  have nT : ∀ a o, s₁.heap.get? a = some o → o ≠ tabObj #[] → a ≠ 148 := fun a o e hne q => hne (by subst q; rw [h148] at e; exact (Option.some.inj e).symm)
  have nsB : ∀ (h : Heap) (a : Addr) (m : Str → Option Value), s₁.heap.Ns a m → (∀ a o, (s₁.heap.get? a = some o ∧ a ≠ 148) → h.get? a = some o) → h.Ns a m := fun h a m n hb => by
    obtain ⟨o, es, ep, e, d, r⟩ := n
    exact ⟨o, es, ep, hb _ _ ⟨e, nT _ _ e fun q => by rw [q] at d; cases d⟩, d, r⟩
  let C1 : Cx := ⟨PySem.Challenge.rw_pk0101_02.row.toRowW.prog, w, fun a o => s₁.heap.get? a = some o ∧ a ≠ 148, [148], fun a o h q => h.2 (List.mem_singleton.mp q), mg, mb,
    fun h hb => nsB h _ _ T.g hb, fun h hb => nsB h _ _ T.b hb, fun h hb => (let ⟨mc, a, r⟩ := T.nolimit; ⟨mc, nsB h _ _ a hb, r⟩), tkL (lamP (placeB w.params)) lamQ, tkL_mono⟩
  have gl : GL C1 (hd.heap_39 w.params) := ⟨fun a o e => ⟨KX a o e, fun q => by subst q; cases e⟩, fun x v e => mg_of KX T.g e, fun x e => ns_none_of KX T.g e, fun x v e hx => (T.builtins x hx).trans e⟩
  have hB : ∀ h : Heap, (∀ a o, C1.base a o → h.get? a = some o) → h.BuiltinsAt C1.mg 148 := fun h hb => by
    obtain ⟨bm, ob, a1, a2, a3, a4, a5, a6⟩ := T.bmain
    refine ⟨bm, ob, a1, a2, fun q => ?_, nT _ _ a3 fun q => ?_, hb _ _ ⟨a3, nT _ _ a3 fun q => ?_⟩, a4, a5, a6⟩
    · obtain ⟨o', es, ep, e, d, _⟩ := T.g
      rw [q, e] at a3; cases a3; rw [d] at a6; cases a6
    · rw [q] at a4; cases a4
    · rw [q] at a4; cases a4
  have ok1 : C1.Ok s₁.heap := ⟨fun a o h => h.1, fun a ha => ⟨tabObj #[], by rw [List.mem_singleton.mp ha]; exact h148, rfl⟩⟩
  have rm : Rm 6 callerA := ⟨rfl, by decide +kernel, by decide +kernel⟩
  have hl : VRels (rd (fun _ => False) s₁.heap) [V.lst (iL ns)] [Value.ref l] := VRels.one (by
    unfold VRel
    exact ⟨l, vs.toArray, 0, rfl, ⟨well_lst hW hL, id⟩, by rw [List.toList_toArray]; exact ints_rel hI⟩)
  have gl0 : GL C1.noT (hd.heap_39 w.params) := gl.noT
  have hQ : PureFn C1 5 (.ref 55) quoteS := (pf_quotedata (k := 4) rfl gl0).ofNoT
  have hBR : PureFn C1 5 (.ref 64) bisRS := (pf_bisect_right (k := 4) rfl gl0).ofNoT
  have hCo : PureFn C1 5 (.ref 146) columnsS := (pf_columns (k := 4) rfl gl0).ofNoT
  have hWS : PureFn C1 5 (.ref 135) wsS := (pf_ws (k := 3) rfl gl0).ofNoT
  have hLv : PureFn C1 5 (.ref 104) levelS := (pf_level (k := 4) rfl gl0).ofNoT
  have hPl : TFn C1 5 (.ref 153) placeS := tf_place gl rfl rfl hB
  refine fn_run (C := C1) (k := 5) (N := n_law) (fi_law gl) (pn := [Str.ofString "script"]) (rest := n_law.drop 1) (rvs := [Value.ref l]) (rkws := []) (vs := [V.lst (iL ns)]) (X := fun _ => False) rfl (bind1 pa_law (by intro _ _; rfl) s₁ [Value.ref l] rfl) (by decide +kernel) (okLocs rfl) hl rfl
    (sx_law gl hQ hBR hCo hWS hLv hPl) (fun L => rfl) hF' rm ok1 (fun a h => h.elim) (fun a ha => ⟨tabObj #[], by rw [List.mem_singleton.mp ha]; exact h148, rfl, .inl rfl⟩) fun s' rv env w' hrv => ?_
  obtain rfl : rv = .bool true := hrv.bool'
  obtain ⟨m, cm, ow, w'⟩ := w'
  obtain ⟨tk, es⟩ := w'.same
  have hCH : CodeHd s₁.heap 152 148 := codeHd_of_K (K := hd.heap_39 w.params) KX rfl
  refine ⟨.inl ⟨.bool true, .bool true, [], rfl, raisesW_false (by wrow_none_raised), .bool _, ?_, fun _ => ⟨.nil, fun _ h => nomatch h⟩⟩, ⟨fun b o e => ?_, fun b o e => ?_⟩, by rw [es], .of_eq (by rw [es]; exact hg)⟩
  · wrow_post
  · by_cases hb : b = 148
    · subst hb
      rw [h148] at e
      cases e
      obtain ⟨o', e', _, q⟩ := w'.tabs 148 (.head _)
      have ht := (hCH.tab h148).isCodeTable
      rcases q with rfl | ⟨c', oc, vs, t, rfl, _⟩
      · exact .inr (.inl ⟨ht, rfl, #[], #[], rfl, e'⟩)
      · exact .inr (.inl ⟨ht, rfl, #[], #[rawInt (lamP (placeB w.params)).line, rawInt (lamP (placeB w.params)).col, .ref c'], rfl, e'⟩)
    · exact .inl (w'.keep b o (fun q => hb (List.mem_singleton.mp q)) e)
  · by_cases hb : b = 148
    · subst hb
      obtain ⟨o', e', _⟩ := w'.tabs 148 (.head _)
      exact ⟨o', e'⟩
    · exact ⟨o, w'.keep b o (fun q => hb (List.mem_singleton.mp q)) e⟩)
end
end Mine
set_option Elab.async false
set_option linter.unusedVariables false
set_option maxRecDepth 100000
set_option maxHeartbeats 4000000
namespace Mine
open PySem PySem.W PyProof.Rows
theorem dot_len : ∀ (l : List Nat) (p : Bool), (dot p l).length ≤ 2 * l.length
  | [], _ => Nat.zero_le _
  | c :: r, p => by
    unfold dot
    have h1 := dot_len r false
    have h2 := dot_len r (c == 10)
    split
    all_goals simp only [List.length_cons]; omega
theorem quote_e (l : List Nat) (h : l.length ≤ 4000) : quoteS [.str (mk l)] [] = some (.str (mk (qd l))) := by
  have h2 := nrm_len l false
  have e2 : fMethR 48 (subD 48 (Str.ofString "\r\n") f2) (fCons (fStrG (Str.ofString "\r\n")) (fCons (fGet 0) fNil')) [.val (.str (mk l))] = some (.str (mk (nrm false l))) := sub2_e l h
  have e1 : fMethR 43 (subD 43 (Str.ofString "..") f1) (fCons (fV (.str (Str.ofString ".."))) (fCons (fMethR 48 (subD 48 (Str.ofString "\r\n") f2) (fCons (fStrG (Str.ofString "\r\n")) (fCons (fGet 0) fNil'))) fNil')) [.val (.str (mk l))] = some (.str (mk (qd l))) := by
    unfold fMethR at e2 ⊢
    rw [fCons_e rfl (fCons_e e2 fNil_e)]
    exact sub1_e _ (by omega)
  show ((F_quotedata [.val (.str (mk l))]).bind retV) = _
  have e3 : F_quotedata [.val (.str (mk l))] = some (.ret (.str (mk (qd l))), [.val (.str (mk l))]) := by
    unfold F_quotedata
    exact fSeq_ret (fRet_e e1)
  rw [e3]
  rfl
noncomputable def colN (size here : Nat) (sign : Nat) : Nat := if sign = 9 then here + (size - here % size) else here + 1
noncomputable def cols (size : Nat) : Nat → List Nat → List Int
  | here, [] => [(here : Int)]
  | here, s :: r => (here : Int) :: cols size (colN size here s) r
noncomputable def colsB : Sg → Rs := (fSeq (fSet 4 (sealF (fItem (fGet 2) (fNeg (fV (.int 1)))))) (fSeq (fAppend 2 (fBin .Add (fGet 4) (fIf (fCmp .Eq (fGet 3) (fV (.str (Str.ofString "\t")))) (fBin .Sub (fGet 1) (fBin .Mod (fGet 4) (fGet 1))) (fV (.int 1))))) fNil))
noncomputable def cSt (lead : V) (size : Int) (cs : List Int) (a b : Slot) : Sg := [.val lead, .val (.int size), .own (iL cs), a, b]
theorem colsB_e (lead : V) (size : Nat) (cs : List Int) (here : Nat) (c : Nat) (a b : Slot) (h1 : 1 ≤ size) (hl : cs.length ≤ 1000) : colsB (cSt lead size (cs ++ [(here : Int)]) (.val (.str ⟨#[c]⟩)) b) = some (.next, cSt lead size (cs ++ [(here : Int)] ++ [(colN size here c : Int)]) (.val (.str ⟨#[c]⟩)) (.val (.int here))) := by
  have hlen : (iL cs).length ≤ 1000 := by rw [iL_len]; exact hl
  have e1 : fSet 4 (sealF (fItem (fGet 2) (fNeg (fV (.int 1))))) (cSt lead size (cs ++ [(here : Int)]) (.val (.str ⟨#[c]⟩)) b) = some (.next, cSt lead size (cs ++ [(here : Int)]) (.val (.str ⟨#[c]⟩)) (.val (.int here))) := by
    refine (fSet_e (v := .int here) (fSeal_e (fItem_e (a := .lst (iL (cs ++ [(here : Int)]))) (b := .int (-1)) rfl rfl ?_) rfl)).trans rfl
    have : iL (cs ++ [(here : Int)]) = iL cs ++ [.int here] := by unfold iL; rw [List.map_append]; rfl
    rw [this]
    exact item_last (by omega)
  have e2 : fIf (fCmp .Eq (fGet 3) (fV (.str (Str.ofString "\t")))) (fBin .Sub (fGet 1) (fBin .Mod (fGet 4) (fGet 1))) (fV (.int 1)) (cSt lead size (cs ++ [(here : Int)]) (.val (.str ⟨#[c]⟩)) (.val (.int here))) = some (.int (if c = 9 then ((size - here % size : Nat) : Int) else 1)) := by
    rw [eT]
    by_cases h9 : c = 9
    · subst h9
      rw [fIf_t (fCmp_e (a := .str ⟨#[9]⟩) (b := .str ⟨#[9]⟩) rfl rfl rfl), if_pos rfl]
      refine fBin_e (a := .int size) (b := .int ((here % size : Nat) : Int)) rfl (fBin_e (a := .int here) (b := .int size) rfl rfl ?_) ?_
      · rw [mod_int _ (by omega), Int.fmod_eq_emod_of_nonneg _ (by omega)]; rfl
      · rw [sub_int]
        have := Nat.mod_lt here (show 0 < size by omega)
        have e : (size : Int) - ((here % size : Nat) : Int) = ((size - here % size : Nat) : Int) := by omega
        rw [e]
    · rw [fIf_f (fCmp_e (a := .str ⟨#[c]⟩) (b := .str ⟨#[9]⟩) rfl rfl (by simp [cmpD, h9])), if_neg h9]
      rfl
  unfold colsB
  rw [fSeq_next e1]
  refine (fSeq_next ((fApp_e (v := .int (colN size here c)) (xs := iL (cs ++ [(here : Int)])) (fBin_e (a := .int here) rfl e2 ?_) rfl (by rw [iL_len, List.length_append]; simp; omega)).trans ?_)).trans rfl
  · rw [add_int]
    unfold colN
    split
    · push_cast; rfl
    · push_cast; rfl
  · have : iL (cs ++ [(here : Int)]) ++ [.int (colN size here c)] = iL (cs ++ [(here : Int)] ++ [(colN size here c : Int)]) := by unfold iL; rw [List.map_append (l₁ := cs ++ [_])]; rfl
    rw [this]
    rfl
theorem colsLoop (lead : V) (size : Nat) (h1 : 1 ≤ size) : ∀ (l : List Nat) (cs : List Int) (here : Nat) (a b : Slot), cs.length + l.length ≤ 1000 →
    ∃ a' b', fFor (fSp sp1 1 [3]) colsB (l.map fun c => .str ⟨#[c]⟩) (cSt lead size (cs ++ [(here : Int)]) a b) = some (.next, cSt lead size (cs ++ cols size here l) a' b')
  | [], cs, here, a, b, _ => ⟨a, b, rfl⟩
  | c :: l, cs, here, a, b, hl => by
    rw [List.length_cons] at hl
    have e0 : fSp sp1 1 [3] (.str ⟨#[c]⟩) (cSt lead size (cs ++ [(here : Int)]) a b) = some (cSt lead size (cs ++ [(here : Int)]) (.val (.str ⟨#[c]⟩)) b) := rfl
    rw [List.map_cons]
    unfold fFor
    rw [e0]
    simp only [Option.bind_some, colsB_e lead size cs here c a b h1 (by omega)]
    obtain ⟨a', b', e⟩ := colsLoop lead size h1 l (cs ++ [(here : Int)]) (colN size here c) (.val (.str ⟨#[c]⟩)) (.val (.int here)) (by rw [List.length_append]; simp; omega)
    refine ⟨a', b', e.trans ?_⟩
    conv => rhs; unfold cols
    rw [List.append_assoc]
    rfl
theorem chrs_mk (l : List Nat) : chrs (mk l) = l.map fun c => .str ⟨#[c]⟩ := by unfold chrs; rw [mk_l]
theorem columns_e (l : List Nat) (size : Nat) (h1 : 1 ≤ size) (hl : l.length ≤ 900) : columnsS [.str (mk l), .int size] [] = some (.lst (iL (cols size 0 l))) := by
  obtain ⟨a', b', e⟩ := colsLoop (.str (mk l)) size h1 l [] 0 .unset .unset (by simp; omega)
  show ((F_law_columns [.val (.str (mk l)), .val (.int size), .unset, .unset, .unset]).bind retV) = _
  have hit : fIt (fGet 0) (cSt (.str (mk l)) size ([] ++ [((0 : Nat) : Int)]) .unset .unset).hide = some (l.map fun c => .str ⟨#[c]⟩) := fIt_e (v := .str (mk l)) rfl (by rw [← chrs_mk]; rfl)
  have e3 : F_law_columns [.val (.str (mk l)), .val (.int size), .unset, .unset, .unset] = some (.ret (.lst (iL (cols size 0 l))), cSt (.str (mk l)) size ([] ++ cols size 0 l) a' b') := by
    refine (fSeq_next (F := fOwn 2 (fLst (fCons (fV (.int 0)) fNil'))) (σ₁ := cSt (.str (mk l)) size ([] ++ [((0 : Nat) : Int)]) .unset .unset) rfl).trans ?_
    refine (fSeq_next ((fForS_e hit).trans e)).trans ?_
    refine fSeq_ret ?_
    unfold fRetOwn
    show ((some (iL ([] ++ cols size 0 l))).bind _) = _
    simp only [Option.bind_some, List.nil_append, frees_iL, if_true]
  rw [e3]
  rfl
theorem level_e (ws : Str) (size : Nat) (h1 : 1 ≤ size) (h2 : size ≤ 1000) (hw : ws.length ≤ 400) : levelS [.obj 135 (wsFs ws), .int size] [] = some (.int (lvl size (wR ws.cps.toList))) := by
  obtain ⟨σ', e⟩ := lvl_e ws size h1 h2 hw
  show ((F_indent_level [.val (.obj 135 (wsFs ws)), .val (.int size), .unset, .unset, .unset, .unset]).bind retV) = _
  have : F_indent_level = lvlF := rfl
  rw [this, e]
  rfl
theorem ws_e (ws : Str) (hw : ws.length ≤ 400) : wsS [.str ws] [] = some (.obj 135 (wsFs ws)) := by
  show ((if ws.length ≤ 400 then some (wsFs ws) else none).map (V.obj 135)) = _
  rw [if_pos hw]
  rfl
theorem bisR_law (a : List V) (x : V) {p : Nat → Bool} {r : Nat} (ha : a.length < 40) (hu : ∀ j u, a[j]? = some u → cmpD .Lt x u = some (!p j)) (hp : ∀ j, j < a.length → p j = decide (j < r)) (hr : r ≤ a.length) : bisRS [.lst a, x] [] = some (.int r) := by
  obtain ⟨σ', e⟩ := bisR_e (Φ := fun _ _ => none) (W := (fSeq (fWhile (fCmp .Lt (fGet 2) (fGet 3)) (fSeq (fSet 5 (fBin .FloorDiv (fBin .Add (fGet 2) (fGet 3)) (fV (.int 2)))) (fSeq (fIf (fCmp .Lt (fGet 1) (fCallV (fun _ _ => none) (fGet 4) (fCons (fItem (fGet 0) (fGet 5)) fNil'))) (fSeq (fSet 3 (sealF (fGet 5))) fNil) (fSeq (fSet 2 (fBin .Add (fGet 5) (fV (.int 1)))) fNil)) fNil)) 40) fNil)) a x ha hu hp hr
  show ((F_bisect_right (fun _ _ => none) [.val (.lst a), .val x, .val (.int 0), .val .none, .val .none, .unset]).bind retV) = _
  refine Eq.trans (congrArg (fun z => Option.bind z retV) e) rfl
theorem bisK_law {Φ : Value → List V → Option V} (a : List V) (x : V) {f : Addr} {p : Nat → Bool} {lo hi r : Nat} (ha : a.length < 1000) (hl : hi ≤ a.length) (h40 : hi - lo < 40)
    (hu : ∀ j u, lo ≤ j → j < hi → a[j]? = some u → ∃ y, Φ (.ref f) [u] = some y ∧ cmpD .Lt y x = some (p j)) (hp : ∀ j, lo ≤ j → j < hi → p j = decide (j < r)) (hr : lo ≤ r) (hr' : r ≤ hi) :
    bisLS Φ [.lst a, x, .int lo, .int hi] [(Str.ofString "key", .raw (.ref f))] = some (.int r) := by
  obtain ⟨σ', e⟩ := bisK_e (Φ := Φ) a x (h := .int hi) (.inr rfl) ha hl h40 hu hp hr hr'
  have hk : bindK [.lst a, x, .int lo, .int hi] [(Str.ofString "key", .raw (.ref f))] = some [.lst a, x, .int lo, .int hi, .raw (.ref f)] := by unfold bindK; simp
  unfold bisLS
  rw [hk]
  show ((F_bisect_left Φ [.val (.lst a), .val x, .val (.int lo), .val (.int hi), .val (.raw (.ref f)), .unset]).bind retV) = _
  refine Eq.trans (congrArg (fun z => Option.bind z retV) e) rfl
end Mine
set_option Elab.async false
set_option linter.unusedVariables false
set_option maxRecDepth 100000
set_option maxHeartbeats 4000000
namespace Mine
open PySem PySem.W PyProof.Rows
noncomputable def bitN (c st : Int) : Nat := if (c.fdiv st).fmod 2 = 1 then 9 else 32
noncomputable def leadN (c : Int) : List Nat := (([4, 8, 16] : List Int).take (c.fmod 4).toNat).map (bitN c)
noncomputable def pick3 (k : Int) (x y z : List Nat) : List Nat := if k = 0 then x else if k = 1 then y else z
noncomputable def dotN (c : Int) : List Nat := pick3 ((c.fdiv 96).fmod 3) [] [46, 9] [46, 46, 9]
noncomputable def endN (c : Int) : List Nat := pick3 ((c.fdiv 32).fmod 3) [13, 10] [10] [13]
noncomputable def lineOf (p : List Nat) : List Nat := (if (p.take 1 == [46]) = true then [46] else []) ++ p ++ [13, 10]
noncomputable def shortOf (T p : List Nat) : Bool := p == [] && T.drop (T.length - 1) == [13]
noncomputable def endOf (T : List Nat) (c : Int) : List Nat := if shortOf T (leadN c ++ dotN c) then [13] else endN c
noncomputable def prs (W : List (Int × Int)) : List V := W.map fun x => .tup [.int x.1, .int x.2]
noncomputable def walkOf (n : Int) (lead : List Nat) (cs : List Int) (len : Nat) : List (Int × Int) := (List.range len).map fun i => (n, cs.getD (min i lead.length) 0)
noncomputable def rSt (a0 a1 : V) (size : Nat) (T D : List Nat) (R : List (List Int)) (S : List Int) (W : List (Int × Int)) (tl : List Slot) : Sg :=
  .val a0 :: .val a1 :: .val (.int size) :: .val (.str (mk T)) :: .val (.str (mk D)) :: .own (R.map fun l => .lst (iL l)) :: .own (iL S) :: .own (prs W) :: tl
noncomputable def gLead : Sg → Option V := (fMethB "str" joinD (fV (.str (Str.ofString ""))) (fCons (fComp (fIt (fSliceT (fTup (fCons (fV (.int 4)) (fCons (fV (.int 8)) (fCons (fV (.int 16)) fNil')))) (fBin .Mod (fGet 9) (fV (.int 4))))) sp1 1 tTrue (sealF (fItem (fV (.str (Str.ofString " \t"))) (fBin .Mod (fBin .FloorDiv (fGet 1) (fGet 0)) (fV (.int 2))))) [9]) fNil'))
noncomputable def gPiece : Sg → Option V := (fBin .Add (fGet 10) (fItem (fTup (fCons (fV (.str (Str.ofString ""))) (fCons (fV (.str (Str.ofString ".\t"))) (fCons (fV (.str (Str.ofString "..\t"))) fNil')))) (fBin .Mod (fBin .FloorDiv (fGet 9) (fV (.int 96))) (fV (.int 3)))))
noncomputable def gLine : Sg → Option V := (fBin .Add (fBin .Add (fIf (fCmp .Eq (fSlice (fGet 12) (fV .none) (fV (.int 1)) (fV .none)) (fV (.str (Str.ofString ".")))) (fV (.str (Str.ofString "."))) (fV (.str (Str.ofString "")))) (fGet 12)) (fV (.str (Str.ofString "\r\n"))))
noncomputable def gShort : Sg → Option V := (fAndV (fCmpV .Eq (fGet 12) (fV (.str (Str.ofString "")))) (fCmpV .Eq (fSlice (fGet 3) (fNeg (fV (.int 1))) (fV .none) (fV .none)) (fV (.str (Str.ofString "\r")))))
noncomputable def gEnd : Sg → Option V := (fBin .Add (fGet 12) (fIf (fTr (fGet 14)) (fV (.str (Str.ofString "\r"))) (fItem (fTup (fCons (fV (.str (Str.ofString "\r\n"))) (fCons (fV (.str (Str.ofString "\n"))) (fCons (fV (.str (Str.ofString "\r"))) fNil')))) (fBin .Mod (fBin .FloorDiv (fGet 9) (fV (.int 32))) (fV (.int 3))))))
noncomputable def gWalk : Sg → Option V := (fComp (fIt (fBi rangeD (fCons (fBi lenD (fCons (fGet 13) fNil')) fNil'))) sp1 1 tTrue (fTup (fCons (sealF (fGet 1)) (fCons (sealF (fItem (fGet 3) (fBi minD (fCons (fGet 0) (fCons (fBi lenD (fCons (fGet 2) fNil')) fNil'))))) fNil'))) [8, 10, 11])
noncomputable def rowB (quoteS columnsS : List V → List (Str × V) → Option V) : Sg → Rs := (fSeq (fSet 10 gLead) (fSeq (fSet 11 (fCall columnsS (fCons (fGet 10) (fCons (fGet 2) fNil')) fKwNil)) (fSeq (fSet 12 gPiece) (fSeq (fSet 13 gLine) (fSeq (fAppend 6 (fBi lenD (fCons (fCall quoteS (fCons (fGet 3) fNil') fKwNil) fNil'))) (fSeq (fSet 14 gShort) (fSeq (fAug 3 .Add gEnd) (fSeq (fAug 4 .Add (fGet 13)) (fSeq (fAppend 5 (fHid (fGet 11))) (fSeq (fAugL 7 gWalk) fNil))))))))))
theorem fm2 (c : Int) : c.fmod 2 = 0 ∨ c.fmod 2 = 1 := by
  rw [Int.fmod_eq_emod_of_nonneg _ (by decide)]; omega
theorem fm3 (c : Int) : c.fmod 3 = 0 ∨ c.fmod 3 = 1 ∨ c.fmod 3 = 2 := by
  rw [Int.fmod_eq_emod_of_nonneg _ (by decide)]; omega
theorem fm4 (c : Int) : 0 ≤ c.fmod 4 ∧ c.fmod 4 < 4 := by
  rw [Int.fmod_eq_emod_of_nonneg _ (by decide)]; omega
theorem e_sp : Str.ofString " \t" = mk [32, 9] := by decide +kernel
theorem e_0 : Str.ofString "" = mk [] := by decide +kernel
theorem e_d : Str.ofString "." = mk [46] := by decide +kernel
theorem e_dt : Str.ofString ".\t" = mk [46, 9] := by decide +kernel
theorem e_ddt : Str.ofString "..\t" = mk [46, 46, 9] := by decide +kernel
theorem e_rn : Str.ofString "\r\n" = mk [13, 10] := by decide +kernel
theorem e_n : Str.ofString "\n" = mk [10] := by decide +kernel
theorem e_r : Str.ofString "\r" = mk [13] := by decide +kernel
theorem capsGet_1 {σ : Sg} {i : Nat} {v : V} (h : σ.get i = some v) : capsGet σ [i] = some [v] := by unfold capsGet; rw [h]; rfl
theorem capsGet_3 {σ : Sg} {i j k : Nat} {u v w : V} (h : σ.get i = some u) (h' : σ.get j = some v) (h'' : σ.get k = some w) : capsGet σ [i, j, k] = some [u, v, w] := by
  simp only [capsGet, h, h', h'', Option.bind_some, Option.map_some]
theorem lead_e {σ : Sg} {c : Int} (h : σ.get 9 = some (.int c)) : gLead σ = some (.str (mk (leadN c))) := by
  obtain ⟨m0, m4⟩ := fm4 c
  have hit : (fIt (fSliceT (fTup (fCons (fV (.int 4)) (fCons (fV (.int 8)) (fCons (fV (.int 16)) fNil')))) (fBin .Mod (fGet 9) (fV (.int 4))))) σ = some ((([4, 8, 16] : List Int).take (c.fmod 4).toNat).map .int) := by
    refine fIt_e (v := .tup (([4, 8, 16] : List Int).take (c.fmod 4).toNat |>.map .int)) ?_ rfl
    unfold fSliceT
    have e1 : fTup (fCons (fV (.int 4)) (fCons (fV (.int 8)) (fCons (fV (.int 16)) fNil'))) σ = some (.tup (([4, 8, 16] : List Int).map .int)) := rfl
    have e2 : fBin .Mod (fGet 9) (fV (.int 4)) σ = some (.int (c.fmod 4)) := fBin_e h rfl (mod_int _ (by decide))
    rw [e1, e2]
    simp only [Option.bind_some, sliceTD]
    rw [if_pos ⟨m0, by decide⟩, List.map_take]
  have hg := compGo_map (sp := sp1) (n := 1) (f := (sealF (fItem (fV (.str (Str.ofString " \t"))) (fBin .Mod (fBin .FloorDiv (fGet 1) (fGet 0)) (fV (.int 2)))))) (cs := [.int c]) (inj := V.int) (us := fun x => [.int x]) (g := fun st => .str (mk [bitN c st])) (([4, 8, 16] : List Int).take (c.fmod 4).toNat) (fun _ _ => rfl) (fun _ _ => rfl) (fun st hst => by
    have hst' : st = 4 ∨ st = 8 ∨ st = 16 := by
      have := List.mem_of_mem_take hst
      simpa using this
    have hne : st ≠ 0 ∧ st.natAbs < 1073741824 := by omega
    refine fSeal_e (fItem_e (a := .str (mk [32, 9])) (b := .int ((c.fdiv st).fmod 2)) (by rw [e_sp]; rfl) (fBin_e (fBin_e (a := .int c) (b := .int st) rfl rfl (div_int _ hne)) rfl (mod_int _ (by decide))) ?_) rfl
    unfold bitN
    rcases fm2 (c.fdiv st) with e | e <;> rw [e] <;> rfl)
  have hc := fComp_e (t := tTrue) hit (capsGet_1 h) (by rw [List.length_map, List.length_take]; simp; omega) hg
  have hm : (([4, 8, 16] : List Int).take (c.fmod 4).toNat).map (fun st => V.str (mk [bitN c st])) = (leadN c).map fun x => .str (mk [x]) := by unfold leadN; rw [List.map_map]; rfl
  rw [hm] at hc
  have hl : (leadN c).length ≤ 3 := by unfold leadN; rw [List.length_map, List.length_take]; simp; omega
  unfold gLead fMethB
  rw [fCons_e hc fNil_e]
  have : fV (.str (Str.ofString "")) σ = some (.str (Str.ofString "")) := rfl
  rw [this]
  simp only [Option.bind_some, typeOfV, if_true]
  exact join_e _ (by omega)
theorem tri_e {σ : Sg} {k : Int} {x y z : List Nat} {f g : Sg → Option V} (hf : f σ = some (.tup [.str (mk x), .str (mk y), .str (mk z)])) (hg : g σ = some (.int (k.fmod 3))) : fItem f g σ = some (.str (mk (pick3 (k.fmod 3) x y z))) := by
  refine fItem_e hf hg ?_
  unfold pick3
  rcases fm3 k with e | e | e <;> rw [e] <;> rfl
theorem dot_lenN (c : Int) : (dotN c).length ≤ 3 := by
  unfold dotN pick3
  rcases fm3 (c.fdiv 96) with e | e | e <;> rw [e] <;> decide
theorem lead_lenN (c : Int) : (leadN c).length ≤ 3 := by
  have := fm4 c
  unfold leadN; rw [List.length_map, List.length_take]; simp; omega
theorem end_lenN (c : Int) : (endN c).length ≤ 2 := by
  unfold endN pick3
  rcases fm3 (c.fdiv 32) with e | e | e <;> rw [e] <;> decide
theorem end_lenO (T : List Nat) (c : Int) : (endOf T c).length ≤ 2 := by
  unfold endOf
  split
  · decide
  · exact end_lenN c
theorem piece_e {σ : Sg} {c : Int} (h9 : σ.get 9 = some (.int c)) (h10 : σ.get 10 = some (.str (mk (leadN c)))) : gPiece σ = some (.str (mk (leadN c ++ dotN c))) := by
  have h1 := dot_lenN c
  have h2 := lead_lenN c
  refine fBin_e h10 (tri_e (k := c.fdiv 96) (x := []) (y := [46, 9]) (z := [46, 46, 9]) (by rw [e_0, e_dt, e_ddt]; rfl) (fBin_e (fBin_e h9 rfl (div_int _ (by decide))) rfl (mod_int _ (by decide)))) (str_add ?_)
  show (leadN c).length + (dotN c).length ≤ 10000
  omega
theorem line_e {σ : Sg} {p : List Nat} (h : σ.get 12 = some (.str (mk p))) (hl : p.length ≤ 100) : gLine σ = some (.str (mk (lineOf p))) := by
  have hs : fSlice (fGet 12) (fV .none) (fV (.int 1)) (fV .none) σ = some (.str (mk (p.take 1))) := fSlice_e h rfl rfl rfl ((sl_str (lo := none) (hi := some 1) rfl rfl (by omega)).trans (by rw [show (some (1 : Int)) = some ((1 : Nat) : Int) from rfl, slice_0b]))
  have h1 : fIf (fCmp .Eq (fSlice (fGet 12) (fV .none) (fV (.int 1)) (fV .none)) (fV (.str (Str.ofString ".")))) (fV (.str (Str.ofString "."))) (fV (.str (Str.ofString ""))) σ = some (.str (mk (if (p.take 1 == [46]) = true then [46] else []))) := by
    have hc : fCmp .Eq (fSlice (fGet 12) (fV .none) (fV (.int 1)) (fV .none)) (fV (.str (Str.ofString "."))) σ = some (p.take 1 == [46]) := fCmp_e hs (by rw [e_d]; rfl) (str_eq _ _)
    cases hq : (p.take 1 == [46]) with
    | true => rw [hq] at hc; rw [fIf_t hc, if_pos rfl, e_d]; rfl
    | false => rw [hq] at hc; rw [fIf_f hc, if_neg Bool.false_ne_true, e_0]; rfl
  have hlen : (if (p.take 1 == [46]) = true then [46] else ([] : List Nat)).length ≤ 1 := by split <;> decide
  exact fBin_e (fBin_e h1 h (str_add (by omega))) (by rw [e_rn]; rfl) (str_add (by rw [List.length_append]; simp only [List.length_cons, List.length_nil]; omega))
theorem short_e {σ : Sg} {T p : List Nat} (h : σ.get 12 = some (.str (mk p))) (h3 : σ.get 3 = some (.str (mk T))) (hT : T.length ≤ 1000) : gShort σ = some (.bool (shortOf T p)) := by
  have h1 : fCmpV .Eq (fGet 12) (fV (.str (Str.ofString ""))) σ = some (.bool (p == [])) := by
    unfold fCmpV
    rw [fCmp_e h (by rw [e_0]; rfl) (str_eq p [])]
    rfl
  unfold gShort fAndV
  rw [h1]
  unfold shortOf
  cases p == [] with
  | false => rfl
  | true =>
    have h2 : fCmpV .Eq (fSlice (fGet 3) (fNeg (fV (.int 1))) (fV .none) (fV .none)) (fV (.str (Str.ofString "\r"))) σ = some (.bool (T.drop (T.length - 1) == [13])) := by
      unfold fCmpV
      rw [fCmp_e (fSlice_e h3 (x := .int (-1)) rfl rfl rfl ((sl_str (lo := some (-1)) (hi := none) rfl rfl (by omega)).trans (by rw [slice_last]))) (by rw [e_r]; rfl) (str_eq (T.drop (T.length - 1)) [13])]
      rfl
    exact h2
theorem end_e {σ : Sg} {T : List Nat} {c : Int} (h9 : σ.get 9 = some (.int c)) (h : σ.get 12 = some (.str (mk (leadN c ++ dotN c)))) (h14 : σ.get 14 = some (.bool (shortOf T (leadN c ++ dotN c)))) : gEnd σ = some (.str (mk (leadN c ++ dotN c ++ endOf T c))) := by
  have h1 := dot_lenN c
  have h2 := lead_lenN c
  have h4 := end_lenO T c
  refine fBin_e h (b := .str (mk (endOf T c))) ?_ (str_add (by rw [List.length_append]; omega))
  have ht : fTr (fGet 14) σ = some (shortOf T (leadN c ++ dotN c)) := by
    unfold fTr
    have : fGet 14 σ = some (.bool (shortOf T (leadN c ++ dotN c))) := h14
    rw [this]
    rfl
  unfold endOf
  cases hq : shortOf T (leadN c ++ dotN c) with
  | true => rw [hq] at ht; rw [fIf_t ht, if_pos rfl, e_r]; rfl
  | false =>
    rw [hq] at ht
    rw [fIf_f ht, if_neg Bool.false_ne_true]
    exact tri_e (k := c.fdiv 32) (x := [13, 10]) (y := [10]) (z := [13]) (by rw [e_rn, e_n, e_r]; rfl) (fBin_e (fBin_e h9 rfl (div_int _ (by decide))) rfl (mod_int _ (by decide)))
theorem walk_e {σ : Sg} {n : Int} {lead : List Nat} {cs : List Int} {line : List Nat} (h8 : σ.get 8 = some (.int n)) (h10 : σ.get 10 = some (.str (mk lead))) (h11 : σ.get 11 = some (.lst (iL cs))) (h13 : σ.get 13 = some (.str (mk line))) (hl : line.length ≤ 1000) (hd : lead.length < cs.length) (hd' : lead.length ≤ 1000) :
    gWalk σ = some (.lst (prs (walkOf n lead cs line.length))) := by
  have hlen : fBi lenD (fCons (fGet 13) fNil') σ = some (.int line.length) := fBi_e (fCons_e h13 fNil_e) (by rw [len_str (by rw [mk_len]; omega), mk_len])
  have hit : fIt (fBi rangeD (fCons (fBi lenD (fCons (fGet 13) fNil')) fNil')) σ = some ((List.range line.length).map fun i => .int (i : Nat)) :=
    fIt_e (v := .rng 0 line.length 1) (fBi_e (fCons_e hlen fNil_e) rfl) (iter_rng (by omega))
  have hg := compGo_map (sp := sp1) (n := 1) (f := (fTup (fCons (sealF (fGet 1)) (fCons (sealF (fItem (fGet 3) (fBi minD (fCons (fGet 0) (fCons (fBi lenD (fCons (fGet 2) fNil')) fNil'))))) fNil')))) (cs := [.int n, .str (mk lead), .lst (iL cs)]) (inj := fun i : Nat => V.int (i : Nat)) (us := fun i => [.int (i : Nat)]) (g := fun i => .tup [.int n, .int (cs.getD (min i lead.length) 0)]) (List.range line.length) (fun _ _ => rfl) (fun _ _ => rfl) (fun i hi => by
    refine fTup_e (fCons_e (fSeal_e (v := .int n) rfl rfl) (fCons_e (fSeal_e (fItem_e (a := .lst (iL cs)) (b := .int (min i lead.length : Nat)) rfl (fBi_e (fCons_e (v := .int (i : Nat)) rfl (fCons_e (v := .int lead.length) (fBi_e (fCons_e (v := .str (mk lead)) rfl fNil_e) (by rw [len_str (by rw [mk_len]; omega), mk_len])) fNil_e)) ?_) ?_) rfl) fNil_e))
    · show some (V.int (if (lead.length : Int) < (i : Nat) then lead.length else (i : Nat))) = _
      congr 2
      split <;> omega
    · rw [item_lst (by omega), iL_get, List.getElem?_eq_getElem (by omega), List.getD_eq_getElem?_getD, List.getElem?_eq_getElem (by omega)]
      rfl)
  rw [gWalk, fComp_e (t := tTrue) hit (capsGet_3 h8 h10 h11) (by rw [List.length_map, List.length_range]; omega) hg]
  unfold prs walkOf
  rw [List.map_map]
  rfl
theorem cols_len (size : Nat) : ∀ (l : List Nat) (h : Nat), (cols size h l).length = l.length + 1
  | [], _ => rfl
  | s :: r, h => by unfold cols; rw [List.length_cons, cols_len size r, List.length_cons]
theorem row_e (a0 a1 : V) (size : Nat) (T D : List Nat) (R : List (List Int)) (S : List Int) (W : List (Int × Int)) (n c : Int) (s10 s11 s12 s13 s14 : Slot) (rest : List Slot) (h1 : 1 ≤ size) (h2 : size ≤ 1000) (hT : T.length ≤ 300) (hD : D.length ≤ 300) (hR : R.length ≤ 10) (hS : S.length ≤ 10) (hW : W.length ≤ 300) :
    ∃ s10' s11' s12' s13' s14', rowB quoteS columnsS (rSt a0 a1 size T D R S W (.val (.int n) :: .val (.int c) :: s10 :: s11 :: s12 :: s13 :: s14 :: rest)) = some (.next,
      rSt a0 a1 size (T ++ (leadN c ++ dotN c ++ endOf T c)) (D ++ lineOf (leadN c ++ dotN c)) (R ++ [cols size 0 (leadN c)]) (S ++ [((qd T).length : Int)]) (W ++ walkOf n (leadN c) (cols size 0 (leadN c)) (lineOf (leadN c ++ dotN c)).length)
        (.val (.int n) :: .val (.int c) :: s10' :: s11' :: s12' :: s13' :: s14' :: rest)) := by
  have l1 := dot_lenN c
  have l2 := lead_lenN c
  have l3 := end_lenO T c
  have hp : (leadN c ++ dotN c).length ≤ 6 := by rw [List.length_append]; omega
  have hli : (lineOf (leadN c ++ dotN c)).length ≤ 10 := by
    unfold lineOf
    rw [List.length_append, List.length_append]
    have : (if ((leadN c ++ dotN c).take 1 == [46]) = true then [46] else ([] : List Nat)).length ≤ 1 := by split <;> decide
    simp only [List.length_cons, List.length_nil]
    omega
  have hq : (qd T).length ≤ 4 * T.length := by
    have a1 := nrm_len T false
    have a2 := dot_len (nrm false T) true
    unfold qd; omega
  refine ⟨.val (.str (mk (leadN c))), .val (.lst (iL (cols size 0 (leadN c)))), .val (.str (mk (leadN c ++ dotN c))), .val (.str (mk (lineOf (leadN c ++ dotN c)))), .val (.bool (shortOf T (leadN c ++ dotN c))), ?_⟩
  unfold rowB
  refine (fSeq_next ((fSet_e (lead_e (c := c) rfl)).trans rfl)).trans ?_
  refine (fSeq_next ((fSet_e (fCall_e (fCons_e (v := .str (mk (leadN c))) rfl (fCons_e (v := .int size) rfl fNil_e)) (columns_e (leadN c) size h1 (by omega)))).trans rfl)).trans ?_
  refine (fSeq_next ((fSet_e (piece_e (c := c) rfl rfl)).trans rfl)).trans ?_
  refine (fSeq_next ((fSet_e (line_e (p := leadN c ++ dotN c) rfl (by omega))).trans rfl)).trans ?_
  refine (fSeq_next ((fApp_e (v := .int (qd T).length) (xs := iL S) (fBi_e (fCons_e (fCall_e (fCons_e (v := .str (mk T)) rfl fNil_e) (quote_e T (by omega))) fNil_e) (by rw [len_str (by rw [mk_len]; omega), mk_len])) rfl (by rw [iL_len]; omega)).trans rfl)).trans ?_
  refine (fSeq_next ((fSet_e (short_e (T := T) (p := leadN c ++ dotN c) rfl rfl (by omega))).trans rfl)).trans ?_
  refine (fSeq_next ((fAug_str (a := T) (b := leadN c ++ dotN c ++ endOf T c) rfl (end_e (T := T) (c := c) rfl rfl rfl) (by rw [List.length_append]; omega)).trans rfl)).trans ?_
  refine (fSeq_next ((fAug_str (a := D) (b := lineOf (leadN c ++ dotN c)) rfl rfl (by omega)).trans rfl)).trans ?_
  refine (fSeq_next ((fApp_e (v := .lst (iL (cols size 0 (leadN c)))) (xs := R.map fun l => .lst (iL l)) rfl rfl (by rw [List.length_map]; omega)).trans rfl)).trans ?_
  refine (fSeq_next ((fAugL_e (xs := prs W) (ys := prs (walkOf n (leadN c) (cols size 0 (leadN c)) (lineOf (leadN c ++ dotN c)).length)) rfl (walk_e (n := n) (lead := leadN c) (cs := cols size 0 (leadN c)) (line := lineOf (leadN c ++ dotN c)) rfl rfl rfl rfl (by omega) (by rw [cols_len]; omega) (by omega)) ?_).trans rfl)).trans ?_
  · unfold prs walkOf
    simp only [List.length_map, List.length_range]
    omega
  · have e1 : (R ++ [cols size 0 (leadN c)]).map (fun l => V.lst (iL l)) = (R.map fun l => .lst (iL l)) ++ [.lst (iL (cols size 0 (leadN c)))] := by rw [List.map_append]; rfl
    have e2 : iL (S ++ [((qd T).length : Int)]) = iL S ++ [.int (qd T).length] := by unfold iL; rw [List.map_append]; rfl
    have e3 : prs (W ++ walkOf n (leadN c) (cols size 0 (leadN c)) (lineOf (leadN c ++ dotN c)).length) = prs W ++ prs (walkOf n (leadN c) (cols size 0 (leadN c)) (lineOf (leadN c ++ dotN c)).length) := by unfold prs; rw [List.map_append]
    unfold rSt
    rw [e1, e2, e3]
    rfl
end Mine
set_option Elab.async false
set_option linter.unusedVariables false
set_option maxRecDepth 100000
set_option maxHeartbeats 4000000
namespace Mine
open PySem PySem.W PyProof.Rows
noncomputable def crE : Bool → List Nat → Bool
  | p, [] => p
  | _, c :: r => crE (c == 13) r
noncomputable def lfE : Bool → List Nat → Bool
  | p, [] => p
  | _, c :: r => lfE (c == 10) r
theorem nrm_app : ∀ (a b : List Nat) (p : Bool), nrm p (a ++ b) = nrm p a ++ nrm (crE p a) b
  | [], b, p => rfl
  | c :: a, b, p => by
    rw [List.cons_append]
    unfold crE
    by_cases h1 : c = 10
    · subst h1
      rw [nrm_10, nrm_10, nrm_app a b false]
      cases p <;> rfl
    · by_cases h2 : c = 13
      · subst h2
        rw [nrm_13, nrm_13, nrm_app a b true]
        rfl
      · rw [nrm_ch _ _ h1 h2, nrm_ch _ _ h1 h2, nrm_app a b false, beq_eq_false_iff_ne.mpr h2]
        rfl
theorem dot_app : ∀ (a b : List Nat) (p : Bool), dot p (a ++ b) = dot p a ++ dot (lfE p a) b
  | [], b, p => rfl
  | c :: a, b, p => by
    rw [List.cons_append]
    unfold lfE
    by_cases h : c = 46 ∧ p = true
    · have e : ∀ l, dot p (c :: l) = 46 :: 46 :: dot false l := fun l => by conv => lhs; unfold dot; rw [if_pos h]
      rw [e, e, dot_app a b false, h.1]
      rfl
    · have e : ∀ l, dot p (c :: l) = c :: dot (c == 10) l := fun l => by conv => lhs; unfold dot; rw [if_neg h]
      rw [e, e, dot_app a b (c == 10)]
      rfl
theorem lfE_app : ∀ (a b : List Nat) (p : Bool), lfE p (a ++ b) = lfE (lfE p a) b
  | [], _, _ => rfl
  | c :: a, b, p => by exact lfE_app a b (c == 10)
theorem crE_app : ∀ (a b : List Nat) (p : Bool), crE p (a ++ b) = crE (crE p a) b
  | [], _, _ => rfl
  | c :: a, b, p => by exact crE_app a b (c == 13)
/-- a text that ends a row -/
structure TOk (T : List Nat) : Prop where
  lf : lfE true (nrm false T) = true
  cr : (T.drop (T.length - 1) == [13]) = crE false T
theorem qd_app {T : List Nat} (h : TOk T) (u : List Nat) : qd (T ++ u) = qd T ++ dot true (nrm (crE false T) u) := by
  unfold qd
  rw [nrm_app, dot_app, h.lf]
noncomputable def leads : List (List Nat) := [[], [9], [32], [9, 9], [9, 32], [32, 9], [32, 32], [9, 9, 9], [9, 9, 32], [9, 32, 9], [9, 32, 32], [32, 9, 9], [32, 9, 32], [32, 32, 9], [32, 32, 32]]
noncomputable def dots : List (List Nat) := [[], [46, 9], [46, 46, 9]]
noncomputable def ends : List (List Nat) := [[13, 10], [10], [13]]
theorem bit_or (c st : Int) : bitN c st = 9 ∨ bitN c st = 32 := by unfold bitN; split <;> simp
theorem lead_mem (c : Int) : leadN c ∈ leads := by
  obtain ⟨m0, m4⟩ := fm4 c
  have hm : c.fmod 4 = 0 ∨ c.fmod 4 = 1 ∨ c.fmod 4 = 2 ∨ c.fmod 4 = 3 := by omega
  have e : leadN c = [bitN c 4, bitN c 8, bitN c 16].take (c.fmod 4).toNat := by unfold leadN; rw [List.map_take]; rfl
  rw [e]
  rcases bit_or c 4 with h1 | h1 <;> rcases bit_or c 8 with h2 | h2 <;> rcases bit_or c 16 with h3 | h3 <;> rw [h1, h2, h3] <;> rcases hm with h | h | h | h <;> rw [h] <;> decide
theorem dot_mem (c : Int) : dotN c ∈ dots := by
  unfold dotN pick3
  rcases fm3 (c.fdiv 96) with e | e | e <;> rw [e] <;> decide
theorem end_mem (c : Int) : endN c ∈ ends := by
  unfold endN pick3
  rcases fm3 (c.fdiv 32) with e | e | e <;> rw [e] <;> decide
noncomputable def rowOk (l d e : List Nat) (b : Bool) : Bool :=
  let p := l ++ d
  let u := p ++ (if (p == [] && b) = true then [13] else e)
  dot true (nrm b u) == lineOf p && lfE true (nrm b u) && (u != []) && ((u.drop (u.length - 1) == [13]) == crE b u)
theorem rows_ok : (leads.all fun l => dots.all fun d => ends.all fun e => [true, false].all fun b => rowOk l d e b) = true := by decide +kernel
theorem row_ok (c : Int) (b : Bool) : rowOk (leadN c) (dotN c) (endN c) b = true := by
  have h1 := List.all_eq_true.mp rows_ok _ (lead_mem c)
  have h2 := List.all_eq_true.mp h1 _ (dot_mem c)
  have h3 := List.all_eq_true.mp h2 _ (end_mem c)
  exact List.all_eq_true.mp h3 b (by cases b <;> simp)
theorem drop_last_app {T u : List Nat} (h : u ≠ []) : (T ++ u).drop ((T ++ u).length - 1) = u.drop (u.length - 1) := by
  have : 1 ≤ u.length := by cases u with | nil => exact absurd rfl h | cons => simp
  rw [List.length_append, List.drop_append, List.drop_of_length_le (by omega), List.nil_append]
  congr 1
  omega
theorem turn_ok {T : List Nat} (h : TOk T) (c : Int) : qd (T ++ (leadN c ++ dotN c ++ endOf T c)) = qd T ++ lineOf (leadN c ++ dotN c) ∧ TOk (T ++ (leadN c ++ dotN c ++ endOf T c)) := by
  have hr := row_ok c (crE false T)
  unfold rowOk at hr
  dsimp only at hr
  have he : leadN c ++ dotN c ++ endOf T c = leadN c ++ dotN c ++ (if ((leadN c ++ dotN c) == [] && crE false T) = true then [13] else endN c) := by
    unfold endOf shortOf
    rw [h.cr]
  rw [← he] at hr
  simp only [Bool.and_eq_true, beq_iff_eq, bne_iff_ne] at hr
  obtain ⟨⟨⟨r1, r2⟩, r3⟩, r4⟩ := hr
  refine ⟨by rw [qd_app h, r1], ?_, ?_⟩
  · rw [nrm_app, lfE_app, h.lf, r2]
  · rw [drop_last_app r3, crE_app, r4]
theorem tok_nil : TOk [] := ⟨rfl, rfl⟩
/-- the levels told -/
noncomputable def lvOk (l d : List Nat) (size : Nat) : Bool := (List.range (lineOf (l ++ d)).length).all fun i => decide (lvl size (wR ((lineOf (l ++ d)).take i)) = (cols size 0 l).getD (min i l.length) 0)
theorem lvs_ok : (leads.all fun l => dots.all fun d => [1, 2, 3, 4].all fun s => lvOk l d s) = true := by decide +kernel
theorem lv_ok (c : Int) {size i : Nat} (hs : size ∈ [1, 2, 3, 4]) (hi : i < (lineOf (leadN c ++ dotN c)).length) : lvl size (wR ((lineOf (leadN c ++ dotN c)).take i)) = (cols size 0 (leadN c)).getD (min i (leadN c).length) 0 := by
  have h1 := List.all_eq_true.mp lvs_ok _ (lead_mem c)
  have h2 := List.all_eq_true.mp h1 _ (dot_mem c)
  have h3 := List.all_eq_true.mp h2 _ hs
  exact of_decide_eq_true (List.all_eq_true.mp h3 i (List.mem_range.mpr hi))
noncomputable def lastN (size : Nat) (l : List Nat) : Nat := l.foldl (colN size) 0
theorem cols_last (size : Nat) : ∀ (l : List Nat) (h : Nat), ∃ xs, cols size h l = xs ++ [((l.foldl (colN size) h : Nat) : Int)] ∧ xs.length = l.length
  | [], h => ⟨[], rfl, rfl⟩
  | s :: r, h => by
    obtain ⟨xs, e, hl⟩ := cols_last size r (colN size h s)
    refine ⟨(h : Int) :: xs, ?_, by rw [List.length_cons, hl, List.length_cons]⟩
    unfold cols
    rw [e]
    rfl
noncomputable def cntOk (l : List Nat) (size : Nat) : Bool := decide (lastN size l ≤ 100) && (List.range (lastN size l + 2)).all fun col => decide (((cols size 0 l).filter fun x => decide (x < (col : Int))).length ≤ l.length + 1) && (List.range (l.length + 1)).all fun k => decide ((cols size 0 l).getD k 0 < (col : Int)) == decide (k < ((cols size 0 l).filter fun x => decide (x < (col : Int))).length)
theorem cnts_ok : (leads.all fun l => [1, 2, 3, 4].all fun s => cntOk l s) = true := by decide +kernel
theorem cnt_ok (c : Int) {size : Nat} (hs : size ∈ [1, 2, 3, 4]) : cntOk (leadN c) size = true := by
  have h1 := List.all_eq_true.mp cnts_ok _ (lead_mem c)
  exact List.all_eq_true.mp h1 _ hs
theorem line_long (p : List Nat) : p.length + 2 ≤ (lineOf p).length := by
  unfold lineOf
  rw [List.length_append, List.length_append]
  simp only [List.length_cons, List.length_nil]
  omega
theorem line_short (c : Int) : (lineOf (leadN c ++ dotN c)).length ≤ 10 := by
  have l1 := dot_lenN c
  have l2 := lead_lenN c
  unfold lineOf
  rw [List.length_append, List.length_append, List.length_append]
  have : (if ((leadN c ++ dotN c).take 1 == [46]) = true then [46] else ([] : List Nat)).length ≤ 1 := by split <;> decide
  simp only [List.length_cons, List.length_nil]
  omega
end Mine
set_option Elab.async false
set_option linter.unusedVariables false
set_option maxRecDepth 100000
set_option maxHeartbeats 4000000
namespace Mine
open PySem PySem.W PyProof.Rows
theorem ints_iL (l : List Int) : V.ints (iL l) = some l := by
  induction l with
  | nil => rfl
  | cons a l ih => unfold iL at ih ⊢; rw [List.map_cons]; unfold V.ints; rw [ih]; rfl
theorem pick_iL (l : List Int) (lo hi st : Option Int) : pick (iL l) lo hi st = iL (pick l lo hi st) := by
  unfold pick
  rw [iL_len]
  generalize sliceRange _ _ _ = r
  unfold iL
  rw [List.map_filterMap]
  congr 1
  funext i
  rw [List.getElem?_map]
/-- the cells are ints -/
noncomputable def cellF (x : Nat) : Sg → Option V := (fBin .Add (fGet 1) (fBi sumD (fCons (fSlice (fGet 2) (fGet 0) (fV .none) (fV (.int x))) fNil')))
theorem cell_e (ns : List Int) (hn : ns.length ≤ 1000) (x : Nat) (hx : x ≠ 0) (at' first : Int) : ∃ c : Int, cellF x ([V.int at', .int first, .lst (iL ns)].map .val) = some (.int c) := by
  refine ⟨first + (pick ns (some at') none (some x)).sum, ?_⟩
  refine fBin_e (a := .int first) (b := .int (pick ns (some at') none (some (x : Int))).sum) rfl (fBi_e (fCons_e (v := .lst (iL (pick ns (some at') none (some (x : Int))))) (fSlice_e (o := .lst (iL ns)) (x := .int at') (y := .none) (z := .int x) rfl rfl rfl rfl ?_) fNil_e) ?_) rfl
  · rw [← pick_iL]
    have e : sliceD (.lst (iL ns)) (.int at') .none (.int x) = if (some (x : Int)) ≠ some 0 ∧ (iL ns).length ≤ 16777216 then some (.lst (pick (iL ns) (some at') none (some (x : Int)))) else none := rfl
    rw [e, if_pos ⟨by simpa using hx, by rw [iL_len]; omega⟩]
  · show (V.ints (iL _)).map _ = _
    rw [ints_iL]
    rfl
theorem range_append (a b : Nat) : List.range (a + b) = List.range a ++ (List.range b).map (a + ·) := List.range_add
section
variable (size : Nat) (la da lb db lc dc : List Nat)
end
structure Rw where
  lead : List Nat
  dt : List Nat
noncomputable def Rw.line (r : Rw) : List Nat := lineOf (r.lead ++ r.dt)
noncomputable def Rw.cs (r : Rw) (size : Nat) : List Int := cols size 0 r.lead
structure RwOk (r : Rw) (size : Nat) : Prop where
  lv : ∀ i, i < r.line.length → lvl size (wR (r.line.take i)) = (r.cs size).getD (min i r.lead.length) 0
  cnt : cntOk r.lead size = true
  long : r.lead.length + 2 ≤ r.line.length
  short : r.line.length ≤ 10
  ll : r.lead.length ≤ 3
/-- what stands where -/
noncomputable def tell (size : Nat) (a b c : Rw) (p : Nat) : Int × Int :=
  if p < a.line.length then (0, (a.cs size).getD (min p a.lead.length) 0)
  else if p < a.line.length + b.line.length then (1, (b.cs size).getD (min (p - a.line.length) b.lead.length) 0)
  else (2, (c.cs size).getD (min (p - a.line.length - b.line.length) c.lead.length) 0)
theorem tell_all (size : Nat) (a b c : Rw) : (List.range (a.line.length + b.line.length + c.line.length)).map (tell size a b c) = walkOf 0 a.lead (a.cs size) a.line.length ++ walkOf 1 b.lead (b.cs size) b.line.length ++ walkOf 2 c.lead (c.cs size) c.line.length := by
  rw [range_append, range_append, List.map_append, List.map_append, List.map_map, List.map_map]
  unfold walkOf
  congr 1
  · congr 1
    · apply List.map_congr_left
      intro i hi
      unfold tell
      rw [if_pos (List.mem_range.mp hi)]
    · apply List.map_congr_left
      intro i hi
      have := List.mem_range.mp hi
      show tell size a b c (a.line.length + i) = _
      unfold tell
      rw [if_neg (by omega), if_pos (by omega), Nat.add_sub_cancel_left]
  · apply List.map_congr_left
    intro i hi
    show tell size a b c (a.line.length + b.line.length + i) = _
    unfold tell
    rw [if_neg (by omega), if_neg (by omega)]
    have : a.line.length + b.line.length + i - a.line.length - b.line.length = i := by omega
    rw [this]
noncomputable def Ss (a b : Rw) : List Int := [((0 : Nat) : Int), ((a.line.length : Nat) : Int), ((a.line.length + b.line.length : Nat) : Int)]
theorem find_row (s1 s2 p i : Nat) (h : i = if p < s1 then 0 else if p < s2 then 1 else 2) (hs : s1 ≤ s2) : bisRS [.lst (iL [((0 : Nat) : Int), (s1 : Int), (s2 : Int)]), .int (p : Nat)] [] = some (.int ((i + 1 : Nat) : Int)) := by
  refine bisR_law _ _ (p := fun j => decide (j < i + 1)) (show 3 < 40 by decide) (fun j u hj => ?_) (fun j _ => rfl) (by subst h; split <;> (try split) <;> (show _ ≤ 3) <;> omega)
  have e : ∀ s : Nat, cmpD .Lt (.int (p : Nat)) (.int (s : Nat)) = some (decide ((p : Int) < (s : Nat))) := fun _ => rfl
  match j, hj with
  | 0, hj => cases hj; rw [e]; refine congrArg some ?_; subst h; simp
  | 1, hj => cases hj; rw [e]; refine congrArg some ?_; subst h; split <;> (try split) <;> simp <;> omega
  | 2, hj => cases hj; rw [e]; refine congrArg some ?_; subst h; split <;> (try split) <;> simp <;> omega
theorem ws_none (ws : Str) : (wsFs ws).lookup (Str.ofString "indent_level") = none := rfl
noncomputable def lvE (g : Sg → Option V) (h : Sg → Option V) : Sg → Option V := fMeth 135 (Str.ofString "indent_level") levelS (fCall wsS (fCons g fNil') fKwNil) (fCons h fNil')
theorem lvE_e {g h : Sg → Option V} {σ : Sg} {l : List Nat} {size : Nat} (h1 : g σ = some (.str (mk l))) (h2 : h σ = some (.int size)) (hl : l.length ≤ 400) (hs : 1 ≤ size) (hs' : size ≤ 1000) : lvE g h σ = some (.int (lvl size (wR l))) := by
  have hm : (mk l).length ≤ 400 := by rw [mk_len]; exact hl
  refine fMeth_e (fCall_e (fCons_e h1 fNil_e) (ws_e (mk l) hm)) (fCons_e h2 fNil_e) ?_
  unfold methD
  have e := level_e (mk l) size hs hs' hm
  rw [mk_l] at e
  exact (if_pos ⟨rfl, ws_none _⟩).trans e
theorem tk_app (a L b : List Nat) {k : Nat} (h : k ≤ L.length) : ((a ++ (L ++ b)).take (a.length + k)).drop a.length = L.take k := by
  rw [List.take_length_add_append, List.drop_left, List.take_append_of_le_length h]
/-- where a place lies -/
theorem tell_at (size : Nat) (a b c : Rw) (ha : RwOk a size) (hb : RwOk b size) (hc : RwOk c size) (p : Nat) (hp : p < a.line.length + b.line.length + c.line.length) :
    ∃ (i s : Nat) (L : List Nat), bisRS [.lst (iL (Ss a b)), .int (p : Nat)] [] = some (.int ((i + 1 : Nat) : Int)) ∧ (Ss a b)[i]? = some (s : Int) ∧ s ≤ p ∧ i ≤ 2 ∧ ((a.line ++ b.line ++ c.line).take p).drop s = L ∧ L.length ≤ 400 ∧ tell size a b c p = ((i : Int), lvl size (wR L)) := by
  by_cases h1 : p < a.line.length
  · refine ⟨0, 0, a.line.take p, find_row _ _ p 0 (by rw [if_pos h1]) (by omega), rfl, Nat.zero_le _, by omega, ?_, ?_, ?_⟩
    · have := tk_app [] a.line (b.line ++ c.line) (k := p) (by omega)
      rw [List.append_assoc]
      simpa using this
    · have := ha.short; rw [List.length_take]; omega
    · unfold tell
      rw [if_pos h1, ha.lv p h1]
      rfl
  · by_cases h2 : p < a.line.length + b.line.length
    · refine ⟨1, a.line.length, b.line.take (p - a.line.length), find_row _ _ p 1 (by rw [if_neg h1, if_pos h2]) (by omega), rfl, by omega, by omega, ?_, ?_, ?_⟩
      · have := tk_app a.line b.line c.line (k := p - a.line.length) (by omega)
        rw [List.append_assoc]
        rw [show a.line.length + (p - a.line.length) = p by omega] at this
        exact this
      · have := hb.short; rw [List.length_take]; omega
      · unfold tell
        rw [if_neg h1, if_pos h2, hb.lv _ (by omega)]
        rfl
    · refine ⟨2, a.line.length + b.line.length, c.line.take (p - a.line.length - b.line.length), find_row _ _ p 2 (by rw [if_neg h1, if_neg h2]) (by omega), rfl, by omega, by omega, ?_, ?_, ?_⟩
      · have := tk_app (a.line ++ b.line) c.line [] (k := p - a.line.length - b.line.length) (by omega)
        rw [List.append_nil, List.length_append] at this
        rw [show a.line.length + b.line.length + (p - a.line.length - b.line.length) = p by omega] at this
        exact this
      · have := hc.short; rw [List.length_take]; omega
      · unfold tell
        rw [if_neg h1, if_neg h2, hc.lv _ (by omega)]
        rfl
noncomputable def tellB : Sg → Rs := (fSeq (fSet 18 (fBin .Sub (fCall bisRS (fCons (fGet 6) (fCons (fGet 17) fNil')) fKwNil) (fV (.int 1)))) (fSeq (fAppend 16 (fTup (fCons (sealF (fGet 18)) (fCons (lvE (fSlice (fGet 15) (fItem (fGet 6) (fGet 18)) (fGet 17) (fV .none)) (fGet 2)) fNil')))) fNil))
noncomputable def tSt (a0 a1 : V) (size : Nat) (T D : List Nat) (R : List (List Int)) (S : List Int) (W : List (Int × Int)) (x8 x9 x10 x11 x12 x13 x14 : Slot) (sent : List Nat) (told : List (Int × Int)) (pl row : Slot) (rest : List Slot) : Sg :=
  rSt a0 a1 size T D R S W (x8 :: x9 :: x10 :: x11 :: x12 :: x13 :: x14 :: .val (.str (mk sent)) :: .own (prs told) :: pl :: row :: rest)
theorem tellB_e (a0 a1 : V) (size : Nat) (T D : List Nat) (R : List (List Int)) (W told : List (Int × Int)) (x8 x9 x10 x11 x12 x13 x14 row : Slot) (rest : List Slot) (a b c : Rw) (ha : RwOk a size) (hb : RwOk b size) (hc : RwOk c size) (h1 : 1 ≤ size) (h2 : size ≤ 1000) (p : Nat) (hp : p < a.line.length + b.line.length + c.line.length) (ht : told.length ≤ 1000) :
    ∃ row', tellB (tSt a0 a1 size T D R (Ss a b) W x8 x9 x10 x11 x12 x13 x14 (a.line ++ b.line ++ c.line) told (.val (.int (p : Nat))) row rest) = some (.next, tSt a0 a1 size T D R (Ss a b) W x8 x9 x10 x11 x12 x13 x14 (a.line ++ b.line ++ c.line) (told ++ [tell size a b c p]) (.val (.int (p : Nat))) row' rest) := by
  obtain ⟨i, s, L, e1, e2, e3, e4, e5, e6, e7⟩ := tell_at size a b c ha hb hc p hp
  have sh := ha.short; have sh' := hb.short; have sh'' := hc.short
  have hlen : (a.line ++ b.line ++ c.line).length = a.line.length + b.line.length + c.line.length := by rw [List.length_append, List.length_append]
  refine ⟨.val (.int i), ?_⟩
  unfold tellB
  refine (fSeq_next ((fSet_e (v := .int i) (fBin_e (a := .int ((i + 1 : Nat) : Int)) (b := .int 1) (fCall_e (fCons_e (v := .lst (iL (Ss a b))) rfl (fCons_e (v := .int (p : Nat)) rfl fNil_e)) e1) rfl ?_)).trans rfl)).trans ?_
  · rw [sub_int, show ((i + 1 : Nat) : Int) - 1 = i by omega]
  refine (fSeq_next ((fApp_e (v := .tup [.int i, .int (lvl size (wR L))]) (xs := prs told) (fTup_e (fCons_e (fSeal_e (v := .int i) rfl rfl) (fCons_e (lvE_e (l := L) (size := size) ?_ rfl e6 h1 h2) fNil_e))) rfl (by unfold prs; rw [List.length_map]; omega)).trans ?_)).trans rfl
  · refine fSlice_e (o := .str (mk (a.line ++ b.line ++ c.line))) (x := .int s) (y := .int (p : Nat)) (z := .none) rfl (fItem_e (a := .lst (iL (Ss a b))) (b := .int (i : Nat)) rfl rfl ?_) rfl rfl ?_
    · rw [item_lst (by omega), iL_get, e2]; rfl
    · rw [sl_str (lo := some (s : Int)) (hi := some ((p : Nat) : Int)) rfl rfl (by omega), slice_ab _ e3 (by omega), e5]
  · rw [e7]
    unfold tSt rSt prs
    rw [List.map_append]
    rfl
end Mine
set_option Elab.async false
set_option linter.unusedVariables false
set_option maxRecDepth 100000
set_option maxHeartbeats 4000000
namespace Mine
open PySem PySem.W PyProof.Rows
theorem fFor_cons {set : V → Sg → Option Sg} {F : Sg → Rs} {v : V} {vs : List V} {σ σ₁ σ₂ : Sg} (h1 : set v σ = some σ₁) (h2 : F σ₁ = some (.next, σ₂)) : fFor set F (v :: vs) σ = fFor set F vs σ₂ := by
  conv => lhs; unfold fFor
  rw [h1]
  simp only [Option.bind_some, h2]
noncomputable def cntN (r : Rw) (size col : Nat) : Nat := ((r.cs size).filter fun x => decide (x < (col : Int))).length
structure CntOk (r : Rw) (size : Nat) : Prop where
  last : lastN size r.lead ≤ 100
  le : ∀ col, col < lastN size r.lead + 2 → cntN r size col ≤ r.lead.length + 1
  lt : ∀ col, col < lastN size r.lead + 2 → ∀ k, k < r.lead.length + 1 → ((r.cs size).getD k 0 < (col : Int) ↔ k < cntN r size col)
theorem RwOk.cntOk {r : Rw} {size : Nat} (h : RwOk r size) : CntOk r size := by
  have := h.cnt
  unfold Mine.cntOk at this
  rw [Bool.and_eq_true, decide_eq_true_eq, List.all_eq_true] at this
  refine ⟨this.1, fun col hc => ?_, fun col hc k hk => ?_⟩
  · have h2 := this.2 col (List.mem_range.mpr hc)
    rw [Bool.and_eq_true, decide_eq_true_eq] at h2
    exact h2.1
  · have h2 := this.2 col (List.mem_range.mpr hc)
    rw [Bool.and_eq_true, List.all_eq_true] at h2
    have h3 := h2.2 k (List.mem_range.mpr hk)
    rw [beq_iff_eq, decide_eq_decide] at h3
    exact h3
theorem key_e {sent : List Nat} {s size j : Nat} (hj : s ≤ j) (hj' : j ≤ sent.length) (hl : sent.length ≤ 100) (h1 : 1 ≤ size) (h2 : size ≤ 1000) : F_key (.val (.int (j : Nat)) :: [V.str (mk sent), .int (s : Nat), .int (size : Nat)].map .val) = some (.int (lvl size (wR ((sent.take j).drop s)))) := by
  show lvE (fSlice (fGet 1) (fGet 2) (fGet 0) (fV .none)) (fGet 3) _ = _
  refine lvE_e (fSlice_e (o := .str (mk sent)) (x := .int (s : Nat)) (y := .int (j : Nat)) (z := .none) rfl rfl rfl rfl ?_) rfl ?_ h1 h2
  · rw [sl_str (lo := some ((s : Nat) : Int)) (hi := some ((j : Nat) : Int)) rfl rfl (by omega), slice_ab _ hj hj']
  · rw [List.length_drop, List.length_take]; omega
theorem pargs_e {sent : List Nat} {s signs size col : Nat} (hl : sent.length ≤ 100) : F_pargs ([V.str (mk sent), .int (s : Nat), .int (signs : Nat), .int (size : Nat), .int (col : Nat)].map .val) = some [.lst ((List.range sent.length).map fun i => .int (i : Nat)), .int (col : Nat), .int (s : Nat), .int ((s + signs + 1 : Nat) : Int)] := by
  have e1 : fBi lenD (fCons (fGet 0) fNil') ([V.str (mk sent), .int (s : Nat), .int (signs : Nat), .int (size : Nat), .int (col : Nat)].map .val) = some (.int sent.length) := fBi_e (fCons_e (v := .str (mk sent)) rfl fNil_e) (by rw [len_str (by rw [mk_len]; omega), mk_len])
  refine fCons_e (fBi_e (fCons_e (v := .rng 0 sent.length 1) (fBi_e (fCons_e e1 fNil_e) rfl) fNil_e) ?_) (fCons_e rfl (fCons_e rfl (fCons_e ?_ fNil_e)))
  · have h0 : smallI 0 = true := by decide
    have hn : smallI (sent.length : Int) = true := small_nat (by omega)
    have : listD [.rng 0 sent.length 1] = if (1 : Int) = 1 ∧ smallI 0 = true ∧ smallI (sent.length : Int) = true ∧ (sent.length : Int) - 0 ≤ 100000 then some (.lst (upTo 0 ((sent.length : Int) - 0).toNat)) else none := rfl
    rw [this, if_pos ⟨rfl, h0, hn, by omega⟩]
    unfold upTo
    simp
  · refine fBin_e (a := .int ((s : Int) + signs)) (b := .int 1) (fBin_e (a := .int (s : Nat)) (b := .int (signs : Nat)) rfl rfl rfl) rfl ?_
    rw [add_int]
    congr 2
theorem place_e (pre post : List Nat) (r : Rw) (size col : Nat) (ok : RwOk r size) (h1 : 1 ≤ size) (h2 : size ≤ 1000) (hc : col < lastN size r.lead + 2) (hl : (pre ++ (r.line ++ post)).length ≤ 100) :
    placeS [.str (mk (pre ++ (r.line ++ post))), .int (pre.length : Nat), .int (r.lead.length : Nat), .int (size : Nat), .int (col : Nat)] [] = some (.int ((pre.length + cntN r size col : Nat) : Int)) := by
  have ck := ok.cntOk
  have hll : (pre ++ (r.line ++ post)).length = pre.length + (r.line.length + post.length) := by rw [List.length_append, List.length_append]
  have hlo := ok.long
  refine placeS_e (pargs_e hl) fun f => ?_
  refine bisK_law _ _ (f := f) (p := fun j => decide ((r.cs size).getD (j - pre.length) 0 < (col : Int))) (r := pre.length + cntN r size col) (by rw [List.length_map, List.length_range]; omega) (by rw [List.length_map, List.length_range]; omega) (by have := ok.ll; omega) (fun j u hj1 hj2 hu => ?_) (fun j hj1 hj2 => ?_) (by omega) (by have := ck.le col hc; omega)
  · rw [List.getElem?_map, List.getElem?_range (by omega)] at hu
    cases hu
    refine ⟨.int (lvl size (wR (((pre ++ (r.line ++ post)).take j).drop pre.length))), ?_, ?_⟩
    · unfold keyF
      simp only [if_true]
      exact key_e hj1 (by omega) hl h1 h2
    · have e := tk_app pre r.line post (k := j - pre.length) (by omega)
      rw [show pre.length + (j - pre.length) = j by omega] at e
      rw [e, ok.lv _ (by omega), Nat.min_eq_left (by omega)]
      rfl
  · rw [decide_eq_decide]
    refine (ck.lt col hc (j - pre.length) (by omega)).trans ?_
    omega
noncomputable def innerB : Sg → Rs := (fSeq (fSet 22 (fCall placeS (fCons (fGet 15) (fCons (fGet 19) (fCons (fBin .Sub (fBi lenD (fCons (fGet 20) fNil')) (fV (.int 1))) (fCons (fGet 2) (fCons (fGet 21) fNil'))))) fKwNil)) (fSeq (fIf (fCmp .NotEq (fGet 22) (fBin .Add (fGet 19) (fBi lenD (fCons (fComp (fIt (fGet 20)) sp1 1 (fCmp .Lt (fGet 0) (fGet 1)) (sealF (fGet 0)) [21]) fNil')))) (fSeq (fRet (fV (.bool false))) fNil) fNil) fNil))
noncomputable def uSt (e : Nat → Slot) (size : Nat) (sent : List Nat) (x5 x6 x19 x20 x21 x22 : Slot) : Sg := [e 0, e 1, .val (.int size), e 3, e 4, x5, x6, e 7, e 8, e 9, e 10, e 11, e 12, e 13, e 14, .val (.str (mk sent)), e 16, e 17, e 18, x19, x20, x21, x22]
theorem inner_e (e : Nat → Slot) (pre post : List Nat) (r : Rw) (size col : Nat) (x5 x6 x22 : Slot) (ok : RwOk r size) (h1 : 1 ≤ size) (h2 : size ≤ 1000) (hc : col < lastN size r.lead + 2) (hl : (pre ++ (r.line ++ post)).length ≤ 100) :
    innerB (uSt e size (pre ++ (r.line ++ post)) x5 x6 (.val (.int (pre.length : Nat))) (.val (.lst (iL (r.cs size)))) (.val (.int (col : Nat))) x22) = some (.next, uSt e size (pre ++ (r.line ++ post)) x5 x6 (.val (.int (pre.length : Nat))) (.val (.lst (iL (r.cs size)))) (.val (.int (col : Nat))) (.val (.int ((pre.length + cntN r size col : Nat) : Int)))) := by
  have hcl : (r.cs size).length = r.lead.length + 1 := cols_len size r.lead 0
  have hll := ok.ll
  unfold innerB
  refine (fSeq_next ((fSet_e (fCall_e (fCons_e (v := .str (mk (pre ++ (r.line ++ post)))) rfl (fCons_e (v := .int (pre.length : Nat)) rfl (fCons_e (v := .int (r.lead.length : Nat)) (fBin_e (a := .int ((r.lead.length + 1 : Nat) : Int)) (b := .int 1) (fBi_e (fCons_e (v := .lst (iL (r.cs size))) rfl fNil_e) (by rw [len_lst (by rw [iL_len]; omega), iL_len, hcl])) rfl ?_) (fCons_e (v := .int (size : Nat)) rfl (fCons_e (v := .int (col : Nat)) rfl fNil_e))))) (place_e pre post r size col ok h1 h2 hc hl))).trans rfl)).trans ?_
  · rw [sub_int, show ((r.lead.length + 1 : Nat) : Int) - 1 = (r.lead.length : Nat) by omega]
  refine (fSeq_next ?_).trans rfl
  have hcomp : fComp (fIt (fGet 20)) sp1 1 (fCmp .Lt (fGet 0) (fGet 1)) (sealF (fGet 0)) [21] (uSt e size (pre ++ (r.line ++ post)) x5 x6 (.val (.int (pre.length : Nat))) (.val (.lst (iL (r.cs size)))) (.val (.int (col : Nat))) (.val (.int ((pre.length + cntN r size col : Nat) : Int)))) = some (.lst (iL ((r.cs size).filter fun x => decide (x < (col : Int))))) := by
    refine fComp_e (xs := iL (r.cs size)) (cs := [.int (col : Nat)]) rfl rfl (by rw [iL_len]; omega) ?_
    exact compGo_filter (inj := V.int) (us := fun x => [.int x]) (p := fun x => decide (x < (col : Int))) (g := V.int) (r.cs size) (fun _ _ => rfl) (fun _ _ => rfl) (fun _ _ => rfl) (fun _ _ _ => rfl)
  refine (fIf_f (σ := (uSt e size (pre ++ (r.line ++ post)) x5 x6 (.val (.int (pre.length : Nat))) (.val (.lst (iL (r.cs size)))) (.val (.int (col : Nat))) (.val (.int ((pre.length + cntN r size col : Nat) : Int))))) (fCmp_e (a := .int ((pre.length + cntN r size col : Nat) : Int)) (b := .int ((pre.length + cntN r size col : Nat) : Int)) rfl (fBin_e (a := .int (pre.length : Nat)) (b := .int (cntN r size col : Nat)) rfl (fBi_e (fCons_e hcomp fNil_e) ?_) ?_) ?_)).trans rfl
  · have hf : ((r.cs size).filter fun x => decide (x < (col : Int))).length ≤ (r.cs size).length := List.length_filter_le _ _
    rw [len_lst (by rw [iL_len]; omega), iL_len]
    rfl
  · rw [add_int]; congr 2
  · show some ((_ : Int) != _) = _
    rw [bne_self_eq_false]
noncomputable def outerB : Sg → Rs := (fSeq (fForS sp1 1 [21] (fIt (fBi rangeD (fCons (fBin .Add (fItem (fGet 20) (fNeg (fV (.int 1)))) (fV (.int 2))) fNil'))) innerB) fNil)
theorem outer_e (e : Nat → Slot) (pre post : List Nat) (r : Rw) (size : Nat) (x5 x6 x21 x22 : Slot) (ok : RwOk r size) (h1 : 1 ≤ size) (h2 : size ≤ 1000) (hl : (pre ++ (r.line ++ post)).length ≤ 100) :
    ∃ x21' x22', outerB (uSt e size (pre ++ (r.line ++ post)) x5 x6 (.val (.int (pre.length : Nat))) (.val (.lst (iL (r.cs size)))) x21 x22) = some (.next, uSt e size (pre ++ (r.line ++ post)) x5 x6 (.val (.int (pre.length : Nat))) (.val (.lst (iL (r.cs size)))) x21' x22') := by
  have ck := ok.cntOk
  have hll := ok.ll
  obtain ⟨xs, ex, hx⟩ := cols_last size r.lead 0
  have hit : (fIt (fBi rangeD (fCons (fBin .Add (fItem (fGet 20) (fNeg (fV (.int 1)))) (fV (.int 2))) fNil'))) (uSt e size (pre ++ (r.line ++ post)) x5 x6 (.val (.int (pre.length : Nat))) (.val (.lst (iL (r.cs size)))) x21 x22).hide = some ((List.range (lastN size r.lead + 2)).map fun i => .int (i : Nat)) := by
    refine fIt_e (v := .rng 0 ((lastN size r.lead + 2 : Nat) : Int) 1) (fBi_e (fCons_e (v := .int ((lastN size r.lead + 2 : Nat) : Int)) (fBin_e (a := .int (lastN size r.lead : Nat)) (b := .int 2) (fItem_e (a := .lst (iL (r.cs size))) (b := .int (-1)) rfl rfl ?_) rfl ?_) fNil_e) rfl) (iter_rng (by have := ck.last; omega))
    · have : iL (r.cs size) = iL xs ++ [.int (lastN size r.lead : Nat)] := by
        show iL (cols size 0 r.lead) = _
        rw [ex]
        unfold iL
        rw [List.map_append]
        rfl
      rw [this]
      exact item_last (by rw [iL_len]; omega)
    · rw [add_int]; congr 2
  obtain ⟨σ₂, e2, x21', x22', rfl⟩ := fFor_inv (set := fSp sp1 1 [21]) (F := innerB) (fun j σ => ∃ x21 x22, σ = uSt e size (pre ++ (r.line ++ post)) x5 x6 (.val (.int (pre.length : Nat))) (.val (.lst (iL (r.cs size)))) x21 x22) ((List.range (lastN size r.lead + 2)).map fun i => .int (i : Nat)) 0 _ ⟨x21, x22, rfl⟩ fun j v σ hj hI => by
    obtain ⟨y, z, rfl⟩ := hI
    rw [List.getElem?_map] at hj
    obtain ⟨i, hi, rfl⟩ := Option.map_eq_some_iff.mp hj
    obtain ⟨hlt, rfl⟩ := List.getElem?_eq_some_iff.mp hi
    rw [List.length_range] at hlt
    rw [List.getElem_range]
    exact ⟨_, _, rfl, inner_e e pre post r size j x5 x6 z ok h1 h2 hlt hl, _, _, rfl⟩
  refine ⟨x21', x22', ?_⟩
  unfold outerB
  exact (fSeq_next ((fForS_e hit).trans e2)).trans rfl
end Mine
set_option Elab.async false
set_option linter.unusedVariables false
set_option maxRecDepth 100000
set_option maxHeartbeats 4000000
namespace Mine
open PySem PySem.W PyProof.Rows
noncomputable def gCells : Sg → Option V := (fComp (fItE (fCons (fLst (fCons (fV (.int 256)) (fCons (fV (.int 0)) (fCons (fV (.int 147)) (fCons (fV (.int 3)) fNil'))))) fNil')) spTwo 2 tTrue (cellF 4) [0])
theorem cells_e (ns : List Int) (hn : ns.length ≤ 1000) (tl : List Slot) : ∃ c0 c1 c2 c3 : Int, gCells (.val (.lst (iL ns)) :: tl) = some (.lst (iL [c0, c1, c2, c3])) := by
  obtain ⟨c0, h0⟩ := cell_e ns hn 4 (by decide) 0 256
  obtain ⟨c1, h1⟩ := cell_e ns hn 4 (by decide) 1 0
  obtain ⟨c2, h2⟩ := cell_e ns hn 4 (by decide) 2 147
  obtain ⟨c3, h3⟩ := cell_e ns hn 4 (by decide) 3 3
  refine ⟨c0, c1, c2, c3, ?_⟩
  refine fComp_e (xs := [.tup [.int 0, .int 256], .tup [.int 1, .int 0], .tup [.int 2, .int 147], .tup [.int 3, .int 3]]) (cs := [.lst (iL ns)]) rfl rfl (by decide) ?_
  have step : ∀ (a b : Int) (c : V) (vs ys : List V), cellF 4 ([V.int a, .int b, .lst (iL ns)].map .val) = some c → fCompGo spTwo 2 tTrue (cellF 4) [.lst (iL ns)] vs = some ys → fCompGo spTwo 2 tTrue (cellF 4) [.lst (iL ns)] (.tup [.int a, .int b] :: vs) = some (c :: ys) := fun a b c vs ys h h' => by
    unfold fCompGo
    simp only [spTwo, tTrue, Option.bind_some, List.length_cons, List.length_nil, if_true, List.cons_append, List.nil_append]
    rw [h]
    simp only [Option.bind_some]
    have : fCompGo (fun v => match v with | .tup [a, b] => some [a, b] | _ => none) 2 (fun _ => some true) (cellF 4) [.lst (iL ns)] vs = some ys := h'
    first
      | rw [h']; rfl
      | rw [this]; rfl
  exact step _ _ _ _ _ h0 (step _ _ _ _ _ h1 (step _ _ _ _ _ h2 (step _ _ _ _ _ h3 rfl)))
noncomputable def rwOf (c : Int) : Rw := ⟨leadN c, dotN c⟩
theorem rwOf_ok (c : Int) {size : Nat} (hs : size ∈ [1, 2, 3, 4]) : RwOk (rwOf c) size where
  lv := fun i hi => lv_ok c hs hi
  cnt := cnt_ok c hs
  long := by
    have := line_long (leadN c ++ dotN c)
    rw [List.length_append] at this
    show (leadN c).length + 2 ≤ (lineOf (leadN c ++ dotN c)).length
    omega
  short := line_short c
  ll := lead_lenN c
noncomputable def restF : Sg → Rs := (fSeq (fSet 15 (fCall quoteS (fCons (fGet 3) fNil') fKwNil)) (fSeq (fIf (fCmp .NotEq (fGet 15) (fGet 4)) (fSeq (fRet (fV (.bool false))) fNil) fNil) (fSeq (fOwn 16 (fLst fNil')) (fSeq (fForS sp1 1 [17] (fIt (fBi rangeD (fCons (fBi lenD (fCons (fGet 15) fNil')) fNil'))) tellB) (fSeq (fIf (fCmp .NotEq (fGet 16) (fGet 7)) (fSeq (fRet (fV (.bool false))) fNil) fNil) (fFrz 5 (fFrz 6 (fSeq (fForS spTwo 2 [19, 20] (fItZ (fCons (fGet 6) (fCons (fGet 5) fNil'))) outerB) (fSeq (fRet (fV (.bool true))) fNil)))))))))
noncomputable def lawF : Sg → Rs := (fSeq (fSet 1 gCells) (fSeq (fSet 2 (fBin .Add (fBin .Mod (fItem (fGet 1) (fV (.int 3))) (fV (.int 4))) (fV (.int 1)))) (fSeq (fSet 3 (fV (.str (Str.ofString "")))) (fSeq (fSet 4 (fV (.str (Str.ofString "")))) (fSeq (fOwn 5 (fLst fNil')) (fSeq (fOwn 6 (fLst fNil')) (fSeq (fOwn 7 (fLst fNil')) (fSeq (fForS spTwo 2 [8, 9] (fItE (fCons (fSlice (fGet 1) (fV .none) (fV (.int 3)) (fV .none)) fNil')) (rowB quoteS columnsS)) restF))))))))
theorem law_eq : F_law quoteS bisRS columnsS wsS levelS placeS = lawF := rfl
theorem eqD_prs (l : List (Int × Int)) : cmpD .NotEq (.lst (prs l)) (.lst (prs l)) = some false := by
  show (eqD (.lst (prs l)) (.lst (prs l))).map _ = _
  unfold prs
  rw [eqD_pairs]
  rfl
theorem rest_e (a0 a1 : V) (size : Nat) (T : List Nat) (a b c : Rw) (x8 x9 x10 x11 x12 x13 x14 : Slot) (ha : RwOk a size) (hb : RwOk b size) (hc : RwOk c size) (h1 : 1 ≤ size) (h2 : size ≤ 1000) (hT : T.length ≤ 300) (hq : qd T = a.line ++ b.line ++ c.line) :
    ∃ σ', restF (rSt a0 a1 size T (a.line ++ b.line ++ c.line) [a.cs size, b.cs size, c.cs size] (Ss a b) (walkOf 0 a.lead (a.cs size) a.line.length ++ walkOf 1 b.lead (b.cs size) b.line.length ++ walkOf 2 c.lead (c.cs size) c.line.length) (x8 :: x9 :: x10 :: x11 :: x12 :: x13 :: x14 :: List.replicate 8 .unset)) = some (.ret (.bool true), σ') := by
  have sa := ha.short; have sb := hb.short; have sc := hc.short
  have hlen : (a.line ++ b.line ++ c.line).length = a.line.length + b.line.length + c.line.length := by rw [List.length_append, List.length_append]
  generalize hW : walkOf 0 a.lead (a.cs size) a.line.length ++ walkOf 1 b.lead (b.cs size) b.line.length ++ walkOf 2 c.lead (c.cs size) c.line.length = W
  unfold restF
  have s15 := fSet_e (i := 15) (σ := rSt a0 a1 size T (a.line ++ b.line ++ c.line) [a.cs size, b.cs size, c.cs size] (Ss a b) W (x8 :: x9 :: x10 :: x11 :: x12 :: x13 :: x14 :: List.replicate 8 .unset)) (fCall_e (fCons_e (f := fGet 3) (v := .str (mk T)) rfl fNil_e) (quote_e T (by omega)))
  rw [hq] at s15
  rw [fSeq_next s15]
  rw [fSeq_next ((fIf_f (fCmp_e (a := .str (mk (a.line ++ b.line ++ c.line))) (b := .str (mk (a.line ++ b.line ++ c.line))) rfl rfl ((str_ne _ _).trans (by rw [bne_self_eq_false])))).trans rfl)]
  rw [fSeq_next (F := fOwn 16 (fLst fNil')) (σ₁ := tSt a0 a1 size T (a.line ++ b.line ++ c.line) [a.cs size, b.cs size, c.cs size] (Ss a b) W x8 x9 x10 x11 x12 x13 x14 (a.line ++ b.line ++ c.line) [] .unset .unset (List.replicate 4 .unset)) rfl]
  have hit : fIt (fBi rangeD (fCons (fBi lenD (fCons (fGet 15) fNil')) fNil')) (tSt a0 a1 size T (a.line ++ b.line ++ c.line) [a.cs size, b.cs size, c.cs size] (Ss a b) W x8 x9 x10 x11 x12 x13 x14 (a.line ++ b.line ++ c.line) [] .unset .unset (List.replicate 4 .unset)).hide = some ((List.range (a.line.length + b.line.length + c.line.length)).map fun i => .int (i : Nat)) :=
    fIt_e (v := .rng 0 ((a.line.length + b.line.length + c.line.length : Nat) : Int) 1) (fBi_e (fCons_e (fBi_e (fCons_e (v := .str (mk (a.line ++ b.line ++ c.line))) rfl fNil_e) (by rw [len_str (by rw [mk_len]; omega), mk_len, hlen])) fNil_e) rfl) (iter_rng (by omega))
  obtain ⟨σ₂, e2, pl, row, rfl⟩ := fFor_inv (set := fSp sp1 1 [17]) (F := tellB) (fun j σ => ∃ pl row, σ = tSt a0 a1 size T (a.line ++ b.line ++ c.line) [a.cs size, b.cs size, c.cs size] (Ss a b) W x8 x9 x10 x11 x12 x13 x14 (a.line ++ b.line ++ c.line) ((List.range j).map (tell size a b c)) pl row (List.replicate 4 .unset)) ((List.range (a.line.length + b.line.length + c.line.length)).map fun i => .int (i : Nat)) 0 _ ⟨.unset, .unset, rfl⟩ fun j v σ hj hI => by
    obtain ⟨pl, row, rfl⟩ := hI
    rw [List.getElem?_map] at hj
    obtain ⟨i, hi, rfl⟩ := Option.map_eq_some_iff.mp hj
    obtain ⟨hlt, rfl⟩ := List.getElem?_eq_some_iff.mp hi
    rw [List.length_range] at hlt
    rw [List.getElem_range, Nat.zero_add]
    obtain ⟨row', e⟩ := tellB_e a0 a1 size T (a.line ++ b.line ++ c.line) [a.cs size, b.cs size, c.cs size] W ((List.range j).map (tell size a b c)) x8 x9 x10 x11 x12 x13 x14 row (List.replicate 4 .unset) a b c ha hb hc h1 h2 j hlt (by rw [List.length_map, List.length_range]; omega)
    refine ⟨_, _, rfl, e, .val (.int (j : Nat)), row', ?_⟩
    rw [List.range_succ, List.map_append]
    rfl
  rw [List.length_map, List.length_range, Nat.zero_add, tell_all, hW] at e2
  rw [fSeq_next ((fForS_e hit).trans e2)]
  rw [fSeq_next ((fIf_f (fCmp_e (a := .lst (prs W)) (b := .lst (prs W)) rfl rfl (eqD_prs W))).trans rfl)]
  let e : Nat → Slot := fun i => (tSt a0 a1 size T (a.line ++ b.line ++ c.line) [a.cs size, b.cs size, c.cs size] (Ss a b) W x8 x9 x10 x11 x12 x13 x14 (a.line ++ b.line ++ c.line) W pl row (List.replicate 4 .unset)).getD i .unset
  let x5 : Slot := .val (.lst [.lst (iL (a.cs size)), .lst (iL (b.cs size)), .lst (iL (c.cs size))])
  let x6 : Slot := .val (.lst (iL (Ss a b)))
  show ∃ σ', (fSeq (fForS spTwo 2 [19, 20] (fItZ (fCons (fGet 6) (fCons (fGet 5) fNil'))) outerB) (fSeq (fRet (fV (.bool true))) fNil)) (uSt e size (a.line ++ b.line ++ c.line) x5 x6 .unset .unset .unset .unset) = some (.ret (.bool true), σ')
  have hz : fItZ (fCons (fGet 6) (fCons (fGet 5) fNil')) (uSt e size (a.line ++ b.line ++ c.line) x5 x6 .unset .unset .unset .unset).hide = some [.tup [.int ((0 : Nat) : Int), .lst (iL (a.cs size))], .tup [.int ((a.line.length : Nat) : Int), .lst (iL (b.cs size))], .tup [.int ((a.line.length + b.line.length : Nat) : Int), .lst (iL (c.cs size))]] := rfl
  obtain ⟨y1, z1, o1⟩ := outer_e e [] (b.line ++ c.line) a size x5 x6 .unset .unset ha h1 h2 (by simp only [List.length_append, List.length_nil]; omega)
  have q1 : [] ++ (a.line ++ (b.line ++ c.line)) = a.line ++ b.line ++ c.line := by simp
  rw [q1] at o1
  obtain ⟨y2, z2, o2⟩ := outer_e e a.line c.line b size x5 x6 y1 z1 hb h1 h2 (by simp only [List.length_append]; omega)
  have q2 : a.line ++ (b.line ++ c.line) = a.line ++ b.line ++ c.line := by simp
  rw [q2] at o2
  obtain ⟨y3, z3, o3⟩ := outer_e e (a.line ++ b.line) [] c size x5 x6 y2 z2 hc h1 h2 (by simp only [List.length_append, List.length_nil]; omega)
  have q3 : a.line ++ b.line ++ (c.line ++ []) = a.line ++ b.line ++ c.line := by simp
  rw [q3, List.length_append] at o3
  have el : fFor (fSp spTwo 2 [19, 20]) outerB [.tup [.int ((0 : Nat) : Int), .lst (iL (a.cs size))], .tup [.int ((a.line.length : Nat) : Int), .lst (iL (b.cs size))], .tup [.int ((a.line.length + b.line.length : Nat) : Int), .lst (iL (c.cs size))]] (uSt e size (a.line ++ b.line ++ c.line) x5 x6 .unset .unset .unset .unset) = some (.next, uSt e size (a.line ++ b.line ++ c.line) x5 x6 (.val (.int ((a.line.length + b.line.length : Nat) : Int))) (.val (.lst (iL (c.cs size)))) y3 z3) :=
    ((fFor_cons rfl o1).trans ((fFor_cons rfl o2).trans (fFor_cons rfl o3))).trans rfl
  exact ⟨_, (fSeq_next ((fForS_e hz).trans el)).trans rfl⟩
theorem law2_plain : Law2 := fun ns hn => by
  rw [law_eq]
  obtain ⟨c0, c1, c2, c3, hc⟩ := cells_e ns (by omega) (List.replicate 22 .unset)
  obtain ⟨m0, m4⟩ := fm4 c3
  obtain ⟨size, hsz, hs⟩ : ∃ size : Nat, (size : Int) = c3.fmod 4 + 1 ∧ size ∈ [1, 2, 3, 4] := by
    refine ⟨(c3.fmod 4 + 1).toNat, by omega, ?_⟩
    have : c3.fmod 4 = 0 ∨ c3.fmod 4 = 1 ∨ c3.fmod 4 = 2 ∨ c3.fmod 4 = 3 := by omega
    rcases this with h | h | h | h <;> rw [h] <;> decide
  have h1 : 1 ≤ size := by omega
  have h2 : size ≤ 4 := by omega
  let a0 : V := .lst (iL ns)
  let a1 : V := .lst (iL [c0, c1, c2, c3])
  obtain ⟨qa, ta⟩ := turn_ok tok_nil c0
  obtain ⟨qb, tb⟩ := turn_ok ta c1
  obtain ⟨qc, tc⟩ := turn_ok tb c2
  have lenT : ∀ (T : List Nat) (c : Int), (T ++ (leadN c ++ dotN c ++ endOf T c)).length ≤ T.length + 8 := fun T c => by
    have := dot_lenN c; have := lead_lenN c; have := end_lenO T c
    simp only [List.length_append]; omega
  generalize hT1 : [] ++ (leadN c0 ++ dotN c0 ++ endOf [] c0) = T1 at qa ta qb tb qc tc
  generalize hT2 : T1 ++ (leadN c1 ++ dotN c1 ++ endOf T1 c1) = T2 at qb tb qc tc
  generalize hT3 : T2 ++ (leadN c2 ++ dotN c2 ++ endOf T2 c2) = T3 at qc tc
  have l1 : T1.length ≤ 8 := by have := lenT [] c0; rw [hT1] at this; simpa using this
  have l2 : T2.length ≤ 16 := by have := lenT T1 c1; rw [hT2] at this; omega
  have l3 : T3.length ≤ 24 := by have := lenT T2 c2; rw [hT3] at this; omega
  have q0 : qd [] = [] := rfl
  rw [q0, List.nil_append] at qa
  have ra := rwOf_ok c0 hs
  have rb := rwOf_ok c1 hs
  have rc := rwOf_ok c2 hs
  have sa := ra.short; have sb := rb.short; have sc := rc.short
  have sa' : (rwOf c0).line.length ≤ 10 := sa
  have sb' : (rwOf c1).line.length ≤ 10 := sb
  obtain ⟨u10, u11, u12, u13, u14, e1⟩ := row_e a0 a1 size [] [] [] [] [] 0 c0 .unset .unset .unset .unset .unset (List.replicate 8 .unset) h1 (by omega) (by decide) (by decide) (by decide) (by decide) (by decide)
  rw [hT1, q0] at e1
  have e1' : rowB quoteS columnsS (rSt a0 a1 size [] [] [] [] [] (.val (.int 0) :: .val (.int c0) :: .unset :: .unset :: .unset :: .unset :: .unset :: List.replicate 8 .unset)) = some (.next, rSt a0 a1 size T1 (rwOf c0).line [(rwOf c0).cs size] [((0 : Nat) : Int)] (walkOf 0 (rwOf c0).lead ((rwOf c0).cs size) (rwOf c0).line.length) (.val (.int 0) :: .val (.int c0) :: u10 :: u11 :: u12 :: u13 :: u14 :: List.replicate 8 .unset)) := e1
  have w1 : (walkOf 0 (rwOf c0).lead ((rwOf c0).cs size) (rwOf c0).line.length).length ≤ 10 := by unfold walkOf; rw [List.length_map, List.length_range]; exact sa'
  obtain ⟨v10, v11, v12, v13, v14, e2⟩ := row_e a0 a1 size T1 (rwOf c0).line [(rwOf c0).cs size] [((0 : Nat) : Int)] (walkOf 0 (rwOf c0).lead ((rwOf c0).cs size) (rwOf c0).line.length) 1 c1 u10 u11 u12 u13 u14 (List.replicate 8 .unset) h1 (by omega) (by omega) (by omega) (show 1 ≤ 10 by decide) (show 1 ≤ 10 by decide) (by omega)
  rw [hT2, qa] at e2
  have e2' : rowB quoteS columnsS (rSt a0 a1 size T1 (rwOf c0).line [(rwOf c0).cs size] [((0 : Nat) : Int)] (walkOf 0 (rwOf c0).lead ((rwOf c0).cs size) (rwOf c0).line.length) (.val (.int 1) :: .val (.int c1) :: u10 :: u11 :: u12 :: u13 :: u14 :: List.replicate 8 .unset)) = some (.next, rSt a0 a1 size T2 ((rwOf c0).line ++ (rwOf c1).line) [(rwOf c0).cs size, (rwOf c1).cs size] [((0 : Nat) : Int), ((rwOf c0).line.length : Int)] (walkOf 0 (rwOf c0).lead ((rwOf c0).cs size) (rwOf c0).line.length ++ walkOf 1 (rwOf c1).lead ((rwOf c1).cs size) (rwOf c1).line.length) (.val (.int 1) :: .val (.int c1) :: v10 :: v11 :: v12 :: v13 :: v14 :: List.replicate 8 .unset)) := e2
  have w2 : (walkOf 0 (rwOf c0).lead ((rwOf c0).cs size) (rwOf c0).line.length ++ walkOf 1 (rwOf c1).lead ((rwOf c1).cs size) (rwOf c1).line.length).length ≤ 20 := by
    unfold walkOf; rw [List.length_append, List.length_map, List.length_range, List.length_map, List.length_range]; omega
  obtain ⟨y10, y11, y12, y13, y14, e3⟩ := row_e a0 a1 size T2 ((rwOf c0).line ++ (rwOf c1).line) [(rwOf c0).cs size, (rwOf c1).cs size] [((0 : Nat) : Int), ((rwOf c0).line.length : Int)] (walkOf 0 (rwOf c0).lead ((rwOf c0).cs size) (rwOf c0).line.length ++ walkOf 1 (rwOf c1).lead ((rwOf c1).cs size) (rwOf c1).line.length) 2 c2 v10 v11 v12 v13 v14 (List.replicate 8 .unset) h1 (by omega) (by omega) (by rw [List.length_append]; omega) (show 2 ≤ 10 by decide) (show 2 ≤ 10 by decide) (by omega)
  have qb' : qd T2 = (rwOf c0).line ++ (rwOf c1).line := by rw [qb, qa]; rfl
  have qc' : qd T3 = (rwOf c0).line ++ (rwOf c1).line ++ (rwOf c2).line := by rw [qc, qb']; rfl
  rw [hT3, qb', List.length_append] at e3
  have e3' : rowB quoteS columnsS (rSt a0 a1 size T2 ((rwOf c0).line ++ (rwOf c1).line) [(rwOf c0).cs size, (rwOf c1).cs size] [((0 : Nat) : Int), ((rwOf c0).line.length : Int)] (walkOf 0 (rwOf c0).lead ((rwOf c0).cs size) (rwOf c0).line.length ++ walkOf 1 (rwOf c1).lead ((rwOf c1).cs size) (rwOf c1).line.length) (.val (.int 2) :: .val (.int c2) :: v10 :: v11 :: v12 :: v13 :: v14 :: List.replicate 8 .unset)) = some (.next, rSt a0 a1 size T3 ((rwOf c0).line ++ (rwOf c1).line ++ (rwOf c2).line) [(rwOf c0).cs size, (rwOf c1).cs size, (rwOf c2).cs size] (Ss (rwOf c0) (rwOf c1)) (walkOf 0 (rwOf c0).lead ((rwOf c0).cs size) (rwOf c0).line.length ++ walkOf 1 (rwOf c1).lead ((rwOf c1).cs size) (rwOf c1).line.length ++ walkOf 2 (rwOf c2).lead ((rwOf c2).cs size) (rwOf c2).line.length) (.val (.int 2) :: .val (.int c2) :: y10 :: y11 :: y12 :: y13 :: y14 :: List.replicate 8 .unset)) := e3
  obtain ⟨σ', er⟩ := rest_e a0 a1 size T3 (rwOf c0) (rwOf c1) (rwOf c2) (.val (.int 2)) (.val (.int c2)) y10 y11 y12 y13 y14 ra rb rc h1 (by omega) (by omega) qc'
  refine ⟨σ', ?_⟩
  unfold lawF
  rw [fSeq_next (fSet_e hc)]
  rw [fSeq_next (fSet_e (v := .int size) (fBin_e (a := .int (c3.fmod 4)) (b := .int 1) (fBin_e (a := .int c3) (b := .int 4) (fItem_e (a := a1) (b := .int 3) rfl rfl rfl) rfl (mod_int _ (by decide))) rfl (by rw [add_int, hsz])))]
  rw [e_0]
  refine (fSeq_next (σ₁ := .val a0 :: .val a1 :: .val (.int size) :: .val (.str (mk [])) :: List.replicate 19 .unset) rfl).trans ?_
  refine (fSeq_next (σ₁ := .val a0 :: .val a1 :: .val (.int size) :: .val (.str (mk [])) :: .val (.str (mk [])) :: List.replicate 18 .unset) rfl).trans ?_
  refine (fSeq_next (σ₁ := .val a0 :: .val a1 :: .val (.int size) :: .val (.str (mk [])) :: .val (.str (mk [])) :: .own [] :: List.replicate 17 .unset) rfl).trans ?_
  refine (fSeq_next (σ₁ := .val a0 :: .val a1 :: .val (.int size) :: .val (.str (mk [])) :: .val (.str (mk [])) :: .own [] :: .own [] :: List.replicate 16 .unset) rfl).trans ?_
  refine (fSeq_next (σ₁ := rSt a0 a1 size [] [] [] [] [] (List.replicate 15 .unset)) rfl).trans ?_
  have hit : fItE (fCons (fSlice (fGet 1) (fV .none) (fV (.int 3)) (fV .none)) fNil') (rSt a0 a1 size [] [] [] [] [] (List.replicate 15 .unset)).hide = some [.tup [.int 0, .int c0], .tup [.int 1, .int c1], .tup [.int 2, .int c2]] := rfl
  have el : fFor (fSp spTwo 2 [8, 9]) (rowB quoteS columnsS) [.tup [.int 0, .int c0], .tup [.int 1, .int c1], .tup [.int 2, .int c2]] (rSt a0 a1 size [] [] [] [] [] (List.replicate 15 .unset)) = some (.next, rSt a0 a1 size T3 ((rwOf c0).line ++ (rwOf c1).line ++ (rwOf c2).line) [(rwOf c0).cs size, (rwOf c1).cs size, (rwOf c2).cs size] (Ss (rwOf c0) (rwOf c1)) (walkOf 0 (rwOf c0).lead ((rwOf c0).cs size) (rwOf c0).line.length ++ walkOf 1 (rwOf c1).lead ((rwOf c1).cs size) (rwOf c1).line.length ++ walkOf 2 (rwOf c2).lead ((rwOf c2).cs size) (rwOf c2).line.length) (.val (.int 2) :: .val (.int c2) :: y10 :: y11 :: y12 :: y13 :: y14 :: List.replicate 8 .unset)) :=
    ((fFor_cons rfl e1').trans ((fFor_cons rfl e2').trans (fFor_cons rfl e3'))).trans rfl
  exact (fSeq_next ((fForS_e hit).trans el)).trans er
theorem law2 : PySem.Challenge.rw_pk0101_02.Holds := law2_of law2_plain
end Mine
theorem PySem.Challenge.cw_pk0101_02_holds : PySem.Challenge.rw_pk0101_02.Holds :=
  Mine.law2
