import PyProof.Rows.All
import Wide.All
import OpenK.AllK
import Wide.FinOn
import KE.KSortKey
import PyProof.FactsTree
import PyProof.StrLawsChain
import KE.KDictLaws
import KE.KDictOf
import Lean
import PySem.Challenge.RW_re0177_01
open PySem PySem.W PyProof.Rows
set_option Elab.async false
set_option maxRecDepth 100000
set_option linter.unusedVariables false
set_option bootstrap.genMatcherCode false
noncomputable section
namespace Wk

inductive At where
  | none | bool (b : Bool) | int (i : Int) | str (x : Str) | val (v : Value)
def At.of : At → Value → Prop
  | .none, v => v = .none
  | .bool b, v => v = .bool b
  | .int i, v => ∃ t, v = .int i t
  | .str x, v => ∃ t, v = .str x t
  | .val u, v => v = u
def Ats : List At → List Value → Prop
  | [], [] => True
  | a :: l, v :: vs => a.of v ∧ Ats l vs
  | _, _ => False
inductive IV where
  | at (a : At) | tup (l : List At)
def IV.of (h : Heap) : IV → Value → Prop
  | .at a, v => a.of v
  | .tup l, v => ∃ a vs, v = .ref a ∧ IsTup h a vs.toArray ∧ Ats l vs
def IVs (h : Heap) : List IV → List Value → Prop
  | [], [] => True
  | x :: l, v :: vs => x.of h v ∧ IVs h l vs
  | _, _ => False
def KVs : List (Str × At) → List (Str × Value) → Prop
  | [], [] => True
  | p :: l, q :: r => p.1 = q.1 ∧ p.2.of q.2 ∧ KVs l r
  | _, _ => False
inductive PV where
  | any | iv (x : IV) | list (l : List IV) | dict (l : List (Str × At)) | obj (C : Addr) (l : List IV)
noncomputable abbrev PV.str (x : Str) : PV := .iv (.at (.str x))
noncomputable abbrev PV.int (i : Int) : PV := .iv (.at (.int i))
noncomputable abbrev PV.bool (b : Bool) : PV := .iv (.at (.bool b))
noncomputable abbrev PV.none : PV := .iv (.at .none)
noncomputable abbrev PV.tup (l : List At) : PV := .iv (.tup l)

abbrev Keep (h h' : Heap) : Prop := ∀ b o, h.get? b = some o → h'.get? b = some o
theorem IV.of_keep {h h' : Heap} (k : Keep h h') : ∀ {x : IV} {v : Value}, x.of h v → x.of h' v
  | .at _, _, e => e
  | .tup l, v, ⟨a, vs, e, t, r⟩ => ⟨a, vs, e, t.keeps k, r⟩
theorem IVs.keep {h h' : Heap} (k : Keep h h') : ∀ {l : List IV} {vs : List Value}, IVs h l vs → IVs h' l vs
  | [], [], _ => trivial
  | _ :: _, _ :: _, ⟨a, b⟩ => ⟨IV.of_keep k a, IVs.keep k b⟩
  | [], _ :: _, e => e.elim
  | _ :: _, [], e => e.elim
theorem IVs.length {h : Heap} : ∀ {l : List IV} {vs : List Value}, IVs h l vs → vs.length = l.length
  | [], [], _ => rfl
  | _ :: _, _ :: _, ⟨_, b⟩ => congrArg (· + 1) (IVs.length b)
  | [], _ :: _, e => e.elim
  | _ :: _, [], e => e.elim
theorem IVs.append {h : Heap} : ∀ {l : List IV} {vs : List Value} {l' : List IV} {vs' : List Value}, IVs h l vs → IVs h l' vs' → IVs h (l ++ l') (vs ++ vs')
  | [], [], _, _, _, b => b
  | _ :: _, _ :: _, _, _, ⟨a, b⟩, c => ⟨a, IVs.append b c⟩
  | [], _ :: _, _, _, e, _ => e.elim
  | _ :: _, [], _, _, e, _ => e.elim
theorem IVs.get {h : Heap} : ∀ {l : List IV} {vs : List Value} {i : Nat} {x : IV}, IVs h l vs → l[i]? = some x → ∃ v, vs[i]? = some v ∧ x.of h v
  | _ :: _, v :: _, 0, x, ⟨a, _⟩, e => ⟨v, rfl, by simp at e; exact e ▸ a⟩
  | _ :: _, _ :: _, i + 1, x, ⟨_, b⟩, e => by
    obtain ⟨v, e1, e2⟩ := IVs.get (i := i) b (by simpa using e)
    exact ⟨v, by simpa using e1, e2⟩
  | [], [], i, x, _, e => by simp at e
  | [], _ :: _, _, _, e, _ => e.elim
  | _ :: _, [], _, _, e, _ => e.elim
theorem Ats.length : ∀ {l : List At} {vs : List Value}, Ats l vs → vs.length = l.length
  | [], [], _ => rfl
  | _ :: _, _ :: _, ⟨_, b⟩ => congrArg (· + 1) (Ats.length b)
  | [], _ :: _, e => e.elim
  | _ :: _, [], e => e.elim
theorem Ats.get : ∀ {l : List At} {vs : List Value} {i : Nat} {x : At}, Ats l vs → l[i]? = some x → ∃ v, vs[i]? = some v ∧ x.of v
  | _ :: _, v :: _, 0, x, ⟨a, _⟩, e => ⟨v, rfl, by simp at e; exact e ▸ a⟩
  | _ :: _, _ :: _, i + 1, x, ⟨_, b⟩, e => by
    obtain ⟨v, e1, e2⟩ := Ats.get (i := i) b (by simpa using e)
    exact ⟨v, by simpa using e1, e2⟩
  | [], [], i, x, _, e => by simp at e
  | [], _ :: _, _, _, e, _ => e.elim
  | _ :: _, [], _, _, e, _ => e.elim

noncomputable def hdM (L : Addr) : Str → Option Value := fun y => if y = ("_headers" : Str) then some (.ref L) else none
inductive RepL (h : Heap) (l : List IV) (v : Value) (fp : List Addr) : Prop
  | mk (a : Addr) (vs : List Value) (e : v = .ref a) (pl : PlainL h a vs.toArray) (iv : IVs h l vs) (f : fp = [a]) : RepL h l v fp
inductive RepB (h : Heap) (C : Addr) (l : List IV) (v : Value) (fp : List Addr) : Prop
  | mk (x d L : Addr) (vs : List Value) (od : Obj) (m : Str → Option Value) (e : v = .ref x) (ho : h.get? x = some od) (hc : (od.cls = .ref C ∧ od.dict = some d ∧ ∀ c, od.data ≠ .cls c) ∧ d ≠ x) (ns : h.Ns1 d m) (hm : m = hdM L) (pl : PlainL h L vs.toArray) (iv : IVs h l vs) (f : fp = [x, d, L]) : RepB h C l v fp
section
variable (prog : Program) (w : World)
inductive RepD (h : Heap) (l : List (Str × At)) (v : Value) (fp : List Addr) : Prop
  | mk (a : Addr) (kvs : List (Str × Value)) (e : v = .ref a) (hd : h.DictOf (PySem.strKind prog w) a kvs) (kv : KVs l kvs) (f : fp = [a]) (g : (a == sysModules) = false) : RepD h l v fp
def Rep (h : Heap) : PV → Value → List Addr → Prop
  | .any, _, fp => fp = []
  | .iv x, v, fp => x.of h v ∧ fp = []
  | .list l, v, fp => RepL h l v fp
  | .dict l, v, fp => RepD prog w h l v fp
  | .obj C l, v, fp => RepB h C l v fp
def RepO (h : Heap) : PV → Option Value → List Addr → Prop
  | .any, _, fp => fp = []
  | p, some v, fp => Rep prog w h p v fp
  | _, none, _ => False
end
section
variable {prog : Program} {w : World}
theorem Rep.keep {h h' : Heap} (k : Keep h h') {p : PV} {v : Value} {fp : List Addr} (r : Rep prog w h p v fp) : Rep prog w h' p v fp := by
  cases p with
  | any => exact r
  | iv x => exact ⟨IV.of_keep k r.1, r.2⟩
  | list l =>
    obtain ⟨a, vs, e, l, i, f⟩ := r
    exact ⟨a, vs, e, l.keeps k, i.keep k, f⟩
  | dict l =>
    obtain ⟨a, kvs, e, l, i, f, g⟩ := r
    exact ⟨a, kvs, e, l.keep k, i, f, g⟩
  | obj C l =>
    obtain ⟨x, d, L, vs, od, m, e, a1, a2, a3, a4, a5, a6, f⟩ := r
    exact ⟨x, d, L, vs, od, m, e, k _ _ a1, a2, a3.keeps k, a4, a5.keeps k, a6.keep k, f⟩
theorem RepO.keep {h h' : Heap} (k : Keep h h') {p : PV} {ov : Option Value} {fp : List Addr} (r : RepO prog w h p ov fp) : RepO prog w h' p ov fp := by
  cases p with
  | any => exact r
  | iv x => cases ov with
    | none => exact r.elim
    | some v => exact Rep.keep (prog := prog) (w := w) (p := .iv x) k r
  | list x => cases ov with
    | none => exact r.elim
    | some v => exact Rep.keep (prog := prog) (w := w) (p := .list x) k r
  | dict x => cases ov with
    | none => exact r.elim
    | some v => exact Rep.keep (prog := prog) (w := w) (p := .dict x) k r
  | obj C x => cases ov with
    | none => exact r.elim
    | some v => exact Rep.keep (prog := prog) (w := w) (p := .obj C x) k r
theorem Rep.stands {h : Heap} {p : PV} {v : Value} {fp : List Addr} (r : Rep prog w h p v fp) (a : Addr) (ha : a ∈ fp) : ∃ o, h.get? a = some o := by
  cases p with
  | any => rw [show fp = [] from r] at ha; cases ha
  | iv x => rw [r.2] at ha; cases ha
  | list l =>
    obtain ⟨b, vs, e, l, i, f⟩ := r
    rw [f, List.mem_singleton] at ha
    exact ha ▸ l.imp fun o ho => ho.choose_spec.1
  | dict l =>
    obtain ⟨b, kvs, e, l, i, f, g⟩ := r
    rw [f, List.mem_singleton] at ha
    exact ha ▸ l.imp fun o ho => ho.choose_spec.choose_spec.1
  | obj C l =>
    obtain ⟨x, d, L, vs, od, m, e, a1, a2, a3, a4, a5, a6, f⟩ := r
    rw [f] at ha
    simp only [List.mem_cons, List.not_mem_nil, or_false] at ha
    rcases ha with ha | ha | ha
    · exact ha ▸ ⟨_, a1⟩
    · exact ha ▸ a3.imp fun o ho => ho.choose_spec.choose_spec.1
    · exact ha ▸ a5.imp fun o ho => ho.choose_spec.1
end

def Ext (s s' : Shared) : Prop := (s'.gens = s.gens ∧ s'.os = s.os) ∧ Keep s.heap s'.heap
theorem Ext.refl (s : Shared) : Ext s s := ⟨⟨rfl, rfl⟩, fun _ _ e => e⟩
theorem Ext.trans {s s' s'' : Shared} (x : Ext s s') (y : Ext s' s'') : Ext s s'' := ⟨⟨y.1.1.trans x.1.1, y.1.2.trans x.1.2⟩, fun b o e => y.2 b o (x.2 b o e)⟩
theorem Ext.tok (s : Shared) (t : Nat) : Ext s { s with toks := t } := ⟨⟨rfl, rfl⟩, fun _ _ e => e⟩
theorem Ext.push (s : Shared) (o : Obj) (t : Nat) : Ext s { s with heap := s.heap.push o, toks := t } := ⟨⟨rfl, rfl⟩, fun _ _ e => Heap.get?_push_of_some _ e⟩
theorem Ext.gens {s s' : Shared} (x : Ext s s') : s'.gens = s.gens := x.1.1
theorem Ext.os {s s' : Shared} (x : Ext s s') : s'.os = s.os := x.1.2
theorem Ext.none {s s' : Shared} (x : Ext s s') {a : Addr} (e : s'.heap.get? a = Option.none) : s.heap.get? a = Option.none := by
  cases q : s.heap.get? a with
  | none => rfl
  | some o => rw [x.2 a o q] at e; cases e

structure Fm where
  env : Env
  slots : List (Str × Option Addr)
  base : Addr → Option Obj
  os : OsState
  res : Addr → Prop
  mine : Addr → Prop
  acc : Addr → Prop
noncomputable abbrev Fm.up (F : Fm) (b : Addr → Option Obj) (r : Addr → Prop) : Fm := { F with base := b, res := r }
structure Fm.Le (F : Fm) (b : Addr → Option Obj) (r : Addr → Prop) : Prop where
  base : ∀ a o, F.base a = some o → b a = some o
  res : ∀ a, F.res a → r a
theorem Fm.Le.refl (F : Fm) : F.Le F.base F.res := ⟨fun _ _ e => e, fun _ e => e⟩
theorem Fm.Le.trans {F : Fm} {b b' : Addr → Option Obj} {r r' : Addr → Prop} (x : F.Le b r) (y : (F.up b r).Le b' r') : F.Le b' r' := ⟨fun a o e => y.base a o (x.base a o e), fun a e => y.res a (x.res a e)⟩
abbrev Rho := List (PV × Bool)

def NT (h : Heap) (a : Addr) : Prop := ∀ o, h.get? a = some o → ∀ xs n, o.cls = .type "tuple" → o.data ≠ .seq xs n
theorem NT.keep {h h' : Heap} (k : Keep h h') {a : Addr} (hs : ∃ o, h.get? a = some o) (n : NT h a) : NT h' a := fun o ho => by
  obtain ⟨o', ho'⟩ := hs
  have := k a o' ho'
  rw [ho] at this; cases this
  exact n o ho'
structure FmOk (F : Fm) : Prop where
  kind : F.env.scope.kind = .function
  loc : ∀ (i : Nat) (x : Str), F.slots[i]? = some (x, none) → F.env.kindOf x = some .local
  cel : ∀ (i : Nat) (x : Str) (c : Addr), F.slots[i]? = some (x, some c) → (F.env.kindOf x = some .cell ∨ F.env.kindOf x = some .free) ∧ F.env.cells.lookup x = some c ∧ c ≠ F.env.locals
  names : ∀ (i j : Nat) (x : Str) (a b : Option Addr), F.slots[i]? = some (x, a) → F.slots[j]? = some (x, b) → i = j
  cells : ∀ (i j : Nat) (x y : Str) (c : Addr), F.slots[i]? = some (x, some c) → F.slots[j]? = some (y, some c) → i = j
  baseL : F.base F.env.locals = none
  resL : ¬ F.res F.env.locals
  resC : ∀ (i : Nat) (x : Str) (c : Addr), F.slots[i]? = some (x, some c) → ¬ F.res c
  mine : ∀ c, F.mine c → F.base c = none
  acc : ∀ d, F.acc d → F.base d = none ∧ ¬ F.res d ∧ d ≠ F.env.locals ∧ ∀ (i : Nat) (x : Str), F.slots[i]? ≠ some (x, some d)
  mineC : ∀ c, F.mine c → ∃ (i : Nat) (x : Str), F.slots[i]? = some (x, some c)

section
variable (prog : Program) (w : World)
inductive InvS (F : Fm) (ρ : Rho) (s : Shared) : Prop
  | mk (m : Str → Option Value) (hm : s.heap.Ns F.env.locals m) (fp : Nat → List Addr) (a : (∀ (i : Nat) (x : Str) (acc : Option Addr) (p : PV) (own : Bool), F.slots[i]? = some (x, acc) → ρ[i]? = some (p, own) →       ∃ ov, (match acc with | none => ov = m x | some c => s.heap.IsCell c ov) ∧ RepO prog w s.heap p ov (fp i) ∧ ∀ a ∈ fp i, (a ≠ F.env.locals ∧ ¬ (F.res a ∨ F.acc a)) ∧ ∀ (j : Nat) (x : Str) (c : Addr), F.slots[j]? = some (x, some c) → a ≠ c)) (b : (∀ (i : Nat) (p : PV), ρ[i]? = some (p, true) → ∀ a ∈ fp i, F.base a = none ∧ ∀ (j : Nat) (q : PV × Bool), j ≠ i → ρ[j]? = some q → a ∉ fp j)) : InvS F ρ s
structure Inv (F : Fm) (ρ : Rho) (s : Shared) : Prop where
  keep : ∀ a o, F.base a = some o → s.heap.get? a = some o
  gens : s.gens = #[]
  os : s.os = F.os
  len : ρ.length = F.slots.length
  res : ∀ a, F.res a → ∃ o, s.heap.get? a = some o
  acc : ∀ d, F.acc d → (∃ o, s.heap.get? d = some o) ∧ NT s.heap d
  sl : InvS prog w F ρ s
end
variable {prog : Program} {w : World}
theorem Inv.ext {F : Fm} {ρ : Rho} {s s' : Shared} (I : Inv prog w F ρ s) (x : Ext s s') : Inv prog w F ρ s' := by
  obtain ⟨k, g, o, ln, rs, ac, m, hm, fp, a, b⟩ := I
  refine ⟨fun b o e => x.2 _ _ (k b o e), x.gens.trans g, x.os.trans o, ln, fun a ha => let ⟨o, ho⟩ := rs a ha; ⟨o, x.2 _ _ ho⟩, fun d hd => ⟨let ⟨o, ho⟩ := (ac d hd).1; ⟨o, x.2 _ _ ho⟩, (ac d hd).2.keep x.2 (ac d hd).1⟩, m, hm.keeps x.2, fp, fun i y acc p own h1 h2 => ?_, b⟩
  obtain ⟨ov, h3, h4, h5⟩ := a i y acc p own h1 h2
  refine ⟨ov, ?_, h4.keep x.2, h5⟩
  cases acc with
  | none => exact h3
  | some c => exact h3.keeps x.2

def Room (k : Nat) (A : Around) : Prop := A.depth + k < recursionLimit ∧ A.units + 10 * k + 20 < cLine ∧ A.handled = none
theorem Room.units {k : Nat} {A : Around} (r : Room k A) : A.units < cLine := by have := r.2.1; lia
theorem Room.handled {k : Nat} {A : Around} (r : Room k A) : A.handled = none := r.2.2
theorem Room.depth {k : Nat} {A : Around} (r : Room k A) : A.depth < recursionLimit := by have := r.1; lia

theorem Inv.down {F : Fm} {ρ : Rho} {s : Shared} {b : Addr → Option Obj} {r : Addr → Prop} (I : Inv prog w (F.up b r) ρ s) (l : F.Le b r) : Inv prog w F ρ s := by
  obtain ⟨k, g, o, ln, rs, ac, m, hm, fp, a, c⟩ := I
  refine ⟨fun b o e => k b o (l.base b o e), g, o, ln, fun a ha => rs a (l.res a ha), ac, m, hm, fp, fun i y acc p own h1 h2 => ?_, fun i p h1 y hy => ?_⟩
  · obtain ⟨ov, h3, h4, h5⟩ := a i y acc p own h1 h2
    exact ⟨ov, h3, h4, fun z hz => ⟨⟨(h5 z hz).1.1, fun q => (h5 z hz).1.2 (q.imp (l.res z) id)⟩, (h5 z hz).2⟩⟩
  · obtain ⟨h2, h3⟩ := c i p h1 y hy
    refine ⟨?_, h3⟩
    cases e : F.base y with
    | none => rfl
    | some o => have h4 := l.base y o e; rw [show b y = none from h2] at h4; cases h4

abbrev No : Value → Shared → Prop := fun _ _ => False
def Fresh (s : Shared) (fp : List Addr) : Prop := ∀ a ∈ fp, s.heap.get? a = none
section
variable (prog : Program) (w : World)
inductive Gives' (pv : PV) (fr : Bool) (s : Shared) (v : Value) (s' : Shared) : Prop
  | mk (x : Ext s s') (fp : List Addr) (r : Rep prog w s'.heap pv v fp) (f : fr = true → Fresh s fp) : Gives' pv fr s v s'
def EvJ (F : Fm) (ρ : Rho) (k : Nat) (e : PySem.Expr) (pv : PV) (fr : Bool) : Prop :=
  ∀ A s, Room k A → Inv prog w F ρ s → wpAny (model prog w) A (eval e F.env) (Gives' prog w pv fr s) No s
def Reps (h : Heap) : List PV → List Value → Prop
  | [], [] => True
  | p :: ps, v :: vs => (∃ fp, Rep prog w h p v fp) ∧ Reps h ps vs
  | _, _ => False
inductive EvL (F : Fm) (ρ : Rho) (k : Nat) : List PySem.Expr → List PV → Prop
  | nil : EvL F ρ k [] []
  | cons {e es p ps fr} : EvJ prog w F ρ k e p fr → EvL F ρ k es ps → EvL F ρ k (e :: es) (p :: ps)
end
section
variable {F : Fm} {ρ : Rho} {k : Nat}
theorem ev_local {x : Str} {pos : PySem.Pos} {p : PV} {own : Bool} (i : Nat) (ok : FmOk F) (hs : F.slots[i]? = some (x, none)) (hr : ρ[i]? = some (p, own)) (hp : p ≠ .any) (hd : (x == ("__debug__" : Str)) = false := by decide) :
    EvJ prog w F ρ k (.Name x pos) p false := fun A s r I => by
  obtain ⟨m, hm, fp, a, b⟩ := I.sl
  obtain ⟨ov, h3, h4, _⟩ := a i x none p own hs hr
  have h3 : ov = m x := h3
  subst h3
  cases hv : m x with
  | none => rw [hv] at h4; cases p <;> first | exact absurd rfl hp | exact h4.elim
  | some v =>
    rw [hv] at h4
    have h5 : Rep prog w s.heap p v (fp i) := by cases p <;> first | exact absurd rfl hp | exact h4
    exact wpAny_Name (wpAny_loadName_local ok.kind (ok.loc i x hs) hm hv ⟨Ext.refl s, fp i, h5, fun e => nomatch e⟩) hd
theorem ev_cell {x : Str} {pos : PySem.Pos} {p : PV} {own : Bool} {c : Addr} (i : Nat) (ok : FmOk F) (hs : F.slots[i]? = some (x, some c)) (hr : ρ[i]? = some (p, own)) (hp : p ≠ .any) (hd : (x == ("__debug__" : Str)) = false := by decide)
    (hn : (x == ("__classdict__" : Str)) = false := by decide) : EvJ prog w F ρ k (.Name x pos) p false := fun A s r I => by
  obtain ⟨m, hm, fp, a, b⟩ := I.sl
  obtain ⟨ov, h3, h4, _⟩ := a i x (some c) p own hs hr
  have h3 : s.heap.IsCell c ov := h3
  obtain ⟨hk, hl, _⟩ := ok.cel i x c hs
  cases ov with
  | none => cases p <;> first | exact absurd rfl hp | exact h4.elim
  | some v =>
    have h5 : Rep prog w s.heap p v (fp i) := by cases p <;> first | exact absurd rfl hp | exact h4
    have q : Gives' prog w p false s v s := ⟨Ext.refl s, fp i, h5, fun e => nomatch e⟩
    rcases hk with hk | hk
    · exact wpAny_Name (wpAny_loadName_cell ok.kind hk hl h3 q) hd
    · exact wpAny_Name (wpAny_loadName_free ok.kind hk hl h3 q hn) hd
theorem ev_int {i : Int} {kd : Nat} {pos : PySem.Pos} : EvJ prog w F ρ k (.Constant (.int i) kd pos) (.int i) true := fun A s r I =>
  wpAny_Constant_int ⟨Ext.tok s _, [], ⟨⟨_, rfl⟩, rfl⟩, fun _ _ h => nomatch h⟩
theorem ev_str {x : Str} {kd : Nat} {pos : PySem.Pos} : EvJ prog w F ρ k (.Constant (.str x) kd pos) (.str x) true := fun A s r I =>
  wpAny_Constant_str ⟨Ext.tok s _, [], ⟨⟨_, rfl⟩, rfl⟩, fun _ _ h => nomatch h⟩
theorem ev_none {kd : Nat} {pos : PySem.Pos} : EvJ prog w F ρ k (.Constant .none kd pos) .none true := fun A s r I =>
  wpAny_Constant_none ⟨Ext.refl s, [], ⟨rfl, rfl⟩, fun _ _ h => nomatch h⟩
theorem ev_bool {b : Bool} {kd : Nat} {pos : PySem.Pos} : EvJ prog w F ρ k (.Constant (.bool b) kd pos) (.bool b) true := fun A s r I =>
  wpAny_Constant_bool ⟨Ext.refl s, [], ⟨rfl, rfl⟩, fun _ _ h => nomatch h⟩

def Op2 (k : Nat) (t : Value → Value → Sem Value) (p q : PV) (r : PV) (fr : Bool) : Prop :=
  ∀ A s a b fa fb, Room k A → s.gens = #[] → Rep prog w s.heap p a fa → Rep prog w s.heap q b fb → wpAny (model prog w) A (t a b) (Gives' prog w r fr s) No s
theorem ev_bin {op : Operator} {l r : PySem.Expr} {pos : PySem.Pos} {p q v : PV} {f1 f2 fr : Bool} (hl : EvJ prog w F ρ k l p f1) (hr : EvJ prog w F ρ k r q f2) (h : Op2 (prog := prog) (w := w) k (binaryOp op) p q v fr) :
    EvJ prog w F ρ k (.BinOp l op r pos) v fr := fun A s rm I => by
  refine wpAny_BinOp (wpAny_mono (hl A s rm I) (fun a s₁ ⟨x1, fp1, r1, _⟩ => ?_) fun _ _ e => e)
  refine wpAny_mono (hr A s₁ rm (I.ext x1)) (fun b s₂ ⟨x2, fp2, r2, _⟩ => ?_) fun _ _ e => e
  refine wpAny_mono (h A s₂ a b fp1 fp2 rm ((I.ext x1).ext x2).gens (r1.keep x2.2) r2) (fun v s₃ ⟨x3, fp3, r3, f3⟩ => ?_) fun _ _ e => e
  exact ⟨(x1.trans x2).trans x3, fp3, r3, fun e a ha => (x1.trans x2).none (f3 e a ha)⟩
theorem ev_cmp {op : CmpOp} {l r : PySem.Expr} {pos : PySem.Pos} {p q v : PV} {f1 f2 fr : Bool} (hm : behindInMarks op r = false) (hl : EvJ prog w F ρ k l p f1) (hr : EvJ prog w F ρ k r q f2) (h : Op2 (prog := prog) (w := w) k (compareOp op) p q v fr) :
    EvJ prog w F ρ k (.Compare l [op] [r] pos) v fr := fun A s rm I => by
  refine wpAny_Compare1 (hm := hm) (wpAny_mono (hl A s rm I) (fun a s₁ ⟨x1, fp1, r1, _⟩ => ?_) fun _ _ e => e)
  refine wpAny_mono (hr A s₁ rm (I.ext x1)) (fun b s₂ ⟨x2, fp2, r2, _⟩ => ?_) fun _ _ e => e
  refine wpAny_mono (h A s₂ a b fp1 fp2 rm ((I.ext x1).ext x2).gens (r1.keep x2.2) r2) (fun v s₃ ⟨x3, fp3, r3, f3⟩ => ?_) fun _ _ e => e
  exact ⟨(x1.trans x2).trans x3, fp3, r3, fun e a ha => (x1.trans x2).none (f3 e a ha)⟩
end
variable {prog : Program} {w : World}

def Chg (X : List Addr) (h h' : Heap) : Prop := ∀ b o, b ∉ X → h.get? b = some o → h'.get? b = some o
theorem Chg.of_sameBut {a : Addr} {h h' : Heap} (x : Heap.SameBut a h h') : Chg [a] h h' := fun b o hb e => (x.2 b (by simpa using hb)).trans e
theorem NT.ns {h : Heap} {a : Addr} {m} (x : h.Ns a m) : NT h a := fun o ho xs n _ hd => by
  obtain ⟨o', es, ep, h1, h2, _⟩ := x
  rw [h1] at ho; cases ho
  rw [h2] at hd; cases hd
theorem NT.cell {h : Heap} {a : Addr} {v} (x : h.IsCell a v) : NT h a := fun o ho xs n _ hd => by
  obtain ⟨o', h1, h2⟩ := x
  rw [h1] at ho; cases ho
  rw [h2] at hd; cases hd
theorem NT.list {h : Heap} {a : Addr} {l} (x : PlainL h a l) : NT h a := fun o ho xs n hc hd => by
  obtain ⟨o', _, h1, h2, _⟩ := x
  rw [h1] at ho; cases ho
  rw [h2] at hc; exact absurd (Value.type.inj hc) (by decide)
noncomputable def IV.flat : IV → Bool | .at _ => true | .tup _ => false
noncomputable def PV.flat : PV → Bool | .any => true | .iv x => x.flat | .list l => l.all IV.flat | .dict _ => true | .obj _ l => l.all IV.flat
theorem IV.chg {X : List Addr} {h h' : Heap} (k : Chg X h h') : ∀ {x : IV} {v : Value}, ((∀ a ∈ X, NT h a) ∨ x.flat = true) → x.of h v → x.of h' v
  | .at _, _, _, e => e
  | .tup l, v, nt, ⟨a, vs, e, ⟨o, ho, hc, n, hd⟩, r⟩ => ⟨a, vs, e, ⟨o, k a o (fun hX => (nt.elim (fun nt => nt a hX o ho _ _ hc hd) (fun q => nomatch q) : False)) ho, hc, n, hd⟩, r⟩
theorem IVs.chg {X : List Addr} {h h' : Heap} (k : Chg X h h') : ∀ {l : List IV} {vs : List Value}, ((∀ a ∈ X, NT h a) ∨ l.all IV.flat = true) → IVs h l vs → IVs h' l vs
  | [], [], _, _ => trivial
  | x :: l, _ :: _, nt, ⟨a, b⟩ => ⟨IV.chg k (nt.imp id fun q => by simp at q; exact q.1) a, IVs.chg k (nt.imp id fun q => by simp only [List.all_cons, Bool.and_eq_true] at q; exact q.2) b⟩
  | [], _ :: _, _, e => e.elim
  | _ :: _, [], _, e => e.elim
theorem isList_chg {X : List Addr} {h h' : Heap} (k : Chg X h h') {a : Addr} (ha : a ∉ X) {l} (x : PlainL h a l) : PlainL h' a l := let ⟨o, n, e, r⟩ := x; ⟨o, n, k a o ha e, r⟩
theorem Rep.chg {X : List Addr} {h h' : Heap} (k : Chg X h h') {p : PV} {v : Value} {fp : List Addr} (nt : (∀ a ∈ X, NT h a) ∨ p.flat = true) (d : ∀ a ∈ fp, a ∉ X) (r : Rep prog w h p v fp) : Rep prog w h' p v fp := by
  cases p with
  | any => exact r
  | iv x => exact ⟨IV.chg k nt r.1, r.2⟩
  | list l =>
    obtain ⟨a, vs, e, l, i, f⟩ := r
    exact ⟨a, vs, e, isList_chg k (d a (by rw [f]; exact List.mem_singleton_self a)) l, i.chg k nt, f⟩
  | dict l =>
    obtain ⟨a, kvs, e, l, i, f, g⟩ := r
    exact ⟨a, kvs, e, l.imp fun o => Exists.imp fun es => Exists.imp fun ep q => ⟨k a o (d a (by rw [f]; exact List.mem_singleton_self a)) q.1, q.2⟩, i, f, g⟩
  | obj C l =>
    obtain ⟨x, dd, L, vs, od, m, e, a1, a2, a3, a4, a5, a6, f⟩ := r
    have hd : ∀ a ∈ [x, dd, L], a ∉ X := f ▸ d
    exact ⟨x, dd, L, vs, od, m, e, k _ _ (hd x (by simp)) a1, a2, a3.imp fun o => Exists.imp fun es => Exists.imp fun ep q => ⟨k _ _ (hd dd (by simp)) q.1, q.2⟩, a4, isList_chg k (hd L (by simp)) a5, a6.chg k nt, f⟩
theorem RepO.chg {X : List Addr} {h h' : Heap} (k : Chg X h h') {p : PV} {ov : Option Value} {fp : List Addr} (nt : (∀ a ∈ X, NT h a) ∨ p.flat = true) (d : ∀ a ∈ fp, a ∉ X) (r : RepO prog w h p ov fp) : RepO prog w h' p ov fp := by
  cases p with
  | any => exact r
  | iv x => cases ov with
    | none => exact r.elim
    | some v => exact Rep.chg (prog := prog) (w := w) (p := .iv x) k nt d r
  | list x => cases ov with
    | none => exact r.elim
    | some v => exact Rep.chg (prog := prog) (w := w) (p := .list x) k nt d r
  | dict x => cases ov with
    | none => exact r.elim
    | some v => exact Rep.chg (prog := prog) (w := w) (p := .dict x) k nt d r
  | obj C x => cases ov with
    | none => exact r.elim
    | some v => exact Rep.chg (prog := prog) (w := w) (p := .obj C x) k nt d r
theorem RepO.of {h : Heap} {p : PV} {v : Value} {fp : List Addr} (r : Rep prog w h p v fp) : RepO prog w h p (some v) fp := by cases p <;> exact r
theorem RepO.stands {h : Heap} {p : PV} {ov : Option Value} {fp : List Addr} (r : RepO prog w h p ov fp) : ∀ a ∈ fp, ∃ o, h.get? a = some o := by
  cases p with
  | any => intro a ha; rw [show fp = [] from r] at ha; cases ha
  | iv x => cases ov with
    | none => exact r.elim
    | some v => exact Rep.stands (prog := prog) (w := w) (p := .iv x) (v := v) r
  | list x => cases ov with
    | none => exact r.elim
    | some v => exact Rep.stands (prog := prog) (w := w) (p := .list x) (v := v) r
  | dict x => cases ov with
    | none => exact r.elim
    | some v => exact Rep.stands (prog := prog) (w := w) (p := .dict x) (v := v) r
  | obj C x => cases ov with
    | none => exact r.elim
    | some v => exact Rep.stands (prog := prog) (w := w) (p := .obj C x) (v := v) r
theorem Rep.nt {h : Heap} {p : PV} {v : Value} {fp : List Addr} (r : Rep prog w h p v fp) (a : Addr) (ha : a ∈ fp) : NT h a := by
  cases p with
  | any => rw [show fp = [] from r] at ha; cases ha
  | iv x => rw [r.2] at ha; cases ha
  | list l =>
    obtain ⟨b, vs, e, l, i, f⟩ := r
    rw [f, List.mem_singleton] at ha
    exact ha ▸ NT.list l
  | dict l =>
    obtain ⟨b, kvs, e, l, i, f, g⟩ := r
    rw [f, List.mem_singleton] at ha
    subst ha
    obtain ⟨o, es, ep, ho, hx, _⟩ := l
    intro o' ho' xs n hc _
    rw [ho] at ho'; cases ho'
    rw [hx.1] at hc; exact absurd (Value.type.inj hc) (by decide)
  | obj C l =>
    obtain ⟨x, d, L, vs, od, m, e, a1, a2, a3, a4, a5, a6, f⟩ := r
    rw [f] at ha
    simp only [List.mem_cons, List.not_mem_nil, or_false] at ha
    rcases ha with ha | ha | ha
    · intro o' ho' xs n hc _
      rw [ha, a1] at ho'; cases ho'
      rw [a2.1.1] at hc
      cases hc
    · exact ha ▸ NT.ns a3.ns
    · exact ha ▸ NT.list a5

theorem set_at {ρ : Rho} {i : Nat} {x q : PV × Bool} (h : (ρ.set i x)[i]? = some q) : q = x := by
  rw [List.getElem?_set_self'] at h
  cases e : ρ[i]? with
  | none => rw [e] at h; cases h
  | some y => rw [e] at h; exact (Option.some.inj h).symm
theorem set_ne {ρ : Rho} {i j : Nat} {x : PV × Bool} (h : j ≠ i) : (ρ.set i x)[j]? = ρ[j]? := List.getElem?_set_ne (Ne.symm h)

theorem ns_uniq {h : Heap} {a : Addr} {m m'} (x : h.Ns a m) (y : h.Ns a m') : ∀ n, m n = m' n := fun n => by
  obtain ⟨o, es, ep, h1, h2, _, h3⟩ := x
  obtain ⟨o', es', ep', g1, g2, _, g3⟩ := y
  rw [h1] at g1; cases g1
  rw [h2] at g2; cases g2
  rw [← h3, ← g3]

section
variable {F : Fm} {ρ : Rho}
theorem Inv.cellAt {s : Shared} (I : Inv prog w F ρ s) {i : Nat} {x : Str} {c : Addr} (hs : F.slots[i]? = some (x, some c)) : ∃ ov, s.heap.IsCell c ov := by
  obtain ⟨m, hm, fp, a, b⟩ := I.sl
  have hlt : i < ρ.length := by rw [I.len]; exact (List.getElem?_eq_some_iff.mp hs).1
  obtain ⟨ov, h3, _⟩ := a i x (some c) (ρ[i]).1 (ρ[i]).2 hs (List.getElem?_eq_getElem hlt)
  exact ⟨ov, h3⟩
theorem Inv.slotAt {s : Shared} (I : Inv prog w F ρ s) {i : Nat} {q : PV × Bool} (h : ρ[i]? = some q) : ∃ x acc, F.slots[i]? = some (x, acc) := by
  have hlt : i < F.slots.length := by rw [← I.len]; exact (List.getElem?_eq_some_iff.mp h).1
  exact ⟨_, _, List.getElem?_eq_getElem hlt⟩
inductive StAtZ (F : Fm) (Z : List Addr) (s : Shared) (h' : Heap) (v : Value) (x : Str) : Option Addr → Prop
  | loc {m'} : h'.Ns F.env.locals m' → Chg (F.env.locals :: Z) s.heap h' → m' x = some v → (∀ m, s.heap.Ns F.env.locals m → ∀ y, y ≠ x → m' y = m y) → StAtZ F Z s h' v x none
  | cel {c} : h'.IsCell c (some v) → Chg (c :: Z) s.heap h' → F.base c = none → StAtZ F Z s h' v x (some c)
theorem Inv.storeZ {Z : List Addr} {s₀ s : Shared} {i : Nat} {x : Str} {acc : Option Addr} {p : PV} {own : Bool} {v : Value} {fpn : List Addr} (ok : FmOk F) (hs : F.slots[i]? = some (x, acc)) (I : Inv prog w F ρ s₀) (e : Ext s₀ s) (r : Rep prog w s.heap p v fpn) (fr : Fresh s₀ fpn)
    (hZ : Fresh s₀ Z) (ntZ : ∀ z ∈ Z, NT s.heap z) (hfZ : ∀ a ∈ fpn, a ∉ Z) (t : Nat) (h' : Heap) (st : StAtZ F Z s h' v x acc) : Inv prog w F (ρ.set i (p, own)) { s with heap := h', toks := t } := by
  have I' := I.ext e
  have I0 := I
  obtain ⟨kb, _, _, _, rs, acs, m₀, hm₀, fp, a, b⟩ := I
  have hm := hm₀.keeps e.2
  obtain ⟨oL, _, _, hoL, _⟩ := id hm₀
  obtain ⟨X, ch, nt, hXb, hXs, hXf⟩ : ∃ X : Addr, Chg (X :: Z) s.heap h' ∧ NT s.heap X ∧ F.base X = none ∧ (∃ o, s₀.heap.get? X = some o) ∧ (X = F.env.locals ∨ acc = some X) := by
    cases st with
    | loc a1 a2 a3 a4 => exact ⟨_, a2, NT.ns hm, ok.baseL, ⟨_, hoL⟩, .inl rfl⟩
    | cel a1 a2 a3 =>
      obtain ⟨ov, o, h1, h2⟩ := I0.cellAt hs
      exact ⟨_, a2, NT.cell (Heap.IsCell.keeps ⟨o, h1, h2⟩ e.2), a3, ⟨o, h1⟩, .inr rfl⟩
  have oldZ : ∀ y, (∃ o, s₀.heap.get? y = some o) → y ∉ Z := fun y ⟨o, ho⟩ q => by rw [hZ y q] at ho; cases ho
  have nin : ∀ y, y ≠ X → y ∉ Z → y ∉ X :: Z := fun y h1 h2 q => by
    rcases List.mem_cons.mp q with q | q
    · exact h1 q
    · exact h2 q
  have hXo : ∀ y o, y ≠ X → s₀.heap.get? y = some o → h'.get? y = some o := fun y o hne ho => ch y o (nin y hne (oldZ y ⟨o, ho⟩)) (e.2 _ _ ho)
  have nt' : ∀ a ∈ X :: Z, NT s.heap a := fun a ha => by
    rcases List.mem_cons.mp ha with rfl | ha
    · exact nt
    · exact ntZ a ha
  have frne : ∀ a ∈ fpn, ∀ y, (∃ o, s₀.heap.get? y = some o) → a ≠ y := fun a ha y ⟨o, ho⟩ ea => by rw [ea] at ha; rw [fr y ha] at ho; cases ho
  have old : ∀ (j : Nat) (q : PV × Bool), ρ[j]? = some q → ∀ a ∈ fp j, ∃ o, s₀.heap.get? a = some o := fun j q hq => by
    obtain ⟨y, ac, hy⟩ := I0.slotAt hq
    obtain ⟨ov, _, h4, _⟩ := a j y ac q.1 q.2 hy hq
    exact h4.stands
  have hm2 : ∃ m', h'.Ns F.env.locals m' ∧ (acc = none → m' x = some v) ∧ ∀ y, (acc = none → y ≠ x) → m' y = m₀ y := by
    cases st with
    | loc a1 a2 a3 a4 => exact ⟨_, a1, fun _ => a3, fun y hy => a4 _ hm y (hy rfl)⟩
    | cel a1 a2 a3 => exact ⟨m₀, hm.at' fun o ho => a2 _ o (fun q => by
        rcases List.mem_cons.mp q with q | q
        · exact (ok.cel i x _ hs).2.2 q.symm
        · exact oldZ _ ⟨_, hoL⟩ q) ho, fun q => absurd q (by simp), fun y _ => rfl⟩
  obtain ⟨m', n1, n2, n3⟩ := hm2
  obtain ⟨fp', f1, f2⟩ : ∃ fp' : Nat → List Addr, fp' i = fpn ∧ ∀ j, j ≠ i → fp' j = fp j := ⟨fun j => if j = i then fpn else fp j, if_pos rfl, fun j hj => if_neg hj⟩
  refine ⟨fun y o ho => hXo y o (fun q => by rw [q, hXb] at ho; cases ho) (kb y o ho), I'.gens, I'.os, by rw [List.length_set]; exact I'.len, fun a ha => ?_, fun d hd => ?_, m', n1, fp', fun j y ac p' own' h1 h2 => ?_, fun j p' h1 y hy => ?_⟩
  · obtain ⟨o, ho⟩ := rs a ha
    refine ⟨o, hXo a o (fun q => ?_) ho⟩
    rcases hXf with q3 | q3
    · exact ok.resL (by rw [← q3, ← q]; exact ha)
    · exact ok.resC i x X (by rw [← q3]; exact hs) (q ▸ ha)
  · have hdX : d ≠ X := fun q => by
      obtain ⟨_, _, h3, h4⟩ := ok.acc d hd
      rcases hXf with q3 | q3
      · exact h3 (q.trans q3)
      · exact h4 i x (by rw [hs, q3, q])
    obtain ⟨⟨o, ho⟩, hn⟩ := acs d hd
    have hd' := hXo d o hdX ho
    exact ⟨⟨o, hd'⟩, fun o' ho' => by rw [hd'] at ho'; cases ho'; exact hn o ho⟩
  · by_cases hj : j = i
    · subst hj
      obtain ⟨rfl, rfl⟩ : p' = p ∧ own' = own := by have := set_at h2; exact ⟨congrArg Prod.fst this, congrArg Prod.snd this⟩
      rw [hs] at h1
      obtain ⟨rfl, rfl⟩ : x = y ∧ acc = ac := by cases h1; exact ⟨rfl, rfl⟩
      rw [f1]
      refine ⟨some v, ?_, RepO.of (r.chg ch (.inl nt') fun a ha => nin a (frne a ha X hXs) (hfZ a ha)), fun a ha => ⟨⟨frne a ha _ ⟨_, hoL⟩, fun q => q.elim (fun q => frne a ha a (rs a q) rfl) fun q => frne a ha a (acs a q).1 rfl⟩, fun j' x' c' hc' => ?_⟩⟩
      · cases st with
        | loc a1 a2 a3 a4 => exact (n2 rfl).symm
        | cel a1 a2 a3 => exact a1
      · obtain ⟨ov, o, q1, _⟩ := I0.cellAt hc'
        exact frne a ha _ ⟨o, q1⟩
    · rw [set_ne hj] at h2
      rw [f2 j hj]
      obtain ⟨ov, h3, h4, h5⟩ := a j y ac p' own' h1 h2
      refine ⟨ov, ?_, (h4.keep e.2).chg ch (.inl nt') fun z hz => nin z (fun hX' => ?_) (oldZ z (h4.stands z hz)), h5⟩
      · cases ac with
        | none =>
          have h3 : ov = m₀ y := h3
          show ov = m' y
          rw [h3, n3 y fun q => fun q2 => hj (ok.names j i y none none h1 (by rw [q2, ← q]; exact hs))]
        | some c =>
          have h3 : s₀.heap.IsCell c ov := h3
          obtain ⟨o, ho, hd⟩ := h3
          refine ⟨o, hXo c o (fun q => ?_) ho, hd⟩
          subst q
          rcases hXf with q | q
          · exact (ok.cel j y c h1).2.2 q
          · exact hj (ok.cells j i y x c h1 (by rw [← q]; exact hs))
      · rw [hX'] at hz
        rcases hXf with q | q
        · exact (h5 X hz).1.1 q
        · exact (h5 X hz).2 i x X (by rw [← q]; exact hs) rfl
  · by_cases hj : j = i
    · subst hj
      rw [f1] at hy
      refine ⟨?_, fun k q hk hq => ?_⟩
      · cases hb : F.base y with
        | none => rfl
        | some o => exact absurd rfl (frne y hy y ⟨o, kb y o hb⟩)
      · rw [f2 k hk]
        rw [set_ne hk] at hq
        exact fun hin => absurd rfl (frne y hy y (old k q hq y hin))
    · rw [f2 j hj] at hy
      rw [set_ne hj] at h1
      obtain ⟨c1, c2⟩ := b j p' h1 y hy
      refine ⟨c1, fun k q hk hq => ?_⟩
      by_cases hki : k = i
      · subst hki
        rw [f1]
        exact fun hin => absurd rfl (frne y hin y (old j (p', true) h1 y hy))
      · rw [f2 k hki]
        rw [set_ne hki] at hq
        exact c2 k q hk hq
inductive StAt (F : Fm) (s : Shared) (h' : Heap) (v : Value) (x : Str) : Option Addr → Prop
  | loc {m'} : h'.Ns F.env.locals m' → Heap.SameBut F.env.locals s.heap h' → m' x = some v → (∀ m, s.heap.Ns F.env.locals m → ∀ y, y ≠ x → m' y = m y) → StAt F s h' v x none
  | cel {c} : h'.IsCell c (some v) → Heap.SameBut c s.heap h' → F.base c = none → StAt F s h' v x (some c)
theorem StAt.z {s : Shared} {h' : Heap} {v : Value} {x : Str} {acc : Option Addr} (h : StAt F s h' v x acc) : StAtZ F [] s h' v x acc := by
  cases h with
  | loc a b c d => exact .loc a (Chg.of_sameBut b) c d
  | cel a b c => exact .cel a (Chg.of_sameBut b) c
theorem Inv.store {s₀ s : Shared} {i : Nat} {x : Str} {acc : Option Addr} {p : PV} {own : Bool} {v : Value} {fpn : List Addr} (ok : FmOk F) (hs : F.slots[i]? = some (x, acc)) (I : Inv prog w F ρ s₀) (e : Ext s₀ s) (r : Rep prog w s.heap p v fpn) (fr : Fresh s₀ fpn)
    (t : Nat) (h' : Heap) (st : StAt F s h' v x acc) : Inv prog w F (ρ.set i (p, own)) { s with heap := h', toks := t } :=
  Inv.storeZ ok hs I e r fr (fun a ha => by cases ha) (fun a ha => by cases ha) (fun a _ q => by cases q) t h' st.z
end
variable {prog : Program} {w : World}

inductive Fl where
  | next | brk | cont | ret (p : PV)
section
variable (prog : Program) (w : World)
def FlRep (F : Fm) (s' : Shared) : Flow → Fl → Prop
  | .next, .next => True
  | .brk, .brk => True
  | .cont, .cont => True
  | .ret v, .ret p => ∃ fp, Rep prog w s'.heap p v fp ∧ ∀ a ∈ fp, F.base a = none
  | _, _ => False
inductive ExPost (F : Fm) (P : Fl → Rho → Prop) (b : Addr → Option Obj) (r : Addr → Prop) (f : Flow) (s' : Shared) : Prop
  | mk (fl : Fl) (ρ' : Rho) (p : P fl ρ') (I : Inv prog w (F.up b r) ρ' s') (h : FlRep prog w F s' f fl) : ExPost F P b r f s'
def ExS (F : Fm) (ρ : Rho) (k : Nat) (t : Sem Flow) (P : Fl → Rho → Prop) : Prop :=
  ∀ b r, F.Le b r → FmOk (F.up b r) → ∀ A s, Room k A → Inv prog w (F.up b r) ρ s → wpAny (model prog w) A t (ExPost prog w F P b r) No s
def EvB (F : Fm) (ρ : Rho) (k : Nat) (e : PySem.Expr) (b : Bool) : Prop :=
  ∀ A s, Room k A → Inv prog w F ρ s → wpAny (model prog w) A (isTrue e F.env (eval e F.env)) (fun c s' => c = b ∧ Ext s s') No s
end
abbrev Only (ρ₁ : Rho) : Fl → Rho → Prop := fun fl ρ' => fl = .next ∧ ρ' = ρ₁

section
variable {F : Fm} {ρ ρ₁ : Rho} {k : Nat} {P P₁ : Fl → Rho → Prop}
theorem ex_mono {t : Sem Flow} (h : ExS prog w F ρ k t P₁) (hP : ∀ fl ρ', P₁ fl ρ' → P fl ρ') : ExS prog w F ρ k t P := fun b r' l ok A s r I =>
  wpAny_mono (h b r' l ok A s r I) (fun f s' ⟨fl, ρ', a, b, c⟩ => ⟨fl, ρ', hP _ _ a, b, c⟩) fun _ _ e => e
theorem ex_nil (h : P .next ρ) : ExS prog w F ρ k (execs [] F.env) P := fun b r' l ok A s r I => wpAny_execs_nil ⟨.next, ρ, h, I, trivial⟩
theorem ex_cons {st : Stmt} {rest : List Stmt} (h : ExS prog w F ρ k (exec st F.env) P₁) (hn : ∀ ρ', P₁ .next ρ' → ExS prog w F ρ' k (execs rest F.env) P) (hx : ∀ fl ρ', fl ≠ .next → P₁ fl ρ' → P fl ρ') :
    ExS prog w F ρ k (execs (st :: rest) F.env) P := fun b r' l ok A s r I => by
  refine wpAny_execs_cons (wpAny_mono (h b r' l ok A s r I) (fun f s' ⟨fl, ρ', a, b, c⟩ => ?_) fun _ _ e => e)
  cases f with
  | next => cases fl <;> first | exact hn ρ' a _ r' l ok A s' r b | exact c.elim
  | brk => cases fl <;> first | exact ⟨.brk, ρ', hx .brk ρ' (by intro q; cases q) a, b, c⟩ | exact c.elim
  | cont => cases fl <;> first | exact ⟨.cont, ρ', hx .cont ρ' (by intro q; cases q) a, b, c⟩ | exact c.elim
  | ret v => cases fl <;> first | exact ⟨.ret _, ρ', hx (.ret _) ρ' (by intro q; cases q) a, b, c⟩ | exact c.elim
theorem ex_then {st : Stmt} {rest : List Stmt} (h : ExS prog w F ρ k (exec st F.env) (Only ρ₁)) (hn : ExS prog w F ρ₁ k (execs rest F.env) P) : ExS prog w F ρ k (execs (st :: rest) F.env) P :=
  ex_cons h (fun ρ' ⟨_, e⟩ => e ▸ hn) fun fl ρ' hne ⟨e, _⟩ => absurd e hne
theorem ex_one {st : Stmt} (h : ExS prog w F ρ k (exec st F.env) P) : ExS prog w F ρ k (execs [st] F.env) P :=
  ex_cons h (fun ρ' a => ex_nil a) fun _ _ _ a => a
theorem ex_if {test : PySem.Expr} {body orelse : List Stmt} {pos : PySem.Pos} {b : Bool} (ht : EvB prog w F ρ k test b) (h : if b then ExS prog w F ρ k (execs body F.env) P else ExS prog w F ρ k (execs orelse F.env) P) :
    ExS prog w F ρ k (exec (.If test body orelse pos) F.env) P := fun b' r' l ok A s r I => by
  refine wpAny_If (wpAny_mono (ht A s r (I.down l)) (fun c s' ⟨e, x⟩ => ?_) fun _ _ e => e)
  subst e
  cases c with
  | true => exact h b' r' l ok A s' r (I.ext x)
  | false => exact h b' r' l ok A s' r (I.ext x)
theorem ex_return {e : PySem.Expr} {pos : PySem.Pos} {p : PV} {fr : Bool} (h : EvJ prog w F ρ k e p fr) (hf : fr = true) (hP : P (.ret p) ρ) : ExS prog w F ρ k (exec (.Return (some e) pos) F.env) P := fun b' r' l ok A s r I =>
  wpAny_Return_some (wpAny_mono (h A s r (I.down l)) (fun v s' ⟨x, fp, a, b⟩ => ⟨.ret p, ρ, hP, I.ext x, fp, a, fun y hy => by
    cases hb : F.base y with
    | none => rfl
    | some o => have := b hf y hy; rw [I.keep y o (l.base y o hb)] at this; cases this⟩) fun _ _ e => e)
theorem ex_return_iv {e : PySem.Expr} {pos : PySem.Pos} {p : IV} {fr : Bool} (h : EvJ prog w F ρ k e (.iv p) fr) (hP : P (.ret (.iv p)) ρ) : ExS prog w F ρ k (exec (.Return (some e) pos) F.env) P := fun b' r' l ok A s r I =>
  wpAny_Return_some (wpAny_mono (h A s r (I.down l)) (fun v s' ⟨x, fp, a, b⟩ => ⟨.ret (.iv p), ρ, hP, I.ext x, fp, a, fun y hy => by rw [a.2] at hy; cases hy⟩) fun _ _ e => e)
theorem ex_return_own {x : Str} {np pos : PySem.Pos} {p : PV} (i : Nat) (hs : F.slots[i]? = some (x, none)) (hr : ρ[i]? = some (p, true)) (hp : p ≠ .any) (hP : P (.ret p) ρ) (hd : (x == ("__debug__" : Str)) = false := by decide) :
    ExS prog w F ρ k (exec (.Return (some (.Name x np)) pos) F.env) P := fun b' r' l ok A s r I => by
  obtain ⟨m, hm, fp, a, b⟩ := I.sl
  obtain ⟨ov, h3, h4, _⟩ := a i x none p true hs hr
  have h3 : ov = m x := h3
  subst h3
  cases hv : m x with
  | none => rw [hv] at h4; cases p <;> first | exact absurd rfl hp | exact h4.elim
  | some v =>
    rw [hv] at h4
    have h5 : Rep prog w s.heap p v (fp i) := by cases p <;> first | exact absurd rfl hp | exact h4
    refine wpAny_Return_some (wpAny_Name (wpAny_loadName_local ok.kind (ok.loc i x hs) hm hv ⟨.ret p, ρ, hP, I, fp i, h5, fun y hy => ?_⟩) hd)
    have h6 := (b i p hr y hy).1
    cases hb : F.base y with
    | none => rfl
    | some o => have h7 := l.base y o hb; rw [show b' y = none from h6] at h7; cases h7
def Own (F : Fm) (x : Str) (acc : Option Addr) : Prop := ∀ c, acc = some c → F.env.kindOf x = some .cell ∧ F.mine c
theorem own_none {x : Str} : Own F x none := fun c e => nomatch e
theorem store_wp {A : Around} {s₀ s : Shared} {i : Nat} {x : Str} {acc : Option Addr} {p : PV} {own : Bool} {v : Value} {fpn : List Addr} {Q : Unit → Shared → Prop} {E : Value → Shared → Prop} (ok : FmOk F) (hs : F.slots[i]? = some (x, acc)) (ho : Own F x acc) (I : Inv prog w F ρ s₀) (e : Ext s₀ s)
    (r : Rep prog w s.heap p v fpn) (fr : Fresh s₀ fpn) (hQ : ∀ s', Inv prog w F (ρ.set i (p, own)) s' → Q () s') : wpAny (model prog w) A (storeName F.env x v) Q E s := by
  cases acc with
  | none =>
    obtain ⟨m, hm, _⟩ := (I.ext e).sl
    refine wpAny_storeName_local (ok.loc i x hs) hm (fun h' hn hsb => hQ _ ?_) (by
      show (F.env.scope.kind == .class || (F.env.scope.kind == .module && F.env.locals != F.env.globals)) = false
      rw [ok.kind]; rfl)
    exact Inv.store ok hs I e r fr _ h' (.loc hn hsb (if_pos rfl) fun m' hm' y hy => (if_neg hy).trans (ns_uniq hm hm' y))
  | some c =>
    obtain ⟨hk, hb⟩ := ho c rfl
    obtain ⟨ov, hc⟩ := (I.ext e).cellAt hs
    refine wpAny_storeName_cell ok.kind hk (ok.cel i x c hs).2.1 hc fun h' hc' hsb => hQ _ ?_
    exact Inv.store ok hs I e r fr s.toks h' (.cel hc' hsb (ok.mine c hb))
theorem ex_assign {x : Str} {np pos : PySem.Pos} {e : PySem.Expr} {p : PV} {fr own : Bool} (i : Nat) {acc : Option Addr} (hs : F.slots[i]? = some (x, acc)) (ho : Own F x acc) (h : EvJ prog w F ρ k e p fr) (hf : fr = true)
    (hsw : swapsWith e (some (.Name x np)) pos.line F.env = pure false) : ExS prog w F ρ k (exec (.Assign [.Name x np] e pos) F.env) (Only (ρ.set i (p, own))) := fun b' r' l ok A s r I => by
  refine wpAny_Assign_Name (wpAny_mono (h A s r (I.down l)) (fun v s' ⟨x, fp, a, b⟩ => ?_) fun _ _ e => e) hsw
  exact store_wp (F := F.up b' r') ok hs ho I x a (b hf) fun s'' I' => ⟨.next, _, ⟨rfl, rfl⟩, I', trivial⟩
theorem ex_assign_iv {x : Str} {np pos : PySem.Pos} {e : PySem.Expr} {p : IV} {fr own : Bool} (i : Nat) {acc : Option Addr} (hs : F.slots[i]? = some (x, acc)) (ho : Own F x acc) (h : EvJ prog w F ρ k e (.iv p) fr)
    (hsw : swapsWith e (some (.Name x np)) pos.line F.env = pure false) : ExS prog w F ρ k (exec (.Assign [.Name x np] e pos) F.env) (Only (ρ.set i (.iv p, own))) := fun b' r' l ok A s r I => by
  refine wpAny_Assign_Name (wpAny_mono (h A s r (I.down l)) (fun v s' ⟨x, fp, a, b⟩ => ?_) fun _ _ e => e) hsw
  exact store_wp (F := F.up b' r') ok hs ho I x a (fun y hy => by rw [a.2] at hy; cases hy) fun s'' I' => ⟨.next, _, ⟨rfl, rfl⟩, I', trivial⟩

theorem eb_val {e : PySem.Expr} {p : IV} {fr b : Bool} (h : EvJ prog w F ρ k e (.iv p) fr) (ht : ∀ A s v, Room k A → p.of s.heap v → wpAny (model prog w) A (truthy v) (fun c s' => c = b ∧ Ext s s') No s)
    (hi : ∀ Q s A E, wpAny (model prog w) A (eval e F.env) (fun v s₁ => wpAny (model prog w) A (truthy v) Q E s₁) E s → wpAny (model prog w) A (isTrue e F.env (eval e F.env)) Q E s) : EvB prog w F ρ k e b := fun A s r I =>
  hi _ _ _ _ (wpAny_mono (h A s r I) (fun v s' ⟨x, fp, a, _⟩ => wpAny_mono (ht A s' v r a.1) (fun c s'' ⟨e1, x'⟩ => ⟨e1, x.trans x'⟩) fun _ _ e => e) fun _ _ e => e)
theorem eb_bool {e : PySem.Expr} {b fr : Bool} (h : EvJ prog w F ρ k e (.bool b) fr) 
    (hi : ∀ Q s A E, wpAny (model prog w) A (eval e F.env) (fun v s₁ => wpAny (model prog w) A (truthy v) Q E s₁) E s → wpAny (model prog w) A (isTrue e F.env (eval e F.env)) Q E s) : EvB prog w F ρ k e b :=
  eb_val h (fun A s v _ (hv : v = .bool b) => by subst hv; exact wpAny_truthy_bool ⟨rfl, Ext.refl s⟩) hi
theorem eb_call {f : PySem.Expr} {as : List PySem.Expr} {kw : List Keyword} {pos : PySem.Pos} {b fr : Bool} (h : EvJ prog w F ρ k (.Call f as kw pos) (.bool b) fr) : EvB prog w F ρ k (.Call f as kw pos) b :=
  eb_bool h fun Q s A E h => wpAny_isTrue_value h
theorem eb_cmp {op : CmpOp} {l r : PySem.Expr} {pos : PySem.Pos} {p q : PV} {f1 f2 fr b : Bool} (hm : behindInMarks op r = false) (hl : EvJ prog w F ρ k l p f1) (hr : EvJ prog w F ρ k r q f2) (h : Op2 (prog := prog) (w := w) k (compareOp op) p q (.bool b) fr) :
    EvB prog w F ρ k (.Compare l [op] [r] pos) b := fun A s rm I => by
  refine wpAny_isTrue_Compare1 (hm := hm) (wpAny_mono (hl A s rm I) (fun a s₁ ⟨x1, fp1, r1, _⟩ => ?_) fun _ _ e => e)
  refine wpAny_mono (hr A s₁ rm (I.ext x1)) (fun c s₂ ⟨x2, fp2, r2, _⟩ => ?_) fun _ _ e => e
  refine wpAny_mono (h A s₂ a c fp1 fp2 rm ((I.ext x1).ext x2).gens (r1.keep x2.2) r2) (fun v s₃ ⟨x3, fp3, r3, f3⟩ => ?_) fun _ _ e => e
  have hv : v = .bool b := r3.1
  subst hv
  exact wpAny_truthy_bool ⟨rfl, (x1.trans x2).trans x3⟩
theorem eb_not {e : PySem.Expr} {pos : PySem.Pos} {b : Bool} (h : EvB prog w F ρ k e b) : EvB prog w F ρ k (.UnaryOp .Not e pos) (!b) := fun A s r I =>
  wpAny_isTrue_Not (wpAny_mono (h A s r I) (fun c s' ⟨e, x⟩ => ⟨by rw [e], x⟩) fun _ _ e => e)
inductive EvAll (F : Fm) (ρ : Rho) (k : Nat) : BoolOp → List PySem.Expr → Bool → Prop
  | andNil : EvAll F ρ k .And [] true
  | orNil : EvAll F ρ k .Or [] false
  | andCons {x rest b c} : EvB prog w F ρ k x b → (b = true → EvAll F ρ k .And rest c) → EvAll F ρ k .And (x :: rest) (b && c)
  | orCons {x rest b c} : EvB prog w F ρ k x b → (b = false → EvAll F ρ k .Or rest c) → EvAll F ρ k .Or (x :: rest) (b || c)
theorem evAll_wp {op : BoolOp} {es : List PySem.Expr} {b : Bool} (h : EvAll (prog := prog) (w := w) F ρ k op es b) : ∀ A s, Room k A → Inv prog w F ρ s → wpAny (model prog w) A (allTrue op es F.env) (fun c s' => c = b ∧ Ext s s') No s := by
  induction h with
  | andNil => exact fun A s r I => wpAny_allTrue_And_nil ⟨rfl, Ext.refl s⟩
  | orNil => exact fun A s r I => wpAny_allTrue_Or_nil ⟨rfl, Ext.refl s⟩
  | @andCons x rest b c hx hr ih =>
    intro A s r I
    refine wpAny_allTrue_And_cons (wpAny_mono (hx A s r I) (fun d s' ⟨e, y⟩ => ?_) fun _ _ e => e)
    subst e
    cases d with
    | false => exact ⟨rfl, y⟩
    | true => exact wpAny_mono (ih rfl A s' r (I.ext y)) (fun d s'' ⟨e, z⟩ => ⟨by rw [e]; rfl, y.trans z⟩) fun _ _ e => e
  | @orCons x rest b c hx hr ih =>
    intro A s r I
    refine wpAny_allTrue_Or_cons (wpAny_mono (hx A s r I) (fun d s' ⟨e, y⟩ => ?_) fun _ _ e => e)
    subst e
    cases d with
    | true => exact ⟨rfl, y⟩
    | false => exact wpAny_mono (ih rfl A s' r (I.ext y)) (fun d s'' ⟨e, z⟩ => ⟨by rw [e]; rfl, y.trans z⟩) fun _ _ e => e
theorem eb_op {op : BoolOp} {es : List PySem.Expr} {pos : PySem.Pos} {b : Bool} (h : EvAll (prog := prog) (w := w) F ρ k op es b) : EvB prog w F ρ k (.BoolOp op es pos) b := fun A s r I =>
  wpAny_isTrue_BoolOp (evAll_wp h A s r I)
theorem ev_ifexp {test a b : PySem.Expr} {pos : PySem.Pos} {c : Bool} {p : PV} {fr : Bool} (ht : EvB prog w F ρ k test c) (h : if c then EvJ prog w F ρ k a p fr else EvJ prog w F ρ k b p fr) : EvJ prog w F ρ k (.IfExp test a b pos) p fr := fun A s r I => by
  refine wpAny_IfExp (wpAny_mono (ht A s r I) (fun d s' ⟨e, x⟩ => ?_) fun _ _ e => e)
  subst e
  have fin : ∀ v s'', Gives' prog w p fr s' v s'' → Gives' prog w p fr s v s'' := fun v s'' ⟨y, fp, q, f⟩ => ⟨x.trans y, fp, q, fun e a ha => x.none (f e a ha)⟩
  cases d with
  | true => exact wpAny_mono (h A s' r (I.ext x)) fin fun _ _ e => e
  | false => exact wpAny_mono (h A s' r (I.ext x)) fin fun _ _ e => e
end
variable {prog : Program} {w : World}

abbrev Bk (base : Addr → Option Obj) (s : Shared) : Prop := ∀ a o, base a = some o → s.heap.get? a = some o
section
variable (prog : Program) (w : World)
def Glob (F : Fm) (x : Str) (v : Value) : Prop := ∀ (A : Around) (s : Shared) (pos : PySem.Pos) (Q E : Value → Shared → Prop), Bk F.base s → Q v s → wpAny (model prog w) A (eval (.Name x pos) F.env) Q E s
def CallP (base : Addr → Option Obj) (k : Nat) (v : Value) (ps : List PV) (p : PV) (fr : Bool) : Prop :=
  ∀ A s vals, Room k A → s.gens = #[] → Bk base s → Reps prog w s.heap ps vals → wpAny (model prog w) A (PySem.call v vals) (Gives' prog w p fr s) No s
end
theorem glob_of {F : Fm} {x : Str} {v : Value} {mg : Str → Option Value} (hk : F.env.scope.kind = .function) (hx : F.env.kindOf x = some .globalImplicit) (hg : ∀ s : Shared, Bk F.base s → s.heap.Ns F.env.globals mg) (hv : mg x = some v) (hd : (x == ("__debug__" : Str)) = false := by decide) : Glob prog w F x v :=
  fun A s pos Q E b h => Calls.Name_function_global hk hx (Calls.loadGlobal_global (hg s b) hv h) hd
theorem glob_bi {F : Fm} {x : Str} {v : Value} {mg mb : Str → Option Value} (hk : F.env.scope.kind = .function) (hx : F.env.kindOf x = some .globalImplicit) (hg : ∀ s : Shared, Bk F.base s → s.heap.Ns F.env.globals mg) (hn : mg x = none)
    (hb : ∀ s : Shared, Bk F.base s → s.heap.Ns F.env.builtins mb) (hv : mb x = some v) (hd : (x == ("__debug__" : Str)) = false := by decide) : Glob prog w F x v :=
  fun A s pos Q E b h => Calls.Name_function_global hk hx (Calls.loadGlobal_builtin (hg s b) hn (hb s b) hv h) hd

section
variable {F : Fm} {ρ : Rho} {k : Nat} {M : Model} {A : Around} {E : Value → Shared → Prop} {s : Shared}
theorem ev_glob {x : Str} {pos : PySem.Pos} {v : Value} {p : IV} (g : Glob prog w F x v) (hp : ∀ h, p.of h v) : EvJ prog w F ρ k (.Name x pos) (.iv p) true := fun A s r I =>
  g A s pos _ _ I.keep ⟨Ext.refl s, [], ⟨hp _, rfl⟩, fun _ _ h => nomatch h⟩
theorem evalArgs_any {f : Value} {args : List (Bool × Sem Value)} {Q : Args → Shared → Prop} (hp : args.any (·.1) = false) (h : wpAny M A (spliced args) (fun vs s' => Q ⟨vs, []⟩ s') E s) : wpAny M A (evalArgs f true args []) Q E s := by
  cases args with
  | nil =>
    unfold evalArgs
    show wpAny M A (spliced [] >>= _) Q E s
    refine wpAny_bind (wpAny_mono h (fun vs s' h' => ?_) fun _ _ x => x)
    refine wpAny_holding ?_
    exact wpAny_bind (wpAny_pure (wpAny_bind (wpAny_pure (wpAny_pure h'))))
  | cons x rest =>
    obtain ⟨b, t⟩ := x
    have hb : b = false := by
      cases b with
      | false => rfl
      | true => simp at hp
    subst hb
    exact Calls.evalArgs_plain h
theorem callWith_val {pos : PySem.Pos} {v : Value} {first : List Value} {args : List (Bool × Sem Value)} {Q : Value → Shared → Prop} (hp : args.any (·.1) = false) (hv : ∀ a, v ≠ .ref a)
    (h : wpAny M A (spliced args) (fun vs s₁ => wpAny M A (PySem.call v (first ++ vs) []) Q E s₁) E s) : wpAny M A (callWith pos v first args []) Q E s := by
  unfold callWith
  refine wpAny_bind (wpAny_holding (evalArgs_any hp (wpAny_mono h (fun vs s₁ h₁ => wpAny_bind (wpAny_standAt ?_)) fun _ _ x => x)))
  simp only [hp, List.any_nil, Bool.or_false]
  have hk : keeperOf v = pure .machine := by
    unfold keeperOf
    cases v <;> first | rfl | exact absurd rfl (hv _)
  rw [hk]
  refine wpAny_bind (wpAny_pure ?_)
  exact wpAny_bind (wpAny_mono h₁ (fun r s₂ hr => wpAny_bind (wpAny_holding (wpAny_point (wpAny_pure hr)))) fun _ _ x => x)
theorem callWith_fn {pos : PySem.Pos} {a : Addr} {o : Obj} {fd : FuncData} {first : List Value} {args : List (Bool × Sem Value)} {Q : Value → Shared → Prop} (hp : args.any (·.1) = false) (hd : o.data = .func fd)
    (h : wpAny M A (spliced args) (fun vs s₁ => s₁.heap.get? a = some o ∧ wpAny M A (PySem.call (.ref a) (first ++ vs) []) Q E s₁) E s) : wpAny M A (callWith pos (.ref a) first args []) Q E s :=
  Calls.callWith_function (evalArgs_any hp (wpAny_mono h (fun vs s₁ ⟨h1, h2⟩ => ⟨⟨h1, hd⟩, h2⟩) fun _ _ x => x))
noncomputable abbrev plainArgs (es : List PySem.Expr) (env : Env) : List (Bool × Sem Value) := es.map fun e => (false, eval e env)
theorem plainArgs_any (es : List PySem.Expr) (env : Env) : (plainArgs es env).any (·.1) = false := by induction es with
  | nil => rfl
  | cons e es ih => exact ih
theorem backTo_plain (pos : PySem.Pos) (es : List PySem.Expr) (env : Env) : backTo pos (plainArgs es env) = plainArgs es env := by
  unfold backTo plainArgs
  rw [List.map_map]
  exact List.map_congr_left fun e _ => rfl
theorem args_wp {es : List PySem.Expr} {ps : List PV} (h : EvL prog w F ρ k es ps) : ∀ A s, Room k A → Inv prog w F ρ s → wpAny (model prog w) A (spliced (plainArgs es F.env)) (fun vs s' => Ext s s' ∧ Reps prog w s'.heap ps vs) No s := by
  induction h with
  | nil => exact fun A s r I => Calls.spliced_nil ⟨Ext.refl s, trivial⟩
  | @cons e es p ps fr he hl ih =>
    intro A s r I
    refine Calls.spliced_cons (wpAny_mono (he A s r I) (fun v s₁ ⟨x, fp, a, _⟩ => ?_) fun _ _ e => e)
    exact wpAny_mono (ih A s₁ r (I.ext x)) (fun vs s₂ ⟨y, b⟩ => ⟨x.trans y, ⟨fp, a.keep y.2⟩, b⟩) fun _ _ e => e
theorem give_trans {p : PV} {fr : Bool} {s s₁ s₂ : Shared} {v : Value} (x : Ext s s₁) (h : Gives' prog w p fr s₁ v s₂) : Gives' prog w p fr s v s₂ :=
  let ⟨y, fp, a, f⟩ := h
  ⟨x.trans y, fp, a, fun e b hb => x.none (f e b hb)⟩
theorem ev_call {f : Str} {np pos : PySem.Pos} {es : List PySem.Expr} {ps : List PV} {v : Value} {p : PV} {fr : Bool} (hs : starEach es F.env = plainArgs es F.env) (g : Glob prog w F f v) (ha : EvL prog w F ρ k es ps) (c : CallP prog w F.base k v ps p fr)
    (hv : ∀ a, v = .ref a → ∃ o fd, F.base a = some o ∧ o.data = .func fd) : EvJ prog w F ρ k (.Call (.Name f np) es [] pos) p fr := fun A s r I => by
  show wpAny (model prog w) A (eval (.Name f np) F.env >>= fun fv => callWith pos fv [] (backTo pos (starEach es F.env)) []) _ _ s
  rw [hs, backTo_plain]
  refine wpAny_bind (g A s np _ _ I.keep ?_)
  by_cases hr : ∃ a, v = .ref a
  · obtain ⟨a, rfl⟩ := hr
    obtain ⟨o, fd, h1, h2⟩ := hv a rfl
    refine callWith_fn (plainArgs_any _ _) h2 (wpAny_mono (args_wp ha A s r I) (fun vs s₁ ⟨x, b⟩ => ⟨(I.ext x).keep a o h1, ?_⟩) fun _ _ e => e)
    exact wpAny_mono (c A s₁ vs r (I.ext x).gens (I.ext x).keep b) (fun v s₂ q => give_trans x q) fun _ _ e => e
  · refine callWith_val (plainArgs_any _ _) (fun a e => hr ⟨a, e⟩) (wpAny_mono (args_wp ha A s r I) (fun vs s₁ ⟨x, b⟩ => ?_) fun _ _ e => e)
    exact wpAny_mono (c A s₁ vs r (I.ext x).gens (I.ext x).keep b) (fun v s₂ q => give_trans x q) fun _ _ e => e

inductive TyOf : PV → String → Prop
  | str {x} : TyOf (.str x) "str"
  | int {x} : TyOf (.int x) "int"
  | tup {l} : TyOf (.tup l) "tuple"
  | list {l} : TyOf (.list l) "list"
  | dict {l} : TyOf (.dict l) "dict"
theorem TyOf.is {p : PV} {T : String} (t : TyOf p T) {s : Shared} {v : Value} {fp : List Addr} (r : Rep prog w s.heap p v fp) : s.TypeIs v T := by
  cases t with
  | str => obtain ⟨⟨t, rfl⟩, _⟩ := r; exact typeIs_str _ _ _
  | int => obtain ⟨⟨t, rfl⟩, _⟩ := r; exact typeIs_int _ _ _
  | tup => obtain ⟨⟨a, vs, rfl, h, _⟩, _⟩ := r; exact h.typeIs
  | list => obtain ⟨a, vs, rfl, h, _⟩ := r; exact h.isList.typeIs
  | dict => obtain ⟨a, kvs, rfl, ⟨o, es, ep, h1, h2, _⟩, _⟩ := r; exact ⟨o, h1, h2.1⟩
theorem TyOf.noDict {p : PV} {T : String} (t : TyOf p T) (ht : T ≠ "tuple") {s : Shared} {v : Value} {fp : List Addr} (r : Rep prog w s.heap p v fp) : ∀ a, v = .ref a → ∃ ob, s.heap.get? a = some ob ∧ ob.dict = none := by
  cases t with
  | str => obtain ⟨⟨t, rfl⟩, _⟩ := r; intro a e; cases e
  | int => obtain ⟨⟨t, rfl⟩, _⟩ := r; intro a e; cases e
  | tup => exact absurd rfl ht
  | list => obtain ⟨a, vs, rfl, ⟨o, n, h1, h2, h3, h4⟩, _⟩ := r; intro b e; cases e; exact ⟨o, h1, h3⟩
  | dict => obtain ⟨a, kvs, rfl, ⟨o, es, ep, h1, h2, _⟩, _⟩ := r; intro b e; cases e; exact ⟨o, h1, h2.2.1⟩
structure MethOk (T : String) (name : Str) (id : String) : Prop where
  pa : PlainAttrs T
  slot : Slot T name id
  ty : typeOf (.builtin id) = pure (.type "method_descriptor")
  nt : T ≠ "tuple"
theorem ev_meth {o : PySem.Expr} {name : Str} {apos pos : PySem.Pos} {es : List PySem.Expr} {p0 : PV} {ps : List PV} {T id : String} {p : PV} {f0 fr : Bool} (hb : attributeBase o name F.env (eval o F.env) = eval o F.env) (hs : starEach es F.env = plainArgs es F.env) (hl : (apos.endLine == pos.line) = true) (hlen : es.length < 30)
    (h0 : EvJ prog w F ρ k o p0 f0) (ha : EvL prog w F ρ k es ps) (ty : TyOf p0 T) (m : MethOk T name id) (c : CallP prog w F.base k (.builtin id) (p0 :: ps) p fr) : EvJ prog w F ρ k (.Call (.Attribute o name apos) es [] pos) p fr := fun A s r I => by
  refine wpAny_Call_method_lateS hb ?_ hl ?_
  · rw [hs, backTo_plain]
    have e1 : ∀ es : List PySem.Expr, (plainArgs es F.env).all (fun x => !x.1) = true := fun es => by induction es with
      | nil => rfl
      | cons e es ih => exact ih
    rw [e1]
    simp [backToKw, keywordEach, hlen]
  · rw [hs, backTo_plain]
    refine wpAny_mono (h0 A s r I) (fun ov s₁ ⟨x, fp, a, _⟩ => ?_) fun _ _ e => e
    refine ⟨T, id, m.pa, m.slot, m.ty, ty.is a, ty.noDict m.nt a, ?_⟩
    refine callWith_val (plainArgs_any _ _) (fun b e => nomatch e) (wpAny_mono (args_wp ha A s₁ r (I.ext x)) (fun vs s₂ ⟨y, b⟩ => ?_) fun _ _ e => e)
    exact wpAny_mono (c A s₂ (ov :: vs) r ((I.ext x).ext y).gens ((I.ext x).ext y).keep ⟨⟨fp, a.keep y.2⟩, b⟩) (fun v s₃ q => give_trans (x.trans y) q) fun _ _ e => e
end
variable {prog : Program} {w : World}

inductive Weaker : Rho → Rho → Prop
  | nil : Weaker [] []
  | same {l l' q} : Weaker l l' → Weaker (q :: l) (q :: l')
  | any {l l' q} : Weaker l l' → Weaker (q :: l) ((.any, false) :: l')
  | dis {l l' p o} : Weaker l l' → Weaker ((p, o) :: l) ((p, false) :: l')
theorem Weaker.refl : ∀ (l : Rho), Weaker l l
  | [] => .nil
  | _ :: l => .same (Weaker.refl l)
theorem Weaker.length {l l' : Rho} (h : Weaker l l') : l'.length = l.length := by induction h <;> simp_all
theorem Weaker.at {l l' : Rho} (h : Weaker l l') : ∀ {i : Nat} {q : PV × Bool}, l'[i]? = some q → ∃ q0, l[i]? = some q0 ∧ (q = q0 ∨ q = (.any, false) ∨ q = (q0.1, false)) := by
  induction h with
  | nil => intro i q h; simp at h
  | @same l l' x _ ih => intro i q h; cases i with
    | zero => simp at h; exact ⟨x, by simp, .inl h.symm⟩
    | succ i => exact ih (by simpa using h)
  | @any l l' x _ ih => intro i q h; cases i with
    | zero => simp at h; exact ⟨x, by simp, .inr (.inl h.symm)⟩
    | succ i => exact ih (by simpa using h)
  | @dis l l' p o _ ih => intro i q h; cases i with
    | zero => simp at h; exact ⟨(p, o), by simp, .inr (.inr h.symm)⟩
    | succ i => exact ih (by simpa using h)
theorem Inv.weak {F : Fm} {ρ ρ' : Rho} {s : Shared} (I : Inv prog w F ρ s) (h : Weaker ρ ρ') : Inv prog w F ρ' s := by
  have I0 := I
  obtain ⟨k, g, o, ln, rs, ac, m, hm, fp, a, c⟩ := I
  obtain ⟨fp', f1⟩ : ∃ fp' : Nat → List Addr, ∀ i q, ρ'[i]? = some q → (q = (.any, false) ∧ fp' i = []) ∨ (q ≠ (.any, false) ∧ fp' i = fp i) := by
    refine ⟨fun i => match ρ'[i]? with | some (.any, false) => [] | _ => fp i, fun i q hq => ?_⟩
    dsimp only
    rw [hq]
    obtain ⟨p, b⟩ := q
    cases p <;> cases b <;> simp
  refine ⟨k, g, o, h.length.trans ln, rs, ac, m, hm, fp', fun i y acc p own h1 h2 => ?_, fun i p h1 y hy => ?_⟩
  · obtain ⟨q0, h3, h4⟩ := h.at h2
    obtain ⟨ov, h5, h6, h7⟩ := a i y acc q0.1 q0.2 h1 h3
    rcases f1 i _ h2 with ⟨e1, e2⟩ | ⟨e1, e2⟩
    · cases e1
      exact ⟨ov, h5, e2, fun z hz => by rw [e2] at hz; cases hz⟩
    · rw [e2]
      refine ⟨ov, h5, ?_, h7⟩
      rcases h4 with h4 | h4 | h4
      · rw [← h4] at h6; exact h6
      · exact absurd h4 e1
      · cases h4; exact h6
  · obtain ⟨q0, h3, h4⟩ := h.at h1
    rcases f1 i _ h1 with ⟨e1, e2⟩ | ⟨e1, e2⟩
    · cases e1
    · rw [e2] at hy
      have h5 : ρ[i]? = some (p, true) := by
        rcases h4 with h4 | h4 | h4
        · rw [h3, h4]
        · cases h4
        · cases h4
      obtain ⟨c1, c2⟩ := c i p h5 y hy
      refine ⟨c1, fun j q hj hq => ?_⟩
      obtain ⟨q1, h6, _⟩ := h.at hq
      rcases f1 j _ hq with ⟨d1, d2⟩ | ⟨d1, d2⟩
      · rw [d2]; simp
      · rw [d2]; exact c2 j q1 hj h6
theorem acc_chg {X : List Addr} {h h' : Heap} (ch : Chg X h h') {d : Addr} (hd : d ∉ X) (x : (∃ o, h.get? d = some o) ∧ NT h d) : (∃ o, h'.get? d = some o) ∧ NT h' d := by
  obtain ⟨⟨o, ho⟩, n⟩ := x
  have h2 := ch d o hd ho
  exact ⟨⟨o, h2⟩, fun o' ho' => by rw [h2] at ho'; cases ho'; exact n o ho⟩
theorem Inv.swap {G : Fm} {ρ : Rho} {s : Shared} (ok : FmOk G) (I : Inv prog w G ρ s) {X : List Addr} {h' : Heap} {b : Addr → Option Obj} (t : Nat) (hX : ∀ a ∈ X, G.res a) (ch : Chg X s.heap h') (nt : (∀ a ∈ X, NT s.heap a) ∨ ∀ (i : Nat) (q : PV × Bool), ρ[i]? = some q → q.1.flat = true)
    (hb : ∀ a o, b a = some o → h'.get? a = some o) (hn : ∀ a, G.base a = none → b a = none) (hs : ∀ a ∈ X, ∃ o, h'.get? a = some o) : Inv prog w (G.up b G.res) ρ { s with heap := h', toks := t } := by
  obtain ⟨k, g, o, ln, rs, ac, m, hm, fp, a, c⟩ := I
  have hL : G.env.locals ∉ X := fun q => ok.resL (hX _ q)
  refine ⟨hb, g, o, ln, fun z hz => ?_, fun d hd => acc_chg ch (fun q => (ok.acc d hd).2.1 (hX d q)) (ac d hd), m, hm.at' fun o e => ch _ o hL e, fp, fun i y acc p own h1 h2 => ?_, fun i p h1 y hy => ⟨hn y (c i p h1 y hy).1, (c i p h1 y hy).2⟩⟩
  · by_cases q : z ∈ X
    · exact hs z q
    · obtain ⟨o, ho⟩ := rs z hz
      exact ⟨o, ch z o q ho⟩
  · obtain ⟨ov, h5, h6, h7⟩ := a i y acc p own h1 h2
    refine ⟨ov, ?_, h6.chg ch (nt.imp id fun q => q i _ h2) fun z hz q => (h7 z hz).1.2 (.inl (hX z q)), h7⟩
    cases acc with
    | none => exact h5
    | some cc => exact let ⟨o, ho, hd⟩ := h5; ⟨o, ch _ o (fun q => ok.resC i y cc h1 (hX _ q)) ho, hd⟩

theorem Inv.drop {G : Fm} {ρ : Rho} {s : Shared} (ok : FmOk G) (I : Inv prog w G ρ s) {X : List Addr} {h' : Heap} {b : Addr → Option Obj} {r : Addr → Prop} (t : Nat) (hX : ∀ a ∈ X, G.res a) (ch : Chg X s.heap h')
    (nt : (∀ a ∈ X, NT s.heap a) ∨ ∀ (i : Nat) (q : PV × Bool), ρ[i]? = some q → q.1.flat = true) (hb : ∀ a o, b a = some o → G.base a = some o) (hbX : ∀ a ∈ X, b a = none) (hr : ∀ a, r a → G.res a) (hrX : ∀ a ∈ X, ¬ r a) : Inv prog w (G.up b r) ρ { s with heap := h', toks := t } := by
  obtain ⟨k, g, o, ln, rs, ac, m, hm, fp, a, c⟩ := I
  have hL : G.env.locals ∉ X := fun q => ok.resL (hX _ q)
  refine ⟨fun z o (e : b z = some o) => ch z o (fun q => by rw [hbX z q] at e; cases e) (k z o (hb z o e)), g, o, ln, fun z hz => ?_, fun d hd => acc_chg ch (fun q => (ok.acc d hd).2.1 (hX d q)) (ac d hd), m, hm.at' fun o e => ch _ o hL e, fp, fun i y acc p own h1 h2 => ?_, fun i p h1 y hy => ⟨?_, (c i p h1 y hy).2⟩⟩
  · obtain ⟨o, ho⟩ := rs z (hr z hz)
    exact ⟨o, ch z o (fun q => hrX z q hz) ho⟩
  · obtain ⟨ov, h5, h6, h7⟩ := a i y acc p own h1 h2
    refine ⟨ov, ?_, h6.chg ch (nt.imp id fun q => q i _ h2) fun z hz q => (h7 z hz).1.2 (.inl (hX z q)), fun z hz => ⟨⟨(h7 z hz).1.1, fun q => (h7 z hz).1.2 (q.imp (hr z) id)⟩, (h7 z hz).2⟩⟩
    cases acc with
    | none => exact h5
    | some cc => exact let ⟨o, ho, hd⟩ := h5; ⟨o, ch _ o (fun q => ok.resC i y cc h1 (hX _ q)) ho, hd⟩
  · show b y = none
    cases e : b y with
    | none => rfl
    | some o => have h4 := hb y o e; rw [(c i p h1 y hy).1] at h4; cases h4
noncomputable def plus (b : Addr → Option Obj) (X : List Addr) (h : Heap) : Addr → Option Obj := fun a => if a ∈ X then h.get? a else b a
theorem plus_in {b : Addr → Option Obj} {X : List Addr} {h : Heap} {a : Addr} (e : a ∈ X) : plus b X h a = h.get? a := if_pos e
theorem plus_out {b : Addr → Option Obj} {X : List Addr} {h : Heap} {a : Addr} (e : a ∉ X) : plus b X h a = b a := if_neg e
theorem NT.fields {h : Heap} {a : Addr} (x : ∃ o vs, h.get? a = some o ∧ o.data = .fields vs) : NT h a := fun o ho xs n _ hd => by
  obtain ⟨o', vs, h1, h2⟩ := x
  rw [h1] at ho; cases ho
  rw [h2] at hd; cases hd

structure Iter (prog : Program) (w : World) (A : Around) (tgt : PySem.Expr) (z : Bool) (B : Addr → Option Obj) (I : Addr) (X : List Addr) (St : List IV → Heap → Prop) : Prop where
  std : ∀ l h, St l h → ∀ a ∈ X, ∃ o, h.get? a = some o
  nt : z = false → ∀ l h, St l h → ∀ a ∈ X, NT h a
  frm : ∀ l h h', St l h → (∀ a ∈ X, ∀ o, h.get? a = some o → h'.get? a = some o) → (∀ a o, B a = some o → h'.get? a = some o) → St l h'
  item : ∀ x l s (Q : Value → Shared → Prop) (E : Value → Shared → Prop), St (x :: l) s.heap → Bk B s → (∀ v h' tk, Chg X s.heap h' → x.of h' v → St l h' → Q v { s with heap := h', toks := tk }) →
    wpAny (model prog w) A (pyNext (.ref I)) (fun r s₁ => ∃ v, r = some v ∧ wpAny (model prog w) A (letOwnedTupleGo tgt (.ref I) v) (fun _ s₂ => Q v s₂) E s₁) E s
  done : ∀ s (Q : Option Value → Shared → Prop) (E : Value → Shared → Prop), St [] s.heap → Bk B s → (∀ h' tk, Chg X s.heap h' → Q none { s with heap := h', toks := tk }) → wpAny (model prog w) A (pyNext (.ref I)) Q E s
  self : ∀ l s (Q : Value → Shared → Prop) (E : Value → Shared → Prop), St l s.heap → Q (.ref I) s → wpAny (model prog w) A (pyIter (.ref I)) Q E s
abbrev rX (r : Addr → Prop) (X : List Addr) : Addr → Prop := fun a => r a ∨ a ∈ X
section
variable (prog : Program) (w : World)
inductive ItP (F : Fm) (ρ : Rho) (z : Bool) (tgt : PySem.Expr) (l : List IV) (b : Addr → Option Obj) (r : Addr → Prop) (A : Around) (s : Shared) (it : Value) (s₂ : Shared) : Prop
  | mk (x : Ext s s₂) (I : Addr) (X : List Addr) (b₂ : Addr → Option Obj) (St : List IV → Heap → Prop) (e : it = .ref I) (le : (F.up b r).Le b₂ r) (bX : ∀ a ∈ X, b₂ a = none) (ok : FmOk (F.up (plus b₂ X s₂.heap) (rX r X))) (inv : Inv prog w (F.up (plus b₂ X s₂.heap) (rX r X)) ρ s₂) (fX : Fresh s X) (st : St l s₂.heap) (W : Iter prog w A tgt z b₂ I X St) : ItP F ρ z tgt l b r A s it s₂
def ItJ (F : Fm) (ρ : Rho) (k : Nat) (z : Bool) (tgt e : PySem.Expr) (l : List IV) : Prop :=
  ∀ b r, F.Le b r → FmOk (F.up b r) → ∀ A s, Room k A → Inv prog w (F.up b r) ρ s → wpAny (model prog w) A (eval e F.env) (fun x s₁ => wpAny (model prog w) A (pyIter x) (ItP prog w F ρ z tgt l b r A s) No s₁) No s
def ItE (F : Fm) (ρ : Rho) (k : Nat) (z : Bool) (tgt e : PySem.Expr) (Pl : List IV → Prop) : Prop :=
  ∀ b r, F.Le b r → FmOk (F.up b r) → ∀ A s, Room k A → Inv prog w (F.up b r) ρ s → wpAny (model prog w) A (eval e F.env) (fun x s₁ => wpAny (model prog w) A (pyIter x) (fun it s₂ => ∃ l, Pl l ∧ ItP prog w F ρ z tgt l b r A s it s₂) No s₁) No s
inductive AsgP (F : Fm) (ρ₁ : Rho) (b : Addr → Option Obj) (r : Addr → Prop) (s s' : Shared) : Prop
  | mk (I : Inv prog w (F.up b r) ρ₁ s') (X : List Addr) (ch : Chg X s.heap s'.heap) (nt : ∀ a ∈ X, NT s.heap a ∧ ¬ (r a ∨ F.acc a)) : AsgP F ρ₁ b r s s'
def AsgJ (F : Fm) (k : Nat) (tgt : PySem.Expr) (x : IV) (ρ ρ₁ : Rho) : Prop :=
  ∀ b r, F.Le b r → FmOk (F.up b r) → ∀ A s v, Room k A → x.of s.heap v → Inv prog w (F.up b r) ρ s → wpAny (model prog w) A (assign tgt F.env v) (fun _ s' => AsgP prog w F ρ₁ b r s s') No s
end
def Turn (J : List IV → Rho → Prop) (P : Fl → Rho → Prop) (rest : List IV) : Fl → Rho → Prop
  | .next, ρ => J rest ρ
  | .cont, ρ => J rest ρ
  | .brk, ρ => P .next ρ
  | .ret p, ρ => P (.ret p) ρ
section
variable {F : Fm} {ρ : Rho} {b : Addr → Option Obj} {r : Addr → Prop} {X : List Addr}
theorem FmOk.replus {h h' : Heap} (ok : FmOk (F.up (plus b X h) (rX r X))) : FmOk (F.up (plus b X h') (rX r X)) := by
  have hL : F.env.locals ∉ X := fun q => ok.resL (.inr q)
  have hC : ∀ (i : Nat) (x : Str) (c : Addr), F.slots[i]? = some (x, some c) → c ∉ X := fun i x c h q => ok.resC i x c h (.inr q)
  refine ⟨ok.kind, ok.loc, ok.cel, ok.names, ok.cells, (plus_out hL).trans ((plus_out (h := h) hL).symm.trans ok.baseL), ok.resL, ok.resC, fun c hc => ?_, fun d hd => ⟨?_, (ok.acc d hd).2⟩, ok.mineC⟩
  rotate_left
  · have hdX : d ∉ X := fun q => (ok.acc d hd).2.1 (.inr q)
    exact (plus_out hdX).trans ((plus_out (h := h) hdX).symm.trans (ok.acc d hd).1)
  obtain ⟨i, x, hx⟩ := ok.mineC c hc
  exact (plus_out (hC i x c hx)).trans ((plus_out (h := h) (hC i x c hx)).symm.trans (ok.mine c hc))
theorem Inv.replus {s : Shared} (ok : FmOk (F.up (plus b X s.heap) (rX r X))) (I : Inv prog w (F.up (plus b X s.heap) (rX r X)) ρ s) {h' : Heap} (t : Nat) (ch : Chg X s.heap h') (nt : (∀ a ∈ X, NT s.heap a) ∨ ∀ (i : Nat) (q : PV × Bool), ρ[i]? = some q → q.1.flat = true) (hs : ∀ a ∈ X, ∃ o, h'.get? a = some o) :
    Inv prog w (F.up (plus b X h') (rX r X)) ρ { s with heap := h', toks := t } := by
  refine Inv.swap ok I t (fun a ha => .inr ha) ch nt (fun a o e => ?_) (fun a e => ?_) hs
  · by_cases q : a ∈ X
    · rw [plus_in q] at e; exact e
    · rw [plus_out q] at e
      exact ch a o q (I.keep a o ((plus_out q).trans e))
  · by_cases q : a ∈ X
    · obtain ⟨o, ho⟩ := I.res a (.inr q)
      rw [show (F.up (plus b X s.heap) (rX r X)).base a = _ from plus_in q, ho] at e; cases e
    · rw [plus_out q]; rw [show (F.up (plus b X s.heap) (rX r X)).base a = _ from plus_out q] at e; exact e
theorem plus_same {s s' : Shared} (I : Inv prog w (F.up (plus b X s.heap) (rX r X)) ρ s') (hs : ∀ a ∈ X, ∃ o, s.heap.get? a = some o) : plus b X s.heap = plus b X s'.heap := by
  funext a
  by_cases q : a ∈ X
  · obtain ⟨o, ho⟩ := hs a q
    rw [plus_in q, plus_in q, ho]
    exact (I.keep a o ((plus_in q).trans ho)).symm
  · rw [plus_out q, plus_out q]
end
section
variable {F : Fm} {ρ : Rho} {k : Nat} {P : Fl → Rho → Prop}
theorem ex_forE {target iter : PySem.Expr} {body : List Stmt} {pos : PySem.Pos} {Pl : List IV → Prop} {z : Bool} (hI : ItE prog w F ρ k z target iter Pl) (J : List IV → Rho → Prop) (h0 : ∀ l, Pl l → J l ρ) (hend : ∀ ρ', J [] ρ' → P .next ρ')
    (hstep : ∀ x rest ρ', J (x :: rest) ρ' → ∃ ρ₁, AsgJ prog w F k target x ρ' ρ₁ ∧ ExS prog w F ρ₁ k (execs body F.env) (Turn J P rest))
    (hz : z = true → ∀ l ρ', J l ρ' → ∀ (i : Nat) (q : PV × Bool), ρ'[i]? = some q → q.1.flat = true := by intro h; cases h) (hs : ∀ x, foldedSetIterable iter F.env x = pure x := by intro _; rfl) :
    ExS prog w F ρ k (exec (.For target iter body [] pos) F.env) P := fun b r l₀ ok A s rm I => by
  refine wpAny_For (wpAny_mono (hI b r l₀ ok A s rm I) (fun x s₁ h₁ => wpAny_mono h₁ (fun it s₂ h₂ => ?_) fun _ _ e => e) fun _ _ e => e) hs
  obtain ⟨l, hPl, x₂, Ia, X, b₂, St, rfl, l₂, bX, ok₂, I₂, fX, st, W⟩ := h₂
  have le : ∀ h : Heap, (F.up b r).Le (plus b₂ X h) (rX r X) := fun h => ⟨fun a o e => by
    have e2 := l₂.base a o e
    exact (plus_out fun q => by rw [bX a q] at e2; cases e2).trans e2, fun a q => .inl q⟩
  have bk : ∀ (s' : Shared) ρ', Inv prog w (F.up (plus b₂ X s'.heap) (rX r X)) ρ' s' → Bk b₂ s' := fun s' ρ' I' a o e => I'.keep a o ((plus_out fun q => by rw [bX a q] at e; cases e).trans e)
  refine codeAny_forLoop_any (fun n s' => ∃ l ρ', n = l.length ∧ J l ρ' ∧ Inv prog w (F.up (plus b₂ X s'.heap) (rX r X)) ρ' s' ∧ St l s'.heap) ?_ l.length ⟨l, ρ, rfl, h0 l hPl, I₂, st⟩
  rintro n s' ⟨l', ρ', rfl, hJ, I', st'⟩
  have nt : (∀ a ∈ X, NT s'.heap a) ∨ ∀ (i : Nat) (q : PV × Bool), ρ'[i]? = some q → q.1.flat = true := by
    cases z with
    | false => exact .inl fun a ha => W.nt rfl _ _ st' a ha
    | true => exact .inr (hz rfl _ _ hJ)
  cases l' with
  | nil =>
    refine W.done s' _ _ st' (bk s' ρ' I') fun h' tk ch => wpAny_execs_nil ?_
    exact ⟨.next, ρ', hend ρ' hJ, Inv.drop (ok₂.replus) I' tk (fun a ha => .inr ha) ch nt (le s'.heap).base (fun a ha => by
      cases e : b a with
      | none => rfl
      | some o => have := l₂.base a o e; rw [bX a ha] at this; cases this) (fun a q => .inl q) (fun a ha q => by obtain ⟨o, ho⟩ := I.res a q; rw [fX a ha] at ho; cases ho), trivial⟩
  | cons x rest =>
    obtain ⟨ρ₁, ha, hb⟩ := hstep x rest ρ' hJ
    refine wpAny_mono (W.item x rest s' (fun v s₂ => wpAny (model prog w) A (assign target F.env v) (fun _ s₃ => wpAny (model prog w) A (execs body F.env) (fun f s₄ => match f with
            | .next | .cont => ∃ m, m < rest.length + 1 ∧ ∃ l ρ', m = l.length ∧ J l ρ' ∧ Inv prog w (F.up (plus b₂ X s₄.heap) (rX r X)) ρ' s₄ ∧ St l s₄.heap
            | .brk => ExPost prog w F P b r .next s₄
            | .ret v => ExPost prog w F P b r (.ret v) s₄) No s₃) No s₂) No st' (bk s' ρ' I') fun v h' tk ch hx st₁ => ?_) (fun r' s₃ h => ?_) fun _ _ e => e.elim
    · have I₁ := I'.replus ok₂.replus tk ch nt (W.std _ _ st₁)
      have X₁ : ∀ a ∈ X, ∃ o, h'.get? a = some o := W.std _ _ st₁
      have l₁ : F.Le (plus b₂ X h') (rX r X) := l₀.trans (le h')
      refine wpAny_mono (ha _ _ l₁ ok₂.replus A _ v rm hx I₁) (fun _ s₃ ⟨I₃, _, _, _⟩ => ?_) fun _ _ e => e
      have I₃ : Inv prog w (F.up (plus b₂ X h') (rX r X)) ρ₁ s₃ := I₃
      refine wpAny_mono (hb _ _ l₁ ok₂.replus A s₃ rm I₃) (fun f s₄ ⟨fl, ρ₄, h4, I₄, h5⟩ => ?_) fun _ _ e => e
      have I₄ : Inv prog w (F.up (plus b₂ X h') (rX r X)) ρ₄ s₄ := I₄
      have es : plus b₂ X h' = plus b₂ X s₄.heap := plus_same (s := { s' with heap := h', toks := tk }) I₄ X₁
      have I₅ : Inv prog w (F.up (plus b₂ X s₄.heap) (rX r X)) ρ₄ s₄ := es ▸ I₄
      have st₄ : St rest s₄.heap := W.frm _ _ _ st₁ (fun a ha o ho => I₄.keep a o ((plus_in ha).trans ho)) (bk s₄ ρ₄ I₅)
      cases f with
      | next => cases fl <;> first | exact ⟨rest.length, Nat.lt_succ_self _, rest, ρ₄, rfl, h4, I₅, st₄⟩ | exact h5.elim
      | cont => cases fl <;> first | exact ⟨rest.length, Nat.lt_succ_self _, rest, ρ₄, rfl, h4, I₅, st₄⟩ | exact h5.elim
      | brk => cases fl <;> first | exact ⟨.next, ρ₄, h4, Inv.down (F := F.up b r) I₅ (le _), trivial⟩ | exact h5.elim
      | ret v => cases fl <;> first | exact ⟨.ret _, ρ₄, h4, Inv.down (F := F.up b r) I₅ (le _), h5⟩ | exact h5.elim
    · obtain ⟨v, rfl, h⟩ := h
      refine wpAny_mono h (fun _ s₃ h => ?_) fun _ _ e => e.elim
      refine wpAny_mono h (fun _ s₃ h => ?_) fun _ _ e => e.elim
      exact wpAny_mono h (fun _ s₃ h => h) fun _ _ e => e.elim
theorem ItJ.e {target iter : PySem.Expr} {l : List IV} {z : Bool} (hI : ItJ prog w F ρ k z target iter l) : ItE prog w F ρ k z target iter (· = l) := fun b r lf ok A s rm I =>
  wpAny_mono (hI b r lf ok A s rm I) (fun x s₁ h => wpAny_mono h (fun it s₂ h₂ => ⟨l, rfl, h₂⟩) fun _ _ e => e) fun _ _ e => e
theorem ex_for {target iter : PySem.Expr} {body : List Stmt} {pos : PySem.Pos} {l : List IV} {z : Bool} (hI : ItJ prog w F ρ k z target iter l) (J : List IV → Rho → Prop) (h0 : J l ρ) (hend : ∀ ρ', J [] ρ' → P .next ρ')
    (hstep : ∀ x rest ρ', J (x :: rest) ρ' → ∃ ρ₁, AsgJ prog w F k target x ρ' ρ₁ ∧ ExS prog w F ρ₁ k (execs body F.env) (Turn J P rest))
    (hz : z = true → ∀ l ρ', J l ρ' → ∀ (i : Nat) (q : PV × Bool), ρ'[i]? = some q → q.1.flat = true := by intro h; cases h) (hs : ∀ x, foldedSetIterable iter F.env x = pure x := by intro _; rfl) :
    ExS prog w F ρ k (exec (.For target iter body [] pos) F.env) P := ex_forE hI.e J (fun l' e => e ▸ h0) hend hstep hz hs
theorem ex_while {test : PySem.Expr} {body : List Stmt} {pos : PySem.Pos} (J : Nat → Rho → Prop) (n : Nat) (h0 : J n ρ)
    (hstep : ∀ n ρ', J n ρ' → ∃ b, EvB prog w F ρ' k test b ∧ if b then ExS prog w F ρ' k (execs body F.env) (fun fl ρ₁ => match fl with | .next | .cont => ∃ m, m < n ∧ J m ρ₁ | .brk => P .next ρ₁ | .ret p => P (.ret p) ρ₁) else P .next ρ') :
    ExS prog w F ρ k (exec (.While test body [] pos) F.env) P := fun b r l₀ ok A s rm I => by
  refine wpAny_While (codeAny_whileLoop (fun n s' => ∃ ρ', J n ρ' ∧ Inv prog w (F.up b r) ρ' s') ?_ n ⟨ρ, h0, I⟩)
  rintro n s' ⟨ρ', hJ, I'⟩
  obtain ⟨c, h1, h2⟩ := hstep n ρ' hJ
  refine wpAny_mono (h1 A s' rm (I'.down l₀)) (fun d s₁ ⟨e, x⟩ => ?_) fun _ _ e => e.elim
  subst e
  cases d with
  | false => exact wpAny_execs_nil ⟨.next, ρ', h2, I'.ext x, trivial⟩
  | true =>
    refine wpAny_mono (h2 b r l₀ ok A s₁ rm (I'.ext x)) (fun f s₂ ⟨fl, ρ₂, h4, I₂, h5⟩ => ?_) fun _ _ e => e.elim
    cases f with
    | next => cases fl <;> first | exact (let ⟨m, h6, h7⟩ := h4; ⟨m, h6, ρ₂, h7, I₂⟩) | exact h5.elim
    | cont => cases fl <;> first | exact (let ⟨m, h6, h7⟩ := h4; ⟨m, h6, ρ₂, h7, I₂⟩) | exact h5.elim
    | brk => cases fl <;> first | exact ⟨.next, ρ₂, h4, I₂, trivial⟩ | exact h5.elim
    | ret v => cases fl <;> first | exact ⟨.ret _, ρ₂, h4, I₂, h5⟩ | exact h5.elim
end
variable {prog : Program} {w : World}

structure Frozen (prog : Program) (w : World) (G : Fm) (ρ : Rho) (s s' : Shared) (X : List Addr) (b₂ : Addr → Option Obj) : Prop where
  le : G.Le b₂ G.res
  out : ∀ a ∈ X, b₂ a = none
  ok : FmOk (G.up (plus b₂ X s'.heap) (rX G.res X))
  inv : Inv prog w (G.up (plus b₂ X s'.heap) (rX G.res X)) ρ s'
  new : ∀ a o, s'.heap.get? a = some o → a ∉ X → s.heap.get? a = none → b₂ a = some o
  tup : ∀ a o xs n, s'.heap.get? a = some o → a ∉ X → o.cls = .type "tuple" → o.data = .seq xs n → b₂ a = some o
  slot : ∀ (i : Nat) (x : Str) (acc : Option Addr) (p : PV), G.slots[i]? = some (x, acc) → ρ[i]? = some (p, false) → ∃ ov fp, (match acc with | none => ∃ m, s.heap.Ns G.env.locals m ∧ ov = m x | some c => s.heap.IsCell c ov) ∧ RepO prog w s.heap p ov fp ∧
    ∀ a ∈ fp, ∀ o, s'.heap.get? a = some o → b₂ a = some o
open Classical in
theorem Inv.freeze {G : Fm} {ρ : Rho} {s s' : Shared} (ok : FmOk G) (I : Inv prog w G ρ s) (x : Ext s s') {X : List Addr} (hX : Fresh s X) (hs : ∀ a ∈ X, ∃ o, s'.heap.get? a = some o) : ∃ b₂, Frozen prog w G ρ s s' X b₂ := by
  have I0 := I
  have I' := I.ext x
  obtain ⟨k, g, o, ln, rs, ac, m, hm, fp, a, c⟩ := I
  have st : ∀ (i : Nat) (q : PV × Bool), ρ[i]? = some q → ∀ z ∈ fp i, ∃ o, s.heap.get? z = some o := fun i q h z hz => by
    obtain ⟨y, acc, hy⟩ := I0.slotAt h
    obtain ⟨ov, _, h6, _⟩ := a i y acc q.1 q.2 hy h
    exact h6.stands z hz
  obtain ⟨o₁, es, ep, hL, hLd, hLk⟩ := id hm
  have hLX : G.env.locals ∉ X := fun q => by rw [hX _ q] at hL; cases hL
  have hC : ∀ (i : Nat) (y : Str) (c : Addr), G.slots[i]? = some (y, some c) → ∃ ov, s.heap.IsCell c ov := fun i y c h => I0.cellAt h
  have hCX : ∀ (i : Nat) (y : Str) (c : Addr), G.slots[i]? = some (y, some c) → c ∉ X := fun i y c h q => by obtain ⟨ov, o, ho, _⟩ := hC i y c h; rw [hX _ q] at ho; cases ho
  obtain ⟨b₂, hb1, hb2⟩ : ∃ b₂ : Addr → Option Obj, (∀ z, (z = G.env.locals ∨ (G.mine z ∨ G.acc z) ∨ z ∈ X ∨ ∃ i p, ρ[i]? = some (p, true) ∧ z ∈ fp i) → b₂ z = none) ∧ ∀ z, ¬ (z = G.env.locals ∨ (G.mine z ∨ G.acc z) ∨ z ∈ X ∨ ∃ i p, ρ[i]? = some (p, true) ∧ z ∈ fp i) → b₂ z = s'.heap.get? z :=
    ⟨fun z => if z = G.env.locals ∨ (G.mine z ∨ G.acc z) ∨ z ∈ X ∨ ∃ i p, ρ[i]? = some (p, true) ∧ z ∈ fp i then none else s'.heap.get? z, fun z hz => if_pos hz, fun z hz => if_neg hz⟩
  refine ⟨b₂, ⟨fun z o e => ?_, fun z q => q⟩, fun z hz => hb1 z (.inr (.inr (.inl hz))), ?_, ?_, fun z o e hzX hn => ?_, fun z o xs n e hzX hc hd => ?_, fun i y acc p h1 h2 => ?_⟩
  · rw [hb2 z ?_]
    · exact x.2 _ _ (k z o e)
    · rintro (q | q | q | ⟨i, p, h1, h2⟩)
      · rw [q, ok.baseL] at e; cases e
      · rcases q with q | q
        · rw [ok.mine z q] at e; cases e
        · rw [(ok.acc z q).1] at e; cases e
      · have := k z o e; rw [hX z q] at this; cases this
      · rw [(c i p h1 z h2).1] at e; cases e
  · refine ⟨ok.kind, ok.loc, ok.cel, ok.names, ok.cells, (plus_out hLX).trans (hb1 _ (.inl rfl)), fun q => q.elim ok.resL hLX, fun i y c h q => q.elim (ok.resC i y c h) (hCX i y c h), fun c hc => ?_, fun d hd => ?_, ok.mineC⟩
    · obtain ⟨i, y, h⟩ := ok.mineC c hc
      exact (plus_out (hCX i y c h)).trans (hb1 _ (.inr (.inl (.inl hc))))
    · have hdX : d ∉ X := fun q => by obtain ⟨o, ho⟩ := (ac d hd).1; rw [hX d q] at ho; cases ho
      exact ⟨(plus_out hdX).trans (hb1 _ (.inr (.inl (.inr hd)))), fun q => q.elim (ok.acc d hd).2.1 hdX, (ok.acc d hd).2.2⟩
  · refine ⟨fun z o e => ?_, I'.gens, I'.os, ln, fun z hz => hz.elim (fun q => I'.res z q) (hs z), I'.acc, m, hm.keeps x.2, fp, fun i y acc p own h1 h2 => ?_, fun i p h1 y hy => ?_⟩
    · by_cases q : z ∈ X
      · exact (plus_in q).symm.trans e
      · have e : b₂ z = some o := (plus_out q).symm.trans e
        by_cases q2 : (z = G.env.locals ∨ (G.mine z ∨ G.acc z) ∨ z ∈ X ∨ ∃ i p, ρ[i]? = some (p, true) ∧ z ∈ fp i)
        · rw [hb1 z q2] at e; cases e
        · rw [hb2 z q2] at e; exact e
    · obtain ⟨ov, h5, h6, h7⟩ := a i y acc p own h1 h2
      refine ⟨ov, ?_, h6.keep x.2, fun z hz => ⟨⟨(h7 z hz).1.1, fun q => by
        rcases q with (q | q) | q
        · exact (h7 z hz).1.2 (.inl q)
        · obtain ⟨o, ho⟩ := st i _ h2 z hz
          rw [hX z q] at ho; cases ho
        · exact (h7 z hz).1.2 (.inr q)⟩, (h7 z hz).2⟩⟩
      cases acc with
      | none => exact h5
      | some cc => exact h5.keeps x.2
    · refine ⟨?_, (c i p h1 y hy).2⟩
      have : y ∉ X := fun q => by obtain ⟨o, ho⟩ := st i _ h1 y hy; rw [hX y q] at ho; cases ho
      exact (plus_out this).trans (hb1 _ (.inr (.inr (.inr ⟨i, p, h1, hy⟩))))
  · rw [hb2 z ?_]
    · exact e
    · rintro (q | q | q | ⟨i, p, h1, h2⟩)
      · rw [q, hL] at hn; cases hn
      · rcases q with q | q
        · obtain ⟨i, y, h⟩ := ok.mineC z q
          obtain ⟨ov, o, ho, _⟩ := hC i y z h
          rw [ho] at hn; cases hn
        · obtain ⟨o, ho⟩ := (ac z q).1
          rw [ho] at hn; cases hn
      · exact hzX q
      · obtain ⟨o, ho⟩ := st i _ h1 z h2
        rw [ho] at hn; cases hn
  · rw [hb2 z ?_]
    · exact e
    · rintro (q | q | q | ⟨i, p, h1, h2⟩)
      · exact NT.ns (hm.keeps x.2) o (q ▸ e) xs n hc hd
      · rcases q with q | q
        · obtain ⟨i, y, h⟩ := ok.mineC z q
          obtain ⟨ov, ho⟩ := hC i y z h
          exact NT.cell (ho.keeps x.2) o e xs n hc hd
        · exact (I'.acc z q).2 o e xs n hc hd
      · exact hzX q
      · obtain ⟨y, acc, hy⟩ := I0.slotAt h1
        obtain ⟨ov, _, h6, _⟩ := a i y acc p true hy h1
        have h6 := h6.keep x.2
        cases ov with
        | none => cases p <;> first | exact h6.elim | (rw [show fp i = [] from h6] at h2; cases h2)
        | some v =>
          have h8 : Rep prog w s'.heap p v (fp i) := by cases p <;> exact h6
          exact h8.nt z h2 o e xs n hc hd
  · obtain ⟨ov, h5, h6, h7⟩ := a i y acc p false h1 h2
    refine ⟨ov, fp i, ?_, h6, fun z hz o e => ?_⟩
    · cases acc with
      | none => exact ⟨m, hm, h5⟩
      | some cc => exact h5
    · rw [hb2 z ?_]
      · exact e
      · rintro (q | q | q | ⟨j, p', h8, h9⟩)
        · exact (h7 z hz).1.1 q
        · rcases q with q | q
          · obtain ⟨j, y', h⟩ := ok.mineC z q
            exact (h7 z hz).2 j y' z h rfl
          · exact (h7 z hz).1.2 (.inr q)
        · obtain ⟨o, ho⟩ := st i _ h2 z hz
          rw [hX z q] at ho; cases ho
        · by_cases hj : i = j
          · subst hj; rw [h2] at h8; cases h8
          · exact (c j p' h8 z h9).2 i _ hj h2 hz
variable {prog : Program} {w : World}
abbrev Bh (B : Addr → Option Obj) (h : Heap) : Prop := ∀ a o, B a = some o → h.get? a = some o

theorem NT.back {X : List Addr} {h h' : Heap} {a : Addr} (c : Chg X h h') (ha : a ∉ X) (n : NT h' a) : NT h a := fun o ho => n o (c a o ha ho)
theorem store_wp2 {F : Fm} {ρ : Rho} {A : Around} {s : Shared} {i : Nat} {x : Str} {acc : Option Addr} {p : IV} {own : Bool} {v : Value} {Q : Unit → Shared → Prop} {E : Value → Shared → Prop} (ok : FmOk F) (hs : F.slots[i]? = some (x, acc)) (ho : Own F x acc) (I : Inv prog w F ρ s)
    (r : p.of s.heap v) (hQ : ∀ s', Inv prog w F (ρ.set i (.iv p, own)) s' → (∃ X, Chg X s.heap s'.heap ∧ ∀ a ∈ X, NT s.heap a ∧ ¬ (F.res a ∨ F.acc a)) → Q () s') : wpAny (model prog w) A (storeName F.env x v) Q E s := by
  have r' : Rep prog w s.heap (.iv p) v [] := ⟨r, rfl⟩
  have fr : Fresh s [] := fun a ha => nomatch ha
  cases acc with
  | none =>
    obtain ⟨m, hm, _⟩ := I.sl
    refine wpAny_storeName_local (ok.loc i x hs) hm (fun h' hn hsb => hQ _ ?_ ⟨[F.env.locals], Chg.of_sameBut hsb, fun a ha => by rw [List.mem_singleton.mp ha]; exact ⟨NT.ns hm, fun q => q.elim ok.resL fun q => (ok.acc _ q).2.2.1 rfl⟩⟩) (by
      show (F.env.scope.kind == .class || (F.env.scope.kind == .module && F.env.locals != F.env.globals)) = false
      rw [ok.kind]; rfl)
    exact Inv.store ok hs I (Ext.refl s) r' fr _ h' (.loc hn hsb (if_pos rfl) fun m' hm' y hy => (if_neg hy).trans (ns_uniq hm hm' y))
  | some c =>
    obtain ⟨hk, hb⟩ := ho c rfl
    obtain ⟨ov, hc⟩ := I.cellAt hs
    refine wpAny_storeName_cell ok.kind hk (ok.cel i x c hs).2.1 hc fun h' hc' hsb => hQ _ ?_ ⟨[c], Chg.of_sameBut hsb, fun a ha => by rw [List.mem_singleton.mp ha]; exact ⟨NT.cell hc, fun q => q.elim (ok.resC i x c hs) fun q => (ok.acc _ q).2.2.2 i x hs⟩⟩
    exact Inv.store ok hs I (Ext.refl s) r' fr s.toks h' (.cel hc' hsb (ok.mine c hb))
section
variable {F : Fm} {ρ : Rho} {k : Nat}
theorem asg_name {x : Str} {pos : PySem.Pos} {v : IV} (i : Nat) {acc : Option Addr} (hs : F.slots[i]? = some (x, acc)) (ho : Own F x acc) : AsgJ prog w F k (.Name x pos) v ρ (ρ.set i (.iv v, false)) :=
  fun b r l ok A s vv rm hv I => wpAny_assign_Name (store_wp2 (F := F.up b r) ok hs ho I hv fun s' I' ⟨X, h, h2⟩ => ⟨I', X, h, h2⟩)
inductive Asgs (F : Fm) : List PySem.Expr → List At → Rho → Rho → Prop
  | nil {ρ1} : Asgs F [] [] ρ1 ρ1
  | cons {x pos es a l ρ1 ρ2} (i : Nat) {acc : Option Addr} (hs : F.slots[i]? = some (x, acc)) (ho : Own F x acc) (h : Asgs F es l (ρ1.set i (.iv (.at a), false)) ρ2) : Asgs F (.Name x pos :: es) (a :: l) ρ1 ρ2
theorem Asgs.each {es : List PySem.Expr} {as : List At} {ρ ρ' : Rho} (h : Asgs F es as ρ ρ') : assignEach es F.env = es.map (fun e => (false, assign e F.env)) ∧ es.length = as.length := by
  induction h with
  | nil => exact ⟨rfl, rfl⟩
  | cons i hs ho h ih => exact ⟨by rw [List.map_cons, ← ih.1]; rfl, by simp [ih.2]⟩
theorem asgs_wp {es : List PySem.Expr} {as : List At} {ρ ρ' : Rho} (h : Asgs F es as ρ ρ') : ∀ {b : Addr → Option Obj} {r : Addr → Prop} (ok : FmOk (F.up b r)) (A : Around) (s : Shared) (vs : List Value), Ats as vs → Inv prog w (F.up b r) ρ s →
    wpAny (model prog w) A (assignInOrder (es.map fun e => assign e F.env) vs) (fun _ s' => Inv prog w (F.up b r) ρ' s' ∧ ∃ X, Chg X s.heap s'.heap ∧ ∀ a ∈ X, NT s.heap a ∧ ¬ (r a ∨ F.acc a)) No s := by
  induction h with
  | nil =>
    intro b r ok A s vs hv I
    cases vs with
    | nil => exact wpAny_pure ⟨I, [], fun b o _ e => e, fun a ha => nomatch ha⟩
    | cons v vs => exact hv.elim
  | @cons x pos es a as ρ ρ' i acc hs ho h ih =>
    intro b r ok A s vs hv I
    cases vs with
    | nil => exact hv.elim
    | cons v vs =>
      show wpAny _ A (do holding vs (assign (.Name x pos) F.env v); assignInOrder (es.map fun e => assign e F.env) vs) _ _ _
      refine wpAny_bind (wpAny_holding (wpAny_assign_Name (store_wp2 (F := F.up b r) (p := .at a) (own := false) ok hs ho I hv.1 fun s' I' ⟨X, h1, h2⟩ => ?_)))
      refine wpAny_mono (ih ok A s' vs hv.2 I') (fun _ s'' ⟨I'', Y, h3, h4⟩ => ⟨I'', ?_⟩) fun _ _ e => e
      refine ⟨X ++ Y, fun z o hz e => h3 z o (fun q => hz (List.mem_append_right _ q)) (h1 z o (fun q => hz (List.mem_append_left _ q)) e), fun z hz => ?_⟩
      by_cases q : z ∈ X
      · exact h2 z q
      · have hy := (List.mem_append.mp hz).resolve_left q
        exact ⟨NT.back h1 q (h4 z hy).1, (h4 z hy).2⟩
theorem asg_tup {es : List PySem.Expr} {k' : Nat} {pos : PySem.Pos} {as : List At} {ρ₁ : Rho} (h : Asgs F es as ρ ρ₁) (hst : (assignEach es F.env).findIdx? (·.1) = none := by rfl) : AsgJ prog w F k (.Tuple es k' pos) (.tup as) ρ ρ₁ :=
  fun b r l ok A s vv rm hv I => by
    obtain ⟨a, vs, rfl, ht, hvs⟩ := hv
    obtain ⟨e1, e2⟩ := h.each
    refine wpAny_assign_Tuple (elts := es) rm.handled ht (by rw [e1]; simp [e2, hvs.length]) hst fun h' hx => ?_
    rw [e1, List.map_map]
    have hx : Keep s.heap h' := fun z o e => hx z o (Nat.ne_of_lt (Heap.lt_size e)) e
    refine wpAny_mono (asgs_wp h ok A { s with heap := h' } vs hvs (I.ext ⟨⟨rfl, rfl⟩, hx⟩)) (fun _ s' ⟨I', X, h1, h2⟩ => ⟨I', X, fun z o hz e => h1 z o hz (hx z o e), fun z hz => ⟨fun o ho => (h2 z hz).1 o (hx z o ho), (h2 z hz).2⟩⟩) fun _ _ e => e
end

theorem go_plain {A : Around} {tgt : PySem.Expr} {I : Addr} {v : Value} {o : Obj} {T : String} {s : Shared} {Q : Unit → Shared → Prop} {E : Value → Shared → Prop} (ho : s.heap.get? I = some o) (hc : o.cls = .type T)
    (hT : (["enumerate", "zip", "dict_itemiterator", "dict_reverseitemiterator", "odict_iterator", "itertools.zip_longest", "itertools.pairwise"].contains T) = false) (hQ : Q () s) : wpAny (model prog w) A (letOwnedTupleGo tgt (.ref I) v) Q E s := by
  have key : ∀ a : Addr, wpAny (model prog w) A (do
      let o ← load I
      match o.cls, o.data with
      | .type n, .fields vs =>
        if ["enumerate", "zip", "dict_itemiterator", "dict_reverseitemiterator", "odict_iterator", "itertools.zip_longest", "itertools.pairwise"].contains n && vs[0]? == some (rawInt a) then
          rule "for.unpacks-the-owned-tuple"
          updateField I 0 .none
      | _, _ => pure ()) Q E s := fun a => by
    refine wpAny_bind (wpAny_load ho ?_)
    rw [hc]
    cases o.data <;> first | exact wpAny_pure hQ | skip
    dsimp only
    rw [hT, Bool.false_and]
    exact wpAny_pure hQ
  unfold letOwnedTupleGo
  cases tgt <;> first | exact wpAny_pure hQ | (cases v <;> first | exact wpAny_pure hQ | exact key _)
theorem IV.bh {h h' : Heap} {B : Addr → Option Obj} (ht : ∀ a o xs n, h.get? a = some o → o.cls = .type "tuple" → o.data = .seq xs n → B a = some o) (hb : Bh B h') : ∀ {x : IV} {v : Value}, x.of h v → x.of h' v
  | .at _, _, e => e
  | .tup l, v, ⟨a, vs, e, ⟨o, ho, hc, n, hd⟩, r⟩ => ⟨a, vs, e, ⟨o, hb a o (ht a o _ n ho hc hd), hc, n, hd⟩, r⟩
theorem Iter.ofWalks {A : Around} {tgt : PySem.Expr} {B : Addr → Option Obj} {I : Addr} {fp wr : List Addr} {n : Nat} {P : Nat → Value → Prop} {St : Nat → Heap → Prop} (W : Walks prog w A I fp wr n P St) (l : List IV) (hn : n = l.length)
    (hB : ∀ a ∈ fp, a ∉ wr → ∃ o, B a = some o) (hst : ∀ i h, St i h → ∀ a ∈ wr, ∃ o vs, h.get? a = some o ∧ o.data = .fields vs) (hval : ∀ i x v h', l[i]? = some x → P i v → Bh B h' → x.of h' v) (hout : ∀ a ∈ wr, B a = none)
    (hgo : ∀ i (s : Shared) v (Q : Unit → Shared → Prop) (E : Value → Shared → Prop), St i s.heap → Q () s → wpAny (model prog w) A (letOwnedTupleGo tgt (.ref I) v) Q E s) :
    Iter prog w A tgt false B I wr (fun rest h => Bh B h ∧ ∃ i, i ≤ n ∧ rest = l.drop i ∧ St i h) where
  std := fun _ h ⟨_, i, _, _, st⟩ a ha => let ⟨o, _, ho, _⟩ := hst i h st a ha; ⟨o, ho⟩
  nt := fun _ _ h ⟨_, i, _, _, st⟩ a ha => NT.fields (hst i h st a ha)
  frm := fun rest h h' ⟨hb, i, hi, e, st⟩ k1 k2 => ⟨k2, i, hi, e, W.frame i h h' st fun a ha o ho => by
    by_cases q : a ∈ wr
    · exact k1 a q o ho
    · obtain ⟨o', ho'⟩ := hB a ha q
      have := hb a o' ho'
      rw [ho] at this; cases this
      exact k2 a o ho'⟩
  item := fun x rest s Q E ⟨hb, i, hi, e, st⟩ _ hQ => by
    have hlt : i < n := by
      rcases Nat.lt_or_ge i n with h | h
      · exact h
      · rw [List.drop_eq_nil_of_le (by lia)] at e; cases e
    have hx : l[i]? = some x := by
      have := congrArg (fun l => l[0]?) e
      simpa using this.symm
    refine W.item i s _ _ hlt st fun v h' tk hP st' hk => ⟨v, rfl, hgo _ _ v _ _ st' ?_⟩
    have hb' : Bh B h' := fun a o ho => hk a o (fun q => by rw [hout a q] at ho; cases ho) (hb a o ho)
    refine hQ v h' tk (fun a o ha ho => hk a o ha ho) (hval i x v h' hx hP hb') ⟨hb', i + 1, hlt, ?_, st'⟩
    have := congrArg List.tail e
    simpa using this
  done := fun s Q E ⟨hb, i, hi, e, st⟩ _ hQ => by
    have hin : i = n := by
      rcases Nat.lt_or_ge i n with h | h
      · have : (l.drop i).length = 0 := by rw [← e]; rfl
        rw [List.length_drop] at this; lia
      · lia
    subst hin
    exact W.done s Q E st fun h' tk hk => hQ h' tk fun a o ha ho => hk a o ha ho
  self := fun rest s Q E ⟨hb, i, hi, e, st⟩ hQ => W.self i s Q E st hQ
variable {prog : Program} {w : World}

theorem bi_call {F : Fm} {A : Around} {s : Shared} {f : Str} {np pos : PySem.Pos} {es : List PySem.Expr} {v : Value} {Q E : Value → Shared → Prop} (hs : starEach es F.env = plainArgs es F.env) (g : Glob prog w F f v) (hv : ∀ a, v ≠ .ref a) (hb : Bk F.base s)
    (h : wpAny (model prog w) A (spliced (plainArgs es F.env)) (fun vs s₁ => wpAny (model prog w) A (PySem.call v vs) Q E s₁) E s) : wpAny (model prog w) A (eval (.Call (.Name f np) es [] pos) F.env) Q E s := by
  show wpAny (model prog w) A (eval (.Name f np) F.env >>= fun fv => callWith pos fv [] (backTo pos (starEach es F.env)) []) _ _ s
  rw [hs, backTo_plain]
  exact wpAny_bind (g A s np _ _ hb (callWith_val (plainArgs_any _ _) hv h))

section
variable (prog : Program) (w : World)
def SrcL (F : Fm) (ρ : Rho) (k : Nat) (e : PySem.Expr) (l : List IV) : Prop :=
  ∀ b r, F.Le b r → FmOk (F.up b r) → ∀ A s s₀, Room k A → Ext s₀ s → Inv prog w (F.up b r) ρ s₀ → wpAny (model prog w) A (eval e F.env) (fun v s₁ => Ext s s₁ ∧ ∃ L vs, v = .ref L ∧ PlainL s₁.heap L vs.toArray ∧ IVs s₁.heap l vs ∧
    ∀ s₂ X b₂, Ext s₁ s₂ → Frozen prog w (F.up b r) ρ s₀ s₂ X b₂ → L ∉ X → ∃ o, b₂ L = some o) No s
end
section
variable {F : Fm} {ρ : Rho} {k : Nat}
theorem src_fresh {e : PySem.Expr} {l : List IV} {fr : Bool} (h : EvJ prog w F ρ k e (.list l) fr) (hf : fr = true) : SrcL prog w F ρ k e l := fun b r lf ok A s s₀ rm x₀ I =>
  wpAny_mono (h A s rm ((I.ext x₀).down lf)) (fun v s₁ ⟨x, fp, ⟨L, vs, e1, hl, hi, hfp⟩, f⟩ => ⟨x, L, vs, e1, hl, hi, fun s₂ X b₂ x₂ fz hX => by
    obtain ⟨o, _, ho, _⟩ := hl
    refine ⟨o, fz.new L o (x₂.2 _ _ ho) hX ?_⟩
    have := f hf L (by rw [hfp]; exact List.mem_singleton_self L)
    exact x₀.none this⟩) fun _ _ e => e
theorem src_slot {x : Str} {pos : PySem.Pos} {l : List IV} {acc : Option Addr} (i : Nat) (hs : F.slots[i]? = some (x, acc)) (hr : ρ[i]? = some (.list l, false)) (hd : (x == ("__debug__" : Str)) = false := by decide)
    (hn : (x == ("__classdict__" : Str)) = false := by decide) : SrcL prog w F ρ k (.Name x pos) l := fun b r lf ok A s s₀ rm x₀ I => by
  have key : ∀ L vs, PlainL s₀.heap L vs.toArray → IVs s₀.heap l vs → (∀ s₂ X b₂, Ext s₀ s₂ → Frozen prog w (F.up b r) ρ s₀ s₂ X b₂ → L ∉ X → ∃ o, b₂ L = some o) →
      (fun (v : Value) (s₁ : Shared) => Ext s s₁ ∧ ∃ L vs, v = .ref L ∧ PlainL s₁.heap L vs.toArray ∧ IVs s₁.heap l vs ∧ ∀ s₂ X b₂, Ext s₁ s₂ → Frozen prog w (F.up b r) ρ s₀ s₂ X b₂ → L ∉ X → ∃ o, b₂ L = some o) (.ref L) s :=
    fun L vs h1 h2 h3 => ⟨Ext.refl s, L, vs, rfl, h1.keeps x₀.2, h2.keep x₀.2, fun s₂ X b₂ x₂ fz hX => h3 s₂ X b₂ (x₀.trans x₂) fz hX⟩
  obtain ⟨m, hm, fp, a, c⟩ := I.sl
  obtain ⟨ov, h3, h4, _⟩ := a i x acc _ false hs hr
  cases ov with
  | none => exact h4.elim
  | some v =>
    obtain ⟨L, vs, rfl, hl, hi, hfp⟩ := h4
    have fz : ∀ s₂ X b₂, Ext s₀ s₂ → Frozen prog w (F.up b r) ρ s₀ s₂ X b₂ → L ∉ X → ∃ o, b₂ L = some o := fun s₂ X b₂ x₂ fz hX => by
      obtain ⟨ov, fp', h5, h6, h7⟩ := fz.slot i x acc _ hs hr
      have e : ov = some (.ref L) := by
        cases acc with
        | none =>
          obtain ⟨m', hm', e⟩ := h5
          have h3 : some (Value.ref L) = m x := h3
          rw [e, ← ns_uniq hm hm', ← h3]
        | some cc =>
          obtain ⟨o, ho, hd⟩ := h5
          obtain ⟨o', ho', hd'⟩ := (show s₀.heap.IsCell cc (some (.ref L)) from h3)
          rw [ho] at ho'; cases ho'
          rw [hd] at hd'; cases hd'; rfl
      subst e
      obtain ⟨L', vs', e1, _, _, hfp'⟩ := h6
      cases e1
      obtain ⟨o, _, ho, _⟩ := hl
      exact ⟨o, h7 L (by rw [hfp']; exact List.mem_singleton_self L) o (x₂.2 _ _ ho)⟩
    cases acc with
    | none =>
      have h3 : some (Value.ref L) = m x := h3
      exact wpAny_Name (wpAny_loadName_local ok.kind (ok.loc i x hs) (hm.keeps x₀.2) h3.symm (key L vs hl hi fz)) hd
    | some cc =>
      have h3 : s₀.heap.IsCell cc (some (.ref L)) := h3
      obtain ⟨hk, hc, _⟩ := ok.cel i x cc hs
      rcases hk with hk | hk
      · exact wpAny_Name (wpAny_loadName_cell ok.kind hk hc (h3.keeps x₀.2) (key L vs hl hi fz)) hd
      · exact wpAny_Name (wpAny_loadName_free ok.kind hk hc (h3.keeps x₀.2) (key L vs hl hi fz) hn) hd
theorem fresh_size {s s₁ : Shared} (x : Ext s s₁) {a : Addr} (h : s₁.heap.objs.size ≤ a) : s.heap.get? a = none := by
  cases e : s.heap.get? a with
  | none => rfl
  | some o => exact absurd (Heap.lt_size (x.2 _ _ e)) (Nat.not_lt.mpr h)
theorem iter_core {tgt : PySem.Expr} {l : List IV} {b : Addr → Option Obj} {r : Addr → Prop} (ok : FmOk (F.up b r)) {A : Around} {s s₁ : Shared} (rm : Room k A) (I : Inv prog w (F.up b r) ρ s) (x : Ext s s₁) {L : Addr} {vs : List Value} (hl : PlainL s₁.heap L vs.toArray) (hi : IVs s₁.heap l vs) (hb : ∀ s₂ X b₂, Ext s₁ s₂ → Frozen prog w (F.up b r) ρ s s₂ X b₂ → L ∉ X → ∃ o, b₂ L = some o) :
    wpAny (model prog w) A (pyIter (.ref L)) (ItP prog w F ρ false tgt l b r A s) No s₁ := by
  refine wpAny_pyIter_list hl.isList ?_
  have x₂ : Ext s₁ { s₁ with heap := s₁.heap.push { cls := .type "list_iterator", data := .fields #[.ref L, .int 0 0] } } := Ext.push s₁ _ _
  have hI : (s₁.heap.push { cls := .type "list_iterator", data := .fields #[.ref L, .int 0 0] }).get? s₁.heap.objs.size = some { cls := .type "list_iterator", data := .fields #[.ref L, .int 0 0] } := Heap.get?_push_size _ rfl
  have fX : Fresh s [s₁.heap.objs.size] := fun a ha => by rw [List.mem_singleton.mp ha]; exact fresh_size x (Nat.le_refl _)
  have hL : L ≠ s₁.heap.objs.size := by obtain ⟨o, _, ho, _⟩ := hl; exact Nat.ne_of_lt (Heap.lt_size ho)
  obtain ⟨b₂, fz⟩ := Inv.freeze ok I (x.trans x₂) fX fun a ha => by rw [List.mem_singleton.mp ha]; exact ⟨_, hI⟩
  obtain ⟨oL, hoL⟩ := hb _ _ b₂ x₂ fz (by simp [hL])
  have bk : Bh b₂ (s₁.heap.push { cls := .type "list_iterator", data := .fields #[.ref L, .int 0 0] }) := fun a o e => fz.inv.keep a o ((plus_out fun q => by rw [fz.out a q] at e; cases e).trans e)
  refine ⟨x.trans x₂, s₁.heap.objs.size, [s₁.heap.objs.size], b₂, _, rfl, fz.le, fz.out, fz.ok, fz.inv, fX, ⟨bk, 0, Nat.zero_le _, rfl, ⟨⟨_, hI, rfl, rfl⟩, hl.isList.at fun o e => x₂.2 _ _ e⟩⟩,
    Iter.ofWalks (Walks.list rm.handled _ _ hL vs.toArray) l (by rw [List.size_toArray]; exact hi.length) (fun a ha ha' => ?_) (fun i h' st a ha => ?_) (fun i y v h' hy hP hb' => ?_) fz.out fun i s' v Q E st hQ => ?_⟩
  · simp at ha ha'
    rcases ha with rfl | rfl
    · exact absurd rfl ha'
    · exact ⟨oL, hoL⟩
  · rw [List.mem_singleton.mp ha]
    obtain ⟨o, ho, _, hd⟩ := st.1
    exact ⟨o, _, ho, hd⟩
  · obtain ⟨v', h1, h2⟩ := (hi.keep x₂.2).get hy
    have : v' = v := by simp at hP; rw [h1] at hP; exact Option.some.inj hP
    subst this
    refine IV.bh (fun a o xs n ho hc hd => fz.tup a o xs n ho (fun q => ?_) hc hd) hb' h2
    rw [List.mem_singleton.mp q] at ho
    have ho : (s₁.heap.push { cls := .type "list_iterator", data := .fields #[.ref L, .int 0 0] }).get? s₁.heap.objs.size = some o := ho
    rw [hI] at ho; cases ho; cases hd
  · obtain ⟨o, ho, hc, _⟩ := st.1
    exact go_plain ho hc (by decide) hQ
theorem itj_list {e tgt : PySem.Expr} {l : List IV} (h : SrcL prog w F ρ k e l) : ItJ prog w F ρ k false tgt e l := fun b r lf ok A s rm I => by
  refine wpAny_mono (h b r lf ok A s s rm (Ext.refl s) I) (fun v s₁ ⟨x, L, vs, e1, hl, hi, hb⟩ => ?_) fun _ _ e => e
  subst e1
  exact iter_core ok rm I x hl hi hb
end
variable {prog : Program} {w : World}
noncomputable def chars (x : Str) : List IV := x.cps.toList.map fun c => .at (.str ⟨#[c]⟩)
noncomputable def intsFrom (a : Int) (n : Nat) : List IV := (List.range n).map fun (i : Nat) => IV.at (.int (a + (i : Int)))
section
variable {F : Fm} {ρ : Rho} {k : Nat}
theorem itj_new {b : Addr → Option Obj} {r : Addr → Prop} {A : Around} {tgt : PySem.Expr} {s s₁ : Shared} {l : List IV} (ok : FmOk (F.up b r)) (I : Inv prog w (F.up b r) ρ s) (x : Ext s s₁) (ob : Obj) (hf : ob.isFreed = false) (n : Nat) (P : Nat → Value → Prop) (St : Nat → Heap → Prop)
    (W : Walks prog w A s₁.heap.objs.size [s₁.heap.objs.size] [s₁.heap.objs.size] n P St) (hn : n = l.length) (st : St 0 (s₁.heap.push ob)) {T : String} (hst : ∀ i h, St i h → ∃ o vs, h.get? s₁.heap.objs.size = some o ∧ o.data = .fields vs ∧ o.cls = .type T)
    (hT : (["enumerate", "zip", "dict_itemiterator", "dict_reverseitemiterator", "odict_iterator", "itertools.zip_longest", "itertools.pairwise"].contains T) = false) (hv : ∀ i y v (h' : Heap), l[i]? = some y → P i v → y.of h' v) :
    ItP prog w F ρ false tgt l b r A s (.ref s₁.heap.objs.size) { s₁ with heap := s₁.heap.push ob } := by
  have x₂ : Ext s₁ { s₁ with heap := s₁.heap.push ob } := Ext.push s₁ _ _
  have hI : (s₁.heap.push ob).get? s₁.heap.objs.size = some ob := Heap.get?_push_size _ hf
  have fX : Fresh s [s₁.heap.objs.size] := fun a ha => by rw [List.mem_singleton.mp ha]; exact fresh_size x (Nat.le_refl _)
  obtain ⟨b₂, fz⟩ := Inv.freeze ok I (x.trans x₂) fX fun a ha => by rw [List.mem_singleton.mp ha]; exact ⟨_, hI⟩
  have bk : Bh b₂ (s₁.heap.push ob) := fun a o e => fz.inv.keep a o ((plus_out fun q => by rw [fz.out a q] at e; cases e).trans e)
  refine ⟨x.trans x₂, s₁.heap.objs.size, [s₁.heap.objs.size], b₂, _, rfl, fz.le, fz.out, fz.ok, fz.inv, fX, ⟨bk, 0, Nat.zero_le _, rfl, st⟩, Iter.ofWalks W l hn (fun a ha ha' => absurd ha ha') (fun i h' st a ha => ?_) (fun i y v h' hy hP _ => hv i y v h' hy hP) fz.out fun i s' v Q E st hQ => ?_⟩
  · rw [List.mem_singleton.mp ha]
    obtain ⟨o, vs, h1, h2, _⟩ := hst _ _ st
    exact ⟨o, vs, h1, h2⟩
  · obtain ⟨o, vs, h1, _, h3⟩ := hst _ _ st
    exact go_plain h1 h3 hT hQ
theorem chars_val {x : Str} : ∀ i y v (h' : Heap), (chars x)[i]? = some y → SignAt x i v → y.of h' v := fun i y v h' hy ⟨c, u, hc, hv⟩ => by
  simp [chars, hc] at hy
  rw [← hy, hv]; exact ⟨u, rfl⟩
theorem itj_str {e tgt : PySem.Expr} {x : Str} {fr : Bool} (h : EvJ prog w F ρ k e (.str x) fr) : ItJ prog w F ρ k false tgt e (chars x) := fun b r lf ok A s rm I => by
  refine wpAny_mono (h A s rm (I.down lf)) (fun v s₁ ⟨y, fp, ⟨⟨t, e1⟩, _⟩, _⟩ => ?_) fun _ _ e => e
  subst e1
  cases ha : x.cps.all (· < 128)
  · exact wpAny_pyIter_wide ha (itj_new (T := "str_iterator") ok I y _ rfl _ _ _ (Walks.strWide rm.handled _ x t) (by simp [chars]) ⟨_, Heap.get?_push_size _ rfl, rfl, rfl⟩ (fun i h' ⟨o, ho, hc, hd⟩ => ⟨o, _, ho, hd, hc⟩) (by decide) chars_val)
  · exact wpAny_pyIter_ascii ha (itj_new (T := "str_ascii_iterator") ok I y _ rfl _ _ _ (Walks.strAscii rm.handled _ x t) (by simp [chars]) ⟨_, Heap.get?_push_size _ rfl, rfl, rfl⟩ (fun i h' ⟨o, ho, hc, hd⟩ => ⟨o, _, ho, hd, hc⟩) (by decide) chars_val)
theorem itj_range {np pos : PySem.Pos} {tgt a : PySem.Expr} {n : Nat} {fr : Bool} (hs : starEach [a] F.env = plainArgs [a] F.env) (g : Glob prog w F ("range" : Str) (.type "range")) (h : EvJ prog w F ρ k a (.int n) fr) (hn : n < 2 ^ 62) :
    ItJ prog w F ρ k false tgt (.Call (.Name "range" np) [a] [] pos) (intsFrom 0 n) := fun b r lf ok A s rm I => by
  refine bi_call hs g (fun a e => nomatch e) (I.down lf).keep ?_
  refine Calls.spliced_cons (wpAny_mono (h A s rm (I.down lf)) (fun v s₁ ⟨y, fp, ⟨⟨t, e1⟩, _⟩, _⟩ => Calls.spliced_nil ?_) fun _ _ e => e)
  subst e1
  refine call_range_1 ?_
  have y2 : Ext s₁ { s₁ with heap := s₁.heap.push { cls := .type "range", data := .fields #[.int 0 s₁.toks, .int n t, .int 1 (s₁.toks + 1)] }, toks := s₁.toks + 1 + 1 } := Ext.push s₁ _ _
  refine wpAny_pyIter_range (IsRange.new _ _ _ _ _ _ _) (small_one (by lia) (by lia) (by lia) (by lia)) ?_
  rw [rangeSize_one]
  have hz : (if (0 : Int) < (n : Int) then (n : Int) - 0 else 0) = (n : Int) := by split <;> lia
  rw [hz]
  refine itj_new (T := "range_iterator") ok I (y.trans y2) _ rfl n _ _ (Walks.range rm.handled _ 0 1 n) (by simp [intsFrom]) (by have := Heap.get?_push_size ({ s₁ with heap := s₁.heap.push { cls := .type "range", data := .fields #[.int 0 s₁.toks, .int n t, .int 1 (s₁.toks + 1)] }, toks := s₁.toks + 1 + 1 } : Shared).heap (o := { cls := .type "range_iterator", data := .fields #[rawInt 0, rawInt (n : Int), rawInt 1] }) rfl; simpa using this) (fun i h' st => ⟨_, _, st, rfl, rfl⟩) (by decide) fun i yy v h' hy ⟨t', hv⟩ => ?_
  by_cases hi : i < n
  · simp [intsFrom, hi] at hy
    rw [← hy, hv]
    exact ⟨t', by simp⟩
  · rw [List.getElem?_eq_none (by simp [intsFrom]; lia)] at hy; cases hy
end
variable {prog : Program} {w : World}

theorem compTurn_any (elt target iter : PySem.Expr) (ifs : List PySem.Expr) (gens : List Comprehension) (scope : Scope) (pos : PySem.Pos) (d : Nat) (it acc : Value) (env : Env) (hg : gens[d]? = some ⟨target, iter, ifs, 0⟩) :
    compTurn (.ListComp elt gens scope pos) d it acc env = (do
      standAt iter.pos
      match ← pyNext it with
      | none => pure (.done .next)
      | some v =>
        letOwnedTupleGo target it v
        assign target env v
        let ok ← (forIn ifs true fun c r => if r = true then do let ok ← isTrue c env (eval c env); pure (ForInStep.yield ok) else pure (ForInStep.yield r))
        if ok then
          match gens[d + 1]? with
          | some g' =>
            let x ← eval g'.iter env
            standAt g'.iter.pos
            let x ← if g'.is_async != 0 then foldedIterable g'.iter x else foldedSetIterable g'.iter env x
            let _ ← runOwn (.compStart (.ListComp elt gens scope pos) (d + 1) (← holding [x] (if g'.is_async != 0 then asyncIter x else pyIter x)) acc env) env
          | none => (do let x ← eval elt env; let _ ← call (.builtin "list.append") [acc, x]; pure () : Sem Unit)
        again (.compLoop (.ListComp elt gens scope pos) d it acc env)) := by
  unfold compTurn
  simp only [hg]
  rfl
section
variable {A : Around} {R : Result → Shared → Prop} {s : Shared}
theorem codeAny_compLoop_any {elt target iter : PySem.Expr} {ifs : List PySem.Expr} {gens : List Comprehension} {scope : Scope} {pos : PySem.Pos} {d : Nat} {it acc : Value} {env : Env} (hg : gens[d]? = some ⟨target, iter, ifs, 0⟩) (I : Nat → Shared → Prop)
    (turn : ∀ n s, I n s → wpAny (model prog w) A (pyNext it) (fun r s₁ => match r with
      | none => R (.ok .next) s₁
      | some v => wpAny (model prog w) A (letOwnedTupleGo target it v) (fun _ s₁' => wpAny (model prog w) A (assign target env v) (fun _ s₂ =>
          wpAny (model prog w) A (forIn ifs true fun c r => if r = true then do let ok ← isTrue c env (eval c env); pure (ForInStep.yield ok) else pure (ForInStep.yield r)) (fun ok s₃ =>
            if ok = true then (match gens[d + 1]? with
              | some g' => g'.is_async = 0 ∧ (∀ x, foldedSetIterable g'.iter env x = pure x) ∧ wpAny (model prog w) A (eval g'.iter env) (fun x s₄ => wpAny (model prog w) A (pyIter x) (fun it' s₅ =>
                  codeAny (model prog w) A (.compStart (.ListComp elt gens scope pos) (d + 1) it' acc env) (fun r s₆ => r = .ok .next ∧ ∃ m, m < n ∧ I m s₆) s₅) No s₄) No s₃
              | none => wpAny (model prog w) A (eval elt env) (fun x s₄ => wpAny (model prog w) A (call (.builtin "list.append") [acc, x]) (fun _ s₅ => ∃ m, m < n ∧ I m s₅) No s₄) No s₃)
            else ∃ m, m < n ∧ I m s₃) No s₂) No s₁') No s₁) No s)
    (n : Nat) (h : I n s) : codeAny (model prog w) A (.compLoop (.ListComp elt gens scope pos) d it acc env) R s := by
  refine codeAny_loop rfl I (fun n s hI => ?_) n h
  show wpAny _ A ((compTurn (.ListComp elt gens scope pos) d it acc env).onRaise (fun x => do noteFrame x env; theTreesLotGoes x)) _ _ s
  refine wpAny_noted ?_
  rw [compTurn_any _ _ _ _ _ _ _ _ _ _ _ hg]
  refine wpAny_bind (wpAny_standAt (wpAny_bind (wpAny_mono (turn n s hI) (fun r s₁ h₁ => ?_) fun _ _ h' => h'.elim)))
  cases r with
  | none => exact wpAny_pure h₁
  | some v =>
    refine wpAny_bind (wpAny_mono h₁ (fun _ s₁' h₁' => ?_) fun _ _ h' => h'.elim)
    refine wpAny_bind (wpAny_mono h₁' (fun _ s₂ h₂ => wpAny_bind (wpAny_mono h₂ (fun ok s₃ h₃ => ?_) fun _ _ h' => h'.elim)) fun _ _ h' => h'.elim)
    cases ok with
    | false => exact wpAny_pure ⟨rfl, h₃⟩
    | true =>
      rw [if_pos rfl] at h₃
      rw [if_pos rfl]
      cases hn : gens[d + 1]? with
      | none =>
        rw [hn] at h₃
        exact wpAny_bind (wpAny_bind (wpAny_mono h₃ (fun x s₄ h₄ => wpAny_bind (wpAny_mono h₄ (fun _ s₅ h₅ => wpAny_pure (wpAny_pure ⟨rfl, h₅⟩)) fun _ _ h' => h'.elim)) fun _ _ h' => h'.elim))
      | some g' =>
        rw [hn] at h₃
        obtain ⟨ha, hf, h₃⟩ := h₃
        obtain ⟨t', i', f', a'⟩ := g'
        cases ha
        refine wpAny_bind (wpAny_mono h₃ (fun x s₄ h₄ => wpAny_bind (wpAny_standAt ?_)) fun _ _ h' => h'.elim)
        dsimp only at hf h₄ ⊢
        rw [if_neg (by decide)]
        refine wpAny_bind (wpAny_of_eq (a := x) (hf x) ?_)
        rw [if_neg (by decide)]
        refine wpAny_bind (wpAny_holding (wpAny_mono h₄ (fun it' s₅ h₅ => ?_) fun _ _ h' => h'.elim))
        refine wpAny_bind (wpAny_runOwn (codeAny_mono h₅ fun r s₆ hr => ?_))
        obtain ⟨rfl, h₆⟩ := hr
        exact wpAny_pure ⟨rfl, h₆⟩
theorem codeAny_compStart_any {elt target iter : PySem.Expr} {ifs : List PySem.Expr} {gens : List Comprehension} {scope : Scope} {pos : PySem.Pos} {d : Nat} {it acc : Value} {env : Env} (hg : gens[d]? = some ⟨target, iter, ifs, 0⟩)
    (h0 : codeAny (model prog w) A (.compLoop (.ListComp elt gens scope pos) d it acc env) R s)
    (h : wpAny (model prog w) A (pyIter it) (fun it' s' => it' = it ∧ s' = s) No s) :
    codeAny (model prog w) A (.compStart (.ListComp elt gens scope pos) d it acc env) R s := by
  refine codeAny_of_tree ?_
  show wpAny _ _ ((compStart (.ListComp elt gens scope pos) d it acc env).onRaise (fun x => do noteFrame x env; standAt theWindowsPlace)) _ _ s
  refine wpAny_notedAt ?_
  have hc : (clausesOf (.ListComp elt gens scope pos))[d]? = some ⟨target, iter, ifs, 0⟩ := hg
  unfold compStart
  rw [hc]
  show wpAny _ _ (ask >>= _) _ _ s
  refine wpAny_bind (wpAny_askSetting (wpAny_ite ?_))
  have h2 : wpAny (model prog w) A (pyIter it) (fun it' s' => codeAny (model prog w) A (.compLoop (.ListComp elt gens scope pos) d it' acc env) R s') (notedBy (model prog w) A env fun x s' => R (.error x) s') s :=
    wpAny_mono h (fun it' s' ⟨e1, e2⟩ => by subst e1 e2; exact h0) fun _ _ e => e.elim
  split
  · first
      | exact wpAny_bind (wpAny_pure (wpAny_pure (And.intro rfl h0)))
      | exact wpAny_pure (And.intro rfl h0)
  · first
      | exact wpAny_bind (wpAny_rule (wpAny_bind (wpAny_standAt (wpAny_bind (wpAny_mono h2 (fun it' s' h' => wpAny_pure (And.intro rfl h')) fun _ _ x => x)))))
      | (refine wpAny_bind (wpAny_rule ?_); show wpAny _ _ (standAt iter.pos >>= _) _ _ s; exact wpAny_bind (wpAny_standAt (wpAny_bind (wpAny_mono h2 (fun it' s' h' => wpAny_pure (And.intro rfl h')) fun _ _ x => x))))
end
variable {prog : Program} {w : World}

theorem wp_append {A : Around} {s : Shared} {l : Addr} {items : Array Value} {x : Value} {Q E : Value → Shared → Prop} (hl : PlainL s.heap l items) (hsz : items.size ≤ sizeLine)
    (hQ : ∀ h', PlainL h' l (items.push x) → Heap.SameBut l s.heap h' → Q .none { s with heap := h' }) : wpAny (model prog w) A (PySem.call (.builtin "list.append") [.ref l, x]) Q E s := by
  obtain ⟨o, n, ho, hc, hdict, hd⟩ := id hl
  obtain ⟨n', hd'⟩ := Obj.data_mapSeq hd (·.push x)
  refine wpAny_call_entry slot_list_append hl.isList.typeIs entry_list_append ?_ (args_list_append _ _)
  show wpAny _ _ (updateSeq l (·.push x) >>= fun _ => ret .none) _ _ s
  refine wpAny_bind ?_
  refine wpAny_updateSeq ho hd (wpAny_pure ⟨.none, rfl, hQ _ ?_ (Heap.SameBut.update ..)⟩)
  refine ⟨_, n', Heap.get?_update_self _ ho (Obj.isFreed_of_seq hd'), (Obj.cls_mapSeq ..).trans hc, ?_, hd'⟩
  obtain ⟨c, d, dt, sl⟩ := o
  cases dt <;> exact hdict

theorem Inv.accChg {G : Fm} {ρ : Rho} {s : Shared} {D : Addr} {h' : Heap} (ok : FmOk G) (hD : G.acc D) (I : Inv prog w G ρ s) (hs : Heap.SameBut D s.heap h') (hn : ∃ o, h'.get? D = some o) (nt : NT h' D) (ha : ∀ d, G.acc d → d = D) : Inv prog w G ρ { s with heap := h' } := by
  obtain ⟨k, g, o, ln, rs, ac, m, hm, fp, a, c⟩ := I
  obtain ⟨d1, d2, d3, d4⟩ := ok.acc D hD
  have ch : Chg [D] s.heap h' := Chg.of_sameBut hs
  have ntD : ∀ a ∈ [D], NT s.heap a := fun a ha => by rw [List.mem_singleton.mp ha]; exact (ac D hD).2
  refine ⟨fun z o e => (hs.2 z fun q => by rw [q, d1] at e; cases e).trans (k z o e), g, o, ln, fun z hz => ?_, fun d hd => by rw [ha d hd]; exact ⟨hn, nt⟩, m, hm.sameBut hs (Ne.symm d3), fp, fun i y acc p own h1 h2 => ?_, c⟩
  · obtain ⟨o, ho⟩ := rs z hz
    exact ⟨o, (hs.2 z fun q => d2 (q ▸ hz)).trans ho⟩
  · obtain ⟨ov, h5, h6, h7⟩ := a i y acc p own h1 h2
    refine ⟨ov, ?_, h6.chg ch (.inl ntD) fun z hz q => (h7 z hz).1.2 (.inr (by rw [List.mem_singleton.mp q]; exact hD)), h7⟩
    cases acc with
    | none => exact h5
    | some cc => exact h5.sameBut hs fun q => d4 i y (by rw [h1, ← q])

def TestsJ (prog : Program) (w : World) (Fc : Fm) (ρ : Rho) (k : Nat) (ifs : List PySem.Expr) (b : Bool) : Prop := (ifs = [] ∧ b = true) ∨ ∃ c, ifs = [c] ∧ EvB prog w Fc ρ k c b
def CB (prog : Program) (w : World) (Fc : Fm) (k : Nat) (elt : PySem.Expr) : List Comprehension → Rho → List IV → Prop
  | [], ρ, out => ∃ y fr, out = [y] ∧ EvJ prog w Fc ρ k elt (.iv y) fr
  | g :: gs, ρ, out => ∃ l f, g.is_async = 0 ∧ (∀ x, foldedSetIterable g.iter Fc.env x = pure x) ∧ ItJ prog w Fc ρ k false g.target g.iter l ∧ out = l.flatMap f ∧
      ∀ x ∈ l, ∃ ρ₁ b, AsgJ prog w Fc k g.target x ρ ρ₁ ∧ TestsJ prog w Fc ρ₁ k g.ifs b ∧ (if b then CB prog w Fc k elt gs ρ₁ (f x) else f x = []) ∧ Weaker ρ₁ ρ
def DL (D : Addr) (s : Shared) (done : List IV) : Prop := ∃ vs, PlainL s.heap D vs.toArray ∧ IVs s.heap done vs
theorem DL.ext {D : Addr} {s s' : Shared} {l : List IV} (x : Ext s s') (h : DL D s l) : DL D s' l := let ⟨vs, a, b⟩ := h; ⟨vs, a.keeps x.2, b.keep x.2⟩
theorem DL.chg {D : Addr} {s s' : Shared} {l : List IV} {X : List Addr} (c : Chg X s.heap s'.heap) (nt : ∀ a ∈ X, NT s.heap a) (hD : D ∉ X) (h : DL D s l) : DL D s' l := let ⟨vs, a, b⟩ := h; ⟨vs, isList_chg c hD a, b.chg c (.inl nt)⟩
def InnerWp (prog : Program) (w : World) (A : Around) (elt : PySem.Expr) (gens : List Comprehension) (scope : Scope) (pos : PySem.Pos) (d : Nat) (D : Addr) (env : Env) (Q : Shared → Prop) (s : Shared) : Prop :=
  match gens[d + 1]? with
  | some g' => g'.is_async = 0 ∧ (∀ x, foldedSetIterable g'.iter env x = pure x) ∧ wpAny (model prog w) A (eval g'.iter env) (fun x s₄ => wpAny (model prog w) A (pyIter x) (fun it' s₅ =>
      codeAny (model prog w) A (.compStart (.ListComp elt gens scope pos) (d + 1) it' (.ref D) env) (fun r s₆ => r = .ok .next ∧ Q s₆) s₅) No s₄) No s
  | none => wpAny (model prog w) A (eval elt env) (fun x s₄ => wpAny (model prog w) A (PySem.call (.builtin "list.append") [.ref D, x]) (fun _ s₅ => Q s₅) No s₄) No s
theorem comp_turns {Fc : Fm} {k : Nat} {elt : PySem.Expr} {gens : List Comprehension} {scope : Scope} {pos : PySem.Pos} {D : Addr} (hD : Fc.acc D) {gs : List Comprehension} {d : Nat} {target iter : PySem.Expr} {ifs : List PySem.Expr} {ρ : Rho} {l : List IV} {f : IV → List IV} (hg : gens[d]? = some ⟨target, iter, ifs, 0⟩)
    (hturn : ∀ x ∈ l, ∃ ρ₁ b, AsgJ prog w Fc k target x ρ ρ₁ ∧ TestsJ prog w Fc ρ₁ k ifs b ∧ (if b then CB prog w Fc k elt gs ρ₁ (f x) else f x = []) ∧ Weaker ρ₁ ρ) {A : Around} (rm : Room k A) {b : Addr → Option Obj} {r : Addr → Prop} (l₀ : Fc.Le b r) {I : Addr} {X : List Addr} {b₂ : Addr → Option Obj} {St : List IV → Heap → Prop} (l₂ : (Fc.up b r).Le b₂ r)
    (bX : ∀ a ∈ X, b₂ a = none) (hXr : ∀ a ∈ X, ¬ r a) (ok : ∀ h, FmOk (Fc.up (plus b₂ X h) (rX r X))) (W : Iter prog w A target false b₂ I X St)
    (hinner : ∀ x ρ₁, CB prog w Fc k elt gs ρ₁ (f x) → ∀ b' r', Fc.Le b' r' → FmOk (Fc.up b' r') → ∀ s done, Inv prog w (Fc.up b' r') ρ₁ s → DL D s done → (done ++ f x).length ≤ sizeLine → ∀ (Q : Shared → Prop), (∀ s', Inv prog w (Fc.up b' r') ρ₁ s' → DL D s' (done ++ f x) → Q s') →
      InnerWp prog w A elt gens scope pos d D Fc.env Q s)
    (s : Shared) (done : List IV) (hI : Inv prog w (Fc.up (plus b₂ X s.heap) (rX r X)) ρ s) (hst : St l s.heap) (hdl : DL D s done) (hsz : (done ++ l.flatMap f).length ≤ sizeLine) :
    codeAny (model prog w) A (.compLoop (.ListComp elt gens scope pos) d (.ref I) (.ref D) Fc.env) (fun res s' => res = .ok .next ∧ Inv prog w (Fc.up b r) ρ s' ∧ DL D s' (done ++ l.flatMap f)) s := by
  have le : ∀ h : Heap, (Fc.up b r).Le (plus b₂ X h) (rX r X) := fun h => ⟨fun a o e => by
    have e2 := l₂.base a o e
    exact (plus_out fun q => by rw [bX a q] at e2; cases e2).trans e2, fun a q => .inl q⟩
  have bk : ∀ (s' : Shared) ρ', Inv prog w (Fc.up (plus b₂ X s'.heap) (rX r X)) ρ' s' → Bk b₂ s' := fun s' ρ' I' a o e => I'.keep a o ((plus_out fun q => by rw [bX a q] at e; cases e).trans e)
  have hDX : D ∉ X := fun q => ((ok s.heap).acc D hD).2.1 (.inr q)
  refine codeAny_compLoop_any hg (fun n s' => ∃ pre rest done', n = rest.length ∧ l = pre ++ rest ∧ done' ++ rest.flatMap f = done ++ l.flatMap f ∧ Inv prog w (Fc.up (plus b₂ X s'.heap) (rX r X)) ρ s' ∧ St rest s'.heap ∧ DL D s' done') ?_ l.length
    ⟨[], l, done, rfl, rfl, rfl, hI, hst, hdl⟩
  rintro n s' ⟨pre, rest, done', rfl, hl, hdone, I', st', dl'⟩
  have nt := W.nt rfl _ _ st'
  cases rest with
  | nil =>
    refine W.done s' _ _ st' (bk s' ρ I') fun h' tk ch => ?_
    refine ⟨rfl, Inv.drop (ok _) I' tk (fun a ha => .inr ha) ch (.inl nt) (le s'.heap).base (fun a ha => ?_) (fun a q => .inl q) hXr, ?_⟩
    · cases e : b a with
      | none => rfl
      | some o => have := l₂.base a o e; rw [bX a ha] at this; cases this
    · have : done' = done ++ l.flatMap f := by simpa using hdone
      rw [← this]
      exact DL.chg (s' := { s' with heap := h', toks := tk }) ch nt hDX dl'
  | cons x rest =>
    have hxl : x ∈ l := by rw [hl]; simp
    obtain ⟨ρ₁, c, ha, ht, hc, hw⟩ := hturn x hxl
    refine wpAny_mono (W.item x rest s' (fun v s₂ => wpAny (model prog w) A (assign target Fc.env v) (fun _ s₃ =>
      wpAny (model prog w) A (forIn ifs true fun c r => if r = true then do let ok ← isTrue c Fc.env (eval c Fc.env); pure (ForInStep.yield ok) else pure (ForInStep.yield r)) (fun ok s₄ =>
        if ok = true then InnerWp prog w A elt gens scope pos d D Fc.env (fun s' => ∃ m, m < rest.length + 1 ∧ ∃ pre rest done', m = rest.length ∧ l = pre ++ rest ∧ done' ++ rest.flatMap f = done ++ l.flatMap f ∧ Inv prog w (Fc.up (plus b₂ X s'.heap) (rX r X)) ρ s' ∧ St rest s'.heap ∧ DL D s' done') s₄
        else ∃ m, m < rest.length + 1 ∧ ∃ pre rest done', m = rest.length ∧ l = pre ++ rest ∧ done' ++ rest.flatMap f = done ++ l.flatMap f ∧ Inv prog w (Fc.up (plus b₂ X s₄.heap) (rX r X)) ρ s₄ ∧ St rest s₄.heap ∧ DL D s₄ done') No s₃) No s₂) No st' (bk s' ρ I') fun v h' tk ch hx st₁ => ?_) (fun r' s₃ h => ?_) fun _ _ e => e.elim
    · have I₁ := I'.replus (ok _) tk ch (.inl nt) (W.std _ _ st₁)
      have X₁ : ∀ a ∈ X, ∃ o, h'.get? a = some o := W.std _ _ st₁
      have l₁ : Fc.Le (plus b₂ X h') (rX r X) := l₀.trans (le h')
      have dl₁ : DL D { s' with heap := h', toks := tk } done' := DL.chg (s' := { s' with heap := h', toks := tk }) ch nt hDX dl'
      refine wpAny_mono (ha _ _ l₁ (ok _) A _ v rm hx I₁) (fun _ s₃ ⟨I₃, Y, hY1, hY2⟩ => ?_) fun _ _ e => e
      have I₃ : Inv prog w (Fc.up (plus b₂ X h') (rX r X)) ρ₁ s₃ := I₃
      have dl₃ : DL D s₃ done' := DL.chg hY1 (fun a ha => (hY2 a ha).1) (fun q => (hY2 D q).2 (.inr hD)) dl₁
      have fin : ∀ (s₄ : Shared) (ρ' : Rho) (dn : List IV), Inv prog w (Fc.up (plus b₂ X h') (rX r X)) ρ' s₄ → Weaker ρ' ρ → DL D s₄ dn → dn = done' ++ f x →
          ∃ m, m < rest.length + 1 ∧ ∃ pre rest done', m = rest.length ∧ l = pre ++ rest ∧ done' ++ rest.flatMap f = done ++ l.flatMap f ∧ Inv prog w (Fc.up (plus b₂ X s₄.heap) (rX r X)) ρ s₄ ∧ St rest s₄.heap ∧ DL D s₄ done' := fun s₄ ρ' dn I₄ hw dl₄ e => by
        have es : plus b₂ X h' = plus b₂ X s₄.heap := plus_same (s := { s' with heap := h', toks := tk }) I₄ X₁
        have I₅ : Inv prog w (Fc.up (plus b₂ X s₄.heap) (rX r X)) ρ' s₄ := es ▸ I₄
        refine ⟨rest.length, Nat.lt_succ_self _, pre ++ [x], rest, dn, rfl, by rw [hl]; simp, ?_, I₅.weak hw, W.frm _ _ _ st₁ (fun a ha o ho => I₄.keep a o ((plus_in ha).trans ho)) (bk s₄ ρ' I₅), dl₄⟩
        rw [e, ← hdone]; simp
      have tst : wpAny (model prog w) A (forIn ifs true fun c r => if r = true then do let ok ← isTrue c Fc.env (eval c Fc.env); pure (ForInStep.yield ok) else pure (ForInStep.yield r)) (fun ok s₄ => ok = c ∧ Ext s₃ s₄) No s₃ := by
        rcases ht with ⟨rfl, rfl⟩ | ⟨t, rfl, ht⟩
        · exact wpAny_tests_nil ⟨rfl, Ext.refl _⟩
        · exact wpAny_tests_one (ht A s₃ rm (I₃.down l₁))
      refine wpAny_mono tst (fun o s₄ ⟨e, x₄⟩ => ?_) fun _ _ e => e
      subst e
      have I₄ := I₃.ext x₄
      have dl₄ := dl₃.ext x₄
      cases o with
      | false => exact fin s₄ ρ₁ done' I₄ hw dl₄ (by rw [show f x = [] from hc]; simp)
      | true =>
        refine hinner x ρ₁ hc _ _ l₁ (ok _) s₄ done' I₄ dl₄ ?_ _ fun s₅ I₅ dl₅ => fin s₅ ρ₁ _ I₅ hw dl₅ rfl
        refine Nat.le_trans ?_ hsz
        rw [← hdone]; simp
    · obtain ⟨v, rfl, h⟩ := h
      refine wpAny_mono h (fun _ s₃ h => ?_) fun _ _ e => e.elim
      refine wpAny_mono h (fun _ s₃ h => ?_) fun _ _ e => e.elim
      exact wpAny_mono h (fun o s₃ h => h) fun _ _ e => e.elim
theorem comp_loop {Fc : Fm} {k : Nat} {elt : PySem.Expr} {gens : List Comprehension} {scope : Scope} {pos : PySem.Pos} {D : Addr} (hD : Fc.acc D) (haD : ∀ d, Fc.acc d → d = D) : ∀ (gs : List Comprehension) (d : Nat) (g : Comprehension) (ρ : Rho) (l : List IV) (f : IV → List IV), gens.drop d = g :: gs → g.is_async = 0 →
    (∀ x ∈ l, ∃ ρ₁ b, AsgJ prog w Fc k g.target x ρ ρ₁ ∧ TestsJ prog w Fc ρ₁ k g.ifs b ∧ (if b then CB prog w Fc k elt gs ρ₁ (f x) else f x = []) ∧ Weaker ρ₁ ρ) → ∀ (A : Around), Room k A → ∀ (b : Addr → Option Obj) (r : Addr → Prop), Fc.Le b r → ∀ (I : Addr) (X : List Addr) (b₂ : Addr → Option Obj) (St : List IV → Heap → Prop), (Fc.up b r).Le b₂ r →
    (∀ a ∈ X, b₂ a = none) → (∀ a ∈ X, ¬ r a) → (∀ h, FmOk (Fc.up (plus b₂ X h) (rX r X))) → Iter prog w A g.target false b₂ I X St → ∀ (s : Shared) (done : List IV), Inv prog w (Fc.up (plus b₂ X s.heap) (rX r X)) ρ s → St l s.heap → DL D s done → (done ++ l.flatMap f).length ≤ sizeLine →
    codeAny (model prog w) A (.compLoop (.ListComp elt gens scope pos) d (.ref I) (.ref D) Fc.env) (fun res s' => res = .ok .next ∧ Inv prog w (Fc.up b r) ρ s' ∧ DL D s' (done ++ l.flatMap f)) s := by
  have hget : ∀ (d : Nat) (g : Comprehension) (gs : List Comprehension), gens.drop d = g :: gs → gens[d]? = some g ∧ gens.drop (d + 1) = gs := fun d g gs h => by
    constructor
    · have := congrArg (fun l => l[0]?) h; simpa using this
    · have := congrArg List.tail h; simpa using this
  intro gs
  induction gs with
  | nil =>
    intro d g ρ l f hdrop ha hturn A rm b r l₀ I X b₂ St l₂ bX hXr ok W s done hI hst hdl hsz
    obtain ⟨hg, hnext⟩ := hget d g [] hdrop
    obtain ⟨target, iter, ifs, asy⟩ := g
    cases ha
    refine comp_turns hD hg hturn rm l₀ l₂ bX hXr ok W (fun x ρ₁ hc b' r' l' ok' s done I' dl hlen Q hQ => ?_) s done hI hst hdl hsz
    obtain ⟨y, fr, e, hy⟩ := hc
    have hn : gens[d + 1]? = none := by
      have : (gens.drop (d + 1))[0]? = none := by rw [hnext]; rfl
      simpa using this
    unfold InnerWp
    rw [hn]
    refine wpAny_mono (hy A s rm (I'.down l')) (fun v s₁ ⟨x₁, fp, r₁, _⟩ => ?_) fun _ _ e => e
    obtain ⟨vs, hl, hvs⟩ := dl.ext x₁
    refine wp_append hl (by rw [List.size_toArray, hvs.length]; rw [e] at hlen; simp at hlen; lia) fun h' hl' hs' => hQ _ ?_ ?_
    · exact (I'.ext x₁).accChg ok' hD hs' (let ⟨o, _, ho, _⟩ := hl'; ⟨o, ho⟩) (NT.list hl') haD
    · refine ⟨vs ++ [v], by rw [← List.push_toArray]; exact hl', ?_⟩
      rw [e]
      have ch : Chg [D] s₁.heap h' := Chg.of_sameBut hs'
      have nt : ∀ a ∈ [D], NT s₁.heap a := fun a ha => by rw [List.mem_singleton.mp ha]; exact NT.list hl
      exact IVs.append (hvs.chg ch (.inl nt)) ⟨IV.chg ch (.inl nt) r₁.1, trivial⟩
  | cons g' gs ih =>
    intro d g ρ l f hdrop ha hturn A rm b r l₀ I X b₂ St l₂ bX hXr ok W s done hI hst hdl hsz
    obtain ⟨hg, hnext⟩ := hget d g (g' :: gs) hdrop
    obtain ⟨target, iter, ifs, asy⟩ := g
    cases ha
    refine comp_turns hD hg hturn rm l₀ l₂ bX hXr ok W (fun x ρ₁ hc b' r' l' ok' s done I' dl hlen Q hQ => ?_) s done hI hst hdl hsz
    obtain ⟨l₁, f₁, a1, a2, a3, a4, a5⟩ := hc
    obtain ⟨hg', _⟩ := hget (d + 1) g' gs hnext
    unfold InnerWp
    rw [hg']
    refine ⟨a1, a2, wpAny_mono (a3 b' r' l' ok' A s rm I') (fun v s₁ h₁ => wpAny_mono h₁ (fun it s₂ h₂ => ?_) fun _ _ e => e) fun _ _ e => e⟩
    obtain ⟨x₂, I₂, X₂, b₃, St₂, rfl, l₃, bX₂, ok₂, i₂, fX, st₂, W₂⟩ := h₂
    obtain ⟨target', iter', ifs', asy'⟩ := g'
    cases a1
    refine codeAny_compStart_any hg' ?_ (W₂.self _ _ _ _ st₂ ⟨rfl, rfl⟩)
    refine codeAny_mono (ih (d + 1) _ ρ₁ l₁ f₁ hnext rfl a5 A rm b' r' l' I₂ X₂ b₃ St₂ l₃ bX₂ (fun a ha q => by obtain ⟨o, ho⟩ := I'.res a q; rw [fX a ha] at ho; cases ho) (fun h => ok₂.replus) W₂ s₂ done i₂ st₂ (dl.ext x₂) (by rw [← a4]; exact hlen)) fun res s' ⟨e, i', dl'⟩ => ⟨e, hQ s' i' (by rw [a4]; exact dl')⟩
variable {prog : Program} {w : World}

inductive CSlot where
  | loc | own | cap (i : Nat)
noncomputable def CSlot.acc (F : Fm) (cs : List (Str × Addr)) (x : Str) : CSlot → Option Addr
  | .loc => none
  | .own => cs.lookup x
  | .cap i => (F.slots[i]?).bind (·.2)
noncomputable def CSlot.pv (ρ : Rho) : CSlot → PV × Bool
  | .cap i => (((ρ[i]?).map (·.1)).getD .any, false)
  | _ => (.any, false)
noncomputable abbrev compCells (scope : Scope) (cl : List (Str × Addr)) (C : Addr) : List (Str × Addr) := cellsFrom (C + 1) scope.names cl
noncomputable def compFm (F : Fm) (scope : Scope) (cl : List (Str × Addr)) (sp : List (Str × CSlot)) (C D : Addr) (base : Addr → Option Obj) : Fm where
  env := compEnvC scope (compCells scope cl C) C F.env
  slots := sp.map fun p => (p.1, p.2.acc F (compCells scope cl C) p.1)
  base := base
  os := F.os
  res := fun _ => False
  mine := fun a => ∃ x, (x, CSlot.own) ∈ sp ∧ (compCells scope cl C).lookup x = some a
  acc := fun a => a = D
noncomputable def compRho (ρ : Rho) (sp : List (Str × CSlot)) : Rho := sp.map fun p => p.2.pv ρ
def SpOk (F : Fm) (scope : Scope) (cl : List (Str × Addr)) : List (Str × CSlot) → Prop
  | [] => True
  | (x, .loc) :: r => scope.names.lookup x = some .local ∧ SpOk F scope cl r
  | (x, .own) :: r => scope.names.lookup x = some .cell ∧ SpOk F scope cl r
  | (x, .cap i) :: r => (scope.names.lookup x = some .free ∧ (scope.names.any fun p => p.1 == x && p.2 == .cell) = false ∧ ∃ c, F.slots[i]? = some (x, some c) ∧ cl.lookup x = some c) ∧ SpOk F scope cl r
theorem SpOk.at {F : Fm} {scope : Scope} {cl : List (Str × Addr)} : ∀ {sp : List (Str × CSlot)}, SpOk F scope cl sp → ∀ p ∈ sp, SpOk F scope cl [p]
  | (x, .loc) :: r, h, p, hp => by
    rcases List.mem_cons.mp hp with rfl | hp
    · exact ⟨h.1, trivial⟩
    · exact SpOk.at h.2 p hp
  | (x, .own) :: r, h, p, hp => by
    rcases List.mem_cons.mp hp with rfl | hp
    · exact ⟨h.1, trivial⟩
    · exact SpOk.at h.2 p hp
  | (x, .cap i) :: r, h, p, hp => by
    rcases List.mem_cons.mp hp with rfl | hp
    · exact ⟨h.1, trivial⟩
    · exact SpOk.at h.2 p hp
theorem cellsFrom_app : ∀ (names : List (Str × NameKind)) (n : Nat) (acc : List (Str × Addr)), cellsFrom n names acc = cellsFrom n names [] ++ acc
  | [], _, _ => rfl
  | (x, kd) :: r, n, acc => by
    unfold cellsFrom
    split
    · rw [cellsFrom_app r (n + 1) ((x, n) :: acc), cellsFrom_app r (n + 1) [(x, n)]]; simp
    · exact cellsFrom_app r n acc
theorem cellsFrom_mem : ∀ (names : List (Str × NameKind)) (n : Nat) (x : Str) (c : Addr), (x, c) ∈ cellsFrom n names [] → (x, NameKind.cell) ∈ names
  | [], _, _, _, h => by cases h
  | (y, kd) :: r, n, x, c, h => by
    unfold cellsFrom at h
    split at h
    · rename_i hk
      rw [cellsFrom_app] at h
      rcases List.mem_append.mp h with h | h
      · exact List.mem_cons_of_mem _ (cellsFrom_mem r _ x c h)
      · simp at h
        rw [h.1, show kd = .cell from by simpa using hk]; exact List.mem_cons_self ..
    · exact List.mem_cons_of_mem _ (cellsFrom_mem r _ x c h)
theorem cellsFrom_has : ∀ (names : List (Str × NameKind)) (n : Nat) (x : Str), (x, NameKind.cell) ∈ names → ∃ c, (x, c) ∈ cellsFrom n names []
  | (y, kd) :: r, n, x, h => by
    unfold cellsFrom
    rcases List.mem_cons.mp h with e | h
    · cases e
      rw [if_pos (by rfl), cellsFrom_app]
      exact ⟨n, List.mem_append_right _ (List.mem_singleton_self _)⟩
    · split
      · obtain ⟨c, hc⟩ := cellsFrom_has r (n + 1) x h
        rw [cellsFrom_app]
        exact ⟨c, List.mem_append_left _ hc⟩
      · exact cellsFrom_has r n x h
theorem lookup_of_mem {α : Type} : ∀ {l : List (Str × α)} {x : Str} {c : α}, (x, c) ∈ l → ∃ c', l.lookup x = some c'
  | (y, d) :: r, x, c, h => by
    rw [List.lookup_cons]
    cases hb : x == y with
    | true => exact ⟨d, rfl⟩
    | false =>
      rcases List.mem_cons.mp h with e | h
      · cases e; simp at hb
      · exact lookup_of_mem h
theorem lookup_none {α : Type} : ∀ {l : List (Str × α)} {x : Str}, (∀ c, (x, c) ∉ l) → l.lookup x = none
  | [], _, _ => rfl
  | (y, d) :: r, x, h => by
    rw [List.lookup_cons]
    cases hb : x == y with
    | true => exact absurd (by rw [beq_iff_eq.mp hb]; exact List.mem_cons_self ..) (h d)
    | false => exact lookup_none fun c hc => h c (List.mem_cons_of_mem _ hc)
theorem lookup_app {α : Type} : ∀ {l l' : List (Str × α)} {x : Str}, (l ++ l').lookup x = (l.lookup x).or (l'.lookup x)
  | [], _, _ => by simp
  | (y, d) :: r, l', x => by
    rw [List.cons_append, List.lookup_cons, List.lookup_cons]
    cases x == y with
    | true => rfl
    | false => exact lookup_app
theorem lookup_relabel {env : Env} {kd : NameKind} : ∀ {names : List (Str × NameKind)} {x : Str}, names.lookup x = some kd →
    (names.map fun (n, k) => if (k == NameKind.free && env.scope.kind == .function && env.kindOf n == some .cell) then (n, NameKind.cell) else (n, k)).lookup x = some (if (kd == NameKind.free && env.scope.kind == .function && env.kindOf x == some .cell) then .cell else kd)
  | [], _, h => by simp at h
  | (n, k) :: r, x, h => by
    rw [List.map_cons]
    rw [List.lookup_cons] at h
    cases hx : x == n with
    | true =>
      rw [hx] at h
      cases h
      rw [beq_iff_eq.mp hx]
      dsimp only
      split <;> simp [List.lookup_cons]
    | false =>
      rw [hx] at h
      have ih := lookup_relabel (env := env) (kd := kd) (names := r) (x := x) h
      dsimp only
      split <;> (rw [List.lookup_cons, hx]; exact ih)
structure OwnCells (h : Heap) (C : Addr) (scope : Scope) (cl : List (Str × Addr)) : Prop where
  own : ∀ x, scope.names.lookup x = some .cell → ∃ c, (compCells scope cl C).lookup x = some c ∧ h.IsCell c none ∧ C < c
  apart : ∀ x y c, scope.names.lookup x = some .cell → scope.names.lookup y = some .cell → (compCells scope cl C).lookup x = some c → (compCells scope cl C).lookup y = some c → x = y
  cap : ∀ x, (scope.names.any fun p => p.1 == x && p.2 == .cell) = false → (compCells scope cl C).lookup x = cl.lookup x
theorem ownCells (h : Heap) (scope : Scope) (cl : List (Str × Addr)) (C : Addr) (hC : h.objs.size = C + 1) : OwnCells (pushCells h scope.names) C scope cl := by
  have ok := cellsFrom_ok scope.names h (C + 1) [] ⟨fun _ _ hm => (nomatch hm), List.Pairwise.nil⟩ (by rw [hC]; exact Nat.le_refl _)
  rw [hC] at ok
  have e : compCells scope cl C = cellsFrom (C + 1) scope.names [] ++ cl := cellsFrom_app ..
  have own : ∀ x, scope.names.lookup x = some .cell → ∃ c, (x, c) ∈ cellsFrom (C + 1) scope.names [] ∧ (compCells scope cl C).lookup x = some c := fun x hx => by
    obtain ⟨c, hc⟩ := cellsFrom_has scope.names (C + 1) x (mem_of_lookup hx)
    obtain ⟨c', hc'⟩ := lookup_of_mem hc
    exact ⟨c', mem_of_lookup hc', by rw [e, lookup_app, hc']; rfl⟩
  refine ⟨fun x hx => ?_, fun x y c hx hy h1 h2 => ?_, fun x hx => ?_⟩
  · obtain ⟨c, h1, h2⟩ := own x hx
    exact ⟨c, h2, (ok.empty x c h1).1, (ok.empty x c h1).2⟩
  · obtain ⟨c1, h3, h4⟩ := own x hx
    obtain ⟨c2, h5, h6⟩ := own y hy
    rw [h1] at h4; cases h4
    rw [h2] at h6; cases h6
    exact name_of_addr ok.apart h3 h5
  · rw [e, lookup_app, lookup_none fun c hc => ?_]; · rfl
    have := cellsFrom_mem _ _ _ _ hc
    have h3 : (scope.names.any fun p => p.1 == x && p.2 == .cell) = true := List.any_eq_true.mpr ⟨_, this, by simp⟩
    rw [hx] at h3; cases h3
variable {prog : Program} {w : World}

theorem FmOk.plusX {G : Fm} (ok : FmOk G) {X : List Addr} {h : Heap} (hL : G.env.locals ∉ X) (hC : ∀ (i : Nat) (x : Str) (c : Addr), G.slots[i]? = some (x, some c) → c ∉ X) (hA : ∀ d, G.acc d → d ∉ X) : FmOk (G.up (plus G.base X h) (rX G.res X)) := by
  refine ⟨ok.kind, ok.loc, ok.cel, ok.names, ok.cells, (plus_out hL).trans ok.baseL, fun q => q.elim ok.resL hL, fun i x c h q => q.elim (ok.resC i x c h) (hC i x c h), fun c hc => ?_, fun d hd => ?_, ok.mineC⟩
  · obtain ⟨i, x, hx⟩ := ok.mineC c hc
    exact (plus_out (hC i x c hx)).trans (ok.mine c hc)
  · obtain ⟨h1, h2, h3⟩ := ok.acc d hd
    exact ⟨(plus_out (hA d hd)).trans h1, fun q => q.elim h2 (hA d hd), h3⟩
section
variable {F : Fm} {scope : Scope} {cl : List (Str × Addr)} {sp : List (Str × CSlot)} {C D : Addr} {base : Addr → Option Obj} {h : Heap}
theorem comp_slot {i : Nat} {x : Str} {acc : Option Addr} (hs : (compFm F scope cl sp C D base).slots[i]? = some (x, acc)) : ∃ c, sp[i]? = some (x, c) ∧ acc = c.acc F (compCells scope cl C) x := by
  have : (sp.map fun p => (p.1, p.2.acc F (compCells scope cl C) p.1))[i]? = some (x, acc) := hs
  rw [List.getElem?_map] at this
  cases e : sp[i]? with
  | none => rw [e] at this; cases this
  | some p =>
    rw [e] at this
    obtain ⟨y, c⟩ := p
    cases this
    exact ⟨c, rfl, rfl⟩
inductive CKind (F : Fm) (scope : Scope) (cl : List (Str × Addr)) (C : Addr) (h : Heap) (x : Str) : CSlot → Option Addr → Prop
  | loc : scope.names.lookup x = some .local → CKind F scope cl C h x .loc none
  | own {c} : scope.names.lookup x = some .cell → (compCells scope cl C).lookup x = some c → h.IsCell c none → C < c → CKind F scope cl C h x .own (some c)
  | cap {i c} : scope.names.lookup x = some .free → F.slots[i]? = some (x, some c) → (compCells scope cl C).lookup x = some c → CKind F scope cl C h x (.cap i) (some c)
theorem comp_kind (oc : OwnCells h C scope cl) (so : SpOk F scope cl sp) {i : Nat} {x : Str} {acc : Option Addr} (hs : (compFm F scope cl sp C D base).slots[i]? = some (x, acc)) : ∃ c, sp[i]? = some (x, c) ∧ CKind F scope cl C h x c acc := by
  obtain ⟨c, h1, h2⟩ := comp_slot hs
  have h3 := so.at _ (List.mem_of_getElem? h1)
  refine ⟨c, h1, ?_⟩
  subst h2
  cases c with
  | loc => exact .loc h3.1
  | own =>
    obtain ⟨c, h4, h5, h6⟩ := oc.own x h3.1
    show CKind F scope cl C h x .own ((compCells scope cl C).lookup x)
    rw [h4]
    exact .own h3.1 h4 h5 h6
  | cap j =>
    obtain ⟨⟨h4, h5, c, h6, h7⟩, _⟩ := h3
    show CKind F scope cl C h x (.cap j) ((F.slots[j]?).bind (·.2))
    rw [h6]
    exact .cap h4 h6 ((oc.cap x h5).trans h7)
theorem comp_ok (ok : FmOk F) (oc : OwnCells h C scope cl) (so : SpOk F scope cl sp) (hk : scope.kind = .function) (nd : (sp.map (·.1)).Nodup) (hF : ∀ (i : Nat) (x : Str) (c : Addr), F.slots[i]? = some (x, some c) → c < C) (hDC : D < C)
    (hb : ∀ a, C ≤ a → base a = none) (hbD : base D = none) (hFD : ∀ (i : Nat) (x : Str) (c : Addr), F.slots[i]? = some (x, some c) → c ≠ D) : FmOk (compFm F scope cl sp C D base) := by
  have uniq : ∀ (i j : Nat) (x : Str) (c c' : CSlot), sp[i]? = some (x, c) → sp[j]? = some (x, c') → i = j := fun i j x c c' h1 h2 => by
    have hi : i < sp.length := (List.getElem?_eq_some_iff.mp h1).1
    have hj : j < sp.length := (List.getElem?_eq_some_iff.mp h2).1
    have e1 : (sp.map (·.1))[i]'(by simpa using hi) = x := by simp [(List.getElem?_eq_some_iff.mp h1).2]
    have e2 : (sp.map (·.1))[j]'(by simpa using hj) = x := by simp [(List.getElem?_eq_some_iff.mp h2).2]
    have pw := List.pairwise_iff_getElem.mp nd
    rcases Nat.lt_trichotomy i j with h | h | h
    · exact absurd (e1.trans e2.symm) (pw i j (by simpa using hi) (by simpa using hj) h)
    · exact h
    · exact absurd (e2.trans e1.symm) (pw j i (by simpa using hj) (by simpa using hi) h)
  refine ⟨hk, fun i x hs => ?_, fun i x c hs => ?_, fun i j x a b h1 h2 => ?_, fun i j x y c h1 h2 => ?_, hb C (Nat.le_refl _), id, fun _ _ _ _ => id, fun c ⟨x, h1, h2⟩ => ?_, fun d hd => ?_, fun c ⟨x, h1, h2⟩ => ?_⟩
  · obtain ⟨c, _, ck⟩ := comp_kind oc so hs
    cases ck with
    | loc h1 => exact lookup_relabel (env := F.env) h1
  · obtain ⟨c, _, ck⟩ := comp_kind oc so hs
    cases ck with
    | own h1 h2 h3 h4 => exact ⟨.inl (lookup_relabel (env := F.env) h1), h2, Nat.ne_of_gt h4⟩
    | cap h1 h2 h3 =>
      refine ⟨?_, h3, Nat.ne_of_lt (hF _ _ _ h2)⟩
      have := lookup_relabel (env := F.env) h1
      split at this
      · exact .inl this
      · exact .inr this
  · obtain ⟨c, h3, _⟩ := comp_slot h1
    obtain ⟨c', h4, _⟩ := comp_slot h2
    exact uniq i j x c c' h3 h4
  · obtain ⟨k1, h3, c1⟩ := comp_kind oc so h1
    obtain ⟨k2, h4, c2⟩ := comp_kind oc so h2
    cases c1 with
    | own a1 a2 a3 a4 =>
      cases c2 with
      | own b1 b2 b3 b4 =>
        have := oc.apart x y c a1 b1 a2 b2
        subst this
        exact uniq i j x _ _ h3 h4
      | cap b1 b2 b3 => exact absurd (hF _ _ _ b2) (Nat.not_lt.mpr (Nat.le_of_lt a4))
    | cap a1 a2 a3 =>
      cases c2 with
      | own b1 b2 b3 b4 => exact absurd (hF _ _ _ a2) (Nat.not_lt.mpr (Nat.le_of_lt b4))
      | cap b1 b2 b3 =>
        have e := ok.cells _ _ _ _ c a2 b2
        subst e
        rw [a2] at b2; cases b2
        exact uniq i j x _ _ h3 h4
  · obtain ⟨i, hi⟩ := List.mem_iff_getElem?.mp h1
    have hs : (compFm F scope cl sp C D base).slots[i]? = some (x, some c) := by
      show (sp.map _)[i]? = _
      rw [List.getElem?_map, hi]
      show some (x, (compCells scope cl C).lookup x) = _
      rw [h2]
    obtain ⟨k1, h3, ck⟩ := comp_kind oc so hs
    rw [hi] at h3; cases h3
    cases ck with
    | own a1 a2 a3 a4 => exact hb c (Nat.le_of_lt a4)
  · have hd : d = D := hd
    subst hd
    refine ⟨hbD, id, Nat.ne_of_lt hDC, fun i x hs => ?_⟩
    obtain ⟨c, _, ck⟩ := comp_kind oc so hs
    cases ck with
    | own a1 a2 a3 a4 => exact absurd hDC (Nat.not_lt.mpr (Nat.le_of_lt a4))
    | cap a1 a2 a3 => exact hFD _ _ _ a2 rfl
  · obtain ⟨i, hi⟩ := List.mem_iff_getElem?.mp h1
    refine ⟨i, x, ?_⟩
    show (sp.map _)[i]? = _
    rw [List.getElem?_map, hi]
    show some (x, (compCells scope cl C).lookup x) = _
    rw [h2]
end
variable {prog : Program} {w : World}

theorem Iter.mono {A : Around} {tgt : PySem.Expr} {z : Bool} {B B' : Addr → Option Obj} {I : Addr} {X : List Addr} {St : List IV → Heap → Prop} (W : Iter prog w A tgt z B I X St) (h : ∀ a o, B a = some o → B' a = some o) : Iter prog w A tgt z B' I X St where
  std := W.std
  nt := W.nt
  frm := fun l h₁ h' st k1 k2 => W.frm l h₁ h' st k1 fun a o e => k2 a o (h a o e)
  item := fun x l s Q E st bk hQ => W.item x l s Q E st (fun a o e => bk a o (h a o e)) hQ
  done := fun s Q E st bk hQ => W.done s Q E st (fun a o e => bk a o (h a o e)) hQ
  self := W.self
theorem FmOk.down {F : Fm} {b : Addr → Option Obj} {r : Addr → Prop} (ok : FmOk (F.up b r)) (l : F.Le b r) : FmOk F := by
  have key : ∀ a, b a = none → F.base a = none := fun a h => by
    cases e : F.base a with
    | none => rfl
    | some o => have h4 := l.base a o e; rw [h] at h4; cases h4
  exact ⟨ok.kind, ok.loc, ok.cel, ok.names, ok.cells, key _ ok.baseL, fun q => ok.resL (l.res _ q), fun i x c h q => ok.resC i x c h (l.res _ q), fun c hc => key c (ok.mine c hc), fun d hd => ⟨key d (ok.acc d hd).1, fun q => (ok.acc d hd).2.1 (l.res _ q), (ok.acc d hd).2.2⟩, ok.mineC⟩
theorem newEnv_around {M : Model} {A : Around} {E : Value → Shared → Prop} {s : Shared} {scope : Scope} {globals : Addr} {cl : List (Str × Addr)} {qual : Str} {outer : Env} {Q : Env → Shared → Prop}
    (h : Q { scope := scope, locals := s.heap.objs.size, globals := globals, cells := cellsFrom (s.heap.objs.size + 1) scope.names cl, qual := qual, func := none, code := outer.code, frame := outer.frame, builtins := outer.builtins }
      { s with heap := pushCells (s.heap.push { cls := .type "dict", data := .dict #[] }) scope.names }) : wpAny M A (newFunctionEnv scope globals cl [] qual none .none (some outer)) Q E s := by
  simp only [newFunctionEnv, Option.isSome_some, if_true]
  refine wpAny_bind (wpAny_alloc ?_)
  refine wpAny_bind (wpAny_layCells _ (fun name kind cells => by cases hkc : kind == NameKind.cell <;> simp [hkc]) _ _ _ _ ?_)
  rw [show ({ s with heap := s.heap.push { cls := .type "dict", data := .dict #[] } } : Shared).heap.objs.size = s.heap.objs.size + 1 from Heap.size_push ..]
  refine wpAny_bind (wpAny_pure ?_)
  exact wpAny_pure h
theorem pushCells_lt : ∀ (names : List (Str × NameKind)) (h : Heap) (b : Addr), b < h.objs.size → (pushCells h names).get? b = h.get? b
  | [], _, _, _ => rfl
  | (_, kind) :: r, h, b, e => by
    unfold pushCells
    split
    · rw [pushCells_lt r _ b (by rw [Heap.size_push]; exact Nat.lt_succ_of_lt e)]
      exact Heap.get?_push_ne _ _ _ (Nat.ne_of_lt e)
    · exact pushCells_lt r h b e
section
variable {F : Fm} {ρ : Rho} {k : Nat}
theorem comp_core {elt : PySem.Expr} {g : Comprehension} {gs : List Comprehension} {scope : Scope} {pos p2 : PySem.Pos} {cl : List (Str × Addr)} {sp : List (Str × CSlot)} {l : List IV} {f : IV → List IV}
    (hclos : closureFor scope F.env = pure cl) (so : SpOk F scope cl sp) (hk : scope.kind = .function) (nd : (sp.map (·.1)).Nodup) (hnames : ∀ x ∈ scope.names, x.2 = .local → scope.names.lookup x.1 = some .local)
    (hs : ∀ x, foldedSetIterable g.iter F.env x = pure x) (ha : g.is_async = 0) (hI : ItJ prog w F ρ k false g.target g.iter l)
    (hc : ∀ C D base, (∀ a o, F.base a = some o → base a = some o) → FmOk (compFm F scope cl sp C D base) → ∀ x ∈ l, ∃ ρ₁ b, AsgJ prog w (compFm F scope cl sp C D base) k g.target x (compRho ρ sp) ρ₁ ∧ TestsJ prog w (compFm F scope cl sp C D base) ρ₁ k g.ifs b ∧
      (if b then CB prog w (compFm F scope cl sp C D base) k elt gs ρ₁ (f x) else f x = []) ∧ Weaker ρ₁ (compRho ρ sp))
    (hlen : (l.flatMap f).length ≤ sizeLine) {b : Addr → Option Obj} {r : Addr → Prop} (lf : F.Le b r) (ok : FmOk (F.up b r)) {A : Around} {s : Shared} (rm : Room k A) (Iv : Inv prog w (F.up b r) ρ s) {use : Option (Value → Sem Unit)} {Q : Value → Shared → Prop}
    (hQ : ∀ D C s' m, Ext s s' → s.heap.get? D = none → s.heap.get? C = none → D ≠ C → DL D s' (l.flatMap f) → s'.heap.Ns C m → compPost (model prog w) A No use Q (.ref D) C (.ok .next) s') :
    wpAny (model prog w) A (comprehension (.ListComp elt (g :: gs) scope pos) scope F.env p2 (newList []) false (eval g.iter F.env) use) Q No s := by
  refine wpAny_comprehension_free (cl := cl) rfl hs hclos hk hnames ?_
  refine wpAny_mono (hI b r lf ok A s rm Iv) (fun x s₁ h₁ => wpAny_mono h₁ (fun it s₂ h₂ => ?_) fun _ _ e => e) fun _ _ e => e
  obtain ⟨x₂, I, X, b₂, St, rfl, l₂, bX, ok₂, I₂, fX, st, W⟩ := h₂
  refine wpAny_newObj_type ?_ (by size_fits)
  have hD : s₂.heap.get? s₂.heap.objs.size = none := fresh_size (Ext.refl s₂) (Nat.le_refl _)
  have z3 : (s₂.heap.push { cls := .type "list", dict := none, data := .seq ([] : List Value).toArray }).objs.size = s₂.heap.objs.size + 1 := Heap.size_push ..
  refine newEnv_around ?_
  dsimp only
  have z3' : ({ s₂ with heap := s₂.heap.push { cls := .type "list", dict := none, data := .seq ([] : List Value).toArray } } : Shared).heap.objs.size = s₂.heap.objs.size + 1 := z3
  simp only [z3]
  generalize hD' : s₂.heap.objs.size = D at *
  generalize hh3 : s₂.heap.push { cls := .type "list", dict := none, data := .seq ([] : List Value).toArray } = h3 at *
  generalize hh4 : h3.push { cls := .type "dict", data := .dict #[] } = h4
  have z4 : h4.objs.size = (D + 1) + 1 := by rw [← hh4, Heap.size_push, z3]
  have oc := ownCells h4 scope cl (D + 1) z4
  generalize hh5 : pushCells h4 scope.names = h5 at *
  have up : Keep s₂.heap h5 := fun a o e => by
    have hlt : a < D := hD' ▸ Heap.lt_size e
    rw [← hh5, pushCells_lt _ _ _ (by rw [z4]; exact Nat.lt_succ_of_lt (Nat.lt_succ_of_lt hlt)), ← hh4]
    exact Heap.get?_push_of_some _ (by rw [← hh3]; exact Heap.get?_push_of_some _ e)
  have hD5 : h5.get? D = some { cls := .type "list", dict := none, data := .seq ([] : List Value).toArray } := by
    rw [← hh5, pushCells_lt _ _ _ (by rw [z4]; exact Nat.lt_succ_of_lt (Nat.lt_succ_self _)), ← hh4]
    exact Heap.get?_push_of_some _ (by rw [← hh3, ← hD']; exact Heap.get?_push_size _ rfl)
  have hC5 : h5.Ns (D + 1) (fun _ => none) := by
    have := Heap.Ns.new h3 (.type "dict")
    rw [z3] at this
    rw [hh4] at this
    exact this.keeps fun a o e => by rw [← hh5, pushCells_lt _ _ _ (Heap.lt_size e)]; exact e
  have x5 : Ext s { s₂ with heap := h5 } := x₂.trans ⟨⟨rfl, rfl⟩, up⟩
  have slt : ∀ {a o}, s₂.heap.get? a = some o → a < D := fun e => hD' ▸ Heap.lt_size e
  have Xlt : ∀ a ∈ X, a < D := fun a ha => let ⟨o, ho⟩ := W.std _ _ st a ha; slt ho
  have cel : ∀ (i : Nat) (x : Str) (c : Addr), F.slots[i]? = some (x, some c) → ∃ ov, s.heap.IsCell c ov := fun i x c h => Iv.cellAt h
  have celt : ∀ (i : Nat) (x : Str) (c : Addr), F.slots[i]? = some (x, some c) → c < D := fun i x c h => let ⟨ov, o, ho, _⟩ := cel i x c h; slt (x₂.2 _ _ ho)
  generalize hbase : (fun a => if a ∈ X then none else s₂.heap.get? a : Addr → Option Obj) = base
  have base_out : ∀ a, a ∉ X → base a = s₂.heap.get? a := fun a q => by rw [← hbase]; exact if_neg q
  have base_in : ∀ a ∈ X, base a = none := fun a q => by rw [← hbase]; exact if_pos q
  have none_ge : ∀ a, D ≤ a → s₂.heap.get? a = none := fun a q => fresh_size (Ext.refl s₂) (by rw [hD']; exact q)
  have okc : FmOk (compFm F scope cl sp (D + 1) D base) := comp_ok (FmOk.down ok lf) oc so hk nd
    (fun i x c h => Nat.lt_succ_of_lt (celt i x c h)) (Nat.lt_succ_self _) (fun a q => by
      by_cases hX : a ∈ X
      · exact base_in a hX
      · rw [base_out a hX]; exact none_ge a (Nat.le_of_succ_le q)) (by
      by_cases hX : D ∈ X
      · exact base_in D hX
      · rw [base_out D hX]; exact none_ge D (Nat.le_refl _)) fun i x c h => Nat.ne_of_lt (celt i x c h)
  have fb : ∀ a o, F.base a = some o → base a = some o := fun a o e => by
    have e1 := lf.base a o e
    have hX : a ∉ X := fun q => by have := Iv.keep a o e1; rw [fX a q] at this; cases this
    rw [base_out a hX]
    exact x₂.2 _ _ (Iv.keep a o e1)
  have okX : ∀ h, FmOk ((compFm F scope cl sp (D + 1) D base).up (plus base X h) (rX (fun _ => False) X)) := fun h => FmOk.plusX okc (fun q => absurd (Xlt _ q) (Nat.not_lt.mpr (Nat.le_succ _))) (fun i x c hs q => by
      obtain ⟨k1, _, ck⟩ := comp_kind (D := D) (base := base) oc so hs
      cases ck with
      | own a1 a2 a3 a4 => exact absurd (Xlt _ q) (Nat.not_lt.mpr (Nat.le_of_lt (Nat.lt_of_succ_lt a4)))
      | cap a1 a2 a3 => obtain ⟨ov, o, ho, _⟩ := cel _ _ _ a2; rw [fX c q] at ho; cases ho) fun d hd q => absurd (Xlt d q) (by have : d = D := hd; rw [this]; exact Nat.lt_irrefl _)
  have b2b : ∀ a o, b₂ a = some o → base a = some o := fun a o e => by
    have hX : a ∉ X := fun q => by rw [bX a q] at e; cases e
    rw [base_out a hX]
    exact I₂.keep a o ((plus_out hX).trans e)
  have Ic : Inv prog w ((compFm F scope cl sp (D + 1) D base).up (plus base X h5) (rX (fun _ => False) X)) (compRho ρ sp) { s₂ with heap := h5 } := by
    obtain ⟨kk, gg, oo, ln, rs, ac, m, hm, fp, a, c⟩ := I₂
    refine ⟨fun z o e => ?_, gg, oo, by simp [compRho, compFm], fun z hz => ?_, fun d hd => ?_, _, hC5, fun i => match sp[i]? with | some (_, .cap j) => fp j | _ => [], fun i x acc p own h1 h2 => ?_, fun i p h1 => ?_⟩
    · by_cases q : z ∈ X
      · exact (plus_in q).symm.trans e
      · have e : base z = some o := (plus_out q).symm.trans e
        rw [base_out z q] at e
        exact up z o e
    · rcases hz with hz | hz
      · exact hz.elim
      · obtain ⟨o, ho⟩ := W.std _ _ st z hz
        exact ⟨o, up z o ho⟩
    · have hd : d = D := hd
      subst hd
      exact ⟨⟨_, hD5⟩, fun o ho xs n hc _ => by rw [hD5] at ho; cases ho; exact absurd (Value.type.inj hc) (by decide)⟩
    · obtain ⟨cs, h3, ck⟩ := comp_kind (D := D) (base := base) oc so h1
      have h2 : (sp.map fun p => p.2.pv ρ)[i]? = some (p, own) := h2
      rw [List.getElem?_map, h3] at h2
      dsimp only
      rw [h3]
      cases ck with
      | loc a1 =>
        cases h2
        exact ⟨none, rfl, rfl, fun z hz => nomatch hz⟩
      | own a1 a2 a3 a4 =>
        cases h2
        exact ⟨none, a3, rfl, fun z hz => nomatch hz⟩
      | @cap j cc a1 a2 a3 =>
        have hj : j < ρ.length := by rw [ln]; exact (List.getElem?_eq_some_iff.mp a2).1
        have hp : p = (ρ[j]).1 := by
          have h2 : some (((ρ[j]?).map (·.1)).getD PV.any, false) = some (p, own) := h2
          rw [List.getElem?_eq_getElem hj] at h2
          cases h2; rfl
        obtain ⟨ov, h5', h6, h7⟩ := a j x (some cc) (ρ[j]).1 (ρ[j]).2 a2 (List.getElem?_eq_getElem hj)
        subst hp
        refine ⟨ov, Heap.IsCell.keeps h5' up, h6.keep up, fun z hz => ?_⟩
        obtain ⟨oz, hoz⟩ := h6.stands z hz
        have hzD := slt hoz
        refine ⟨⟨Nat.ne_of_lt (Nat.lt_succ_of_lt hzD), fun q => ?_⟩, fun j' x' c' hs' => ?_⟩
        · rcases q with (q | q) | q
          · exact q.elim
          · exact (h7 z hz).1.2 (.inl (.inr q))
          · have q : z = D := q
            exact absurd hzD (by rw [q]; exact Nat.lt_irrefl _)
        · obtain ⟨k1, _, ck'⟩ := comp_kind (D := D) (base := base) oc so hs'
          cases ck' with
          | own a1 a2 a3 a4 => exact Nat.ne_of_lt (Nat.lt_trans (Nat.lt_succ_of_lt hzD) a4)
          | cap b1 b2 b3 => exact (h7 z hz).2 _ _ _ b2
    · have h1 : (sp.map fun p => p.2.pv ρ)[i]? = some (p, true) := h1
      rw [List.getElem?_map] at h1
      cases e : sp[i]? with
      | none => rw [e] at h1; cases h1
      | some q => obtain ⟨y, cs⟩ := q; rw [e] at h1; cases cs <;> cases h1
  obtain ⟨target, iter, ifs, asy⟩ := g
  cases ha
  have dl : DL D { s₂ with heap := h5 } [] := ⟨[], ⟨_, _, hD5, rfl, rfl, rfl⟩, trivial⟩
  refine codeAny_compStart_any (gens := ⟨target, iter, ifs, 0⟩ :: gs) rfl ?_ (W.self _ _ _ _ (W.frm _ _ _ st (fun a ha o ho => up a o ho) fun a o e => up a o (by
    have hX : a ∉ X := fun q => by rw [bX a q] at e; cases e
    rw [← base_out a hX]; exact b2b a o e)) ⟨rfl, rfl⟩)
  refine codeAny_mono (comp_loop (Fc := compFm F scope cl sp (D + 1) D base) (D := D) rfl (fun d hd => hd) gs 0 ⟨target, iter, ifs, 0⟩ (compRho ρ sp) l f rfl rfl (hc (D + 1) D base fb okc) A rm base (fun _ => False) ⟨fun _ _ e => e, fun _ e => e⟩ I X base St ⟨fun _ _ e => e, fun _ e => e⟩ base_in (fun _ _ e => e) okX (W.mono b2b)
    { s₂ with heap := h5 } [] Ic (W.frm _ _ _ st (fun a ha o ho => up a o ho) fun a o e => up a o (by
    have hX : a ∉ X := fun q => by rw [bX a q] at e; cases e
    rw [← base_out a hX]; exact b2b a o e)) dl (by simpa using hlen)) fun res s' ⟨e, I', dl'⟩ => ?_
  subst e
  obtain ⟨m', hm', _⟩ := id I'.sl
  have ks : Keep s.heap s'.heap := fun a o e => I'.keep a o (by
    have hX : a ∉ X := fun q => by rw [fX a q] at e; cases e
    show base a = _
    rw [base_out a hX]
    exact x₂.2 _ _ e)
  refine hQ D (D + 1) s' m' ⟨⟨I'.gens.trans (Iv.gens.symm), I'.os.trans (Iv.os.symm)⟩, ks⟩ (fresh_size x₂ (by rw [hD']; exact Nat.le_refl _)) (fresh_size x₂ (by rw [hD']; exact Nat.le_succ _)) (Nat.ne_of_lt (Nat.lt_succ_self _)) (by simpa using dl') hm'
end
variable {prog : Program} {w : World}
section
variable {F : Fm} {ρ : Rho} {k : Nat}
theorem DL.after {D C : Addr} {s s' : Shared} {m} {l : List IV} (dl : DL D s l) (hDC : D ≠ C) (hm : s.heap.Ns C m) (hs : Heap.SameBut C s.heap s'.heap) : DL D s' l :=
  DL.chg (Chg.of_sameBut hs) (fun a ha => by rw [List.mem_singleton.mp ha]; exact NT.ns hm) (by simp [hDC]) dl
structure CompJ (prog : Program) (w : World) (F : Fm) (ρ : Rho) (k : Nat) (elt : PySem.Expr) (g : Comprehension) (gs : List Comprehension) (scope : Scope) (cl : List (Str × Addr)) (sp : List (Str × CSlot)) (l : List IV) (f : IV → List IV) : Prop where
  hclos : closureFor scope F.env = pure cl
  so : SpOk F scope cl sp
  hk : scope.kind = .function
  nd : (sp.map (·.1)).Nodup
  hnames : ∀ x ∈ scope.names, x.2 = .local → scope.names.lookup x.1 = some .local
  hs : ∀ x, foldedSetIterable g.iter F.env x = pure x
  ha : g.is_async = 0
  hI : ItJ prog w F ρ k false g.target g.iter l
  hc : ∀ C D base, (∀ a o, F.base a = some o → base a = some o) → FmOk (compFm F scope cl sp C D base) → ∀ x ∈ l, ∃ ρ₁ b, AsgJ prog w (compFm F scope cl sp C D base) k g.target x (compRho ρ sp) ρ₁ ∧ TestsJ prog w (compFm F scope cl sp C D base) ρ₁ k g.ifs b ∧
      (if b then CB prog w (compFm F scope cl sp C D base) k elt gs ρ₁ (f x) else f x = []) ∧ Weaker ρ₁ (compRho ρ sp)
  hlen : (l.flatMap f).length ≤ sizeLine
theorem ev_comp {elt : PySem.Expr} {target iter : PySem.Expr} {ifs : List PySem.Expr} {gs : List Comprehension} {scope : Scope} {pos : PySem.Pos} {cl : List (Str × Addr)} {sp : List (Str × CSlot)} {l : List IV} {f : IV → List IV} (ok : FmOk F) (J : CompJ prog w F ρ k elt ⟨target, iter, ifs, 0⟩ gs scope cl sp l f) :
    EvJ prog w F ρ k (.ListComp elt (⟨target, iter, ifs, 0⟩ :: gs) scope pos) (.list (l.flatMap f)) true := fun A s rm I => by
  refine comp_core (use := none) (b := F.base) (r := F.res) J.hclos J.so J.hk J.nd J.hnames J.hs J.ha J.hI J.hc J.hlen (Fm.Le.refl F) ok rm I fun D C s' m x hD hC hDC dl hm => ?_
  refine ⟨m, hm, fun h' hs' => ?_⟩
  obtain ⟨vs, h1, h2⟩ := DL.after (s' := { s' with heap := h' }) dl hDC hm hs'
  exact ⟨⟨x.1, fun a o e => (hs'.2 a fun q => by rw [q, hC] at e; cases e).trans (x.2 a o e)⟩, [D], ⟨D, vs, rfl, h1, h2, rfl⟩, fun _ a ha => by rw [List.mem_singleton.mp ha]; exact hD⟩
theorem ev_comp_eq {elt : PySem.Expr} {target iter : PySem.Expr} {ifs : List PySem.Expr} {gs : List Comprehension} {scope : Scope} {pos : PySem.Pos} {out : List IV} (cl : List (Str × Addr)) (sp : List (Str × CSlot)) (l : List IV) (f : IV → List IV) (ok : FmOk F) (e : l.flatMap f = out) (J : CompJ prog w F ρ k elt ⟨target, iter, ifs, 0⟩ gs scope cl sp l f) :
    EvJ prog w F ρ k (.ListComp elt (⟨target, iter, ifs, 0⟩ :: gs) scope pos) (.list out) true := e ▸ ev_comp ok J
theorem ex_assign_compW {ρ' : Rho} (hw : Weaker ρ ρ') {y : Str} {np spos : PySem.Pos} {elt : PySem.Expr} {target iter : PySem.Expr} {ifs : List PySem.Expr} {gs : List Comprehension} {scope : Scope} {pos : PySem.Pos} {cl : List (Str × Addr)} {sp : List (Str × CSlot)} {l : List IV} {f : IV → List IV} {own : Bool} (i : Nat) {acc : Option Addr}
    (hy : F.slots[i]? = some (y, acc)) (ho : Own F y acc) (hsw : swapsWith (.ListComp elt (⟨target, iter, ifs, 0⟩ :: gs) scope pos) (some (.Name y np)) spos.line F.env = pure true) (J : CompJ prog w F ρ' k elt ⟨target, iter, ifs, 0⟩ gs scope cl sp l f) :
    ExS prog w F ρ k (exec (.Assign [.Name y np] (.ListComp elt (⟨target, iter, ifs, 0⟩ :: gs) scope pos) spos) F.env) (Only (ρ.set i (.list (l.flatMap f), own))) := fun b r lf ok A s rm I => by
  rw [exec_Assign_Name_used _ _ _ _ hsw]
  refine wpAny_bind (wpAny_standAt (wpAny_bind ?_))
  show wpAny _ A (do let _ ← comprehension (.ListComp elt (⟨target, iter, ifs, 0⟩ :: gs) scope pos) scope F.env _ (newList []) false (eval iter F.env) (some (assign (.Name y np) F.env))) _ _ s
  refine wpAny_bind (wpAny_mono (comp_core (g := ⟨target, iter, ifs, 0⟩) (use := some (assign (.Name y np) F.env)) (Q := fun _ s' => Inv prog w (F.up b r) (ρ.set i (.list (l.flatMap f), own)) s') (b := b) (r := r) J.hclos J.so J.hk J.nd J.hnames J.hs J.ha J.hI J.hc J.hlen lf ok rm (I.weak hw) fun D C s' m x hD hC hDC dl hm => ?_)
    (fun _ s' hq => wpAny_pure (wpAny_pure ⟨.next, _, ⟨rfl, rfl⟩, hq, trivial⟩)) fun _ _ e => e)
  show wpAny _ A (assign (.Name y np) F.env (.ref D)) _ _ s'
  have hLC : C ≠ F.env.locals := fun q => by obtain ⟨m1, ⟨o, _, _, ho, _⟩, _⟩ := I.sl; rw [q] at hC; rw [show s.heap.get? F.env.locals = some o from ho] at hC; cases hC
  have fin : ∀ (h₁ h₂ : Heap) (t : Nat) (Y : Addr), Heap.SameBut Y s'.heap h₁ → Heap.SameBut C h₁ h₂ → Chg [Y, C] s'.heap h₂ := fun h₁ h₂ t Y a b z o hz ho => by
    simp at hz
    exact (b.2 z hz.2).trans ((a.2 z hz.1).trans ho)
  have r' : ∃ vs, PlainL s'.heap D vs.toArray ∧ IVs s'.heap (l.flatMap f) vs := dl
  obtain ⟨vs, h1, h2⟩ := r'
  have rp : Rep prog w s'.heap (.list (l.flatMap f)) (.ref D) [D] := ⟨D, vs, rfl, h1, h2, rfl⟩
  have fD : Fresh s [D] := fun a ha => by rw [List.mem_singleton.mp ha]; exact hD
  have fC : Fresh s [C] := fun a ha => by rw [List.mem_singleton.mp ha]; exact hC
  have nC : ∀ z ∈ [C], NT s'.heap z := fun a ha => by rw [List.mem_singleton.mp ha]; exact NT.ns hm
  have dC : ∀ a ∈ [D], a ∉ [C] := fun a ha => by rw [List.mem_singleton.mp ha]; simpa using hDC
  cases acc with
  | none =>
    obtain ⟨m₁, hm₁, _⟩ := (I.ext x).sl
    refine wpAny_assign_Name (wpAny_storeName_local (ok.loc i y hy) hm₁ (fun h' hn hsb => ?_) (by
      show (F.env.scope.kind == .class || (F.env.scope.kind == .module && F.env.locals != F.env.globals)) = false
      rw [show F.env.scope.kind = .function from ok.kind]; rfl))
    have hsb : Heap.SameBut F.env.locals s'.heap h' := hsb
    refine ⟨m, hm.sameBut hsb hLC, fun h₂ hs₂ => ?_⟩
    exact Inv.storeZ (F := F.up b r) (Z := [C]) ok hy I x rp fD fC nC dC _ h₂ (.loc (hn.sameBut hs₂ (Ne.symm hLC)) (fin _ _ 0 _ hsb hs₂) (if_pos rfl) fun m' hm' z hz => (if_neg hz).trans (ns_uniq hm₁ hm' z))
  | some c =>
    obtain ⟨hk, hb⟩ := ho c rfl
    obtain ⟨ov, hc⟩ := I.cellAt hy
    have hcC : C ≠ c := fun q => by obtain ⟨o, ho, _⟩ := hc; rw [q, ho] at hC; cases hC
    refine wpAny_assign_Name (wpAny_storeName_cell ok.kind hk (ok.cel i y c hy).2.1 (hc.keeps x.2) fun h' hc' hsb => ?_)
    refine ⟨m, hm.sameBut hsb hcC, fun h₂ hs₂ => ?_⟩
    exact Inv.storeZ (F := F.up b r) (Z := [C]) ok hy I x rp fD fC nC dC s'.toks h₂ (.cel (hc'.sameBut hs₂ (Ne.symm hcC)) (fin _ _ 0 _ hsb hs₂) (ok.mine c hb))
theorem ex_assign_comp {y : Str} {np spos : PySem.Pos} {elt : PySem.Expr} {target iter : PySem.Expr} {ifs : List PySem.Expr} {gs : List Comprehension} {scope : Scope} {pos : PySem.Pos} {cl : List (Str × Addr)} {sp : List (Str × CSlot)} {l : List IV} {f : IV → List IV} {own : Bool} (i : Nat) {acc : Option Addr}
    (hy : F.slots[i]? = some (y, acc)) (ho : Own F y acc) (hsw : swapsWith (.ListComp elt (⟨target, iter, ifs, 0⟩ :: gs) scope pos) (some (.Name y np)) spos.line F.env = pure true) (J : CompJ prog w F ρ k elt ⟨target, iter, ifs, 0⟩ gs scope cl sp l f) :
    ExS prog w F ρ k (exec (.Assign [.Name y np] (.ListComp elt (⟨target, iter, ifs, 0⟩ :: gs) scope pos) spos) F.env) (Only (ρ.set i (.list (l.flatMap f), own))) := ex_assign_compW (Weaker.refl _) i hy ho hsw J
end
variable {prog : Program} {w : World}
section
variable {F : Fm} {ρ : Rho} {k : Nat} {P : Fl → Rho → Prop}

def At' (F : Fm) (s : Shared) (x : Str) (acc : Option Addr) (ov : Option Value) : Prop := match acc with | none => ∃ m, s.heap.Ns F.env.locals m ∧ ov = m x | some c => s.heap.IsCell c ov
theorem name_wp {A : Around} {s : Shared} {x : Str} {pos : PySem.Pos} {acc : Option Addr} {v : Value} {i : Nat} {Q E : Value → Shared → Prop} (ok : FmOk F) (hs : F.slots[i]? = some (x, acc)) (h : At' F s x acc (some v)) (hQ : Q v s) (hd : (x == ("__debug__" : Str)) = false)
    (hn : (x == ("__classdict__" : Str)) = false) : wpAny (model prog w) A (eval (.Name x pos) F.env) Q E s := by
  cases acc with
  | none =>
    obtain ⟨m, hm, e1⟩ := h
    exact wpAny_Name (wpAny_loadName_local ok.kind (ok.loc i x hs) hm e1.symm hQ) hd
  | some c =>
    obtain ⟨hk, hc, _⟩ := ok.cel i x c hs
    rcases hk with hk | hk
    · exact wpAny_Name (wpAny_loadName_cell ok.kind hk hc h hQ) hd
    · exact wpAny_Name (wpAny_loadName_free ok.kind hk hc h hQ hn) hd
theorem Inv.mut {G : Fm} {s : Shared} {i : Nat} {x : Str} {acc : Option Addr} {p : PV} (ok : FmOk G) (I : Inv prog w G ρ s) (hs : G.slots[i]? = some (x, acc)) (hr : ρ[i]? = some (p, true)) : ∃ ov fp, At' G s x acc ov ∧ RepO prog w s.heap p ov fp ∧
    ∀ (s₁ : Shared) (h' : Heap) (t : Nat) (p' : PV), Ext s s₁ → Chg fp s₁.heap h' → RepO prog w h' p' ov fp → Inv prog w G (ρ.set i (p', true)) { s₁ with heap := h', toks := t } := by
  have I0 := I
  obtain ⟨kk, gg, oo, ln, rs, ac, m, hm, fp, a, c⟩ := I
  obtain ⟨ov, h3, h4, h5⟩ := a i x acc p true hs hr
  have hat : At' G s x acc ov := by
    cases acc with
    | none => exact ⟨m, hm, h3⟩
    | some cc => exact h3
  refine ⟨ov, fp i, hat, h4, fun s₁ h' t p' e ch rp => ?_⟩
  have old : ∀ (j : Nat) (q : PV × Bool), ρ[j]? = some q → ∀ z ∈ fp j, ∃ o, s.heap.get? z = some o := fun j q hq => by
    obtain ⟨y, ac, hy⟩ := I0.slotAt hq
    obtain ⟨ov, _, h4, _⟩ := a j y ac q.1 q.2 hy hq
    exact h4.stands
  have nt : ∀ z ∈ fp i, NT s₁.heap z := by
    have h4 := h4.keep e.2
    cases ov with
    | none => intro z hz; cases p <;> first | exact h4.elim | (rw [show fp i = [] from h4] at hz; cases hz)
    | some v =>
      have : Rep prog w s₁.heap p v (fp i) := by cases p <;> exact h4
      exact this.nt
  have hself := c i p hr
  have hLn : G.env.locals ∉ fp i := fun q => (h5 _ q).1.1 rfl
  refine ⟨fun z o ho => ch z o (fun q => by rw [(hself z q).1] at ho; cases ho) (e.2 _ _ (kk z o ho)), e.gens.trans gg, e.os.trans oo, by rw [List.length_set]; exact ln, fun z hz => ?_, fun d hd => acc_chg ch (fun q => (h5 d q).1.2 (.inr hd)) ⟨let ⟨o, ho⟩ := (ac d hd).1; ⟨o, e.2 _ _ ho⟩, (ac d hd).2.keep e.2 (ac d hd).1⟩, m,
    hm.at' fun o ho => ch _ o hLn (e.2 _ _ ho), fp, fun j y acc' q own h1 h2 => ?_, fun j q h1 z hz => ?_⟩
  · obtain ⟨o, ho⟩ := rs z hz
    exact ⟨o, ch z o (fun q => (h5 z q).1.2 (.inl hz)) (e.2 _ _ ho)⟩
  · by_cases hj : j = i
    · subst hj
      obtain ⟨rfl, rfl⟩ : q = p' ∧ own = true := by have := set_at h2; exact ⟨congrArg Prod.fst this, congrArg Prod.snd this⟩
      rw [hs] at h1
      cases h1
      refine ⟨ov, ?_, rp, h5⟩
      cases acc with
      | none => exact h3
      | some cc => exact let ⟨o, ho, hd⟩ := h3; ⟨o, ch _ o (fun q => (h5 _ q).2 j x cc hs rfl) (e.2 _ _ ho), hd⟩
    · rw [set_ne hj] at h2
      obtain ⟨ov', h6, h7, h8⟩ := a j y acc' q own h1 h2
      refine ⟨ov', ?_, (h7.keep e.2).chg ch (.inl nt) fun z hz q' => (hself z q').2 j _ hj h2 hz, h8⟩
      cases acc' with
      | none => exact h6
      | some cc => exact let ⟨o, ho, hd⟩ := h6; ⟨o, ch _ o (fun q => (h5 _ q).2 j y cc h1 rfl) (e.2 _ _ ho), hd⟩
  · by_cases hj : j = i
    · subst hj
      refine ⟨(hself z hz).1, fun l q' hl hq' => ?_⟩
      rw [set_ne hl] at hq'
      exact (hself z hz).2 l q' hl hq'
    · rw [set_ne hj] at h1
      obtain ⟨c1, c2⟩ := c j q h1 z hz
      refine ⟨c1, fun l q' hl hq' => ?_⟩
      by_cases hli : l = i
      · subst hli
        exact c2 l (p, true) hl hr
      · rw [set_ne hli] at hq'
        exact c2 l q' hl hq'

theorem meth_wp {A : Around} {s : Shared} {o : PySem.Expr} {name : Str} {apos pos : PySem.Pos} {es : List PySem.Expr} {T id : String} {Q E : Value → Shared → Prop} (hb : attributeBase o name F.env (eval o F.env) = eval o F.env) (hs : starEach es F.env = plainArgs es F.env) (hl : (apos.endLine == pos.line) = true) (hlen : es.length < 30)
    (m : MethOk T name id) (h : wpAny (model prog w) A (eval o F.env) (fun ov s₁ => s₁.TypeIs ov T ∧ (∀ a, ov = .ref a → ∃ ob, s₁.heap.get? a = some ob ∧ ob.dict = none) ∧
      wpAny (model prog w) A (spliced (plainArgs es F.env)) (fun vs s₂ => wpAny (model prog w) A (PySem.call (.builtin id) (ov :: vs)) Q E s₂) E s₁) E s) : wpAny (model prog w) A (eval (.Call (.Attribute o name apos) es [] pos) F.env) Q E s := by
  refine wpAny_Call_method_lateS hb ?_ hl ?_
  · rw [hs, backTo_plain]
    have e1 : ∀ es : List PySem.Expr, (plainArgs es F.env).all (fun x => !x.1) = true := fun es => by induction es with
      | nil => rfl
      | cons e es ih => exact ih
    rw [e1]
    simp [backToKw, keywordEach, hlen]
  · rw [hs, backTo_plain]
    refine wpAny_mono h (fun ov s₁ ⟨t, nd, h⟩ => ?_) fun _ _ e => e
    exact ⟨T, id, m.pa, m.slot, m.ty, t, nd, callWith_val (plainArgs_any _ _) (fun b e => nomatch e) h⟩
abbrev m_append : MethOk "list" "append" "list.append" := ⟨PySem.F.plainAttrs_list, PySem.F.slot_list_append, type_list_append, by decide⟩
theorem ex_append {x : Str} {np apos pos spos : PySem.Pos} {e : PySem.Expr} {l : List IV} {y : IV} {fr : Bool} (i : Nat) {acc : Option Addr} (hs : F.slots[i]? = some (x, acc)) (hr : ρ[i]? = some (.list l, true)) (hy : EvJ prog w F ρ k e (.iv y) fr) (hsz : l.length ≤ sizeLine)
    (hse : starEach [e] F.env = plainArgs [e] F.env) (hl : (apos.endLine == pos.line) = true) (hat : attributeBase (.Name x np) "append" F.env (eval (.Name x np) F.env) = eval (.Name x np) F.env) (hi : interactive F.env = false := by rfl) (hd : (x == ("__debug__" : Str)) = false := by decide)
    (hn : (x == ("__classdict__" : Str)) = false := by decide) : ExS prog w F ρ k (exec (.Expr (.Call (.Attribute (.Name x np) "append" apos) [e] [] pos) spos) F.env) (Only (ρ.set i (.list (l ++ [y]), true))) := fun b r lf ok A s rm I => by
  obtain ⟨ov, fp, hat', hrep, hmut⟩ := I.mut ok hs hr
  cases ov with
  | none => exact hrep.elim
  | some v =>
    obtain ⟨L, vs, rfl, hL, hvs, rfl⟩ := hrep
    refine wpAny_Expr_any (meth_wp hat hse hl (by simp) m_append (name_wp (F := F.up b r) ok hs hat' ?_ hd hn)) hi
    refine ⟨hL.isList.typeIs, fun a ea => ?_, ?_⟩
    · cases ea
      obtain ⟨o, n, ho, _, hdn, _⟩ := hL
      exact ⟨o, ho, hdn⟩
    · refine Calls.spliced_cons (wpAny_mono (hy A s rm (I.down lf)) (fun v s₁ ⟨x₁, fp, r₁, _⟩ => Calls.spliced_nil ?_) fun _ _ e => e)
      refine wp_append (hL.keeps x₁.2) (by rw [List.size_toArray, hvs.length]; exact hsz) fun h' hl' hs' => ?_
      have ch : Chg [L] s₁.heap h' := Chg.of_sameBut hs'
      have nt : ∀ a ∈ [L], NT s₁.heap a := fun a ha => by rw [List.mem_singleton.mp ha]; exact NT.list (hL.keeps x₁.2)
      refine ⟨.next, _, ⟨rfl, rfl⟩, hmut s₁ h' s₁.toks _ x₁ ch ⟨L, vs ++ [v], rfl, by rw [← List.push_toArray]; exact hl', ?_, rfl⟩, trivial⟩
      exact IVs.append ((hvs.keep x₁.2).chg ch (.inl nt)) ⟨IV.chg ch (.inl nt) r₁.1, trivial⟩
end
variable {prog : Program} {w : World}
section
variable {F : Fm} {ρ ρ₁ : Rho} {k : Nat} {P : Fl → Rho → Prop}
theorem ex_weak {t : Sem Flow} (hw : Weaker ρ ρ₁) (h : ExS prog w F ρ₁ k t P) : ExS prog w F ρ k t P := fun b r lf ok A s rm I => h b r lf ok A s rm (I.weak hw)
theorem Inv.alias {s : Shared} {i j : Nat} {x : Str} {p : PV} {v : Value} (ok : FmOk F) (I : Inv prog w F ρ s) (hs : F.slots[i]? = some (x, none)) {h' : Heap} {m m' : Str → Option Value} (t : Nat) (hm : s.heap.Ns F.env.locals m) (hn : h'.Ns F.env.locals m') (hsb : Heap.SameBut F.env.locals s.heap h')
    (hx : m' x = some v) (ho : ∀ y, y ≠ x → m' y = m y) (hj : ρ[j]? = some (p, false)) {y : Str} {acc : Option Addr} (hsj : F.slots[j]? = some (y, acc)) (hv : At' F s y acc (some v)) : Inv prog w F (ρ.set i (p, false)) { s with heap := h', toks := t } := by
  have I0 := I
  obtain ⟨kk, gg, oo, ln, rs, ac, m₀, hm₀, fp, a, c⟩ := I
  obtain ⟨oL, _, _, hoL, _⟩ := id hm₀
  have ch : Chg [F.env.locals] s.heap h' := Chg.of_sameBut hsb
  have nt : ∀ z ∈ [F.env.locals], NT s.heap z := fun z hz => by rw [List.mem_singleton.mp hz]; exact NT.ns hm
  obtain ⟨ovj, j3, j4, j5⟩ := a j y acc p false hsj hj
  have ej : ovj = some v := by
    cases acc with
    | none =>
      obtain ⟨m1, hm1, e1⟩ := hv
      have j3 : ovj = m₀ y := j3
      rw [j3, ns_uniq hm₀ hm1, ← e1]
    | some cc =>
      obtain ⟨o, ho, hd⟩ := (show s.heap.IsCell cc ovj from j3)
      obtain ⟨o', ho', hd'⟩ := (show s.heap.IsCell cc (some v) from hv)
      rw [ho] at ho'; cases ho'
      rw [hd] at hd'; cases hd'; rfl
  subst ej
  have keepL : ∀ z o, z ≠ F.env.locals → s.heap.get? z = some o → h'.get? z = some o := fun z o hz e => (hsb.2 z hz).trans e
  obtain ⟨fp', f1, f2⟩ : ∃ fp' : Nat → List Addr, fp' i = fp j ∧ ∀ l, l ≠ i → fp' l = fp l := ⟨fun l => if l = i then fp j else fp l, if_pos rfl, fun l hl => if_neg hl⟩
  refine ⟨fun z o e => keepL z o (fun q => by rw [q, ok.baseL] at e; cases e) (kk z o e), gg, oo, by rw [List.length_set]; exact ln, fun z hz => let ⟨o, ho⟩ := rs z hz; ⟨o, keepL z o (fun q => ok.resL (q ▸ hz)) ho⟩,
    fun d hd => acc_chg ch (fun q => (ok.acc d hd).2.2.1 (List.mem_singleton.mp q)) (ac d hd), m', hn, fp', fun l z acc' q own h1 h2 => ?_, fun l q h1 z hz => ?_⟩
  · by_cases hl : l = i
    · subst hl
      obtain ⟨rfl, rfl⟩ : q = p ∧ own = false := by have := set_at h2; exact ⟨congrArg Prod.fst this, congrArg Prod.snd this⟩
      rw [hs] at h1
      cases h1
      rw [f1]
      exact ⟨some v, hx.symm, j4.chg ch (.inl nt) (fun z hz q => (j5 z hz).1.1 (List.mem_singleton.mp q)), j5⟩
    · rw [set_ne hl] at h2
      rw [f2 l hl]
      obtain ⟨ov', h6, h7, h8⟩ := a l z acc' q own h1 h2
      refine ⟨ov', ?_, h7.chg ch (.inl nt) (fun z hz q => (h8 z hz).1.1 (List.mem_singleton.mp q)), h8⟩
      cases acc' with
      | none =>
        have h6 : ov' = m₀ z := h6
        show ov' = m' z
        rw [h6, ho z fun q => hl (ok.names l i z none none h1 (by rw [q]; exact hs)), ns_uniq hm₀ hm]
      | some cc => exact Heap.IsCell.sameBut h6 hsb (ok.cel l z cc h1).2.2
  · by_cases hl : l = i
    · subst hl
      have := set_at h1
      cases this
    · rw [set_ne hl] at h1
      rw [f2 l hl] at hz
      obtain ⟨c1, c2⟩ := c l q h1 z hz
      refine ⟨c1, fun n q' hn' hq' => ?_⟩
      by_cases hni : n = i
      · subst hni
        rw [f1]
        by_cases hjl : j = l
        · subst hjl; rw [hj] at h1; cases h1
        · exact c2 j _ hjl hj
      · rw [f2 n hni]
        rw [set_ne hni] at hq'
        exact c2 n q' hn' hq'
theorem ex_alias {x y : Str} {np yp pos : PySem.Pos} {p : PV} (i j : Nat) {acc : Option Addr} (hs : F.slots[i]? = some (x, none)) (hsj : F.slots[j]? = some (y, acc)) (hj : ρ[j]? = some (p, false)) (hp : p ≠ .any) (hsw : swapsWith (.Name y yp) (some (.Name x np)) pos.line F.env = pure false := by rfl)
    (hd : (y == ("__debug__" : Str)) = false := by decide) (hn : (y == ("__classdict__" : Str)) = false := by decide) : ExS prog w F ρ k (exec (.Assign [.Name x np] (.Name y yp) pos) F.env) (Only (ρ.set i (p, false))) := fun b r lf ok A s rm I => by
  have I0 := I
  obtain ⟨kk, gg, oo, ln, rs, ac, m₀, hm₀, fp, a, c⟩ := I
  obtain ⟨ov, j3, j4, j5⟩ := a j y acc p false hsj hj
  have hat : At' (F.up b r) s y acc ov := by
    cases acc with
    | none => exact ⟨m₀, hm₀, j3⟩
    | some cc => exact j3
  cases ov with
  | none => cases p <;> first | exact absurd rfl hp | exact j4.elim
  | some v =>
    refine wpAny_Assign_Name (name_wp (F := F.up b r) ok hsj hat ?_ hd hn) hsw
    refine wpAny_storeName_local (ok.loc i x hs) hm₀ (fun h' hn hsb => ?_) (by
      show (F.env.scope.kind == .class || (F.env.scope.kind == .module && F.env.locals != F.env.globals)) = false
      rw [show F.env.scope.kind = .function from ok.kind]; rfl)
    exact ⟨.next, _, ⟨rfl, rfl⟩, Inv.alias (F := F.up b r) ok I0 hs _ hm₀ hn hsb (if_pos rfl) (fun z hz => if_neg hz) hj hsj hat, trivial⟩
theorem ex_aug_str {x : Str} {np pos : PySem.Pos} {e : PySem.Expr} {a c : Str} {own own' fr : Bool} (i : Nat) (hs : F.slots[i]? = some (x, none)) (hr : ρ[i]? = some (.str a, own)) (he : EvJ prog w F ρ k e (.str c) fr) (hsz : a.length + c.length ≤ sizeLine) :
    ExS prog w F ρ k (exec (.AugAssign (.Name x np) .Add e pos) F.env) (Only (ρ.set i (.str (a ++ c), own'))) := fun b r lf ok A s rm I => by
  obtain ⟨m, hm, fp, aa, cc⟩ := I.sl
  obtain ⟨ov, h3, h4, _⟩ := aa i x none _ own hs hr
  have h3 : ov = m x := h3
  subst h3
  cases hv : m x with
  | none => rw [hv] at h4; exact h4.elim
  | some v =>
    rw [hv] at h4
    obtain ⟨⟨t, rfl⟩, _⟩ := h4
    refine wpAny_AugAssign_Name (wpAny_loadName_local ok.kind (ok.loc i x hs) hm hv ?_)
    refine wpAny_mono (he A s rm (I.down lf)) (fun v s₁ ⟨x₁, fp, ⟨⟨u, e1⟩, _⟩, _⟩ => ?_) fun _ _ e => e
    subst e1
    refine SB.iadd (fun t' k' => ?_) hsz
    exact store_wp (F := F.up b r) (s₀ := s₁) (p := .str (a ++ c)) (fpn := []) ok hs own_none (I.ext x₁) (Ext.tok s₁ k') ⟨⟨t', rfl⟩, rfl⟩ (fun z hz => nomatch hz) fun s' I' => ⟨.next, _, ⟨rfl, rfl⟩, I', trivial⟩
end
variable {prog : Program} {w : World}
section
variable {k : Nat} {base : Addr → Option Obj} {B : Addr → Option Obj}
theorem giv_str {s : Shared} {x : Str} {t : Tok} {n : Nat} {fr : Bool} : Gives' prog w (.str x) fr s (.str x t) { s with toks := n } := ⟨Ext.tok s n, [], ⟨⟨t, rfl⟩, rfl⟩, fun _ a ha => nomatch ha⟩
theorem giv_int {s : Shared} {x : Int} {t : Tok} {n : Nat} {fr : Bool} : Gives' prog w (.int x) fr s (.int x t) { s with toks := n } := ⟨Ext.tok s n, [], ⟨⟨t, rfl⟩, rfl⟩, fun _ a ha => nomatch ha⟩
theorem giv_bool {s : Shared} {x : Bool} {fr : Bool} : Gives' prog w (.bool x) fr s (.bool x) s := ⟨Ext.refl s, [], ⟨rfl, rfl⟩, fun _ a ha => nomatch ha⟩
theorem giv_none {s : Shared} {fr : Bool} : Gives' prog w .none fr s .none s := ⟨Ext.refl s, [], ⟨rfl, rfl⟩, fun _ a ha => nomatch ha⟩
theorem op_add_str {x y : Str} (h : x.length + y.length ≤ sizeLine) : Op2 (prog := prog) (w := w) k (binaryOp .Add) (.str x) (.str y) (.str (x ++ y)) true := fun A s a b fa fb rm g ⟨⟨t, e1⟩, _⟩ ⟨⟨u, e2⟩, _⟩ => by
  subst e1 e2; exact SB.add (fun t' n => giv_str) h
theorem op_mul_str {x : Str} {n : Int} (h : MulOk x n) : Op2 (prog := prog) (w := w) k (binaryOp .Mult) (.str x) (.int n) (.str (Txt.mul x n)) true := fun A s a b fa fb rm g ⟨⟨t, e1⟩, _⟩ ⟨⟨u, e2⟩, _⟩ => by
  subst e1 e2; exact SB.mul h (fun t' n => giv_str)
theorem op_add_int {x y : Int} : Op2 (prog := prog) (w := w) k (binaryOp .Add) (.int x) (.int y) (.int (x + y)) true := fun A s a b fa fb rm g ⟨⟨t, e1⟩, _⟩ ⟨⟨u, e2⟩, _⟩ => by
  subst e1 e2; exact P.add_int giv_int
theorem op_sub_int {x y : Int} : Op2 (prog := prog) (w := w) k (binaryOp .Sub) (.int x) (.int y) (.int (x - y)) true := fun A s a b fa fb rm g ⟨⟨t, e1⟩, _⟩ ⟨⟨u, e2⟩, _⟩ => by
  subst e1 e2; exact P.sub_int giv_int
theorem op_mod_int {x y : Int} (h : y ≠ 0) : Op2 (prog := prog) (w := w) k (binaryOp .Mod) (.int x) (.int y) (.int (x.fmod y)) true := fun A s a b fa fb rm g ⟨⟨t, e1⟩, _⟩ ⟨⟨u, e2⟩, _⟩ => by
  subst e1 e2; exact mod_int h giv_int
theorem op_eq_str {x y : Str} : Op2 (prog := prog) (w := w) k (compareOp .Eq) (.str x) (.str y) (.bool (x == y)) true := fun A s a b fa fb rm g ⟨⟨t, e1⟩, _⟩ ⟨⟨u, e2⟩, _⟩ => by
  subst e1 e2
  have e : (x.cps.toList == y.cps.toList) = (x == y) := by
    rw [Bool.eq_iff_iff, beq_iff_eq, beq_iff_eq]
    exact ⟨fun h => by obtain ⟨a⟩ := x; obtain ⟨b⟩ := y; simpa using congrArg List.toArray h, fun h => by rw [h]⟩
  exact P.eq_str (e ▸ giv_bool)
theorem op_ne_str {x y : Str} : Op2 (prog := prog) (w := w) k (compareOp .NotEq) (.str x) (.str y) (.bool (x != y)) true := fun A s a b fa fb rm g ⟨⟨t, e1⟩, _⟩ ⟨⟨u, e2⟩, _⟩ => by
  subst e1 e2
  have e : (x.cps.toList == y.cps.toList) = (x == y) := by
    rw [Bool.eq_iff_iff, beq_iff_eq, beq_iff_eq]
    exact ⟨fun h => by obtain ⟨a⟩ := x; obtain ⟨b⟩ := y; simpa using congrArg List.toArray h, fun h => by rw [h]⟩
  have e' : (x.cps.toList != y.cps.toList) = (x != y) := congrArg (!·) e
  exact P.ne_str (e' ▸ giv_bool)
theorem op_eq_int {x y : Int} : Op2 (prog := prog) (w := w) k (compareOp .Eq) (.int x) (.int y) (.bool (x == y)) true := fun A s a b fa fb rm g ⟨⟨t, e1⟩, _⟩ ⟨⟨u, e2⟩, _⟩ => by
  subst e1 e2; exact P.eq_int giv_bool
theorem op_le_int {x y : Int} : Op2 (prog := prog) (w := w) k (compareOp .LtE) (.int x) (.int y) (.bool (decide (x ≤ y))) true := fun A s a b fa fb rm g ⟨⟨t, e1⟩, _⟩ ⟨⟨u, e2⟩, _⟩ => by
  subst e1 e2; exact P.le_int giv_bool
theorem op_gt_int {x y : Int} : Op2 (prog := prog) (w := w) k (compareOp .Gt) (.int x) (.int y) (.bool (decide (x > y))) true := fun A s a b fa fb rm g ⟨⟨t, e1⟩, _⟩ ⟨⟨u, e2⟩, _⟩ => by
  subst e1 e2; exact P.gt_int giv_bool
abbrev m_lower : MethOk "str" "lower" "str.lower" := ⟨PySem.F.plainAttrs_str, PySem.F.slot_str_lower, PySem.F.type_str_lower, by decide⟩
abbrev m_upper : MethOk "str" "upper" "str.upper" := ⟨PySem.F.plainAttrs_str, PySem.F.slot_str_upper, PySem.F.type_str_upper, by decide⟩
abbrev m_lstrip : MethOk "str" "lstrip" "str.lstrip" := ⟨PySem.F.plainAttrs_str, PySem.F.slot_str_lstrip, PySem.F.type_str_lstrip, by decide⟩
abbrev m_startswith : MethOk "str" "startswith" "str.startswith" := ⟨PySem.F.plainAttrs_str, PySem.F.slot_str_startswith, PySem.F.type_str_startswith, by decide⟩
abbrev m_split : MethOk "str" "split" "str.split" := ⟨PySem.F.plainAttrs_str, PySem.F.slot_str_split, PySem.F.type_str_split, by decide⟩
abbrev m_join : MethOk "str" "join" "str.join" := ⟨PySem.F.plainAttrs_str, PySem.F.slot_str_join, PySem.F.type_str_join, by decide⟩
theorem reps1 {h : Heap} {p : PV} {vs : List Value} (r : Reps prog w h [p] vs) : ∃ v, vs = [v] ∧ ∃ fp, Rep prog w h p v fp := by
  match vs, r with
  | [v], ⟨⟨fp, a⟩, _⟩ => exact ⟨v, rfl, fp, a⟩
  | [], r => exact r.elim
  | _ :: _ :: _, ⟨_, r⟩ => exact r.elim
theorem reps2 {h : Heap} {p q : PV} {vs : List Value} (r : Reps prog w h [p, q] vs) : ∃ v u, vs = [v, u] ∧ (∃ fp, Rep prog w h p v fp) ∧ ∃ fp, Rep prog w h q u fp := by
  match vs, r with
  | [v, u], ⟨a, b, _⟩ => exact ⟨v, u, rfl, a, b⟩
  | [], r => exact r.elim
  | [_], ⟨_, r⟩ => exact r.elim
  | _ :: _ :: _ :: _, ⟨_, _, r⟩ => exact r.elim
noncomputable abbrev strsIV (l : List Str) : List IV := l.map fun x => .at (.str x)
noncomputable abbrev intsIV (l : List Int) : List IV := l.map fun x => .at (.int x)
noncomputable abbrev boolsIV (l : List Bool) : List IV := l.map fun x => .at (.bool x)
theorem ivs_strs {h : Heap} : ∀ {l : List Str} {vs : List Value}, IVs h (strsIV l) vs → StrsAre vs l
  | [], [], _ => .nil
  | x :: l, v :: vs, ⟨⟨t, e⟩, b⟩ => by subst e; exact .cons x t (ivs_strs b)
  | [], _ :: _, e => e.elim
  | _ :: _, [], e => e.elim
theorem strs_ivs {h : Heap} : ∀ {l : List Str} {vs : List Value}, StrsAre vs l → IVs h (strsIV l) vs
  | _, _, .nil => trivial
  | _, _, .cons x t r => ⟨⟨t, rfl⟩, strs_ivs r⟩
theorem strs_vals : ∀ {l : List Str} {vs : List Value}, StrsAre vs l → ∃ tl : List (Str × Tok), vs = strValues tl ∧ tl.map (·.1) = l
  | _, _, .nil => ⟨[], rfl, rfl⟩
  | _, _, .cons x t r => let ⟨tl, h1, h2⟩ := strs_vals r; ⟨(x, t) :: tl, by rw [h1]; rfl, by rw [← h2]; rfl⟩
theorem vals_strs {h : Heap} : ∀ (tl : List (Str × Tok)), IVs h (strsIV (tl.map (·.1))) (strValues tl)
  | [] => trivial
  | (x, t) :: tl => ⟨⟨t, rfl⟩, vals_strs tl⟩
theorem ints_vals {h : Heap} : ∀ {l : List Int} {vs : List Value}, IVs h (intsIV l) vs → ∃ tl : List (Int × Tok), vs.toArray = intItems tl.toArray ∧ tl.map (·.1) = l
  | [], [], _ => ⟨[], by simp [intItems], rfl⟩
  | x :: l, v :: vs, ⟨⟨t, e⟩, b⟩ => by
    obtain ⟨tl, h1, h2⟩ := ints_vals b
    refine ⟨(x, t) :: tl, ?_, by rw [← h2]; rfl⟩
    subst e
    have h3 : vs = (intItems tl.toArray).toList := by rw [← h1]
    rw [h3]; simp [intItems]
  | [], _ :: _, e => e.elim
  | _ :: _, [], e => e.elim
theorem giv_list {s : Shared} {l : List IV} {vs : List Value} {n : Nat} {o : Obj} (hc : o.cls = .type "list") (hd : o.dict = none) (hs : ∃ k, o.data = .seq vs.toArray k) (hv : IVs s.heap l vs) : Gives' prog w (.list l) true s (.ref s.heap.objs.size) { s with heap := s.heap.push o, toks := n } := by
  obtain ⟨k, hk⟩ := hs
  have hf : o.isFreed = false := Obj.isFreed_of_seq hk
  exact ⟨Ext.push s o n, [s.heap.objs.size], ⟨_, vs, rfl, ⟨o, k, Heap.get?_push_size _ hf, hc, hd, hk⟩, hv.keep (Ext.push s o n).2, rfl⟩, fun _ a ha => by rw [List.mem_singleton.mp ha]; exact fresh_size (Ext.refl s) (Nat.le_refl _)⟩
theorem c_lower {x : Str} (h : Builtin.Str.tooLong (Txt.lower x).length = false) : CallP prog w base k (.builtin "str.lower") [.str x] (.str (Txt.lower x)) true := fun A s vs rm g bk r => by
  obtain ⟨v, rfl, fp, ⟨t, rfl⟩, _⟩ := reps1 r
  exact SC.lower h giv_str
theorem c_startswith {x y : Str} : CallP prog w base k (.builtin "str.startswith") [.str x, .str y] (.bool (Txt.startswith x y)) true := fun A s vs rm g bk r => by
  obtain ⟨v, u, rfl, ⟨fp, ⟨t, rfl⟩, _⟩, ⟨fp', ⟨t', rfl⟩, _⟩⟩ := reps2 r
  exact SC.startswith giv_bool
theorem c_lstrip {x y : Str} (hsz : x.length ≤ sizeLine) : CallP prog w base k (.builtin "str.lstrip") [.str x, .str y] (.str (Txt.lstripChars x y)) true := fun A s vs rm g bk r => by
  obtain ⟨v, u, rfl, ⟨fp, ⟨t, rfl⟩, _⟩, ⟨fp', ⟨t', rfl⟩, _⟩⟩ := reps2 r
  exact SC.lstripChars (fun t' n => giv_str) hsz
theorem c_join {x : Str} {l : List Str} (h : JoinOk x l = true) : CallP prog w base k (.builtin "str.join") [.str x, .list (strsIV l)] (.str (Txt.join x l)) true := fun A s vs rm g bk r => by
  obtain ⟨v, u, rfl, ⟨fp, ⟨t, rfl⟩, _⟩, ⟨fp', L, us, rfl, hl, hi, _⟩⟩ := reps2 r
  obtain ⟨tl, e1, e2⟩ := strs_vals (ivs_strs hi)
  exact SC.join (l := tl) (by rw [← e1]; exact hl.isList) e2 h (fun t' n => giv_str)
open Builtin.Str in
theorem c_split {x y : Str} (hy : (y.length == 0) = false) (hsz : x.length ≤ sizeLine) (hsz2 : (partsBetween x (occurrences x y 0 x.length (x.length + 1)) y.length).length ≤ sizeLine) :
    CallP prog w base k (.builtin "str.split") [.str x, .str y] (.list (strsIV (Txt.split x y))) true := fun A s vs rm g bk r => by
  obtain ⟨v, u, rfl, ⟨fp, ⟨t, rfl⟩, _⟩, ⟨fp', ⟨u, rfl⟩, _⟩⟩ := reps2 r
  cases h1 : (decide (x.length < y.length) || decide (Builtin.Str.strKind x < Builtin.Str.strKind y))
  · cases hf : (occurrences x y 0 x.length (x.length + 1)).isEmpty
    · refine call_meets PySem.F.slot_str_split (typeIs_str _ _ _) PySem.F.entry_str_split (PySem.F.args_str_split_2 _ _) (meets_str_split_sep x y t u h1 hy hf hsz hsz2) ?_
      have e : Txt.split x y = (numbered s.toks (partsBetween x (occurrences x y 0 x.length (x.length + 1)) y.length)).map (·.1) := ((numbered_texts _ _).trans ((if_neg (ne_true_of_eq_false h1)).trans (if_neg (ne_true_of_eq_false hf))).symm).symm
      rw [e]
      show wants _ No _ { s with toks := _, heap := s.heap.push { cls := .type "list", data := .seq (strsFrom s.toks (partsBetween x (occurrences x y 0 x.length (x.length + 1)) y.length)).toArray } }
      rw [strsFrom_eq]
      exact giv_list rfl rfl ⟨_, rfl⟩ (vals_strs _)
    · have e : Txt.split x y = [x] := (if_neg (ne_true_of_eq_false h1)).trans (if_pos hf)
      rw [e]
      exact call_meets PySem.F.slot_str_split (typeIs_str _ _ _) PySem.F.entry_str_split (PySem.F.args_str_split_2 _ _) (meets_str_split_not_found x y t u h1 hy hf) (giv_list (n := s.toks) (vs := [.str x t]) rfl rfl ⟨_, rfl⟩ ⟨⟨t, rfl⟩, trivial⟩)
  · have e : Txt.split x y = [x] := if_pos h1
    rw [e]
    exact call_meets PySem.F.slot_str_split (typeIs_str _ _ _) PySem.F.entry_str_split (PySem.F.args_str_split_2 _ _) (meets_str_split_cannot_occur x y t u h1) (giv_list (n := s.toks) (vs := [.str x t]) rfl rfl ⟨_, rfl⟩ ⟨⟨t, rfl⟩, trivial⟩)
theorem c_len_list {l : List IV} (h : l.length < 2 ^ 62) : CallP prog w base k (.builtin "len") [.list l] (.int l.length) true := fun A s vs rm g bk r => by
  obtain ⟨v, rfl, fp, L, us, rfl, hl, hi, _⟩ := reps1 r
  have e : us.toArray.size = l.length := by rw [List.size_toArray]; exact hi.length
  refine Calls.call_len_list hl.isList (by rw [e]; lia) ?_
  rw [e]; exact giv_int
theorem c_len_str {x : Str} (h : x.length < 2 ^ 62) : CallP prog w base k (.builtin "len") [.str x] (.int x.length) true := fun A s vs rm g bk r => by
  obtain ⟨v, rfl, fp, ⟨t, rfl⟩, _⟩ := reps1 r
  exact P.len_str (by lia) giv_int
theorem c_chr {i : Int} (h0 : 0 ≤ i) (h1 : i ≤ 1114111) : CallP prog w base k (.builtin "chr") [.int i] (.str ⟨#[i.toNat]⟩) true := fun A s vs rm g bk r => by
  obtain ⟨v, rfl, fp, ⟨t, rfl⟩, _⟩ := reps1 r
  exact chr_of_range h0 h1 giv_str
theorem c_ord {c : Nat} : CallP prog w base k (.builtin "ord") [.str ⟨#[c]⟩] (.int c) true := fun A s vs rm g bk r => by
  obtain ⟨v, rfl, fp, ⟨t, rfl⟩, _⟩ := reps1 r
  exact P.ord_of_char giv_int
theorem c_sum {l : List Int} : CallP prog w base k (.builtin "sum") [.list (intsIV l)] (.int l.sum) true := fun A s vs rm g bk r => by
  obtain ⟨v, rfl, fp, L, us, rfl, hl, hi, _⟩ := reps1 r
  obtain ⟨tl, e1, e2⟩ := ints_vals hi
  refine sum_intListG rm.handled (xs := tl.toArray) (by rw [← e1]; exact hl.isList) fun h' tk t' hk => ?_
  have e3 : preSum (numAt tl.toArray) tl.toArray.size = l.sum := by
    rw [preSum_eq, List.take_of_length_le (by simp), ← e2]
  rw [e3]
  exact ⟨⟨⟨rfl, rfl⟩, hk⟩, [], ⟨⟨t', rfl⟩, rfl⟩, fun _ a ha => nomatch ha⟩
end
variable {prog : Program} {w : World}
section
variable {F : Fm} {ρ : Rho} {k : Nat}
theorem sub_wp {A : Around} {s : Shared} {value slice : PySem.Expr} {pos : PySem.Pos} {Q E : Value → Shared → Prop} {env : Env}
    (h : wpAny (model prog w) A (eval value env) (fun o s₁ => wpAny (model prog w) A (eval slice env) (fun i s₂ => ∃ T id, typeLookup (.type T) "__getitem__" = pure (some (.builtin id)) ∧ s₂.TypeIs o T ∧ wpAny (model prog w) A (getItem o i) Q E s₂) E s₁) E s) :
    wpAny (model prog w) A (eval (.Subscript value slice pos) env) Q E s := by
  rw [eval_Subscript]
  refine wpAny_bind (wpAny_mono h (fun o s₁ h₁ => wpAny_bind (wpAny_holding (wpAny_mono h₁ (fun i s₂ h₂ => wpAny_bind (wpAny_standAt ?_)) fun _ _ x => x))) fun _ _ x => x)
  obtain ⟨T, id, hl, hT, hg⟩ := h₂
  refine wpAny_bind ?_
  rw [getitemInPython_of_ne hT.not_modules]
  refine wpAny_bind (wpAny_specialOf hT hl (wpAny_pure ?_))
  have fin : ∀ l, wpAny (model prog w) A (operate l (getItem o i)) (fun r s₃ => wpAny (model prog w) A (letTemporaryGo value o r >>= fun _ => pure r) Q E s₃) E s₂ := fun l =>
    wpAny_operating (wpAny_mono hg (fun r s₃ h₃ => wpAny_bind (wpAny_letTemporaryGo (wpAny_pure h₃))) fun _ _ x => x)
  refine wpAny_bind ?_
  unfold subscripted
  split
  · exact fin _
  · rename_i hb; cases hb
  · exact fin _
theorem seqIx {n m : Nat} (h : n < m) : seqIndex? (n : Int) m = some n := by
  unfold seqIndex?; simp; lia
theorem ev_sub_list {e i : PySem.Expr} {pos : PySem.Pos} {l : List IV} {n : Nat} {x : IV} {f1 f2 fr : Bool} (he : EvJ prog w F ρ k e (.list l) f1) (hi : EvJ prog w F ρ k i (.int n) f2) (hx : l[n]? = some x) (hn : n < 2 ^ 62) : EvJ prog w F ρ k (.Subscript e i pos) (.iv x) fr := fun A s rm I => by
  refine sub_wp (wpAny_mono (he A s rm I) (fun o s₁ ⟨x₁, fp, ⟨L, vs, e1, hl, hv, _⟩, _⟩ => ?_) fun _ _ e => e)
  subst e1
  refine wpAny_mono (hi A s₁ rm (I.ext x₁)) (fun j s₂ ⟨x₂, fp₂, ⟨⟨t, e2⟩, _⟩, _⟩ => ?_) fun _ _ e => e
  subst e2
  have hl₂ := (hl.keeps x₂.2).isList
  obtain ⟨v, h1, h2⟩ := (hv.keep x₂.2).get hx
  refine ⟨"list", _, list_getitem_lookup, hl₂.typeIs, wpAny_getItem_list hl₂ (Int.natCast_nonneg n) (by lia) (x := v) (by simpa using h1) ?_⟩
  exact ⟨x₁.trans x₂, [], ⟨h2, rfl⟩, fun _ a ha => nomatch ha⟩
theorem ev_sub_tup {e i : PySem.Expr} {pos : PySem.Pos} {l : List At} {n : Nat} {x : At} {f1 f2 fr : Bool} (he : EvJ prog w F ρ k e (.tup l) f1) (hi : EvJ prog w F ρ k i (.int n) f2) (hx : l[n]? = some x) (hn : n < 2 ^ 62) : EvJ prog w F ρ k (.Subscript e i pos) (.iv (.at x)) fr := fun A s rm I => by
  refine sub_wp (wpAny_mono (he A s rm I) (fun o s₁ ⟨x₁, fp, ⟨⟨L, vs, e1, hl, hv⟩, _⟩, _⟩ => ?_) fun _ _ e => e)
  subst e1
  refine wpAny_mono (hi A s₁ rm (I.ext x₁)) (fun j s₂ ⟨x₂, fp₂, ⟨⟨t, e2⟩, _⟩, _⟩ => ?_) fun _ _ e => e
  subst e2
  have hl₂ := hl.keeps x₂.2
  obtain ⟨v, h1, h2⟩ := hv.get hx
  have hlt : n < vs.toArray.size := by rw [List.size_toArray]; exact (List.getElem?_eq_some_iff.mp h1).1
  refine ⟨"tuple", _, slot_tuple_getitem.lookup, hl₂.typeIs, getItem_tuple hl₂ (by lia) (by lia) (j := n) (x := v) (seqIx hlt) (by simpa using h1) ?_⟩
  exact ⟨x₁.trans x₂, [], ⟨h2, rfl⟩, fun _ a ha => nomatch ha⟩
inductive PartJ (prog : Program) (w : World) (F : Fm) (ρ : Rho) (k : Nat) : Option PySem.Expr → Option Int → Prop
  | none : PartJ prog w F ρ k none none
  | some {e i fr} : EvJ prog w F ρ k e (.int i) fr → PartJ prog w F ρ k (some e) (some i)
def IsPt (v : Value) : Option Int → Prop
  | none => v = .none
  | some i => ∃ t, v = .int i t
theorem part_wp {e : Option PySem.Expr} {i : Option Int} (h : PartJ prog w F ρ k e i) : ∀ A s, Room k A → Inv prog w F ρ s → wpAny (model prog w) A (evalPart e F.env) (fun v s' => Ext s s' ∧ IsPt v i) No s := fun A s rm I => by
  cases h with
  | none => exact wpAny_pure ⟨Ext.refl s, rfl⟩
  | some h => exact wpAny_mono (h A s rm I) (fun v s' ⟨x, fp, ⟨t, _⟩, _⟩ => ⟨x, t⟩) fun _ _ e => e
theorem IsPt.part {v : Value} {i : Option Int} (h : IsPt v i) : IsPart v i := by
  cases i with
  | none => cases h; exact .none
  | some i => obtain ⟨t, rfl⟩ := h; exact .int i t
theorem IsPt.val {v : Value} {i : Option Int} (h : IsPt v i) : ∃ l : Option (Int × Tok), v = partValue l ∧ l.map (·.1) = i := by
  cases i with
  | none => cases h; exact ⟨none, rfl, rfl⟩
  | some i => obtain ⟨t, rfl⟩ := h; exact ⟨some (i, t), rfl, rfl⟩
theorem ev_slice_list {e : PySem.Expr} {lo hi st : Option PySem.Expr} {p pos : PySem.Pos} {l : List IV} {a b c : Option Int} {f1 : Bool} (he : EvJ prog w F ρ k e (.list l) f1) (h1 : PartJ prog w F ρ k lo a) (h2 : PartJ prog w F ρ k hi b) (h3 : PartJ prog w F ρ k st c) (hc : c ≠ some 0)
    (hsz : l.length ≤ sizeLine) : EvJ prog w F ρ k (.Subscript e (.Slice lo hi st p) pos) (.list ((sliceRange (sliceBounds a b c l.length).1 (sliceBounds a b c l.length).2.1 (sliceBounds a b c l.length).2.2).filterMap (l[·]?))) true := fun A s rm I => by
  refine sub_wp (wpAny_mono (he A s rm I) (fun o s₁ ⟨x₁, fp, ⟨L, vs, e1, hl, hv, _⟩, _⟩ => ?_) fun _ _ e => e)
  subst e1
  refine wpAny_Slice (wpAny_mono (part_wp h1 A s₁ rm (I.ext x₁)) (fun v1 s₂ ⟨x₂, p1⟩ => ?_) fun _ _ e => e)
  refine wpAny_mono (part_wp h2 A s₂ rm ((I.ext x₁).ext x₂)) (fun v2 s₃ ⟨x₃, p2⟩ => ?_) fun _ _ e => e
  refine wpAny_mono (part_wp h3 A s₃ rm (((I.ext x₁).ext x₂).ext x₃)) (fun v3 s₄ ⟨x₄, p3⟩ => ?_) fun _ _ e => e
  have x₅ : Ext s₄ { s₄ with heap := s₄.heap.push { cls := .type "slice", data := .fields #[v1, v2, v3] } } := Ext.push s₄ _ _
  have x15 := ((x₂.trans x₃).trans x₄).trans x₅
  have hl₅ := (hl.keeps x15.2).isList
  have ev : vs.toArray.size = l.length := by rw [List.size_toArray]; exact hv.length
  refine ⟨"list", _, list_getitem_lookup, hl₅.typeIs, wpAny_getItem_list_slice (lo := a) (hi := b) (st := c) hl₅ (Heap.IsSliceOf.new ..) p1.part p2.part p3.part hc ?_ (by rw [ev]; exact hsz)⟩
  refine give_trans (x₁.trans x15) ?_
  refine giv_list (vs := (slicePick vs.toArray a b c).toList) rfl rfl ⟨0, by rw [Array.toArray_toList]⟩ ?_
  have hv5 := hv.keep x15.2
  unfold slicePick
  rw [ev]
  show IVs _ _ ((List.filterMap _ _).toArray.toList)
  generalize sliceRange (sliceBounds a b c l.length).1 (sliceBounds a b c l.length).2.1 (sliceBounds a b c l.length).2.2 = idx
  have key : ∀ idx : List Nat, IVs (s₄.heap.push { cls := .type "slice", data := .fields #[v1, v2, v3] }) (idx.filterMap (l[·]?)) (idx.filterMap (vs.toArray[·]?)) := fun idx => by
    induction idx with
    | nil => trivial
    | cons n idx ih =>
      rw [List.filterMap_cons, List.filterMap_cons]
      cases hn : l[n]? with
      | none =>
        have : vs.toArray[n]? = none := by
          rw [List.getElem?_toArray]
          exact List.getElem?_eq_none (by rw [hv.length]; exact List.getElem?_eq_none_iff.mp hn)
        rw [this]; exact ih
      | some y =>
        obtain ⟨v, q1, q2⟩ := hv5.get hn
        rw [List.getElem?_toArray, q1]
        exact ⟨q2, ih⟩
  exact key idx
theorem ev_slice_str {e : PySem.Expr} {lo hi : Option PySem.Expr} {p pos : PySem.Pos} {y : Str} {a b : Option Int} {f1 fr : Bool} (he : EvJ prog w F ρ k e (.str y) f1) (h1 : PartJ prog w F ρ k lo a) (h2 : PartJ prog w F ρ k hi b)
    (hsz : y.length ≤ sizeLine) : EvJ prog w F ρ k (.Subscript e (.Slice lo hi none p) pos) (.str (Txt.slice y a b)) fr := fun A s rm I => by
  refine sub_wp (wpAny_mono (he A s rm I) (fun o s₁ ⟨x₁, fp, ⟨⟨u, e1⟩, _⟩, _⟩ => ?_) fun _ _ e => e)
  subst e1
  refine wpAny_Slice (wpAny_mono (part_wp h1 A s₁ rm (I.ext x₁)) (fun v1 s₂ ⟨x₂, p1⟩ => ?_) fun _ _ e => e)
  refine wpAny_mono (part_wp h2 A s₂ rm ((I.ext x₁).ext x₂)) (fun v2 s₃ ⟨x₃, p2⟩ => ?_) fun _ _ e => e
  refine wpAny_pure ?_
  have x₅ : Ext s₃ { s₃ with heap := s₃.heap.push { cls := .type "slice", data := .fields #[v1, v2, .none] } } := Ext.push s₃ _ _
  obtain ⟨l1, rfl, e2⟩ := p1.val
  obtain ⟨l2, rfl, e3⟩ := p2.val
  refine ⟨"str", _, PySem.F.slot_str_getitem.lookup, typeIs_str _ _ _, wpAny_getItem_str_slice (l := l1) (u := l2) (st := none) ⟨_, Heap.get?_push_size _ rfl, rfl, rfl⟩ rfl (post_val_or_str ?_)⟩
  subst e2 e3
  exact ⟨Nat.le_trans (Txt.slice_le y _ _) hsz, fun t' n => give_trans ((x₁.trans (x₂.trans x₃)).trans x₅) giv_str⟩
end
variable {prog : Program} {w : World}
section
variable {k : Nat} {base : Addr → Option Obj}
theorem of_ne' {A : Around} {s : Shared} {a b : Value} {kk : Bool} {Q E : Value → Shared → Prop} (h : SeqAt.RcNeAt A s a b kk) (hq : Q (.bool kk) s) : wpAny (model prog w) A (compareOp .NotEq a b) Q E s := h prog w E Q hq
noncomputable def isS (x : Str) : Value → Bool | .str y _ => y == x | _ => false
theorem any_strs {x : Str} : ∀ {l : List Str} {vs : List Value}, StrsAre vs l → vs.any (isS x) = l.contains x
  | _, _, .nil => rfl
  | y :: l, _, .cons _ t r => by
    rw [List.any_cons, any_strs r, List.contains_cons]
    show (y == x || _) = _
    have : (y == x) = (x == y) := by rw [Bool.eq_iff_iff, beq_iff_eq, beq_iff_eq]; exact eq_comm
    rw [this]
theorem mem_strs : ∀ {l : List Str} {vs : List Value}, StrsAre vs l → ∀ v ∈ vs, ∃ y t, v = .str y t
  | _, _, .nil, _, h => by cases h
  | _, _, .cons y t r, v, h => by
    rcases List.mem_cons.mp h with rfl | h
    · exact ⟨y, t, rfl⟩
    · exact mem_strs r v h
theorem op_in_strs {x : Str} {l : List Str} : Op2 (prog := prog) (w := w) k (compareOp .In) (.str x) (.list (strsIV l)) (.bool (l.contains x)) true := fun A s a b fa fb rm g ⟨⟨t, e1⟩, _⟩ ⟨L, vs, e2, hl, hi, _⟩ => by
  subst e1 e2
  have hs := ivs_strs hi
  refine SeqAt.in_listAt (isS x) hl.isList (fun y hy => ?_) ?_
  · obtain ⟨z, u, rfl⟩ := mem_strs hs y (by simpa using hy)
    exact SeqAt.EqAt.str_str _ _ _ _
  · have : (vs.toArray.any (isS x)) = l.contains x := by rw [← any_strs hs]; simp
    rw [this]; exact giv_bool
theorem op_notin_strs {x : Str} {l : List Str} : Op2 (prog := prog) (w := w) k (compareOp .NotIn) (.str x) (.list (strsIV l)) (.bool (!l.contains x)) true := fun A s a b fa fb rm g ⟨⟨t, e1⟩, _⟩ ⟨L, vs, e2, hl, hi, _⟩ => by
  subst e1 e2
  have hs := ivs_strs hi
  refine SeqAt.notIn_listAt (isS x) hl.isList (fun y hy => ?_) ?_
  · obtain ⟨z, u, rfl⟩ := mem_strs hs y (by simpa using hy)
    exact SeqAt.EqAt.str_str _ _ _ _
  · have : (vs.toArray.any (isS x)) = l.contains x := by rw [← any_strs hs]; simp
    rw [this]; exact giv_bool
theorem strs_at : ∀ {l : List Str} {vs : List Value} {i : Nat}, StrsAre vs l → ∀ (h : i < vs.length), ∃ t, vs[i] = .str (l.getD i Str.empty) t
  | _, _, 0, .cons y t r, h => ⟨t, rfl⟩
  | _, _, i + 1, .cons y t r, h => by
    obtain ⟨u, e⟩ := strs_at (i := i) r (by simpa using h)
    exact ⟨u, by simpa using e⟩
theorem strs_eq_aux {l l' : List Str} (h : l.length = l'.length) : (List.range l.length).all (fun i => l.getD i Str.empty == l'.getD i Str.empty) = (l == l') := by
  rw [Bool.eq_iff_iff, List.all_eq_true, beq_iff_eq]
  constructor
  · intro q
    apply List.ext_getElem h
    intro i h1 h2
    have := q i (List.mem_range.mpr h1)
    rw [beq_iff_eq] at this
    simpa [h1, h2] using this
  · rintro rfl i hi
    simp
theorem list_size {l : List IV} {vs : List Value} {h : Heap} (hi : IVs h l vs) : vs.toArray.size = l.length := by rw [List.size_toArray]; exact hi.length
theorem op_eq_strs {l l' : List Str} : Op2 (prog := prog) (w := w) k (compareOp .Eq) (.list (strsIV l)) (.list (strsIV l')) (.bool (l == l')) true := fun A s a b fa fb rm g ⟨L, vs, e1, hl, hi, _⟩ ⟨L', vs', e2, hl', hi', _⟩ => by
  subst e1 e2
  have s1 : vs.toArray.size = l.length := by rw [list_size hi, List.length_map]
  have s2 : vs'.toArray.size = l'.length := by rw [list_size hi', List.length_map]
  by_cases hlen : l.length = l'.length
  · refine SeqAt.eq_listAt (e := fun i => l.getD i Str.empty == l'.getD i Str.empty) hl.isList hl'.isList (by rw [s1, s2, hlen]) rm.units (fun j h1 h2 => ?_) ?_
    · obtain ⟨t, q1⟩ := strs_at (ivs_strs hi) (i := j) (by simpa using h1)
      obtain ⟨u, q2⟩ := strs_at (ivs_strs hi') (i := j) (by simpa using h2)
      rw [List.getElem_toArray, List.getElem_toArray, q1, q2]
      exact SeqAt.EqAt.str_str _ _ _ _
    · rw [s1, strs_eq_aux hlen]; exact giv_bool
  · refine SeqAt.eq_list_lengthsAt hl.isList hl'.isList (by rw [s1, s2]; simpa using hlen) rm.units ?_
    have : (l == l') = false := by rw [beq_eq_false_iff_ne]; exact fun q => hlen (by rw [q])
    rw [this]; exact giv_bool
theorem op_ne_strs {l l' : List Str} : Op2 (prog := prog) (w := w) k (compareOp .NotEq) (.list (strsIV l)) (.list (strsIV l')) (.bool (l != l')) true := fun A s a b fa fb rm g ⟨L, vs, e1, hl, hi, _⟩ ⟨L', vs', e2, hl', hi', _⟩ => by
  subst e1 e2
  have s1 : vs.toArray.size = l.length := by rw [list_size hi, List.length_map]
  have s2 : vs'.toArray.size = l'.length := by rw [list_size hi', List.length_map]
  by_cases hlen : l.length = l'.length
  · refine of_ne' (SeqAt.RcNeAt.lists (e := fun i => l.getD i Str.empty == l'.getD i Str.empty) hl.isList hl'.isList (by rw [s1, s2, hlen]) rm.units (fun j h1 h2 => ?_)) ?_
    · obtain ⟨t, q1⟩ := strs_at (ivs_strs hi) (i := j) (by simpa using h1)
      obtain ⟨u, q2⟩ := strs_at (ivs_strs hi') (i := j) (by simpa using h2)
      rw [List.getElem_toArray, List.getElem_toArray, q1, q2]
      exact SeqAt.EqAt.str_str _ _ _ _
    · rw [s1, strs_eq_aux hlen]; exact giv_bool
  · refine of_ne' (SeqAt.RcNeAt.lists_lengths hl.isList hl'.isList (by rw [s1, s2]; simpa using hlen) rm.units) ?_
    have : (l != l') = true := by show (!(l == l')) = true; rw [beq_eq_false_iff_ne.mpr fun q => hlen (by rw [q])]; rfl
    rw [this]; exact giv_bool
theorem op_ne_nil {l : List IV} : Op2 (prog := prog) (w := w) k (compareOp .NotEq) (.list l) (.list []) (.bool (!l.isEmpty)) true := fun A s a b fa fb rm g ⟨L, vs, e1, hl, hi, _⟩ ⟨L', vs', e2, hl', hi', _⟩ => by
  subst e1 e2
  have s1 := list_size hi
  have s2 := list_size hi'
  cases l with
  | nil => exact of_ne' (SeqAt.RcNeAt.lists (e := fun _ => true) hl.isList hl'.isList (by rw [s1, s2]) rm.units (fun j h1 h2 => absurd h1 (by rw [s1]; simp))) (by rw [s1]; exact giv_bool)
  | cons x l => exact of_ne' (SeqAt.RcNeAt.lists_lengths hl.isList hl'.isList (by rw [s1, s2]; simp) rm.units) giv_bool
noncomputable def At.isNone : At → Bool | .none => true | _ => false
theorem op_is_none {a : At} (h : ∀ b, a ≠ .bool b) (hu : ∀ u, a ≠ .val u := by intro u q; cases q) : Op2 (prog := prog) (w := w) k (compareOp .Is) (.iv (.at a)) .none (.bool a.isNone) true := fun A s x y fa fb rm g ⟨h1, _⟩ ⟨h2, _⟩ => by
  have h2 : y = .none := h2
  subst h2
  cases a with
  | none => have h1 : x = .none := h1; subst h1; exact wpAny_is_self rfl giv_bool
  | bool b => exact absurd rfl (h b)
  | val u => exact absurd rfl (hu u)
  | int i => obtain ⟨t, rfl⟩ := h1; exact wpAny_is_other rfl (by intro q; cases q) giv_bool
  | str z => obtain ⟨t, rfl⟩ := h1; exact wpAny_is_other rfl (by intro q; cases q) giv_bool
theorem op_isnot_none {a : At} (h : ∀ b, a ≠ .bool b) (hu : ∀ u, a ≠ .val u := by intro u q; cases q) : Op2 (prog := prog) (w := w) k (compareOp .IsNot) (.iv (.at a)) .none (.bool (!a.isNone)) true := fun A s x y fa fb rm g ⟨h1, _⟩ ⟨h2, _⟩ => by
  have h2 : y = .none := h2
  subst h2
  cases a with
  | none => have h1 : x = .none := h1; subst h1; exact wpAny_isNot_self rfl giv_bool
  | bool b => exact absurd rfl (h b)
  | val u => exact absurd rfl (hu u)
  | int i => obtain ⟨t, rfl⟩ := h1; exact wpAny_isNot_other rfl (by intro q; cases q) giv_bool
  | str z => obtain ⟨t, rfl⟩ := h1; exact wpAny_isNot_other rfl (by intro q; cases q) giv_bool
theorem c_sorted {l : List Str} (h : l.length < 64) : ∀ A s vals, Room k A → s.gens = #[] → Bk base s → Reps prog w s.heap [.list (strsIV l)] vals → wpAny (model prog w) A (PySem.call (.builtin "sorted") vals) (fun v s' => ∃ l' : List Str, l'.Perm l ∧ sortedS l' = true ∧ Gives' prog w (.list (strsIV l')) true s v s') No s := fun A s vs rm g bk r => by
  obtain ⟨v, rfl, fp, L, us, rfl, hl, hi, _⟩ := reps1 r
  refine sorted_strs hl.isList (ivs_strs hi) (by rw [hi.length, List.length_map]; exact h) fun out ss' h1 h2 h3 => ⟨ss', h2, h3, ?_⟩
  obtain ⟨e, he⟩ := sortedAll_at s.heap us out
  refine ⟨⟨⟨rfl, rfl⟩, fun b o ho => sortedAll_old ho⟩, [s.heap.objs.size + 1], ⟨_, out.toList, rfl, ⟨_, e, he, rfl, rfl, by rw [Array.toArray_toList]⟩, strs_ivs h1, rfl⟩, fun _ a ha => by rw [List.mem_singleton.mp ha]; exact fresh_size (Ext.refl s) (Nat.le_succ _)⟩
end
section
variable {F : Fm} {ρ : Rho} {k : Nat}
inductive EvIVs (prog : Program) (w : World) (F : Fm) (ρ : Rho) (k : Nat) : List PySem.Expr → List IV → Prop
  | nil : EvIVs prog w F ρ k [] []
  | cons {e es x l fr} : EvJ prog w F ρ k e (.iv x) fr → EvIVs prog w F ρ k es l → EvIVs prog w F ρ k (e :: es) (x :: l)
theorem ivs_wp {es : List PySem.Expr} {l : List IV} (h : EvIVs prog w F ρ k es l) : ∀ A s, Room k A → Inv prog w F ρ s → wpAny (model prog w) A (spliced (plainArgs es F.env)) (fun vs s' => Ext s s' ∧ IVs s'.heap l vs) No s := by
  induction h with
  | nil => exact fun A s r I => Calls.spliced_nil ⟨Ext.refl s, trivial⟩
  | @cons e es x l fr he hl ih =>
    intro A s r I
    refine Calls.spliced_cons (wpAny_mono (he A s r I) (fun v s₁ ⟨y, fp, a, _⟩ => ?_) fun _ _ e => e)
    exact wpAny_mono (ih A s₁ r (I.ext y)) (fun vs s₂ ⟨z, b⟩ => ⟨y.trans z, IV.of_keep z.2 a.1, b⟩) fun _ _ e => e
theorem ev_list {es : List PySem.Expr} {pos : PySem.Pos} {l : List IV} (hs : starEach es F.env = plainArgs es F.env) (h : EvIVs prog w F ρ k es l) (hlen : l.length ≤ sizeLine) : EvJ prog w F ρ k (.List es pos) (.list l) true := fun A s rm I => by
  refine wpAny_List_spliced ?_
  rw [hs, backTo_plain]
  exact wpAny_mono (ivs_wp h A s rm I) (fun vs s₁ ⟨x, b⟩ => ⟨by rw [b.length]; exact hlen, give_trans x (giv_list rfl rfl ⟨_, rfl⟩ b)⟩) fun _ _ e => e
theorem ats_of {h : Heap} : ∀ {l : List At} {vs : List Value}, IVs h (l.map .at) vs → Ats l vs
  | [], [], _ => trivial
  | _ :: _, _ :: _, ⟨a, b⟩ => ⟨a, ats_of b⟩
  | [], _ :: _, e => e.elim
  | _ :: _, [], e => e.elim
theorem ev_tuple {es : List PySem.Expr} {k' : Nat} {pos : PySem.Pos} {l : List At} {fr : Bool} (hs : starEach es F.env = plainArgs es F.env) (h : EvIVs prog w F ρ k es (l.map .at)) (hlen : l.length ≤ sizeLine) : EvJ prog w F ρ k (.Tuple es k' pos) (.tup l) fr := fun A s rm I => by
  refine wpAny_Tuple_spliced ?_
  rw [hs, backTo_plain]
  refine wpAny_mono (ivs_wp h A s rm I) (fun vs s₁ ⟨x, b⟩ => ⟨by rw [b.length, List.length_map]; exact hlen, ?_⟩) fun _ _ e => e
  exact ⟨x.trans (Ext.push s₁ _ _), [], ⟨⟨_, vs, rfl, ⟨_, Heap.get?_push_size _ rfl, rfl, _, rfl⟩, ats_of b⟩, rfl⟩, fun _ a ha => nomatch ha⟩
end
variable {prog : Program} {w : World}

noncomputable def bval : List (Str × Value) → Str → Option Value → Option Value
  | [], _, d => d
  | (n, v) :: r, x, d => bval r x (if x = n then some v else d)
theorem bindL_val {kd : Str → Option NameKind} : ∀ (b : List (Str × Value)) (m : Str → Option Value) (x : Str), kd x = some .local → bindL kd b m x = bval b x (m x)
  | [], _, _, _ => rfl
  | (n, v) :: r, m, x, h => by
    rw [bindL, bindL_val r _ x h, bval]
    by_cases hn : kd n = some .local
    · rw [if_pos hn]
    · rw [if_neg hn, if_neg (fun e : x = n => hn (by rw [← e]; exact h))]
theorem bindC_val {kd : Str → Option NameKind} : ∀ (b : List (Str × Value)) (m : Str → Option Value) (x : Str), kd x ≠ some .local → bindC kd b m x = bval b x (m x)
  | [], _, _, _ => rfl
  | (n, v) :: r, m, x, h => by
    rw [bindC, bindC_val r _ x h, bval]
    by_cases hn : kd n = some .local
    · rw [if_pos hn, if_neg (fun e : x = n => h (by rw [e]; exact hn))]
    · rw [if_neg hn]
noncomputable def CSlot.acc0 (cs : List (Str × Addr)) (x : Str) : CSlot → Option Addr
  | .own => cs.lookup x
  | _ => none
noncomputable def fnFm (fd : FuncData) (a L : Addr) (sp : List (Str × CSlot)) (base : Addr → Option Obj) (os : OsState) : Fm where
  env := callEnvC fd L a
  slots := sp.map fun p => (p.1, p.2.acc0 (compCells fd.scope [] L) p.1)
  base := base
  os := os
  res := fun _ => False
  mine := fun c => ∃ x, (x, CSlot.own) ∈ sp ∧ (compCells fd.scope [] L).lookup x = some c
  acc := fun _ => False
def SpOk0 (scope : Scope) : List (Str × CSlot) → Prop
  | [] => True
  | (x, .loc) :: r => scope.names.lookup x = some .local ∧ SpOk0 scope r
  | (x, .own) :: r => scope.names.lookup x = some .cell ∧ SpOk0 scope r
  | (x, .cap i) :: r => False
theorem SpOk0.at {scope : Scope} : ∀ {sp : List (Str × CSlot)}, SpOk0 scope sp → ∀ p ∈ sp, (p.2 = .loc ∧ scope.names.lookup p.1 = some .local) ∨ (p.2 = .own ∧ scope.names.lookup p.1 = some .cell)
  | (x, .loc) :: r, h, p, hp => by
    rcases List.mem_cons.mp hp with rfl | hp
    · exact .inl ⟨rfl, h.1⟩
    · exact SpOk0.at h.2 p hp
  | (x, .own) :: r, h, p, hp => by
    rcases List.mem_cons.mp hp with rfl | hp
    · exact .inr ⟨rfl, h.1⟩
    · exact SpOk0.at h.2 p hp
  | (x, .cap i) :: r, h, p, hp => h.elim
section
variable {fd : FuncData} {a L : Addr} {sp : List (Str × CSlot)} {base : Addr → Option Obj} {os : OsState}
theorem fn_slot (so : SpOk0 fd.scope sp) {i : Nat} {x : Str} {acc : Option Addr} (hs : (fnFm fd a L sp base os).slots[i]? = some (x, acc)) :
    (sp[i]? = some (x, .loc) ∧ acc = none ∧ fd.scope.names.lookup x = some .local) ∨ ∃ c, sp[i]? = some (x, .own) ∧ acc = some c ∧ fd.scope.names.lookup x = some .cell ∧ (compCells fd.scope [] L).lookup x = some c := by
  have : (sp.map fun p => (p.1, p.2.acc0 (compCells fd.scope [] L) p.1))[i]? = some (x, acc) := hs
  rw [List.getElem?_map] at this
  cases e : sp[i]? with
  | none => rw [e] at this; cases this
  | some p =>
    rw [e] at this
    obtain ⟨y, c⟩ := p
    cases this
    rcases so.at _ (List.mem_of_getElem? e) with ⟨h1, h2⟩ | ⟨h1, h2⟩
    · have h1 : c = .loc := h1
      subst h1
      exact .inl ⟨rfl, rfl, h2⟩
    · have h1 : c = .own := h1
      subst h1
      obtain ⟨c, hc⟩ := cellsFrom_has fd.scope.names (L + 1) y (mem_of_lookup h2)
      obtain ⟨c', hc'⟩ := lookup_of_mem hc
      exact .inr ⟨c', rfl, hc', h2, hc'⟩
theorem fn_ok (so : SpOk0 fd.scope sp) (hk : fd.scope.kind = .function) (nd : (sp.map (·.1)).Nodup) (ap : (compCells fd.scope [] L).Pairwise fun x y => x.2 ≠ y.2) (ab : ∀ n c, (n, c) ∈ compCells fd.scope [] L → L < c) (hb : ∀ a, L ≤ a → base a = none) : FmOk (fnFm fd a L sp base os) := by
  have uniq : ∀ (i j : Nat) (x : Str) (c c' : CSlot), sp[i]? = some (x, c) → sp[j]? = some (x, c') → i = j := fun i j x c c' h1 h2 => by
    have hi : i < sp.length := (List.getElem?_eq_some_iff.mp h1).1
    have hj : j < sp.length := (List.getElem?_eq_some_iff.mp h2).1
    have e1 : (sp.map (·.1))[i]'(by simpa using hi) = x := by simp [(List.getElem?_eq_some_iff.mp h1).2]
    have e2 : (sp.map (·.1))[j]'(by simpa using hj) = x := by simp [(List.getElem?_eq_some_iff.mp h2).2]
    have pw := List.pairwise_iff_getElem.mp nd
    rcases Nat.lt_trichotomy i j with h | h | h
    · exact absurd (e1.trans e2.symm) (pw i j (by simpa using hi) (by simpa using hj) h)
    · exact h
    · exact absurd (e2.trans e1.symm) (pw j i (by simpa using hj) (by simpa using hi) h)
  refine ⟨hk, fun i x hs => ?_, fun i x c hs => ?_, fun i j x a b h1 h2 => ?_, fun i j x y c h1 h2 => ?_, hb L (Nat.le_refl _), id, fun _ _ _ _ => id, fun c ⟨x, h1, h2⟩ => ?_, fun d hd => hd.elim, fun c ⟨x, h1, h2⟩ => ?_⟩
  · rcases fn_slot so hs with ⟨_, _, h⟩ | ⟨c, _, h, _⟩
    · exact h
    · cases h
  · rcases fn_slot so hs with ⟨_, h, _⟩ | ⟨c', _, h, h2, h3⟩
    · cases h
    · cases h
      exact ⟨.inl h2, h3, Nat.ne_of_gt (ab x c (mem_of_lookup h3))⟩
  · rcases fn_slot so h1 with ⟨q1, _⟩ | ⟨c, q1, _⟩ <;> rcases fn_slot so h2 with ⟨q2, _⟩ | ⟨c', q2, _⟩ <;> exact uniq i j x _ _ q1 q2
  · rcases fn_slot so h1 with ⟨_, h, _⟩ | ⟨c1, q1, e1, _, l1⟩
    · cases h
    · rcases fn_slot so h2 with ⟨_, h, _⟩ | ⟨c2, q2, e2, _, l2⟩
      · cases h
      · cases e1
        cases e2
        have := name_of_addr ap (mem_of_lookup l1) (mem_of_lookup l2)
        subst this
        exact uniq i j x _ _ q1 q2
  · exact hb c (Nat.le_of_lt (ab x c (mem_of_lookup h2)))
  · obtain ⟨i, hi⟩ := List.mem_iff_getElem?.mp h1
    refine ⟨i, x, ?_⟩
    show (sp.map _)[i]? = _
    rw [List.getElem?_map, hi]
    show some (x, (compCells fd.scope [] L).lookup x) = _
    rw [h2]
def Bound (prog : Program) (w : World) (h : Heap) (X : List Addr) (binds : List (Str × Value)) (sp : List (Str × CSlot)) (ρ : Rho) : Prop :=
  ρ.length = sp.length ∧ ∃ fp : Nat → List Addr, (∀ (i : Nat) (x : Str) (c : CSlot) (p : PV) (own : Bool), sp[i]? = some (x, c) → ρ[i]? = some (p, own) → RepO prog w h p (bval binds x none) (fp i) ∧ ∀ a ∈ fp i, ∃ o, h.get? a = some o) ∧
    ∀ (i : Nat) (p : PV), ρ[i]? = some (p, true) → ∀ a ∈ fp i, a ∈ X ∧ ∀ (j : Nat) (q : PV × Bool), j ≠ i → ρ[j]? = some q → a ∉ fp j
open Classical in
theorem fn_run {A : Around} {s : Shared} {args : Args} {o : Obj} {body : List Stmt} {binds : List (Str × Value)} {X : List Addr} {ρ : Rho} {k : Nat} {P : PV → Rho → Prop} {R : Result → Shared → Prop} (rm : Room (k + 1) A) (g : s.gens = #[]) (ho : s.heap.get? a = some o) (hd : o.data = .func fd) (hlim : s.heap.NoLimit)
    (hcd : s.heap.CodeRec fd.code fd.qualname) (hbody : fd.body = .stmts body) (hclo : fd.closure = []) (hbind : wpAny (model prog w) A.in1 (bindArgs fd args) (fun b s' => b = binds ∧ s' = s) No s)
    (hkind : ∀ x ∈ binds, ∃ c, (x.1, c) ∈ sp) (so : SpOk0 fd.scope sp) (nd : (sp.map (·.1)).Nodup) (hb : Bound prog w s.heap X binds sp ρ)
    (hx : ∀ (base : Addr → Option Obj), (∀ a o, a ∉ X → s.heap.get? a = some o → base a = some o) → FmOk (fnFm fd a s.heap.objs.size sp base s.os) → ExS prog w (fnFm fd a s.heap.objs.size sp base s.os) ρ k (execs body (callEnvC fd s.heap.objs.size a)) (fun fl ρ' => ∃ p, (fl = .ret p ∨ (fl = .next ∧ p = .none)) ∧ P p ρ'))
    (hR : ∀ (base : Addr → Option Obj) v p ρ' s', (∀ a, base a = if a ∈ X then none else s.heap.get? a) → P p ρ' → Inv prog w (fnFm fd a s.heap.objs.size sp base s.os) ρ' s' → (∃ fp, Rep prog w s'.heap p v fp ∧ ∀ a ∈ fp, base a = none) → R (.ok (.ret v)) s')
    (hco : fd.scope.isCoroutine = false := by rfl) (hgen : fd.scope.isGenerator = false := by rfl) (hk : fd.scope.kind = .function := by rfl) : codeAny (model prog w) A (.call (.ref a) args) R s := by
  have e0 : ∀ x ∈ binds, fd.scope.names.lookup x.1 = some .local ∨ (fd.scope.names.lookup x.1 = some .cell ∧ ((cellsFrom (s.heap.objs.size + 1) fd.scope.names []).lookup x.1).isSome = true) := fun x hx => by
    obtain ⟨c, hc⟩ := hkind x hx
    rcases so.at _ hc with ⟨_, h⟩ | ⟨_, h⟩
    · exact .inl h
    · obtain ⟨c, hc⟩ := cellsFrom_has fd.scope.names (s.heap.objs.size + 1) x.1 (mem_of_lookup h)
      obtain ⟨c', hc'⟩ := lookup_of_mem hc
      exact .inr ⟨h, by rw [hc']; rfl⟩
  refine codeAny_call_function rm.depth ho hd hco hgen hbody hcd (wpAny_mono hbind (fun b s' ⟨e1, e2⟩ => ?_) fun _ _ e => e.elim)
  subst e1 e2
  rw [hclo]
  refine wpAny_newFunctionEnv_cells hk e0 fun env he s₁ x => ?_
  subst he
  refine ⟨hlim.keeps x.toInCall.keep, codeAny_func ?_⟩
  obtain ⟨ic, hcell, ap, ab⟩ := x
  have hL : (callEnvC fd s'.heap.objs.size a).locals = s'.heap.objs.size := rfl
  obtain ⟨base, hbase⟩ : ∃ base : Addr → Option Obj, ∀ a, base a = if a ∈ X then none else s'.heap.get? a := ⟨_, fun _ => rfl⟩
  have okF : FmOk (fnFm fd a s'.heap.objs.size sp base s'.os) := fn_ok so hk nd ap ab fun z hz => by
    rw [hbase]; split
    · rfl
    · exact fresh_size (Ext.refl s') hz
  have gens₁ : s₁.gens = s'.gens := by obtain ⟨h, t, e⟩ := ic.same; rw [e]
  have os₁ : s₁.os = s'.os := by obtain ⟨h, t, e⟩ := ic.same; rw [e]
  have I : Inv prog w (fnFm fd a s'.heap.objs.size sp base s'.os) ρ s₁ := by
    obtain ⟨hlen, fp, b1, b2⟩ := hb
    refine ⟨fun z oz e => ?_, gens₁.trans g, os₁, by rw [hlen]; simp [fnFm], fun z hz => hz.elim, fun z hz => hz.elim, _, ic.ns, fp, fun i y acc p own h1 h2 => ?_, fun i p h1 y hy => ?_⟩
    · have e : base z = some oz := e
      rw [hbase] at e
      split at e
      · cases e
      · exact ic.keep z oz e
    · have nocell : ∀ z ∈ fp i, (∃ o, s'.heap.get? z = some o) → (z ≠ s'.heap.objs.size ∧ ¬ (False ∨ False)) ∧ ∀ (j : Nat) (x : Str) (c : Addr), (fnFm fd a s'.heap.objs.size sp base s'.os).slots[j]? = some (x, some c) → z ≠ c := fun z hz ⟨o, ho⟩ => by
        have hlt := Heap.lt_size ho
        refine ⟨⟨Nat.ne_of_lt hlt, by simp⟩, fun j x c hs => ?_⟩
        rcases fn_slot so hs with ⟨_, h, _⟩ | ⟨c', _, h, _, l1⟩
        · cases h
        · cases h
          exact Nat.ne_of_lt (Nat.lt_trans hlt (ab x c (mem_of_lookup l1)))
      rcases fn_slot so h1 with ⟨q1, rfl, q3⟩ | ⟨c, q1, rfl, q3, q4⟩
      · obtain ⟨r1, r2⟩ := b1 i y _ p own q1 h2
        refine ⟨bval b y none, ?_, r1.keep ic.keep, fun z hz => nocell z hz (r2 z hz)⟩
        show bval b y none = bindL (callEnvC fd s'.heap.objs.size a).kindOf b (fun _ => none) y
        exact (bindL_val b (fun _ => none) y (by exact q3)).symm
      · obtain ⟨r1, r2⟩ := b1 i y _ p own q1 h2
        refine ⟨bval b y none, ?_, r1.keep ic.keep, fun z hz => nocell z hz (r2 z hz)⟩
        have h9 : s₁.heap.IsCell c (bindC (callEnvC fd s'.heap.objs.size a).kindOf b (fun _ => none) y) := hcell y c q4
        have h8 : (callEnvC fd s'.heap.objs.size a).kindOf y ≠ some .local := by show fd.scope.names.lookup y ≠ _; rw [q3]; simp
        rw [bindC_val b (fun _ => none) y h8] at h9
        exact h9
    · obtain ⟨c1, c2⟩ := b2 i p h1 y hy
      refine ⟨?_, c2⟩
      show base y = none
      rw [hbase, if_pos c1]
  have rm' : Room k (A.deeper (callEnvC fd s'.heap.objs.size a)) := ⟨by have := rm.1; show A.depth + 1 + k < _; lia, by have := rm.2.1; show A.units + 3 + 10 * k + 20 < _; lia, rm.handled⟩
  refine wpAny_mono (hx base (fun z oz hz e => by rw [hbase, if_neg hz]; exact e) okF base (fun _ => False) (Fm.Le.refl _) okF _ s₁ rm' I) (fun f s₂ ⟨fl, ρ', ⟨p, e1, hP⟩, I₂, hf⟩ => ?_) fun _ _ e => e.elim
  rcases e1 with rfl | ⟨rfl, rfl⟩
  · cases f with
    | ret v => exact hR base v p ρ' s₂ hbase hP I₂ hf
    | next => exact hf.elim
    | brk => exact hf.elim
    | cont => exact hf.elim
  · cases f with
    | next => exact hR base .none _ ρ' s₂ hbase hP I₂ ⟨[], ⟨rfl, rfl⟩, fun z hz => nomatch hz⟩
    | ret v => exact hf.elim
    | brk => exact hf.elim
    | cont => exact hf.elim
theorem bval_zip : ∀ {names : List Str} {vals : List Value} {i : Nat} {x : Str} {v : Value} {d : Option Value}, names.Nodup → names[i]? = some x → vals[i]? = some v → bval (names.zip vals) x d = some v
  | n :: ns, u :: us, 0, x, v, d, nd, h1, h2 => by
    simp at h1 h2
    subst h1 h2
    show bval (ns.zip us) n (if n = n then some u else d) = _
    rw [if_pos rfl]
    have : ∀ (ns : List Str) (us : List Value) (d : Option Value), n ∉ ns → bval (ns.zip us) n d = d := by
      intro ns
      induction ns with
      | nil => intro us d _; rfl
      | cons y ys ih =>
        intro us d hn
        cases us with
        | nil => rfl
        | cons z zs =>
          show bval (ys.zip zs) n (if n = y then some z else d) = d
          rw [if_neg (fun e => hn (by rw [e]; exact List.mem_cons_self ..))]
          exact ih zs d fun q => hn (List.mem_cons_of_mem _ q)
    exact this ns us _ (List.nodup_cons.mp nd).1
  | n :: ns, u :: us, i + 1, x, v, d, nd, h1, h2 => by
    show bval (ns.zip us) x _ = _
    exact bval_zip (List.nodup_cons.mp nd).2 (by simpa using h1) (by simpa using h2)
  | [], _, i, _, _, _, _, h1, _ => by simp at h1
  | _ :: _, [], i, _, _, _, _, _, h2 => by simp at h2
theorem reps_at {h : Heap} : ∀ {ps : List PV} {vs : List Value} {i : Nat} {p : PV}, Reps prog w h ps vs → ps[i]? = some p → ∃ v fp, vs[i]? = some v ∧ Rep prog w h p v fp
  | _ :: _, v :: _, 0, p, ⟨⟨fp, a⟩, _⟩, e => ⟨v, fp, rfl, by simp at e; exact e ▸ a⟩
  | _ :: _, _ :: _, i + 1, p, ⟨_, b⟩, e => by
    obtain ⟨v, fp, e1, e2⟩ := reps_at (i := i) b (by simpa using e)
    exact ⟨v, fp, by simpa using e1, e2⟩
  | [], [], _, _, _, e => by simp at e
  | [], _ :: _, _, _, e, _ => e.elim
  | _ :: _, [], _, _, e, _ => e.elim
theorem reps_len {h : Heap} : ∀ {ps : List PV} {vs : List Value}, Reps prog w h ps vs → vs.length = ps.length
  | [], [], _ => rfl
  | _ :: _, _ :: _, ⟨_, b⟩ => congrArg (· + 1) (reps_len b)
  | [], _ :: _, e => e.elim
  | _ :: _, [], e => e.elim
noncomputable def rhoOf (ps : List PV) (n : Nat) : Rho := ps.map (·, false) ++ List.replicate n (.any, false)
open Classical in
theorem bound_pos {h : Heap} {names : List Str} {ps : List PV} {vals : List Value} {n : Nat} (nd : names.Nodup) (hl : names.length = ps.length) (r : Reps prog w h ps vals) (hsp : (sp.map (·.1)).take ps.length = names) (hn : sp.length = ps.length + n) :
    Bound prog w h [] (names.zip vals) sp (rhoOf ps n) := by
  have hr : ∀ (i : Nat) (p : PV) (own : Bool), (rhoOf ps n)[i]? = some (p, own) → own = false ∧ ((∃ q, ps[i]? = some q ∧ p = q) ∨ (ps.length ≤ i ∧ p = .any)) := fun i p own e => by
    unfold rhoOf at e
    rcases Nat.lt_or_ge i ps.length with hi | hi
    · rw [List.getElem?_append_left (by simpa using hi), List.getElem?_map, List.getElem?_eq_getElem hi] at e
      cases e
      exact ⟨rfl, .inl ⟨_, List.getElem?_eq_getElem hi, rfl⟩⟩
    · rw [List.getElem?_append_right (by simpa using hi)] at e
      have := List.mem_of_getElem? e
      have := List.eq_of_mem_replicate this
      cases this
      exact ⟨rfl, .inr ⟨hi, rfl⟩⟩
  have key : ∀ i : Nat, ∃ f : List Addr, ∀ (p : PV), ps[i]? = some p → ∃ v, vals[i]? = some v ∧ Rep prog w h p v f := fun i => by
    cases e : ps[i]? with
    | none => exact ⟨[], fun p q => by cases q⟩
    | some p =>
      obtain ⟨v, fp, h1, h2⟩ := reps_at r e
      exact ⟨fp, fun q hq => by cases hq; exact ⟨v, h1, h2⟩⟩
  refine ⟨by unfold rhoOf; simp [hn], fun i => if i < ps.length then Classical.choose (key i) else [], fun i x c p own h1 h2 => ?_, fun i p h1 => ?_⟩
  · obtain ⟨rfl, h3⟩ := hr i p own h2
    rcases h3 with ⟨q, h3, rfl⟩ | ⟨h3, rfl⟩
    · have hi : i < ps.length := (List.getElem?_eq_some_iff.mp h3).1
      dsimp only
      rw [if_pos hi]
      obtain ⟨v, h4, h5⟩ := Classical.choose_spec (key i) p h3
      have hx : names[i]? = some x := by
        rw [← hsp, List.getElem?_take_of_lt hi, List.getElem?_map, h1]; rfl
      rw [bval_zip nd hx h4]
      exact ⟨RepO.of h5, fun z hz => h5.stands z hz⟩
    · dsimp only
      rw [if_neg (Nat.not_lt.mpr h3)]
      exact ⟨rfl, fun z hz => nomatch hz⟩
  · obtain ⟨h2, _⟩ := hr i p true h1
    cases h2
end
theorem vals0 {P : List Value → Prop} (h : P []) (vals : List Value) (e : vals.length = 0) : P vals := by
  cases vals with
  | nil => exact h
  | cons => cases e
theorem vals1 {P : List Value → Prop} (h : ∀ a, P [a]) (vals : List Value) (e : vals.length = 1) : P vals := by
  cases vals with
  | nil => cases e
  | cons a l => exact vals0 (P := fun l => P (a :: l)) (h a) l (Nat.succ.inj e)
theorem vals2 {P : List Value → Prop} (h : ∀ a b, P [a, b]) (vals : List Value) (e : vals.length = 2) : P vals := by
  cases vals with
  | nil => cases e
  | cons a l => exact vals1 (P := fun l => P (a :: l)) (h a) l (Nat.succ.inj e)
theorem vals3 {P : List Value → Prop} (h : ∀ a b c, P [a, b, c]) (vals : List Value) (e : vals.length = 3) : P vals := by
  cases vals with
  | nil => cases e
  | cons a l => exact vals2 (P := fun l => P (a :: l)) (h a) l (Nat.succ.inj e)
theorem vals4 {P : List Value → Prop} (h : ∀ a b c d, P [a, b, c, d]) (vals : List Value) (e : vals.length = 4) : P vals := by
  cases vals with
  | nil => cases e
  | cons a l => exact vals3 (P := fun l => P (a :: l)) (h a) l (Nat.succ.inj e)
theorem call_own {fd : FuncData} {a : Addr} {sp : List (Str × CSlot)} {names : List Str} {ps : List PV} {p : PV} {body : List Stmt} {base : Addr → Option Obj} {k n : Nat} (ho : ∀ s : Shared, Bk base s → (∃ o, s.heap.get? a = some o ∧ o.data = .func fd) ∧ s.heap.NoLimit ∧ s.heap.CodeRec fd.code fd.qualname)
    (hbody : fd.body = .stmts body) (hclo : fd.closure = []) (hbind : ∀ vals : List Value, vals.length = names.length → bindArgs fd ⟨vals, []⟩ = pure (names.zip vals)) (so : SpOk0 fd.scope sp) (nd : (sp.map (·.1)).Nodup) (hsp : (sp.map (·.1)).take ps.length = names) (hl : names.length = ps.length) (hn : sp.length = ps.length + n)
    (hx : ∀ (L : Addr) (base' : Addr → Option Obj) (os : OsState), (∀ a o, base a = some o → base' a = some o) → FmOk (fnFm fd a L sp base' os) → ExS prog w (fnFm fd a L sp base' os) (rhoOf ps n) k (execs body (callEnvC fd L a)) (fun fl ρ' => fl = .ret p))
    (hco : fd.scope.isCoroutine = false := by rfl) (hgen : fd.scope.isGenerator = false := by rfl) (hk : fd.scope.kind = .function := by rfl) : CallP prog w base (k + 1) (.ref a) ps p true := fun A s vals rm g bk r => by
  obtain ⟨⟨o, ho1, ho2⟩, hlim, hcd⟩ := ho s bk
  have nd' : names.Nodup := by rw [← hsp]; exact nd.sublist (List.take_sublist _ _)
  refine wpAny_call (fn_run (X := []) (P := fun q _ => q = p) rm g ho1 ho2 hlim hcd hbody hclo (by rw [hbind vals (by rw [hl]; exact reps_len r)]; exact wpAny_pure ⟨rfl, rfl⟩) (fun x hx => ?_) so nd (bound_pos nd' hl r hsp hn) (fun base' hb' okF => ?_) (fun base' v q ρ' s' hb' hq I hv => ?_) hco hgen hk)
  · have h1 : x.1 ∈ names := (List.of_mem_zip hx).1
    rw [← hsp] at h1
    have h2 := List.mem_of_mem_take h1
    obtain ⟨⟨y, c⟩, h3, h4⟩ := List.mem_map.mp h2
    exact ⟨c, by rw [← h4]; exact h3⟩
  · exact ex_mono (hx _ base' _ (fun a o e => hb' a o (by simp) (bk a o e)) okF) fun fl ρ' e => ⟨p, .inl e, rfl⟩
  · subst hq
    obtain ⟨fp, h1, h2⟩ := hv
    have hb2 : ∀ a, base' a = s.heap.get? a := fun a => by rw [hb']; simp
    exact ⟨⟨⟨I.gens.trans g.symm, I.os⟩, fun b o e => I.keep b o ((hb2 b).trans e)⟩, fp, h1, fun _ z hz => (hb2 z).symm.trans (h2 z hz)⟩
variable {prog : Program} {w : World}
section
variable {F : Fm} {ρ : Rho} {k : Nat} {P : Fl → Rho → Prop}
def TurnM {α : Type} (J : List α → Rho → Prop) (P : Fl → Rho → Prop) (done : List α) : Fl → Rho → Prop
  | .next, ρ => J done ρ
  | .cont, ρ => J done ρ
  | .brk, ρ => P .next ρ
  | .ret p, ρ => P (.ret p) ρ
theorem ex_forM {α : Type} {target iter : PySem.Expr} {body : List Stmt} {pos : PySem.Pos} {z : Bool} (xs : List α) (g : α → IV) (J : List α → Rho → Prop) (hI : ItJ prog w F ρ k z target iter (xs.map g)) (h0 : J [] ρ) (hend : ∀ ρ', J xs ρ' → P .next ρ')
    (hstep : ∀ done x rest ρ', xs = done ++ x :: rest → J done ρ' → ∃ ρ₁, AsgJ prog w F k target (g x) ρ' ρ₁ ∧ ExS prog w F ρ₁ k (execs body F.env) (TurnM J P (done ++ [x])))
    (hz : z = true → ∀ l ρ', J l ρ' → ∀ (i : Nat) (q : PV × Bool), ρ'[i]? = some q → q.1.flat = true := by intro h; cases h) (hs : ∀ x, foldedSetIterable iter F.env x = pure x := by intro _; rfl) :
    ExS prog w F ρ k (exec (.For target iter body [] pos) F.env) P := by
  refine ex_for hI (fun l ρ' => ∃ done rest, xs = done ++ rest ∧ l = rest.map g ∧ J done ρ') ⟨[], xs, rfl, rfl, h0⟩ (fun ρ' ⟨done, rest, h1, h2, h3⟩ => ?_) (fun x rest' ρ' ⟨done, rest, h1, h2, h3⟩ => ?_) (fun e l ρ' ⟨done, rest, _, _, h3⟩ => hz e done ρ' h3) hs
  · cases rest with
    | nil => exact hend ρ' (by rw [h1]; simpa using h3)
    | cons y rest => cases h2
  · cases rest with
    | nil => cases h2
    | cons y rest =>
      rw [List.map_cons] at h2
      obtain ⟨rfl, rfl⟩ := List.cons.inj h2
      obtain ⟨ρ₁, h4, h5⟩ := hstep done y rest ρ' h1 h3
      refine ⟨ρ₁, h4, ex_mono h5 fun fl ρ₂ h => ?_⟩
      cases fl with
      | next => exact ⟨done ++ [y], rest, by rw [h1]; simp, rfl, h⟩
      | cont => exact ⟨done ++ [y], rest, by rw [h1]; simp, rfl, h⟩
      | brk => exact h
      | ret p => exact h
theorem ev_cast {e : PySem.Expr} {p q : PV} {fr : Bool} (h : EvJ prog w F ρ k e p fr) (hq : p = q) : EvJ prog w F ρ k e q fr := hq ▸ h
end
variable {prog : Program} {w : World}
theorem Iter.ofWalksT {A : Around} {es : List PySem.Expr} {kk : Nat} {tp : PySem.Pos} {B : Addr → Option Obj} {I : Addr} {fp wr : List Addr} {n : Nat} {Pt : Nat → Array Value → Prop} {St : Nat → Heap → Prop} {Mid : Nat → Addr → Heap → Prop} (W : WalksT prog w A I fp wr n Pt St Mid) (z : Bool) (l : List IV) (hn : n = l.length)
    (hB : ∀ a ∈ fp, a ∉ wr → ∃ o, B a = some o) (hstd : ∀ i h, St i h → ∀ a ∈ wr, ∃ o, h.get? a = some o) (hnt : z = false → ∀ i h, St i h → ∀ a ∈ wr, NT h a) (hval : ∀ i x T vals h', l[i]? = some x → Pt i vals → h'.IsTuple T vals → x.of h' (.ref T)) (hout : ∀ a ∈ wr, B a = none) :
    Iter prog w A (.Tuple es kk tp) z B I wr (fun rest h => Bh B h ∧ ∃ i, i ≤ n ∧ rest = l.drop i ∧ St i h) where
  std := fun _ h ⟨_, i, _, _, st⟩ a ha => hstd i h st a ha
  nt := fun hz _ h ⟨_, i, _, _, st⟩ a ha => hnt hz i h st a ha
  frm := fun rest h h' ⟨hb, i, hi, e, st⟩ k1 k2 => ⟨k2, i, hi, e, W.frame i h h' st fun a ha o ho => by
    by_cases q : a ∈ wr
    · exact k1 a q o ho
    · obtain ⟨o', ho'⟩ := hB a ha q
      have := hb a o' ho'
      rw [ho] at this; cases this
      exact k2 a o ho'⟩
  item := fun x rest s Q E ⟨hb, i, hi, e, st⟩ _ hQ => by
    have hlt : i < n := by
      rcases Nat.lt_or_ge i n with h | h
      · exact h
      · rw [List.drop_eq_nil_of_le (by lia)] at e; cases e
    have hx : l[i]? = some x := by
      have := congrArg (fun l => l[0]?) e
      simpa using this.symm
    refine W.item i s _ _ hlt st fun T vals h' tk hP hT hTup hMid hk => ⟨.ref T, rfl, W.go es kk tp i T _ _ _ hMid fun h'' st' hk' => ?_⟩
    have hk' : ∀ b o, b ∉ wr → h'.get? b = some o → h''.get? b = some o := hk'
    have hb' : Bh B h'' := fun a o ho => hk' a o (fun q => by rw [hout a q] at ho; cases ho) (hk a o (fun q => by rw [hout a q] at ho; cases ho) (hb a o ho))
    have hTup' : h''.IsTuple T vals := by
      obtain ⟨o, ho, r⟩ := hTup
      exact ⟨o, hk' T o (W.apart i T h' hMid) ho, r⟩
    refine hQ (.ref T) h'' tk (fun a o ha ho => hk' a o ha (hk a o ha ho)) (hval i x T vals h'' hx hP hTup') ⟨hb', i + 1, hlt, ?_, st'⟩
    have := congrArg List.tail e
    simpa using this
  done := fun s Q E ⟨hb, i, hi, e, st⟩ _ hQ => by
    have hin : i = n := by
      rcases Nat.lt_or_ge i n with h | h
      · have : (l.drop i).length = 0 := by rw [← e]; rfl
        rw [List.length_drop] at this; lia
      · lia
    subst hin
    exact W.done s Q E st fun h' tk hk => hQ h' tk fun a o ha ho => hk a o ha ho
  self := fun rest s Q E ⟨hb, i, hi, e, st⟩ hQ => W.self i s Q E st hQ
section
variable {F : Fm} {ρ : Rho} {k : Nat}
noncomputable def enumIV (l : List At) : List IV := l.zipIdx.map fun p => .tup [.int (p.2 : Int), p.1]
theorem listIter_fields {h : Heap} {a l : Addr} {i : Nat} (x : h.IsListIter a l i) : ∃ o vs, h.get? a = some o ∧ o.data = .fields vs := by
  obtain ⟨o, ho, _, hd⟩ := x
  exact ⟨o, _, ho, hd⟩
theorem ivs_at {h : Heap} {l : List At} {vs : List Value} {i : Nat} {a : At} {v : Value} (hi : IVs h (l.map .at) vs) (ha : l[i]? = some a) (hv : vs[i]? = some v) : a.of v := by
  obtain ⟨v', h1, h2⟩ := hi.get (i := i) (x := .at a) (by simp [ha])
  rw [hv] at h1; cases h1
  exact h2
theorem itj_enum {np pos tp : PySem.Pos} {es : List PySem.Expr} {kk : Nat} {e : PySem.Expr} {l : List At} (hs : starEach [e] F.env = plainArgs [e] F.env) (g : Glob prog w F ("enumerate" : Str) (.type "enumerate")) (h : SrcL prog w F ρ k e (l.map .at)) :
    ItJ prog w F ρ k false (.Tuple es kk tp) (.Call (.Name "enumerate" np) [e] [] pos) (enumIV l) := fun b r lf ok A s rm I => by
  refine bi_call hs g (fun a e => nomatch e) (I.down lf).keep ?_
  refine Calls.spliced_cons (wpAny_mono (h b r lf ok A s s rm (Ext.refl s) I) (fun v s₁ ⟨x, L, vs, e1, hl, hi, hb⟩ => Calls.spliced_nil ?_) fun _ _ e => e)
  subst e1
  refine call_enumerate_list hl.isList fun h' he hit hsz hk => ?_
  have x₂ : Ext s₁ { s₁ with heap := h' } := ⟨⟨rfl, rfl⟩, hk⟩
  have fX : Fresh s [s₁.heap.objs.size + 1, s₁.heap.objs.size] := fun a ha => by
    rcases List.mem_cons.mp ha with rfl | ha
    · exact fresh_size x (Nat.le_succ _)
    · rw [List.mem_singleton.mp ha]; exact fresh_size x (Nat.le_refl _)
  have hLs : L < s₁.heap.objs.size := by obtain ⟨o, _, ho, _⟩ := hl; exact Heap.lt_size ho
  have hstd : ∀ {i : Nat} {hp : Heap}, ((∃ old, IsEnum hp (s₁.heap.objs.size + 1) s₁.heap.objs.size i old) ∧ hp.IsListIter s₁.heap.objs.size L i ∧ hp.IsList L vs.toArray) → ∀ a ∈ [s₁.heap.objs.size + 1, s₁.heap.objs.size], ∃ o vs, hp.get? a = some o ∧ o.data = .fields vs := fun {i hp} st a ha => by
    rcases List.mem_cons.mp ha with rfl | ha
    · obtain ⟨⟨old, he⟩, _⟩ := st; exact ⟨_, _, he, rfl⟩
    · rw [List.mem_singleton.mp ha]; exact listIter_fields st.2.1
  have st0 : (∃ old, IsEnum h' (s₁.heap.objs.size + 1) s₁.heap.objs.size ((0 : Nat) : Int) old) ∧ h'.IsListIter s₁.heap.objs.size L 0 ∧ h'.IsList L vs.toArray := ⟨⟨_, he⟩, hit, hl.isList.at fun o e => hk _ _ e⟩
  obtain ⟨b₂, fz⟩ := Inv.freeze ok I (x.trans x₂) fX fun a ha => let ⟨o, _, ho, _⟩ := hstd (i := 0) st0 a ha; ⟨o, ho⟩
  obtain ⟨oL, hoL⟩ := hb _ _ b₂ x₂ fz (by simp; exact ⟨Nat.ne_of_lt (Nat.lt_succ_of_lt hLs), Nat.ne_of_lt hLs⟩)
  have bk : Bh b₂ h' := fun a o e => fz.inv.keep a o ((plus_out fun q => by rw [fz.out a q] at e; cases e).trans e)
  refine wpAny_pyIter_enum he ⟨x.trans x₂, s₁.heap.objs.size + 1, [s₁.heap.objs.size + 1, s₁.heap.objs.size], b₂, _, rfl, fz.le, fz.out, fz.ok, fz.inv, fX, ⟨bk, 0, Nat.zero_le _, rfl, st0⟩,
    Iter.ofWalksT (WalksT.enumerate rm.handled _ _ L (Nat.succ_ne_self _) (Nat.ne_of_lt (Nat.lt_succ_of_lt hLs)) (Nat.ne_of_lt hLs) vs.toArray) false (enumIV l) (by rw [List.size_toArray, hi.length]; simp [enumIV]) (fun a ha ha' => ?_) (fun i hp st a ha => let ⟨o, _, ho, _⟩ := hstd st a ha; ⟨o, ho⟩) (fun _ i hp st a ha => NT.fields (hstd st a ha)) (fun i y T vals hp hy ⟨t, v, hP, e2⟩ hT => ?_) fz.out⟩
  · simp at ha ha'
    rcases ha with rfl | rfl | rfl
    · exact absurd rfl ha'.1
    · exact absurd rfl ha'.2
    · exact ⟨oL, hoL⟩
  · subst e2
    unfold enumIV at hy
    rw [List.getElem?_map, List.getElem?_zipIdx] at hy
    cases hq : l[i]? with
    | none => rw [hq] at hy; cases hy
    | some a =>
      rw [hq] at hy
      have hy : IV.tup [.int ((0 + i : Nat) : Int), a] = y := by simpa using hy
      subst hy
      refine ⟨T, [.int i t, v], rfl, hT, ⟨t, by simp⟩, ?_, trivial⟩
      exact ivs_at hi hq (by simpa using hP)
noncomputable def zipIV (l l' : List At) : List IV := (l.zip l').map fun p => .tup [p.1, p.2]
end
section
variable {k : Nat} {F : Fm} {ρ : Rho}
theorem op_floordiv_int {x y : Int} (h : y ≠ 0) (hy : y.natAbs < 1073741824) : Op2 (prog := prog) (w := w) k (binaryOp .FloorDiv) (.int x) (.int y) (.int (x.fdiv y)) true := fun A s a b fa fb _ _ ⟨⟨t, ha⟩, _⟩ ⟨⟨u, hb⟩, _⟩ => by
  subst ha hb; exact floordiv_int h giv_int
theorem op_pow_int {x : Int} {n : Int} (hn : 0 ≤ n) (hn2 : n ≤ 1000) (ha : x.natAbs < 2 ^ 64) : Op2 (prog := prog) (w := w) k (binaryOp .Pow) (.int x) (.int n) (.int (x ^ n.toNat)) true := fun A s a b fa fb _ _ ⟨⟨t, ha'⟩, _⟩ ⟨⟨u, hb⟩, _⟩ => by
  subst ha' hb; exact pow_int_small hn (by lia) ha giv_int
end
variable {prog : Program} {w : World}
theorem rep_inst {h : Heap} {C : Addr} {l : List IV} {v : Value} {fp : List Addr} (r : Rep prog w h (.obj C l) v fp) : ∃ x d L vs, v = .ref x ∧ h.Inst x C (hdM L) ∧ PlainL h L vs.toArray ∧ IVs h l vs ∧ fp = [x, d, L] := by
  obtain ⟨x, d, L, vs, od, m, e, a1, a2, a3, a4, a5, a6, f⟩ := r
  subst a4
  exact ⟨x, d, L, vs, e, ⟨od, a1, a2.1.1, a2.1.2.2, .inr ⟨d, a2.1.2.1, a2.2, a3⟩⟩, a5, a6, f⟩
structure ClsB (base : Addr → Option Obj) (C N : Addr) (mN : Str → Option Value) : Prop where
  at_ : ∀ s : Shared, Bk base s → ClsAt s.heap C N mN
  ga : mN "__getattribute__" = none
  gt : mN "__getattr__" = none
  hd : mN "_headers" = none
theorem lk_headers : typeLookup (.type "object") "_headers" = pure none := by rw [typeLookup_type, builtinLookup_eq_fast]; kernel_rfl
theorem hdr_wp {base : Addr → Option Obj} {A : Around} {s : Shared} {x C N L : Addr} {mN : Str → Option Value} {Q E : Value → Shared → Prop} (c : ClsB base C N mN) (b : Bk base s) (I : s.heap.Inst x C (hdM L)) (hQ : Q (.ref L) { s with toks := s.toks + 1 }) : wpAny (model prog w) A (getAttr (.ref x) "_headers" true) Q E s := by
  obtain ⟨hp, g, d, t, os⟩ := s
  obtain ⟨nm, q, bs, sn, sub, col, dd, k0, k1, k2, k3, k5, hC⟩ := (c.at_ _ b).obj
  exact load_attr hC (c.at_ _ b).ns c.ga c.hd lk_headers I (by unfold hdM; rw [if_pos rfl]) rfl hQ
section
variable {F : Fm} {ρ : Rho} {k : Nat}
theorem ev_hdr {x : Str} {np pos : PySem.Pos} {C N : Addr} {mN : Str → Option Value} {l : List IV} {f0 : Bool} (c : ClsB F.base C N mN) (h : EvJ prog w F ρ k (.Name x np) (.obj C l) f0) : EvJ prog w F ρ k (.Attribute (.Name x np) "_headers" pos) (.list l) false := fun A s rm I => by
  refine Attribute_name (wpAny_mono (h A s rm I) (fun v s₁ ⟨x1, fp, r, _⟩ => ?_) fun _ _ e => e)
  obtain ⟨xo, d, L, vs, rfl, hi, hl, hv, rfl⟩ := rep_inst r
  exact hdr_wp c (I.ext x1).keep hi ⟨x1.trans (Ext.tok _ _), [L], ⟨L, vs, rfl, hl, hv, rfl⟩, fun e => nomatch e⟩
theorem src_hdr {x : Str} {np pos : PySem.Pos} {C N : Addr} {mN : Str → Option Value} {l : List IV} (i : Nat) (c : ClsB F.base C N mN) (hs : F.slots[i]? = some (x, none)) (hr : ρ[i]? = some (.obj C l, false)) (hd : (x == ("__debug__" : Str)) = false := by decide) : SrcL prog w F ρ k (.Attribute (.Name x np) "_headers" pos) l := fun b r lf ok A s s₀ rm x₀ I => by
  obtain ⟨m, hm, fp, a, _⟩ := I.sl
  obtain ⟨ov, h3, h4, _⟩ := a i x none (.obj C l) false hs hr
  have h3 : ov = m x := h3
  subst h3
  cases hv : m x with
  | none => rw [hv] at h4; exact h4.elim
  | some v =>
    rw [hv] at h4
    have h4 : Rep prog w s₀.heap (.obj C l) v (fp i) := h4
    obtain ⟨xo, d, L, vs, od, mm, rfl, a1, a2, a3, a4, a5, a6, f⟩ := id h4
    obtain ⟨xo', d', L', vs', e0, hi, hl, hvs, _⟩ := rep_inst (h4.keep x₀.2)
    obtain ⟨_, hiM, hlM, _⟩ : xo' = xo ∧ s.heap.Inst xo C (hdM L) ∧ PlainL s.heap L vs.toArray ∧ True := by
      cases e0
      subst a4
      exact ⟨rfl, ⟨od, x₀.2 _ _ a1, a2.1.1, a2.1.2.2, .inr ⟨d, a2.1.2.1, a2.2, a3.keeps x₀.2⟩⟩, a5.keeps x₀.2, trivial⟩
    refine Attribute_name (wpAny_Name (wpAny_loadName_local ok.kind (ok.loc i x hs) (hm.keeps x₀.2) hv ?_) hd)
    have cb : ClsB F.base C N mN := c
    refine hdr_wp cb (fun a o e => x₀.2 _ _ (I.keep a o (lf.base a o e))) hiM ⟨Ext.tok _ _, L, vs, rfl, hlM, a6.keep x₀.2, fun s₂ X b₂ x₂ fz hLX => ?_⟩
    obtain ⟨ov, fp', h5, h6, h7⟩ := fz.slot i x none (.obj C l) hs hr
    obtain ⟨m', hm', e⟩ := h5
    have e : ov = some (.ref xo) := by rw [e, ← ns_uniq hm hm', hv]
    subst e
    obtain ⟨y, dy, Ly, vy, oy, my, ey, b1, b2, b3, b4, b5, b6, bf⟩ := (show Rep prog w s₀.heap (.obj C l) (.ref xo) fp' from h6)
    cases ey
    rw [a1] at b1; cases b1
    have : d = dy := Option.some.inj (a2.1.2.1.symm.trans b2.1.2.1)
    subst this
    subst a4 b4
    have := ns_uniq a3.ns b3.ns "_headers"
    unfold hdM at this
    rw [if_pos rfl, if_pos rfl] at this
    have := Value.ref.inj (Option.some.inj this)
    subst this
    obtain ⟨o, _, ho, _⟩ := a5
    exact ⟨o, h7 L (by rw [bf]; simp) o (x₂.2 _ _ (x₀.2 _ _ ho))⟩
def CallX (prog : Program) (w : World) (base : Addr → Option Obj) (k : Nat) (v : Value) (ks : List (Str × Value)) (ps : List PV) (p : PV) (fr : Bool) : Prop :=
  ∀ A s vals, Room k A → s.gens = #[] → Bk base s → Reps prog w s.heap ps vals → wpAny (model prog w) A (PySem.call v vals ks) (Gives' prog w p fr s) No s
structure MethB (base : Addr → Option Obj) (mN : Str → Option Value) (name : Str) (f : Addr) : Prop where
  at_ : mN name = some (.ref f)
  fn : ∃ o fd, base f = some o ∧ o.cls = .type "function" ∧ o.data = .func fd
  sh : name ≠ "_headers"
  lk : ∃ y, typeLookup (.type "object") name = pure y
theorem meth_of {base : Addr → Option Obj} {A : Around} {s : Shared} {x C N L f : Addr} {mN : Str → Option Value} {name : Str} {pl : Sem Bool} {Q : Value × List Value → Shared → Prop} {E : Value → Shared → Prop} (c : ClsB base C N mN) (mb : MethB base mN name f) (b : Bk base s) (I : s.heap.Inst x C (hdM L)) (hQ : Q (.ref f, [.ref x]) s) : wpAny (model prog w) A (getMethod (.ref x) name pl) Q E s := by
  obtain ⟨hp, g, d, t, os⟩ := s
  obtain ⟨nm, q, bs, sn, sub, col, dd, k0, k1, k2, k3, k5, hC⟩ := (c.at_ _ b).obj
  obtain ⟨o, fd, h1, h2, h3⟩ := mb.fn
  obtain ⟨y, hy⟩ := mb.lk
  exact method_of hC (c.at_ _ b).ns c.ga c.gt mb.at_ (b _ _ h1) h2 hy I (by unfold hdM; rw [if_neg mb.sh]) hQ
theorem few_plain (es : List PySem.Expr) (pos : PySem.Pos) (kws : List (Option Str × Sem Value)) (hk : kws.all (·.1.isSome) = true) (hl : es.length + kws.length < 29) (hs : starEach es F.env = plainArgs es F.env) : methodCallForm (es.length + kws.length) (backTo pos (starEach es F.env)) kws = true := by
  unfold methodCallForm
  rw [hs, backTo_plain, hk]
  have e1 : ∀ es : List PySem.Expr, (plainArgs es F.env).all (fun x => !x.1) = true := fun es => by induction es with
    | nil => rfl
    | cons e es ih => exact ih
  rw [e1]
  simp only [Bool.true_and, decide_eq_true_eq]
  split <;> lia
theorem reps_cons {h : Heap} {p : PV} {v : Value} {fp : List Addr} {ps : List PV} {vs : List Value} (r : Rep prog w h p v fp) (rs : Reps prog w h ps vs) : Reps prog w h (p :: ps) (v :: vs) := ⟨⟨fp, r⟩, rs⟩
theorem ev_inst {o : PySem.Expr} {name : Str} {apos pos : PySem.Pos} {es : List PySem.Expr} {C N f : Addr} {mN : Str → Option Value} {l : List IV} {ps : List PV} {p : PV} {f0 fr : Bool} (hb : attributeBase o name F.env (eval o F.env) = eval o F.env) (hs : starEach es F.env = plainArgs es F.env) (hl : (apos.endLine == pos.line) = true) (hlen : es.length < 20)
    (c : ClsB F.base C N mN) (mb : MethB F.base mN name f) (h0 : EvJ prog w F ρ k o (.obj C l) f0) (ha : EvL prog w F ρ k es ps) (cl : CallP prog w F.base k (.ref f) (.obj C l :: ps) p fr) : EvJ prog w F ρ k (.Call (.Attribute o name apos) es [] pos) p fr := fun A s rm I => by
  rw [arm_eval_Call, hb]
  refine wpAny_bind (wpAny_mono (h0 A s rm I) (fun ov s₁ ⟨x1, fp, r, _⟩ => ?_) fun _ _ e => e)
  have b1 := (I.ext x1).keep
  obtain ⟨xo, d, L, vs, rfl, hi, hpl, hv, rfl⟩ := rep_inst r
  refine wpAny_bind (wpAny_standAt ?_)
  have hform := few_plain (F := F) es pos (backToKw pos (keywordEach [] F.env)) rfl (by show es.length + 0 < 29; lia) hs
  have hform : methodCallForm (es.length + ([] : List Keyword).length) (backTo pos (starEach es F.env)) (backToKw pos (keywordEach [] F.env)) = true := hform
  have hpos : methodCallPos true o F.env apos pos = pure pos := by unfold methodCallPos; simp [hl]
  unfold methodCall
  rw [hform]
  refine wpAny_bind (wpAny_holding (meth_of c mb b1 hi ?_))
  refine wpAny_bind (wpAny_of_eq hpos ?_)
  obtain ⟨of, fd, h1, h2, h3⟩ := mb.fn
  rw [hs, backTo_plain]
  refine callWith_fn (plainArgs_any _ _) h3 (wpAny_mono (args_wp ha A s₁ rm (I.ext x1)) (fun vs s₂ ⟨x2, rs⟩ => ⟨((I.ext x1).ext x2).keep _ _ h1, ?_⟩) fun _ _ e => e)
  refine wpAny_mono (cl A s₂ _ rm ((I.ext x1).ext x2).gens ((I.ext x1).ext x2).keep (reps_cons (r.keep x2.2) rs)) (fun v s₃ h => give_trans (x1.trans x2) h) fun _ _ e => e
theorem ev_inst_kw {o : PySem.Expr} {name kn : Str} {apos pos kp cp : PySem.Pos} {e : PySem.Expr} {b : Bool} {kd : Nat} {C N f : Addr} {mN : Str → Option Value} {l : List IV} {q p : PV} {f0 f1 fr : Bool} (hb : attributeBase o name F.env (eval o F.env) = eval o F.env) (hs : starEach [e] F.env = plainArgs [e] F.env) (hl : (apos.endLine == pos.line) = true)
    (c : ClsB F.base C N mN) (mb : MethB F.base mN name f) (h0 : EvJ prog w F ρ k o (.obj C l) f0) (ha : EvJ prog w F ρ k e q f1) (cl : CallX prog w F.base k (.ref f) [(kn, .bool b)] [.obj C l, q] p fr) : EvJ prog w F ρ k (.Call (.Attribute o name apos) [e] [⟨some kn, .Constant (.bool b) kd cp, kp⟩] pos) p fr := fun A s rm I => by
  rw [arm_eval_Call, hb]
  refine wpAny_bind (wpAny_mono (h0 A s rm I) (fun ov s₁ ⟨x1, fp, r, _⟩ => ?_) fun _ _ e => e)
  have b1 := (I.ext x1).keep
  obtain ⟨xo, d, L, vs, rfl, hi, hpl, hv, rfl⟩ := rep_inst r
  refine wpAny_bind (wpAny_standAt ?_)
  have hform : methodCallForm ([e].length + [(⟨some kn, .Constant (.bool b) kd cp, kp⟩ : Keyword)].length) (backTo pos (starEach [e] F.env)) (backToKw pos (keywordEach [(⟨some kn, .Constant (.bool b) kd cp, kp⟩ : Keyword)] F.env)) = true :=
    few_plain (F := F) [e] pos (backToKw pos (keywordEach [(⟨some kn, .Constant (.bool b) kd cp, kp⟩ : Keyword)] F.env)) rfl (by show 1 + 1 < 29; lia) hs
  have hpos : methodCallPos true o F.env apos pos = pure pos := by unfold methodCallPos; simp [hl]
  unfold methodCall
  rw [hform]
  refine wpAny_bind (wpAny_holding (meth_of c mb b1 hi ?_))
  refine wpAny_bind (wpAny_of_eq hpos ?_)
  obtain ⟨of, fd, h1, h2, h3⟩ := mb.fn
  rw [hs, backTo_plain]
  refine callWith_function_kw (o := of) (fd := fd) (evalArgs_kw rfl (Calls.spliced_cons (wpAny_mono (ha A s₁ rm (I.ext x1)) (fun v s₂ ⟨x2, fp2, r2, _⟩ => Calls.spliced_nil ?_) fun _ _ e => e)))
  refine kws_cons (wpAny_mono (ev_bool (b := b) A s₂ rm ((I.ext x1).ext x2)) (fun u s₃ ⟨x3, fp3, r3, _⟩ => kws_nil ?_) fun _ _ e => e)
  have r3 : u = .bool b := r3.1
  subst r3
  refine ⟨⟨(((I.ext x1).ext x2).ext x3).keep _ _ h1, h3⟩, ?_⟩
  refine wpAny_mono (cl A s₃ [.ref xo, v] rm (((I.ext x1).ext x2).ext x3).gens (((I.ext x1).ext x2).ext x3).keep ⟨⟨_, r.keep (x2.trans x3).2⟩, ⟨fp2, r2.keep x3.2⟩, trivial⟩) (fun v s₃ h => give_trans ((x1.trans x2).trans x3) h) fun _ _ e => e
end
theorem call_ownX {fd : FuncData} {a : Addr} {sp : List (Str × CSlot)} {names : List Str} {ps ps' : List PV} {p : PV} {body : List Stmt} {base : Addr → Option Obj} {k n : Nat} {ks : List (Str × Value)} (ho : ∀ s : Shared, Bk base s → (∃ o, s.heap.get? a = some o ∧ o.data = .func fd) ∧ s.heap.NoLimit ∧ s.heap.CodeRec fd.code fd.qualname)
    (hbody : fd.body = .stmts body) (hclo : fd.closure = []) (hbind : ∀ A s vals, Bk base s → Reps prog w s.heap ps' vals → ∃ vals', Reps prog w s.heap ps vals' ∧ wpAny (model prog w) A (bindArgs fd ⟨vals, ks⟩) (fun b s' => b = names.zip vals' ∧ s' = s) No s) (so : SpOk0 fd.scope sp) (nd : (sp.map (·.1)).Nodup) (hsp : (sp.map (·.1)).take ps.length = names) (hl : names.length = ps.length) (hn : sp.length = ps.length + n)
    (hx : ∀ (L : Addr) (base' : Addr → Option Obj) (os : OsState), (∀ a o, base a = some o → base' a = some o) → FmOk (fnFm fd a L sp base' os) → ExS prog w (fnFm fd a L sp base' os) (rhoOf ps n) k (execs body (callEnvC fd L a)) (fun fl ρ' => fl = .ret p))
    (hco : fd.scope.isCoroutine = false := by rfl) (hgen : fd.scope.isGenerator = false := by rfl) (hk : fd.scope.kind = .function := by rfl) : CallX prog w base (k + 1) (.ref a) ks ps' p true := fun A s vals rm g bk r => by
  obtain ⟨⟨o, ho1, ho2⟩, hlim, hcd⟩ := ho s bk
  have nd' : names.Nodup := by rw [← hsp]; exact nd.sublist (List.take_sublist _ _)
  obtain ⟨vals', r', hb⟩ := hbind A.in1 s vals bk r
  refine wpAny_call (fn_run (X := []) (P := fun q _ => q = p) rm g ho1 ho2 hlim hcd hbody hclo hb (fun x hx => ?_) so nd (bound_pos nd' hl r' hsp hn) (fun base' hb' okF => ?_) (fun base' v q ρ' s' hb' hq I hv => ?_) hco hgen hk)
  · have h1 : x.1 ∈ names := (List.of_mem_zip hx).1
    rw [← hsp] at h1
    have h2 := List.mem_of_mem_take h1
    obtain ⟨⟨y, c⟩, h3, h4⟩ := List.mem_map.mp h2
    exact ⟨c, by rw [← h4]; exact h3⟩
  · exact ex_mono (hx _ base' _ (fun a o e => hb' a o (by simp) (bk a o e)) okF) fun fl ρ' e => ⟨p, .inl e, rfl⟩
  · subst hq
    obtain ⟨fp, h1, h2⟩ := hv
    have hb2 : ∀ a, base' a = s.heap.get? a := fun a => by rw [hb']; simp
    exact ⟨⟨⟨I.gens.trans g.symm, I.os⟩, fun b o e => I.keep b o ((hb2 b).trans e)⟩, fp, h1, fun _ z hz => (hb2 z).symm.trans (h2 z hz)⟩
variable {prog : Program} {w : World}
theorem plainL_map {h : Heap} {l : Addr} {items : Array Value} (hl : PlainL h l items) (f : Array Value → Array Value) : PlainL (h.update l (Obj.mapSeq f)) l (f items) := by
  obtain ⟨o, n, ho, hc, hdict, hd⟩ := hl
  obtain ⟨n', hd'⟩ := Obj.data_mapSeq hd f
  refine ⟨_, n', Heap.get?_update_self _ ho (Obj.isFreed_of_seq hd'), (Obj.cls_mapSeq ..).trans hc, ?_, hd'⟩
  obtain ⟨c, d, dt, sl⟩ := o
  cases dt <;> exact hdict
variable {prog : Program} {w : World}
section
variable {fd : FuncData} {a : Addr} {sp : List (Str × CSlot)} {os : OsState}
theorem fn_runR {A : Around} {s : Shared} {args : Args} {o : Obj} {body : List Stmt} {binds : List (Str × Value)} {ρ : Rho} {k : Nat} {R : Result → Shared → Prop} (rm : Room (k + 1) A) (g : s.gens = #[]) (ho : s.heap.get? a = some o) (hd : o.data = .func fd) (hlim : s.heap.NoLimit)
    (hcd : s.heap.CodeRec fd.code fd.qualname) (hbody : fd.body = .stmts body) (hclo : fd.closure = []) (hbind : wpAny (model prog w) A.in1 (bindArgs fd args) (fun b s' => b = binds ∧ s' = s) No s)
    (hkind : ∀ x ∈ binds, ∃ c, (x.1, c) ∈ sp) (so : SpOk0 fd.scope sp) (nd : (sp.map (·.1)).Nodup) (hb : Bound prog w s.heap [] binds sp ρ)
    (hx : ∀ (base : Addr → Option Obj), (∀ a, base a = s.heap.get? a) → FmOk (fnFm fd a s.heap.objs.size sp base s.os) → ∀ A' s₁, Room k A' → Inv prog w (fnFm fd a s.heap.objs.size sp base s.os) ρ s₁ → wpAny (model prog w) A' (execs body (callEnvC fd s.heap.objs.size a)) (fun f s₂ => match f with | .ret v => R (.ok (.ret v)) s₂ | .next => R (.ok (.ret .none)) s₂ | _ => False) No s₁)
    (hco : fd.scope.isCoroutine = false := by rfl) (hgen : fd.scope.isGenerator = false := by rfl) (hk : fd.scope.kind = .function := by rfl) : codeAny (model prog w) A (.call (.ref a) args) R s := by
  have e0 : ∀ x ∈ binds, fd.scope.names.lookup x.1 = some .local ∨ (fd.scope.names.lookup x.1 = some .cell ∧ ((cellsFrom (s.heap.objs.size + 1) fd.scope.names []).lookup x.1).isSome = true) := fun x hx => by
    obtain ⟨c, hc⟩ := hkind x hx
    rcases so.at _ hc with ⟨_, h⟩ | ⟨_, h⟩
    · exact .inl h
    · obtain ⟨c, hc⟩ := cellsFrom_has fd.scope.names (s.heap.objs.size + 1) x.1 (mem_of_lookup h)
      obtain ⟨c', hc'⟩ := lookup_of_mem hc
      exact .inr ⟨h, by rw [hc']; rfl⟩
  refine codeAny_call_function rm.depth ho hd hco hgen hbody hcd (wpAny_mono hbind (fun b s' ⟨e1, e2⟩ => ?_) fun _ _ e => e.elim)
  subst e1 e2
  rw [hclo]
  refine wpAny_newFunctionEnv_cells hk e0 fun env he s₁ x => ?_
  subst he
  refine ⟨hlim.keeps x.toInCall.keep, codeAny_func ?_⟩
  obtain ⟨ic, hcell, ap, ab⟩ := x
  have hL : (callEnvC fd s'.heap.objs.size a).locals = s'.heap.objs.size := rfl
  obtain ⟨base, hbase⟩ : ∃ base : Addr → Option Obj, ∀ a, base a = s'.heap.get? a := ⟨_, fun _ => rfl⟩
  have okF : FmOk (fnFm fd a s'.heap.objs.size sp base s'.os) := fn_ok so hk nd ap ab fun z hz => by
    rw [hbase]; exact fresh_size (Ext.refl s') hz
  have gens₁ : s₁.gens = s'.gens := by obtain ⟨h, t, e⟩ := ic.same; rw [e]
  have os₁ : s₁.os = s'.os := by obtain ⟨h, t, e⟩ := ic.same; rw [e]
  have I : Inv prog w (fnFm fd a s'.heap.objs.size sp base s'.os) ρ s₁ := by
    obtain ⟨hlen, fp, b1, b2⟩ := hb
    refine ⟨fun z oz e => ?_, gens₁.trans g, os₁, by rw [hlen]; simp [fnFm], fun z hz => hz.elim, fun z hz => hz.elim, _, ic.ns, fp, fun i y acc p own h1 h2 => ?_, fun i p h1 y hy => ?_⟩
    · have e : base z = some oz := e
      rw [hbase] at e
      exact ic.keep z oz e
    · have nocell : ∀ z ∈ fp i, (∃ o, s'.heap.get? z = some o) → (z ≠ s'.heap.objs.size ∧ ¬ (False ∨ False)) ∧ ∀ (j : Nat) (x : Str) (c : Addr), (fnFm fd a s'.heap.objs.size sp base s'.os).slots[j]? = some (x, some c) → z ≠ c := fun z hz ⟨o, ho⟩ => by
        have hlt := Heap.lt_size ho
        refine ⟨⟨Nat.ne_of_lt hlt, by simp⟩, fun j x c hs => ?_⟩
        rcases fn_slot so hs with ⟨_, h, _⟩ | ⟨c', _, h, _, l1⟩
        · cases h
        · cases h
          exact Nat.ne_of_lt (Nat.lt_trans hlt (ab x c (mem_of_lookup l1)))
      rcases fn_slot so h1 with ⟨q1, rfl, q3⟩ | ⟨c, q1, rfl, q3, q4⟩
      · obtain ⟨r1, r2⟩ := b1 i y _ p own q1 h2
        refine ⟨bval b y none, ?_, r1.keep ic.keep, fun z hz => nocell z hz (r2 z hz)⟩
        show bval b y none = bindL (callEnvC fd s'.heap.objs.size a).kindOf b (fun _ => none) y
        exact (bindL_val b (fun _ => none) y (by exact q3)).symm
      · obtain ⟨r1, r2⟩ := b1 i y _ p own q1 h2
        refine ⟨bval b y none, ?_, r1.keep ic.keep, fun z hz => nocell z hz (r2 z hz)⟩
        have h9 : s₁.heap.IsCell c (bindC (callEnvC fd s'.heap.objs.size a).kindOf b (fun _ => none) y) := hcell y c q4
        have h8 : (callEnvC fd s'.heap.objs.size a).kindOf y ≠ some .local := by show fd.scope.names.lookup y ≠ _; rw [q3]; simp
        rw [bindC_val b (fun _ => none) y h8] at h9
        exact h9
    · exact absurd (b2 i p h1 y hy).1 (by simp)
  have rm' : Room k (A.deeper (callEnvC fd s'.heap.objs.size a)) := ⟨by have := rm.1; show A.depth + 1 + k < _; omega, by have := rm.2.1; show A.units + 3 + 10 * k + 20 < _; omega, rm.handled⟩
  refine wpAny_mono (hx base hbase okF _ s₁ rm' I) (fun f s₂ h => ?_) fun _ _ e => e.elim
  cases f with
  | ret v => exact h
  | next => exact h
  | brk => exact h.elim
  | cont => exact h.elim
end
section
variable {F : Fm} {ρ : Rho} {k : Nat}
structure ObjB (prog : Program) (w : World) (base : Addr → Option Obj) (x C L : Addr) (l : List IV) : Prop where
  rep : ∀ s : Shared, Bk base s → ∃ d vs, Rep prog w s.heap (.obj C l) (.ref x) [x, d, L] ∧ s.heap.Inst x C (hdM L) ∧ PlainL s.heap L vs.toArray ∧ IVs s.heap l vs
  at_ : ∃ o, base L = some o
theorem ObjB.of {s₀ : Shared} {base : Addr → Option Obj} {x C d L : Addr} {l : List IV} (hb : ∀ a, base a = s₀.heap.get? a) (r : Rep prog w s₀.heap (.obj C l) (.ref x) [x, d, L]) : ObjB prog w base x C L l := by
  have k : ∀ s : Shared, Bk base s → Keep s₀.heap s.heap := fun s b a o e => b a o ((hb a).trans e)
  have key : ∀ s : Shared, Rep prog w s.heap (.obj C l) (.ref x) [x, d, L] → ∃ d vs, Rep prog w s.heap (.obj C l) (.ref x) [x, d, L] ∧ s.heap.Inst x C (hdM L) ∧ PlainL s.heap L vs.toArray ∧ IVs s.heap l vs := fun s r => by
    obtain ⟨x', d', L', vs, e, i, p, v, f⟩ := rep_inst r
    cases e
    simp at f
    obtain ⟨rfl, rfl⟩ := f
    exact ⟨d, vs, r, i, p, v⟩
  refine ⟨fun s b => key s (r.keep (k s b)), ?_⟩
  obtain ⟨d, vs, _, _, ⟨o, _, ho, _⟩, _⟩ := key s₀ r
  exact ⟨o, (hb L).trans ho⟩
theorem ev_of_val {e : PySem.Expr} {x C L : Addr} {l : List IV} {f : Bool} (ob : ObjB prog w F.base x C L l) (h : EvJ prog w F ρ k e (.iv (.at (.val (.ref x)))) f) : EvJ prog w F ρ k e (.obj C l) false := fun A s rm I =>
  wpAny_mono (h A s rm I) (fun v s' ⟨x1, fp, ⟨r, _⟩, _⟩ => by
    have r : v = .ref x := r
    subst r
    obtain ⟨d, vs, r, _⟩ := ob.rep s' (I.ext x1).keep
    exact ⟨x1, _, r, fun e => nomatch e⟩) fun _ _ e => e
end
variable {prog : Program} {w : World}
theorem rep_upd {h h₁ h' : Heap} {C x d L : Addr} {l l' : List IV} {us : List Value} (r : Rep prog w h (.obj C l) (.ref x) [x, d, L]) (k : Keep h h₁) (sb : Heap.SameBut L h₁ h') (hl : PlainL h' L us.toArray) (hv : IVs h₁ l' us) : Rep prog w h' (.obj C l') (.ref x) [x, d, L] := by
  obtain ⟨x', d', L', vs, od, m, e, a1, a2, a3, a4, a5, a6, f⟩ := r
  cases e
  simp at f
  obtain ⟨rfl, rfl⟩ := f
  obtain ⟨o, n, ho, hc, hdi, hda⟩ := id a5
  have hxL : x ≠ L := fun e => by
    subst e; rw [a1] at ho; cases ho
    have := a2.1.1.symm.trans hc; cases this
  have hdL : d ≠ L := fun e => by
    subst e
    obtain ⟨o', es, ep, e1, e2, _⟩ := a3
    rw [ho] at e1; cases e1
    rw [hda] at e2; cases e2
  have nt : ∀ a ∈ [L], NT h₁ a := fun a ha => by rw [List.mem_singleton.mp ha]; exact NT.list (a5.keeps k)
  exact ⟨x, d, L, us, od, m, rfl, (sb.2 x hxL).trans (k _ _ a1), a2, (a3.keeps k).sameBut sb hdL, a4, hl, hv.chg (Chg.of_sameBut sb) (.inl nt), rfl⟩
def DelP (prog : Program) (w : World) (base : Addr → Option Obj) (k : Nat) (f C : Addr) (l : List IV) (y : Str) (l' : List IV) : Prop := ∀ A s x d L u, Room k A → s.gens = #[] → Bk base s → Rep prog w s.heap (.obj C l) (.ref x) [x, d, L] → (∃ t, u = .str y t) →
  wpAny (model prog w) A (PySem.call (.ref f) [.ref x, u]) (fun v s' => s'.gens = s.gens ∧ s'.os = s.os ∧ Chg [L] s.heap s'.heap ∧ Rep prog w s'.heap (.obj C l') (.ref x) [x, d, L]) No s
section
variable {F : Fm} {ρ : Rho} {k : Nat}
theorem rep_obj_inv {h : Heap} {C : Addr} {l : List IV} {v : Value} {fp : List Addr} (r : Rep prog w h (.obj C l) v fp) : ∃ x d L, v = .ref x ∧ fp = [x, d, L] := by
  obtain ⟨x', d', L', vs, od, m, e, a1, a2, a3, a4, a5, a6, f⟩ := r
  exact ⟨x', d', L', e, f⟩
theorem then_raw {A : Around} {s : Shared} {st : Stmt} {rest : List Stmt} {ρ₁ : Rho} {Q : Flow → Shared → Prop} (h : ExS prog w F ρ k (exec st F.env) (Only ρ₁)) (ok : FmOk F) (rm : Room k A) (I : Inv prog w F ρ s) (hr : ∀ s', Inv prog w F ρ₁ s' → wpAny (model prog w) A (execs rest F.env) Q No s') :
    wpAny (model prog w) A (execs (st :: rest) F.env) Q No s := by
  refine wpAny_execs_cons (wpAny_mono (h F.base F.res (Fm.Le.refl F) ok A s rm I) (fun f s' ⟨fl, ρ', ⟨e1, e2⟩, I', hf⟩ => ?_) fun _ _ e => e)
  subst e1 e2
  cases f with
  | next => exact hr s' I'
  | brk => exact hf.elim
  | cont => exact hf.elim
  | ret v => exact hf.elim
end
variable {prog : Program} {w : World}
theorem room_under {A : Around} {k : Nat} {C : Addr} {vals : List Value} (r : Room (k + 1) A) : Room k (A.under (.builtin "type.__call__" ⟨.ref C :: vals, []⟩)) :=
  ⟨by have := r.1; show A.depth + 1 + k < _; lia, by
    have := r.2.1
    have e : (A.under (.builtin "type.__call__" ⟨.ref C :: vals, []⟩)).units ≤ A.units + 10 := by
      first
        | exact Nat.le_trans (Nat.le_of_eq (rfl : _ = A.units + 1)) (by lia)
        | exact Nat.le_trans (Nat.le_of_eq (rfl : _ = A.units + 4)) (by lia)
        | exact Nat.le_trans (Nat.le_of_eq (rfl : _ = 4 + A.units)) (by lia)
        | exact Nat.le_trans (Nat.le_of_eq (rfl : _ = 1 + A.units)) (by lia)
        | exact Nat.le_trans (Nat.le_of_eq (rfl : _ = A.units + 7)) (by lia)
    lia, r.2.2⟩
def InitP (prog : Program) (w : World) (base : Addr → Option Obj) (k : Nat) (f C : Addr) (l : List IV) : Prop := ∀ A s x d L, Room k A → s.gens = #[] → Bk base s → s.heap.Inst x C (fun _ => none) → (∃ o, s.heap.get? x = some o ∧ o.dict = some d) → (base x = none ∧ base d = none) → Rep prog w s.heap (.list l) (.ref L) [L] →
  wpAny (model prog w) A (PySem.call (.ref f) [.ref x, .ref L]) (fun v s' => v = .none ∧ s'.gens = s.gens ∧ s'.os = s.os ∧ Chg [x, d] s.heap s'.heap ∧ Rep prog w s'.heap (.obj C l) (.ref x) [x, d, L]) No s
section
variable {F : Fm} {ρ : Rho} {k : Nat} {P : Fl → Rho → Prop}
theorem eb_const {b : Bool} {kd : Nat} {pos : PySem.Pos} : EvB prog w F ρ k (.Constant (.bool b) kd pos) b := eb_bool (fr := true) ev_bool fun Q s A E h => wpAny_isTrue_value h
theorem callWith_cls1 {A : Around} {s : Shared} {pos : PySem.Pos} {C N : Addr} {base : Addr → Option Obj} {mN : Str → Option Value} {args : List (Bool × Sem Value)} {Q E : Value → Shared → Prop} (hp : args.any (·.1) = false) (c : ClsB base C N mN)
    (h : wpAny (model prog w) A (spliced args) (fun vs s₁ => Bk base s₁ ∧ wpAny (model prog w) A (PySem.call (.ref C) vs []) Q E s₁) E s) : wpAny (model prog w) A (callWith pos (.ref C) [] args []) Q E s := by
  unfold callWith
  refine wpAny_bind (wpAny_holding (evalArgs_any hp (wpAny_mono h (fun vs s₁ ⟨b, h₁⟩ => ?_) fun _ _ e => e)))
  refine wpAny_bind (wpAny_standAt ?_)
  obtain ⟨hh, g, d, t, os⟩ := s₁
  obtain ⟨nm, q, bs, sn, sub, col, dd, k0, k1, k2, k3, k5, hC⟩ := (c.at_ _ b).obj
  have f1 := tc_lookup
  show wpAny _ _ (keeperOf (.ref C) >>= _) _ _ _
  unfold keeperOf specialOf
  repeat (any_goals (first | assumption | with_reducible refine wpAny_loadPart_at hC ?_ | with_reducible refine wpAny_load' hC ?_ | wp_step))
  have hst : (args.any (fun x => x.fst) || ([] : List (Option Str × Sem Value)).any fun x => x.fst.isNone) = false := by rw [hp]; rfl
  rw [if_pos (by rfl), hst]
  show wpAny _ _ (call (.ref C) vs [] >>= fun r => do holding [r] point; pure r) _ _ _
  exact wpAny_bind (wpAny_mono h₁ (fun r s' hr => wpAny_bind (wpAny_holding (wpAny_point (wpAny_pure hr)))) fun _ _ x => x)
theorem ex_raw {A : Around} {s : Shared} {t : Sem Flow} {Q : Flow → Shared → Prop} (h : ExS prog w F ρ k t (fun fl _ => fl = .next)) (ok : FmOk F) (rm : Room k A) (I : Inv prog w F ρ s) (hQ : ∀ ρ' s', Inv prog w F ρ' s' → Q .next s') : wpAny (model prog w) A t Q No s :=
  wpAny_mono (h F.base F.res (Fm.Le.refl F) ok A s rm I) (fun f s' ⟨fl, ρ', e1, I', hf⟩ => by
    subst e1
    cases f with
    | next => exact hQ ρ' s' I'
    | brk => exact hf.elim
    | cont => exact hf.elim
    | ret v => exact hf.elim) fun _ _ e => e
structure LstB (base : Addr → Option Obj) (L : Addr) (vs : List Value) (l : List IV) : Prop where
  at_ : ∀ s : Shared, Bk base s → PlainL s.heap L vs.toArray ∧ IVs s.heap l vs
  bs : ∃ o, base L = some o
theorem src_val {x : Str} {np : PySem.Pos} {L : Addr} {vs : List Value} {l : List IV} {f : Bool} (lb : LstB F.base L vs l) (h : ∀ b r, F.Le b r → FmOk (F.up b r) → EvJ prog w (F.up b r) ρ k (.Name x np) (.iv (.at (.val (.ref L)))) f) :
    SrcL prog w F ρ k (.Name x np) l := fun b r lf ok A s s₀ rm x₀ I =>
  wpAny_mono (h b r lf ok A s rm (I.ext x₀)) (fun v s₁ ⟨x1, fp, ⟨e, _⟩, _⟩ => by
    have e : v = .ref L := e
    subst e
    have bk : Bk F.base s₁ := fun a o e => (x₀.trans x1).2 _ _ (I.keep a o (lf.base a o e))
    obtain ⟨hl, hv⟩ := lb.at_ s₁ bk
    refine ⟨x1, L, vs, rfl, hl, hv, fun s₂ X b₂ x₂ fz _ => ?_⟩
    obtain ⟨o, ho⟩ := lb.bs
    exact ⟨o, fz.le.base L o (lf.base L o ho)⟩) fun _ _ e => e
theorem FmOk.rebase {b : Addr → Option Obj} (ok : FmOk F) (h : ∀ a, F.base a = none → b a = none) : FmOk { F with base := b } where
  kind := ok.kind
  loc := ok.loc
  cel := ok.cel
  names := ok.names
  cells := ok.cells
  baseL := h _ ok.baseL
  resL := ok.resL
  resC := ok.resC
  mine := fun c hc => h _ (ok.mine c hc)
  acc := fun d hd => ⟨h _ (ok.acc d hd).1, (ok.acc d hd).2⟩
  mineC := ok.mineC
noncomputable def aRho (ps : List (Option At)) : Rho := ps.map fun p => match p with | some a => (PV.iv (.at a), false) | none => (PV.any, false)
theorem Inv.rebase {s : Shared} {h' : Heap} {b : Addr → Option Obj} {ps : List (Option At)} (I : Inv prog w F (aRho ps) s) (t : Nat) (hb : ∀ a o, b a = some o → h'.get? a = some o) (hL : ∀ o, s.heap.get? F.env.locals = some o → h'.get? F.env.locals = some o)
    (hc : ∀ (i : Nat) (x : Str) (c : Addr), F.slots[i]? = some (x, some c) → ∀ o, s.heap.get? c = some o → h'.get? c = some o) (hr : ∀ a, ¬ F.res a) (ha : ∀ a, ¬ F.acc a) : Inv prog w { F with base := b } (aRho ps) { s with heap := h', toks := t } := by
  obtain ⟨k, g, o, ln, rs, ac, m, hm, fp, aa, c⟩ := I
  obtain ⟨om, es, ep, e1, e2⟩ := hm
  have flat : ∀ i p own, ((aRho ps) : Rho)[i]? = some (p, own) → own = false ∧ (p = PV.any ∨ ∃ a, p = PV.iv (.at a)) := fun i p own e => by
    unfold aRho at e
    rw [List.getElem?_map] at e
    cases q : ps[i]? with
    | none => rw [q] at e; cases e
    | some y =>
      rw [q] at e
      cases y with
      | none => cases e; exact ⟨rfl, .inl rfl⟩
      | some a => cases e; exact ⟨rfl, .inr ⟨a, rfl⟩⟩
  refine ⟨hb, g, o, ln, fun a h => absurd h (hr a), fun d h => absurd h (ha d), m, ⟨om, es, ep, hL _ e1, e2⟩, fun _ => [], fun i x acc p own h1 h2 => ?_, fun i p h1 => ?_⟩
  · obtain ⟨ov, h3, h4, _⟩ := aa i x acc p own h1 h2
    refine ⟨ov, ?_, ?_, fun a h => nomatch h⟩
    · cases acc with
      | none => exact h3
      | some cc =>
        obtain ⟨oc, hoc, hd⟩ := h3
        exact ⟨oc, hc i x cc h1 _ hoc, hd⟩
    · rcases (flat i p own h2).2 with rfl | ⟨a, rfl⟩
      · rfl
      · cases ov with
        | none => exact h4.elim
        | some v =>
          have h4 : Rep prog w s.heap (.iv (.at a)) v (fp i) := h4
          exact ⟨h4.1, rfl⟩
  · exact absurd (flat i p true h1).1 (by simp)
end
variable {prog : Program} {w : World}
theorem strs_get : ∀ {vs : List Value} {l : List Str} {i : Nat} {v : Value}, StrsAre vs l → vs[i]? = some v → ∃ x t, l[i]? = some x ∧ v = .str x t
  | _, _, 0, v, .cons x t r, h => ⟨x, t, rfl, (by simpa using h.symm)⟩
  | _, _, i + 1, v, .cons x t r, h => by
    obtain ⟨y, u, h1, h2⟩ := strs_get (i := i) r (by simpa using h)
    exact ⟨y, u, by simpa using h1, h2⟩
  | _, _, _, _, .nil, h => by simp at h
noncomputable abbrev keyLen : List (Str × Value) := [(Str.ofString "key", .builtin "len")]
section
variable {A : Around} {s : Shared}
theorem strs_len : ∀ {vs : List Value} {l : List Str}, StrsAre vs l → vs.length = l.length
  | _, _, .nil => rfl
  | _, _, .cons x t r => congrArg (· + 1) (strs_len r)
end
def SortedLen (l l' : List Str) : Prop := l'.Perm l ∧ l'.Pairwise fun x y => x.length ≤ y.length
theorem ltCps_total : ∀ a b : List Nat, PySem.Spec.ltCps a b = false → PySem.Spec.ltCps b a = false → a = b := fun a b h1 h2 => by
  rw [ltCps_eq] at h1 h2
  exact List.le_antisymm (by simpa using h2) (by simpa using h1)
open PySem.Sre PySem.Builtin.Re
theorem runFor_done : ∀ (n : Nat) (m : Sre.M), m.outcome.isSome = true → m.runFor n = m
  | 0, _, _ => rfl
  | n + 1, m, h => by
    unfold M.runFor
    rw [if_pos h]
theorem runFor_add : ∀ (a b : Nat) (m : Sre.M), m.runFor (a + b) = (m.runFor a).runFor b
  | 0, b, m => by rw [Nat.zero_add]; rfl
  | a + 1, b, m => by
    have e : ∀ n (m : Sre.M), m.runFor (n + 1) = if m.outcome.isSome = true then m else m.step.runFor n := fun n m => rfl
    rw [Nat.succ_add, e, e]
    by_cases h : m.outcome.isSome = true
    · rw [if_pos h, if_pos h]
      exact (runFor_done b m h).symm
    · rw [if_neg h, if_neg h]
      exact runFor_add a b m.step
section
variable {prog : Program} {w : World} {A : Around} {s : Shared}
theorem drive_wp {E : Value → Shared → Prop} {Q : Sre.M → Shared → Prop} : ∀ (turns N : Nat) (m m' : Sre.M), m.runFor N = m' → m'.outcome.isSome = true → N < 4 * turns → Q m' s → wpAny (model prog w) A (reDrive turns m) Q E s
  | 0, N, m, m', h1, h2, h3, hq => absurd h3 (by lia)
  | t + 1, N, m, m', h1, h2, h3, hq => by
    unfold reDrive
    show wpAny _ _ (if (m.runFor 4).outcome.isSome = true then pure (m.runFor 4) else do rule "sre.turn"; reDrive t (m.runFor 4)) _ _ _
    rcases Nat.le_total N 4 with h | h
    · have e : m.runFor 4 = m' := by
        obtain ⟨d, hd⟩ := Nat.exists_eq_add_of_le h
        rw [hd, runFor_add, h1]
        exact runFor_done _ _ h2
      rw [e, if_pos h2]
      exact wpAny_pure hq
    · obtain ⟨d, rfl⟩ := Nat.exists_eq_add_of_le h
      rw [runFor_add] at h1
      by_cases h4 : (m.runFor 4).outcome.isSome = true
      · rw [if_pos h4]
        rw [runFor_done d _ h4] at h1
        rw [h1]
        exact wpAny_pure hq
      · rw [if_neg h4]
        exact wpAny_bind (wpAny_rule (drive_wp t d _ m' h1 h2 (by lia) hq))
theorem toEnd_wp {E : Value → Shared → Prop} {Q : Option Sre.M → Shared → Prop} {m m' : Sre.M} {N : Nat} (h : m.runFor N = m') (hN : N ≤ 2 ^ 60) (hq : (m'.outcome = some .matched ∧ Q (some m') s) ∨ (m'.outcome = some .failed ∧ Q none s)) : wpAny (model prog w) A (reRunToEnd m) Q E s := by
  have ho : m'.outcome.isSome = true := by rcases hq with ⟨h, _⟩ | ⟨h, _⟩ <;> rw [h] <;> rfl
  unfold reRunToEnd
  refine wpAny_bind (drive_wp (2 ^ 64) N m m' h ho (by lia) ?_)
  refine wpAny_bind ?_
  refine wpAny_forIn_list _ (fun _ _ s' => s' = s) _ ?_ ?_ _ _ rfl
  · rintro i rest _ s' rfl
    by_cases hi : m'.seen.has i = true
    · rw [if_pos hi]
      exact wpAny_bind (wpAny_rule (wpAny_pure rfl))
    · rw [if_neg hi]
      exact wpAny_pure rfl
  · rintro _ s' rfl
    rcases hq with ⟨h, hq⟩ | ⟨h, hq⟩ <;> rw [h] <;> exact wpAny_pure hq
end
open PySem.Sre PySem.Builtin.Re
noncomputable def C2 : Array Nat := #[14, 9, 4, 1, 2, 16, 10, 16, 13, 0, 7, 7, 16, 13, 16, 10, 15, 18, 5, 16, 10, 15, 13, 11, 16, 13, 5, 5, 0, 16, 10, 1, 15, 2, 0, 1]
noncomputable def C1 : Array Nat := #[14, 4, 0, 1, 1, 6, 1, 16, 46, 1]
noncomputable abbrev mk (code text : Array Nat) (lim start last pc pos handed : Nat) (om : Bool) (frames : List Sre.Frame) (weight : Nat) (ans : Option Bool) (seen : Sre.Seen) : Sre.M :=
  { code, text, lim, start, lastStart := last, pc, pos, handed, outermost := om, marks := #[], frames, weight, answer := ans, seen }
theorem op_lit : ops[16]? = some .LITERAL := rfl
theorem lit_step {code text : Array Nat} {lim start last pc pos handed : Nat} {om : Bool} {frames : List Sre.Frame} {weight : Nat} {seen : Sre.Seen} (hpc : pc < code.size) (hw : code.getD pc 0 = 16) :
    (mk code text lim start last pc pos handed om frames weight none seen).step = if pos ≥ lim then mk code text lim start last pc pos handed om frames weight (some false) (seen.add 16) else
      if text.getD pos 0 = code.getD (pc + 1) 0 then mk code text lim start last (pc + 2) (pos + 1) handed om frames weight none (seen.add 16) else mk code text lim start last pc pos handed om frames weight (some false) (seen.add 16) := by
  unfold M.step
  show (if pc < code.size then _ else _) = _
  rw [if_pos hpc]
  unfold M.exec
  have e : M.word (mk code text lim start last pc pos handed om frames weight none seen) 0 = 16 := hw
  rw [e, op_lit]
  dsimp only
  by_cases h : pos ≥ lim
  · rw [if_pos h, if_pos h]; rfl
  · rw [if_neg h, if_neg h]
    have ea : accepts code pc (text.getD pos 0) (seen.add 16) = .ok (text.getD pos 0 == code.getD (pc + 1) 0, seen.add 16) := by
      unfold accepts
      rw [hw, op_lit]
    rw [ea]
    by_cases hc : text.getD pos 0 = code.getD (pc + 1) 0
    · rw [if_pos hc, beq_iff_eq.mpr hc]
      have ei : itemWidth code pc = 2 := by unfold itemWidth; rw [hw, op_lit]
      show { mk code text lim start last pc pos handed om frames weight none (seen.add 16) with pc := pc + itemWidth code pc, pos := pos + 1 } = _
      rw [ei]
    · rw [if_neg hc, beq_eq_false_iff_ne.mpr hc]; rfl
open PySem.Sre PySem.Builtin.Re
theorem run_step (n : Nat) (m : Sre.M) (h : m.outcome = none) : m.runFor (n + 1) = m.step.runFor n := by
  show (if m.outcome.isSome = true then m else m.step.runFor n) = _
  rw [h]; rfl
noncomputable def bol (text : Array Nat) (s : Nat) : Bool := s == 0 || text.getD (s - 1) 0 == 10
theorem at_step1 {text : Array Nat} {lim start last pos handed : Nat} {om : Bool} {frames : List Sre.Frame} {weight : Nat} {seen : Sre.Seen} : ∃ seen',
    (mk C1 text lim start last 5 pos handed om frames weight none seen).step = if bol text pos = true then mk C1 text lim start last 7 pos handed om frames weight none seen' else mk C1 text lim start last 5 pos handed om frames weight (some false) seen' := by
  refine ⟨(seen.add 6).add 44, ?_⟩
  have e : (mk C1 text lim start last 5 pos handed om frames weight none seen).step = (let m : Sre.M := { mk C1 text lim start last 5 pos handed om frames weight none seen with seen := seen.add 6 }
      match m.isAt 1 with
      | .error why => m.stick why
      | .ok yes => let m := { m with seen := m.seen.add 44 }; if yes then { m with pc := m.pc + 2 } else m.say false) := rfl
  rw [e]
  have e2 : ∀ m : Sre.M, m.isAt 1 = .ok (m.pos == 0 || m.text.getD (m.pos - 1) 0 == 10) := fun m => rfl
  dsimp only
  rw [e2]
  show (if bol text pos = true then _ else _) = _
  by_cases h : bol text pos = true
  · rw [if_pos h, if_pos h]
  · rw [if_neg h, if_neg h]; rfl
noncomputable abbrev nsFrame (pc s : Nat) (om : Bool) : Sre.Frame := { wait := .nextStart, pc, pos := s, outermost := om }
theorem no_step1 {text : Array Nat} {lim s pc pos handed : Nat} {om o2 : Bool} {seen : Sre.Seen} : (mk C1 text lim s lim pc pos handed o2 [nsFrame 5 s om] 1 (some false) seen).step =
    if s < lim then mk C1 text lim (s + 1) lim 5 (s + 1) (s + 1) false [nsFrame 5 (s + 1) false] 1 none seen else mk C1 text lim s lim 5 s handed om [] 0 (some false) seen := by
  have e : (mk C1 text lim s lim pc pos handed o2 [nsFrame 5 s om] 1 (some false) seen).step = if s < lim then (mk C1 text lim s lim 5 s handed om [] 0 none seen).attemptFrom (s + 1) false else (mk C1 text lim s lim 5 s handed om [] 0 none seen).say false := rfl
  rw [e]
  by_cases h : s < lim
  · rw [if_pos h, if_pos h]; rfl
  · rw [if_neg h, if_neg h]; rfl
theorem yes_step {code text : Array Nat} {lim s last pc pc0 pos handed : Nat} {om o2 : Bool} {seen : Sre.Seen} : (mk code text lim s last pc pos handed o2 [nsFrame pc0 s om] 1 (some true) seen).step = mk code text lim s last pc0 s handed om [] 0 (some true) seen := rfl
theorem fin_step {code text : Array Nat} {lim s last pc pos handed : Nat} {om : Bool} {wt : Nat} {seen : Sre.Seen} {b : Bool} : (mk code text lim s last pc pos handed om [] wt (some b) seen).step = { mk code text lim s last pc pos handed om [] wt (some b) seen with outcome := some (if b then .matched else .failed) } := rfl
theorem succ_step1 {text : Array Nat} {lim s pos handed : Nat} {om : Bool} {fr : List Sre.Frame} {wt : Nat} {seen : Sre.Seen} : (mk C1 text lim s lim 9 pos handed om fr wt none seen).step = mk C1 text lim s lim 9 pos pos om fr wt (some true) (seen.add 1) := by
  have e : (mk C1 text lim s lim 9 pos handed om fr wt none seen).step = if (om && ((false && pos != lim) || (false && pos == s))) = true then (mk C1 text lim s lim 9 pos handed om fr wt none (seen.add 1)).say false else (mk C1 text lim s lim 9 pos pos om fr wt none (seen.add 1)).say true := rfl
  rw [e, if_neg (by cases om <;> simp)]
  rfl
noncomputable abbrev Done (b : Bool) (m : Sre.M) : Sre.M := { m with outcome := some (if b then .matched else .failed) }
theorem try1 {text : Array Nat} {lim s : Nat} {om : Bool} {seen : Sre.Seen} : ∃ n seen' om', n ≤ 8 ∧
    ∀ k, (mk C1 text lim s lim 5 s s om [nsFrame 5 s om] 1 none seen).runFor (n + k) = if bol text s = true ∧ s < lim ∧ text.getD s 0 = 46 then Done true (mk C1 text lim s lim 5 s (s + 1) om' [] 0 (some true) seen')
      else if s < lim then (mk C1 text lim (s + 1) lim 5 (s + 1) (s + 1) false [nsFrame 5 (s + 1) false] 1 none seen').runFor k
      else Done false (mk C1 text lim s lim 5 s s om' [] 0 (some false) seen') := by
  obtain ⟨seen1, h1⟩ := at_step1 (text := text) (lim := lim) (start := s) (last := lim) (pos := s) (handed := s) (om := om) (frames := [nsFrame 5 s om]) (weight := 1) (seen := seen)
  have no : ∀ pc seen', bol text s = false ∨ ¬ s < lim ∨ text.getD s 0 ≠ 46 → ∀ k, (mk C1 text lim s lim pc s s om [nsFrame 5 s om] 1 (some false) seen').runFor (2 + k) = if bol text s = true ∧ s < lim ∧ text.getD s 0 = 46 then Done true (mk C1 text lim s lim 5 s (s + 1) om [] 0 (some true) seen')
      else if s < lim then (mk C1 text lim (s + 1) lim 5 (s + 1) (s + 1) false [nsFrame 5 (s + 1) false] 1 none seen').runFor (k + 1)
      else Done false (mk C1 text lim s lim 5 s s om [] 0 (some false) seen') := fun pc seen' hn k => by
    rw [if_neg (by
      rintro ⟨a, b, c⟩
      rcases hn with h | h | h
      · rw [a] at h; cases h
      · exact h b
      · exact h c)]
    rw [show 2 + k = (k + 1) + 1 by lia, run_step _ _ rfl, no_step1]
    by_cases h : s < lim
    · rw [if_pos h, if_pos h]
    · rw [if_neg h, if_neg h, run_step _ _ rfl, fin_step]
      exact runFor_done _ _ rfl
  by_cases hb : bol text s = true
  · rw [if_pos hb] at h1
    have h2 := lit_step (code := C1) (text := text) (lim := lim) (start := s) (last := lim) (pc := 7) (pos := s) (handed := s) (om := om) (frames := [nsFrame 5 s om]) (weight := 1) (seen := seen1) (by decide) rfl
    by_cases hl : s < lim
    · rw [if_neg (by lia)] at h2
      by_cases hc : text.getD s 0 = 46
      · rw [if_pos (show text.getD s 0 = C1.getD (7 + 1) 0 from hc)] at h2
        refine ⟨5, (seen1.add 16).add 1, om, by lia, fun k => ?_⟩
        rw [if_pos ⟨hb, hl, hc⟩, show 5 + k = k + 1 + 1 + 1 + 1 + 1 by lia, run_step _ _ rfl, h1, run_step _ _ rfl, h2, run_step _ _ rfl, succ_step1, run_step _ _ rfl, yes_step, run_step _ _ rfl, fin_step]
        exact runFor_done _ _ rfl
      · rw [if_neg (show ¬ text.getD s 0 = C1.getD (7 + 1) 0 from hc)] at h2
        refine ⟨3, seen1.add 16, om, by lia, fun k => ?_⟩
        have := no 7 (seen1.add 16) (.inr (.inr hc)) k
        rw [if_neg (fun q => hc q.2.2), if_pos hl] at this ⊢
        rw [show 3 + k = k + 1 + 1 + 1 by lia, run_step _ _ rfl, h1, run_step _ _ rfl, h2, run_step _ _ rfl, no_step1, if_pos hl]
    · rw [if_pos (by lia)] at h2
      refine ⟨4, seen1.add 16, om, by lia, fun k => ?_⟩
      rw [if_neg (fun q => hl q.2.1), if_neg hl, show 4 + k = k + 1 + 1 + 1 + 1 by lia, run_step _ _ rfl, h1, run_step _ _ rfl, h2, run_step _ _ rfl, no_step1, if_neg hl, run_step _ _ rfl, fin_step]
      exact runFor_done _ _ rfl
  · rw [if_neg hb] at h1
    by_cases hl : s < lim
    · refine ⟨2, seen1, om, by lia, fun k => ?_⟩
      rw [if_neg (fun q => hb q.1), if_pos hl, show 2 + k = k + 1 + 1 by lia, run_step _ _ rfl, h1, run_step _ _ rfl, no_step1, if_pos hl]
    · refine ⟨3, seen1, om, by lia, fun k => ?_⟩
      rw [if_neg (fun q => hb q.1), if_neg hl, show 3 + k = k + 1 + 1 + 1 by lia, run_step _ _ rfl, h1, run_step _ _ rfl, no_step1, if_neg hl, run_step _ _ rfl, fin_step]
      exact runFor_done _ _ rfl
noncomputable def nextP (P : Nat → Bool) (lim : Nat) : Nat → Nat → Option Nat
  | 0, _ => none
  | f + 1, s => if s < lim then (if P s then some s else nextP P lim f (s + 1)) else none
noncomputable def dotAt (text : Array Nat) (s : Nat) : Bool := bol text s && text.getD s 0 == 46
theorem scan1 {text : Array Nat} {lim : Nat} : ∀ (f s : Nat) (om : Bool) (seen : Sre.Seen), lim < s + f → s ≤ lim → ∃ n m', n ≤ 8 * f ∧ (mk C1 text lim s lim 5 s s om [nsFrame 5 s om] 1 none seen).runFor n = m' ∧
    match nextP (dotAt text) lim f s with
    | some i => m'.outcome = some .matched ∧ m'.start = i ∧ m'.handed = i + 1
    | none => m'.outcome = some .failed
  | 0, s, om, seen, h, hs => absurd h (by lia)
  | f + 1, s, om, seen, h, hs => by
    obtain ⟨n, seen', om', h1, h2⟩ := try1 (text := text) (lim := lim) (s := s) (om := om) (seen := seen)
    by_cases hl : s < lim
    · by_cases hd : dotAt text s = true
      · have hd2 : bol text s = true ∧ text.getD s 0 = 46 := by
          have : (bol text s && text.getD s 0 == 46) = true := hd
          rw [Bool.and_eq_true, beq_iff_eq] at this; exact this
        have h9 := h2 0
        rw [if_pos ⟨hd2.1, hl, hd2.2⟩, Nat.add_zero] at h9
        refine ⟨n, _, by lia, h9, ?_⟩
        unfold nextP
        rw [if_pos hl, if_pos hd]
        exact ⟨rfl, rfl, rfl⟩
      · have h8 : lim < s + 1 + f := by lia
        obtain ⟨n2, m', h3, h4, h5⟩ := scan1 f (s + 1) false seen' h8 hl
        refine ⟨n + n2, m', by lia, ?_, ?_⟩
        · rw [h2 n2, if_neg (fun q => hd (by show (bol text s && text.getD s 0 == 46) = true; rw [q.1, q.2.2]; rfl)), if_pos hl]; exact h4
        · unfold nextP
          rw [if_pos hl, if_neg hd]
          exact h5
    · have h9 := h2 0
      rw [if_neg (fun q => hl q.2.1), if_neg hl, Nat.add_zero] at h9
      refine ⟨n, _, by lia, h9, ?_⟩
      unfold nextP
      rw [if_neg hl]
      rfl
open PySem.Sre PySem.Builtin.Re
def Found (P : Nat → Bool) (lim s : Nat) (m' : Sre.M) : Prop := match nextP P lim (lim + 1 - s) s with
  | some i => m'.outcome = some .matched ∧ m'.start = i ∧ m'.handed = i + 1
  | none => m'.outcome = some .failed
theorem nextP_end {P : Nat → Bool} {lim : Nat} : ∀ f, nextP P lim f lim = none
  | 0 => rfl
  | f + 1 => by unfold nextP; rw [if_neg (Nat.lt_irrefl _)]
theorem search1 {text : Array Nat} {lim s : Nat} (hs : s ≤ lim) : ∃ n m', n ≤ 8 * (lim + 2) ∧ (forSearch C1 text 0 s lim false).runFor n = m' ∧ Found (dotAt text) lim s m' := by
  have e : forSearch C1 text 0 s lim false = if (decide (s > lim) || decide (lim - s < 1)) = true then mk C1 text lim s 0 5 s s true [] 0 (some false) (({} : Sre.Seen).add 14) else mk C1 text lim s lim 5 s s true [nsFrame 5 s true] 1 none (({} : Sre.Seen).add 14) := rfl
  by_cases hl : s < lim
  · rw [e, if_neg (by simp; omega)]
    obtain ⟨n, m', h1, h2, h3⟩ := scan1 (text := text) (lim := lim) (lim + 1 - s) s true (({} : Sre.Seen).add 14) (by omega) hs
    exact ⟨n, m', by omega, h2, h3⟩
  · have : s = lim := by omega
    subst this
    rw [e, if_pos (by simp)]
    refine ⟨1, _, by omega, by rw [run_step _ _ rfl, fin_step], ?_⟩
    unfold Found
    rw [nextP_end]; rfl
theorem inSet2 (c : Nat) (seen : Sre.Seen) : ∃ seen', inSet C2 c C2.size 5 true seen = .ok (c == 10 || c == 13, seen') := by
  have e : inSet C2 c C2.size 5 true seen = if (c == 10) = true then .ok (true, seen.add 16) else if (c == 13) = true then .ok (true, (seen.add 16).add 16) else .ok (false, ((seen.add 16).add 16).add 0) := rfl
  rw [e]
  by_cases h1 : (c == 10) = true
  · rw [if_pos h1, h1]; exact ⟨_, rfl⟩
  · rw [if_neg h1]
    have h1 : (c == 10) = false := by simpa using h1
    rw [h1]
    by_cases h2 : (c == 13) = true
    · rw [if_pos h2, h2]; exact ⟨_, rfl⟩
    · rw [if_neg h2]
      have h2 : (c == 13) = false := by simpa using h2
      rw [h2]; exact ⟨_, rfl⟩
noncomputable def nlAt (text : Array Nat) (s : Nat) : Bool := text.getD s 0 == 10
theorem adm2 {m : Sre.M} (hc : m.code = C2) (h13 : ∀ i, m.text.getD i 0 ≠ 13) : ∀ (f s : Nat) (seen : Sre.Seen), ∃ seen', M.admitted m f s seen = .ok (nextP (nlAt m.text) m.lim f s, seen')
  | 0, s, seen => ⟨seen, rfl⟩
  | f + 1, s, seen => by
    unfold M.admitted nextP
    by_cases hl : s < m.lim
    · rw [if_neg (by omega), if_pos hl, hc]
      obtain ⟨seen1, h1⟩ := inSet2 (m.text.getD s 0) seen
      rw [h1]
      have e : (m.text.getD s 0 == 10 || m.text.getD s 0 == 13) = nlAt m.text s := by
        unfold nlAt
        rw [beq_eq_false_iff_ne.mpr (h13 s), Bool.or_false]
      rw [e]
      cases hn : nlAt m.text s with
      | true => exact ⟨seen1, rfl⟩
      | false =>
        obtain ⟨seen2, h2⟩ := adm2 hc h13 f (s + 1) seen1
        exact ⟨seen2, h2⟩
    · rw [if_pos (by omega), if_neg hl]
      exact ⟨seen, rfl⟩
noncomputable abbrev kp : Sre.Kept := { lastmark := -1, lastindex := -1, whole := false, marks := #[] }
noncomputable abbrev nbFrame (pc s : Nat) (om : Bool) : Sre.Frame := { wait := .nextBranch, pc, pos := s, outermost := om, kept := kp }
theorem match2 {text : Array Nat} {lim s : Nat} {om : Bool} {seen : Sre.Seen} (hl : s < lim) (hc : text.getD s 0 = 10) : ∃ m', (mk C2 text lim s lim 10 s s om [nsFrame 10 s om] 1 none seen).runFor 9 = m' ∧ m'.outcome = some .matched ∧ m'.start = s ∧ m'.handed = s + 1 := by
  have s1 : (mk C2 text lim s lim 10 s s om [nsFrame 10 s om] 1 none seen).step = mk C2 text lim s lim 12 s s om [nbFrame 11 s om, nsFrame 10 s om] 2 none (seen.add 7) := rfl
  have s2 := lit_step (code := C2) (text := text) (lim := lim) (start := s) (last := lim) (pc := 12) (pos := s) (handed := s) (om := om) (frames := [nbFrame 11 s om, nsFrame 10 s om]) (weight := 2) (seen := seen.add 7) (by decide) rfl
  rw [if_neg (by omega), if_neg (by rw [hc]; decide)] at s2
  have s3 : ∀ seen, (mk C2 text lim s lim 12 s s om [nbFrame 11 s om, nsFrame 10 s om] 2 (some false) seen).step = mk C2 text lim s lim 19 s s om [nbFrame 18 s om, nsFrame 10 s om] 2 none seen := fun seen => rfl
  have s4 := fun seen => lit_step (code := C2) (text := text) (lim := lim) (start := s) (last := lim) (pc := 19) (pos := s) (handed := s) (om := om) (frames := [nbFrame 18 s om, nsFrame 10 s om]) (weight := 2) (seen := seen) (by decide) rfl
  have s4' : ∀ seen, (mk C2 text lim s lim 19 s s om [nbFrame 18 s om, nsFrame 10 s om] 2 none seen).step = mk C2 text lim s lim 21 (s + 1) s om [nbFrame 18 s om, nsFrame 10 s om] 2 none (seen.add 16) := fun seen => by
    rw [s4 seen, if_neg (by omega), if_pos (by rw [hc]; rfl)]
  have s5 : ∀ seen, (mk C2 text lim s lim 21 (s + 1) s om [nbFrame 18 s om, nsFrame 10 s om] 2 none seen).step = mk C2 text lim s lim 35 (s + 1) s om [nbFrame 18 s om, nsFrame 10 s om] 2 none (seen.add 15) := fun seen => rfl
  have s6 : ∀ seen, (mk C2 text lim s lim 35 (s + 1) s om [nbFrame 18 s om, nsFrame 10 s om] 2 none seen).step = mk C2 text lim s lim 35 (s + 1) (s + 1) om [nbFrame 18 s om, nsFrame 10 s om] 2 (some true) (seen.add 1) := fun seen => by
    have e : (mk C2 text lim s lim 35 (s + 1) s om [nbFrame 18 s om, nsFrame 10 s om] 2 none seen).step = if (om && ((false && s + 1 != lim) || (false && s + 1 == s))) = true then (mk C2 text lim s lim 35 (s + 1) s om [nbFrame 18 s om, nsFrame 10 s om] 2 none (seen.add 1)).say false else (mk C2 text lim s lim 35 (s + 1) (s + 1) om [nbFrame 18 s om, nsFrame 10 s om] 2 none (seen.add 1)).say true := rfl
    rw [e, if_neg (by cases om <;> simp)]
    rfl
  have s7 : ∀ seen, (mk C2 text lim s lim 35 (s + 1) (s + 1) om [nbFrame 18 s om, nsFrame 10 s om] 2 (some true) seen).step = mk C2 text lim s lim 18 s (s + 1) om [nsFrame 10 s om] 1 (some true) seen := fun seen => rfl
  refine ⟨_, rfl, ?_⟩
  rw [run_step _ _ rfl, s1, run_step _ _ rfl, s2, run_step _ _ rfl, s3, run_step _ _ rfl, s4', run_step _ _ rfl, s5, run_step _ _ rfl, s6, run_step _ _ rfl, s7, run_step _ _ rfl, yes_step, run_step _ _ rfl, fin_step]
  exact ⟨rfl, rfl, rfl⟩
theorem search2 {text : Array Nat} {lim s : Nat} (h13 : ∀ i, text.getD i 0 ≠ 13) (hs : s ≤ lim) : ∃ n m', n ≤ 8 * (lim + 2) ∧ (forSearch C2 text 0 s lim false).runFor n = m' ∧ Found (nlAt text) lim s m' := by
  have e : forSearch C2 text 0 s lim false = if (decide (s > lim) || decide (lim - s < 1)) = true then mk C2 text lim s 0 10 s s true [] 0 (some false) (({} : Sre.Seen).add 14) else
      match M.admitted (mk C2 text lim s lim 10 s s true [] 0 none (({} : Sre.Seen).add 14)) (lim + 1 - s) s (({} : Sre.Seen).add 14) with
      | .ok (some i, seen) => mk C2 text lim i lim 10 i i true [nsFrame 10 i true] 1 none seen
      | .ok (none, seen) => mk C2 text lim s lim 10 s s true [] 0 (some false) seen
      | .error why => (mk C2 text lim s lim 10 s s true [] 0 none (({} : Sre.Seen).add 14)).stick why := rfl
  by_cases hl : s < lim
  · rw [e, if_neg (by simp; omega)]
    obtain ⟨seen', h1⟩ := adm2 (m := mk C2 text lim s lim 10 s s true [] 0 none (({} : Sre.Seen).add 14)) rfl h13 (lim + 1 - s) s (({} : Sre.Seen).add 14)
    rw [h1]
    unfold Found
    have key : ∀ f s i, nextP (nlAt text) lim f s = some i → i < lim ∧ text.getD i 0 = 10 := by
      intro f
      induction f with
      | zero => intro s i h; cases h
      | succ f ih =>
        intro s i h
        unfold nextP at h
        split at h
        · rename_i hlt
          split at h
          · rename_i hp
            cases h
            exact ⟨hlt, by simpa [nlAt] using hp⟩
          · exact ih _ _ h
        · cases h
    show ∃ n m', _ ∧ (match (Except.ok (nextP (nlAt text) lim (lim + 1 - s) s, seen') : Except String (Option Nat × Sre.Seen)) with | .ok (some i, seen) => _ | .ok (none, seen) => _ | .error why => _ : Sre.M).runFor n = m' ∧ _
    cases hn : nextP (nlAt text) lim (lim + 1 - s) s with
    | none => exact ⟨1, _, by omega, by rw [run_step _ _ rfl, fin_step], rfl⟩
    | some i =>
      obtain ⟨h2, h3⟩ := key _ _ _ hn
      obtain ⟨m', h4, h5⟩ := match2 (text := text) (lim := lim) (s := i) (om := true) (seen := seen') h2 h3
      exact ⟨9, m', by omega, h4, h5⟩
  · have : s = lim := by omega
    subst this
    rw [e, if_pos (by simp)]
    refine ⟨1, _, by omega, by rw [run_step _ _ rfl, fin_step], ?_⟩
    unfold Found
    rw [nextP_end]; rfl
open PySem.Builtin.Re PySem.Builtin
theorem plainAttrs_pat : PlainAttrs "re.Pattern" :=
  ⟨⟨"object.__getattribute__", by rw [typeLookup_type, builtinLookup_eq_fast]; kernel_rfl, by decide +kernel⟩, by rw [typeLookup_type, builtinLookup_eq_fast]; kernel_rfl⟩
theorem owner_pat : Manifest.owners.lookup (String.ofList ['n', 'r', 'e', 't', 't', 'a', 'P', '.', 'e', 'r'].reverse) = some Manifest.sig_re_Pattern := by kernel_rfl
theorem slot_sub : Slot "re.Pattern" "sub" "re.Pattern.sub" :=
  .of (owner := "re.Pattern") (n := "sub") (by rw [typeLookup_type, builtinLookup_eq_fast]; kernel_rfl) (by decide +kernel) (by decide +kernel) (by decide +kernel)
    (by first | exact .inl (by decide +kernel) | exact .inr (by decide +kernel)) (by rw [isSubtype_type]; kernel_rfl)
theorem type_sub : typeOf (.builtin "re.Pattern.sub") = pure (.type "method_descriptor") := by show builtinType _ = _; rw [builtinType_eq_fast]; kernel_rfl
theorem entry_sub : entryFor table "re.Pattern.sub" = some Builtin.«re.Pattern.sub» := entryFor_of_tree (by kernel_rfl)
theorem args_sub_3 (a b c : Value) : argsOk "re.Pattern.sub" ⟨[a, b, c], []⟩ := by
  unfold argsOk; rw [signature?_of (id := "re.Pattern.sub") (n := ['b', 'u', 's']) (o := ['n', 'r', 'e', 't', 't', 'a', 'P', '.', 'e', 'r']) (by kernel_rfl) owner_pat]; kernel_rfl
theorem slot_search : Slot "re.Pattern" "search" "re.Pattern.search" :=
  .of (owner := "re.Pattern") (n := "search") (by rw [typeLookup_type, builtinLookup_eq_fast]; kernel_rfl) (by decide +kernel) (by decide +kernel) (by decide +kernel)
    (by first | exact .inl (by decide +kernel) | exact .inr (by decide +kernel)) (by rw [isSubtype_type]; kernel_rfl)
theorem type_search : typeOf (.builtin "re.Pattern.search") = pure (.type "method_descriptor") := by show builtinType _ = _; rw [builtinType_eq_fast]; kernel_rfl
theorem entry_search : entryFor table "re.Pattern.search" = some Builtin.«re.Pattern.search» := entryFor_of_tree (by kernel_rfl)
theorem args_search_2 (a b : Value) : argsOk "re.Pattern.search" ⟨[a, b], []⟩ := by
  unfold argsOk; rw [signature?_of (id := "re.Pattern.search") (n := ['h', 'c', 'r', 'a', 'e', 's']) (o := ['n', 'r', 'e', 't', 't', 'a', 'P', '.', 'e', 'r']) (by kernel_rfl) owner_pat]; kernel_rfl
theorem plain_subloop : plainId "re.Pattern.sub.loop" = true := by decide +kernel
theorem entry_subloop : entryFor table "re.Pattern.sub.loop" = some Builtin.«re.Pattern.sub.loop» := entryFor_of_fast (by kernel_rfl)
def PatOk (h : Heap) (p : Addr) (C : Array Nat) : Prop := ∃ o vs T ot items n, h.get? p = some o ∧ o.cls = .type "re.Pattern" ∧ o.dict = none ∧ o.data = .fields vs ∧ vs.getD 5 .none = .ref T ∧ reRawNat (vs.getD 6 .none) = 0 ∧ reRawNat (vs.getD 2 .none) = 0 ∧ h.get? T = some ot ∧
  ot.cls = .type "tuple" ∧ ot.data = .seq items n ∧ (items.map reRawOf).map Int.toNat = C
theorem PatOk.keeps {h h' : Heap} (k : Keep h h') {p : Addr} {C : Array Nat} (x : PatOk h p C) : PatOk h' p C := x.imp fun o => Exists.imp fun vs => Exists.imp fun T => Exists.imp fun ot => Exists.imp fun items => Exists.imp fun n x => ⟨k _ _ x.1, x.2.1, x.2.2.1, x.2.2.2.1, x.2.2.2.2.1, x.2.2.2.2.2.1, x.2.2.2.2.2.2.1, k _ _ x.2.2.2.2.2.2.2.1, x.2.2.2.2.2.2.2.2⟩
section
variable {prog : Program} {w : World} {A : Around} {s : Shared} {E : Value → Shared → Prop}
noncomputable abbrev tgtOf (p : Addr) (x : Str) (t : Tok) (C : Array Nat) : ReTarget := { pattern := .ref p, string := .str x t, code := C, text := x.cps, kind := 0, groups := 0, pos := 0, lim := x.cps.size }
theorem whole_wp {p : Addr} {x : Str} {t : Tok} {C : Array Nat} {Q : ReTarget → Shared → Prop} (hp : PatOk s.heap p C) (hq : Q (tgtOf p x t C) s) : wpAny (model prog w) A (reWholeTarget (.ref p) (.str x t)) Q E s := by
  obtain ⟨o, vs, T, ot, items, n, a1, a2, a3, a4, a5, a6, a7, a8, _, a9, a10⟩ := hp
  unfold reWholeTarget
  refine wpAny_bind (m := fieldsOf (.ref p)) ?_
  unfold fieldsOf
  refine wpAny_bind (wpAny_load a1 ?_)
  rw [a4]
  refine wpAny_pure ?_
  refine wpAny_bind (m := reTextOf (.str x t)) (wpAny_pure ?_)
  dsimp only
  rw [a6]
  rw [if_neg (by decide), if_neg (by decide)]
  refine wpAny_bind (m := reNoCollectionInside (.str x t) 0) (wpAny_pure ?_)
  rw [a5]
  refine wpAny_bind (m := reRawItems (.ref T)) ?_
  unfold reRawItems
  refine wpAny_bind (wpAny_seqItems a8 a9 (wpAny_pure (wpAny_pure ?_)))
  dsimp only [Option.getD]
  rw [a10, a7]
  exact hq
end
open PySem.Builtin.Re PySem.Builtin
noncomputable def outL (P : Nat → Bool) (x : Array Nat) (r : Str) (d : Nat) : List Nat := (List.range d).flatMap fun i => if P i then r.cps.toList else [x.getD i 0]
theorem nextP_spec {P : Nat → Bool} {lim : Nat} : ∀ (f s : Nat), lim < s + f → match nextP P lim f s with
    | some i => s ≤ i ∧ i < lim ∧ P i = true ∧ ∀ j, s ≤ j → j < i → P j = false
    | none => ∀ j, s ≤ j → j < lim → P j = false
  | 0, s, h => fun j h1 h2 => absurd h2 (by lia)
  | f + 1, s, h => by
    unfold nextP
    by_cases hl : s < lim
    · rw [if_pos hl]
      cases hp : P s with
      | true => rw [if_pos rfl]; exact ⟨Nat.le_refl _, hl, hp, fun j h1 h2 => absurd h2 (by lia)⟩
      | false =>
        rw [if_neg (by simp)]
        have ih := nextP_spec (P := P) (lim := lim) f (s + 1) (by lia)
        cases hn : nextP P lim f (s + 1) with
        | none =>
          rw [hn] at ih
          intro j h1 h2
          rcases Nat.lt_or_ge s j with h3 | h3
          · exact ih j h3 h2
          · rw [show j = s by lia]; exact hp
        | some i =>
          rw [hn] at ih
          obtain ⟨a, b, c, d⟩ := ih
          refine ⟨by lia, b, c, fun j h1 h2 => ?_⟩
          rcases Nat.lt_or_ge s j with h3 | h3
          · exact d j h3 h2
          · rw [show j = s by lia]; exact hp
    · rw [if_neg hl]
      exact fun j h1 h2 => absurd h2 (by lia)
theorem outL_run {P : Nat → Bool} {x : Array Nat} {r : Str} : ∀ (n d : Nat), d + n ≤ x.size → (∀ j, d ≤ j → j < d + n → P j = false) → outL P x r (d + n) = outL P x r d ++ (x.extract d (d + n)).toList
  | 0, d, h, hp => by simp [outL]
  | n + 1, d, h, hp => by
    have ih := outL_run (P := P) (x := x) (r := r) n d (by lia) fun j h1 h2 => hp j h1 (by lia)
    have e : outL P x r (d + (n + 1)) = outL P x r (d + n) ++ [x.getD (d + n) 0] := by
      unfold outL
      rw [show d + (n + 1) = (d + n) + 1 by lia, List.range_succ, List.flatMap_append]
      simp [hp (d + n) (by lia) (by lia)]
    rw [e, ih, List.append_assoc]
    congr 1
    have h1 : d + n < x.size := by lia
    rw [Array.toList_extract, Array.toList_extract]
    show _ = (x.toList.extract d (d + (n + 1)))
    rw [List.extract_eq_take_drop, List.extract_eq_take_drop, show d + n - d = n by lia, show d + (n + 1) - d = n + 1 by lia, List.take_add_one]
    congr 1
    simp [h1]
theorem outL_at {P : Nat → Bool} {x : Array Nat} {r : Str} {i : Nat} (h : P i = true) : outL P x r (i + 1) = outL P x r i ++ r.cps.toList := by
  unfold outL
  rw [List.range_succ, List.flatMap_append]
  simp [h]
end Wk
namespace PS
open PySem.StrLaws PySem.Builtin PySem.Builtin.Str
noncomputable def occStep (s sub : Str) (hi limit : Nat) (st : Array Nat × Nat) (i : Nat) : Array Nat × Nat := if ((st.fst.size < limit ∧ st.snd ≤ i) ∧ i + sub.length ≤ hi) ∧ subAt s sub i = true then (st.fst.push i, i + sub.length) else st
theorem occ_fold (s sub : Str) (hi limit : Nat) : ∀ (l : List Nat) (st : Array Nat × Nat), (forIn l st (occBody s sub hi limit)).run = l.foldl (occStep s sub hi limit) st
  | [], st => rfl
  | a :: l, st => by
    rw [List.forIn_cons, List.foldl_cons]
    unfold occBody occStep
    split
    · exact occ_fold s sub hi limit l _
    · exact occ_fold s sub hi limit l _
theorem occ_skip (s sub : Str) (hi limit : Nat) : ∀ (l : List Nat) (st : Array Nat × Nat), (∀ i ∈ l, subAt s sub i = true → i + sub.length ≤ hi → False) → l.foldl (occStep s sub hi limit) st = st
  | [], st, _ => rfl
  | a :: l, st, h => by
    rw [List.foldl_cons]
    have e : occStep s sub hi limit st a = st := by
      unfold occStep
      rw [if_neg fun q => h a (List.mem_cons_self ..) q.2 q.1.2]
    rw [e]
    exact occ_skip s sub hi limit l st fun i hi => h i (List.mem_cons_of_mem _ hi)
noncomputable def cuts (w : Nat) : List (List Nat) → Nat → List Nat
  | [], _ => []
  | p :: ps, a => (a + p.length) :: cuts w ps (a + p.length + w)
noncomputable def glue (sep : List Nat) (ps : List (List Nat)) : List Nat := ps.flatMap (· ++ sep)
theorem subAt_head {x y : Str} {s0 : Nat} {tl : List Nat} (hy : y.cps.toList = s0 :: tl) {i : Nat} (h : subAt x y i = true) : x.cps.toList[i]? = some s0 := by
  rw [subAt_eq, hy] at h
  have h := eq_of_beq h
  have hl : y.length = tl.length + 1 := by
    have := congrArg List.length hy
    simpa [Str.length] using this
  rw [hl] at h
  have := congrArg (fun l => l[0]?) h
  simpa using this
theorem occ_pieces {y : Str} {s0 : Nat} {tl : List Nat} (hy : y.cps.toList = s0 :: tl) (htl : s0 ∉ tl) : ∀ (ps : List (List Nat)) (P : List Nat) (x : Str) (found : Array Nat) (free : Nat), x.cps.toList = P ++ glue (s0 :: tl) ps → (∀ p ∈ ps, s0 ∉ p) → free ≤ P.length → found.size ≤ P.length →
    ((List.range' P.length (x.length + 1 - P.length)).foldl (occStep x y x.length (x.length + 1)) (found, free)).1.toList = found.toList ++ cuts (tl.length + 1) ps P.length
  | [], P, x, found, free, hx, hp, hf, hs => by
    have hl : y.length = tl.length + 1 := by
      have := congrArg List.length hy
      simpa [Str.length] using this
    have hn : x.length = P.length := by
      have := congrArg List.length hx
      simpa [Str.length, glue] using this
    rw [hn, show P.length + 1 - P.length = 1 by lia]
    rw [occ_skip _ _ _ _ _ _ fun i hi h1 h2 => by
      have : i = P.length := by simpa using hi
      lia]
    simp [cuts]
  | p :: ps, P, x, found, free, hx, hp, hf, hs => by
    have hl : y.length = tl.length + 1 := by
      have := congrArg List.length hy
      simpa [Str.length] using this
    have hx' : x.cps.toList = (P ++ p ++ (s0 :: tl)) ++ glue (s0 :: tl) ps := by rw [hx]; simp [glue]
    have hn : x.length = P.length + p.length + (tl.length + 1) + (glue (s0 :: tl) ps).length := by
      have := congrArg List.length hx'
      simp [Str.length] at this ⊢
      lia
    have hr : List.range' P.length (x.length + 1 - P.length) = List.range' P.length p.length ++ ([P.length + p.length] ++ (List.range' (P.length + p.length + 1) tl.length ++ List.range' (P ++ p ++ (s0 :: tl)).length (x.length + 1 - (P ++ p ++ (s0 :: tl)).length))) := by
      have e1 : (P ++ p ++ (s0 :: tl)).length = P.length + p.length + 1 + tl.length := by simp; lia
      rw [e1, List.range'_append_1, show [P.length + p.length] = List.range' (P.length + p.length) 1 from rfl, List.range'_append_1, List.range'_append_1]
      congr 1
      lia
    have hat : ∀ i, x.cps.toList[i]? = if i < P.length then P[i]? else if i < P.length + p.length then p[i - P.length]? else if i < P.length + p.length + (tl.length + 1) then (s0 :: tl)[i - P.length - p.length]? else (glue (s0 :: tl) ps)[i - P.length - p.length - (tl.length + 1)]? := fun i => by
      rw [hx', List.append_assoc, List.append_assoc]
      by_cases h1 : i < P.length
      · rw [if_pos h1, List.getElem?_append_left h1]
      · rw [if_neg h1, List.getElem?_append_right (by lia)]
        by_cases h2 : i < P.length + p.length
        · rw [if_pos h2, List.getElem?_append_left (by lia)]
        · rw [if_neg h2, List.getElem?_append_right (by lia)]
          by_cases h3 : i < P.length + p.length + (tl.length + 1)
          · rw [if_pos h3, List.getElem?_append_left (by simp; lia)]
          · rw [if_neg h3, List.getElem?_append_right (by simp; lia)]; simp
    rw [hr, List.foldl_append, List.foldl_append, List.foldl_append]
    rw [occ_skip x y _ _ (List.range' P.length p.length) _ fun i hi h1 h2 => by
      have hi := List.mem_range'_1.mp hi
      have h3 := subAt_head hy h1
      rw [hat, if_neg (by lia), if_pos (by lia)] at h3
      exact hp p (List.mem_cons_self ..) (List.mem_of_getElem? h3)]
    have hit : subAt x y (P.length + p.length) = true := by
      rw [subAt_eq, hy, hx', hl]
      rw [List.append_assoc, List.append_assoc, List.drop_append, List.drop_of_length_le (by lia), show P.length + p.length - P.length = p.length by lia, List.nil_append, List.drop_append, List.drop_of_length_le (Nat.le_refl _), Nat.sub_self, List.drop_zero, List.nil_append, List.take_append_of_le_length (by simp), List.take_of_length_le (by simp)]
      simp
    have hstep : [P.length + p.length].foldl (occStep x y x.length (x.length + 1)) (found, free) = (found.push (P.length + p.length), P.length + p.length + y.length) := by
      show occStep x y x.length (x.length + 1) (found, free) (P.length + p.length) = _
      unfold occStep
      rw [if_pos ⟨⟨⟨by show found.size < _; lia, by show free ≤ _; lia⟩, by lia⟩, hit⟩]
    rw [hstep]
    rw [occ_skip x y _ _ (List.range' (P.length + p.length + 1) tl.length) _ fun i hi h1 h2 => by
      have hi := List.mem_range'_1.mp hi
      have h3 := subAt_head hy h1
      rw [hat, if_neg (by lia), if_neg (by lia), if_pos (by lia)] at h3
      obtain ⟨j, hj⟩ : ∃ j, i - P.length - p.length = j + 1 := ⟨i - P.length - p.length - 1, by lia⟩
      rw [hj, List.getElem?_cons_succ] at h3
      exact htl (List.mem_of_getElem? h3)]
    rw [occ_pieces hy htl ps (P ++ p ++ (s0 :: tl)) x _ _ hx' (fun q hq => hp q (List.mem_cons_of_mem _ hq)) (by simp; lia) (by simp; lia)]
    simp [cuts]
    rw [show P.length + (p.length + (tl.length + 1)) = P.length + p.length + (tl.length + 1) by lia]
theorem parts_pieces {s0 : Nat} {tl : List Nat} : ∀ (ps : List (List Nat)) (P : List Nat) (x : Str), x.cps.toList = P ++ glue (s0 :: tl) ps → partsFrom x (tl.length + 1) P.length (cuts (tl.length + 1) ps P.length) = ps.map (fun p => (⟨p.toArray⟩ : Str)) ++ [⟨#[]⟩]
  | [], P, x, hx => by
    have hn : x.length = P.length := by
      have := congrArg List.length hx
      simpa [Str.length, glue] using this
    show [strSub x P.length x.length] = _
    rw [hn]
    congr 1
    apply Str.ext'
    apply Array.toList_inj.mp
    rw [strSub_toList]
    simp
  | p :: ps, P, x, hx => by
    have hx' : x.cps.toList = (P ++ p ++ (s0 :: tl)) ++ glue (s0 :: tl) ps := by rw [hx]; simp [glue]
    show strSub x P.length (P.length + p.length) :: partsFrom x (tl.length + 1) (P.length + p.length + (tl.length + 1)) (cuts (tl.length + 1) ps (P.length + p.length + (tl.length + 1))) = _
    have e := parts_pieces ps (P ++ p ++ (s0 :: tl)) x hx'
    rw [show (P ++ p ++ (s0 :: tl)).length = P.length + p.length + (tl.length + 1) by simp; lia] at e
    rw [e]
    have h1 : strSub x P.length (P.length + p.length) = ⟨p.toArray⟩ := by
      apply Str.ext'
      apply Array.toList_inj.mp
      rw [strSub_toList, hx', List.append_assoc, List.append_assoc]
      simp
    rw [h1]; rfl
theorem kind_pos (x : Str) : 1 ≤ Builtin.Str.strKind x := by
  unfold Builtin.Str.strKind
  split
  · exact Nat.le_refl _
  · split <;> decide
theorem split_pieces {y : Str} {s0 : Nat} {tl : List Nat} (hy : y.cps.toList = s0 :: tl) (hk : Builtin.Str.strKind y = 1) (htl : s0 ∉ tl) (ps : List (List Nat)) (hp : ∀ p ∈ ps, s0 ∉ p) : Txt.split ⟨(glue (s0 :: tl) ps).toArray⟩ y = ps.map (fun p => (⟨p.toArray⟩ : Str)) ++ [⟨#[]⟩] := by
  have hl : y.length = tl.length + 1 := by
    have := congrArg List.length hy
    simpa [Str.length] using this
  have ho := occ_pieces hy htl ps [] ⟨(glue (s0 :: tl) ps).toArray⟩ #[] 0 (by simp) hp (Nat.le_refl _) (Nat.le_refl _)
  rw [List.length_nil] at ho
  have hocc : occurrences ⟨(glue (s0 :: tl) ps).toArray⟩ y 0 (⟨(glue (s0 :: tl) ps).toArray⟩ : Str).length ((⟨(glue (s0 :: tl) ps).toArray⟩ : Str).length + 1) = cuts (tl.length + 1) ps 0 := by
    rw [occ_eq, occ_fold, ho]; simp
  unfold Txt.split
  cases ps with
  | nil =>
    rw [if_pos (by simp [glue, Str.length]; left; have := hl; simp [Str.length] at this; lia)]
    rfl
  | cons p ps =>
    have hlen : (⟨(glue (s0 :: tl) (p :: ps)).toArray⟩ : Str).length = p.length + (tl.length + 1) + (glue (s0 :: tl) ps).length := by
      simp [glue, Str.length]; lia
    rw [if_neg (by
      rw [hk, hlen, hl]
      have := kind_pos ⟨(glue (s0 :: tl) (p :: ps)).toArray⟩
      simp only [Bool.or_eq_true, decide_eq_true_eq]
      lia)]
    rw [hocc, if_neg (by simp [cuts])]
    rw [partsBetween_eq, hl]
    have h2 := parts_pieces (s0 := s0) (tl := tl) (p :: ps) [] ⟨(glue (s0 :: tl) (p :: ps)).toArray⟩ (by simp)
    simpa using h2
end PS
namespace Wk
open PySem.Builtin.Re PySem.Builtin
section
variable {prog : Program} {w : World}
noncomputable def cat (l : List Str) : List Nat := l.flatMap fun x => x.cps.toList
theorem cat_snoc (l : List Str) (x : Str) : cat (l ++ [x]) = cat l ++ x.cps.toList := by simp [cat]
def PStrs (h : Heap) (L : Addr) (ss : List Str) : Prop := ∃ vs, PlainL h L vs.toArray ∧ StrsAre vs ss
theorem strsAre_snoc : ∀ {vs : List Value} {ss : List Str} {x : Str} {t : Tok}, StrsAre vs ss → StrsAre (vs ++ [.str x t]) (ss ++ [x])
  | _, _, x, t, .nil => .cons x t .nil
  | _, _, x, t, .cons y u r => .cons y u (strsAre_snoc r)
theorem strsAre_len : ∀ {vs : List Value} {ss : List Str}, StrsAre vs ss → vs.length = ss.length
  | _, _, .nil => rfl
  | _, _, .cons y u r => congrArg (· + 1) (strsAre_len r)
theorem push_wp {A : Around} {s : Shared} {L : Addr} {ss : List Str} {x : Str} {t : Tok} {Q : Unit → Shared → Prop} {E : Value → Shared → Prop} (hl : PStrs s.heap L ss) (hsz : ss.length ≤ sizeLine) (hQ : ∀ h', PStrs h' L (ss ++ [x]) → Heap.SameBut L s.heap h' → Q () { s with heap := h' }) :
    wpAny (model prog w) A (updateSeq L (·.push (.str x t))) Q E s := by
  obtain ⟨vs, ⟨o, n, ho, hc, hdict, hd⟩, hs⟩ := hl
  obtain ⟨n', hd'⟩ := Obj.data_mapSeq hd (·.push (Value.str x t))
  have hz : vs.toArray.size ≤ sizeLine := by rw [List.size_toArray, strsAre_len hs]; exact hsz
  refine wpAny_updateSeq ho hd (hQ _ ⟨vs ++ [.str x t], ⟨_, n', Heap.get?_update_self _ ho (Obj.isFreed_of_seq hd'), (Obj.cls_mapSeq ..).trans hc, ?_, ?_⟩, strsAre_snoc hs⟩ (Heap.SameBut.update ..)) hz (by simp; rw [List.size_toArray] at hz; lia)
  · obtain ⟨c, d, dt, sl⟩ := o
    cases dt <;> exact hdict
  · rw [hd', List.push_toArray]
theorem glue_fold : ∀ (rest : List Str) (acc : Array Nat), (rest.foldl (fun acc p => acc ++ Str.empty.cps ++ p.cps) acc).toList = acc.toList ++ cat rest
  | [], acc => by simp [cat]
  | x :: rest, acc => by
    rw [List.foldl_cons, glue_fold rest]
    simp [cat, Str.empty]
theorem join_cat (l : List Str) : (Txt.join Str.empty l).cps.toList = cat l := by
  show ((l.drop 1).foldl (fun acc p => acc ++ Str.empty.cps ++ p.cps) (l.headD Str.empty).cps).toList = _
  rw [glue_fold]
  cases l with
  | nil => simp [cat, Str.empty]
  | cons x l => simp [cat]
theorem joinOk_cat {l : List Str} (h : (cat l).length ≤ sizeLine) : JoinOk Str.empty l = true := by
  have key : ∀ (l : List Str) (n : Nat), l.foldl (fun a (x : Str) => a + x.length + Str.empty.length) n = n + (cat l).length := by
    intro l
    induction l with
    | nil => intro n; simp [cat]
    | cons x l ih =>
      intro n
      rw [List.foldl_cons, ih]
      simp [cat, Str.length, Str.empty]
      lia
  unfold JoinOk
  rw [List.foldl_toArray', key, Nat.zero_add]
  · unfold Builtin.Str.tooLong
    rw [decide_eq_false (by lia)]; rfl
  · rfl
theorem str_eta {x : Str} {l : List Nat} (h : x.cps.toList = l) : x = ⟨l.toArray⟩ := by
  obtain ⟨a⟩ := x
  have h : a.toList = l := h
  rw [← h]
noncomputable def patStr (l : List Nat) : Str := ⟨l.toArray⟩
def FindsP (C : Array Nat) (x : Array Nat) (P : Nat → Bool) : Prop := ∀ s, s ≤ x.size → ∃ n m', n ≤ 8 * (x.size + 2) ∧ (Sre.forSearch C x 0 s x.size false).runFor n = m' ∧ Found P x.size s m'
theorem outL_len {P : Nat → Bool} {x : Array Nat} {r : Str} (hr : r.length ≤ 10) : ∀ d, (outL P x r d).length ≤ 10 * d
  | 0 => by simp [outL]
  | d + 1 => by
    have ih := outL_len (P := P) (x := x) hr d
    have e : outL P x r (d + 1) = outL P x r d ++ (if P d then r.cps.toList else [x.getD d 0]) := by
      unfold outL; rw [List.range_succ, List.flatMap_append]; simp
    rw [e, List.length_append]
    have : (if P d then r.cps.toList else [x.getD d 0]).length ≤ 10 := by
      split
      · simpa [Str.length] using hr
      · simp
    lia
noncomputable def tailS (L : Addr) (x : Array Nat) (n : Int) : Sem Fin := do
  let joiner ← reSlice x 0 0 0
  let text ← if ((← seqItems? (.ref L)).getD #[]).isEmpty then pure joiner
    else call (.builtin (if (0 : Nat) == 0 then "str.join" else "bytes.join")) [joiner, .ref L]
  if false then ret (← holding [text] do newTuple [text, ← mkInt n]) else ret text
theorem tail_wp {A : Around} {s : Shared} {E : Value → Shared → Prop} {Q : Fin → Shared → Prop} {L : Addr} {x : Array Nat} {n : Int} {ss : List Str} (hl : PStrs s.heap L ss) (hsz : (cat ss).length ≤ sizeLine) (hQ : ∀ t' k', Q (.done (.ret (.str (patStr (cat ss)) t'))) { s with toks := k' }) :
    wpAny (model prog w) A (tailS L x n) Q E s := by
  obtain ⟨vs, ⟨o, m, ho, hc, hdict, hd⟩, hs⟩ := hl
  unfold tailS
  have ex : (⟨x.extract 0 0⟩ : Str) = Str.empty := by
    show Str.mk _ = Str.mk #[]
    congr 1
    simp
  refine wpAny_bind (m := reSlice x 0 0 0) (wpAny_mkStr ?_ (by show (x.extract 0 0).size ≤ _; simp))
  rw [ex]
  refine wpAny_bind (wpAny_seqItems (s := { s with toks := s.toks + 1 }) ho hd ?_)
  show wpAny _ _ (if vs.toArray.isEmpty = true then _ else _) _ _ _
  cases vs with
  | nil =>
    rw [if_pos (by simp)]
    cases hs
    exact wpAny_bind (wpAny_pure (wpAny_pure (hQ _ _)))
  | cons v vs =>
    rw [if_neg (by simp)]
    obtain ⟨tl, e1, e2⟩ := strs_vals hs
    refine wpAny_bind ?_
    show wpAny _ _ (call (.builtin "str.join") [.str Str.empty s.toks, .ref L]) _ _ _
    refine SC.join (s := { s with toks := s.toks + 1 }) (l := tl) ⟨o, ho, hc, m, by rw [← e1]; exact hd⟩ e2 (joinOk_cat hsz) fun t' k' => ?_
    rw [str_eta (join_cat ss)]
    exact wpAny_pure (hQ _ _)
set_option maxHeartbeats 1000000 in
theorem sub_loop {C : Array Nat} {p : Addr} {x r : Str} {t u : Tok} {P : Nat → Bool} (hf : FindsP C x.cps P) (hx : x.length ≤ 100000) (hr : r.length ≤ 10) : ∀ (k d : Nat) (A : Around) (s : Shared) (L : Addr) (ss : List Str) (n : Int) (Q : Value → Shared → Prop), x.length < d + k → d ≤ x.length → PatOk s.heap p C → (∃ o, s.heap.get? L = some o) → PStrs s.heap L ss → cat ss = outL P x.cps r d → ss.length ≤ 2 * d →
    (∀ t' s', (∀ b o, b ≠ L → s.heap.get? b = some o → s'.heap.get? b = some o) → s'.gens = s.gens → s'.os = s.os → Q (.str (patStr (outL P x.cps r x.length)) t') s') →
    codeAny (model prog w) A (.builtin "re.Pattern.sub.loop" ⟨[.ref p, .str x t, .str r u, rawInt 0, rawInt 0, rawInt n, rawInt d, rawInt d, .bool false, .ref L, .bool false], []⟩) (wants Q No) s := by
  intro k
  induction k with
  | zero => intro d A s L ss n Q h1 h2; exact absurd h1 (by lia)
  | succ k ih =>
    intro d A s L ss n Q h1 h2 hp hL hl hcat hlen hQ
    refine codeAny_builtin entry_subloop ?_
    rw [Around.under_plainId plain_subloop _]
    show wpAny _ A.in1 (reWholeTarget (.ref p) (.str x t) >>= _) _ _ s
    refine wpAny_bind (whole_wp hp ?_)
    dsimp only
    rw [if_pos (by rfl)]
    refine wpAny_bind (m := reLiteralCannotBeTurned (.str r u)) (wpAny_pure ?_)
    refine wpAny_bind ?_
    rw [if_neg (by simp), Int.toNat_natCast]
    obtain ⟨N, m', g1, g2, g3⟩ := hf d h2
    have hsz : x.cps.size = x.length := rfl
    have sp := nextP_spec (P := P) (lim := x.cps.size) (x.cps.size + 1 - d) d (by lia)
    unfold Found at g3
    show wpAny _ _ (reRunToEnd (Sre.forSearch C x.cps 0 d x.cps.size false)) _ _ _
    have ntL : ∀ h', Heap.SameBut L s.heap h' → ∀ b o, b ≠ L → s.heap.get? b = some o → h'.get? b = some o := fun h' hs b o hb e => (hs.2 b hb).trans e
    cases hn : nextP P x.cps.size (x.cps.size + 1 - d) d with
    | none =>
      rw [hn] at g3 sp
      refine toEnd_wp g2 (by lia) (.inr ⟨g3, ?_⟩)
      dsimp only
      have houtd : outL P x.cps r x.length = cat ss ++ (x.cps.extract d x.cps.size).toList := by
        have := outL_run (P := P) (x := x.cps) (r := r) (x.length - d) d (by lia) fun j q1 q2 => sp j q1 (by lia)
        rw [show d + (x.length - d) = x.length by lia] at this
        rw [this, hcat]
        rfl
      have hout : (outL P x.cps r x.length).length ≤ 1000000 := Nat.le_trans (outL_len hr _) (by lia)
      by_cases hd : d < x.cps.size
      · rw [if_pos hd]
        refine wpAny_bind (m := reSlice x.cps 0 d x.cps.size) (wpAny_mkStr ?_ (by show (x.cps.extract d x.cps.size).size ≤ _; simp; unfold sizeLine; lia))
        refine wpAny_bind (push_wp hl (by unfold sizeLine; lia) fun h' hl' hs' => ?_)
        have hc : cat (ss ++ [(⟨x.cps.extract d x.cps.size⟩ : Str)]) = outL P x.cps r x.length := by rw [cat_snoc, houtd]
        show wpAny _ _ (tailS L x.cps n) _ _ _
        refine tail_wp hl' (by rw [hc]; unfold sizeLine; lia) fun t' k' => ?_
        rw [hc]
        exact hQ t' _ (ntL h' hs') rfl rfl
      · rw [if_neg hd]
        have hc : cat ss = outL P x.cps r x.length := by rw [hcat, show d = x.length by lia]
        show wpAny _ _ (tailS L x.cps n) _ _ _
        refine tail_wp hl (by rw [hc]; unfold sizeLine; lia) fun t' k' => ?_
        rw [hc]
        exact hQ t' _ (fun b o _ e => e) rfl rfl
    | some i =>
      rw [hn] at g3 sp
      refine toEnd_wp g2 (by lia) (.inl ⟨g3.1, ?_⟩)
      dsimp only
      rw [g3.2.1, g3.2.2]
      obtain ⟨p1, p2, p3, p4⟩ := sp
      have hrun : outL P x.cps r i = cat ss ++ (x.cps.extract d i).toList := by
        have := outL_run (P := P) (x := x.cps) (r := r) (i - d) d (by lia) fun j q1 q2 => p4 j q1 (by lia)
        rw [show d + (i - d) = i by lia] at this
        rw [this, hcat]
      have hnx : ∀ (s₁ : Shared) (ss₁ : List Str), PStrs s₁.heap L ss₁ → ss₁.length ≤ 2 * i + 1 → cat ss₁ = outL P x.cps r i → (∀ b o, b ≠ L → s.heap.get? b = some o → s₁.heap.get? b = some o) → s₁.gens = s.gens → s₁.os = s.os →
          wpAny (model prog w) A.in1 (updateSeq L (·.push (.str r u)) >>= fun _ => again (.builtin "re.Pattern.sub.loop" ⟨[.ref p, .str x t, .str r u, rawInt 0, rawInt 0, rawInt (n + 1), rawInt ((i + 1 : Nat) : Int), rawInt ((i + 1 : Nat) : Int), .bool (i + 1 == i), .ref L, .bool false], []⟩))
            (fun fin s' => match fin with | .done f => wants Q No (.ok f) s' | .again c' => c'.quiet = true ∧ codeAny (model prog w) A c' (wants Q No) s') (fun e s' => wants Q No (.error e) s') s₁ := fun s₁ ss₁ hl₁ hn₁ hc₁ hk₁ hg₁ ho₁ => by
        refine wpAny_bind (push_wp hl₁ (by unfold sizeLine; lia) fun h' hl' hs' => wpAny_pure ⟨plainId_quiet plain_subloop _, ?_⟩)
        rw [show (i + 1 == i) = false by simp]
        have hpL : p ≠ L := by
          obtain ⟨oo, vs, T, ot, items, nn, a1, a2, _⟩ := hp
          obtain ⟨vs', ⟨oL, nL, b1, b2, _⟩, _⟩ := hl
          intro q
          rw [q, b1] at a1; cases a1
          rw [a2] at b2; exact absurd (Value.type.inj b2) (by decide)
        have kk : ∀ b o, b ≠ L → s.heap.get? b = some o → h'.get? b = some o := fun b o hb e => (hs'.2 b hb).trans (hk₁ b o hb e)
        have hp' : PatOk h' p C := by
          obtain ⟨oo, vs, T, ot, items, nn, a1, a2, a3, a4, a5, a6, a7, a8, a9, a10⟩ := hp
          have hTL : T ≠ L := by
            obtain ⟨vs', ⟨oL, nL, b1, b2, _⟩, _⟩ := hl
            intro q
            rw [q, b1] at a8; cases a8
            rw [b2] at a9; exact absurd (Value.type.inj a9) (by decide)
          exact ⟨oo, vs, T, ot, items, nn, kk _ _ hpL a1, a2, a3, a4, a5, a6, a7, kk _ _ hTL a8, a9, a10⟩
        refine ih (i + 1) A { s₁ with heap := h' } L (ss₁ ++ [r]) (n + 1) Q (by lia) (by lia) hp' ?_ hl' (by rw [cat_snoc, hc₁, outL_at p3]) (by simp; lia) ?_
        · obtain ⟨vs, ⟨o, _, ho, _⟩, _⟩ := hl'
          exact ⟨o, ho⟩
        · intro t' s' kb gg oo
          exact hQ t' s' (fun b o hb e => kb b o hb (kk b o hb e)) (gg.trans hg₁) (oo.trans ho₁)
      by_cases hd : d < i
      · rw [if_pos hd]
        refine wpAny_bind (m := reSlice x.cps 0 d i) (wpAny_mkStr ?_ (by show (x.cps.extract d i).size ≤ _; simp; unfold sizeLine; lia))
        refine wpAny_bind (push_wp hl (by unfold sizeLine; lia) fun h' hl' hs' => ?_)
        rw [if_pos (by rfl)]
        refine wpAny_bind (wpAny_pure ?_)
        rw [if_pos (by rfl)]
        exact hnx { s with heap := h', toks := s.toks + 1 } _ hl' (by simp; lia) (by rw [cat_snoc, hrun]) (ntL h' hs') rfl rfl
      · rw [if_neg hd]
        rw [if_pos (by rfl)]
        refine wpAny_bind (wpAny_pure ?_)
        rw [if_pos (by rfl)]
        exact hnx s ss hl (by lia) (by rw [hcat, show d = i by lia]) (fun b o _ e => e) rfl rfl
end
open PySem.Builtin.Re PySem.Builtin
theorem str_no_call : typeLookup (.type "str") "__call__" = pure none := by rw [typeLookup_type, builtinLookup_eq_fast]; kernel_rfl
section
variable {prog : Program} {w : World}
set_option maxHeartbeats 1000000 in
theorem c_sub {C : Array Nat} {p : Addr} {x r : Str} {t u : Tok} {P : Nat → Bool} {A : Around} {s : Shared} (hf : FindsP C x.cps P) (hx : x.length ≤ 100000) (hr : r.length ≤ 10) (hlit : r.cps.contains 92 = false) (hp : PatOk s.heap p C) :
    wpAny (model prog w) A (PySem.call (.builtin "re.Pattern.sub") [.ref p, .str r u, .str x t]) (Gives' prog w (.str (patStr (outL P x.cps r x.length))) true s) No s := by
  have hT : s.TypeIs (.ref p) "re.Pattern" := by obtain ⟨o, vs, T, ot, items, n, a1, a2, _⟩ := hp; exact ⟨o, a1, a2⟩
  refine wpAny_call (codeAny_call_builtin slot_sub.plain entry_sub (slot_sub.check _ _ _ _ _ _ _ _ hT (args_sub_3 _ _ _) ?_))
  show wpAny _ A.in1 (reNamed "re.Pattern.sub" "sub" ["repl", "string", "count"] 2 [.str r u, .str x t] [] >>= _) _ _ s
  refine wpAny_bind (wpAny_of_eq (a := [some (.str r u), some (.str x t), none]) rfl ?_)
  dsimp only
  refine wpAny_bind (wpAny_pure ?_)
  refine wpAny_bind (wpAny_specialOf (typeIs_str s r u) str_no_call ?_)
  dsimp only [Option.isSome]
  refine wpAny_bind (wpAny_pure ?_)
  dsimp only
  refine wpAny_bind (wpAny_pure ?_)
  rw [hlit]
  rw [if_neg (by simp), if_pos (by rfl)]
  refine wpAny_bind (wpAny_pure ?_)
  dsimp only
  refine wpAny_bind (wpAny_holding (whole_wp hp ?_))
  rw [if_neg (by decide)]
  refine wpAny_bind (m := newList []) (wpAny_newObj_type ?_ (by size_fits))
  refine wpAny_pure ⟨plainId_quiet plain_subloop _, ?_⟩
  have hL : (s.heap.push { cls := .type "list", dict := none, data := .seq ([] : List Value).toArray }).get? s.heap.objs.size = some { cls := .type "list", dict := none, data := .seq ([] : List Value).toArray } := Heap.get?_push_size _ rfl
  have x₁ := Ext.push s { cls := .type "list", dict := none, data := .seq ([] : List Value).toArray } s.toks
  refine sub_loop (Q := Gives' prog w (.str (patStr (outL P x.cps r x.length))) true s) hf hx hr (x.length + 1) 0 A _ s.heap.objs.size [] 0 (by lia) (Nat.zero_le _) (hp.keeps x₁.2) ⟨_, hL⟩ ⟨[], ⟨_, _, hL, rfl, rfl, rfl⟩, .nil⟩ rfl (Nat.zero_le _) fun t' s' k1 k2 k3 => ?_
  exact ⟨⟨⟨k2, k3⟩, fun b o e => k1 b o (Nat.ne_of_lt (Heap.lt_size e)) (x₁.2 b o e)⟩, [], ⟨⟨t', rfl⟩, rfl⟩, fun _ a ha => nomatch ha⟩
end
variable {prog : Program} {w : World}
abbrev m_sub : MethOk "re.Pattern" "sub" "re.Pattern.sub" := ⟨plainAttrs_pat, slot_sub, type_sub, by decide⟩
abbrev m_search : MethOk "re.Pattern" "search" "re.Pattern.search" := ⟨plainAttrs_pat, slot_search, type_search, by decide⟩
section
variable {F : Fm} {ρ : Rho} {k : Nat}
theorem ev_re_sub {C : Array Nat} {p : Addr} {P : Nat → Bool} {f : Str} {np apos pos : PySem.Pos} {e1 e2 : PySem.Expr} {x r : Str} {f1 f2 : Bool} (hb : attributeBase (.Name f np) "sub" F.env (eval (.Name f np) F.env) = eval (.Name f np) F.env) (hs : starEach [e1, e2] F.env = plainArgs [e1, e2] F.env) (hl : (apos.endLine == pos.line) = true)
    (g : Glob prog w F f (.ref p)) (hp : ∀ s : Shared, Bk F.base s → PatOk s.heap p C) (h1 : EvJ prog w F ρ k e1 (.str r) f1) (h2 : EvJ prog w F ρ k e2 (.str x) f2) (hf : FindsP C x.cps P) (hx : x.length ≤ 100000) (hr : r.length ≤ 10) (hlit : r.cps.contains 92 = false) :
    EvJ prog w F ρ k (.Call (.Attribute (.Name f np) "sub" apos) [e1, e2] [] pos) (.str (patStr (outL P x.cps r x.length))) true := fun A s rm I => by
  refine meth_wp hb hs hl (by simp) m_sub (g A s _ _ _ I.keep ?_)
  obtain ⟨o, vs, T, ot, items, n, ho, hc, hd, _⟩ := hp s I.keep
  refine ⟨⟨o, ho, hc⟩, fun a ea => by cases ea; exact ⟨o, ho, hd⟩, ?_⟩
  refine Calls.spliced_cons (wpAny_mono (h1 A s rm I) (fun a s₁ ⟨x1, fp1, ⟨⟨t1, q1⟩, _⟩, _⟩ => ?_) fun _ _ e => e)
  subst q1
  refine Calls.spliced_cons (wpAny_mono (h2 A s₁ rm (I.ext x1)) (fun a s₂ ⟨x2, fp2, ⟨⟨t2, q2⟩, _⟩, _⟩ => Calls.spliced_nil ?_) fun _ _ e => e)
  subst q2
  refine wpAny_mono (c_sub hf hx hr hlit (hp s₂ ((I.ext x1).ext x2).keep)) (fun v s₃ h => give_trans (x1.trans x2) h) fun _ _ e => e
end
theorem findsP1 (x : Array Nat) : FindsP C1 x (dotAt x) := fun s hs => search1 hs
theorem findsP2 (x : Array Nat) (h : ∀ i, x.getD i 0 ≠ 13) : FindsP C2 x (nlAt x) := fun s hs => search2 h hs
noncomputable def crlfV (x : Str) : Str := patStr (outL (nlAt x.cps) x.cps "\r\n" x.length)
noncomputable def dotsV (x : Str) : Str := patStr (outL (dotAt x.cps) x.cps ".." x.length)
noncomputable def quoteV (x : Str) : Str := dotsV (crlfV x)
theorem crlfV_len (x : Str) : (crlfV x).length ≤ 10 * x.length := by
  have := outL_len (P := nlAt x.cps) (x := x.cps) (r := "\r\n") (by decide) x.length
  simpa [crlfV, patStr, Str.length] using this
end Wk
namespace PS
open Wk
theorem range_get (l : List Nat) (g : Nat → List Nat) : (List.range l.length).flatMap (fun i => g (l.toArray.getD i 0)) = l.flatMap g := by
  have e : (List.range l.length).map (fun i => l.toArray.getD i 0) = l := by
    apply List.ext_getElem?
    intro i
    rw [List.getElem?_map]
    by_cases h : i < l.length
    · rw [List.getElem?_range h]
      simp [Array.getD_eq_getD_getElem?, h]
    · rw [List.getElem?_eq_none (by simp; lia), List.getElem?_eq_none (by lia)]; rfl
  conv => rhs; rw [← e]
  rw [List.flatMap_map]
theorem crlf_list (l : List Nat) : (crlfV ⟨l.toArray⟩).cps.toList = l.flatMap (fun c => if c == 10 then [13, 10] else [c]) := by
  have := range_get l fun c => if c == 10 then [13, 10] else [c]
  have e : ("\r\n" : Str).cps.toList = [13, 10] := by decide +kernel
  unfold crlfV patStr outL nlAt
  rw [e]
  simpa [Str.length] using this
noncomputable def dl : Bool → List Nat → List Nat
  | _, [] => []
  | b, c :: l => (if b && c == 46 then [46, 46] else [c]) ++ dl (c == 10) l
theorem dots_go (x : List Nat) : ∀ (l p : List Nat) (b : Bool), x = p ++ l → (b = (p.length == 0 || x.toArray.getD (p.length - 1) 0 == 10)) → (List.range' p.length l.length).flatMap (fun i => if dotAt x.toArray i then [46, 46] else [x.toArray.getD i 0]) = dl b l
  | [], p, b, hx, hb => rfl
  | c :: l, p, b, hx, hb => by
    rw [List.length_cons, List.range'_succ, List.flatMap_cons]
    have hc : x.toArray.getD p.length 0 = c := by rw [hx]; simp [Array.getD_eq_getD_getElem?]
    have ih := dots_go x l (p ++ [c]) (c == 10) (by rw [hx]; simp) (by
      have : (p ++ [c]).length - 1 = p.length := by simp
      rw [this, hc]; simp)
    rw [List.length_append, List.length_singleton] at ih
    rw [ih]
    show (if dotAt x.toArray p.length = true then [46, 46] else [x.toArray.getD p.length 0]) ++ dl (c == 10) l = (if (b && c == 46) = true then [46, 46] else [c]) ++ dl (c == 10) l
    unfold dotAt bol
    rw [hc, ← hb]
theorem dots_list (l : List Nat) : (dotsV ⟨l.toArray⟩).cps.toList = dl true l := by
  have := dots_go l l [] true (by simp) (by simp)
  rw [List.length_nil, ← List.range_eq_range'] at this
  rw [← this]
  have e : (".." : Str).cps.toList = [46, 46] := by decide +kernel
  unfold dotsV patStr outL
  rw [e]
  simp [Str.length]
theorem str_list (x : Str) : x = ⟨x.cps.toList.toArray⟩ := by cases x; simp
theorem crlf_glue : ∀ (ps : List (List Nat)), (∀ p ∈ ps, 10 ∉ p) → (glue [10] ps).flatMap (fun c => if c == 10 then [13, 10] else [c]) = glue [13, 10] ps
  | [], _ => rfl
  | p :: ps, h => by
    have ih := crlf_glue ps fun q hq => h q (List.mem_cons_of_mem _ hq)
    have e : ∀ q : List Nat, 10 ∉ q → q.flatMap (fun c => if c == 10 then [13, 10] else [c]) = q := fun q => by
      induction q with
      | nil => intro _; rfl
      | cons c q ih =>
        intro hq
        rw [List.flatMap_cons, ih fun h => hq (List.mem_cons_of_mem _ h), if_neg (by simp; exact fun e => hq (by simp [e]))]
        rfl
    unfold glue at ih ⊢
    rw [List.flatMap_cons, List.flatMap_cons, List.flatMap_append, List.flatMap_append, ih, e p (h p (List.mem_cons_self ..))]
    rfl
theorem dl_skip : ∀ (q : List Nat) (t : List Nat), 10 ∉ q → dl false (q ++ ([13, 10] ++ t)) = q ++ ([13, 10] ++ dl true t)
  | [], t, _ => rfl
  | c :: q, t, h => by
    have h1 : (c == 10) = false := by simp; exact fun e => h (by simp [e])
    show (if (false && c == 46) = true then [46, 46] else [c]) ++ dl (c == 10) (q ++ ([13, 10] ++ t)) = _
    rw [h1, dl_skip q t fun hh => h (List.mem_cons_of_mem _ hh)]
    rfl
theorem dl_glue : ∀ (ps : List (List Nat)), (∀ p ∈ ps, 10 ∉ p ∧ ∃ q, p = 46 :: q) → dl true (glue [13, 10] ps) = glue [13, 10] (ps.map (46 :: ·))
  | [], _ => rfl
  | p :: ps, h => by
    obtain ⟨h1, q, rfl⟩ := h p (List.mem_cons_self ..)
    have ih := dl_glue ps fun q hq => h q (List.mem_cons_of_mem _ hq)
    have e : glue [13, 10] ((46 :: q) :: ps) = 46 :: (q ++ ([13, 10] ++ glue [13, 10] ps)) := by simp [glue]
    rw [e]
    show [46, 46] ++ dl false _ = _
    rw [dl_skip q _ fun hh => h1 (List.mem_cons_of_mem _ hh), ih]
    simp [glue]
theorem quote_pieces (ps : List (List Nat)) (h : ∀ p ∈ ps, 10 ∉ p ∧ ∃ q, p = 46 :: q) : quoteV ⟨(glue [10] ps).toArray⟩ = ⟨(glue [13, 10] (ps.map (46 :: ·))).toArray⟩ := by
  have e1 : crlfV ⟨(glue [10] ps).toArray⟩ = ⟨(glue [13, 10] ps).toArray⟩ := by
    rw [str_list (crlfV _), crlf_list, crlf_glue ps fun p hp => (h p hp).1]
  unfold quoteV
  rw [e1, str_list (dotsV _), dots_list, dl_glue ps h]
theorem split_crlf (ps : List (List Nat)) (h : ∀ p ∈ ps, 13 ∉ p) : Txt.split ⟨(glue [13, 10] ps).toArray⟩ "\r\n" = ps.map (fun p => (⟨p.toArray⟩ : Str)) ++ [⟨#[]⟩] :=
  split_pieces (y := "\r\n") (s0 := 13) (tl := [10]) (by decide +kernel) (by decide +kernel) (by decide) ps h
end PS
namespace Wk
variable {prog : Program} {w : World}
section
variable {F : Fm} {ρ : Rho} {k : Nat} {P P₁ : Fl → Rho → Prop}
theorem ex_post {t : Sem Flow} (h : ExS prog w F ρ k t P₁) (hP : ∀ fl ρ', P₁ fl ρ' → ∃ ρ'', Weaker ρ' ρ'' ∧ P fl ρ'') : ExS prog w F ρ k t P := fun b r l ok A s rm I =>
  wpAny_mono (h b r l ok A s rm I) (fun f s' ⟨fl, ρ', a, I', c⟩ => by
    obtain ⟨ρ'', hw, hp⟩ := hP fl ρ' a
    exact ⟨fl, ρ'', hp, I'.weak hw, c⟩) fun _ _ e => e
theorem ex_assign_comp_eq {y : Str} {np spos : PySem.Pos} {elt : PySem.Expr} {target iter : PySem.Expr} {ifs : List PySem.Expr} {gs : List Comprehension} {scope : Scope} {pos : PySem.Pos} {out : List IV} {own : Bool} (cl : List (Str × Addr)) (sp : List (Str × CSlot)) (l : List IV) (f : IV → List IV) (i : Nat) {acc : Option Addr}
    (hy : F.slots[i]? = some (y, acc)) (ho : Own F y acc) (hsw : swapsWith (.ListComp elt (⟨target, iter, ifs, 0⟩ :: gs) scope pos) (some (.Name y np)) spos.line F.env = pure true) (e : l.flatMap f = out) (J : CompJ prog w F ρ k elt ⟨target, iter, ifs, 0⟩ gs scope cl sp l f) :
    ExS prog w F ρ k (exec (.Assign [.Name y np] (.ListComp elt (⟨target, iter, ifs, 0⟩ :: gs) scope pos) spos) F.env) (Only (ρ.set i (.list out, own))) := by
  subst e
  exact ex_assign_comp i hy ho hsw J
theorem ex_assign_cast {x : Str} {np pos : PySem.Pos} {e : PySem.Expr} {p q : PV} {fr own : Bool} (i : Nat) {acc : Option Addr} (hs : F.slots[i]? = some (x, acc)) (ho : Own F x acc) (h : EvJ prog w F ρ k e p fr) (hf : fr = true) (hq : p = q)
    (hsw : swapsWith e (some (.Name x np)) pos.line F.env = pure false) : ExS prog w F ρ k (exec (.Assign [.Name x np] e pos) F.env) (Only (ρ.set i (q, own))) := hq ▸ ex_assign i hs ho h hf hsw
theorem sorted_pair : ∀ {l : List Str} {p : Str}, risingS p l = true → (p :: l).Pairwise fun a b => PySem.Spec.ltCps b.cps.toList a.cps.toList = false
  | [], p, _ => List.pairwise_singleton _ _
  | x :: r, p, h => by
    have h1 : (!PySem.Spec.ltCps x.cps.toList p.cps.toList && risingS x r) = true := h
    rw [Bool.and_eq_true] at h1
    have ih := sorted_pair h1.2
    have hp : PySem.Spec.ltCps x.cps.toList p.cps.toList = false := by simpa using h1.1
    refine List.pairwise_cons.mpr ⟨fun b hb => ?_, ih⟩
    rcases List.mem_cons.mp hb with rfl | hb
    · exact hp
    · have h2 := (List.pairwise_cons.mp ih).1 b hb
      rw [ltCps_eq] at hp h2 ⊢
      have a1 : p.cps.toList ≤ x.cps.toList := List.not_lt.mp (by simpa using hp)
      have a2 : x.cps.toList ≤ b.cps.toList := List.not_lt.mp (by simpa using h2)
      have := List.le_trans a1 a2
      simpa using List.not_lt.mpr this
theorem sorted_pairwise {l : List Str} (h : sortedS l = true) : l.Pairwise fun a b => PySem.Spec.ltCps b.cps.toList a.cps.toList = false := by
  cases l with
  | nil => exact .nil
  | cons x r => exact sorted_pair h
theorem sorted_unique {l l' : List Str} (h : sortedS l = true) (h' : sortedS l' = true) (p : l.Perm l') : l = l' :=
  List.Perm.eq_of_pairwise (fun a b _ _ h1 h2 => by
    have := ltCps_total _ _ h2 h1
    cases a; cases b
    congr 1
    exact Array.toList_inj.mp this) (sorted_pairwise h) (sorted_pairwise h') p
end
theorem range_take {α : Type} (l : List α) : ∀ n, (List.range n).filterMap (fun i => l[i]?) = l.take n
  | 0 => rfl
  | n + 1 => by
    rw [List.range_succ, List.filterMap_append, range_take l n, List.take_add_one]
    cases h : l[n]? <;> simp [h]
theorem slice_to {α : Type} (l : List α) (m : Nat) : (sliceRange ((0 : Nat) : Int) (m : Int) 1).filterMap (l[·]?) = l.take m := by
  rw [sliceRange_one]
  simp only [Nat.sub_zero, Nat.zero_add]
  rw [show ((List.range m).map fun x => x) = List.range m from List.map_id _]
  exact range_take l m
theorem slice_full {α : Type} (l : List α) : ((sliceRange (sliceBounds none none none l.length).1 (sliceBounds none none none l.length).2.1 (sliceBounds none none none l.length).2.2).filterMap (l[·]?)) = l := by
  have e : sliceBounds none none none l.length = (((0 : Nat) : Int), (l.length : Int), 1) := by simp [sliceBounds]
  rw [e]
  exact (slice_to l l.length).trans (List.take_of_length_le (Nat.le_refl _))
variable {prog : Program} {w : World}
def SetP (prog : Program) (w : World) (base : Addr → Option Obj) (k : Nat) (f C : Addr) (l : List IV) (y v : Str) (l' : List IV) : Prop := ∀ A s x d L u u2, Room k A → s.gens = #[] → Bk base s → Rep prog w s.heap (.obj C l) (.ref x) [x, d, L] → (∃ t, u = .str y t) → (∃ t, u2 = .str v t) →
  wpAny (model prog w) A (PySem.call (.ref f) [.ref x, u, u2]) (fun _ s' => s'.gens = s.gens ∧ s'.os = s.os ∧ Chg [L] s.heap s'.heap ∧ Rep prog w s'.heap (.obj C l') (.ref x) [x, d, L]) No s
section
variable {F : Fm} {ρ : Rho} {k : Nat}
theorem hdr_append {A : Around} {s : Shared} {x : Str} {np ap apos pos spos : PySem.Pos} {e : PySem.Expr} {xo C N d L : Addr} {mN : Str → Option Value} {l : List IV} {y : IV} {f f2 : Bool} {Q : Flow → Shared → Prop} {h₀ : Heap} (rm : Room k A) (c : ClsB F.base C N mN) (I : Inv prog w F ρ s) (r : Rep prog w h₀ (.obj C l) (.ref xo) [xo, d, L]) (hk : Keep h₀ s.heap)
    (hn : EvJ prog w F ρ k (.Name x np) (.iv (.at (.val (.ref xo)))) f) (hy : EvJ prog w F ρ k e (.iv y) f2) (hlen : l.length ≤ sizeLine) (hse : starEach [e] F.env = plainArgs [e] F.env) (hl : (apos.endLine == pos.line) = true)
    (hat : attributeBase (.Attribute (.Name x np) "_headers" ap) "append" F.env (eval (.Attribute (.Name x np) "_headers" ap) F.env) = eval (.Attribute (.Name x np) "_headers" ap) F.env)
    (hQ : ∀ s₂ h' , Ext s s₂ → Heap.SameBut L s₂.heap h' → Chg [L] h₀ h' → Rep prog w h' (.obj C (l ++ [y])) (.ref xo) [xo, d, L] → Q .next { s₂ with heap := h' }) (hi : interactive F.env = false := by rfl) :
    wpAny (model prog w) A (exec (.Expr (.Call (.Attribute (.Attribute (.Name x np) "_headers" ap) "append" apos) [e] [] pos) spos) F.env) Q No s := by
  refine wpAny_Expr_any (meth_wp hat hse hl (by simp) m_append (Attribute_name (wpAny_mono (hn A s rm I) (fun v s₁ ⟨x1, fp2, ⟨e3, _⟩, _⟩ => ?_) fun _ _ e => e))) hi
  have e3 : v = .ref xo := e3
  subst e3
  have r1 := r.keep (fun a o e => x1.2 a o (hk a o e))
  obtain ⟨xo', d', L', vs, e4, hin, hpl, hvs, f4⟩ := rep_inst r1
  cases e4
  simp at f4
  obtain ⟨rfl, rfl⟩ := f4
  refine hdr_wp c (I.ext x1).keep hin ?_
  refine ⟨hpl.isList.typeIs, fun a ea => ?_, ?_⟩
  · cases ea
    obtain ⟨o, n, ho, _, hdn, _⟩ := hpl
    exact ⟨o, ho, hdn⟩
  · have x2 : Ext s { s₁ with toks := s₁.toks + 1 } := x1.trans (Ext.tok _ _)
    refine Calls.spliced_cons (wpAny_mono (hy A _ rm (I.ext x2)) (fun v s₂ ⟨x₃, fp, r₃, _⟩ => Calls.spliced_nil ?_) fun _ _ e => e)
    have hpl2 : PlainL s₂.heap L vs.toArray := hpl.keeps x₃.2
    refine wp_append hpl2 (by rw [List.size_toArray, hvs.length]; exact hlen) fun h' hl' hs' => ?_
    have kk : Keep h₀ s₂.heap := fun a o e => x₃.2 a o (x1.2 a o (hk a o e))
    refine hQ s₂ h' (x2.trans x₃) hs' (fun b o hb e => (hs'.2 b (fun q => hb (by rw [q]; exact List.mem_singleton_self _))).trans (kk b o e)) ?_
    refine rep_upd (us := vs ++ [v]) r kk hs' (by rw [← List.push_toArray]; exact hl') ?_
    exact IVs.append (hvs.keep x₃.2) ⟨r₃.1, trivial⟩
theorem ex_setd {x : Str} {name : Str} {np apos pos spos : PySem.Pos} {e e2 : PySem.Expr} {y v : Str} {C N f : Addr} {mN : Str → Option Value} {l l' : List IV} {fr fr2 : Bool} (i : Nat) {acc : Option Addr} (hs : F.slots[i]? = some (x, acc)) (hr : ρ[i]? = some (.obj C l, true)) (c : ClsB F.base C N mN) (mb : MethB F.base mN name f)
    (hy : EvJ prog w F ρ k e (.str y) fr) (hv : EvJ prog w F ρ k e2 (.str v) fr2) (dp : SetP prog w F.base k f C l y v l') (hb : attributeBase (.Name x np) name F.env (eval (.Name x np) F.env) = eval (.Name x np) F.env) (hse : starEach [e, e2] F.env = plainArgs [e, e2] F.env) (hl : (apos.endLine == pos.line) = true)
    (hi : interactive F.env = false := by rfl) (hd : (x == ("__debug__" : Str)) = false := by decide) (hn : (x == ("__classdict__" : Str)) = false := by decide) :
    ExS prog w F ρ k (exec (.Expr (.Call (.Attribute (.Name x np) name apos) [e, e2] [] pos) spos) F.env) (Only (ρ.set i (.obj C l', true))) := fun b r lf ok A s rm I => by
  obtain ⟨ov, fp, h1, h2, h3⟩ := Inv.mut (G := F.up b r) ok I hs hr
  cases ov with
  | none => exact h2.elim
  | some vv =>
    have h2 : Rep prog w s.heap (.obj C l) vv fp := h2
    obtain ⟨xo, d, L, rfl, rfl⟩ := rep_obj_inv h2
    refine wpAny_Expr_any ?_ hi
    rw [arm_eval_Call, hb]
    refine wpAny_bind (name_wp (F := F.up b r) ok hs h1 ?_ hd hn)
    have b0 : Bk F.base s := (I.down lf).keep
    obtain ⟨_, _, _, _, e4, hin, _, _, f4⟩ := rep_inst h2
    cases e4
    refine wpAny_bind (wpAny_standAt ?_)
    have hform := few_plain (F := F) [e, e2] pos (backToKw pos (keywordEach [] F.env)) rfl (by show 2 + 0 < 29; lia) hse
    have hform : methodCallForm ([e, e2].length + ([] : List Keyword).length) (backTo pos (starEach [e, e2] F.env)) (backToKw pos (keywordEach [] F.env)) = true := hform
    have hpos : methodCallPos true (.Name x np) F.env apos pos = pure pos := by unfold methodCallPos; simp [hl]
    unfold methodCall
    rw [hform]
    refine wpAny_bind (wpAny_holding (meth_of c mb b0 hin ?_))
    refine wpAny_bind (wpAny_of_eq hpos ?_)
    obtain ⟨of, fd, g1, g2, g3⟩ := mb.fn
    rw [hse, backTo_plain]
    refine callWith_fn (plainArgs_any _ _) g3 (wpAny_mono (args_wp (.cons hy (.cons hv .nil)) A s rm (I.down lf)) (fun vs s₂ ⟨x2, rs⟩ => ⟨((I.down lf).ext x2).keep _ _ g1, ?_⟩) fun _ _ e => e)
    obtain ⟨u, u2, rfl, ⟨_, hu, _⟩, ⟨_, hu2, _⟩⟩ := reps2 rs
    refine wpAny_mono (dp A s₂ xo d L u u2 rm (I.ext x2).gens ((I.down lf).ext x2).keep (h2.keep x2.2) hu hu2) (fun v' s₃ ⟨g, o, ch, r2⟩ => ?_) fun _ _ e => e
    refine ⟨.next, _, ⟨rfl, rfl⟩, ?_, trivial⟩
    have x12 : Ext s { s₃ with heap := s₂.heap } := ⟨⟨g.trans x2.1.1, o.trans x2.1.2⟩, x2.2⟩
    exact h3 { s₃ with heap := s₂.heap } s₃.heap s₃.toks (.obj C l') x12 (fun z oz hz e => ch z oz (fun q => hz (by rw [List.mem_singleton.mp q]; simp)) e) r2
end
variable {prog : Program} {w : World}
def InitP0 (prog : Program) (w : World) (base : Addr → Option Obj) (k : Nat) (f C : Addr) : Prop := ∀ A s x d, Room k A → s.gens = #[] → Bk base s → s.heap.Inst x C (fun _ => none) → (∃ o, s.heap.get? x = some o ∧ o.dict = some d) → (base x = none ∧ base d = none) →
  wpAny (model prog w) A (PySem.call (.ref f) [.ref x]) (fun v s' => v = .none ∧ s'.gens = s.gens ∧ s'.os = s.os ∧ Chg [x, d] s.heap s'.heap ∧ ∃ L, s.heap.get? L = none ∧ Rep prog w s'.heap (.obj C []) (.ref x) [x, d, L]) No s
section
variable {F : Fm} {ρ : Rho} {k : Nat}
theorem ev_new0 {x : Str} {np pos : PySem.Pos} {C N f : Addr} {mN : Str → Option Value} (g : Glob prog w F x (.ref C)) (c : ClsB F.base C N mN) (mb : MethB F.base mN "__init__" f) (ip : InitP0 prog w F.base k f C) :
    EvJ prog w F ρ (k + 1) (.Call (.Name x np) [] [] pos) (.obj C []) true := fun A s rm I => by
  rw [arm_eval_Call_Name']
  refine wpAny_bind (g A s _ _ _ I.keep ?_)
  rw [show starEach [] F.env = plainArgs [] F.env from rfl, backTo_plain]
  refine callWith_cls1 (plainArgs_any _ _) c ?_
  refine Calls.spliced_nil ?_
  have b := I.keep
  refine ⟨b, ?_⟩
  obtain ⟨hh, gg, dr, t, os⟩ := s
  obtain ⟨nm, q, bs, sn, sub, col, dd, k0, k1, k2, k3, k5, hC⟩ := (c.at_ _ b).obj
  obtain ⟨of, fd, h1, h2, h3⟩ := mb.fn
  refine wpAny_call_obj_init PySem.F.objNew hC (c.at_ _ b).ns mb.at_ (b _ _ h1) h2 fun h' xo dx Mk => ?_
  obtain ⟨ox, hx, hcx, hncx, hdx⟩ := id Mk.inst
  have hd := Mk.dict ox hx
  have kk : Keep hh h' := Mk.keeps
  have hno : ∀ z : Addr, hh.get? z = none → F.base z = none := fun z hz => by
    cases q : F.base z with
    | none => rfl
    | some o => have := b z o q; rw [show (⟨hh, gg, dr, t, os⟩ : Shared).heap.get? z = none from hz] at this; cases this
  have x2 : Ext (⟨hh, gg, dr, t, os⟩ : Shared) ⟨h', gg, dr, t, os⟩ := ⟨⟨rfl, rfl⟩, kk⟩
  refine wpAny_mono (ip _ ⟨h', gg, dr, t, os⟩ xo dx (room_under rm) (I.ext x2).gens (I.ext x2).keep Mk.inst ⟨ox, hx, hd⟩ ⟨hno xo Mk.newX, hno dx Mk.newD⟩) (fun v s₂ ⟨e1, g2, o2, ch, L, hL, r2⟩ => ⟨e1, ?_⟩) fun _ _ e => e.elim
  have ks : Keep hh s₂.heap := fun a o e => ch a o (fun q => by
    simp only [List.mem_cons, List.not_mem_nil, or_false] at q
    rcases q with rfl | rfl
    · have := Mk.newX; rw [e] at this; cases this
    · have := Mk.newD; rw [e] at this; cases this) (kk a o e)
  refine ⟨⟨⟨g2, o2⟩, ks⟩, _, r2, fun _ a ha => ?_⟩
  simp only [List.mem_cons, List.not_mem_nil, or_false] at ha
  rcases ha with rfl | rfl | rfl
  · exact Mk.newX
  · exact Mk.newD
  · show hh.get? a = none
    cases q : hh.get? a with
    | none => rfl
    | some o => rw [show h'.get? a = some o from kk a o q] at hL; cases hL
theorem Inv.own_list {s : Shared} {i : Nat} {x : Str} {l : List IV} (I : Inv prog w F ρ s) (hs : F.slots[i]? = some (x, none)) (hr : ρ[i]? = some (.list l, true)) : ∃ L vs, PlainL s.heap L vs.toArray ∧ IVs s.heap l vs ∧ F.base L = none ∧ L ≠ F.env.locals ∧ Inv prog w F (ρ.set i (.iv (.at (.val (.ref L))), false)) s := by
  obtain ⟨k, g, o, ln, rs, ac, m, hm, fp, a, c⟩ := I
  obtain ⟨ov, h3, h4, h5⟩ := a i x none (.list l) true hs hr
  have hi : i < ρ.length := by
    rcases Nat.lt_or_ge i ρ.length with h | h
    · exact h
    · rw [List.getElem?_eq_none h] at hr; cases hr
  cases ov with
  | none => exact h4.elim
  | some v =>
    obtain ⟨L, vs, e, hl, hv, hf⟩ := (show Rep prog w s.heap (.list l) v (fp i) from h4)
    subst e
    have hLm : L ∈ fp i := by rw [hf]; exact List.mem_singleton_self L
    obtain ⟨fp', hf0, hf1⟩ : ∃ fp' : Nat → List Addr, fp' i = [] ∧ ∀ j, j ≠ i → fp' j = fp j := ⟨fun j => if j = i then [] else fp j, if_pos rfl, fun j h => if_neg h⟩
    refine ⟨L, vs, hl, hv, (c i _ hr L hLm).1, (h5 L hLm).1.1, k, g, o, by rw [List.length_set]; exact ln, rs, ac, m, hm, fp', fun j y acc p own h1 h2 => ?_, fun j p h1 z hz => ?_⟩
    · by_cases hj : j = i
      · subst hj
        rw [hs] at h1; cases h1
        rw [List.getElem?_set_self hi] at h2
        cases h2
        refine ⟨_, h3, ?_, fun a h => by rw [hf0] at h; cases h⟩
        rw [hf0]
        exact ⟨rfl, rfl⟩
      · rw [List.getElem?_set_ne (fun e => hj e.symm)] at h2
        rw [hf1 j hj]
        exact a j y acc p own h1 h2
    · by_cases hj : j = i
      · subst hj
        rw [List.getElem?_set_self hi] at h1
        cases h1
      · rw [List.getElem?_set_ne (fun e => hj e.symm)] at h1
        rw [hf1 j hj] at hz
        obtain ⟨c1, c2⟩ := c j p h1 z hz
        refine ⟨c1, fun n q hn hq => ?_⟩
        by_cases hni : n = i
        · rw [hni, hf0]; exact List.not_mem_nil
        · rw [hf1 n hni]
          rw [List.getElem?_set_ne (fun e => hni e.symm)] at hq
          exact c2 n q hn hq
theorem FmOk.freezeL {b : Addr → Option Obj} {L : Addr} (ok : FmOk F) (nc : ∀ (i : Nat) (x : Str) (c : Addr), F.slots[i]? ≠ some (x, some c)) (na : ∀ d, ¬ F.acc d) (hL : L ≠ F.env.locals) (h : ∀ a, a ≠ L → F.base a = none → b a = none) : FmOk { F with base := b } where
  kind := ok.kind
  loc := ok.loc
  cel := ok.cel
  names := ok.names
  cells := ok.cells
  baseL := h _ (fun e => hL e.symm) ok.baseL
  resL := ok.resL
  resC := ok.resC
  mine := fun c hc => by obtain ⟨i, x, e⟩ := ok.mineC c hc; exact absurd e (nc i x c)
  acc := fun d hd => absurd hd (na d)
  mineC := ok.mineC
end
variable {prog : Program} {w : World}
noncomputable def dictAt (l : List (Str × At)) (x : Str) : Option At := (l.find? fun p => p.1 == x).map (·.2)
theorem KVs.at_ : ∀ {l : List (Str × At)} {kvs : List (Str × Value)} {x : Str}, KVs l kvs → match dictAt l x with | none => valueAt kvs x = none | some a => ∃ v, valueAt kvs x = some v ∧ a.of v
  | [], [], x, _ => rfl
  | p :: l, q :: r, x, ⟨h1, h2, h3⟩ => by
    have ih := KVs.at_ (x := x) h3
    unfold dictAt valueAt at ih ⊢
    rw [List.find?_cons, List.find?_cons, ← h1]
    by_cases hx : p.1 = x
    · simp only [hx, beq_self_eq_true, decide_true, Option.map_some]
      exact ⟨q.2, rfl, h2⟩
    · have e1 : (p.1 == x) = false := by simpa using hx
      have e2 : decide (p.1 = x) = false := by simpa using hx
      simp only [e1, e2]
      exact ih
  | [], _ :: _, _, h => h.elim
  | _ :: _, [], _, h => h.elim
section
variable {F : Fm} {ρ : Rho} {k : Nat}
theorem ev_sub_dict {e i : PySem.Expr} {pos : PySem.Pos} {l : List (Str × At)} {x : Str} {a : At} {f1 f2 fr : Bool} (he : EvJ prog w F ρ k e (.dict l) f1) (hi : EvJ prog w F ρ k i (.str x) f2) (hx : dictAt l x = some a) : EvJ prog w F ρ k (.Subscript e i pos) (.iv (.at a)) fr := fun A s rm I => by
  refine sub_wp (wpAny_mono (he A s rm I) (fun o s₁ ⟨x₁, fp, ⟨d, kvs, e1, hd, hkv, _, _⟩, _⟩ => ?_) fun _ _ e => e)
  subst e1
  refine wpAny_mono (hi A s₁ rm (I.ext x₁)) (fun j s₂ ⟨x₂, fp₂, ⟨⟨t, e2⟩, _⟩, _⟩ => ?_) fun _ _ e => e
  subst e2
  have hd₂ := hd.keep x₂.2
  have h := hkv.at_ (x := x)
  rw [hx] at h
  obtain ⟨v, h1, h2⟩ := h
  refine ⟨"dict", _, slot_dict_getitem.lookup, hd₂.typeIs, wpAny_getItem_of (knd := PySem.strKind prog w) (k := x) (by show (x == x) = true; simp) hd₂.mapOf h1 ?_⟩
  exact ⟨(x₁.trans x₂).trans (Ext.tok _ _), [], ⟨h2, rfl⟩, fun _ a ha => nomatch ha⟩
theorem op_in_dict {x : Str} {l : List (Str × At)} : Op2 (prog := prog) (w := w) k (compareOp .In) (.str x) (.dict l) (.bool (dictAt l x).isSome) true := fun A s a b fa fb rm g ⟨⟨t, e1⟩, _⟩ ⟨d, kvs, e2, hd, hkv, _, hs⟩ => by
  subst e1 e2
  have h := hkv.at_ (x := x)
  refine wpAny_in_of (knd := PySem.strKind prog w) (k := x) (by show (x == x) = true; simp) hs hd.mapOf ?_
  have e : (valueAt kvs x).isSome = (dictAt l x).isSome := by
    cases q : dictAt l x with
    | none => rw [q] at h; rw [h]; rfl
    | some a => rw [q] at h; obtain ⟨v, h1, _⟩ := h; rw [h1]; rfl
  rw [e]
  exact ⟨Ext.tok _ _, [], ⟨rfl, rfl⟩, fun _ a ha => nomatch ha⟩
end
variable {prog : Program} {w : World}
noncomputable def setD (l : List (Str × At)) (y : Str) (a : At) : List (Str × At) := if (dictAt l y).isSome then l else l ++ [(y, a)]
theorem KVs.snoc : ∀ {l : List (Str × At)} {kvs : List (Str × Value)} {y : Str} {a : At} {v : Value}, KVs l kvs → a.of v → KVs (l ++ [(y, a)]) (kvs ++ [(y, v)])
  | [], [], _, _, _, _, h => ⟨rfl, h, trivial⟩
  | _ :: _, _ :: _, _, _, _, ⟨h1, h2, h3⟩, h => ⟨h1, h2, KVs.snoc h3 h⟩
  | [], _ :: _, _, _, _, h, _ => h.elim
  | _ :: _, [], _, _, _, h, _ => h.elim
theorem KVs.len : ∀ {l : List (Str × At)} {kvs : List (Str × Value)}, KVs l kvs → kvs.length = l.length
  | [], [], _ => rfl
  | _ :: _, _ :: _, ⟨_, _, h⟩ => congrArg (· + 1) (KVs.len h)
  | [], _ :: _, h => h.elim
  | _ :: _, [], h => h.elim
section
variable {F : Fm} {ρ : Rho} {k : Nat}
abbrev m_setdefault : MethOk "dict" "setdefault" "dict.setdefault" := ⟨PySem.F.plainAttrs_dict, PySem.F.slot_dict_setdefault, PySem.F.type_dict_setdefault, by decide⟩
theorem ex_setdef {x : Str} {np apos pos spos : PySem.Pos} {e e2 : PySem.Expr} {l : List (Str × At)} {y : Str} {a : At} {fr fr2 : Bool} (i : Nat) {acc : Option Addr} (hs : F.slots[i]? = some (x, acc)) (hr : ρ[i]? = some (.dict l, true)) (hy : EvJ prog w F ρ k e (.str y) fr) (hv : EvJ prog w F ρ k e2 (.iv (.at a)) fr2) (hsz : l.length ≤ sizeLine)
    (hse : starEach [e, e2] F.env = plainArgs [e, e2] F.env) (hl : (apos.endLine == pos.line) = true) (hat : attributeBase (.Name x np) "setdefault" F.env (eval (.Name x np) F.env) = eval (.Name x np) F.env) (hi : interactive F.env = false := by rfl) (hd : (x == ("__debug__" : Str)) = false := by decide)
    (hn : (x == ("__classdict__" : Str)) = false := by decide) : ExS prog w F ρ k (exec (.Expr (.Call (.Attribute (.Name x np) "setdefault" apos) [e, e2] [] pos) spos) F.env) (Only (ρ.set i (.dict (setD l y a), true))) := fun b r lf ok A s rm I => by
  obtain ⟨ov, fp, hat', hrep, hmut⟩ := I.mut ok hs hr
  cases ov with
  | none => exact hrep.elim
  | some v =>
    obtain ⟨d, kvs, rfl, hD, hkv, rfl, hsm⟩ := hrep
    refine wpAny_Expr_any (meth_wp hat hse hl (by simp) m_setdefault (name_wp (F := F.up b r) ok hs hat' ?_ hd hn)) hi
    refine ⟨hD.typeIs, fun a ea => ?_, ?_⟩
    · cases ea
      obtain ⟨o, es, ep, ho, hx, _⟩ := hD
      exact ⟨o, ho, hx.2.1⟩
    · refine Calls.spliced_cons (wpAny_mono (hy A s rm (I.down lf)) (fun u s₁ ⟨x₁, fp, ⟨⟨t1, e1⟩, _⟩, _⟩ => ?_) fun _ _ e => e)
      subst e1
      refine Calls.spliced_cons (wpAny_mono (hv A s₁ rm ((I.down lf).ext x₁)) (fun u2 s₂ ⟨x₂, fp2, ⟨h2, _⟩, _⟩ => Calls.spliced_nil ?_) fun _ _ e => e)
      have hD2 := hD.keep (x₁.trans x₂).2
      have hat2 := hkv.at_ (x := y)
      refine call_meetsIn PySem.F.slot_dict_setdefault hD2.typeIs PySem.F.entry_dict_setdefault (PySem.F.args_dict_setdefault_3 _ _ _) (kt_meets_setdefault (PySem.strKind prog w) (k := y) d (by show (y == y) = true; simp) hsm u2) ⟨kvs, hD2, by rw [hkv.len]; exact hsz, fun v hvv => ?_, fun hnn h' hm' hs' => ?_⟩
      · have e : (dictAt l y).isSome = true := by
          cases q : dictAt l y with
          | none => rw [q] at hat2; rw [hat2] at hvv; cases hvv
          | some a => rfl
        refine ⟨.next, _, ⟨rfl, rfl⟩, hmut s₂ s₂.heap (s₂.toks + 1) _ (x₁.trans x₂) (fun _ _ _ e => e) ⟨d, kvs, rfl, hD2, ?_, rfl, hsm⟩, trivial⟩
        unfold setD
        rw [if_pos e]
        exact hkv
      · have e : (dictAt l y).isSome = false := by
          cases q : dictAt l y with
          | none => rfl
          | some a => rw [q] at hat2; obtain ⟨v, h1, _⟩ := hat2; rw [h1] at hnn; cases hnn
        have est : stored kvs y u2 = kvs ++ [(y, u2)] := by
          unfold stored
          rw [if_neg]
          intro hany
          unfold valueAt at hnn
          rw [Option.map_eq_none_iff, List.find?_eq_none] at hnn
          obtain ⟨q, hq, hq2⟩ := List.any_eq_true.mp hany
          exact hnn q hq hq2
        rw [est] at hm'
        refine ⟨.next, _, ⟨rfl, rfl⟩, hmut s₂ h' (s₂.toks + 1) _ (x₁.trans x₂) (Chg.of_sameBut hs') ⟨d, _, rfl, hm', ?_, rfl, hsm⟩, trivial⟩
        unfold setD
        rw [e]
        exact hkv.snoc h2
end
variable {prog : Program} {w : World}
theorem wp_extend {A : Around} {s : Shared} {L D : Addr} {xs us : Array Value} {Q E : Value → Shared → Prop} (hl : PlainL s.heap L xs) (hd : PlainL s.heap D us) (hx : xs.size ≤ 1000) (hu : us.size ≤ 1000)
    (hQ : ∀ h', PlainL h' L (xs ++ us) → Heap.SameBut L s.heap h' → Q .none { s with heap := h' }) : wpAny (model prog w) A (PySem.call (.builtin "list.extend") [.ref L, .ref D]) Q E s := by
  obtain ⟨o, n, ho, hc, hdi, hda⟩ := id hl
  obtain ⟨o', n', ho', hc', hdi', hda'⟩ := id hd
  have sz : sizeLine = 16777216 := sizeLine_eq
  have hz' : (xs ++ us).size ≤ sizeLine + 1 := by rw [Array.size_append, sz]; lia
  refine wpAny_call_entry PySem.F.slot_list_extend hl.isList.typeIs PySem.F.entry_list_extend ?_ (PySem.F.args_list_extend_2 _ _)
  show wpAny _ _ (Builtin.List.listExtendWith (.ref L) (.ref D) .none) _ _ s
  unfold Builtin.List.listExtendWith
  refine wpAny_bind (wpAny_typeOf hd.isList.typeIs ?_)
  rw [if_pos (by simp)]
  refine wpAny_bind (listItems_at ho' hda' ?_)
  refine wpAny_bind (listItems_at ho hda ?_)
  dsimp only
  rw [if_neg (by simp [Builtin.List.listTooLong, sz]; lia)]
  refine wpAny_bind (listUpdate_at (f := fun x => x ++ us) ho hda ?_ (by lia) (by rw [Array.size_append]; lia))
  exact wpAny_pure ⟨.none, rfl, hQ _ (plainL_map hl _) (Heap.SameBut.update ..)⟩
section
variable {F : Fm} {ρ : Rho} {k : Nat}
abbrev m_extend : MethOk "list" "extend" "list.extend" := ⟨PySem.F.plainAttrs_list, PySem.F.slot_list_extend, PySem.F.type_list_extend, by decide⟩
theorem ex_extend {x : Str} {np apos pos spos : PySem.Pos} {e : PySem.Expr} {l l2 : List IV} {fr : Bool} (i : Nat) {acc : Option Addr} (hs : F.slots[i]? = some (x, acc)) (hr : ρ[i]? = some (.list l, true)) (hy : EvJ prog w F ρ k e (.list l2) fr) (hsz : l.length ≤ 1000) (hsz2 : l2.length ≤ 1000)
    (hse : starEach [e] F.env = plainArgs [e] F.env) (hl : (apos.endLine == pos.line) = true) (hat : attributeBase (.Name x np) "extend" F.env (eval (.Name x np) F.env) = eval (.Name x np) F.env) (hi : interactive F.env = false := by rfl) (hd : (x == ("__debug__" : Str)) = false := by decide)
    (hn : (x == ("__classdict__" : Str)) = false := by decide) : ExS prog w F ρ k (exec (.Expr (.Call (.Attribute (.Name x np) "extend" apos) [e] [] pos) spos) F.env) (Only (ρ.set i (.list (l ++ l2), true))) := fun b r lf ok A s rm I => by
  obtain ⟨ov, fp, hat', hrep, hmut⟩ := I.mut ok hs hr
  cases ov with
  | none => exact hrep.elim
  | some v =>
    obtain ⟨L, vs, rfl, hL, hvs, rfl⟩ := hrep
    refine wpAny_Expr_any (meth_wp hat hse hl (by simp) m_extend (name_wp (F := F.up b r) ok hs hat' ?_ hd hn)) hi
    refine ⟨hL.isList.typeIs, fun a ea => ?_, ?_⟩
    · cases ea
      obtain ⟨o, n, ho, _, hdn, _⟩ := hL
      exact ⟨o, ho, hdn⟩
    · refine Calls.spliced_cons (wpAny_mono (hy A s rm (I.down lf)) (fun v s₁ ⟨x₁, fp, ⟨D, us, e1, hD, hu, _⟩, _⟩ => Calls.spliced_nil ?_) fun _ _ e => e)
      subst e1
      refine wp_extend (hL.keeps x₁.2) hD (by rw [List.size_toArray, hvs.length]; exact hsz) (by rw [List.size_toArray, hu.length]; exact hsz2) fun h' hl' hs' => ?_
      have ch : Chg [L] s₁.heap h' := Chg.of_sameBut hs'
      have nt : ∀ a ∈ [L], NT s₁.heap a := fun a ha => by rw [List.mem_singleton.mp ha]; exact NT.list (hL.keeps x₁.2)
      refine ⟨.next, _, ⟨rfl, rfl⟩, hmut s₁ h' s₁.toks _ x₁ ch ⟨L, vs ++ us, rfl, by rw [← List.append_toArray]; exact hl', ?_, rfl⟩, trivial⟩
      exact IVs.append ((hvs.keep x₁.2).chg ch (.inl nt)) (hu.chg ch (.inl nt))
end
noncomputable def noStar : PySem.Expr → Bool | .Starred .. => false | _ => true
theorem star_plain {env : Env} : ∀ es : List PySem.Expr, es.all noStar = true → starEach es env = plainArgs es env
  | [], _ => rfl
  | e :: es, h => by
    rw [List.all_cons, Bool.and_eq_true] at h
    have hs : starEach (e :: es) env = (false, eval e env) :: starEach es env := by
      cases e <;> first | rfl | exact absurd h.1 (by simp [noStar])
    rw [hs, star_plain es h.2]
    rfl
variable {prog : Program} {w : World}
theorem list_no_keys : typeLookup (.type "list") "keys" = pure none := by rw [typeLookup_type, builtinLookup_eq_fast]; kernel_rfl
theorem entry_dict_loop : entryFor table "dict.update.loop" = some Builtin.«dict.update.loop» := entryFor_of_tree (by kernel_rfl)
theorem plain_dict_loop : plainId "dict.update.loop" = true := by decide +kernel
theorem keys_none {A : Around} {s : Shared} {E : Value → Shared → Prop} {a : Addr} {items : Array Value} {Q : Option Value → Shared → Prop} (hl : PlainL s.heap a items) (hA : A.handled = none)
    (h : ∀ h' tk, Keep s.heap h' → Q none { s with heap := h', toks := tk }) : wpAny (model prog w) A (getAttr? (.ref a) "keys") Q E s := by
  obtain ⟨⟨c, dct, dat, sl⟩, n, hx, hc, hd, hdat⟩ := hl
  simp only at hc hdat hd
  subst hc hdat hd
  obtain ⟨hp, g, d, tk, os⟩ := s
  have hT : ∀ tk', (⟨hp, g, d, tk', os⟩ : Shared).TypeIs (.ref a) "list" := fun _ => ⟨_, hx, rfl⟩
  have f1 := sub_AttributeError
  have f3 := F.slot_list_getattribute.lookup
  have f4 := F.slot_list_getattribute.bind (.ref a)
  have f5 := am_list_getattr_none
  unfold getAttr? getAttrBy? getAttrBy
  repeat (any_goals (first | assumption | exact hT _ | ((with_reducible show wpAny _ _ (call (Value.builtin "list.__getattribute__") _ _) _ _ _); refine call_meets F.slot_list_getattribute (hT _) am_entry_list_getattribute (F.args_list_getattribute_2 _ _) (meets_getattribute_miss_list a items n sl _ _ list_no_keys (by decide)) ⟨hx, hA, fun h' tk' e hx' => ?_⟩) | wp_step))
  obtain ⟨t', u', he⟩ := hx'.there
  show wpAny _ _ (getattributeRaised _ _ _ _ _ _ _) _ _ _
  unfold getattributeRaised
  repeat (any_goals (first | assumption | wp_step))
  exact h _ _ hx'.of.keeps
theorem stored_new {kvs : List (Str × Value)} {x : Str} {v : Value} (h : ∀ q ∈ kvs, q.1 ≠ x) : stored kvs x v = kvs ++ [(x, v)] := by
  unfold stored
  rw [if_neg]
  intro hany
  obtain ⟨q, hq, hq2⟩ := List.any_eq_true.mp hany
  exact h q hq (of_decide_eq_true hq2)
theorem KVs.keys : ∀ {l : List (Str × At)} {kvs : List (Str × Value)}, KVs l kvs → kvs.map (·.1) = l.map (·.1)
  | [], [], _ => rfl
  | p :: l, q :: r, ⟨h1, _, h3⟩ => by rw [List.map_cons, List.map_cons, h1, KVs.keys h3]
  | [], _ :: _, h => h.elim
  | _ :: _, [], h => h.elim
noncomputable abbrev pairIV (l : List (Str × At)) : List IV := l.map fun p => .tup [.str p.1, p.2]
theorem pair_vals {h : Heap} {x : Str} {a : At} {v : Value} (r : (IV.tup [.str x, a]).of h v) : ∃ T t u n o, v = .ref T ∧ h.get? T = some o ∧ o.cls = .type "tuple" ∧ o.data = .seq #[.str x t, u] n ∧ a.of u := by
  obtain ⟨T, vs, rfl, ht, hv⟩ := r
  cases vs with
  | nil => exact hv.elim
  | cons v1 vs =>
    cases vs with
    | nil => exact hv.2.elim
    | cons v2 vs =>
      cases vs with
      | cons => exact hv.2.2.elim
      | nil =>
        obtain ⟨t, e1⟩ := hv.1
        subst e1
        obtain ⟨o, ho, hc, n, hd⟩ := ht
        exact ⟨T, t, v2, n, o, rfl, ho, hc, hd, hv.2.1⟩
theorem upd_loop {A : Around} {h₀ : Heap} {L D I : Addr} {vs : List Value} {l : List (Str × At)} {R : Result → Shared → Prop} (hh : A.handled = none) (hL : PlainL h₀ L vs.toArray) (hi : IVs h₀ (pairIV l) vs) (hD : h₀.get? D = none) (hI : h₀.get? I = none) (hDI : D ≠ I) (nd : (l.map (·.1)).Nodup) (hsz : l.length ≤ sizeLine) (tg : Nat) :
    ∀ (k i : Nat) (j : Int) (t : Tok) (s : Shared) (kvs : List (Str × Value)), l.length - i = k → i ≤ l.length → Keep h₀ s.heap → s.heap.IsListIter I L i → s.heap.DictOf (PySem.strKind prog w) D kvs → KVs (l.take i) kvs →
      (∀ h' tk kvs, Keep h₀ h' → h'.DictOf (PySem.strKind prog w) D kvs → KVs l kvs → R (.ok (.ret .none)) { s with heap := h', toks := tk }) →
      codeAny (model prog w) A (.builtin "dict.update.loop" ⟨[.ref D, .ref I, .int j t, .none], []⟩) R s := by
  intro k
  induction k with
  | zero =>
    intro i j t s kvs hk hle kp hit hd hkv hR
    have e : i = l.length := by lia
    subst e
    refine codeAny_builtin entry_dict_loop ?_
    rw [Around.under_plainId plain_dict_loop _]
    show wpAny _ A.in1 (pyNext (.ref I) >>= _) _ _ s
    refine wpAny_bind (wpAny_pyNext_list_end (items := vs.toArray) (by simp [hh]) hit (hL.keeps kp).isList (by rw [List.getElem?_toArray]; exact List.getElem?_eq_none (by rw [hi.length, List.length_map]; exact Nat.le_refl _)) fun h' he => ?_)
    refine wpAny_bind (m := Builtin.Dict.addKeywords D []) (wpAny_pure (wpAny_pure ?_))
    rw [List.take_length] at hkv
    refine hR h' s.toks kvs (fun b o e => he b o (fun q => by rw [q, hI] at e; cases e) (kp b o e)) (hd.at fun o e => he D o hDI e) hkv
  | succ k ih =>
    intro i j t s kvs hk hle kp hit hd hkv hR
    have hlt : i < l.length := by lia
    have hx : (pairIV l)[i]? = some (.tup [.str l[i].1, l[i].2]) := by rw [List.getElem?_map, List.getElem?_eq_getElem hlt]; rfl
    obtain ⟨v, hv, hr⟩ := hi.get hx
    refine codeAny_builtin entry_dict_loop ?_
    rw [Around.under_plainId plain_dict_loop _]
    show wpAny _ A.in1 (pyNext (.ref I) >>= _) _ _ s
    refine wpAny_bind (wpAny_pyNext_list_item (items := vs.toArray) hit (hL.keeps kp).isList (by rw [List.getElem?_toArray]; exact hv) fun h1 hit1 hs1 => ?_)
    have kp1 : Keep h₀ h1 := fun b o e => hs1.extBut b o (fun q => by rw [q, hI] at e; cases e) (kp b o e)
    obtain ⟨T, t1, u, n, o, rfl, hT, hc, hdat, hu⟩ := pair_vals (IV.of_keep kp1 hr)
    have hd1 : h1.DictOf (PySem.strKind prog w) D kvs := hd.at fun o e => hs1.extBut D o hDI e
    dsimp only
    refine wpAny_bind (wpAny_holding ?_)
    refine wpAny_bind ?_
    unfold Builtin.Dict.pairItems
    refine wpAny_tryCatch (wpAny_bind (wpAny_typeOf (T := "tuple") ⟨o, hT, hc⟩ ?_))
    rw [if_pos (by decide)]
    refine wpAny_bind (wpAny_seqItems hT hdat (wpAny_pure ?_))
    have hnew : ∀ q ∈ kvs, q.1 ≠ l[i].1 := fun q hq e => by
      have h2 : q.1 ∈ kvs.map (·.1) := List.mem_map_of_mem hq
      rw [hkv.keys, e] at h2
      obtain ⟨p, hp, hp2⟩ := List.mem_map.mp h2
      obtain ⟨m, hm, hm2⟩ := List.mem_iff_getElem.mp hp
      rw [List.getElem_take] at hm2
      have hm' : m < i := by rw [List.length_take] at hm; lia
      have := (List.pairwise_iff_getElem.mp nd) m i (by simp; lia) (by simpa using hlt) hm'
      apply this
      rw [List.getElem_map, List.getElem_map, hm2]
      exact hp2
    show wpAny _ _ (holding [.str l[i].1 t1, u] (dictSet D (.str l[i].1 t1) u)) _ _ _
    refine wpAny_holding (wpAny_dictSet_pairs (knd := PySem.strKind prog w) (k := l[i].1) (by show (l[i].1 == l[i].1) = true; simp) hd1 (fun h2 hd2 hs2 => ?_) (by rw [hkv.len, List.length_take]; lia))
    rw [stored_new hnew] at hd2
    have kp2 : Keep h₀ h2 := fun b o e => hs2.extBut b o (fun q => by rw [q, hD] at e; cases e) (kp1 b o e)
    refine wpAny_pure ⟨plainId_quiet plain_dict_loop _, ih (i + 1) _ _ _ (kvs ++ [(l[i].1, u)]) (by lia) hlt kp2 (hit1.at fun o e => hs2.extBut I o (fun q => hDI q.symm) e) hd2 ?_ fun h' tk kvs' a b c => hR h' tk kvs' a b c⟩
    rw [List.take_succ_eq_append_getElem hlt]
    exact hkv.snoc hu
theorem c_dict_pairs {base : Addr → Option Obj} {k : Nat} {l : List (Str × At)} (nd : (l.map (·.1)).Nodup) (hsz : l.length ≤ sizeLine) (hsm : ∃ o, base sysModules = some o) : CallP prog w base k (.type "dict") [.list (pairIV l)] (.dict l) true := fun A s vals rm g b r => by
  obtain ⟨v, rfl, fp, L, vs, rfl, hl, hi, _⟩ := reps1 r
  refine callType_codes (Q₁ := fun obj s₁ => obj = .ref s.heap.objs.size ∧ s₁ = { s with heap := s.heap.push { cls := .type "dict", data := .dict #[] } }) F.kt_called_dict (F.kt_typeCall_dict_1 _) F.entry_dict_init (kt_code_dict_new _ ⟨rfl, rfl⟩) ?_
  rintro obj s₁ ⟨rfl, rfl⟩
  have hnew : (s.heap.push { cls := .type "dict", data := .dict #[] }).DictOf (PySem.strKind prog w) s.heap.objs.size [] := Heap.DictOf.new s.heap
  have kp : Keep s.heap (s.heap.push { cls := .type "dict", data := .dict #[] }) := fun b o e => Heap.get?_push_of_some _ e
  have hl1 := hl.keeps kp
  refine ⟨hnew.typeIs, F.args_dict_init_2 _ _, ?_⟩
  unfold Builtin.«dict.__init__»
  refine wpAny_bind ?_
  unfold Builtin.Dict.selfAndRest
  refine wpAny_bind (wpAny_notOrdered_dict hnew.typeIs ?_)
  show wpAny _ _ (pure (s.heap.objs.size, [Value.ref L])) _ _ _
  refine wpAny_pure ?_
  show wpAny _ _ (Builtin.Dict.updateFrom "dict.__init__" s.heap.objs.size (.ref L) [] .none) _ _ _
  unfold Builtin.Dict.updateFrom
  refine wpAny_bind (wpAny_typeOf hl1.isList.typeIs ?_)
  rw [if_pos (by decide)]
  refine wpAny_bind (keys_none hl1 rm.handled fun h1 tk1 kp1 => ?_)
  rw [if_pos (by rfl)]
  refine wpAny_bind (wpAny_rule ?_)
  refine wpAny_bind (wpAny_pyIter_list (hl1.keeps kp1).isList ?_)
  obtain ⟨hp, gg, d, tk, os⟩ := s
  have hI : hp.get? h1.objs.size = none := by
    cases e : hp.get? h1.objs.size with
    | none => rfl
    | some o => exact absurd (Heap.lt_size (kp1 _ _ (kp _ _ e))) (Nat.lt_irrefl _)
  have hDn : hp.get? hp.objs.size = none := fresh_size (s := ⟨hp, gg, d, tk, os⟩) (Ext.refl _) (Nat.le_refl _)
  have hDI : hp.objs.size ≠ h1.objs.size := by
    obtain ⟨o, es, ep, e, _⟩ := hnew
    exact Nat.ne_of_lt (Heap.lt_size (kp1 _ _ e))
  refine wpAny_pure ⟨plainId_quiet plain_dict_loop _, upd_loop (h₀ := hp) (l := l) (by simp [rm.handled]) hl hi hDn hI hDI nd hsz 0 l.length 0 _ _ _ [] rfl (Nat.zero_le _) (fun b o e => Heap.get?_push_of_some _ (kp1 _ _ (kp _ _ e))) ⟨_, Heap.get?_push_size _ rfl, rfl, rfl⟩ ((hnew.keep kp1).push _) trivial fun h' tk' kvs a b' c => ?_⟩
  obtain ⟨om, hom⟩ := hsm
  refine ⟨rfl, ⟨⟨rfl, rfl⟩, a⟩, [hp.objs.size], ⟨_, kvs, rfl, b', c, rfl, ?_⟩, fun _ x hx => by rw [List.mem_singleton.mp hx]; exact hDn⟩
  rw [beq_eq_false_iff_ne]
  exact Nat.ne_of_gt (Heap.lt_size (b _ _ hom))
variable {prog : Program} {w : World}
noncomputable def sv : Value → Str | .str x _ => x | _ => ⟨#[]⟩
inductive SetS (prog : Program) (w : World) (h : Heap) (a : Addr) (l : List Str) : Prop
  | mk (o : Obj) (es : Array (Int × Value)) (ep : Nat) (t : SetTable) (ho : h.get? a = some o) (hex : o.ExactSet) (hd : o.data = .set es ep t) (hel : ∀ e ∈ es.toList, ∃ x u, e = ((PySem.strKind prog w).hash x, Value.str x u)) (hpm : (es.toList.map fun e => sv e.2).Perm l) (hb : l.length < scanBound) (hf : t.fits es.size = true) (hpl : l = [] ∨ t.plain = false) (hled : t.led = !w.params.followText "set-order") : SetS prog w h a l
theorem SetS.at_ {h h' : Heap} {a : Addr} {l : List Str} (k : ∀ o, h.get? a = some o → h'.get? a = some o) (x : SetS prog w h a l) : SetS prog w h' a l := by
  obtain ⟨o, es, ep, t, ho, h1, h2, h3, h4, h5, h6, h7, h8⟩ := x
  exact ⟨o, es, ep, t, k _ ho, h1, h2, h3, h4, h5, h6, h7, h8⟩
noncomputable def addS (l : List Str) (x : Str) : List Str := if l.contains x then l else l ++ [x]
theorem addS_len (l : List Str) (x : Str) : (addS l x).length ≤ l.length + 1 := by
  unfold addS; split
  · exact Nat.le_succ _
  · simp
theorem isS_str (x y : Str) (u : Tok) : (PySem.strKind prog w).is x (.str y u) = true ↔ y = x := by
  show Value.isStrOf x (.str y u) = true ↔ _
  simp [Value.isStrOf]
section
variable {A : Around} {E : Value → Shared → Prop} {s : Shared}
theorem elems_of {es : List (Int × Value)} (h : ∀ e ∈ es, ∃ x u, e = ((PySem.strKind prog w).hash x, Value.str x u)) : ElemsOf (PySem.strKind prog w) es := fun e he => by
  obtain ⟨x, u, rfl⟩ := h e he
  exact ⟨⟨x, (isS_str x x u).mpr rfl, rfl⟩, rfl⟩
theorem relaid_plain {t : SetTable} {hs : Array Int} {n : Nat} {t' : SetTable} {o : Array Nat} (h : t.relaid hs n = some (t', o)) : t'.plain = t.plain := by
  unfold SetTable.relaid SetTable.laid at h
  simp only [Option.bind_eq_bind] at h
  cases e : SetTable.layClean (SetTable.sizeAbove n - 1) hs with
  | none => rw [e] at h; cases h
  | some ow =>
    rw [e] at h
    cases h
    rfl
theorem relayAll_plain {t : SetTable} {es : Array (Int × Value)} {n : Nat} (h : t.plain = false) : (relayAll t es n).2.1.plain = false := by
  unfold relayAll
  cases e : t.relaid (es.map (·.1)) n with
  | none => rfl
  | some p =>
    obtain ⟨t', o⟩ := p
    dsimp only
    split
    · exact (relaid_plain e).trans h
    · rfl
theorem relaid_led {t : SetTable} {hs : Array Int} {n : Nat} {t' : SetTable} {o : Array Nat} (h : t.relaid hs n = some (t', o)) : t'.led = t.led := by
  unfold SetTable.relaid SetTable.laid at h
  simp only [Option.bind_eq_bind] at h
  cases e : SetTable.layClean (SetTable.sizeAbove n - 1) hs with
  | none => rw [e] at h; cases h
  | some ow =>
    rw [e] at h
    cases h
    rfl
theorem relayAll_led {t : SetTable} {es : Array (Int × Value)} {n : Nat} : (relayAll t es n).2.1.led = t.led := by
  unfold relayAll
  cases e : t.relaid (es.map (·.1)) n with
  | none => rfl
  | some p =>
    obtain ⟨t', o⟩ := p
    dsimp only
    split
    · exact relaid_led e
    · rfl
theorem layNew_led {t : SetTable} {es : Array (Int × Value)} {h : Int} {x : Value} : (layNew t es h x).2.1.led = t.led := by
  unfold layNew
  split
  · rename_i slot d _
    have e : (t.put slot).1.led = t.led := rfl
    dsimp only
    unfold SetTable.orStandIn
    split
    · exact e
    · exact e
  · rfl
theorem store_at {h : Heap} {a : Addr} {o : Obj} {es : Array (Int × Value)} {ep : Nat} {t : SetTable} (ho : h.get? a = some o) (hd : o.data = .set es ep t) (es' : Array (Int × Value)) (t' : SetTable) :
    (h.update a (Obj.putSet es' t')).get? a = some { o with data := .set es' (ep + 1) t' } := by
  have := Heap.get?_update_self (Obj.putSet es' t') ho (by rw [putSet_of es' t' hd]; rfl)
  rw [putSet_of es' t' hd] at this
  exact this
theorem setS_add {a : Addr} {l : List Str} {x : Str} {u : Tok} {Q : Bool → Shared → Prop} (hS : SetS prog w s.heap a l) (hroom : l.length + 1 < scanBound)
    (h : ∀ h' b, Heap.SameBut a s.heap h' → SetS prog w h' a (addS l x) → Q b { s with heap := h' }) : wpAny (model prog w) A (setAddHashed a (.str x u) ((PySem.strKind prog w).hash x)) Q E s := by
  obtain ⟨o, es, ep, t, ho, hex, hd, hel, hpm, hb, hf, hpl, hled⟩ := hS
  have hkey : (PySem.strKind prog w).is x (.str x u) = true := (isS_str x x u).mpr rfl
  have hE := elems_of hel
  have hsz : es.size = l.length := by rw [← hpm.length_eq, List.length_map, Array.length_toList]
  have hb0 : es.size < scanBound := by lia
  unfold setAddHashed setAddHashedIn
  refine wpAny_holding (wpAny_bind (wpAny_setState_of ho hd hf ?_))
  dsimp only
  rw [byScan_of (knd := PySem.strKind prog w) rfl hb0 hE]
  simp only [↓reduceIte]
  unfold setAddByScan
  refine wpAny_bind (wpAny_bind (wpAny_rule (wpAny_bind (wpAny_setScan_of hkey ho hd hf hE ?_))))
  cases hr : List.findIdx? (fun e => (PySem.strKind prog w).is x e.2) es.toList with
  | some j =>
    dsimp only
    obtain ⟨hj, hpj, _⟩ := List.findIdx?_eq_some_iff_getElem.mp hr
    have hmem : l.contains x = true := by
      obtain ⟨y, v, hy⟩ := hel _ (List.getElem_mem hj)
      rw [hy] at hpj
      have hyx := (isS_str x y v).mp hpj
      subst hyx
      rw [List.contains_iff_mem]
      refine hpm.mem_iff.mp (List.mem_map.mpr ⟨_, List.getElem_mem hj, ?_⟩)
      rw [hy]; rfl
    refine wpAny_pure (wpAny_pure ?_)
    have := h s.heap false (Heap.SameBut.refl a s.heap) (by unfold addS; rw [if_pos hmem]; exact ⟨o, es, ep, t, ho, hex, hd, hel, hpm, hb, hf, hpl, hled⟩)
    cases s
    exact this
  | none =>
    dsimp only
    have hnm : l.contains x = false := by
      cases q : l.contains x with
      | false => rfl
      | true =>
        have q := hpm.mem_iff.mpr (List.contains_iff_mem.mp q)
        obtain ⟨e, he, hev⟩ := List.mem_map.mp q
        obtain ⟨y, v, hy⟩ := hel e he
        have h2 := List.findIdx?_eq_none_iff.mp hr e he
        rw [hy] at hev h2
        have hev : y = x := hev
        rw [(isS_str x y v).mpr hev] at h2
        cases h2
    have hgw : ∀ (b : Bool) {s₁ : Shared} {Q' : Unit → Shared → Prop}, Q' () s₁ → wpAny (model prog w) A (match b with | true => rule "set.scan.the-table-gave-way" | false => pure ()) Q' E s₁ := fun b s₁ Q' hq => by
      cases b
      · exact wpAny_pure hq
      · exact wpAny_rule hq
    have hperm := layNew_perm t es ((PySem.strKind prog w).hash x) (.str x u)
    have hfits := layNew_fits t es ((PySem.strKind prog w).hash x) (.str x u)
    have hnled := layNew_led (t := t) (es := es) (h := (PySem.strKind prog w).hash x) (x := .str x u)
    generalize hL : layNew t es ((PySem.strKind prog w).hash x) (.str x u) = L at hperm hfits hnled ⊢
    obtain ⟨es1, t1, wasDummy, gave⟩ := L
    dsimp only at hperm hfits hnled ⊢
    rw [hled] at hnled
    rw [Array.toList_push] at hperm
    have hel1 : ∀ e ∈ es1.toList, ∃ x u, e = ((PySem.strKind prog w).hash x, Value.str x u) := fun e he => by
      rcases List.mem_append.mp (hperm.mem_iff.mp he) with he | he
      · exact hel e he
      · rw [List.mem_singleton] at he; exact ⟨x, u, he⟩
    have hpm1 : (es1.toList.map fun e => sv e.2).Perm (addS l x) := by
      refine (hperm.map _).trans ?_
      rw [List.map_append]
      unfold addS
      rw [hnm]
      exact hpm.append_right _
    have hsz1 : es1.size = l.length + 1 := by rw [← Array.length_toList, hperm.length_eq, List.length_append, Array.length_toList, hsz]; rfl
    have hb1 : es1.size < scanBound := by lia
    have hlen : (addS l x).length < scanBound := by have := addS_len l x; lia
    refine wpAny_bind (hgw _ ?_)
    have tail : ∀ t2 : SetTable, t2.fits es1.size = true → t2.plain = false → t2.led = (!w.params.followText "set-order") → wpAny (model prog w) A (do
          storeSet a es1 t2
          if (!wasDummy && t2.tooFull) = true then do
              (match (relayAll t2 es1 (SetTable.grown es1.size)).2.2 with | true => rule "set.scan.the-table-gave-way" | false => pure ())
              storeSet a (relayAll t2 es1 (SetTable.grown es1.size)).1 (relayAll t2 es1 (SetTable.grown es1.size)).2.1
              pure (some true)
            else pure (some true)) (fun r s' => ∃ b, r = some b ∧ Q b s') E s := fun t2 hf2 hp2 hl2 => by
      refine wpAny_bind (wpAny_storeSet_of ho hd ?_ (fits_of_scanBound hb1))
      have ho1 := store_at ho hd es1 t2
      have hsb1 := Heap.SameBut.update s.heap a (Obj.putSet es1 t2)
      split
      · have hp := relayAll_perm t2 es1 (SetTable.grown es1.size)
        have hfr := relayAll_fits t2 es1 (SetTable.grown es1.size)
        have hplr := relayAll_plain (es := es1) (n := SetTable.grown es1.size) hp2
        have hlr := relayAll_led (t := t2) (es := es1) (n := SetTable.grown es1.size)
        rw [hl2] at hlr
        generalize relayAll t2 es1 (SetTable.grown es1.size) = Rl at hp hfr hplr hlr ⊢
        obtain ⟨es2, t3, gave2⟩ := Rl
        dsimp only at hp hfr hplr hlr ⊢
        have hs2 : es2.size = es1.size := by rw [← Array.length_toList, hp.length_eq, Array.length_toList]
        refine wpAny_bind (hgw _ ?_)
        refine wpAny_bind (wpAny_storeSet_of ho1 rfl ?_ (fits_of_scanBound (by lia)))
        refine wpAny_pure ⟨true, rfl, h _ _ (hsb1.trans (Heap.SameBut.update _ a _)) ⟨_, es2, ep + 1 + 1, t3, store_at ho1 rfl es2 t3, hex, rfl, fun e he => hel1 e (hp.mem_iff.mp he), (hp.map _).trans hpm1, hlen, hfr, .inr hplr, hlr⟩⟩
      · exact wpAny_pure ⟨true, rfl, h _ _ hsb1 ⟨_, es1, ep + 1, t2, ho1, hex, rfl, hel1, hpm1, hlen, hf2, .inr hp2, hl2⟩⟩
    split
    · rename_i hpt
      refine wpAny_bind ?_
      rw [hashByValue_scannable 8 (x := .str x u) rfl]
      refine wpAny_pure ?_
      refine wpAny_mono (tail _ (SetTable.fits_plain_off hfits) rfl hnled) ?_ fun _ _ e => e
      rintro r s' ⟨b, rfl, hq⟩
      exact wpAny_pure hq
    · rename_i hpt
      refine wpAny_bind (wpAny_pure ?_)
      simp only [↓reduceIte]
      refine wpAny_mono (tail _ hfits (by simpa using hpt) hnled) ?_ fun _ _ e => e
      rintro r s' ⟨b, rfl, hq⟩
      exact wpAny_pure hq
noncomputable def metS (l : List Str) : List Str := l.foldl addS []
theorem metS_snoc (l : List Str) (x : Str) : metS (l ++ [x]) = addS (metS l) x := by unfold metS; rw [List.foldl_append]; rfl
theorem metS_len (l : List Str) : (metS l).length ≤ l.length := by
  have : ∀ (l r : List Str), (l.foldl addS r).length ≤ r.length + l.length := by
    intro l
    induction l with
    | nil => intro r; exact Nat.le_refl _
    | cons x l ih => intro r; have := ih (addS r x); have := addS_len r x; rw [List.foldl_cons, List.length_cons]; lia
  have := this l []
  simpa [metS] using this
theorem set_loop {R : Result → Shared → Prop} {I D : Addr} {fp wr : List Addr} {n : Nat} {P : Nat → Value → Prop} {St : Nat → Heap → Prop} (W : Walks prog w A.in1 I fp wr n P St) (hD : D ∉ fp) (l : List Str) (hl : l.length = n) (hval : ∀ i v x, l[i]? = some x → P i v → ∃ u, v = .str x u) (hb : n + 1 < scanBound) :
    ∀ (k i : Nat) (s : Shared), n - i = k → i ≤ n → St i s.heap → SetS prog w s.heap D (metS (l.take i)) →
      (∀ h' tk, (∀ b o, b ∉ D :: wr → s.heap.get? b = some o → h'.get? b = some o) → SetS prog w h' D (metS l) → R (.ok (.ret .none)) { s with heap := h', toks := tk }) →
      codeAny (model prog w) A (.builtin "set.update.loop" ⟨[.ref D, .ref I], []⟩) R s := by
  have hDw : D ∉ wr := fun h => hD (W.sub _ h)
  intro k
  induction k with
  | zero =>
    intro i s hk hi hst hS hR
    have hin : i = n := by lia
    subst hin
    refine codeAny_builtin PyProof.Rows.F.entry_set_update_loop ?_
    rw [Around.under_plainId PyProof.Rows.F.plain_set_update_loop _]
    show wpAny _ A.in1 (pyNext (.ref I) >>= _) _ _ s
    refine wpAny_bind (W.done s _ _ hst fun h' tk hm => ?_)
    rw [← hl, List.take_length] at hS
    exact wpAny_pure (hR h' tk (fun b o hb e => hm b o (fun q => hb (List.mem_cons_of_mem _ q)) e) (hS.at_ fun o e => hm D o hDw e))
  | succ k ih =>
    intro i s hk hi hst hS hR
    have hlt : i < n := by lia
    refine codeAny_builtin PyProof.Rows.F.entry_set_update_loop ?_
    rw [Around.under_plainId PyProof.Rows.F.plain_set_update_loop _]
    show wpAny _ A.in1 (pyNext (.ref I) >>= _) _ _ s
    refine wpAny_bind (W.item i s _ _ hlt hst fun v h1 tk1 hP hst1 hm => ?_)
    obtain ⟨x, hx⟩ : ∃ x, l[i]? = some x := ⟨_, List.getElem?_eq_getElem (by lia)⟩
    obtain ⟨u, rfl⟩ := hval i v x hx hP
    have hS1 : SetS prog w h1 D (metS (l.take i)) := hS.at_ fun o e => hm D o hDw e
    show wpAny _ A.in1 (holding [Value.str x u] (setAdd D (.str x u)) >>= _) _ _ _
    refine wpAny_bind (wpAny_holding ?_)
    unfold setAdd
    refine wpAny_holding ?_
    refine wpAny_bind ((PySem.strKind prog w).pyHash (k := x) ((isS_str x x u).mpr rfl) ?_)
    have hroom : (metS (l.take i)).length + 1 < scanBound := by have := metS_len (l.take i); rw [List.length_take] at this; lia
    refine setS_add (s := { s with heap := h1, toks := tk1 + 1 }) hS1 hroom fun h2 b hsb hS2 => ?_
    refine wpAny_pure ⟨plainId_quiet PyProof.Rows.F.plain_set_update_loop _, ih (i + 1) _ (by lia) hlt (W.frame _ h1 h2 hst1 fun b hb o e => ?_) ?_ fun h' tk hm' hS' => ?_⟩
    · rw [hsb.2 b (fun h : b = D => hD (by rw [← h]; exact hb))]; exact e
    · have e : l.take (i + 1) = l.take i ++ [x] := by
        rw [List.take_succ, hx]; rfl
      rw [e, metS_snoc]
      exact hS2
    · refine hR h' tk (fun b o hb e => hm' b o hb ?_) hS'
      rw [hsb.2 b (fun h : b = D => hb (by rw [h]; exact List.mem_cons_self))]
      exact hm b o (fun q => hb (List.mem_cons_of_mem _ q)) e
end
variable {prog : Program} {w : World}
section
variable {A : Around} {E : Value → Shared → Prop} {s : Shared}
noncomputable def freshSet (led : Bool) : Obj := { cls := .type "set", dict := none, data := .set #[] 0 (.fresh 0 0 led) }
theorem freshSet_is {h : Heap} {a : Addr} (e : h.get? a = some (freshSet !w.params.followText "set-order")) : SetS prog w h a [] :=
  ⟨_, #[], 0, _, e, ⟨rfl, rfl, rfl⟩, rfl, (fun e he => by simp at he), List.Perm.nil, by decide, rfl, .inl rfl, rfl⟩
theorem set_new_led (a : Value) {Q₁ : Value → Shared → Prop} (h : Q₁ (.ref s.heap.objs.size) { s with heap := s.heap.push (freshSet !w.params.followText "set-order") }) :
    codeAny (model prog w) A (.call (.builtin "set.__new__") ⟨[.type "set", a], []⟩) (wants Q₁ E) s := by
  refine codeAny_call_builtin F.plain_set_new F.entry_set_new (wpAny_of_eq (F.newCall_set_1 a) ?_)
  unfold Builtin.«set.__new__» Builtin.Frozenset.newClass
  have hsub := sub_set_self
  obtain ⟨hp, g, d, tk, os⟩ := s
  wp_walk
  refine wpAny_askSetting (wpAny_pure ?_)
  dsimp only
  simp only [newObj]
  refine wpAny_bind (wpAny_alloc (wpAny_pure ?_))
  exact wpAny_pure h
structure StrIt (prog : Program) (w : World) (h₀ : Heap) (v : Value) (l : List Str) (P : Nat → Value → Prop) : Prop where
  val : ∀ i v x, l[i]? = some x → P i v → ∃ u, v = .str x u
  it : ∀ (A : Around) (s : Shared) (Q : Value → Shared → Prop) (E : Value → Shared → Prop), Keep h₀ s.heap →
    (∀ (o : Obj) (St : Nat → Heap → Prop) (fp : List Addr), (∀ A' : Around, A'.handled = none → Walks prog w A' s.heap.objs.size fp [s.heap.objs.size] l.length P St) → (∀ b ∈ fp, b = s.heap.objs.size ∨ ∃ o, h₀.get? b = some o) → St 0 (s.heap.push o) →
      Q (.ref s.heap.objs.size) { s with heap := s.heap.push o }) → wpAny (model prog w) A (pyIter v) Q E s
set_option maxHeartbeats 3200000 in
theorem call_set {v : Value} {T : String} {l : List Str} {P : Nat → Value → Prop} {Q : Value → Shared → Prop} (hh : A.handled = none) (hT : ∀ s' : Shared, Keep s.heap s'.heap → s'.TypeIs v T) (hs1 : isSubtype (.type T) (.type "set") = pure false) (hs2 : isSubtype (.type T) (.type "frozenset") = pure false)
    (hne : (Value.type T == Value.type "dict") = false) (si : StrIt prog w s.heap v l P) (hb : l.length + 1 < scanBound)
    (h : ∀ (h' : Heap) (tk : Nat), SetS prog w h' s.heap.objs.size (metS l) → Keep s.heap h' → Q (.ref s.heap.objs.size) { s with heap := h', toks := tk }) :
    wpAny (model prog w) A (call (.type "set") [v]) Q E s := by
  obtain ⟨c, tl, hmro⟩ := F.called_set.mro
  have hmade := F.called_set.made
  have hsub := F.called_set.sub
  refine wpAny_call (codeAny_of_tree ?_)
  show wpAny _ _ (callAny (.type "set") _) _ _ _
  refine wpAny_pure ⟨Code.quiet_builtin _ (by decide +kernel), codeAny_builtin F.entry_type_call ?_⟩
  rw [Around.under_plain (weight_type_call_type "set" [v] []) rfl]
  have h1 := F.called_set.notType
  have h2 := F.called_set.canCreate
  have hct := F.typeCall_set_1 v
  repeat (any_goals (first | assumption | wp_step))
  refine codeAny_mono (set_new_led v (E := E) (Q₁ := fun obj s₁ => obj = .ref s.heap.objs.size ∧ s₁ = { s with heap := s.heap.push (freshSet !w.params.followText "set-order") }) ⟨rfl, rfl⟩) fun r s₁ hr => ?_
  cases r with
  | error e => exact hr
  | ok fl =>
    cases fl with
    | ret obj =>
      obtain ⟨rfl, rfl⟩ := hr
      generalize hled : (!w.params.followText "set-order") = led at *
      have hS : (s.heap.push (freshSet led)).get? s.heap.objs.size = some (freshSet led) := Heap.get?_push_size _ rfl
      have hT0 : Shared.TypeIs { s with heap := s.heap.push (freshSet led) } (.ref s.heap.objs.size) "set" := ⟨_, hS, rfl⟩
      have hli := F.called_set.init.lookup
      have hbi := F.called_set.init.bind (.ref s.heap.objs.size)
      repeat (any_goals (first | assumption | wp_step))
      refine codeAny_mono (codeAny_call_builtin (R := wants (fun r s₂ => r = .none ∧ ∃ h' tk, s₂ = { s with heap := h', toks := tk } ∧ SetS prog w h' s.heap.objs.size (metS l) ∧ Keep s.heap h') E) F.called_set.init.plain F.entry_set_init (check_set_init_1 hT0 ?_)) fun r₂ s₂ hr₂ => ?_
      · have kp : Keep s.heap (s.heap.push (freshSet led)) := fun b o e => Heap.get?_push_of_some _ e
        have hT1 := hT { s with heap := s.heap.push (freshSet led) } kp
        unfold Builtin.«set.__init__» noKeywords Builtin.Frozenset.updateFrom
        unfold freshSet at hT1 ⊢
        generalize hPI : pyIter = PI
        wp_walk
        subst hPI
        have hnone : ∀ {a : Addr}, s.heap.objs.size ≤ a → s.heap.get? a = none := fun h => fresh_size (Ext.refl s) h
        refine si.it _ _ _ _ kp fun o St fp W hfp hst => ?_
        refine wpAny_bind (wpAny_runValue ?_)
        have hsz : ({ s with heap := s.heap.push (freshSet led) } : Shared).heap.objs.size = s.heap.objs.size + 1 := Heap.size_push _ _
        have hDf : s.heap.objs.size ∉ fp := fun hm => by
          rcases hfp _ hm with e | ⟨o, ho⟩
          · have e : s.heap.objs.size = ({ s with heap := s.heap.push (freshSet led) } : Shared).heap.objs.size := e
            rw [hsz] at e
            exact absurd e (Nat.ne_of_lt (Nat.lt_succ_self _))
          · rw [hnone (Nat.le_refl _)] at ho; cases ho
        refine set_loop (W _ (by simp [hh])) hDf l rfl si.val hb l.length 0 _ rfl (Nat.zero_le _) hst (freshSet_is (Heap.get?_push_of_some _ (by rw [hled]; exact hS))) fun h' tk hm hS' => ?_
        refine wpAny_pure ?_
        show wpAny _ _ (ret Value.none) _ _ _
        refine wpAny_pure ⟨rfl, h', tk, rfl, hS', fun b o e => hm b o ?_ (Heap.get?_push_of_some _ (kp b o e))⟩
        have hb1 := Heap.lt_size e
        simp only [List.mem_cons, List.not_mem_nil, or_false, not_or]
        exact ⟨Nat.ne_of_lt hb1, fun q => by
          have q : b = ({ s with heap := s.heap.push (freshSet led) } : Shared).heap.objs.size := q
          rw [hsz] at q
          rw [q] at hb1
          exact absurd hb1 (Nat.not_lt.mpr (Nat.le_succ _))⟩
      · cases r₂ with
        | error e => exact hr₂
        | ok fl₂ =>
          cases fl₂ with
          | ret r =>
            obtain ⟨rfl, h', tk, rfl, hS', hk'⟩ := hr₂
            repeat (any_goals (first | assumption | wp_step))
            exact h _ _ hS' hk'
          | _ => exact hr₂.elim
    | _ => exact hr.elim
theorem strIt_list {h : Heap} {L : Addr} {vs : List Value} {l : List Str} (hl : PlainL h L vs.toArray) (hs : StrsAre vs l) : StrIt prog w h (.ref L) l (fun i v => vs.toArray[i]? = some v) where
  val := fun i v x hx hv => by
    rw [List.getElem?_toArray] at hv
    obtain ⟨y, u, h1, rfl⟩ := strs_get hs hv
    rw [hx] at h1; cases h1
    exact ⟨u, rfl⟩
  it := fun A s Q E kp hQ => by
    have hl' := (hl.keeps kp).isList
    obtain ⟨ol, n, hol, _⟩ := hl
    have hLs : L < s.heap.objs.size := Heap.lt_size (kp _ _ hol)
    have e : vs.toArray.size = l.length := by rw [List.size_toArray]; exact strs_len hs
    refine wpAny_pyIter_list hl' (hQ _ (fun i h => h.IsListIter s.heap.objs.size L i ∧ h.IsList L vs.toArray) [s.heap.objs.size, L] (fun A' hA => by have := Walks.list (prog := prog) (w := w) hA s.heap.objs.size L (Nat.ne_of_lt hLs) vs.toArray; rw [e] at this; exact this) (fun b hb => ?_) ⟨⟨_, Heap.get?_push_size _ rfl, rfl, rfl⟩, hl'.push _⟩)
    rcases List.mem_cons.mp hb with rfl | hb
    · exact .inl rfl
    · rw [List.mem_singleton] at hb; subst hb; exact .inr ⟨_, hol⟩
noncomputable abbrev charS (x : Str) : List Str := x.cps.toList.map fun c => ⟨#[c]⟩
theorem strIt_str {h : Heap} {x : Str} {t : Tok} : StrIt prog w h (.str x t) (charS x) (SignAt x) where
  val := fun i v y hy ⟨c, u, hc, hv⟩ => by
    rw [List.getElem?_map, Array.getElem?_toList, hc] at hy
    cases hy
    exact ⟨u, hv⟩
  it := fun A s Q E kp hQ => by
    refine wpAny_pyIter_str fun o St W hst => hQ o St [s.heap.objs.size] (fun A' hA => by have := W A' hA; rw [List.length_map, Array.length_toList]; exact this) (fun b hb => .inl (List.mem_singleton.mp hb)) hst
end
section
variable {F : Fm} {ρ : Rho} {k : Nat}
theorem ev_len_set_str {np np' pos pos' : PySem.Pos} {e : PySem.Expr} {x : Str} {f : Bool} (hs : starEach [e] F.env = plainArgs [e] F.env) (hs' : starEach [.Call (.Name "set" np') [e] [] pos'] F.env = plainArgs [.Call (.Name "set" np') [e] [] pos'] F.env) (gl : Glob prog w F "len" (.builtin "len")) (gs : Glob prog w F "set" (.type "set"))
    (h : EvJ prog w F ρ k e (.str x) f) (hb : x.length + 1 < scanBound) : EvJ prog w F ρ k (.Call (.Name "len" np) [.Call (.Name "set" np') [e] [] pos'] [] pos) (.int (metS (charS x)).length) true := fun A s rm I => by
  refine bi_call hs' gl (fun a e => nomatch e) I.keep ?_
  refine Calls.spliced_cons ?_
  refine bi_call hs gs (fun a e => nomatch e) I.keep ?_
  refine Calls.spliced_cons ?_
  refine wpAny_mono (h A s rm I) (fun v s₁ ⟨y, fp, ⟨⟨t, e1⟩, _⟩, _⟩ => Calls.spliced_nil ?_) fun _ _ e => e
  subst e1
  refine call_set (T := "str") (l := charS x) rm.handled (fun s' _ => typeIs_str _ _ _) PySem.F.sub_str_set PySem.F.sub_str_frozenset (by decide) strIt_str (by rw [List.length_map, Array.length_toList]; exact hb) fun h' tk hS kp => Calls.spliced_nil ?_
  obtain ⟨o, es, ep, t', ho, hex, hd, _, hpm, hlen, hf, _⟩ := hS
  have e : es.size = (metS (charS x)).length := by rw [← hpm.length_eq, List.length_map, Array.length_toList]
  have sb : scanBound = 4096 := rfl
  refine call_len_set ho hex hd hf (by rw [e]; lia) ?_
  rw [e]
  exact ⟨y.trans ⟨⟨rfl, rfl⟩, kp⟩, [], ⟨⟨_, rfl⟩, rfl⟩, fun _ a ha => nomatch ha⟩
end
variable {prog : Program} {w : World}
theorem entry_set_iter : entryFor table "set.__iter__" = some Builtin.«frozenset.__iter__» := entryFor_alias (id' := "frozenset.__iter__") (by kernel_rfl) rfl (by decide +kernel) (by kernel_rfl)
theorem slot_setit_next : Slot "set_iterator" "__next__" "set_iterator.__next__" :=
  .of (owner := "set_iterator") (n := "__next__") (by rw [typeLookup_type, builtinLookup_eq_fast]; kernel_rfl) (by decide +kernel) (by decide +kernel) (by decide +kernel)
    (by first | exact .inl (by decide +kernel) | exact .inr (by decide +kernel)) (by rw [isSubtype_type]; kernel_rfl)
theorem entry_setit_next : entryFor table "set_iterator.__next__" = some Builtin.«set_iterator.__next__» := entryFor_of_tree (by kernel_rfl)
theorem args_setit_next (a : Value) : argsOk "set_iterator.__next__" ⟨[a], []⟩ := by unfold argsOk; kernel_rfl
theorem erase_perm {α : Type} : ∀ (l : List α) (i : Nat) (h : i < l.length), (l[i] :: l.eraseIdx i).Perm l
  | x :: l, 0, h => .refl _
  | x :: l, i + 1, h => by
    have ih := erase_perm l i (by simpa using h)
    rw [List.getElem_cons_succ, List.eraseIdx_cons_succ]
    exact (List.Perm.swap _ _ _).trans (ih.cons _)
theorem pick_perm {α : Type} (next : Nat → Nat) : ∀ (fuel k : Nat) (left : List α) (out : Array α), fuel = left.length → (pickOrder.go next fuel k left out).toList.Perm (out.toList ++ left)
  | 0, k, left, out, h => by
    have : left = [] := List.eq_nil_of_length_eq_zero h.symm
    subst this
    unfold pickOrder.go
    simp
  | fuel + 1, k, left, out, h => by
    unfold pickOrder.go
    have hpos : 0 < left.length := by omega
    have hlt : next k % left.length < left.length := Nat.mod_lt _ hpos
    rw [List.getElem?_eq_getElem hlt]
    dsimp only
    refine (pick_perm next fuel (k + 1) _ _ (by rw [List.length_eraseIdx_of_lt hlt]; omega)).trans ?_
    rw [Array.toList_push, List.append_assoc]
    refine List.Perm.append_left _ ?_
    exact erase_perm _ _ hlt
section
variable {A : Around} {E : Value → Shared → Prop} {s : Shared}
theorem wp_choose' {src : Source} {n : Nat} {Q : Nat → Shared → Prop} (hn : n ≠ 0) (h : ∀ i d, i < n → Q i { s with drawn := d }) : wpAny (model prog w) A (choose src n) Q E s := fun Γ p hΓ => by
  unfold choose
  rw [Sem.wp_choose]
  exact ⟨hn, h _ _ (Nat.mod_lt _ (Nat.pos_of_ne_zero hn))⟩
theorem wp_draw {α : Type} : ∀ (n : Nat) (xs : List α) (s : Shared) (Q : List α → Shared → Prop), n = xs.length → (∀ ys d, ys.Perm xs → Q ys { s with drawn := d }) → wpAny (model prog w) A (drawOrder n xs) Q E s
  | 0, xs, s, Q, hn, h => by
    have : xs = [] := List.eq_nil_of_length_eq_zero hn.symm
    subst this
    unfold drawOrder
    have := h [] s.drawn .nil
    cases s
    exact wpAny_pure this
  | n + 1, [], s, Q, hn, h => by cases hn
  | n + 1, x :: l, s, Q, hn, h => by
    unfold drawOrder
    refine wpAny_bind (wp_choose' (by simp) fun i d hi => ?_)
    rw [List.getElem?_eq_getElem hi]
    dsimp only
    refine wpAny_bind (wp_draw n _ _ _ (by rw [List.length_eraseIdx_of_lt hi]; simp at hn ⊢; omega) fun ys d' hp => wpAny_pure (h _ d' ?_))
    exact (hp.cons _).trans (erase_perm _ _ hi)
theorem wp_byText {Q : Bool → Shared → Prop} (h : Q (w.params.followText "set-order") s) : wpAny (model prog w) A setsByText Q E s := by
  unfold setsByText
  exact wpAny_bind (wpAny_askSetting (wpAny_pure h))
theorem wp_stop {Q : Option Value → Shared → Prop} (hh : A.handled = none) (h : ∀ h', Keep s.heap h' → Q none { s with heap := h' }) :
    wpAny (model prog w) A.in1 (do raiseNew (← newExc (.type "StopIteration") [])) (fun (fin : PySem.Fin) s' => ∃ v, fin = .done (.ret v) ∧ Q (some v) s') (fun e s' => wpAny (model prog w) A (do if ← isInstance e (.type "StopIteration") then pure none else throw e) Q E s') s := by
  refine wpAny_bind ?_
  simp only [newExc, newTuple]
  refine wpAny_bind (wpAny_newObj_type ?_ (by size_fits))
  refine wpAny_bind (m := firstArgMember _ _) (wpAny_of_eq (a := Value.none) (by first | rfl | (simp only [firstArgMember]; rfl)) ?_)
  refine wpAny_newObj_type ?_ (by size_fits)
  simp only [raiseNew]
  refine wpAny_bind (wpAny_handled ?_)
  rw [show A.in1.handled = none from hh]
  refine wpAny_bind (wpAny_pure (wpAny_throw ?_))
  refine wpAny_bind (wpAny_isInstance (T := "StopIteration") (b := true) ⟨_, Heap.get?_push_size _ rfl, rfl⟩ isSubtype_stop ?_)
  exact wpAny_pure (h _ fun b o e => Heap.get?_push_of_some _ (Heap.get?_push_of_some _ e))
end
variable {prog : Program} {w : World}
structure SAt (w : World) (h : Heap) (D : Addr) (es : Array (Int × Value)) (ep : Nat) (t : SetTable) : Prop where
  at_ : ∃ o, h.get? D = some o ∧ o.cls = .type "set" ∧ o.data = .set es ep t
  small : es.size < scanBound
  fits : t.fits es.size = true
  plain : es.size ≤ 1 ∨ t.plain = false
  led : t.led = !w.params.followText "set-order"
theorem SAt.keeps {h h' : Heap} {D : Addr} {es : Array (Int × Value)} {ep : Nat} {t : SetTable} (x : SAt w h D es ep t) (k : ∀ o, h.get? D = some o → h'.get? D = some o) : SAt w h' D es ep t :=
  let ⟨⟨o, a, b⟩, z, c, d, e⟩ := x; ⟨⟨o, k _ a, b⟩, z, c, d, e⟩
def Fst (w : World) (h : Heap) (D : Addr) (es : Array (Int × Value)) (ep : Nat) (t : SetTable) (ord : List Value) (i : Nat) (first : Value) : Prop :=
  (w.params.followText "set-order" = true ∧ first = .int 0 0 ∧ ord = (pickOrder (w.params.setOrder D ep) es).toList.map (·.2)) ∨
  (w.params.followText "set-order" = false ∧ 1 < es.size ∧ ∃ (T : Addr) (ps : List Nat) (o : Obj) (n : Nat), first = .ref T ∧ h.get? T = some o ∧ o.cls = .type "tuple" ∧ o.data = .seq (ps.map fun (p : Nat) => rawInt p).toArray n ∧ ps.Perm (List.range es.size) ∧ ord = ps.map fun p => (es[p]?.map (·.2)).getD .none) ∨
  (w.params.followText "set-order" = false ∧ es.size ≤ 1 ∧ ∃ m : Nat, first = .int m 0 ∧ (i = 0 → m = 0) ∧ (i = 1 → ∀ p, t.place[0]? = some p → p < m) ∧ ord = es.toList.map (·.2))
def SIt (w : World) (h : Heap) (D I : Addr) (es : Array (Int × Value)) (ep : Nat) (t : SetTable) (ord : List Value) (i : Nat) : Prop :=
  ∃ o first, h.get? I = some o ∧ o.cls = .type "set_iterator" ∧ o.data = .fields #[first, .int i 0, .ref D, .int es.size 0, .int ep 0] ∧ (∀ T, first = .ref T → T ≠ I) ∧ Fst w h D es ep t ord i first
section
variable {A : Around} {E : Value → Shared → Prop} {s : Shared} {D I : Addr} {es : Array (Int × Value)} {ep : Nat} {t : SetTable} {ord : List Value}
theorem map_range_get (es : Array (Int × Value)) : (List.range es.size).map (fun p => (es[p]?.map (·.2)).getD Value.none) = es.toList.map (·.2) := by
  apply List.ext_getElem
  · simp
  · intro i h1 h2
    simp at h1
    simp [h1]
theorem sit_make {Q : Value → Shared → Prop} (hs : SAt w s.heap D es ep t) (h : ∀ h' d ord I, ord.Perm (es.toList.map (·.2)) → SIt w h' D I es ep t ord 0 → Keep s.heap h' → s.heap.get? I = none → Q (.ref I) { s with heap := h', drawn := d }) :
    wpAny (model prog w) A (pyIter (.ref D)) Q E s := by
  obtain ⟨⟨o, ho, hc, hd⟩, hsm, hf, hpl, hled⟩ := hs
  have hT : s.TypeIs (.ref D) "set" := ⟨o, ho, hc⟩
  refine wpAny_pyIter_slot hT PySem.F.slot_set_iter (wpAny_call_entry PySem.F.slot_set_iter hT entry_set_iter ?_ (PySem.F.args_set_iter_1 _))
  have hsz : t.place.size = es.size := by
    unfold SetTable.fits at hf
    simp only [Bool.and_eq_true, beq_iff_eq] at hf
    exact hf.1
  unfold Builtin.«frozenset.__iter__»
  refine wpAny_bind (m := Builtin.Frozenset.slot0 "__iter__" _) (wpAny_pure ?_)
  unfold Builtin.Frozenset.sizeOf setEntries
  refine wpAny_bind (wpAny_bind (wpAny_bind (wpAny_setState_of ho hd hf (wpAny_pure (wpAny_pure ?_)))))
  unfold setDrawn
  refine wpAny_bind (wpAny_bind (wpAny_setState_of ho hd hf ?_))
  dsimp only
  refine wpAny_bind (wp_byText (wpAny_pure ?_))
  have fin : ∀ (first : Value) (ord : List Value) (h₁ : Heap) (d : Drawn), ord.Perm (es.toList.map (·.2)) → Keep s.heap h₁ → (∀ h₂, Keep h₁ h₂ → Fst w h₂ D es ep t ord 0 first) → (∀ T, first = .ref T → ∃ o, h₁.get? T = some o) →
      wpAny (model prog w) A.in1 (do let a ← setEpoch D; ret (← newFields "set_iterator" [first, rawInt 0, .ref D, rawInt es.size, rawInt a])) (fun fin s' => ∃ v, fin = .done (.ret v) ∧ ∃ T' r, s'.TypeIs v T' ∧ typeLookup (.type T') "__next__" = pure (some r) ∧ Q v s') E { s with heap := h₁, drawn := d } := fun first ord h₁ d hp kp hF hT1 => by
    refine wpAny_bind (wpAny_setEpoch_of (s := { s with heap := h₁, drawn := d }) (kp _ _ ho) hd hf ?_)
    refine wpAny_bind (wpAny_newObj_type (wpAny_pure ⟨_, rfl, "set_iterator", _, ⟨_, Heap.get?_push_size _ rfl, rfl⟩, slot_setit_next.lookup, ?_⟩))
    refine h _ d ord _ hp ⟨_, first, Heap.get?_push_size _ rfl, rfl, rfl, fun T e q => ?_, hF _ fun b o e => Heap.get?_push_of_some _ e⟩ (fun b o e => Heap.get?_push_of_some _ (kp _ _ e)) ?_
    · obtain ⟨o', ho'⟩ := hT1 T e
      rw [q] at ho'
      exact absurd (Heap.lt_size ho') (Nat.lt_irrefl _)
    · cases e : s.heap.get? h₁.objs.size with
      | none => rfl
      | some o' => exact absurd (Heap.lt_size (kp _ _ e)) (Nat.lt_irrefl _)
  cases hb : w.params.followText "set-order" with
  | true =>
    refine wpAny_bind (wpAny_pure ?_)
    refine fin (.int 0 0) _ s.heap s.drawn ?_ (fun _ _ e => e) (fun h₂ _ => .inl ⟨hb, rfl, rfl⟩) fun T e => nomatch e
    refine List.Perm.map _ ?_
    have := pick_perm (w.params.setOrder D ep) es.size 0 es.toList #[] (by simp)
    simpa [pickOrder] using this
  | false =>
    by_cases hz : 1 < es.size
    · have hp0 : t.plain = false := hpl.resolve_left (by lia)
      rw [if_pos (by show (!false && (!t.plain && decide (es.size > 1))) = true; rw [hp0]; simpa using hz)]
      refine wpAny_bind (wp_draw _ _ _ _ (List.length_range).symm fun ps d hp => wpAny_bind (wpAny_newObj_type ?_ ?_))
      · have hnn : ∀ o, Keep s.heap (s.heap.push o) := fun o b o' e => Heap.get?_push_of_some _ e
        refine fin (.ref s.heap.objs.size) (ps.map fun p => (es[p]?.map (·.2)).getD .none) _ d ?_ (hnn _) (fun h₂ k2 => .inr (.inl ⟨hb, hz, _, ps, _, _, rfl, k2 _ _ (Heap.get?_push_size _ rfl), rfl, rfl, hp, rfl⟩)) fun T e => by cases e; exact ⟨_, Heap.get?_push_size _ rfl⟩
        refine (hp.map _).trans ?_
        rw [map_range_get]
      · show (List.map _ ps).toArray.size ≤ sizeLine
        rw [List.size_toArray, List.length_map, hp.length_eq, List.length_range]
        exact fits_of_scanBound hsm
    · rw [if_neg (by show ¬ (!false && (!t.plain && decide (es.size > 1))) = true; simp [hz])]
      refine wpAny_bind (wpAny_pure ?_)
      exact fin (.int 0 0) _ s.heap s.drawn (.refl _) (fun _ _ e => e) (fun h₂ _ => .inr (.inr ⟨hb, by lia, 0, rfl, fun _ => rfl, (fun e => by cases e), rfl⟩)) fun T e => nomatch e
theorem SAt.other {h h' : Heap} {b : Addr} (x : SAt w h D es ep t) (hb : D ≠ b) (k : Heap.ExtBut b h h') : SAt w h' D es ep t := x.keeps fun o e => k D o hb e
theorem sit_ne (hs : SAt w s.heap D es ep t) {i : Nat} (hI : SIt w s.heap D I es ep t ord i) : D ≠ I := fun e => by
  obtain ⟨⟨o, h1, h2, _⟩, _⟩ := hs
  obtain ⟨o', f, h3, h4, _⟩ := hI
  rw [e, h3] at h1
  cases h1
  rw [h2] at h4
  exact absurd h4 (by decide)
theorem sit_turn {i : Nat} {o : Obj} {first : Value} {Q : Option Value → Shared → Prop} (hs : SAt w s.heap D es ep t) (ho : s.heap.get? I = some o) (hc : o.cls = .type "set_iterator") (hd : o.data = .fields #[first, .int i 0, .ref D, .int es.size 0, .int ep 0])
    (h : wpAny (model prog w) A.in1 (match first with
      | .int slot _ => do
        match ← setNext D slot.toNat i ep with
        | some (x, next) =>
          setField (.ref I) 0 (rawInt next)
          setField (.ref I) 1 (rawInt ((i : Int) + 1))
          ret x
        | none => setField (.ref I) 2 .none; raiseNew (← newExc (.type "StopIteration") [])
      | _ => do
        let some places ← seqItems? first | unsupported "internal:set_iterator"
        match places[i]? with
        | some (.int place _) =>
          let x ← setNextDrawn D place.toNat ep
          setField (.ref I) 1 (rawInt ((i : Int) + 1))
          ret x
        | some _ => unsupported "internal:set_iterator"
        | none => setField (.ref I) 0 (rawInt 0); setField (.ref I) 2 .none; raiseNew (← newExc (.type "StopIteration") [])) (fun (fin : PySem.Fin) s' => ∃ v, fin = .done (.ret v) ∧ Q (some v) s') (fun e s' => wpAny (model prog w) A (do if ← isInstance e (.type "StopIteration") then pure none else throw e) Q E s') s) :
    wpAny (model prog w) A (pyNext (.ref I)) Q E s := by
  obtain ⟨⟨os, hos, hcs, hds⟩, hsm, hf, hpl, hled⟩ := hs
  unfold pyNext
  refine wpAny_bind (wpAny_attempt (wpAny_callSpecial?_slot (name := Str.ofString "__next__") (T := "set_iterator") ⟨o, ho, hc⟩ slot_setit_next
    (wpAny_call_entry slot_setit_next ⟨o, ho, hc⟩ entry_setit_next ?_ (args_setit_next _))))
  unfold Builtin.«set_iterator.__next__»
  refine wpAny_bind (m := slotArgs "__next__" 0 _) (wpAny_pure ?_)
  refine wpAny_bind (wpAny_fieldsOf ho hd ?_)
  dsimp only
  unfold setEntries
  refine wpAny_bind (wpAny_bind (wpAny_setState_of hos hds hf (wpAny_pure ?_)))
  rw [if_neg (by simp)]
  refine wpAny_mono (Q := fun (fin : PySem.Fin) s' => ∃ v, fin = .done (.ret v) ∧ Q (some v) s') ?_ (fun fin s' ⟨v, e, q⟩ => ⟨v, e, wpAny_pure q⟩) fun _ _ e => e
  cases first <;> exact h
end
variable {prog : Program} {w : World}
section
variable {A : Around} {E : Value → Shared → Prop} {s : Shared} {D I : Addr} {es : Array (Int × Value)} {ep : Nat} {t : SetTable} {ord : List Value}
theorem set2 {h : Heap} {o : Obj} {vs : Array Value} (ho : h.get? I = some o) (hd : o.data = .fields vs) (i : Nat) (x : Value) : ∃ o', (h.update I (Obj.mapFields (·.setIfInBounds i x))).get? I = some o' ∧ o'.cls = o.cls ∧ o'.data = .fields (vs.setIfInBounds i x) :=
  ⟨_, Heap.get?_update_self _ ho (Obj.isFreed_of_fields (Obj.data_mapFields hd _)), Obj.cls_mapFields .., by rw [Obj.data_mapFields hd]⟩
theorem below_zero (p : Nat) : SetTable.below #[p] 0 = 0 := by
  unfold SetTable.below SetTable.below.go
  simp [SetTable.below.go]
theorem below_one {p m : Nat} (h : p < m) : SetTable.below #[p] m = 1 := by
  unfold SetTable.below SetTable.below.go
  simp [SetTable.below.go, h]
theorem sit_next {i : Nat} {x : Value} {Q : Option Value → Shared → Prop} (hs : SAt w s.heap D es ep t) (hI : SIt w s.heap D I es ep t ord i) (hlen : ord.length = es.size) (hx : ord[i]? = some x)
    (h : ∀ h', SIt w h' D I es ep t ord (i + 1) → Heap.SameBut I s.heap h' → Q (some x) { s with heap := h' }) : wpAny (model prog w) A (pyNext (.ref I)) Q E s := by
  have hne := sit_ne hs hI
  obtain ⟨⟨os, hos, hcs, hds⟩, hsm, hf, hpl, hled⟩ := id hs
  obtain ⟨o, first, ho, hc, hd, hTI, hF⟩ := hI
  have hi : i < es.size := by rw [← hlen]; exact (List.getElem?_eq_some_iff.mp hx).1
  refine sit_turn hs ho hc hd ?_
  rcases hF with ⟨hb, rfl, hord⟩ | ⟨hb, hz, T, ps, oT, n, rfl, hT, hTc, hTd, hps, hord⟩ | ⟨hb, hz, m, rfl, hm0, hm1, hord⟩
  · dsimp only
    unfold setNext
    refine wpAny_bind (wpAny_bind (wpAny_setState_of hos hds hf ?_))
    dsimp only
    refine wpAny_bind (wp_byText ?_)
    rw [hb, if_pos rfl, if_neg (by simp)]
    unfold setWalk
    refine wpAny_bind (wpAny_bind (wpAny_setState_of hos hds hf ?_))
    dsimp only
    refine wpAny_bind (wp_byText ?_)
    rw [hb, if_pos rfl]
    refine wpAny_bind (wpAny_askSetting (wpAny_pure (wpAny_pure ?_)))
    rw [hord, List.getElem?_map, Array.getElem?_toList] at hx
    have e : ((pickOrder ((⟨(model prog w).prog, (model prog w).w.params⟩ : Setting).params.setOrder D ep) es)[i]?.map fun e => (e.2, (0 : Int).toNat)) = some (x, 0) := by
      show ((pickOrder (w.params.setOrder D ep) es)[i]?.map fun e => (e.2, 0)) = some (x, 0)
      cases q : (pickOrder (w.params.setOrder D ep) es)[i]? with
      | none => rw [q] at hx; cases hx
      | some y => rw [q] at hx; cases hx; rfl
    rw [e]
    dsimp only
    refine wpAny_bind (wpAny_setField ho hd (by simp) ?_)
    obtain ⟨o1, ho1, hc1, hd1⟩ := set2 ho hd 0 (rawInt ((0 : Nat) : Int))
    refine wpAny_bind (wpAny_setField ho1 hd1 (by simp) ?_)
    obtain ⟨o2, ho2, hc2, hd2⟩ := set2 ho1 hd1 1 (rawInt ((i : Int) + 1))
    refine wpAny_pure ⟨x, rfl, h _ ⟨o2, .int 0 0, ho2, hc2.trans (hc1.trans hc), by rw [hd2]; simp [rawInt], (fun T e => nomatch e), .inl ⟨hb, rfl, hord⟩⟩ ((Heap.SameBut.update ..).trans (Heap.SameBut.update ..))⟩
  · dsimp only
    refine wpAny_bind (wpAny_seqItems hT hTd ?_)
    dsimp only
    rw [hord, List.getElem?_map] at hx
    cases q : ps[i]? with
    | none => rw [q] at hx; cases hx
    | some p =>
      rw [q] at hx
      have e : (ps.map fun (p : Nat) => rawInt p).toArray[i]? = some (.int p 0) := by rw [List.getElem?_toArray, List.getElem?_map, q]; rfl
      rw [e]
      dsimp only
      have hp : p < es.size := by have := hps.mem_iff.mp (List.mem_of_getElem? q); simpa using this
      have hep : es[p]? = some es[p] := Array.getElem?_eq_getElem hp
      unfold setNextDrawn
      refine wpAny_bind (wpAny_bind (wpAny_setState_of hos hds hf ?_))
      dsimp only
      rw [if_neg (by simp)]
      rw [Int.toNat_natCast, hep]
      dsimp only
      refine wpAny_pure ?_
      refine wpAny_bind (wpAny_setField ho hd (by simp) ?_)
      obtain ⟨o1, ho1, hc1, hd1⟩ := set2 ho hd 1 (rawInt ((i : Int) + 1))
      have hx' : x = es[p].2 := by simp [hep] at hx; exact hx.symm
      refine wpAny_pure ⟨_, rfl, ?_⟩
      rw [← hx']
      refine h _ ⟨o1, .ref T, ho1, hc1.trans hc, by rw [hd1]; simp [rawInt], hTI, .inr (.inl ⟨hb, hz, T, ps, oT, n, rfl, ?_, hTc, hTd, hps, hord⟩)⟩ (Heap.SameBut.update ..)
      exact (Heap.get?_update_other _ _ (fun e => hTI T rfl e.symm)).trans hT
  · have hi0 : i = 0 := by lia
    subst hi0
    have hm := hm0 rfl
    subst hm
    dsimp only
    have hsz : t.place.size = es.size := by
      unfold SetTable.fits at hf
      simp only [Bool.and_eq_true, beq_iff_eq] at hf
      exact hf.1
    obtain ⟨p, hp⟩ : ∃ p, t.place = #[p] := by
      have e1 : t.place.size = 1 := by lia
      exact ⟨t.place[0], by apply Array.ext <;> simp [e1]; intro i h1; simp [h1]⟩
    unfold setNext
    refine wpAny_bind (wpAny_bind (wpAny_setState_of hos hds hf ?_))
    dsimp only
    refine wpAny_bind (wp_byText ?_)
    rw [hb, if_neg (by simp), if_neg (by show ¬ (!t.plain && decide (es.size > 1)) = true; simp; intro _; lia)]
    refine wpAny_bind (m := if (!t.led && !es.isEmpty) = true then unsupported "set:maker-not-led" else pure ()) ?_
    rw [hled, hb, if_neg (by simp)]
    refine wpAny_pure ?_
    rw [hp]
    have hes : es[0]? = some es[0] := Array.getElem?_eq_getElem hi
    have e0 : SetTable.below #[p] (((0 : Nat) : Int).toNat) = 0 := below_zero p
    rw [e0, hes]
    refine wpAny_pure ?_
    rw [hord, List.getElem?_map, Array.getElem?_toList, hes] at hx
    cases hx
    refine wpAny_bind (wpAny_setField ho hd (by simp) ?_)
    obtain ⟨o1, ho1, hc1, hd1⟩ := set2 ho hd 0 (rawInt ((p + 1 : Nat) : Int))
    refine wpAny_bind (wpAny_setField ho1 hd1 (by simp) ?_)
    obtain ⟨o2, ho2, hc2, hd2⟩ := set2 ho1 hd1 1 (rawInt (((0 : Nat) : Int) + 1))
    refine wpAny_pure ⟨_, rfl, h _ ⟨o2, .int ((p + 1 : Nat) : Int) 0, ho2, hc2.trans (hc1.trans hc), by rw [hd2]; simp [rawInt], (fun T e => nomatch e), .inr (.inr ⟨hb, hz, p + 1, rfl, (fun e => by lia), (fun _ q hq => by rw [hp] at hq; cases hq; exact Nat.lt_succ_self _), hord⟩)⟩ ((Heap.SameBut.update ..).trans (Heap.SameBut.update ..))⟩
theorem sit_end {Q : Option Value → Shared → Prop} (hh : A.handled = none) (hs : SAt w s.heap D es ep t) (hI : SIt w s.heap D I es ep t ord es.size) (hlen : ord.length = es.size)
    (h : ∀ h', (∀ b o, b ≠ I → s.heap.get? b = some o → h'.get? b = some o) → Q none { s with heap := h' }) : wpAny (model prog w) A (pyNext (.ref I)) Q E s := by
  obtain ⟨⟨os, hos, hcs, hds⟩, hsm, hf, hpl, hled⟩ := id hs
  obtain ⟨o, first, ho, hc, hd, hTI, hF⟩ := hI
  refine sit_turn hs ho hc hd ?_
  rcases hF with ⟨hb, rfl, hord⟩ | ⟨hb, hz, T, ps, oT, n, rfl, hT, hTc, hTd, hps, hord⟩ | ⟨hb, hz, m, rfl, hm0, hm1, hord⟩
  · dsimp only
    unfold setNext
    refine wpAny_bind (wpAny_bind (wpAny_setState_of hos hds hf ?_))
    dsimp only
    refine wpAny_bind (wp_byText ?_)
    rw [hb, if_pos rfl, if_neg (by simp)]
    unfold setWalk
    refine wpAny_bind (wpAny_bind (wpAny_setState_of hos hds hf ?_))
    dsimp only
    refine wpAny_bind (wp_byText ?_)
    rw [hb, if_pos rfl]
    refine wpAny_bind (wpAny_askSetting (wpAny_pure (wpAny_pure ?_)))
    have e : ((pickOrder ((⟨(model prog w).prog, (model prog w).w.params⟩ : Setting).params.setOrder D ep) es)[es.size]?.map fun e => (e.2, (0 : Int).toNat)) = none := by
      show ((pickOrder (w.params.setOrder D ep) es)[es.size]?.map fun e => (e.2, 0)) = none
      rw [Array.getElem?_eq_none (by rw [← Array.length_toList, ← hlen, hord, List.length_map]; exact Nat.le_refl _)]
      rfl
    rw [e]
    dsimp only
    refine wpAny_bind (wpAny_setField ho hd (by simp) ?_)
    refine wp_stop hh fun h' kp => h h' fun b o hb e => kp b o ((Heap.SameBut.update ..).extBut b o hb e)
  · dsimp only
    refine wpAny_bind (wpAny_seqItems hT hTd ?_)
    dsimp only
    have e : (ps.map fun (p : Nat) => rawInt p).toArray[es.size]? = none := by rw [List.getElem?_toArray, List.getElem?_eq_none (by rw [List.length_map, hps.length_eq, List.length_range]; exact Nat.le_refl _)]
    rw [e]
    dsimp only
    refine wpAny_bind (wpAny_setField ho hd (by simp) ?_)
    obtain ⟨o1, ho1, hc1, hd1⟩ := set2 ho hd 0 (rawInt 0)
    refine wpAny_bind (wpAny_setField ho1 hd1 (by simp) ?_)
    refine wp_stop hh fun h' kp => h h' fun b o hb e => kp b o (((Heap.SameBut.update ..).trans (Heap.SameBut.update ..)).extBut b o hb e)
  · dsimp only
    have hsz : t.place.size = es.size := by
      unfold SetTable.fits at hf
      simp only [Bool.and_eq_true, beq_iff_eq] at hf
      exact hf.1
    have hbl : SetTable.below t.place ((m : Int).toNat) = es.size := by
      rw [Int.toNat_natCast]
      rcases Nat.eq_zero_or_pos es.size with e | e
      · have e0 : t.place = #[] := Array.eq_empty_of_size_eq_zero (by lia)
        rw [e0, e]
        simp [SetTable.below, SetTable.below.go]
      · have e1 : es.size = 1 := by lia
        have e2 : t.place.size = 1 := by lia
        have hp : t.place = #[t.place[0]] := by apply Array.ext <;> simp [e2]; intro i h1; simp [h1]
        have := hm1 e1 _ (Array.getElem?_eq_getElem (by lia))
        rw [hp, below_one this, e1]
    unfold setNext
    refine wpAny_bind (wpAny_bind (wpAny_setState_of hos hds hf ?_))
    dsimp only
    refine wpAny_bind (wp_byText ?_)
    rw [hb, if_neg (by simp), if_neg (by show ¬ (!t.plain && decide (es.size > 1)) = true; simp; intro _; lia)]
    refine wpAny_bind (m := if (!t.led && !es.isEmpty) = true then unsupported "set:maker-not-led" else pure ()) ?_
    rw [hled, hb, if_neg (by simp)]
    refine wpAny_pure ?_
    rw [hbl, Array.getElem?_eq_none (Nat.le_refl _)]
    refine wpAny_pure ?_
    refine wpAny_bind (wpAny_setField ho hd (by simp) ?_)
    refine wp_stop hh fun h' kp => h h' fun b o hb e => kp b o ((Heap.SameBut.update ..).extBut b o hb e)
end
variable {prog : Program} {w : World}
section
variable {A : Around} {E : Value → Shared → Prop} {s : Shared} {D I : Addr} {es : Array (Int × Value)} {ep : Nat} {t : SetTable} {ord : List Value}
theorem SIt.past {h h' : Heap} {S i : Nat} {oS : Obj} (x : SIt w h D I es ep t ord i) (hS : h.get? S = some oS) (hc : oS.cls = .type "list") (k : ∀ b o, b ≠ S → h.get? b = some o → h'.get? b = some o) : SIt w h' D I es ep t ord i := by
  obtain ⟨o, first, ho, hcl, hd, hTI, hF⟩ := x
  have hne : I ≠ S := fun e => by rw [e, hS] at ho; cases ho; rw [hc] at hcl; exact absurd hcl (by decide)
  refine ⟨o, first, k _ _ hne ho, hcl, hd, hTI, ?_⟩
  rcases hF with hF | ⟨hb, hz, T, ps, oT, n, rfl, hT, hTc, hTd, hps, hord⟩ | hF
  · exact .inl hF
  · refine .inr (.inl ⟨hb, hz, T, ps, oT, n, rfl, k _ _ (fun e => ?_) hT, hTc, hTd, hps, hord⟩)
    rw [e, hS] at hT
    cases hT
    rw [hc] at hTc
    exact absurd hTc (by decide)
  · exact .inr (.inr hF)
theorem SAt.past {h h' : Heap} {S : Nat} {oS : Obj} (x : SAt w h D es ep t) (hS : h.get? S = some oS) (hc : oS.cls = .type "list") (k : ∀ b o, b ≠ S → h.get? b = some o → h'.get? b = some o) : SAt w h' D es ep t :=
  x.keeps fun o e => k D o (fun q => by
    obtain ⟨⟨o', h1, h2, _⟩, _⟩ := x
    rw [q, hS] at h1
    cases h1
    rw [hc] at h2
    exact absurd h2 (by decide)) e
theorem ext_set_loop {R : Result → Shared → Prop} {S : Addr} {res : Value} (hh : A.handled = none) (hlen : ord.length = es.size) :
    ∀ (k i : Nat) (s : Shared) (acc : Array Value) (c : Nat), es.size - i = k → i ≤ es.size → SAt w s.heap D es ep t → SIt w s.heap D I es ep t ord i → s.heap.get? S = some { cls := .type "list", dict := none, data := .seq acc c, slots := #[] } → acc.toList = ord.take i →
      (∀ h' c', (∀ b o, b ≠ S → b ≠ I → s.heap.get? b = some o → h'.get? b = some o) → h'.get? S = some { cls := .type "list", dict := none, data := .seq ord.toArray c', slots := #[] } → R (.ok (.ret res)) { s with heap := h' }) →
      codeAny (model prog w) A (.builtin "list.extend.loop" ⟨[.ref S, .ref I, res], []⟩) R s := by
  intro k
  induction k with
  | zero =>
    intro i s acc c hk hi hD hI hS hacc hR
    have hin : i = es.size := by lia
    subst hin
    have hSI : S ≠ I := fun e => by obtain ⟨o, f, ho, hcl, _⟩ := hI; rw [← e, hS] at ho; cases ho; have hcl : Value.type "list" = .type "set_iterator" := hcl; exact absurd hcl (by decide)
    refine codeAny_builtin F.entry_extend_loop ?_
    rw [Around.under_plainId F.plain_extend_loop _]
    show wpAny _ A.in1 (pyNext (.ref I) >>= _) _ _ s
    refine wpAny_bind (sit_end (by simp [hh]) hD hI hlen fun h' kp => ?_)
    have : acc = ord.toArray := by
      rw [← hlen, List.take_length] at hacc
      rw [← hacc]
    subst this
    exact wpAny_pure (hR h' c (fun b o _ h2 e => kp b o h2 e) (kp S _ hSI hS))
  | succ k ih =>
    intro i s acc c hk hi hD hI hS hacc hR
    have hlt : i < es.size := by lia
    have hSI : S ≠ I := fun e => by obtain ⟨o, f, ho, hcl, _⟩ := hI; rw [← e, hS] at ho; cases ho; have hcl : Value.type "list" = .type "set_iterator" := hcl; exact absurd hcl (by decide)
    have hDI := sit_ne hD hI
    obtain ⟨x, hx⟩ : ∃ x, ord[i]? = some x := ⟨_, List.getElem?_eq_getElem (by lia)⟩
    refine codeAny_builtin F.entry_extend_loop ?_
    rw [Around.under_plainId F.plain_extend_loop _]
    show wpAny _ A.in1 (pyNext (.ref I) >>= _) _ _ s
    refine wpAny_bind (sit_next hD hI hlen hx fun h1 hI1 hs1 => ?_)
    have hS1 : h1.get? S = some { cls := .type "list", dict := none, data := .seq acc c, slots := #[] } := hs1.extBut S _ hSI hS
    have hD1 := hD.other hDI hs1.extBut
    have hsz : acc.size = i := by rw [← Array.length_toList, hacc, List.length_take]; lia
    have hsm := fits_of_scanBound hD.small
    show wpAny _ A.in1 (updateSeq S (·.push x) >>= _) _ _ _
    refine wpAny_bind ?_
    have hk2 : ∀ b o, b ≠ S → h1.get? b = some o → (h1.update S (Obj.mapSeq (·.push x))).get? b = some o := fun b o hb e => (Heap.get?_update_other _ _ (fun h : S = b => hb h.symm)).trans e
    refine wpAny_updateSeq hS1 rfl (wpAny_pure ⟨plainId_quiet F.plain_extend_loop _, ih (i + 1) _ (acc.push x) _ (by lia) hlt (hD1.past hS1 rfl hk2) (hI1.past hS1 rfl hk2) (Heap.get?_update_self _ hS1 rfl) ?_ fun h' c' kp hS' => hR h' c' (fun b o n1 n2 e => kp b o n1 n2 (hk2 b o n1 (hs1.extBut b o n2 e))) hS'⟩)
      (by rw [hsz]; lia) (by show (acc.push x).size ≤ sizeLine + 1; rw [Array.size_push, hsz]; lia)
    rw [Array.toList_push, hacc, List.take_add_one, hx]
    rfl
theorem collect_set {Q : List Value → Shared → Prop} (hh : A.handled = none) (hs : SAt w s.heap D es ep t)
    (hQ : ∀ h' d ord, ord.Perm (es.toList.map (·.2)) → Keep s.heap h' → Q ord { s with heap := h', drawn := d }) : wpAny (model prog w) A (collect (.ref D)) Q E s := by
  unfold collect
  refine wpAny_bind (wpAny_runValue (codeAny_builtin F.entry_proto_collect ?_))
  rw [Around.under_plainId F.plain_proto_collect _]
  show wpAny _ A.in1 (newList [] >>= fun l => again (.builtin "list.__iadd__" ⟨[l, .ref D], []⟩)) _ _ s
  refine wpAny_bind (wpAny_newObj_type ?_)
  refine wpAny_pure ⟨plainId_quiet F.plain_list_iadd _, codeAny_builtin F.entry_list_iadd ?_⟩
  rw [Around.under_plainId F.plain_list_iadd _]
  have kp0 : Keep s.heap (s.heap.push { cls := .type "list", data := .seq ([] : List Value).toArray }) := fun b o e => Heap.get?_push_of_some _ e
  have hs0 := hs.keeps (h' := s.heap.push { cls := .type "list", data := .seq ([] : List Value).toArray }) fun o e => kp0 D o e
  obtain ⟨oD, hoD, hcD, hdD⟩ := hs.at_
  have hTD : ∀ {s' : Shared}, (∀ o, s.heap.get? D = some o → s'.heap.get? D = some o) → s'.TypeIs (.ref D) "set" := fun k => ⟨oD, k _ hoD, hcD⟩
  have hDs : D < s.heap.objs.size := Heap.lt_size hoD
  have hnS : s.heap.get? s.heap.objs.size = none := fresh_size (Ext.refl s) (Nat.le_refl _)
  have hSD : s.heap.objs.size ≠ D := Nat.ne_of_gt hDs
  show wpAny _ A.in1 (Builtin.List.listExtendWith (.ref s.heap.objs.size) (.ref D) (.ref s.heap.objs.size)) _ _ _
  unfold Builtin.List.listExtendWith
  refine wpAny_bind (wpAny_typeOf (T := "set") (hTD fun o e => kp0 D o e) ?_)
  have h1 : Builtin.List.listSameRef (.ref s.heap.objs.size) (.ref D) = false := by simp [Builtin.List.listSameRef, hSD]
  have h2 : (Value.type "set" == Value.type "list") = false := by decide
  have h3 : (Value.type "set" == Value.type "tuple") = false := by decide
  simp only [h1, h2, h3, Bool.or_false, Bool.false_eq_true, if_false]
  refine wpAny_bind (sit_make hs0 fun h' d ord I hp hI kp1 hnI => ?_)
  refine wpAny_bind (wpAny_holding ?_)
  unfold Builtin.List.listLengthHint
  refine wpAny_bind (wpAny_specialOf (T := "set") (hTD fun o e => kp1 _ _ (kp0 D o e)) PySem.F.slot_set_len.lookup ?_)
  have hsub := sub_set_self
  have hT2 := hTD (s' := { s with heap := h', drawn := d }) (fun o e => kp1 _ _ (kp0 D o e))
  generalize hLT : Builtin.List.listTouch = LT
  have hsp : splitId "set.__len__" = some ("set", "__len__") := by decide +kernel
  dsimp only
  rw [hsp]
  dsimp only
  refine wpAny_bind (wpAny_isInstance hT2 hsub ?_)
  simp only [Bool.not_true, Bool.false_eq_true, if_false]
  rw [if_pos (by decide +kernel)]
  refine wpAny_bind (wpAny_typeOf hT2 ?_)
  refine wpAny_pure ?_
  rw [if_pos (by decide +kernel)]
  refine wpAny_bind (wpAny_rule ?_)
  subst hLT
  have hS0 : (s.heap.push { cls := .type "list", data := .seq ([] : List Value).toArray }).get? s.heap.objs.size = some { cls := .type "list", data := .seq ([] : List Value).toArray } := Heap.get?_push_size _ rfl
  have hS1 := kp1 _ _ hS0
  refine wpAny_bind ?_
  show wpAny _ A.in1 (updateSeq s.heap.objs.size (·.push .none) >>= fun _ => updateSeq s.heap.objs.size (·.pop)) _ _ _
  refine wpAny_bind (wpAny_updateSeq hS1 rfl ?_)
  have hS2 := Heap.get?_update_self (Obj.mapSeq (·.push Value.none)) hS1 rfl
  refine wpAny_updateSeq hS2 rfl ?_
  have hS3 := Heap.get?_update_self (Obj.mapSeq (·.pop)) hS2 rfl
  have oth : ∀ b o, b ≠ s.heap.objs.size → h'.get? b = some o → ((h'.update s.heap.objs.size (Obj.mapSeq (·.push Value.none))).update s.heap.objs.size (Obj.mapSeq (·.pop))).get? b = some o :=
    fun b o hb e => (Heap.get?_update_other _ _ (fun h => hb h.symm)).trans ((Heap.get?_update_other _ _ (fun h => hb h.symm)).trans e)
  have hs1 : SAt w h' D es ep t := hs.keeps fun o e => kp1 _ _ (kp0 D o e)
  refine wpAny_pure ⟨plainId_quiet F.plain_extend_loop _, ext_set_loop hh (by rw [hp.length_eq, List.length_map, Array.length_toList]) es.size 0 _ _ _ rfl (Nat.zero_le _) (hs1.past hS1 rfl oth) (hI.past hS1 rfl oth) hS3 rfl fun h2 c' kp2 hS' => ?_⟩
  show wpAny _ A (load s.heap.objs.size >>= _) _ _ _
  refine wpAny_bind (wpAny_load hS' ?_)
  refine wpAny_pure ?_
  rw [List.toList_toArray]
  refine hQ h2 d ord hp fun b o e => ?_
  have hb : b ≠ s.heap.objs.size := Nat.ne_of_lt (Heap.lt_size e)
  have hbI : b ≠ I := fun q => by
    have h0 := kp0 _ _ e
    rw [q] at h0
    have hnI : (s.heap.push { cls := .type "list", data := .seq ([] : List Value).toArray }).get? I = none := hnI
    rw [hnI] at h0
    cases h0
  exact kp2 b o hb hbI (oth b o hb (kp1 _ _ (kp0 _ _ e)))
theorem strs_sv : ∀ {vs : List Value}, (∀ v ∈ vs, ∃ x t, v = .str x t) → StrsAre vs (vs.map sv)
  | [], _ => .nil
  | v :: vs, h => by
    obtain ⟨x, t, rfl⟩ := h v (List.mem_cons_self ..)
    exact .cons x t (strs_sv fun v hv => h v (List.mem_cons_of_mem _ hv))
theorem sorted_set {l : List Str} {Q : Value → Shared → Prop} (hh : A.handled = none) (hS : SetS prog w s.heap D l) (h64 : l.length < 64)
    (hQ : ∀ h' d L (out : Array Value) l', PlainL h' L out → l'.Perm l → sortedS l' = true → StrsAre out.toList l' → Keep s.heap h' → s.heap.get? L = none → Q (.ref L) { s with heap := h', drawn := d }) : wpAny (model prog w) A (PySem.call (.builtin "sorted") [.ref D]) Q E s := by
  obtain ⟨o, es, ep, t, ho, hex, hd, hel, hpm, hlt, hf, hpl, hled⟩ := hS
  have hsz : es.size = l.length := by rw [← hpm.length_eq, List.length_map, Array.length_toList]
  have hs : SAt w s.heap D es ep t := ⟨⟨o, ho, hex.1, hd⟩, by lia, hf, hpl.imp (fun e => by rw [e] at hsz; rw [hsz]; exact Nat.zero_le _) id, hled⟩
  refine Calls.call_function_entry kind_sorted plain_sorted entry_sorted (args_sorted1 _) ?_
  unfold Builtin.«sorted»
  refine wpAny_bind (m := checkCount "sorted" 1 1 _) (wpAny_pure ?_)
  refine wpAny_bind (collect_set (by simp [hh]) hs fun h1 d ord hp kp1 => ?_)
  have hlen : ord.length = l.length := by rw [hp.length_eq, List.length_map, Array.length_toList, hsz]
  have sz : sizeLine = 16777216 := sizeLine_eq
  refine wpAny_bind (wpAny_newList ?_ (by rw [sz]; lia))
  have hoL : (h1.push (seqObj "list" ord.toArray 0)).get? h1.objs.size = some (seqObj "list" ord.toArray 0) := Heap.get?_push_size _ rfl
  have hstr : StrsAre ord (ord.map sv) := strs_sv fun v hv => by
    obtain ⟨e, he, rfl⟩ := List.mem_map.mp (hp.mem_iff.mp hv)
    obtain ⟨x, u, rfl⟩ := hel e he
    exact ⟨x, u, rfl⟩
  have hperm : (ord.map sv).Perm l := by
    refine (hp.map sv).trans ?_
    rw [List.map_map]
    exact hpm
  refine wpAny_bind (wpAny_holding (wpAny_call_entry slot_list_sort ⟨_, hoL, rfl⟩ entry_list_sort (list_sort_treeK strKind_oneLt hoL hstr.keysOf (fun v₁ v₂ rest e => keyKind_strs (by rw [← e]; exact hstr)) (by lia) fun st' a1 a2 => ⟨_, rfl, ?_⟩) (args_list_sort _)))
  refine wpAny_pure ⟨_, rfl, ?_⟩
  obtain ⟨ss', b1, b2, b3⟩ := sorted_out_str hstr a1 a2
  obtain ⟨e, he⟩ := sortedHeap_at (out := (arrOf st').map (·.2)) hoL
  refine hQ _ d _ _ ss' ⟨_, e, he, rfl, rfl, rfl⟩ (b2.trans hperm) b3 b1 (fun b o q => ?_) ?_
  · have q1 := kp1 b o q
    have hlt1 := Heap.lt_size q1
    rw [sortedHeap_old (Nat.ne_of_lt hlt1) (by rw [size_push']; exact Nat.lt_succ_of_lt hlt1)]
    exact Heap.get?_push_of_some _ q1
  · cases q : s.heap.get? h1.objs.size with
    | none => rfl
    | some o' => exact absurd (Heap.lt_size (kp1 _ _ q)) (Nat.lt_irrefl _)
end
variable {prog : Program} {w : World}
section
variable {F : Fm} {ρ : Rho} {k : Nat}
theorem ev_sortedset_eq {np np' sp pos pos' sps cp : PySem.Pos} {e e' : PySem.Expr} {l l' : List Str} {f1 f2 : Bool} (hs : starEach [e] F.env = plainArgs [e] F.env) (hs2 : starEach [.Call (.Name "set" sp) [e] [] sps] F.env = plainArgs [.Call (.Name "set" sp) [e] [] sps] F.env) (hs' : starEach [e'] F.env = plainArgs [e'] F.env) (g : Glob prog w F "sorted" (.builtin "sorted")) (gs : Glob prog w F "set" (.type "set"))
    (hm : behindInMarks .Eq (.Call (.Name "sorted" np') [e'] [] pos') = false) (h : EvJ prog w F ρ k e (.list (strsIV l)) f1) (h' : EvJ prog w F ρ k e' (.list (strsIV l')) f2) (p : (metS l).Perm l') (hb : l.length + 1 < scanBound) (h64 : l'.length < 64) :
    EvJ prog w F ρ k (.Compare (.Call (.Name "sorted" np) [.Call (.Name "set" sp) [e] [] sps] [] pos) [.Eq] [.Call (.Name "sorted" np') [e'] [] pos'] cp) (.bool true) true := fun A s rm I => by
  have one : wpAny (model prog w) A (eval (.Call (.Name "sorted" np) [.Call (.Name "set" sp) [e] [] sps] [] pos) F.env) (fun v s' => ∃ l₁, l₁.Perm (metS l) ∧ sortedS l₁ = true ∧ Gives' prog w (.list (strsIV l₁)) true s v s') No s := by
    refine bi_call hs2 g (fun a e => nomatch e) I.keep ?_
    refine Calls.spliced_cons ?_
    refine bi_call hs gs (fun a e => nomatch e) I.keep ?_
    refine Calls.spliced_cons ?_
    refine wpAny_mono (h A s rm I) (fun v s₁ ⟨x1, fp, ⟨L, vs, e1, hl, hi, _⟩, _⟩ => Calls.spliced_nil ?_) fun _ _ e => e
    subst e1
    refine call_set (T := "list") (l := l) rm.handled (fun s' k => (hl.keeps k).isList.typeIs) PySem.F.sub_list_set PySem.F.sub_list_frozenset (by decide) (strIt_list hl (ivs_strs hi)) hb fun h' tk hS kp => Calls.spliced_nil ?_
    refine sorted_set (s := { s₁ with heap := h', toks := tk }) rm.handled hS (by rw [p.length_eq]; exact h64) fun h2 d L2 out l₂ a b c dd kp2 hn => ⟨l₂, b, c, ?_⟩
    refine ⟨x1.trans ⟨⟨rfl, rfl⟩, fun b o e => kp2 b o (kp b o e)⟩, [L2], ⟨L2, out.toList, rfl, by rw [Array.toArray_toList]; exact a, strs_ivs dd, rfl⟩, fun _ z hz => ?_⟩
    rw [List.mem_singleton.mp hz]
    cases q : s.heap.get? L2 with
    | none => rfl
    | some o => rw [kp _ _ (x1.2 _ _ q)] at hn; cases hn
  have two : ∀ s, Inv prog w F ρ s → wpAny (model prog w) A (eval (.Call (.Name "sorted" np') [e'] [] pos') F.env) (fun v s' => ∃ l₁, l₁.Perm l' ∧ sortedS l₁ = true ∧ Gives' prog w (.list (strsIV l₁)) true s v s') No s := fun s I => by
    refine bi_call hs' g (fun a e => nomatch e) I.keep ?_
    refine Calls.spliced_cons (wpAny_mono (h' A s rm I) (fun v s₁ ⟨x1, fp, r, _⟩ => Calls.spliced_nil ?_) fun _ _ e => e)
    exact wpAny_mono (c_sorted (base := F.base) (k := k) h64 A s₁ [v] rm (I.ext x1).gens (I.ext x1).keep ⟨⟨fp, r⟩, trivial⟩) (fun v s₂ ⟨l₁, a, b, c⟩ => ⟨l₁, a, b, give_trans x1 c⟩) fun _ _ e => e
  refine wpAny_Compare1 (hm := hm) (wpAny_mono one (fun a s₁ ⟨l₁, p1, q1, x1, fp1, r1, _⟩ => ?_) fun _ _ e => e)
  refine wpAny_mono (two s₁ (I.ext x1)) (fun c s₂ ⟨l₂, p2, q2, x2, fp2, r2, _⟩ => ?_) fun _ _ e => e
  have e0 : l₁ = l₂ := sorted_unique q1 q2 (p1.trans (p.trans p2.symm))
  subst e0
  have := op_eq_strs (prog := prog) (w := w) (k := k) (l := l₁) (l' := l₁) A s₂ a c fp1 fp2 rm ((I.ext x1).ext x2).gens (r1.keep x2.2) r2
  rw [show (l₁ == l₁) = true by simp] at this
  exact wpAny_mono this (fun v s₃ h => give_trans (x1.trans x2) h) fun _ _ e => e
theorem rows_at {h : Heap} {l : List (Str × Str)} {vs : List Value} (hi : IVs h (l.map fun p => .tup [.str p.1, .str p.2]) vs) {j : Nat} (hj : j < vs.length) : ∃ (T : Addr) (t u : Tok) (p : Str × Str), l[j]? = some p ∧ vs[j] = .ref T ∧ h.IsTuple T #[.str p.1 t, .str p.2 u] := by
  have hl : j < l.length := by have := hi.length; rw [List.length_map] at this; lia
  obtain ⟨v, hv, r⟩ := hi.get (i := j) (x := .tup [.str l[j].1, .str l[j].2]) (by rw [List.getElem?_map, List.getElem?_eq_getElem hl]; rfl)
  obtain ⟨T, t, u, n, o, rfl, ho, hc, hd, u2, rfl⟩ := pair_vals r
  refine ⟨T, t, u2, l[j], List.getElem?_eq_getElem hl, ?_, ⟨o, ho, hc, n, hd⟩⟩
  rw [List.getElem?_eq_getElem hj] at hv
  exact Option.some.inj hv
theorem op_ne_rows {l : List (Str × Str)} : Op2 (prog := prog) (w := w) k (compareOp .NotEq) (.list (l.map fun p => .tup [.str p.1, .str p.2])) (.list (l.map fun p => .tup [.str p.1, .str p.2])) (.bool false) true := fun A s a b fa fb rm g ⟨L, vs, e1, hl, hi, _⟩ ⟨L', vs', e2, hl', hi', _⟩ => by
  subst e1 e2
  have s1 : vs.toArray.size = l.length := by rw [list_size hi, List.length_map]
  have s2 : vs'.toArray.size = l.length := by rw [list_size hi', List.length_map]
  refine of_ne' (SeqAt.RcNeAt.lists (e := fun i => true) hl.isList hl'.isList (by rw [s1, s2]) rm.units (fun j h1 h2 => ?_)) ?_
  · obtain ⟨T, t, u, p, hp, q1, ht⟩ := rows_at hi (j := j) (by simpa using h1)
    obtain ⟨T', t', u', p', hp', q2, ht'⟩ := rows_at hi' (j := j) (by simpa using h2)
    rw [hp] at hp'
    cases hp'
    rw [List.getElem_toArray, List.getElem_toArray, q1, q2]
    by_cases hT : T = T'
    · subst hT
      exact SeqAt.EqAt.same _
    · have h3 := SeqAt.RcAt.tuples (A := A.in1) (e := fun _ => true) ht ht' (by have := rm.2.1; show A.units + 1 < _; lia) (fun j h1 h2 => by
        have h1 : j < 2 := h1
        match j, h1 with
        | 0, _ => have := SeqAt.EqAt.str_str (A := A.in1.in1) (s := s) p.1 t p.1 t'; rw [beq_self_eq_true] at this; exact this
        | 1, _ => have := SeqAt.EqAt.str_str (A := A.in1.in1) (s := s) p.2 u p.2 u'; rw [beq_self_eq_true] at this; exact this)
      exact SeqAt.EqAt.of_refs hT h3
  · rw [List.all_eq_true.mpr fun _ _ => rfl]
    exact giv_bool
theorem ev_and3 {a b c : PySem.Expr} {pos : PySem.Pos} {f1 f2 f3 : Bool} (ha : EvJ prog w F ρ k a (.bool true) f1) (hb : EvJ prog w F ρ k b (.bool true) f2) (hc : EvJ prog w F ρ k c (.bool true) f3) : EvJ prog w F ρ k (.BoolOp .And [a, b, c] pos) (.bool true) true := fun A s rm I => by
  refine BoolOp_and (wpAny_mono (ha A s rm I) (fun v s₁ ⟨x1, fp1, ⟨e1, _⟩, _⟩ => ?_) fun _ _ e => e)
  have e1 : v = .bool true := e1
  subst e1
  refine wpAny_truthy_bool ?_
  refine BoolOp_and (wpAny_mono (hb A s₁ rm (I.ext x1)) (fun v s₂ ⟨x2, fp2, ⟨e2, _⟩, _⟩ => ?_) fun _ _ e => e)
  have e2 : v = .bool true := e2
  subst e2
  refine wpAny_truthy_bool ?_
  refine BoolOp_one (wpAny_mono (hc A s₂ rm ((I.ext x1).ext x2)) (fun v s₃ ⟨x3, fp3, ⟨e3, _⟩, _⟩ => ?_) fun _ _ e => e)
  have e3 : v = .bool true := e3
  subst e3
  exact give_trans ((x1.trans x2).trans x3) giv_bool
end
theorem ItJ.cast {prog : Program} {w : World} {F : Fm} {ρ : Rho} {k : Nat} {z : Bool} {tgt e : PySem.Expr} {l l' : List IV} (h : ItJ prog w F ρ k z tgt e l) (q : l = l') : ItJ prog w F ρ k z tgt e l' := q ▸ h
noncomputable def forBody : Stmt → List Stmt | .For _ _ b _ _ => b | .While _ b _ _ => b | .If _ b _ _ => b | _ => []
noncomputable def sub (l : List Stmt) (i : Nat) : Stmt := l.getD i (.Pass ⟨0, 0, 0, 0⟩)
end Wk
namespace PS
open PySem.Builtin PySem.Builtin.Str
theorem lstrip_list (l : List Nat) (y : Str) : (Txt.lstripChars ⟨l.toArray⟩ y) = ⟨(l.dropWhile y.cps.contains).toArray⟩ := by
  unfold Txt.lstripChars
  rw [PyProof.Rows.stripBy_eq]
  apply Str.ext'
  apply Array.toList_inj.mp
  rw [StrLaws.strSub_toList]
  simp only [stripLo, stripHi, if_true, Bool.false_eq_true, if_false]
  have key : ∀ l : List Nat, l.drop (l.takeWhile y.cps.contains).length = l.dropWhile y.cps.contains := fun l => by
    induction l with
    | nil => rfl
    | cons c l ih =>
      rw [List.takeWhile_cons, List.dropWhile_cons]
      split
      · simpa using ih
      · rfl
  show (l.drop (l.takeWhile _).length).take _ = _
  rw [key]
  apply List.take_of_length_le
  show _ ≤ l.toArray.size - (l.takeWhile _).length
  rw [← key, List.length_drop]
  simp
theorem dot_has : (("." : Str).cps.contains : Nat → Bool) = fun c => c == 46 := by
  funext c
  have e : ("." : Str).cps = #[46] := by decide +kernel
  rw [e]
  simp [Array.contains, Bool.beq_comm]
theorem drop_dots : ∀ (d : Nat) (l : List Nat), (∀ c ∈ l.head?, c ≠ 46) → (List.replicate d 46 ++ l).dropWhile (fun c => c == 46) = l
  | 0, [], _ => rfl
  | 0, c :: l, h => by
    have := h c (by simp)
    simp [List.dropWhile_cons, this]
  | d + 1, l, h => by
    rw [List.replicate_succ, List.cons_append, List.dropWhile_cons]
    simpa using drop_dots d l h
theorem lstrip_dots (d : Nat) (l : List Nat) (h : ∀ c ∈ l.head?, c ≠ 46) : Txt.lstripChars ⟨(List.replicate d 46 ++ l).toArray⟩ "." = ⟨l.toArray⟩ := by
  rw [lstrip_list, dot_has, drop_dots d l h]
end PS
namespace Wk
variable {prog : Program} {w : World}
theorem ev_dict0 {F : Fm} {ρ : Rho} {k : Nat} {pos : PySem.Pos} (hsm : ∃ o, F.base sysModules = some o) : EvJ prog w F ρ k (.Dict [] [] pos) (.dict []) true := fun A s rm I => by
  refine wpAny_Dict_empty ?_
  have hnew : (s.heap.push { cls := .type "dict", data := .dict #[] }).DictOf (PySem.strKind prog w) s.heap.objs.size [] := Heap.DictOf.new s.heap
  obtain ⟨om, hom⟩ := hsm
  refine ⟨Ext.push s _ _, [s.heap.objs.size], ⟨_, [], rfl, hnew, trivial, rfl, ?_⟩, fun _ x hx => by rw [List.mem_singleton.mp hx]; exact fresh_size (Ext.refl s) (Nat.le_refl _)⟩
  rw [beq_eq_false_iff_ne]
  exact Nat.ne_of_gt (Heap.lt_size (I.keep _ _ hom))
end Wk
namespace Hs

theorem go_go {tb : String → Option Builtin} {p : Program} {w : World} {n₀ : Nat} {ann : Option Value} {b : Nat} : ∀ {n N : Nat} {s s' : Shared} {t t' : Thread} {r : Shared × Thread}, segGo tb p w n₀ ann b n s t = some (s', t') →
    segGo tb p w n₀ ann b N s' t' = some r → segGo tb p w n₀ ann b (n + N) s t = some r
  | 0, N, s, s', t, t', r, h, k => by
    obtain ⟨rfl, rfl⟩ : s = s' ∧ t = t' := by simpa [segGo] using h
    rw [Nat.zero_add]; exact k
  | n + 1, N, s, s', t, t', r, h, k => by
    rw [show n + 1 + N = n + N + 1 by lia]
    unfold segGo at h ⊢
    cases he : endAt b t with
    | some f => rw [he] at h; cases h
    | none =>
      rw [he] at h
      cases hk : stepOk n₀ ann t with
      | false => rw [hk] at h; cases h
      | true =>
        rw [hk] at h
        cases hs : step (denote tb) p w s t with
        | halt o s₂ => rw [hs] at h; cases h
        | go s₂ t₂ => rw [hs] at h; exact go_go h k

structure Cx where
  p : Program
  w : World
  n₀ : Nat
  ann : Option Value
  b : List Stmt
  e : Env
  q : PySem.Pos
noncomputable abbrev Cx.go (X : Cx) (n : Nat) (s : Shared) (t : Thread) : Option (Shared × Thread) := segGo treeTable X.p X.w X.n₀ X.ann 1 n s t
noncomputable abbrev Cx.th (X : Cx) (m : Sem Fin) (pos : PySem.Pos) : Thread := ⟨m, .body X.b X.e, pos, [topFrame X.q]⟩

def Str' {α : Type} (X : Cx) (N : Nat) (m : Sem α) (s : Shared) (a : α) (s' : Shared) : Prop :=
  ∀ (pos : PySem.Pos) (K : α → Sem Fin) (H : Value → Sem Fin) (gd : Bool → Bool) (lv : List Value → List Value), ∃ n pos', n ≤ N ∧ X.go n s (X.th (m.wrap K H gd lv) pos) = some (s', X.th (K a) pos')
theorem st_le {α : Type} {X : Cx} {N N' : Nat} {m : Sem α} {s s' : Shared} {a : α} (h : Str' X N m s a s') (hN : N ≤ N' := by lia) : Str' X N' m s a s' := fun pos K H gd lv =>
  let ⟨n, q, h1, h2⟩ := h pos K H gd lv
  ⟨n, q, Nat.le_trans h1 hN, h2⟩

section
variable {X : Cx} {α β : Type} {s s' s'' : Shared}
theorem st_pure (a : α) : Str' X 0 (pure a) s a s := fun pos K H gd lv => ⟨0, pos, Nat.le_refl _, rfl⟩
theorem st_bind {N N' : Nat} {m : Sem α} {f : α → Sem β} {a : α} {b : β} (h : Str' X N m s a s') (k : Str' X N' (f a) s' b s'') : Str' X (N + N') (m >>= f) s b s'' := fun pos K H gd lv => by
  obtain ⟨n, q, l, e⟩ := h pos (fun a => (f a).wrap K H gd lv) H gd lv
  obtain ⟨n', q', l', e'⟩ := k q K H gd lv
  refine ⟨n + n', q', Nat.add_le_add l l', ?_⟩
  rw [Sem.bind_eq_wrap', Sem.wrap_wrap]
  exact go_go e e'
theorem st_keep {N : Nat} {vs : List Value} {m : Sem α} {a : α} (h : Str' X N m s a s') : Str' X N (m.keep vs) s a s' := fun pos K H gd lv => by
  obtain ⟨n, q, l, e⟩ := h pos K H gd (fun l => lv (vs ++ l))
  refine ⟨n, q, l, ?_⟩
  rw [Sem.keep_eq_wrap, Sem.wrap_wrap]
  exact e
theorem st_holding {N : Nat} {vs : List Value} {m : Sem α} {a : α} (h : Str' X N m s a s') : Str' X N (holding vs m) s a s' := by
  unfold PySem.holding
  split
  · exact h
  · exact st_keep h
theorem st_onRaise {N : Nat} {m : Sem α} {f : Value → Sem Unit} {a : α} (h : Str' X N m s a s') : Str' X N (m.onRaise f) s a s' := fun pos K H gd lv => by
  rw [Sem.onRaise_eq_wrap, Sem.wrap_wrap]
  exact h pos K _ _ _
theorem st_at (p : PySem.Pos) : Str' X 1 (standAt p) s () s := fun pos K H gd lv => ⟨1, p, Nat.le_refl _, by obtain ⟨h, g, d, k, o⟩ := s; rfl⟩
theorem st_rule (t : String) : Str' X 1 (rule t) s () s := fun pos K H gd lv => ⟨1, pos, Nat.le_refl _, by obtain ⟨h, g, d, k, o⟩ := s; rfl⟩
theorem st_alloc (o : Obj) : Str' X 1 (alloc o) s s.heap.objs.size { s with heap := s.heap.push o } := fun pos K H gd lv => ⟨1, pos, Nat.le_refl _, by obtain ⟨h, g, d, k, os⟩ := s; rfl⟩
theorem st_fresh : Str' X 1 fresh s s.toks { s with toks := s.toks + 1 } := fun pos K H gd lv => ⟨1, pos, Nat.le_refl _, by obtain ⟨h, g, d, k, os⟩ := s; rfl⟩
theorem st_ask : Str' X 1 ask s ⟨X.p, X.w.params⟩ s := fun pos K H gd lv => ⟨1, pos, Nat.le_refl _, by obtain ⟨h, g, d, k, os⟩ := s; rfl⟩
theorem st_load {a : Addr} {o : Obj} (part : Option Value) (ho : s.heap.get? a = some o) : Str' X 1 (loadPart a part) s o s := fun pos K H gd lv => ⟨1, pos, Nat.le_refl _, by
  obtain ⟨h, g, d, k, os⟩ := s
  show segGo _ _ _ _ _ _ 1 _ _ = _
  unfold segGo
  show (match PySem.step (denote treeTable) X.p X.w ⟨h, g, d, k, os⟩ (X.th ((loadPart a part).wrap K H gd lv) pos) with | .go s' t' => _ | .halt _ _ => _) = _
  have e : PySem.step (denote treeTable) X.p X.w ⟨h, g, d, k, os⟩ (X.th ((loadPart a part).wrap K H gd lv) pos) = .go ⟨h, g, d, k, os⟩ (X.th (K o) pos) := by
    show (match h.get? a with | some o => _ | none => _) = _
    rw [ho]
    rfl
  rw [e]
  rfl⟩
theorem st_update {a : Addr} {o : Obj} {f : Obj → Obj} (part : Option Value) (ho : s.heap.get? a = some o) (hn : X.n₀ ≤ a) : Str' X 1 (updatePart a part f) s () { s with heap := s.heap.update a f } := fun pos K H gd lv => ⟨1, pos, Nat.le_refl _, by
  obtain ⟨h, g, d, k, os⟩ := s
  show segGo _ _ _ _ _ _ 1 _ _ = _
  unfold segGo
  have ok : stepOk X.n₀ X.ann (X.th ((updatePart a part f).wrap K H gd lv) pos) = true := by
    show (true && (Nat.ble X.n₀ a || a == mainNs || a == cStatics || X.ann == some (.ref a))) = true
    rw [Nat.ble_eq_true_of_le hn]; rfl
  have e : PySem.step (denote treeTable) X.p X.w ⟨h, g, d, k, os⟩ (X.th ((updatePart a part f).wrap K H gd lv) pos) = .go ⟨h.update a f, g, d, k, os⟩ (X.th (K ()) pos) := by
    show (if (h.get? a).isSome then _ else _) = _
    rw [if_pos (by rw [show h.get? a = some o from ho]; rfl)]
    rfl
  show (match stepOk X.n₀ X.ann (X.th ((updatePart a part f).wrap K H gd lv) pos) with | false => _ | true => _) = _
  rw [ok, e]
  rfl⟩
theorem st_of_eq {N : Nat} {m m' : Sem α} {a : α} (e : m = m') (h : Str' X N m' s a s') : Str' X N m s a s' := e ▸ h
end

section
variable {X : Cx} {s : Shared}
theorem st_hashCall (k : Int) (t : Tok) : Str' X 4 (call (.builtin "int.__hash__") [.int k t]) s (.int (rawHash k) s.toks) { s with toks := s.toks + 1 } := fun pos K H gd lv => ⟨4, pos, Nat.le_refl _, by
  obtain ⟨p, w, n₀, ann, b, e, q⟩ := X
  obtain ⟨h, g, d, kk, os⟩ := s
  show segGo treeTable p w n₀ ann 1 4 _ _ = _
  rw [PySem.W.Fast.te3277212676724774461, PySem.W.Fast.te14364793385576792824]
  kernel_rfl⟩
theorem specialOf_int (k : Int) (t : Tok) : specialOf (.int k t) "__hash__" = pure (some (.builtin "int.__hash__")) := slot_int_hash.lookup
theorem st_tryCatch {α : Type} {N : Nat} {m : Sem α} {f : Value → Sem α} {a : α} {s' : Shared} (h : Str' X N m s a s') : Str' X N (m.tryCatch f) s a s' := fun pos K H gd lv => by
  rw [Sem.tryCatch_eq_wrap, Sem.wrap_wrap]
  exact h pos K _ _ _
theorem st_bound (k : Int) (t : Tok) (refuse : Sem Value) : Str' X 5 (callSpecialIfBoundUnlessNone? (.int k t) "__hash__" refuse) s (some (.int (rawHash k) s.toks)) { s with toks := s.toks + 1 } := by
  unfold callSpecialIfBoundUnlessNone? bindSpecialIfBound?
  rw [specialOf_int]
  refine st_holding (st_le (N := 0 + (1 + (0 + 0)) + (4 + 0)) (st_bind (a := some (.builtin "int.__hash__", [.int k t])) (s' := s) (st_bind (st_pure _) ?_) ?_))
  · refine st_bind (a := ⟨X.p, X.w.params⟩) st_ask ?_
    dsimp only
    rw [slot_int_hash.bind]
    split
    · exact st_bind (st_pure _) (st_pure _)
    · exact st_tryCatch (st_bind (st_pure _) (st_pure _))
  · dsimp only
    rw [if_neg (by rw [builtin_beq_none]; exact Bool.false_ne_true)]
    exact st_bind (st_hashCall k t) (st_pure _)
theorem st_hash (k : Int) (t : Tok) : Str' X 5 (pyHash (.int k t)) s (hashInt k) { s with toks := s.toks + 1 } := by
  have hr := rawHash_range k
  unfold pyHash
  show Str' X 5 (pyHashByItsType (.int k t)) _ _ _
  unfold pyHashByItsType
  refine st_le (N := 0 + (0 + (0 + (5 + 0)))) ?_
  refine st_bind (a := ()) (s' := s) (st_of_eq (cRoomFor_of_value rfl) (st_pure ())) ?_
  rw [specialOf_int]
  refine st_bind (st_pure _) ?_
  show Str' X _ (if (some (Value.builtin "int.__hash__") == some Value.none) = true then _ else _) _ _ _
  rw [if_neg (by rw [beq_builtin_none]; exact Bool.false_ne_true)]
  refine st_bind (st_pure _) ?_
  show Str' X _ (callSpecialIfBoundUnlessNone? (.int k t) "__hash__" _ >>= _) _ _ _
  refine st_bind (st_bound k t _) ?_
  show Str' X _ (if (decide (-(2 : Int) ^ 63 ≤ rawHash k) && decide (rawHash k < 2 ^ 63)) = true then _ else _) _ _ _
  rw [if_pos (by rw [decide_eq_true hr.1, decide_eq_true hr.2]; rfl)]
  exact st_pure _
-- a dict of int keys
noncomputable abbrev dObj (es : Array DictEntry) (n : Nat) : Obj := ⟨.type "dict", none, .dict es n, #[]⟩
theorem st_entries {d : Addr} {es : Array DictEntry} {n : Nat} (part : Option Value) (ho : s.heap.get? d = some (dObj es n)) : Str' X 1 (dictEntries d part) s es s := by
  unfold dictEntries
  exact st_bind (N := 1) (N' := 0) (st_load part ho) (st_pure _)
theorem st_epoch {d : Addr} {es : Array DictEntry} {n : Nat} (part : Option Value) (ho : s.heap.get? d = some (dObj es n)) : Str' X 1 (dictEpoch d part) s n s := by
  unfold dictEpoch
  exact st_bind (N := 1) (N' := 0) (st_load part ho) (st_pure _)
end

theorem get_of_objs {h : Heap} {d : Addr} {es : Array DictEntry} {n : Nat} (ho : h.objs[d]? = some (dObj es n)) : h.get? d = some (dObj es n) := by
  unfold Heap.get?; rw [ho]
structure HB (d : Addr) (h h' : Heap) : Prop where
  life : h'.life = h.life
  size : h'.objs.size = h.objs.size
  same : ∀ b, b ≠ d → h'.objs[b]? = h.objs[b]?
theorem HB.refl (d : Addr) (h : Heap) : HB d h h := ⟨rfl, rfl, fun _ _ => rfl⟩
theorem HB.trans {d : Addr} {h h' h'' : Heap} (x : HB d h h') (y : HB d h' h'') : HB d h h'' := ⟨y.life.trans x.life, y.size.trans x.size, fun b hb => (y.same b hb).trans (x.same b hb)⟩
theorem HB.upd (d : Addr) (h : Heap) (f : Obj → Obj) : HB d h (h.update d f) := by
  obtain ⟨objs, l⟩ := h
  refine ⟨rfl, by simp [Heap.update], fun b hb => ?_⟩
  show (objs.modify d f)[b]? = objs[b]?
  rw [Array.getElem?_modify]
  simp [Ne.symm hb]
theorem upd_at {h : Heap} {d : Addr} {o : Obj} (f : Obj → Obj) (ho : h.objs[d]? = some o) : (h.update d f).objs[d]? = some (f o) := by
  obtain ⟨objs, l⟩ := h
  show (objs.modify d f)[d]? = _
  rw [Array.getElem?_modify]
  simp [show objs[d]? = some o from ho]

section
variable {X : Cx} {s : Shared}
theorem st_push {d : Addr} {es : Array DictEntry} {n : Nat} (e : DictEntry) (part : Option Value) (ho : s.heap.objs[d]? = some (dObj es n)) (hn : X.n₀ ≤ d) (hsz : es.size + 1 ≤ sizeLine) :
    ∃ h', Str' X 3 (updateDictKeys d (·.push e) part) s () { s with heap := h' } ∧ h'.objs[d]? = some (dObj (es.push e) (n + 1)) ∧ HB d s.heap h' := by
  refine ⟨s.heap.update d (Obj.mapDictKeys (·.push e)), ?_, upd_at _ ho, HB.upd ..⟩
  have h1 : (s.heap.update d (Obj.mapDictKeys (·.push e))).objs[d]? = some (dObj (es.push e) (n + 1)) := upd_at _ ho
  unfold updateDictKeys
  refine st_le (N := 1 + (1 + (1 + 0))) ?_
  refine st_bind (st_load part (get_of_objs ho)) ?_
  dsimp only
  refine st_bind (st_update part (get_of_objs ho) hn) ?_
  unfold lookBehind
  refine st_bind (st_load part (get_of_objs h1)) ?_
  have e0 : (dObj (es.push e) (n + 1)).data.pastItsLine = none := by
    have q : ¬ ((es.push e).size > sizeLine + 1) := by rw [Array.size_push]; lia
    simp only [Data.pastItsLine, q, if_false]
  rw [e0]
  exact st_pure _
theorem st_findNone {d : Addr} {es : Array DictEntry} {n : Nat} {k : Int} (t : Tok) (ho : s.heap.objs[d]? = some (dObj es n)) (hk : ∀ e ∈ es, e.hash ≠ hashInt k) :
    Str' X 1 (dictFind d (.int k t) (hashInt k)) s none s := by
  have hp : placesWithHash es.size (fun i => es[i]?.map (·.hash)) (hashInt k) = [] := by
    unfold placesWithHash
    rw [List.filter_eq_nil_iff]
    intro i hi
    have hi := List.mem_range.mp hi
    show ¬ ((es[i]?.map (·.hash)) == some (hashInt k)) = true
    rw [Array.getElem?_eq_getElem hi]
    simpa using hk _ (Array.getElem_mem hi)
  unfold dictFind
  refine st_holding (st_le (N := 1 + (0 + 0)) (st_bind (st_entries _ (get_of_objs ho)) ?_))
  dsimp only
  rw [hp]
  show Str' X _ (dictWalkPlain d (.int k t) (hashInt k) es []) _ _ _
  unfold dictWalkPlain
  exact st_bind (a := (none, ())) (st_pure _) (st_pure _)
theorem st_set {d : Addr} {es : Array DictEntry} {n : Nat} {k : Int} (t : Tok) (v : Value) (ho : s.heap.objs[d]? = some (dObj es n)) (hk : ∀ e ∈ es, e.hash ≠ hashInt k) (hn : X.n₀ ≤ d) (hsz : es.size + 1 ≤ sizeLine) :
    ∃ h', Str' X 10 (dictSet d (.int k t) v) s () { s with heap := h', toks := s.toks + 1 } ∧ h'.objs[d]? = some (dObj (es.push ⟨hashInt k, .int k t, v⟩) (n + 1)) ∧ HB d s.heap h' := by
  obtain ⟨h', h1, h2, h3⟩ := st_push (X := X) (s := { s with toks := s.toks + 1 }) ⟨hashInt k, .int k t, v⟩ (keyPart (.int k t)) ho hn hsz
  refine ⟨h', ?_, h2, h3⟩
  unfold dictSet
  refine st_holding (st_le (N := 5 + (1 + (1 + 3))) (st_bind (st_hash k t) ?_))
  unfold dictSetHashed
  refine st_holding (st_bind (st_findNone t ho hk) ?_)
  exact st_bind (st_rule _) h1
theorem st_put {d : Addr} {es : Array DictEntry} {n : Nat} {k : Int} (t : Tok) (v : Value) (ho : s.heap.objs[d]? = some (dObj es n)) (hk : ∀ e ∈ es, e.hash ≠ hashInt k) (hn : X.n₀ ≤ d) (hsz : es.size + 1 ≤ sizeLine) :
    ∃ h', Str' X 4 (dictPut d (hashInt k) (.int k t) v) s () { s with heap := h' } ∧ h'.objs[d]? = some (dObj (es.push ⟨hashInt k, .int k t, v⟩) (n + 1)) ∧ HB d s.heap h' := by
  obtain ⟨h', h1, h2, h3⟩ := st_push (X := X) (s := s) ⟨hashInt k, .int k t, v⟩ none ho hn hsz
  refine ⟨h', ?_, h2, h3⟩
  unfold dictPut
  exact st_bind (N := 1) (N' := 3) (st_findNone t ho hk) h1
end

-- entries that bear pairs
def Ent (p : Int × Str) (e : DictEntry) : Prop := ∃ t t', e = ⟨hashInt p.1, .int p.1 t, .str p.2 t'⟩
def Ents : List (Int × Str) → List DictEntry → Prop
  | [], [] => True
  | p :: l, e :: es => Ent p e ∧ Ents l es
  | _, _ => False
theorem Ents.length : ∀ {l : List (Int × Str)} {es : List DictEntry}, Ents l es → es.length = l.length
  | [], [], _ => rfl
  | p :: l, e :: es, h => by rw [List.length_cons, List.length_cons, Ents.length h.2]
  | [], _ :: _, h => h.elim
  | _ :: _, [], h => h.elim
theorem Ents.snoc {p : Int × Str} {e : DictEntry} : ∀ {l : List (Int × Str)} {es : List DictEntry}, Ents l es → Ent p e → Ents (l ++ [p]) (es ++ [e])
  | [], [], _, x => ⟨x, trivial⟩
  | q :: l, f :: es, h, x => ⟨h.1, Ents.snoc h.2 x⟩
  | [], _ :: _, h, _ => h.elim
  | _ :: _, [], h, _ => h.elim
theorem Ents.mem : ∀ {l : List (Int × Str)} {es : List DictEntry}, Ents l es → ∀ e ∈ es, ∃ p ∈ l, Ent p e
  | [], [], _, e, he => nomatch he
  | q :: l, f :: es, h, e, he => by
    rcases List.mem_cons.mp he with rfl | he
    · exact ⟨q, List.mem_cons_self, h.1⟩
    · obtain ⟨p, hp, x⟩ := Ents.mem h.2 e he
      exact ⟨p, List.mem_cons_of_mem _ hp, x⟩
  | [], _ :: _, h, _, _ => h.elim
  | _ :: _, [], h, _, _ => h.elim
-- keys apart: the hash of each is no earlier one's
def Apart (l : List (Int × Str)) : Prop := l.Pairwise fun a b => hashInt a.1 ≠ hashInt b.1

structure Bears (h : Heap) (d : Addr) (l : List (Int × Str)) : Prop where
  at_ : ∃ es n, h.objs[d]? = some (dObj es n) ∧ Ents l es.toList
theorem Bears.noKey {l : List (Int × Str)} {es : Array DictEntry} (h : Ents l es.toList) {p : Int × Str} (hp : ∀ a ∈ l, hashInt a.1 ≠ hashInt p.1) : ∀ e ∈ es, e.hash ≠ hashInt p.1 := fun e he => by
  obtain ⟨q, hq, t, t', rfl⟩ := h.mem e (Array.mem_toList_iff.mpr he)
  exact hp q hq

section
variable {X : Cx} {s : Shared}
theorem st_setB {d : Addr} {l : List (Int × Str)} {p : Int × Str} (t t' : Tok) (B : Bears s.heap d l) (hp : ∀ a ∈ l, hashInt a.1 ≠ hashInt p.1) (hn : X.n₀ ≤ d) (hsz : l.length + 1 ≤ sizeLine) :
    ∃ h', Str' X 10 (dictSet d (.int p.1 t) (.str p.2 t')) s () { s with heap := h', toks := s.toks + 1 } ∧ Bears h' d (l ++ [p]) ∧ HB d s.heap h' := by
  obtain ⟨es, n, ho, he⟩ := B.at_
  obtain ⟨h', h1, h2, h3⟩ := st_set (X := X) t (.str p.2 t') ho (Bears.noKey he hp) hn (by rw [← Array.length_toList, he.length]; exact hsz)
  exact ⟨h', h1, ⟨_, _, h2, by rw [Array.toList_push]; exact he.snoc ⟨t, t', rfl⟩⟩, h3⟩
theorem st_putB {d : Addr} {l : List (Int × Str)} {p : Int × Str} (t t' : Tok) (B : Bears s.heap d l) (hp : ∀ a ∈ l, hashInt a.1 ≠ hashInt p.1) (hn : X.n₀ ≤ d) (hsz : l.length + 1 ≤ sizeLine) :
    ∃ h', Str' X 4 (dictPut d (hashInt p.1) (.int p.1 t) (.str p.2 t')) s () { s with heap := h' } ∧ Bears h' d (l ++ [p]) ∧ HB d s.heap h' := by
  obtain ⟨es, n, ho, he⟩ := B.at_
  obtain ⟨h', h1, h2, h3⟩ := st_put (X := X) t (.str p.2 t') ho (Bears.noKey he hp) hn (by rw [← Array.length_toList, he.length]; exact hsz)
  exact ⟨h', h1, ⟨_, _, h2, by rw [Array.toList_push]; exact he.snoc ⟨t, t', rfl⟩⟩, h3⟩
-- the trees of a display's items
noncomputable def kT (p : Int × Str) : Sem Value := mkInt p.1
noncomputable def vT (pos : PySem.Pos) (p : Int × Str) : Sem Value := do let x ← mkText p.2; standAt pos; pure x
theorem st_kT (p : Int × Str) : Str' X 1 (kT p) s (.int p.1 s.toks) { s with toks := s.toks + 1 } := st_bind (N := 1) (N' := 0) st_fresh (st_pure _)
theorem st_vT (pos : PySem.Pos) (p : Int × Str) : Str' X 2 (vT pos p) s (.str p.2 s.toks) { s with toks := s.toks + 1 } := st_le (st_bind (st_bind st_fresh (st_pure _)) (st_bind (st_at _) (st_pure _)))
noncomputable def itemT (pos : PySem.Pos) (p : Int × Str) : Sem Value × Sem Value := (kT p, vT pos p)

theorem st_long {d : Addr} (pos : PySem.Pos) (hn : X.n₀ ≤ d) : ∀ (r l : List (Int × Str)) (s : Shared), Bears s.heap d l → Apart (l ++ r) → l.length + r.length ≤ sizeLine →
    ∃ h', Str' X (13 * r.length) (forIn (r.map (itemT pos)) PUnit.unit fun (x : Sem Value × Sem Value) (_ : PUnit) => (do
        let kv ← x.1; let vv ← holding [kv] x.2; holding [kv, vv] (dictSet d kv vv); pure (ForInStep.yield PUnit.unit) : Sem (ForInStep PUnit))) s PUnit.unit
        { s with heap := h', toks := s.toks + 3 * r.length } ∧ Bears h' d (l ++ r) ∧ HB d s.heap h'
  | [], l, s, B, _, _ => ⟨s.heap, st_pure _, by simpa using B, HB.refl ..⟩
  | p :: r, l, s, B, ha, hz => by
    rw [List.length_cons] at hz
    obtain ⟨h₁, a1, a2, a3⟩ := st_setB (X := X) (s := { s with toks := s.toks + 1 + 1 }) s.toks (s.toks + 1) B (p := p) (fun a hal => (List.pairwise_append.mp ha).2.2 a hal p List.mem_cons_self) hn (by lia)
    obtain ⟨h₂, b1, b2, b3⟩ := st_long pos hn r (l ++ [p]) { s with heap := h₁, toks := s.toks + 1 + 1 + 1 } a2 (by simpa using ha) (by simp; lia)
    refine ⟨h₂, ?_, by simpa using b2, a3.trans b3⟩
    rw [List.map_cons, List.forIn_cons]
    refine st_le (N := 1 + (2 + (10 + 0)) + 13 * r.length) ?_ (by rw [List.length_cons]; lia)
    refine st_bind (a := .yield PUnit.unit) (st_bind (st_kT p) (st_bind (st_holding (st_vT pos p)) (st_bind (st_holding a1) (st_pure _)))) ?_
    have e : s.toks + 3 * (p :: r).length = s.toks + 1 + 1 + 1 + 3 * r.length := by rw [List.length_cons]; lia
    rw [e]
    exact b1
theorem st_short {d : Addr} (hn : X.n₀ ≤ d) : ∀ (r : List ((Int × Str) × Tok × Tok)) (l : List (Int × Str)) (s : Shared), Bears s.heap d l → Apart (l ++ r.map (·.1)) → l.length + r.length ≤ sizeLine →
    ∃ h', Str' X (10 * r.length) (forIn (r.map fun x => (Value.int x.1.1 x.2.1, Value.str x.1.2 x.2.2)) PUnit.unit fun (x : Value × Value) (_ : PUnit) => (do
        dictSet d x.1 x.2; pure (ForInStep.yield PUnit.unit) : Sem (ForInStep PUnit))) s PUnit.unit
        { s with heap := h', toks := s.toks + r.length } ∧ Bears h' d (l ++ r.map (·.1)) ∧ HB d s.heap h'
  | [], l, s, B, _, _ => ⟨s.heap, st_pure _, by simpa using B, HB.refl ..⟩
  | (p, t, t') :: r, l, s, B, ha, hz => by
    rw [List.length_cons] at hz
    obtain ⟨h₁, a1, a2, a3⟩ := st_setB (X := X) (s := s) t t' B (p := p) (fun a hal => (List.pairwise_append.mp ha).2.2 a hal p List.mem_cons_self) hn (by lia)
    obtain ⟨h₂, b1, b2, b3⟩ := st_short hn r (l ++ [p]) { s with heap := h₁, toks := s.toks + 1 } a2 (by simpa using ha) (by simp; lia)
    refine ⟨h₂, ?_, by simpa using b2, a3.trans b3⟩
    rw [List.map_cons, List.forIn_cons]
    refine st_le (N := 10 + 0 + 10 * r.length) ?_ (by rw [List.length_cons]; lia)
    refine st_bind (a := .yield PUnit.unit) (st_bind a1 (st_pure _)) ?_
    have e : s.toks + ((p, t, t') :: r).length = s.toks + 1 + r.length := by rw [List.length_cons]; lia
    rw [e]
    exact b1
theorem st_pairs (pos : PySem.Pos) : ∀ (r : List (Int × Str)) (s : Shared), ∃ x : List ((Int × Str) × Tok × Tok), x.map (·.1) = r ∧
    Str' X (3 * r.length) (evalPairs (r.map (itemT pos))) s (x.map fun x => (Value.int x.1.1 x.2.1, Value.str x.1.2 x.2.2)) { s with toks := s.toks + 2 * r.length }
  | [], s => ⟨[], rfl, st_pure _⟩
  | p :: r, s => by
    obtain ⟨x, hx, h⟩ := st_pairs pos r { s with toks := s.toks + 1 + 1 }
    refine ⟨(p, s.toks, s.toks + 1) :: x, by rw [List.map_cons, hx], ?_⟩
    rw [List.map_cons]
    refine st_le (N := 1 + (2 + (3 * r.length + 0))) ?_ (by rw [List.length_cons]; lia)
    show Str' X _ (do let kv ← kT p; let vv ← holding [kv] (vT pos p); return (kv, vv) :: (← holding [kv, vv] (evalPairs (r.map (itemT pos))))) _ _ _
    have e : s.toks + 2 * (p :: r).length = s.toks + 1 + 1 + 2 * r.length := by rw [List.length_cons]; lia
    rw [e]
    exact st_bind (st_kT p) (st_bind (st_holding (st_vT pos p)) (st_bind (st_holding h) (st_pure _)))
theorem Bears.new (h : Heap) : Bears (h.push { cls := .type "dict", data := .dict #[] }) h.objs.size [] := ⟨#[], 0, by
  obtain ⟨objs, l⟩ := h
  show (objs.push _)[objs.size]? = _
  rw [Array.getElem?_push_size], trivial⟩
theorem st_sub (pos : PySem.Pos) (r : List (Int × Str)) (hn : X.n₀ ≤ s.heap.objs.size) (ha : Apart r) (hz : r.length ≤ sizeLine) :
    ∃ h', Str' X (2 + 13 * r.length) (subDict (r.map (itemT pos))) s s.heap.objs.size { s with heap := h', toks := s.toks + 3 * r.length } ∧ Bears h' s.heap.objs.size r ∧
      HB s.heap.objs.size (s.heap.push { cls := .type "dict", data := .dict #[] }) h' := by
  unfold subDict
  by_cases hl : r.length ≤ 15
  · obtain ⟨x, hx, h⟩ := st_pairs (X := X) pos r { s with heap := s.heap.push { cls := .type "dict", data := .dict #[] } }
    have hxl : x.length = r.length := by rw [← hx, List.length_map]
    obtain ⟨h', b1, b2, b3⟩ := st_short (X := X) (d := s.heap.objs.size) hn x [] { s with heap := s.heap.push { cls := .type "dict", data := .dict #[] }, toks := s.toks + 2 * r.length } (Bears.new _) (by rw [hx]; exact ha) (by simp; lia)
    refine ⟨h', st_le (N := 1 + (3 * r.length + (10 * x.length + 0) + 0)) (st_bind (st_alloc _) (st_bind (st_holding (a := ()) ?_) (st_pure _))), by rw [hx] at b2; exact b2, b3⟩
    rw [List.length_map, if_pos hl]
    refine st_bind h (st_holding ?_)
    refine st_bind b1 ?_
    have e : s.toks + 2 * r.length + x.length = s.toks + 3 * r.length := by lia
    rw [show ({ s with heap := h', toks := s.toks + 2 * r.length + x.length } : Shared) = { s with heap := h', toks := s.toks + 3 * r.length } by rw [e]]
    exact st_pure _
  · obtain ⟨h', b1, b2, b3⟩ := st_long (X := X) (d := s.heap.objs.size) pos hn r [] { s with heap := s.heap.push { cls := .type "dict", data := .dict #[] } } (Bears.new _) ha (by simp; lia)
    refine ⟨h', st_le (N := 1 + (1 + (13 * r.length + 0) + 0)) (st_bind (st_alloc _) (st_bind (st_holding (a := ()) ?_) (st_pure _))), b2, b3⟩
    rw [List.length_map, if_neg hl]
    exact st_bind (st_rule _) (st_bind b1 (st_pure _))
end

theorem specialOf_dictIter {X : Cx} {s : Shared} {a : Addr} {es : Array DictEntry} {n : Nat} (ho : s.heap.get? a = some (dObj es n)) : Str' X 1 (specialOf (.ref a) "__iter__") s (some (.builtin "dict.__iter__")) s := by
  unfold specialOf
  refine st_bind (N := 1) (a := .type "dict") (s' := s) ?_ (st_of_eq PySem.F.slot_dict_iter.lookup (st_pure _))
  unfold typeOf
  exact st_bind (N := 1) (N' := 0) (st_load _ ho) (st_pure _)
theorem isInst_dict {X : Cx} {s : Shared} {a : Addr} {es : Array DictEntry} {n : Nat} (ho : s.heap.get? a = some (dObj es n)) : Str' X 1 (isInstance (.ref a) (.type "dict")) s true s := by
  unfold isInstance
  refine st_bind (N := 1) (a := .type "dict") (s' := s) ?_ (st_of_eq (by rw [isSubtype_type]; kernel_rfl) (st_pure _))
  unfold typeOf
  exact st_bind (N := 1) (N' := 0) (st_load _ ho) (st_pure _)

section
variable {X : Cx}
theorem st_mergeLoop {d a : Addr} {es : Array DictEntry} {n : Nat} {r : List (Int × Str)} (hda : a ≠ d) (hn : X.n₀ ≤ d) (he : Ents r es.toList) : ∀ (k i : Nat) (l : List (Int × Str)) (s : Shared), i + k = r.length → s.heap.objs[a]? = some (dObj es n) → Bears s.heap d (l ++ r.take i) →
    Apart (l ++ r) → l.length + r.length ≤ sizeLine →
    ∃ h', Str' X (6 * k) (forIn (List.range' i k) PUnit.unit fun (i : Nat) (_ : PUnit) => (do
        let es' ← dictEntries a
        match es'[i]? with
        | some e => do
          holding [e.key, e.val] (dictPut d e.hash e.key e.val)
          let ep ← dictEpoch a
          if (ep != n) = true then do
            unsupported "dict.changed-during-merge"
            pure (ForInStep.yield PUnit.unit)
          else pure (ForInStep.yield PUnit.unit)
        | x => do
          unsupported "dict.changed-during-merge"
          pure (ForInStep.yield PUnit.unit) : Sem (ForInStep PUnit))) s PUnit.unit { s with heap := h' } ∧ Bears h' d (l ++ r) ∧ HB d s.heap h'
  | 0, i, l, s, hi, ha, B, hap, hz => ⟨s.heap, st_pure _, by rw [List.take_of_length_le (by lia)] at B; exact B, HB.refl ..⟩
  | k + 1, i, l, s, hi, ha, B, hap, hz => by
    have hlt : i < r.length := by lia
    have hlt' : i < es.size := by rw [← Array.length_toList, he.length]; exact hlt
    have hE : Ent r[i] es[i] := by
      have : ∀ (r : List (Int × Str)) (es : List DictEntry) (i : Nat) (h1 : i < r.length) (h2 : i < es.length), Ents r es → Ent r[i] es[i] := by
        intro r
        induction r with
        | nil => intro es i h1; exact absurd h1 (Nat.not_lt_zero _)
        | cons p r ih =>
          intro es i h1 h2 he
          cases es with
          | nil => exact absurd h2 (Nat.not_lt_zero _)
          | cons e es =>
            cases i with
            | zero => exact he.1
            | succ i => exact ih es i (by simpa using h1) (by simpa using h2) he.2
      exact this r es.toList i hlt (by rw [Array.length_toList]; exact hlt') he
    obtain ⟨t, t', hE⟩ := hE
    have hnew : ∀ a ∈ l ++ r.take i, hashInt a.1 ≠ hashInt (r[i]).1 := by
      intro q hq
      have h1 : l ++ r = (l ++ r.take i) ++ (r[i] :: r.drop (i + 1)) := by
        rw [List.append_assoc, List.getElem_cons_drop hlt, List.take_append_drop]
      rw [h1] at hap
      exact (List.pairwise_append.mp hap).2.2 q hq _ List.mem_cons_self
    obtain ⟨h₁, a1, a2, a3⟩ := st_putB (X := X) (s := s) t t' B (p := r[i]) hnew hn (by simp; lia)
    have ha1 : h₁.objs[a]? = some (dObj es n) := (a3.same a hda).trans ha
    obtain ⟨h₂, b1, b2, b3⟩ := st_mergeLoop hda hn he k (i + 1) l { s with heap := h₁ } (by lia) ha1 (by
      rw [List.append_assoc] at a2
      rw [List.take_add_one, List.getElem?_eq_getElem hlt]
      exact a2) hap hz
    refine ⟨h₂, ?_, b2, a3.trans b3⟩
    rw [List.range'_succ, List.forIn_cons]
    refine st_le (N := 1 + (4 + (1 + 0)) + 6 * k) ?_
    refine st_bind (a := .yield PUnit.unit) (s' := { s with heap := h₁ }) ?_ ?_
    rotate_left
    · exact b1
    refine st_bind (st_entries _ (get_of_objs ha)) ?_
    rw [Array.getElem?_eq_getElem hlt', hE]
    dsimp only
    refine st_bind (st_holding a1) ?_
    refine st_bind (st_epoch _ (get_of_objs ha1)) ?_
    rw [if_neg (by simp)]
    exact st_pure _
theorem st_merge {s : Shared} {d a : Addr} {l r : List (Int × Str)} (hda : a ≠ d) (hn : X.n₀ ≤ d) (hl : l ≠ []) (hm : a ≠ sysModules) (B : Bears s.heap d l) (C : Bears s.heap a r) (hap : Apart (l ++ r)) (hz : l.length + r.length ≤ sizeLine) :
    ∃ h', Str' X (5 + 6 * r.length) (mergeMapping d (.ref a) false) s () { s with heap := h' } ∧ Bears h' d (l ++ r) ∧ HB d s.heap h' := by
  obtain ⟨es, n, ho, he⟩ := C.at_
  obtain ⟨es0, n0, ho0, he0⟩ := B.at_
  obtain ⟨h', b1, b2, b3⟩ := st_mergeLoop (X := X) hda hn he r.length 0 l s (by lia) ho (by simpa using B) hap hz
  refine ⟨h', ?_, b2, b3⟩
  unfold mergeMapping
  refine st_le (N := 1 + (1 + (0 + (1 + (1 + (1 + (6 * r.length + 0))))))) ?_
  refine st_bind (isInst_dict (get_of_objs ho)) ?_
  dsimp only
  rw [if_pos rfl]
  refine st_bind (specialOf_dictIter (get_of_objs ho)) ?_
  refine st_bind (a := true) (s' := s) (st_of_eq (by rfl) (st_pure _)) ?_
  dsimp only
  rw [if_neg (by simpa using hm)]
  refine st_bind (st_entries _ (get_of_objs ho0)) ?_
  have hne : es0.isEmpty = false := by
    rw [Array.isEmpty_eq_false_iff]
    intro e
    rw [e] at he0
    cases l with
    | nil => exact hl rfl
    | cons _ _ => exact he0.elim
  rw [hne, if_neg Bool.false_ne_true]
  refine st_bind (st_entries _ (get_of_objs ho)) ?_
  refine st_bind (st_epoch _ (get_of_objs ho)) ?_
  rw [List.range_eq_range', show es.size = r.length by rw [← Array.length_toList, he.length]]
  refine st_bind (a := PUnit.unit) ?_ (st_pure _)
  refine st_of_eq ?_ b1
  rfl
end

structure Made (h₀ h : Heap) (l : List (Int × Str)) (c : Nat) : Prop where
  bears : Bears h h₀.objs.size l
  life : h.life = h₀.life
  size : h.objs.size = h₀.objs.size + c
  same : ∀ b, b < h₀.objs.size → h.objs[b]? = h₀.objs[b]?
theorem push_same (h : Heap) (o : Obj) : ∀ b, b < h.objs.size → (h.push o).objs[b]? = h.objs[b]? := fun b hb => by
  obtain ⟨objs, l⟩ := h
  show (objs.push o)[b]? = objs[b]?
  rw [Array.getElem?_push_lt hb, Array.getElem?_eq_getElem hb]
theorem push_size (h : Heap) (o : Obj) : (h.push o).objs.size = h.objs.size + 1 := by
  obtain ⟨objs, l⟩ := h; exact Array.size_push ..
theorem push_life (h : Heap) (o : Obj) : (h.push o).life = h.life := by
  obtain ⟨objs, l⟩ := h; rfl
abbrev Run := List (Sem Value × Sem Value)
noncomputable abbrev flushOf (run : Run) (main : Option Addr) : Sem (Option Addr) :=
    if run.isEmpty = true then pure main
    else
      match main with
      | none => do
        let __do_lift ← subDict run
        pure (some __do_lift)
      | some d => do
        let sub ← holding [Value.ref d] (subDict run)
        (holding [Value.ref d, Value.ref sub] (mergeMapping d (Value.ref sub) false)).onRaise fun x => do
            let _ ← holding [Value.ref d, x] (runValue (Code.builtin "proto.let_go" { }))
            pure ()
        pure (some d)
section
variable {X : Cx}
theorem st_flush0 {h₀ : Heap} {s : Shared} (pos : PySem.Pos) (r : List (Int × Str)) (hs : s.heap = h₀) (hn : X.n₀ ≤ h₀.objs.size) (hr : r ≠ []) (ha : Apart r) (hz : r.length ≤ sizeLine) :
    ∃ h', Str' X (2 + 13 * r.length) (flushOf (r.map (itemT pos)) none) s (some h₀.objs.size) { s with heap := h', toks := s.toks + 3 * r.length } ∧ Made h₀ h' r 1 := by
  subst hs
  obtain ⟨h', b1, b2, b3⟩ := st_sub (X := X) (s := s) pos r hn ha hz
  refine ⟨h', ?_, b2, b3.life.trans (push_life _ _), b3.size.trans (push_size _ _), fun b hb => (b3.same b (Nat.ne_of_lt hb)).trans (push_same _ _ b hb)⟩
  have e : (r.map (itemT pos)).isEmpty = false := by cases r with
    | nil => exact absurd rfl hr
    | cons _ _ => rfl
  unfold flushOf
  rw [e, if_neg Bool.false_ne_true]
  exact st_bind (N := 2 + 13 * r.length) (N' := 0) b1 (st_pure _)
theorem st_flush1 {h₀ : Heap} {s : Shared} {l : List (Int × Str)} {c : Nat} (pos : PySem.Pos) (r : List (Int × Str)) (M : Made h₀ s.heap l c) (hn : X.n₀ ≤ h₀.objs.size) (hc : 1 ≤ c) (hm : sysModules < h₀.objs.size) (hl : l ≠ []) (hr : r ≠ []) (ha : Apart (l ++ r)) (hz : l.length + r.length ≤ sizeLine) :
    ∃ h', Str' X (7 + 19 * r.length) (flushOf (r.map (itemT pos)) (some h₀.objs.size)) s (some h₀.objs.size) { s with heap := h', toks := s.toks + 3 * r.length } ∧ Made h₀ h' (l ++ r) (c + 1) := by
  have hsz := M.size
  obtain ⟨h₁, b1, b2, b3⟩ := st_sub (X := X) (s := s) pos r (by lia) (List.pairwise_append.mp ha).2.1 (by lia)
  have hne : s.heap.objs.size ≠ h₀.objs.size := by lia
  have hms : s.heap.objs.size ≠ sysModules := Nat.ne_of_gt (Nat.lt_of_lt_of_le hm (by rw [hsz]; exact Nat.le_add_right _ _))
  have B1 : Bears h₁ h₀.objs.size l := by
    obtain ⟨es, n, ho, he⟩ := M.bears.at_
    exact ⟨es, n, (b3.same _ (Ne.symm hne)).trans ((push_same _ _ _ (by lia)).trans ho), he⟩
  obtain ⟨h₂, c1, c2, c3⟩ := st_merge (X := X) (s := { s with heap := h₁, toks := s.toks + 3 * r.length }) (d := h₀.objs.size) (a := s.heap.objs.size) hne hn hl hms B1 b2 ha hz
  have q1 : h₂.objs.size = h₁.objs.size := c3.size
  have q2 : h₁.objs.size = s.heap.objs.size + 1 := b3.size.trans (push_size _ _)
  refine ⟨h₂, ?_, c2, c3.life.trans (b3.life.trans ((push_life _ _).trans M.life)), by lia, fun b hb => ?_⟩
  · have e : (r.map (itemT pos)).isEmpty = false := by cases r with
      | nil => exact absurd rfl hr
      | cons _ _ => rfl
    unfold flushOf
    rw [e, if_neg Bool.false_ne_true]
    exact st_le (st_bind (st_holding b1) (st_bind (st_onRaise (st_holding c1)) (st_pure _)))
  · have g1 : h₂.objs[b]? = h₁.objs[b]? := c3.same b (Nat.ne_of_lt hb)
    have g2 : h₁.objs[b]? = s.heap.objs[b]? := (b3.same b (Nat.ne_of_lt (by lia : b < s.heap.objs.size))).trans (push_same _ _ _ (by lia : b < s.heap.objs.size))
    exact g1.trans (g2.trans (M.same b hb))
noncomputable abbrev bodyOf (x : Option (Sem Value) × Sem Value) (st : Option Addr × Run) : Sem (ForInStep (Option Addr × Run)) :=
  match x with
  | (k, v) =>
    match k with
    | some k =>
      if ((st.2 ++ [(k, v)]).length == 17) = true then do
        let main ← flushOf (st.2 ++ [(k, v)]) st.1
        pure (ForInStep.yield (main, []))
      else pure (ForInStep.yield (st.1, st.2 ++ [(k, v)]))
    | none => unsupported "not here"
def Body (f : (Option (Sem Value) × Sem Value) → (Option Addr × Run) → Sem (ForInStep (Option Addr × Run))) : Prop := ∀ k v st, f (some k, v) st = bodyOf (some k, v) st
variable {f : (Option (Sem Value) × Sem Value) → (Option Addr × Run) → Sem (ForInStep (Option Addr × Run))}
noncomputable abbrev opt (x : Sem Value × Sem Value) : Option (Sem Value) × Sem Value := (some x.1, x.2)
theorem st_gather (hf : Body f) (mn : Option Addr) : ∀ (items run : Run) (rest : List (Option (Sem Value) × Sem Value)), run.length + items.length < 17 →
    forIn (items.map opt ++ rest) (mn, run) f = forIn rest (mn, run ++ items) f
  | [], run, rest, _ => by simp
  | p :: items, run, rest, h => by
    rw [List.length_cons] at h
    rw [List.map_cons, List.cons_append, List.forIn_cons]
    show (f (some p.1, p.2) (mn, run) >>= _) = _
    rw [hf]
    have e : ((run ++ [(p.1, p.2)]).length == 17) = false := by simp; lia
    show ((if ((run ++ [(p.1, p.2)]).length == 17) = true then _ else _) >>= _) = _
    rw [e, if_neg Bool.false_ne_true]
    show forIn (items.map opt ++ rest) (mn, run ++ [p]) f = _
    rw [st_gather hf mn items (run ++ [p]) rest (by simp; lia)]
    simp
theorem st_chunk (hf : Body f) (mn : Option Addr) (items : Run) (rest : List (Option (Sem Value) × Sem Value)) (h : items.length = 17) :
    forIn (items.map opt ++ rest) (mn, []) f = (flushOf items mn >>= fun m => forIn rest (m, []) f) := by
  obtain ⟨l, x, rfl⟩ : ∃ l x, items = l ++ [x] := ⟨items.dropLast, items.getLast (by intro e; rw [e] at h; cases h), (List.dropLast_concat_getLast _).symm⟩
  rw [List.map_append, List.append_assoc, st_gather hf mn l [] _ (by simp at h ⊢; lia)]
  rw [List.nil_append, List.map_cons, List.map_nil, List.cons_append, List.nil_append, List.forIn_cons]
  show (f (some x.1, x.2) (mn, l) >>= _) = _
  rw [hf]
  show ((if ((l ++ [(x.1, x.2)]).length == 17) = true then _ else _) >>= _) = _
  rw [if_pos (by simpa using h)]
  show ((flushOf (l ++ [x]) mn >>= fun m => pure (ForInStep.yield (m, []))) >>= _) = _
  rw [bind_assoc]
  rfl
end

section
variable {X : Cx} {f : (Option (Sem Value) × Sem Value) → (Option Addr × Run) → Sem (ForInStep (Option Addr × Run))}
noncomputable abbrev itm (pos : PySem.Pos) (p : Int × Str) : Option (Sem Value) × Sem Value := opt (itemT pos p)
theorem map_itm (pos : PySem.Pos) (l : List (Int × Str)) : l.map (itm pos) = (l.map (itemT pos)).map opt := by rw [List.map_map]; rfl
theorem st_chunks {h₀ : Heap} (hf : Body f) (pos : PySem.Pos) (hn : X.n₀ ≤ h₀.objs.size) (hm : sysModules < h₀.objs.size) : ∀ (m : Nat) (acc l : List (Int × Str)) (c : Nat) (s : Shared), l.length < 17 * m + 17 → 17 * m ≤ l.length →
    Made h₀ s.heap acc c → 1 ≤ c → acc ≠ [] → Apart (acc ++ l) → acc.length + l.length ≤ sizeLine →
    ∃ h', Str' X (330 * m) (forIn (l.map (itm pos)) (some h₀.objs.size, []) f) s (some h₀.objs.size, (l.drop (17 * m)).map (itemT pos)) { s with heap := h', toks := s.toks + 3 * (17 * m) } ∧ Made h₀ h' (acc ++ l.take (17 * m)) (c + m)
  | 0, acc, l, c, s, h1, h2, M, hc, ha0, ha, hz => by
    refine ⟨s.heap, ?_, by simpa using M⟩
    have e := st_gather hf (some h₀.objs.size) (l.map (itemT pos)) [] [] (by simpa using h1)
    rw [List.append_nil, List.nil_append, ← map_itm] at e
    rw [e]
    exact st_pure _
  | m + 1, acc, l, c, s, h1, h2, M, hc, ha0, ha, hz => by
    have hl : l = l.take 17 ++ l.drop 17 := (List.take_append_drop 17 l).symm
    have ht : (l.take 17).length = 17 := by rw [List.length_take]; lia
    have hd : (l.drop 17).length = l.length - 17 := List.length_drop
    have hap : Apart (acc ++ l.take 17 ++ l.drop 17) := by rw [List.append_assoc, ← hl]; exact ha
    obtain ⟨h₁, a1, a2⟩ := st_flush1 (X := X) pos (l.take 17) M hn hc hm ha0 (by intro e; rw [e] at ht; cases ht) (List.pairwise_append.mp hap).1 (by lia)
    obtain ⟨h₂, b1, b2⟩ := st_chunks hf pos hn hm m (acc ++ l.take 17) (l.drop 17) (c + 1) { s with heap := h₁, toks := s.toks + 3 * (l.take 17).length } (by lia) (by lia) a2 (by lia) (by simp [ha0]) hap (by simp only [List.length_append]; lia)
    refine ⟨h₂, ?_, ?_⟩
    · have e := st_chunk hf (some h₀.objs.size) ((l.take 17).map (itemT pos)) ((l.drop 17).map (itm pos)) (by simpa using ht)
      rw [← map_itm, ← List.map_append, ← hl] at e
      rw [e]
      have e2 : s.toks + 3 * (17 * (m + 1)) = s.toks + 3 * (l.take 17).length + 3 * (17 * m) := by lia
      rw [e2, show 17 * (m + 1) = 17 + 17 * m by lia, ← List.drop_drop]
      exact st_le (st_bind a1 b1) (by rw [ht]; lia)
    · rw [show 17 * (m + 1) = 17 + 17 * m by lia, List.take_add, ← List.append_assoc, show c + (m + 1) = c + 1 + m by lia]
      exact b2
theorem st_display {s : Shared} (pos : PySem.Pos) (m : Nat) (l : List (Int × Str)) (h1 : 17 * m + 17 < l.length) (h2 : l.length < 17 * m + 34) (hn : X.n₀ ≤ s.heap.objs.size) (hm : sysModules < s.heap.objs.size) (ha : Apart l) (hz : l.length ≤ sizeLine) :
    ∃ h', Str' X (330 * m + 700) (dictDisplay (l.map (itm pos))) s (.ref s.heap.objs.size) { s with heap := h', toks := s.toks + 3 * l.length } ∧ Made s.heap h' l (m + 2) := by
  have hl : l = l.take 17 ++ l.drop 17 := (List.take_append_drop 17 l).symm
  have ht : (l.take 17).length = 17 := by rw [List.length_take]; lia
  have hd : (l.drop 17).length = l.length - 17 := List.length_drop
  have hap : Apart (l.take 17 ++ l.drop 17) := by rw [← hl]; exact ha
  obtain ⟨h₁, a1, a2⟩ := st_flush0 (X := X) (s := s) pos (l.take 17) rfl hn (by intro e; rw [e] at ht; cases ht) (List.pairwise_append.mp hap).1 (by lia)
  have ne : l.take 17 ≠ [] := by intro e; rw [e] at ht; cases ht
  have hd2 : ((l.drop 17).drop (17 * m)).length = l.length - 17 - 17 * m := by rw [List.length_drop, hd]
  have hl2 : l.take 17 ++ (l.drop 17).take (17 * m) ++ (l.drop 17).drop (17 * m) = l := by rw [List.append_assoc, List.take_append_drop, ← hl]
  have key : ∀ f, Body f → ∃ h₂, Str' X (223 + 330 * m) (forIn (l.map (itm pos)) (none, []) f) s (some s.heap.objs.size, ((l.drop 17).drop (17 * m)).map (itemT pos)) { s with heap := h₂, toks := s.toks + 3 * 17 + 3 * (17 * m) } ∧ Made s.heap h₂ (l.take 17 ++ (l.drop 17).take (17 * m)) (1 + m) := by
    intro f hf
    obtain ⟨h₂, b1, b2⟩ := st_chunks (X := X) (h₀ := s.heap) hf pos hn hm m (l.take 17) (l.drop 17) 1 { s with heap := h₁, toks := s.toks + 3 * (l.take 17).length } (by lia) (by lia) a2 (Nat.le_refl _) ne hap (by lia)
    refine ⟨h₂, ?_, b2⟩
    have e := st_chunk hf none ((l.take 17).map (itemT pos)) ((l.drop 17).map (itm pos)) (by simpa using ht)
    rw [← map_itm, ← List.map_append, ← hl] at e
    rw [e]
    have e3 : 3 * (l.take 17).length = 3 * 17 := by rw [ht]
    rw [e3] at a1 b1
    exact st_le (st_bind a1 b1) (by rw [ht]; lia)
  have lastOne : ∀ h₂, Made s.heap h₂ (l.take 17 ++ (l.drop 17).take (17 * m)) (1 + m) → ∃ h', Str' X 330 (flushOf (((l.drop 17).drop (17 * m)).map (itemT pos)) (some s.heap.objs.size)) { s with heap := h₂, toks := s.toks + 3 * 17 + 3 * (17 * m) } (some s.heap.objs.size) { s with heap := h', toks := s.toks + 3 * l.length } ∧ Made s.heap h' l (m + 2) := by
    intro h₂ M
    obtain ⟨h₃, c1, c2⟩ := st_flush1 (X := X) (s := { s with heap := h₂, toks := s.toks + 3 * 17 + 3 * (17 * m) }) pos ((l.drop 17).drop (17 * m)) M hn (by lia) hm (by simp [ne]) (by intro e; rw [e] at hd2; simp at hd2; lia) (by rw [hl2]; exact ha) (by
      have q := congrArg List.length hl2
      rw [List.length_append] at q
      lia)
    rw [hl2] at c2
    refine ⟨h₃, ?_, by rw [show m + 2 = 1 + m + 1 by lia]; exact c2⟩
    have e : s.toks + 3 * 17 + 3 * (17 * m) + 3 * ((l.drop 17).drop (17 * m)).length = s.toks + 3 * l.length := by rw [hd2]; lia
    rw [← e]
    exact st_le c1 (by rw [hd2]; lia)
  unfold dictDisplay
  dsimp only
  generalize hF : (fun (x : Option (Sem Value) × Sem Value) (st : Option Addr × Run) => _ : (Option (Sem Value) × Sem Value) → (Option Addr × Run) → Sem (ForInStep (Option Addr × Run))) = F
  have hf : Body F := by subst hF; intro k v st; rfl
  obtain ⟨h₂, b1, b2⟩ := key F hf
  obtain ⟨h₃, c1, c2⟩ := lastOne h₂ b2
  exact ⟨h₃, st_le (st_bind b1 (st_bind c1 (st_pure _))), c2⟩
end

def intC (e : Option PySem.Expr) : Option Int := match e with | some e => (match e with | .Constant c _ _ => (match c with | .int a => some a | _ => none) | _ => none) | none => none
def strC (e : PySem.Expr) : Option Str := match e with | .Constant c _ _ => (match c with | .str a => some a | _ => none) | _ => none
noncomputable def litPairs : List (Option PySem.Expr) → List PySem.Expr → Option (List (Int × Str))
  | [], vs => match vs with | [] => some [] | _ => none
  | k :: ks, vs => match vs with | [] => none | v :: vs => (intC k).bind fun a => (strC v).bind fun b => (litPairs ks vs).map fun l => (a, b) :: l
theorem intC_at {e : Option PySem.Expr} {a : Int} (h : intC e = some a) : ∃ kd p, e = some (.Constant (.int a) kd p) := by
  cases e with
  | none => cases h
  | some e =>
    cases e with
    | Constant c kd p =>
      cases c with
      | int b => cases h; exact ⟨kd, p, rfl⟩
      | _ => cases h
    | _ => cases h
theorem strC_at {e : PySem.Expr} {a : Str} (h : strC e = some a) : ∃ kd p, e = .Constant (.str a) kd p := by
  cases e with
  | Constant c kd p =>
    cases c with
    | str b => cases h; exact ⟨kd, p, rfl⟩
    | _ => cases h
  | _ => cases h
theorem litItems (env : Env) (pos : PySem.Pos) : ∀ (ks : List (Option PySem.Expr)) (vs : List PySem.Expr) (l : List (Int × Str)), litPairs ks vs = some l →
    (evalEachOpt ks env).zip ((evalEach vs env).map fun v => do let x ← v; standAt pos; pure x) = l.map (itm pos)
  | [], [], l, h => by cases h; rfl
  | [], _ :: _, l, h => nomatch h
  | _ :: _, [], l, h => nomatch h
  | k :: ks, v :: vs, l, h => by
    obtain ⟨a, h1, h2⟩ := Option.bind_eq_some_iff.mp (show ((intC k).bind fun a => (strC v).bind fun b => (litPairs ks vs).map fun l => (a, b) :: l) = some l from h)
    obtain ⟨b, h3, h4⟩ := Option.bind_eq_some_iff.mp h2
    obtain ⟨l', h5, rfl⟩ := Option.map_eq_some_iff.mp h4
    obtain ⟨kd, p, rfl⟩ := intC_at h1
    obtain ⟨kd', p', rfl⟩ := strC_at h3
    have := litItems env pos ks vs l' h5
    rw [List.map_cons, ← this]
    rfl
theorem st_Dict {X : Cx} {s : Shared} {env : Env} {ks : List (Option PySem.Expr)} {vs : List PySem.Expr} {pos : PySem.Pos} {l : List (Int × Str)} (m : Nat) (hl : litPairs ks vs = some l) (h1 : 17 * m + 17 < l.length) (h2 : l.length < 17 * m + 34)
    (hn : X.n₀ ≤ s.heap.objs.size) (hm : sysModules < s.heap.objs.size) (ha : Apart l) (hz : l.length ≤ sizeLine) :
    ∃ h', Str' X (330 * m + 701) (eval (.Dict ks vs pos) env) s (.ref s.heap.objs.size) { s with heap := h', toks := s.toks + 3 * l.length } ∧ Made s.heap h' l (m + 2) := by
  obtain ⟨h', a, b⟩ := st_display (X := X) (s := s) pos m l h1 h2 hn hm ha hz
  refine ⟨h', ?_, b⟩
  rw [arm_eval_Dict, litItems env pos ks vs l hl]
  exact st_le (st_bind (st_at _) a)
noncomputable def rising : Int → List (Int × Str) → Bool
  | _, [] => true
  | a, p :: l => decide (a < p.1) && decide (p.1 < 1000000000) && rising p.1 l
theorem hashInt_small {k : Int} (h0 : 0 ≤ k) (h1 : k < 1000000000) : hashInt k = k := by
  unfold hashInt rawHash
  have e : ((k.natAbs % (2 ^ 61 - 1 : Nat) : Nat) : Int) = k := by
    rw [Nat.mod_eq_of_lt (by lia)]; lia
  have e2 : ((k.natAbs : Int) % ((2 ^ 61 - 1 : Nat) : Int)) = k := by exact_mod_cast e
  simp only [e2]
  rw [if_neg (by lia : ¬ k < 0)]
  have ne : ¬ ((k == -1) = true) := by simp; lia
  rw [if_neg ne, if_neg ne]
theorem rising_all : ∀ (l : List (Int × Str)) (a : Int), rising a l = true → ∀ p ∈ l, a < p.1 ∧ p.1 < 1000000000
  | [], _, _, p, hp => nomatch hp
  | q :: l, a, h, p, hp => by
    simp only [rising, Bool.and_eq_true, decide_eq_true_eq] at h
    rcases List.mem_cons.mp hp with rfl | hp
    · exact h.1
    · have := rising_all l q.1 h.2 p hp
      exact ⟨by lia, this.2⟩
theorem apart_of_rising : ∀ (l : List (Int × Str)) (a : Int), -1 ≤ a → rising a l = true → Apart l
  | [], _, _, _ => List.Pairwise.nil
  | q :: l, a, h0, h => by
    simp only [rising, Bool.and_eq_true, decide_eq_true_eq] at h
    refine List.pairwise_cons.mpr ⟨fun p hp => ?_, apart_of_rising l q.1 (by lia) h.2⟩
    have := rising_all l q.1 h.2 p hp
    rw [hashInt_small (by lia) h.1.2, hashInt_small (by lia) this.2]
    lia
end Hs
namespace Hd1
noncomputable section
noncomputable abbrev pw : Program := PySem.Challenge.pw_re0177_01
noncomputable abbrev s (x : String) : Str := Str.ofString x
noncomputable def ke (P : Params) (x : Str) (t : Nat) (v : Value) : DictEntry := ⟨PyData.keyHash P x, .str x t, v⟩
noncomputable def bd (i : Nat) : Stmt := pw.main.body.getD i (.Pass ⟨0, 0, 0, 0⟩)
noncomputable def cBody : Stmt → List Stmt | .ClassDef _ _ _ b .. => b | _ => []
noncomputable def cd (i j : Nat) : Stmt := (cBody (bd i)).getD j (.Pass ⟨0, 0, 0, 0⟩)
noncomputable def fArgs : Stmt → Arguments | .FunctionDef _ a .. => a | _ => ⟨[], [], none, [], [], none, []⟩
noncomputable def fBody : Stmt → List Stmt | .FunctionDef _ _ b .. => b | _ => []
noncomputable def fScope : Stmt → Scope | .FunctionDef _ _ _ _ _ _ sc .. => sc | _ => ⟨.function, [], false, false, []⟩
noncomputable def life0 : Life := {}
noncomputable abbrev o0_0 (P : Params) : Obj := PySem.W.boot_o_0 P
noncomputable def o1_0 (P : Params) : Obj := ⟨(.type "dict"), none, .dict #[(ke P (s "builtins") 162 (.ref 4)), (ke P (s "__main__") 163 (.ref 5)), (ke P (s "_sre") 244 (.ref 12))] 3, #[]⟩
noncomputable def o2_0 (P : Params) : Obj := ⟨.none, none, .dict #[(ke P (s "im\x70ort.loaded._sre") 183 (.bool true)), (ke P (s "class._frozen_importlib.BuiltinImporter") 185 (.ref 14)), (ke P (s "watched.im\x70ort") 206 (.ref 18)), (ke P (s "class._frozen_importlib.ModuleSpec") 216 (.ref 22)), (ke P (s "sys.modules.booked-epoch") 245 (.int 3 0)), (ke P (s "im\x70ort.later-laid._sre") 270 (.bool true)), (ke P (s "watched.library") 272 (.ref 27)), (ke P (s "watched.library-objects") 0 (.str (s "\x0c") 0)), (ke P (s "watched.library-deep._sre") 273 (.str (s "\x04\x00\x00\x0b\x04\x00\x00\x0b\x04\x00\x00\x03\x04\x00\x00\x0b\x08\x04dict\x02") 0))] 9, #[]⟩
noncomputable def o3_0 (P : Params) : Obj := ⟨(.type "dict"), none, .dict #[(ke P (s "__name__") 165 (.str (s "__main__") 164)), (ke P (s "__doc__") 166 .none), (ke P (s "__package__") 167 .none), (ke P (s "__loader__") 168 (.builtin "__main__.__loader__#opaque")), (ke P (s "__spec__") 169 .none), (ke P (s "__annotations__") 170 (.ref 6)), (ke P (s "__builtins__") 171 (.ref 4)), (ke P (s "__file__") 173 (.str (s "/claim/cut.py") 172)), (ke P (s "__cached__") 174 .none), (ke P (s "_sre") 275 (.ref 12))] 10, #[]⟩
noncomputable def o4_0 (P : Params) : Obj := ⟨(.type "module"), (some 0), .plain, #[]⟩
noncomputable def o5_0 (P : Params) : Obj := ⟨(.type "module"), (some 3), .plain, #[]⟩
noncomputable def o6_0 (P : Params) : Obj := ⟨(.type "dict"), none, .dict #[] 0, #[]⟩
noncomputable def o7_0 (P : Params) : Obj := ⟨(.type "tuple"), none, .seq #[] 0, #[]⟩
noncomputable def o8_0 (P : Params) : Obj := ⟨.none, none, .fields #[], #[]⟩
noncomputable def o9_0 (P : Params) : Obj := ⟨(.type "code"), none, .fields #[(.str (s "<module>") 176), (.str (s "<module>") 177), (.str (s "/claim/cut.py") 178), (.int 1 0), (.int 0 0), (.int 0 0), (.int 0 0), (.int 0 0), (.ref 7), (.bool false), (.int 175 0), (.ref 8), .none, .none, .none, .none, (.int 179 0), (.int 1 0), (.str (s "/claim/cut.py") 180)], #[]⟩
noncomputable def o10_0 (P : Params) : Obj := ⟨(.type "frame"), none, .plain, #[(some (.ref 9)), (some (.ref 3)), (some (.ref 3)), none, (some (.str (s "__main__") 164)), none, (some (.ref 0))]⟩
noncomputable def o11_0 (P : Params) : Obj := ⟨(.type "dict"), none, .dict #[(ke P (s "__name__") 247 (.str (s "_sre") 246)), (ke P (s "__doc__") 248 .none), (ke P (s "__package__") 250 (.str (s "") 249)), (ke P (s "__loader__") 251 (.builtin "off-the-table:_sre.__loader__:shared#opaque")), (ke P (s "__spec__") 252 (.builtin "off-the-table:_sre.__spec__:shared#opaque")), (ke P (s "compile") 253 (.builtin "_sre.compile")), (ke P (s "template") 254 (.builtin "off-the-table:_sre.template:shared#opaque")), (ke P (s "getcodesize") 255 (.builtin "off-the-table:_sre.getcodesize:shared#opaque")), (ke P (s "ascii_iscased") 256 (.builtin "off-the-table:_sre.ascii_iscased:shared#opaque")), (ke P (s "unicode_iscased") 257 (.builtin "off-the-table:_sre.unicode_iscased:shared#opaque")), (ke P (s "ascii_tolower") 258 (.builtin "off-the-table:_sre.ascii_tolower:shared#opaque")), (ke P (s "unicode_tolower") 259 (.builtin "off-the-table:_sre.unicode_tolower:shared#opaque")), (ke P (s "MAGIC") 261 (.int 20230612 260)), (ke P (s "CODESIZE") 263 (.int 4 262)), (ke P (s "MAXREPEAT") 265 (.int 4294967295 264)), (ke P (s "MAXGROUPS") 267 (.int 1073741823 266)), (ke P (s "copyright") 269 (.str (s " SRE 2.2.2 Copyright (c) 1997-2002 by Secret Labs AB ") 268))] 17, #[]⟩
noncomputable def o12_0 (P : Params) : Obj := ⟨(.type "module"), (some 11), .plain, #[]⟩
noncomputable def o13_0 (P : Params) : Obj := ⟨(.type "dict"), none, .dict #[(ke P (s "__module__") 189 (.str (s "_frozen_importlib") 186)), (ke P (s "__firstlineno__") 190 (.int 971 187)), (ke P (s "__doc__") 191 (.builtin "_frozen_importlib.BuiltinImporter.__doc__:str#opaque")), (ke P (s "_ORIGIN") 192 (.str (s "built-in") 188)), (ke P (s "find_spec") 193 (.builtin "_frozen_importlib.BuiltinImporter.find_spec#opaque")), (ke P (s "create_module") 194 (.builtin "_frozen_importlib.BuiltinImporter.create_module#opaque")), (ke P (s "exec_module") 195 (.builtin "_frozen_importlib.BuiltinImporter.exec_module#opaque")), (ke P (s "get_code") 196 (.builtin "_frozen_importlib.BuiltinImporter.get_code#opaque")), (ke P (s "get_source") 197 (.builtin "_frozen_importlib.BuiltinImporter.get_source#opaque")), (ke P (s "is_package") 198 (.builtin "_frozen_importlib.BuiltinImporter.is_package#opaque")), (ke P (s "load_module") 199 (.builtin "_frozen_importlib.BuiltinImporter.load_module#opaque")), (ke P (s "__static_attributes__") 200 (.ref 15)), (ke P (s "__dict__") 202 (.ref 16)), (ke P (s "__weakref__") 204 (.ref 17))] 14, #[]⟩
noncomputable def o14_0 (P : Params) : Obj := ⟨(.type "type"), none, .cls ⟨(s "BuiltinImporter"), [(.type "object")], [(.ref 14), (.type "object")], 13, (s "BuiltinImporter"), true, [], [], false, none, false⟩, #[]⟩
noncomputable def o15_0 (P : Params) : Obj := ⟨(.type "tuple"), none, .seq #[] 0, #[]⟩
noncomputable def o16_0 (P : Params) : Obj := ⟨(.type "getset_descriptor"), none, .fields #[(.str (s "__dict__") 201), (.ref 14), (.builtin "function.__dict__"), (.builtin "function.__dict__#set")], #[]⟩
noncomputable def o17_0 (P : Params) : Obj := ⟨(.type "getset_descriptor"), none, .fields #[(.str (s "__weakref__") 203), (.ref 14), (.builtin "ExceptionGroup.__weakref__"), .none], #[]⟩
noncomputable def o18_0 (P : Params) : Obj := ⟨.none, none, .seq #[(.int 13 0), (.str (s "\x06½\n__module__\x06º\x11_frozen_importlib\x06¾\x0f__firstlineno__\x04»\x00ϋ\x06¿\x07__doc__\t4_frozen_importlib.BuiltinImporter.__doc__:str#opaque\x06À\x07_ORIGIN\x06¼\x08built-in\x06Á\tfind_spec\t2_frozen_importlib.BuiltinImporter.find_spec#opaque\x06Â\x0dcreate_module\t6_frozen_importlib.BuiltinImporter.create_module#opaque\x06Ã\x0bexec_module\t4_frozen_importlib.BuiltinImporter.exec_module#opaque\x06Ä\x08get_code\t1_frozen_importlib.BuiltinImporter.get_code#opaque\x06Å\nget_source\t3_frozen_importlib.BuiltinImporter.get_source#opaque\x06Æ\nis_package\t3_frozen_importlib.BuiltinImporter.is_package#opaque\x06Ç\x0bload_module\t4_frozen_importlib.BuiltinImporter.load_module#opaque\x06È\x15__static_attributes__\x04\x00\x00\x0f\x06Ê\x08__dict__\x04\x00\x00\x10\x06Ì\x0b__weakref__\x04\x00\x00\x11") 0), (.bool true), (.bool true), (.str (s "") 205), (.int 21 0), (.str (s "\x06ã\n__module__\x06Ù\x11_frozen_importlib\x06ä\x0f__firstlineno__\x04Ú\x00Ȳ\x06å\x07__doc__\t/_frozen_importlib.ModuleSpec.__doc__:str#opaque\x06æ\x08__init__\t,_frozen_importlib.ModuleSpec.__init__#opaque\x06ç\x08__repr__\t,_frozen_importlib.ModuleSpec.__repr__#opaque\x06è\x06__eq__\t*_frozen_importlib.ModuleSpec.__eq__#opaque\x06é\x06cached\t*_frozen_importlib.ModuleSpec.cached#opaque\x06ê\x06parent\t*_frozen_importlib.ModuleSpec.parent#opaque\x06ë\x0chas_location\t0_frozen_importlib.ModuleSpec.has_location#opaque\x06ì\x15__static_attributes__\x04\x00\x00\x17\x06î\x08__dict__\x04\x00\x00\x18\x06ð\x0b__weakref__\x04\x00\x00\x19\x06ñ\x08__hash__\x00") 0), (.bool true), (.bool true), (.str (s "") 242)] 1, #[]⟩
noncomputable def o19_0 (P : Params) : Obj := ⟨(.type "list"), none, .seq #[] 0, #[]⟩
noncomputable def o20_0 (P : Params) : Obj := ⟨(.type "dict"), none, .dict #[(ke P (s "name") 208 (.str (s "_sre") 207)), (ke P (s "loader") 209 (.ref 14)), (ke P (s "origin") 210 (.str (s "built-in") 184)), (ke P (s "loader_state") 211 .none), (ke P (s "submodule_search_locations") 212 .none), (ke P (s "_uninitialized_submodules") 213 (.ref 19)), (ke P (s "_set_fileattr") 214 (.bool false)), (ke P (s "_cached") 215 .none), (ke P (s "_initializing") 243 (.bool false))] 9, #[]⟩
noncomputable def o21_0 (P : Params) : Obj := ⟨(.type "dict"), none, .dict #[(ke P (s "__module__") 227 (.str (s "_frozen_importlib") 217)), (ke P (s "__firstlineno__") 228 (.int 562 218)), (ke P (s "__doc__") 229 (.builtin "_frozen_importlib.ModuleSpec.__doc__:str#opaque")), (ke P (s "__init__") 230 (.builtin "_frozen_importlib.ModuleSpec.__init__#opaque")), (ke P (s "__repr__") 231 (.builtin "_frozen_importlib.ModuleSpec.__repr__#opaque")), (ke P (s "__eq__") 232 (.builtin "_frozen_importlib.ModuleSpec.__eq__#opaque")), (ke P (s "cached") 233 (.builtin "_frozen_importlib.ModuleSpec.cached#opaque")), (ke P (s "parent") 234 (.builtin "_frozen_importlib.ModuleSpec.parent#opaque")), (ke P (s "has_location") 235 (.builtin "_frozen_importlib.ModuleSpec.has_location#opaque")), (ke P (s "__static_attributes__") 236 (.ref 23)), (ke P (s "__dict__") 238 (.ref 24)), (ke P (s "__weakref__") 240 (.ref 25)), (ke P (s "__hash__") 241 .none)] 13, #[]⟩
noncomputable def o22_0 (P : Params) : Obj := ⟨(.type "type"), none, .cls ⟨(s "ModuleSpec"), [(.type "object")], [(.ref 22), (.type "object")], 21, (s "ModuleSpec"), true, [], [], false, none, false⟩, #[]⟩
noncomputable def o23_0 (P : Params) : Obj := ⟨(.type "tuple"), none, .seq #[(.str (s "_cached") 219), (.str (s "_set_fileattr") 220), (.str (s "_uninitialized_submodules") 221), (.str (s "loader") 222), (.str (s "loader_state") 223), (.str (s "name") 224), (.str (s "origin") 225), (.str (s "submodule_search_locations") 226)] 0, #[]⟩
noncomputable def o24_0 (P : Params) : Obj := ⟨(.type "getset_descriptor"), none, .fields #[(.str (s "__dict__") 237), (.ref 22), (.builtin "function.__dict__"), (.builtin "function.__dict__#set")], #[]⟩
noncomputable def o25_0 (P : Params) : Obj := ⟨(.type "getset_descriptor"), none, .fields #[(.str (s "__weakref__") 239), (.ref 22), (.builtin "ExceptionGroup.__weakref__"), .none], #[]⟩
noncomputable def o26_0 (P : Params) : Obj := ⟨(.ref 22), (some 20), .plain, #[]⟩
noncomputable def o27_0 (P : Params) : Obj := ⟨.none, none, .seq #[(.int 11 0), (.str (Str.mk #[6, 247, 8, 95, 95, 110, 97, 109, 101, 95, 95, 6, 246, 4, 95, 115, 114, 101, 6, 248, 7, 95, 95, 100, 111, 99, 95, 95, 0, 6, 250, 11, 95, 95, 112, 97, 99, 107, 97, 103, 101, 95, 95, 6, 249, 0, 6, 251, 10, 95, 95, 108, 111, 97, 100, 101, 114, 95, 95, 4, 0, 0, 14, 6, 252, 8, 95, 95, 115, 112, 101, 99, 95, 95, 4, 0, 0, 26, 6, 253, 7, 99, 111, 109, 112, 105, 108, 101, 9, 12, 95, 115, 114, 101, 46, 99, 111, 109, 112, 105, 108, 101, 6, 254, 8, 116, 101, 109, 112, 108, 97, 116, 101, 9, 13, 95, 115, 114, 101, 46, 116, 101, 109, 112, 108, 97, 116, 101, 6, 255, 11, 103, 101, 116, 99, 111, 100, 101, 115, 105, 122, 101, 9, 16, 95, 115, 114, 101, 46, 103, 101, 116, 99, 111, 100, 101, 115, 105, 122, 101, 6, 256, 13, 97, 115, 99, 105, 105, 95, 105, 115, 99, 97, 115, 101, 100, 9, 18, 95, 115, 114, 101, 46, 97, 115, 99, 105, 105, 95, 105, 115, 99, 97, 115, 101, 100, 6, 257, 15, 117, 110, 105, 99, 111, 100, 101, 95, 105, 115, 99, 97, 115, 101, 100, 9, 20, 95, 115, 114, 101, 46, 117, 110, 105, 99, 111, 100, 101, 95, 105, 115, 99, 97, 115, 101, 100, 6, 258, 13, 97, 115, 99, 105, 105, 95, 116, 111, 108, 111, 119, 101, 114, 9, 18, 95, 115, 114, 101, 46, 97, 115, 99, 105, 105, 95, 116, 111, 108, 111, 119, 101, 114, 6, 259, 15, 117, 110, 105, 99, 111, 100, 101, 95, 116, 111, 108, 111, 119, 101, 114, 9, 20, 95, 115, 114, 101, 46, 117, 110, 105, 99, 111, 100, 101, 95, 116, 111, 108, 111, 119, 101, 114, 6, 261, 5, 77, 65, 71, 73, 67, 4, 260, 0, 20230612, 6, 263, 8, 67, 79, 68, 69, 83, 73, 90, 69, 4, 262, 0, 4, 6, 265, 9, 77, 65, 88, 82, 69, 80, 69, 65, 84, 4, 264, 0, 4294967295, 6, 267, 9, 77, 65, 88, 71, 82, 79, 85, 80, 83, 4, 266, 0, 1073741823, 6, 269, 9, 99, 111, 112, 121, 114, 105, 103, 104, 116, 6, 268, 53, 32, 83, 82, 69, 32, 50, 46, 50, 46, 50, 32, 67, 111, 112, 121, 114, 105, 103, 104, 116, 32, 40, 99, 41, 32, 49, 57, 57, 55, 45, 50, 48, 48, 50, 32, 98, 121, 32, 83, 101, 99, 114, 101, 116, 32, 76, 97, 98, 115, 32, 65, 66, 32]) 0), (.bool true), (.bool false), (.str (s "_sre") 271)] 0, #[]⟩
def H0 (P : Params) : Heap := ⟨#[(o0_0 P), (o1_0 P), (o2_0 P), (o3_0 P), (o4_0 P), (o5_0 P), (o6_0 P), (o7_0 P), (o8_0 P), (o9_0 P), (o10_0 P), (o11_0 P), (o12_0 P), (o13_0 P), (o14_0 P), (o15_0 P), (o16_0 P), (o17_0 P), (o18_0 P), (o19_0 P), (o20_0 P), (o21_0 P), (o22_0 P), (o23_0 P), (o24_0 P), (o25_0 P), (o26_0 P), (o27_0 P)], life0⟩
noncomputable def kI : Nat := 276
noncomputable def m0 : Nat := 28
noncomputable def ann0 : Option Value := (some (.ref 6))
noncomputable def o28_0 (P : Params) : Obj := ⟨(.type "tuple"), none, .seq #[] 0, #[]⟩
noncomputable def o29_0 (P : Params) : Obj := ⟨.none, none, .fields #[], #[]⟩
noncomputable def o30_0 (P : Params) : Obj := ⟨(.type "code"), none, .fields #[(.str (s "<module>") 277), (.str (s "<module>") 278), (.str (s "/claim/cut.py") 279), (.int 1 0), (.int 0 0), (.int 0 0), (.int 0 0), (.int 0 0), (.ref 28), (.bool false), (.int 276 0), (.ref 29), .none, .none, .none, .none, (.int 280 0), (.int 1 0), (.str (s "/claim/cut.py") 281)], #[]⟩
noncomputable def o31_0 (P : Params) : Obj := ⟨(.type "frame"), none, .plain, #[(some (.ref 30)), (some (.ref 3)), (some (.ref 3)), none, (some (.str (s "__main__") 164)), none, (some (.ref 0))]⟩
noncomputable def T100 (P : Params) : BT := (.node (o7_0 P) (.node (o15_0 P) (.node (o31_0 P) .nil .nil) .nil) (.node (o23_0 P) .nil .nil))
noncomputable def T101 (P : Params) : BT := (.node (o0_0 P) (.node (o1_0 P) (.node (o3_0 P) (T100 P) (.node (o11_0 P) (.node (o19_0 P) .nil .nil) (.node (o27_0 P) .nil .nil))) (.node (o5_0 P) (.node (o9_0 P) (.node (o17_0 P) .nil .nil) (.node (o25_0 P) .nil .nil)) (.node (o13_0 P) (.node (o21_0 P) .nil .nil) (.node (o29_0 P) .nil .nil)))) (.node (o2_0 P) (.node (o4_0 P) (.node (o8_0 P) (.node (o16_0 P) .nil .nil) (.node (o24_0 P) .nil .nil)) (.node (o12_0 P) (.node (o20_0 P) .nil .nil) (.node (o28_0 P) .nil .nil))) (.node (o6_0 P) (.node (o10_0 P) (.node (o18_0 P) .nil .nil) (.node (o26_0 P) .nil .nil)) (.node (o14_0 P) (.node (o22_0 P) .nil .nil) (.node (o30_0 P) .nil .nil)))))
def Ta (P : Params) : BT := (T101 P)
noncomputable def na : Nat := 32
noncomputable def ka : Nat := 282
noncomputable def sta : Nat := 12
noncomputable def pa : PySem.Pos := ⟨0, 0, 0, 0⟩
def Tb (P : Params) : BT := (T101 P)
noncomputable def nb : Nat := 32
noncomputable def kb : Nat := 282
noncomputable def stb : Nat := 0
noncomputable def pb : PySem.Pos := ⟨0, 0, 0, 0⟩
noncomputable def o3_1 (P : Params) : Obj := ⟨(.type "dict"), none, .dict #[(ke P (s "__name__") 165 (.str (s "__main__") 164)), (ke P (s "__doc__") 166 .none), (ke P (s "__package__") 167 .none), (ke P (s "__loader__") 168 (.builtin "__main__.__loader__#opaque")), (ke P (s "__spec__") 169 .none), (ke P (s "__annotations__") 170 (.ref 6)), (ke P (s "__builtins__") 171 (.ref 4)), (ke P (s "__file__") 173 (.str (s "/claim/cut.py") 172)), (ke P (s "__cached__") 174 .none), (ke P (s "_sre") 275 (.ref 12)), (ke P (s "_wall") 288 (.ref 38))] 11, #[]⟩
noncomputable def o29_1 (P : Params) : Obj := ⟨.none, none, .fields #[(.int 2 0), (.int 0 0), (.ref 37)], #[]⟩
noncomputable def o32_0 (P : Params) : Obj := ⟨(.type "tuple"), none, .seq #[] 0, #[]⟩
noncomputable def o33_0 (P : Params) : Obj := ⟨.none, none, .fields #[], #[]⟩
noncomputable def o34_0 (P : Params) : Obj := ⟨(.type "tuple"), none, .seq #[(.str (s "k") 285)] 0, #[]⟩
noncomputable def o35_0 (P : Params) : Obj := ⟨(.type "tuple"), none, .seq #[] 0, #[]⟩
noncomputable def o36_0 (P : Params) : Obj := ⟨.none, none, .func ⟨(s "_wall"), (s "_wall"), fArgs (bd 1), .stmts (fBody (bd 1)), fScope (bd 1), 0, [], .none, .none, .none, .none, none, .none, .none, 0⟩, #[]⟩
noncomputable def o37_0 (P : Params) : Obj := ⟨(.type "code"), none, .fields #[(.str (s "_wall") 282), (.str (s "_wall") 283), (.str (s "/claim/cut.py") 284), (.int 2 0), (.int 1 0), (.int 0 0), (.int 0 0), (.int 3 0), (.ref 32), (.bool true), (.int 276 0), (.ref 33), .none, (.ref 34), (.ref 35), (.ref 36), (.int 286 0), (.int 2 0), (.str (s "/claim/cut.py") 287)], #[]⟩
noncomputable def o38_0 (P : Params) : Obj := ⟨(.type "function"), none, .func ⟨(s "_wall"), (s "_wall"), fArgs (bd 1), .stmts (fBody (bd 1)), fScope (bd 1), 3, [], .none, .none, .none, (.str (s "__main__") 164), none, (.ref 37), .none, 0⟩, #[]⟩
noncomputable def T102 (P : Params) : BT := (.node (o19_0 P) (.node (o35_0 P) .nil .nil) .nil)
noncomputable def T103 (P : Params) : BT := (.node (o11_0 P) (T102 P) (.node (o27_0 P) .nil .nil))
noncomputable def T104 (P : Params) : BT := (.node (o21_0 P) (.node (o37_0 P) .nil .nil) .nil)
noncomputable def T105 (P : Params) : BT := (.node (o5_0 P) (.node (o9_0 P) (.node (o17_0 P) (.node (o33_0 P) .nil .nil) .nil) (.node (o25_0 P) .nil .nil)) (.node (o13_0 P) (T104 P) (.node (o29_1 P) .nil .nil)))
noncomputable def T106 (P : Params) : BT := (.node (o20_0 P) (.node (o36_0 P) .nil .nil) .nil)
noncomputable def T107 (P : Params) : BT := (.node (o18_0 P) (.node (o34_0 P) .nil .nil) .nil)
noncomputable def T108 (P : Params) : BT := (.node (o22_0 P) (.node (o38_0 P) .nil .nil) .nil)
noncomputable def T109 (P : Params) : BT := (.node (o2_0 P) (.node (o4_0 P) (.node (o8_0 P) (.node (o16_0 P) (.node (o32_0 P) .nil .nil) .nil) (.node (o24_0 P) .nil .nil)) (.node (o12_0 P) (T106 P) (.node (o28_0 P) .nil .nil))) (.node (o6_0 P) (.node (o10_0 P) (T107 P) (.node (o26_0 P) .nil .nil)) (.node (o14_0 P) (T108 P) (.node (o30_0 P) .nil .nil))))
noncomputable def T0 (P : Params) : BT := (.node (o0_0 P) (.node (o1_0 P) (.node (o3_1 P) (T100 P) (T103 P)) (T105 P)) (T109 P))
noncomputable def n0 : Nat := 39
noncomputable def k0 : Nat := 289
noncomputable def st0 : Nat := 29
noncomputable def p0 : PySem.Pos := ⟨2, 0, 4, 12⟩
noncomputable def o3_2 (P : Params) : Obj := ⟨(.type "dict"), none, .dict #[(ke P (s "__name__") 165 (.str (s "cpy313.stringprep") 289)), (ke P (s "__doc__") 166 .none), (ke P (s "__package__") 167 .none), (ke P (s "__loader__") 168 (.builtin "__main__.__loader__#opaque")), (ke P (s "__spec__") 169 .none), (ke P (s "__annotations__") 170 (.ref 6)), (ke P (s "__builtins__") 171 (.ref 4)), (ke P (s "__file__") 173 (.str (s "/claim/cut.py") 172)), (ke P (s "__cached__") 174 .none), (ke P (s "_sre") 275 (.ref 12)), (ke P (s "_wall") 288 (.ref 38))] 11, #[]⟩
noncomputable def T1 (P : Params) : BT := (.node (o0_0 P) (.node (o1_0 P) (.node (o3_2 P) (T100 P) (T103 P)) (T105 P)) (T109 P))
noncomputable def n1 : Nat := 39
noncomputable def k1 : Nat := 291
noncomputable def st1 : Nat := 9
noncomputable def p1 : PySem.Pos := ⟨5, 0, 5, 8⟩
noncomputable def o3_3 (P : Params) : Obj := ⟨(.type "dict"), none, .dict #[(ke P (s "__name__") 165 (.str (s "cpy313.stringprep") 289)), (ke P (s "__doc__") 166 .none), (ke P (s "__package__") 167 .none), (ke P (s "__loader__") 168 (.builtin "__main__.__loader__#opaque")), (ke P (s "__spec__") 169 .none), (ke P (s "__annotations__") 170 (.ref 6)), (ke P (s "__builtins__") 171 (.ref 4)), (ke P (s "__file__") 173 (.str (s "/claim/cut.py") 172)), (ke P (s "__cached__") 174 .none), (ke P (s "_sre") 275 (.ref 12)), (ke P (s "_wall") 288 (.ref 38)), (ke P (s "b1_set") 350 (.ref 46))] 12, #[]⟩
noncomputable def o39_0 (P : Params) : Obj := ⟨(.type "list"), none, .seq #[(.int 173 291), (.int 847 292), (.int 6150 293), (.int 6155 294), (.int 6156 295), (.int 6157 296), (.int 8203 297), (.int 8204 298), (.int 8205 299), (.int 8288 300), (.int 65279 301)] 0, #[]⟩
noncomputable def o40_0 (P : Params) : Obj := ⟨(.type "range"), none, .fields #[(.int 65024 302), (.int 65040 303), (.int 1 304)], #[]⟩
noncomputable def o41_0 (P : Params) : Obj := ⟨(.type "list"), none, .seq #[(.int 65024 307), (.int 65025 308), (.int 65026 309), (.int 65027 310), (.int 65028 311), (.int 65029 312), (.int 65030 313), (.int 65031 314), (.int 65032 315), (.int 65033 316), (.int 65034 317), (.int 65035 318), (.int 65036 319), (.int 65037 320), (.int 65038 321), (.int 65039 322)] 18, #[]⟩
noncomputable def o42_0 (P : Params) : Obj := ⟨(.type "range_iterator"), none, .fields #[(.int 65040 0), (.int 0 0), (.int 1 0)], #[]⟩
noncomputable def o43_0 (P : Params) : Obj := ⟨(.type "tuple"), none, .seq #[] 0, #[]⟩
noncomputable def o44_0 (P : Params) : Obj := ⟨(.type "StopIteration"), none, .fields #[(.ref 43), .none, .none, .none, (.bool false), .none], #[]⟩
noncomputable def o45_0 (P : Params) : Obj := ⟨(.type "list"), none, .seq #[(.int 173 291), (.int 847 292), (.int 6150 293), (.int 6155 294), (.int 6156 295), (.int 6157 296), (.int 8203 297), (.int 8204 298), (.int 8205 299), (.int 8288 300), (.int 65279 301), (.int 65024 307), (.int 65025 308), (.int 65026 309), (.int 65027 310), (.int 65028 311), (.int 65029 312), (.int 65030 313), (.int 65031 314), (.int 65032 315), (.int 65033 316), (.int 65034 317), (.int 65035 318), (.int 65036 319), (.int 65037 320), (.int 65038 321), (.int 65039 322)] 0, #[]⟩
noncomputable def o46_0 (P : Params) : Obj := ⟨(.type "set"), none, .set #[(65024, (.int 65024 307)), (65025, (.int 65025 308)), (65026, (.int 65026 309)), (65027, (.int 65027 310)), (65028, (.int 65028 311)), (65029, (.int 65029 312)), (6150, (.int 6150 293)), (65030, (.int 65030 313)), (65031, (.int 65031 314)), (65032, (.int 65032 315)), (65033, (.int 65033 316)), (6155, (.int 6155 294)), (6156, (.int 6156 295)), (6157, (.int 6157 296)), (8203, (.int 8203 297)), (8204, (.int 8204 298)), (8205, (.int 8205 299)), (65034, (.int 65034 317)), (65035, (.int 65035 318)), (65036, (.int 65036 319)), (65037, (.int 65037 320)), (65038, (.int 65038 321)), (65039, (.int 65039 322)), (173, (.int 173 291)), (847, (.int 847 292)), (8288, (.int 8288 300)), (65279, (.int 65279 301))] 29 ⟨127, #[0, 1, 2, 3, 4, 5, 6, 7, 8, 9, 10, 11, 12, 13, 14, 15, 16, 17, 18, 19, 20, 21, 22, 45, 79, 96, 127], #[], 0, !(P.followText "set-order"), 2, true⟩, #[]⟩
noncomputable def o47_0 (P : Params) : Obj := ⟨(.type "list_iterator"), none, .fields #[.none, (.int 27 0)], #[]⟩
noncomputable def o48_0 (P : Params) : Obj := ⟨(.type "tuple"), none, .seq #[] 0, #[]⟩
noncomputable def o49_0 (P : Params) : Obj := ⟨(.type "StopIteration"), none, .fields #[(.ref 48), .none, .none, .none, (.bool false), .none], #[]⟩
noncomputable def T110 (P : Params) : BT := (.node (o15_0 P) (.node (o31_0 P) .nil .nil) (.node (o47_0 P) .nil .nil))
noncomputable def T111 (P : Params) : BT := (.node (o27_0 P) (.node (o43_0 P) .nil .nil) .nil)
noncomputable def T112 (P : Params) : BT := (.node (o9_0 P) (.node (o17_0 P) (.node (o33_0 P) .nil .nil) (.node (o49_0 P) .nil .nil)) (.node (o25_0 P) (.node (o41_0 P) .nil .nil) .nil))
noncomputable def T113 (P : Params) : BT := (.node (o16_0 P) (.node (o32_0 P) .nil .nil) (.node (o48_0 P) .nil .nil))
noncomputable def T114 (P : Params) : BT := (.node (o28_0 P) (.node (o44_0 P) .nil .nil) .nil)
noncomputable def T115 (P : Params) : BT := (.node (o26_0 P) (.node (o42_0 P) .nil .nil) .nil)
noncomputable def T116 (P : Params) : BT := (.node (o30_0 P) (.node (o46_0 P) .nil .nil) .nil)
noncomputable def T2 (P : Params) : BT := (.node (o0_0 P) (.node (o1_0 P) (.node (o3_3 P) (.node (o7_0 P) (T110 P) (.node (o23_0 P) (.node (o39_0 P) .nil .nil) .nil)) (.node (o11_0 P) (T102 P) (T111 P))) (.node (o5_0 P) (T112 P) (.node (o13_0 P) (T104 P) (.node (o29_1 P) (.node (o45_0 P) .nil .nil) .nil)))) (.node (o2_0 P) (.node (o4_0 P) (.node (o8_0 P) (T113 P) (.node (o24_0 P) (.node (o40_0 P) .nil .nil) .nil)) (.node (o12_0 P) (T106 P) (T114 P))) (.node (o6_0 P) (.node (o10_0 P) (T107 P) (T115 P)) (.node (o14_0 P) (T108 P) (T116 P)))))
noncomputable def n2 : Nat := 50
noncomputable def k2 : Nat := 351
noncomputable def st2 : Nat := 998
noncomputable def p2 : PySem.Pos := ⟨6, 0, 6, 6⟩
noncomputable def o3_4 (P : Params) : Obj := ⟨(.type "dict"), none, .dict #[(ke P (s "__name__") 165 (.str (s "cpy313.stringprep") 289)), (ke P (s "__doc__") 166 .none), (ke P (s "__package__") 167 .none), (ke P (s "__loader__") 168 (.builtin "__main__.__loader__#opaque")), (ke P (s "__spec__") 169 .none), (ke P (s "__annotations__") 170 (.ref 6)), (ke P (s "__builtins__") 171 (.ref 4)), (ke P (s "__file__") 173 (.str (s "/claim/cut.py") 172)), (ke P (s "__cached__") 174 .none), (ke P (s "_sre") 275 (.ref 12)), (ke P (s "_wall") 288 (.ref 38)), (ke P (s "b1_set") 350 (.ref 46)), (ke P (s "in_table_b1") 357 (.ref 56))] 13, #[]⟩
noncomputable def o29_2 (P : Params) : Obj := ⟨.none, none, .fields #[(.int 2 0), (.int 0 0), (.ref 37), (.int 7 0), (.int 0 0), (.ref 55)], #[]⟩
noncomputable def o50_0 (P : Params) : Obj := ⟨(.type "tuple"), none, .seq #[] 0, #[]⟩
noncomputable def o51_0 (P : Params) : Obj := ⟨.none, none, .fields #[], #[]⟩
noncomputable def o52_0 (P : Params) : Obj := ⟨(.type "tuple"), none, .seq #[(.str (s "code") 354)] 0, #[]⟩
noncomputable def o53_0 (P : Params) : Obj := ⟨(.type "tuple"), none, .seq #[] 0, #[]⟩
noncomputable def o54_0 (P : Params) : Obj := ⟨.none, none, .func ⟨(s "in_table_b1"), (s "in_table_b1"), fArgs (bd 4), .stmts (fBody (bd 4)), fScope (bd 4), 0, [], .none, .none, .none, .none, none, .none, .none, 0⟩, #[]⟩
noncomputable def o55_0 (P : Params) : Obj := ⟨(.type "code"), none, .fields #[(.str (s "in_table_b1") 351), (.str (s "in_table_b1") 352), (.str (s "/claim/cut.py") 353), (.int 7 0), (.int 1 0), (.int 0 0), (.int 0 0), (.int 3 0), (.ref 50), (.bool true), (.int 276 0), (.ref 51), .none, (.ref 52), (.ref 53), (.ref 54), (.int 355 0), (.int 7 0), (.str (s "/claim/cut.py") 356)], #[]⟩
noncomputable def o56_0 (P : Params) : Obj := ⟨(.type "function"), none, .func ⟨(s "in_table_b1"), (s "in_table_b1"), fArgs (bd 4), .stmts (fBody (bd 4)), fScope (bd 4), 3, [], .none, .none, .none, (.str (s "cpy313.stringprep") 289), none, (.ref 55), .none, 0⟩, #[]⟩
noncomputable def T3 (P : Params) : BT := (.node (o0_0 P) (.node (o1_0 P) (.node (o3_4 P) (.node (o7_0 P) (T110 P) (.node (o23_0 P) (.node (o39_0 P) .nil .nil) (.node (o55_0 P) .nil .nil))) (.node (o11_0 P) (.node (o19_0 P) (.node (o35_0 P) .nil .nil) (.node (o51_0 P) .nil .nil)) (T111 P))) (.node (o5_0 P) (T112 P) (.node (o13_0 P) (.node (o21_0 P) (.node (o37_0 P) .nil .nil) (.node (o53_0 P) .nil .nil)) (.node (o29_2 P) (.node (o45_0 P) .nil .nil) .nil)))) (.node (o2_0 P) (.node (o4_0 P) (.node (o8_0 P) (T113 P) (.node (o24_0 P) (.node (o40_0 P) .nil .nil) (.node (o56_0 P) .nil .nil))) (.node (o12_0 P) (.node (o20_0 P) (.node (o36_0 P) .nil .nil) (.node (o52_0 P) .nil .nil)) (T114 P))) (.node (o6_0 P) (.node (o10_0 P) (.node (o18_0 P) (.node (o34_0 P) .nil .nil) (.node (o50_0 P) .nil .nil)) (T115 P)) (.node (o14_0 P) (.node (o22_0 P) (.node (o38_0 P) .nil .nil) (.node (o54_0 P) .nil .nil)) (T116 P)))))
noncomputable def n3 : Nat := 57
noncomputable def k3 : Nat := 358
noncomputable def st3 : Nat := 29
noncomputable def p3 : PySem.Pos := ⟨7, 0, 8, 30⟩
noncomputable def T117 (P : Params) (G : Nat → Obj) : BT := (.node (o31_0 P) (.node (G 6) .nil .nil) (.node (G 38) .nil .nil))
noncomputable def T118 (P : Params) (G : Nat → Obj) : BT := (.node (o15_0 P) (T117 P G) (.node (o47_0 P) (.node (G 22) .nil .nil) .nil))
noncomputable def T119 (P : Params) (G : Nat → Obj) : BT := (.node (o55_0 P) (.node (G 30) .nil .nil) .nil)
noncomputable def T120 (P : Params) (G : Nat → Obj) : BT := (.node (o7_0 P) (T118 P G) (.node (o23_0 P) (.node (o39_0 P) (.node (G 14) .nil .nil) .nil) (T119 P G)))
noncomputable def T121 (P : Params) (G : Nat → Obj) : BT := (.node (o51_0 P) (.node (G 26) .nil .nil) .nil)
noncomputable def T122 (P : Params) (G : Nat → Obj) : BT := (.node (G 2) (.node (G 34) .nil .nil) .nil)
noncomputable def T123 (P : Params) (G : Nat → Obj) : BT := (.node (o27_0 P) (.node (o43_0 P) (.node (G 18) .nil .nil) .nil) (T122 P G))
noncomputable def T124 (P : Params) (G : Nat → Obj) : BT := (.node (o11_0 P) (.node (o19_0 P) (.node (o35_0 P) (.node (G 10) .nil .nil) .nil) (T121 P G)) (T123 P G))
noncomputable def T125 (P : Params) (G : Nat → Obj) : BT := (.node (o49_0 P) (.node (G 24) .nil .nil) .nil)
noncomputable def T126 (P : Params) (G : Nat → Obj) : BT := (.node (G 0) (.node (G 32) .nil .nil) .nil)
noncomputable def T127 (P : Params) (G : Nat → Obj) : BT := (.node (o25_0 P) (.node (o41_0 P) (.node (G 16) .nil .nil) .nil) (T126 P G))
noncomputable def T128 (P : Params) (G : Nat → Obj) : BT := (.node (o53_0 P) (.node (G 28) .nil .nil) .nil)
noncomputable def T129 (P : Params) (G : Nat → Obj) : BT := (.node (o45_0 P) (.node (G 20) .nil .nil) .nil)
noncomputable def T130 (P : Params) (G : Nat → Obj) : BT := (.node (G 4) (.node (G 36) .nil .nil) .nil)
noncomputable def T131 (P : Params) (G : Nat → Obj) : BT := (.node (o5_0 P) (.node (o9_0 P) (.node (o17_0 P) (.node (o33_0 P) (.node (G 8) .nil .nil) .nil) (T125 P G)) (T127 P G)) (.node (o13_0 P) (.node (o21_0 P) (.node (o37_0 P) (.node (G 12) .nil .nil) .nil) (T128 P G)) (.node (o29_2 P) (T129 P G) (T130 P G))))
noncomputable def T132 (P : Params) (G : Nat → Obj) : BT := (.node (o48_0 P) (.node (G 23) .nil .nil) .nil)
noncomputable def T133 (P : Params) (G : Nat → Obj) : BT := (.node (o56_0 P) (.node (G 31) .nil .nil) .nil)
noncomputable def T134 (P : Params) (G : Nat → Obj) : BT := (.node (o24_0 P) (.node (o40_0 P) (.node (G 15) .nil .nil) .nil) (T133 P G))
noncomputable def T135 (P : Params) (G : Nat → Obj) : BT := (.node (o52_0 P) (.node (G 27) .nil .nil) .nil)
noncomputable def T136 (P : Params) (G : Nat → Obj) : BT := (.node (G 3) (.node (G 35) .nil .nil) .nil)
noncomputable def T137 (P : Params) (G : Nat → Obj) : BT := (.node (o28_0 P) (.node (o44_0 P) (.node (G 19) .nil .nil) .nil) (T136 P G))
noncomputable def T138 (P : Params) (G : Nat → Obj) : BT := (.node (o50_0 P) (.node (G 25) .nil .nil) .nil)
noncomputable def T139 (P : Params) (G : Nat → Obj) : BT := (.node (G 1) (.node (G 33) .nil .nil) .nil)
noncomputable def T140 (P : Params) (G : Nat → Obj) : BT := (.node (o26_0 P) (.node (o42_0 P) (.node (G 17) .nil .nil) .nil) (T139 P G))
noncomputable def T141 (P : Params) (G : Nat → Obj) : BT := (.node (o54_0 P) (.node (G 29) .nil .nil) .nil)
noncomputable def T142 (P : Params) (G : Nat → Obj) : BT := (.node (G 5) (.node (G 37) .nil .nil) .nil)
noncomputable def T143 (P : Params) (G : Nat → Obj) : BT := (.node (o30_0 P) (.node (o46_0 P) (.node (G 21) .nil .nil) .nil) (T142 P G))
noncomputable def T144 (P : Params) (G : Nat → Obj) : BT := (.node (o2_0 P) (.node (o4_0 P) (.node (o8_0 P) (.node (o16_0 P) (.node (o32_0 P) (.node (G 7) .nil .nil) .nil) (T132 P G)) (T134 P G)) (.node (o12_0 P) (.node (o20_0 P) (.node (o36_0 P) (.node (G 11) .nil .nil) .nil) (T135 P G)) (T137 P G))) (.node (o6_0 P) (.node (o10_0 P) (.node (o18_0 P) (.node (o34_0 P) (.node (G 9) .nil .nil) .nil) (T138 P G)) (T140 P G)) (.node (o14_0 P) (.node (o22_0 P) (.node (o38_0 P) (.node (G 13) .nil .nil) .nil) (T141 P G)) (T143 P G))))
noncomputable def TX (P : Params) (G : Nat → Obj) : BT := (.node (o0_0 P) (.node (o1_0 P) (.node (o3_4 P) (T120 P G) (T124 P G)) (T131 P G)) (T144 P G))
noncomputable def nX : Nat := 96
noncomputable def kX : Nat := 2308
noncomputable def lo0 : Nat := 57
noncomputable def o3_5 (P : Params) : Obj := ⟨(.type "dict"), none, .dict #[(ke P (s "__name__") 165 (.str (s "cpy313.stringprep") 289)), (ke P (s "__doc__") 166 .none), (ke P (s "__package__") 167 .none), (ke P (s "__loader__") 168 (.builtin "__main__.__loader__#opaque")), (ke P (s "__spec__") 169 .none), (ke P (s "__annotations__") 170 (.ref 6)), (ke P (s "__builtins__") 171 (.ref 4)), (ke P (s "__file__") 173 (.str (s "/claim/cut.py") 172)), (ke P (s "__cached__") 174 .none), (ke P (s "_sre") 275 (.ref 12)), (ke P (s "_wall") 288 (.ref 38)), (ke P (s "b1_set") 350 (.ref 46)), (ke P (s "in_table_b1") 357 (.ref 56)), (ke P (s "b3_exceptions") 2308 (.ref 57))] 14, #[]⟩
noncomputable def T4 (P : Params) (G : Nat → Obj) : BT := (.node (o0_0 P) (.node (o1_0 P) (.node (o3_5 P) (T120 P G) (T124 P G)) (T131 P G)) (T144 P G))
noncomputable def n4 : Nat := 96
noncomputable def k4 : Nat := 2309
noncomputable def st4 : Nat := 12524
noncomputable def p4 : PySem.Pos := ⟨9, 0, 9, 13⟩
noncomputable def o3_6 (P : Params) : Obj := ⟨(.type "dict"), none, .dict #[(ke P (s "__name__") 165 (.str (s "cpy313.stringprep") 289)), (ke P (s "__doc__") 166 .none), (ke P (s "__package__") 167 .none), (ke P (s "__loader__") 168 (.builtin "__main__.__loader__#opaque")), (ke P (s "__spec__") 169 .none), (ke P (s "__annotations__") 170 (.ref 6)), (ke P (s "__builtins__") 171 (.ref 4)), (ke P (s "__file__") 173 (.str (s "/claim/cut.py") 172)), (ke P (s "__cached__") 174 .none), (ke P (s "_sre") 275 (.ref 12)), (ke P (s "_wall") 288 (.ref 38)), (ke P (s "b1_set") 350 (.ref 46)), (ke P (s "in_table_b1") 357 (.ref 56)), (ke P (s "b3_exceptions") 2308 (.ref 57)), (ke P (s "map_table_b3") 2316 (.ref 102))] 15, #[]⟩
noncomputable def o29_3 (P : Params) : Obj := ⟨.none, none, .fields #[(.int 2 0), (.int 0 0), (.ref 37), (.int 7 0), (.int 0 0), (.ref 55), (.int 10 0), (.int 0 0), (.ref 101)], #[]⟩
noncomputable def o96_0 (P : Params) : Obj := ⟨(.type "tuple"), none, .seq #[] 0, #[]⟩
noncomputable def o97_0 (P : Params) : Obj := ⟨.none, none, .fields #[], #[]⟩
noncomputable def o98_0 (P : Params) : Obj := ⟨(.type "tuple"), none, .seq #[(.str (s "code") 2312), (.str (s "r") 2313)] 0, #[]⟩
noncomputable def o99_0 (P : Params) : Obj := ⟨(.type "tuple"), none, .seq #[] 0, #[]⟩
noncomputable def o100_0 (P : Params) : Obj := ⟨.none, none, .func ⟨(s "map_table_b3"), (s "map_table_b3"), fArgs (bd 6), .stmts (fBody (bd 6)), fScope (bd 6), 0, [], .none, .none, .none, .none, none, .none, .none, 0⟩, #[]⟩
noncomputable def o101_0 (P : Params) : Obj := ⟨(.type "code"), none, .fields #[(.str (s "map_table_b3") 2309), (.str (s "map_table_b3") 2310), (.str (s "/claim/cut.py") 2311), (.int 10 0), (.int 1 0), (.int 0 0), (.int 0 0), (.int 3 0), (.ref 96), (.bool true), (.int 276 0), (.ref 97), .none, (.ref 98), (.ref 99), (.ref 100), (.int 2314 0), (.int 10 0), (.str (s "/claim/cut.py") 2315)], #[]⟩
noncomputable def o102_0 (P : Params) : Obj := ⟨(.type "function"), none, .func ⟨(s "map_table_b3"), (s "map_table_b3"), fArgs (bd 6), .stmts (fBody (bd 6)), fScope (bd 6), 3, [], .none, .none, .none, (.str (s "cpy313.stringprep") 289), none, (.ref 101), .none, 0⟩, #[]⟩
noncomputable def T145 (P : Params) (G : Nat → Obj) : BT := (.node (o35_0 P) (.node (G 10) .nil .nil) (.node (o99_0 P) .nil .nil))
noncomputable def T146 (P : Params) (G : Nat → Obj) : BT := (.node (o19_0 P) (T145 P G) (T121 P G))
noncomputable def T147 (P : Params) (G : Nat → Obj) : BT := (.node (o11_0 P) (T146 P G) (T123 P G))
noncomputable def T148 (P : Params) (G : Nat → Obj) : BT := (.node (o33_0 P) (.node (G 8) .nil .nil) (.node (o97_0 P) .nil .nil))
noncomputable def T149 (P : Params) (G : Nat → Obj) : BT := (.node (o17_0 P) (T148 P G) (T125 P G))
noncomputable def T150 (P : Params) (G : Nat → Obj) : BT := (.node (o37_0 P) (.node (G 12) .nil .nil) (.node (o101_0 P) .nil .nil))
noncomputable def T151 (P : Params) (G : Nat → Obj) : BT := (.node (o21_0 P) (T150 P G) (T128 P G))
noncomputable def T152 (P : Params) (G : Nat → Obj) : BT := (.node (o13_0 P) (T151 P G) (.node (o29_3 P) (T129 P G) (T130 P G)))
noncomputable def T153 (P : Params) (G : Nat → Obj) : BT := (.node (o5_0 P) (.node (o9_0 P) (T149 P G) (T127 P G)) (T152 P G))
noncomputable def T154 (P : Params) (G : Nat → Obj) : BT := (.node (o32_0 P) (.node (G 7) .nil .nil) (.node (o96_0 P) .nil .nil))
noncomputable def T155 (P : Params) (G : Nat → Obj) : BT := (.node (o16_0 P) (T154 P G) (T132 P G))
noncomputable def T156 (P : Params) (G : Nat → Obj) : BT := (.node (o36_0 P) (.node (G 11) .nil .nil) (.node (o100_0 P) .nil .nil))
noncomputable def T157 (P : Params) (G : Nat → Obj) : BT := (.node (o20_0 P) (T156 P G) (T135 P G))
noncomputable def T158 (P : Params) (G : Nat → Obj) : BT := (.node (o12_0 P) (T157 P G) (T137 P G))
noncomputable def T159 (P : Params) (G : Nat → Obj) : BT := (.node (o34_0 P) (.node (G 9) .nil .nil) (.node (o98_0 P) .nil .nil))
noncomputable def T160 (P : Params) (G : Nat → Obj) : BT := (.node (o18_0 P) (T159 P G) (T138 P G))
noncomputable def T161 (P : Params) (G : Nat → Obj) : BT := (.node (o38_0 P) (.node (G 13) .nil .nil) (.node (o102_0 P) .nil .nil))
noncomputable def T162 (P : Params) (G : Nat → Obj) : BT := (.node (o22_0 P) (T161 P G) (T141 P G))
noncomputable def T163 (P : Params) (G : Nat → Obj) : BT := (.node (o14_0 P) (T162 P G) (T143 P G))
noncomputable def T164 (P : Params) (G : Nat → Obj) : BT := (.node (o2_0 P) (.node (o4_0 P) (.node (o8_0 P) (T155 P G) (T134 P G)) (T158 P G)) (.node (o6_0 P) (.node (o10_0 P) (T160 P G) (T140 P G)) (T163 P G)))
noncomputable def T5 (P : Params) (G : Nat → Obj) : BT := (.node (o0_0 P) (.node (o1_0 P) (.node (o3_6 P) (T120 P G) (T147 P G)) (T153 P G)) (T164 P G))
noncomputable def n5 : Nat := 103
noncomputable def k5 : Nat := 2317
noncomputable def st5 : Nat := 30
noncomputable def p5 : PySem.Pos := ⟨10, 0, 14, 23⟩
noncomputable def o3_7 (P : Params) : Obj := ⟨(.type "dict"), none, .dict #[(ke P (s "__name__") 165 (.str (s "cpy313.smtplib") 2317)), (ke P (s "__doc__") 166 .none), (ke P (s "__package__") 167 .none), (ke P (s "__loader__") 168 (.builtin "__main__.__loader__#opaque")), (ke P (s "__spec__") 169 .none), (ke P (s "__annotations__") 170 (.ref 6)), (ke P (s "__builtins__") 171 (.ref 4)), (ke P (s "__file__") 173 (.str (s "/claim/cut.py") 172)), (ke P (s "__cached__") 174 .none), (ke P (s "_sre") 275 (.ref 12)), (ke P (s "_wall") 288 (.ref 38)), (ke P (s "b1_set") 350 (.ref 46)), (ke P (s "in_table_b1") 357 (.ref 56)), (ke P (s "b3_exceptions") 2308 (.ref 57)), (ke P (s "map_table_b3") 2316 (.ref 102))] 15, #[]⟩
noncomputable def T6 (P : Params) (G : Nat → Obj) : BT := (.node (o0_0 P) (.node (o1_0 P) (.node (o3_7 P) (T120 P G) (T147 P G)) (T153 P G)) (T164 P G))
noncomputable def n6 : Nat := 103
noncomputable def k6 : Nat := 2319
noncomputable def st6 : Nat := 9
noncomputable def p6 : PySem.Pos := ⟨15, 0, 15, 8⟩
noncomputable def o3_8 (P : Params) : Obj := ⟨(.type "dict"), none, .dict #[(ke P (s "__name__") 165 (.str (s "cpy313.smtplib") 2317)), (ke P (s "__doc__") 166 .none), (ke P (s "__package__") 167 .none), (ke P (s "__loader__") 168 (.builtin "__main__.__loader__#opaque")), (ke P (s "__spec__") 169 .none), (ke P (s "__annotations__") 170 (.ref 6)), (ke P (s "__builtins__") 171 (.ref 4)), (ke P (s "__file__") 173 (.str (s "/claim/cut.py") 172)), (ke P (s "__cached__") 174 .none), (ke P (s "_sre") 275 (.ref 12)), (ke P (s "_wall") 288 (.ref 38)), (ke P (s "b1_set") 350 (.ref 46)), (ke P (s "in_table_b1") 357 (.ref 56)), (ke P (s "b3_exceptions") 2308 (.ref 57)), (ke P (s "map_table_b3") 2316 (.ref 102)), (ke P (s "_twin_re_1") 2334 (.ref 107))] 16, #[]⟩
noncomputable def o103_0 (P : Params) : Obj := ⟨(.type "list"), none, .seq #[(.int 14 2322), (.int 4 2323), (.int 0 2324), (.int 1 2325), (.int 1 2326), (.int 6 2327), (.int 1 2328), (.int 16 2329), (.int 46 2330), (.int 1 2331)] 0, #[]⟩
noncomputable def o104_0 (P : Params) : Obj := ⟨(.type "dict"), none, .dict #[] 0, #[]⟩
noncomputable def o105_0 (P : Params) : Obj := ⟨(.type "tuple"), none, .seq #[.none] 0, #[]⟩
noncomputable def o106_0 (P : Params) : Obj := ⟨(.type "tuple"), none, .seq #[(.int 14 0), (.int 4 0), (.int 0 0), (.int 1 0), (.int 1 0), (.int 6 0), (.int 1 0), (.int 16 0), (.int 46 0), (.int 1 0)] 0, #[]⟩
noncomputable def o107_0 (P : Params) : Obj := ⟨(.type "re.Pattern"), none, .fields #[(.str (s "(?m)^\\.") 2320), (.int 40 2333), (.int 0 0), .none, .none, (.ref 106), (.int 0 0)], #[]⟩
noncomputable def T165 (P : Params) (G : Nat → Obj) : BT := (.node (o39_0 P) (.node (G 14) .nil .nil) (.node (o103_0 P) .nil .nil))
noncomputable def T166 (P : Params) (G : Nat → Obj) : BT := (.node (o23_0 P) (T165 P G) (T119 P G))
noncomputable def T167 (P : Params) (G : Nat → Obj) : BT := (.node (o43_0 P) (.node (G 18) .nil .nil) (.node (o107_0 P) .nil .nil))
noncomputable def T168 (P : Params) (G : Nat → Obj) : BT := (.node (o27_0 P) (T167 P G) (T122 P G))
noncomputable def T169 (P : Params) (G : Nat → Obj) : BT := (.node (o11_0 P) (T146 P G) (T168 P G))
noncomputable def T170 (P : Params) (G : Nat → Obj) : BT := (.node (o41_0 P) (.node (G 16) .nil .nil) (.node (o105_0 P) .nil .nil))
noncomputable def T171 (P : Params) (G : Nat → Obj) : BT := (.node (o25_0 P) (T170 P G) (T126 P G))
noncomputable def T172 (P : Params) (G : Nat → Obj) : BT := (.node (o9_0 P) (T149 P G) (T171 P G))
noncomputable def T173 (P : Params) (G : Nat → Obj) : BT := (.node (o40_0 P) (.node (G 15) .nil .nil) (.node (o104_0 P) .nil .nil))
noncomputable def T174 (P : Params) (G : Nat → Obj) : BT := (.node (o24_0 P) (T173 P G) (T133 P G))
noncomputable def T175 (P : Params) (G : Nat → Obj) : BT := (.node (o42_0 P) (.node (G 17) .nil .nil) (.node (o106_0 P) .nil .nil))
noncomputable def T176 (P : Params) (G : Nat → Obj) : BT := (.node (o26_0 P) (T175 P G) (T139 P G))
noncomputable def T177 (P : Params) (G : Nat → Obj) : BT := (.node (o10_0 P) (T160 P G) (T176 P G))
noncomputable def T7 (P : Params) (G : Nat → Obj) : BT := (.node (o0_0 P) (.node (o1_0 P) (.node (o3_8 P) (.node (o7_0 P) (T118 P G) (T166 P G)) (T169 P G)) (.node (o5_0 P) (T172 P G) (T152 P G))) (.node (o2_0 P) (.node (o4_0 P) (.node (o8_0 P) (T155 P G) (T174 P G)) (T158 P G)) (.node (o6_0 P) (T177 P G) (T163 P G))))
noncomputable def n7 : Nat := 108
noncomputable def k7 : Nat := 2335
noncomputable def st7 : Nat := 59
noncomputable def p7 : PySem.Pos := ⟨16, 0, 16, 10⟩
noncomputable def o3_9 (P : Params) : Obj := ⟨(.type "dict"), none, .dict #[(ke P (s "__name__") 165 (.str (s "cpy313.smtplib") 2317)), (ke P (s "__doc__") 166 .none), (ke P (s "__package__") 167 .none), (ke P (s "__loader__") 168 (.builtin "__main__.__loader__#opaque")), (ke P (s "__spec__") 169 .none), (ke P (s "__annotations__") 170 (.ref 6)), (ke P (s "__builtins__") 171 (.ref 4)), (ke P (s "__file__") 173 (.str (s "/claim/cut.py") 172)), (ke P (s "__cached__") 174 .none), (ke P (s "_sre") 275 (.ref 12)), (ke P (s "_wall") 288 (.ref 38)), (ke P (s "b1_set") 350 (.ref 46)), (ke P (s "in_table_b1") 357 (.ref 56)), (ke P (s "b3_exceptions") 2308 (.ref 57)), (ke P (s "map_table_b3") 2316 (.ref 102)), (ke P (s "_twin_re_1") 2334 (.ref 107)), (ke P (s "_twin_re_2") 2376 (.ref 112))] 17, #[]⟩
noncomputable def o108_0 (P : Params) : Obj := ⟨(.type "list"), none, .seq #[(.int 14 2338), (.int 9 2339), (.int 4 2340), (.int 1 2341), (.int 2 2342), (.int 16 2343), (.int 10 2344), (.int 16 2345), (.int 13 2346), (.int 0 2347), (.int 7 2348), (.int 7 2349), (.int 16 2350), (.int 13 2351), (.int 16 2352), (.int 10 2353), (.int 15 2354), (.int 18 2355), (.int 5 2356), (.int 16 2357), (.int 10 2358), (.int 15 2359), (.int 13 2360), (.int 11 2361), (.int 16 2362), (.int 13 2363), (.int 5 2364), (.int 5 2365), (.int 0 2366), (.int 16 2367), (.int 10 2368), (.int 1 2369), (.int 15 2370), (.int 2 2371), (.int 0 2372), (.int 1 2373)] 0, #[]⟩
noncomputable def o109_0 (P : Params) : Obj := ⟨(.type "dict"), none, .dict #[] 0, #[]⟩
noncomputable def o110_0 (P : Params) : Obj := ⟨(.type "tuple"), none, .seq #[.none] 0, #[]⟩
noncomputable def o111_0 (P : Params) : Obj := ⟨(.type "tuple"), none, .seq #[(.int 14 0), (.int 9 0), (.int 4 0), (.int 1 0), (.int 2 0), (.int 16 0), (.int 10 0), (.int 16 0), (.int 13 0), (.int 0 0), (.int 7 0), (.int 7 0), (.int 16 0), (.int 13 0), (.int 16 0), (.int 10 0), (.int 15 0), (.int 18 0), (.int 5 0), (.int 16 0), (.int 10 0), (.int 15 0), (.int 13 0), (.int 11 0), (.int 16 0), (.int 13 0), (.int 5 0), (.int 5 0), (.int 0 0), (.int 16 0), (.int 10 0), (.int 1 0), (.int 15 0), (.int 2 0), (.int 0 0), (.int 1 0)] 0, #[]⟩
noncomputable def o112_0 (P : Params) : Obj := ⟨(.type "re.Pattern"), none, .fields #[(.str (s "(?:\\r\\n|\\n|\\r(?!\\n))") 2336), (.int 32 2375), (.int 0 0), .none, .none, (.ref 111), (.int 0 0)], #[]⟩
noncomputable def T178 (P : Params) (G : Nat → Obj) : BT := (.node (o47_0 P) (.node (G 22) .nil .nil) (.node (o111_0 P) .nil .nil))
noncomputable def T179 (P : Params) (G : Nat → Obj) : BT := (.node (o15_0 P) (T117 P G) (T178 P G))
noncomputable def T180 (P : Params) (G : Nat → Obj) : BT := (.node (o7_0 P) (T179 P G) (T166 P G))
noncomputable def T181 (P : Params) (G : Nat → Obj) : BT := (.node (o45_0 P) (.node (G 20) .nil .nil) (.node (o109_0 P) .nil .nil))
noncomputable def T182 (P : Params) (G : Nat → Obj) : BT := (.node (o5_0 P) (T172 P G) (.node (o13_0 P) (T151 P G) (.node (o29_3 P) (T181 P G) (T130 P G))))
noncomputable def T183 (P : Params) (G : Nat → Obj) : BT := (.node (o48_0 P) (.node (G 23) .nil .nil) (.node (o112_0 P) .nil .nil))
noncomputable def T184 (P : Params) (G : Nat → Obj) : BT := (.node (o16_0 P) (T154 P G) (T183 P G))
noncomputable def T185 (P : Params) (G : Nat → Obj) : BT := (.node (o8_0 P) (T184 P G) (T174 P G))
noncomputable def T186 (P : Params) (G : Nat → Obj) : BT := (.node (o44_0 P) (.node (G 19) .nil .nil) (.node (o108_0 P) .nil .nil))
noncomputable def T187 (P : Params) (G : Nat → Obj) : BT := (.node (o28_0 P) (T186 P G) (T136 P G))
noncomputable def T188 (P : Params) (G : Nat → Obj) : BT := (.node (o46_0 P) (.node (G 21) .nil .nil) (.node (o110_0 P) .nil .nil))
noncomputable def T189 (P : Params) (G : Nat → Obj) : BT := (.node (o30_0 P) (T188 P G) (T142 P G))
noncomputable def T190 (P : Params) (G : Nat → Obj) : BT := (.node (o2_0 P) (.node (o4_0 P) (T185 P G) (.node (o12_0 P) (T157 P G) (T187 P G))) (.node (o6_0 P) (T177 P G) (.node (o14_0 P) (T162 P G) (T189 P G))))
noncomputable def T8 (P : Params) (G : Nat → Obj) : BT := (.node (o0_0 P) (.node (o1_0 P) (.node (o3_9 P) (T180 P G) (T169 P G)) (T182 P G)) (T190 P G))
noncomputable def n8 : Nat := 113
noncomputable def k8 : Nat := 2377
noncomputable def st8 : Nat := 85
noncomputable def p8 : PySem.Pos := ⟨17, 0, 17, 10⟩
noncomputable def o3_10 (P : Params) : Obj := ⟨(.type "dict"), none, .dict #[(ke P (s "__name__") 165 (.str (s "cpy313.smtplib") 2317)), (ke P (s "__doc__") 166 .none), (ke P (s "__package__") 167 .none), (ke P (s "__loader__") 168 (.builtin "__main__.__loader__#opaque")), (ke P (s "__spec__") 169 .none), (ke P (s "__annotations__") 170 (.ref 6)), (ke P (s "__builtins__") 171 (.ref 4)), (ke P (s "__file__") 173 (.str (s "/claim/cut.py") 172)), (ke P (s "__cached__") 174 .none), (ke P (s "_sre") 275 (.ref 12)), (ke P (s "_wall") 288 (.ref 38)), (ke P (s "b1_set") 350 (.ref 46)), (ke P (s "in_table_b1") 357 (.ref 56)), (ke P (s "b3_exceptions") 2308 (.ref 57)), (ke P (s "map_table_b3") 2316 (.ref 102)), (ke P (s "_twin_re_1") 2334 (.ref 107)), (ke P (s "_twin_re_2") 2376 (.ref 112)), (ke P (s "CRLF") 2378 (.str (s "\x0d\n") 2377))] 18, #[]⟩
noncomputable def T9 (P : Params) (G : Nat → Obj) : BT := (.node (o0_0 P) (.node (o1_0 P) (.node (o3_10 P) (T180 P G) (T169 P G)) (T182 P G)) (T190 P G))
noncomputable def n9 : Nat := 113
noncomputable def k9 : Nat := 2379
noncomputable def st9 : Nat := 9
noncomputable def p9 : PySem.Pos := ⟨18, 0, 18, 4⟩
noncomputable def o3_11 (P : Params) : Obj := ⟨(.type "dict"), none, .dict #[(ke P (s "__name__") 165 (.str (s "cpy313.smtplib") 2317)), (ke P (s "__doc__") 166 .none), (ke P (s "__package__") 167 .none), (ke P (s "__loader__") 168 (.builtin "__main__.__loader__#opaque")), (ke P (s "__spec__") 169 .none), (ke P (s "__annotations__") 170 (.ref 6)), (ke P (s "__builtins__") 171 (.ref 4)), (ke P (s "__file__") 173 (.str (s "/claim/cut.py") 172)), (ke P (s "__cached__") 174 .none), (ke P (s "_sre") 275 (.ref 12)), (ke P (s "_wall") 288 (.ref 38)), (ke P (s "b1_set") 350 (.ref 46)), (ke P (s "in_table_b1") 357 (.ref 56)), (ke P (s "b3_exceptions") 2308 (.ref 57)), (ke P (s "map_table_b3") 2316 (.ref 102)), (ke P (s "_twin_re_1") 2334 (.ref 107)), (ke P (s "_twin_re_2") 2376 (.ref 112)), (ke P (s "CRLF") 2378 (.str (s "\x0d\n") 2377)), (ke P (s "quotedata") 2385 (.ref 119))] 19, #[]⟩
noncomputable def o29_4 (P : Params) : Obj := ⟨.none, none, .fields #[(.int 2 0), (.int 0 0), (.ref 37), (.int 7 0), (.int 0 0), (.ref 55), (.int 10 0), (.int 0 0), (.ref 101), (.int 19 0), (.int 0 0), (.ref 118)], #[]⟩
noncomputable def o113_0 (P : Params) : Obj := ⟨(.type "tuple"), none, .seq #[] 0, #[]⟩
noncomputable def o114_0 (P : Params) : Obj := ⟨.none, none, .fields #[], #[]⟩
noncomputable def o115_0 (P : Params) : Obj := ⟨(.type "tuple"), none, .seq #[(.str (s "data") 2382)] 0, #[]⟩
noncomputable def o116_0 (P : Params) : Obj := ⟨(.type "tuple"), none, .seq #[] 0, #[]⟩
noncomputable def o117_0 (P : Params) : Obj := ⟨.none, none, .func ⟨(s "quotedata"), (s "quotedata"), fArgs (bd 11), .stmts (fBody (bd 11)), fScope (bd 11), 0, [], .none, .none, .none, .none, none, .none, .none, 0⟩, #[]⟩
noncomputable def o118_0 (P : Params) : Obj := ⟨(.type "code"), none, .fields #[(.str (s "quotedata") 2379), (.str (s "quotedata") 2380), (.str (s "/claim/cut.py") 2381), (.int 19 0), (.int 1 0), (.int 0 0), (.int 0 0), (.int 3 0), (.ref 113), (.bool true), (.int 276 0), (.ref 114), .none, (.ref 115), (.ref 116), (.ref 117), (.int 2383 0), (.int 19 0), (.str (s "/claim/cut.py") 2384)], #[]⟩
noncomputable def o119_0 (P : Params) : Obj := ⟨(.type "function"), none, .func ⟨(s "quotedata"), (s "quotedata"), fArgs (bd 11), .stmts (fBody (bd 11)), fScope (bd 11), 3, [], .none, .none, .none, (.str (s "cpy313.smtplib") 2317), none, (.ref 118), .none, 0⟩, #[]⟩
noncomputable def T191 (P : Params) (G : Nat → Obj) : BT := (.node (o23_0 P) (T165 P G) (.node (o55_0 P) (.node (G 30) .nil .nil) (.node (o119_0 P) .nil .nil)))
noncomputable def T192 (P : Params) (G : Nat → Obj) : BT := (.node (o7_0 P) (T179 P G) (T191 P G))
noncomputable def T193 (P : Params) (G : Nat → Obj) : BT := (.node (o19_0 P) (T145 P G) (.node (o51_0 P) (.node (G 26) .nil .nil) (.node (o115_0 P) .nil .nil)))
noncomputable def T194 (P : Params) (G : Nat → Obj) : BT := (.node (o11_0 P) (T193 P G) (T168 P G))
noncomputable def T195 (P : Params) (G : Nat → Obj) : BT := (.node (o49_0 P) (.node (G 24) .nil .nil) (.node (o113_0 P) .nil .nil))
noncomputable def T196 (P : Params) (G : Nat → Obj) : BT := (.node (o17_0 P) (T148 P G) (T195 P G))
noncomputable def T197 (P : Params) (G : Nat → Obj) : BT := (.node (o21_0 P) (T150 P G) (.node (o53_0 P) (.node (G 28) .nil .nil) (.node (o117_0 P) .nil .nil)))
noncomputable def T198 (P : Params) (G : Nat → Obj) : BT := (.node (o13_0 P) (T197 P G) (.node (o29_4 P) (T181 P G) (T130 P G)))
noncomputable def T199 (P : Params) (G : Nat → Obj) : BT := (.node (o5_0 P) (.node (o9_0 P) (T196 P G) (T171 P G)) (T198 P G))
noncomputable def T200 (P : Params) (G : Nat → Obj) : BT := (.node (o20_0 P) (T156 P G) (.node (o52_0 P) (.node (G 27) .nil .nil) (.node (o116_0 P) .nil .nil)))
noncomputable def T201 (P : Params) (G : Nat → Obj) : BT := (.node (o18_0 P) (T159 P G) (.node (o50_0 P) (.node (G 25) .nil .nil) (.node (o114_0 P) .nil .nil)))
noncomputable def T202 (P : Params) (G : Nat → Obj) : BT := (.node (o22_0 P) (T161 P G) (.node (o54_0 P) (.node (G 29) .nil .nil) (.node (o118_0 P) .nil .nil)))
noncomputable def T203 (P : Params) (G : Nat → Obj) : BT := (.node (o14_0 P) (T202 P G) (T189 P G))
noncomputable def T204 (P : Params) (G : Nat → Obj) : BT := (.node (o2_0 P) (.node (o4_0 P) (T185 P G) (.node (o12_0 P) (T200 P G) (T187 P G))) (.node (o6_0 P) (.node (o10_0 P) (T201 P G) (T176 P G)) (T203 P G)))
noncomputable def T10 (P : Params) (G : Nat → Obj) : BT := (.node (o0_0 P) (.node (o1_0 P) (.node (o3_11 P) (T192 P G) (T194 P G)) (T199 P G)) (T204 P G))
noncomputable def n10 : Nat := 120
noncomputable def k10 : Nat := 2386
noncomputable def st10 : Nat := 29
noncomputable def p10 : PySem.Pos := ⟨19, 0, 20, 59⟩
noncomputable def o3_12 (P : Params) : Obj := ⟨(.type "dict"), none, .dict #[(ke P (s "__name__") 165 (.str (s "cpy313.wsgiref.headers") 2386)), (ke P (s "__doc__") 166 .none), (ke P (s "__package__") 167 .none), (ke P (s "__loader__") 168 (.builtin "__main__.__loader__#opaque")), (ke P (s "__spec__") 169 .none), (ke P (s "__annotations__") 170 (.ref 6)), (ke P (s "__builtins__") 171 (.ref 4)), (ke P (s "__file__") 173 (.str (s "/claim/cut.py") 172)), (ke P (s "__cached__") 174 .none), (ke P (s "_sre") 275 (.ref 12)), (ke P (s "_wall") 288 (.ref 38)), (ke P (s "b1_set") 350 (.ref 46)), (ke P (s "in_table_b1") 357 (.ref 56)), (ke P (s "b3_exceptions") 2308 (.ref 57)), (ke P (s "map_table_b3") 2316 (.ref 102)), (ke P (s "_twin_re_1") 2334 (.ref 107)), (ke P (s "_twin_re_2") 2376 (.ref 112)), (ke P (s "CRLF") 2378 (.str (s "\x0d\n") 2377)), (ke P (s "quotedata") 2385 (.ref 119))] 19, #[]⟩
noncomputable def T11 (P : Params) (G : Nat → Obj) : BT := (.node (o0_0 P) (.node (o1_0 P) (.node (o3_12 P) (T192 P G) (T194 P G)) (T199 P G)) (T204 P G))
noncomputable def n11 : Nat := 120
noncomputable def k11 : Nat := 2388
noncomputable def st11 : Nat := 9
noncomputable def p11 : PySem.Pos := ⟨21, 0, 21, 8⟩
noncomputable def o3_13 (P : Params) : Obj := ⟨(.type "dict"), none, .dict #[(ke P (s "__name__") 165 (.str (s "cpy313.wsgiref.headers") 2386)), (ke P (s "__doc__") 166 .none), (ke P (s "__package__") 167 .none), (ke P (s "__loader__") 168 (.builtin "__main__.__loader__#opaque")), (ke P (s "__spec__") 169 .none), (ke P (s "__annotations__") 170 (.ref 6)), (ke P (s "__builtins__") 171 (.ref 4)), (ke P (s "__file__") 173 (.str (s "/claim/cut.py") 172)), (ke P (s "__cached__") 174 .none), (ke P (s "_sre") 275 (.ref 12)), (ke P (s "_wall") 288 (.ref 38)), (ke P (s "b1_set") 350 (.ref 46)), (ke P (s "in_table_b1") 357 (.ref 56)), (ke P (s "b3_exceptions") 2308 (.ref 57)), (ke P (s "map_table_b3") 2316 (.ref 102)), (ke P (s "_twin_re_1") 2334 (.ref 107)), (ke P (s "_twin_re_2") 2376 (.ref 112)), (ke P (s "CRLF") 2378 (.str (s "\x0d\n") 2377)), (ke P (s "quotedata") 2385 (.ref 119)), (ke P (s "_name_disallowed_re") 2413 (.ref 124))] 20, #[]⟩
noncomputable def o120_0 (P : Params) : Obj := ⟨(.type "list"), none, .seq #[(.int 14 2391), (.int 10 2392), (.int 4 2393), (.int 1 2394), (.int 1 2395), (.int 22 2396), (.int 0 2397), (.int 31 2398), (.int 16 2399), (.int 127 2400), (.int 0 2401), (.int 13 2402), (.int 7 2403), (.int 22 2404), (.int 0 2405), (.int 31 2406), (.int 16 2407), (.int 127 2408), (.int 0 2409), (.int 1 2410)] 0, #[]⟩
noncomputable def o121_0 (P : Params) : Obj := ⟨(.type "dict"), none, .dict #[] 0, #[]⟩
noncomputable def o122_0 (P : Params) : Obj := ⟨(.type "tuple"), none, .seq #[.none] 0, #[]⟩
noncomputable def o123_0 (P : Params) : Obj := ⟨(.type "tuple"), none, .seq #[(.int 14 0), (.int 10 0), (.int 4 0), (.int 1 0), (.int 1 0), (.int 22 0), (.int 0 0), (.int 31 0), (.int 16 0), (.int 127 0), (.int 0 0), (.int 13 0), (.int 7 0), (.int 22 0), (.int 0 0), (.int 31 0), (.int 16 0), (.int 127 0), (.int 0 0), (.int 1 0)] 0, #[]⟩
noncomputable def o124_0 (P : Params) : Obj := ⟨(.type "re.Pattern"), none, .fields #[(.str (s "[\\x00-\\x1F\\x7F]") 2389), (.int 32 2412), (.int 0 0), .none, .none, (.ref 123), (.int 0 0)], #[]⟩
noncomputable def T205 (P : Params) (G : Nat → Obj) : BT := (.node (o11_0 P) (T193 P G) (.node (o27_0 P) (T167 P G) (.node (G 2) (.node (G 34) .nil .nil) (.node (o123_0 P) .nil .nil))))
noncomputable def T206 (P : Params) (G : Nat → Obj) : BT := (.node (o25_0 P) (T170 P G) (.node (G 0) (.node (G 32) .nil .nil) (.node (o121_0 P) .nil .nil)))
noncomputable def T207 (P : Params) (G : Nat → Obj) : BT := (.node (o24_0 P) (T173 P G) (.node (o56_0 P) (.node (G 31) .nil .nil) (.node (o120_0 P) .nil .nil)))
noncomputable def T208 (P : Params) (G : Nat → Obj) : BT := (.node (o12_0 P) (T200 P G) (.node (o28_0 P) (T186 P G) (.node (G 3) (.node (G 35) .nil .nil) (.node (o124_0 P) .nil .nil))))
noncomputable def T209 (P : Params) (G : Nat → Obj) : BT := (.node (o10_0 P) (T201 P G) (.node (o26_0 P) (T175 P G) (.node (G 1) (.node (G 33) .nil .nil) (.node (o122_0 P) .nil .nil))))
noncomputable def T12 (P : Params) (G : Nat → Obj) : BT := (.node (o0_0 P) (.node (o1_0 P) (.node (o3_13 P) (T192 P G) (T205 P G)) (.node (o5_0 P) (.node (o9_0 P) (T196 P G) (T206 P G)) (T198 P G))) (.node (o2_0 P) (.node (o4_0 P) (.node (o8_0 P) (T184 P G) (T207 P G)) (T208 P G)) (.node (o6_0 P) (T209 P G) (T203 P G))))
noncomputable def n12 : Nat := 125
noncomputable def k12 : Nat := 2414
noncomputable def st12 : Nat := 69
noncomputable def p12 : PySem.Pos := ⟨22, 0, 22, 19⟩
noncomputable def o3_14 (P : Params) : Obj := ⟨(.type "dict"), none, .dict #[(ke P (s "__name__") 165 (.str (s "cpy313.wsgiref.headers") 2386)), (ke P (s "__doc__") 166 .none), (ke P (s "__package__") 167 .none), (ke P (s "__loader__") 168 (.builtin "__main__.__loader__#opaque")), (ke P (s "__spec__") 169 .none), (ke P (s "__annotations__") 170 (.ref 6)), (ke P (s "__builtins__") 171 (.ref 4)), (ke P (s "__file__") 173 (.str (s "/claim/cut.py") 172)), (ke P (s "__cached__") 174 .none), (ke P (s "_sre") 275 (.ref 12)), (ke P (s "_wall") 288 (.ref 38)), (ke P (s "b1_set") 350 (.ref 46)), (ke P (s "in_table_b1") 357 (.ref 56)), (ke P (s "b3_exceptions") 2308 (.ref 57)), (ke P (s "map_table_b3") 2316 (.ref 102)), (ke P (s "_twin_re_1") 2334 (.ref 107)), (ke P (s "_twin_re_2") 2376 (.ref 112)), (ke P (s "CRLF") 2378 (.str (s "\x0d\n") 2377)), (ke P (s "quotedata") 2385 (.ref 119)), (ke P (s "_name_disallowed_re") 2413 (.ref 124)), (ke P (s "_value_disallowed_re") 2447 (.ref 129))] 21, #[]⟩
noncomputable def o125_0 (P : Params) : Obj := ⟨(.type "list"), none, .seq #[(.int 14 2417), (.int 14 2418), (.int 4 2419), (.int 1 2420), (.int 1 2421), (.int 9 2422), (.int 4294966783 2423), (.int 0 2424), (.int 0 2425), (.int 2147483648 2426), (.int 0 2427), (.int 0 2428), (.int 0 2429), (.int 0 2430), (.int 0 2431), (.int 13 2432), (.int 11 2433), (.int 9 2434), (.int 4294966783 2435), (.int 0 2436), (.int 0 2437), (.int 2147483648 2438), (.int 0 2439), (.int 0 2440), (.int 0 2441), (.int 0 2442), (.int 0 2443), (.int 1 2444)] 0, #[]⟩
noncomputable def o126_0 (P : Params) : Obj := ⟨(.type "dict"), none, .dict #[] 0, #[]⟩
noncomputable def o127_0 (P : Params) : Obj := ⟨(.type "tuple"), none, .seq #[.none] 0, #[]⟩
noncomputable def o128_0 (P : Params) : Obj := ⟨(.type "tuple"), none, .seq #[(.int 14 0), (.int 14 0), (.int 4 0), (.int 1 0), (.int 1 0), (.int 9 0), (.int 4294966783 0), (.int 0 0), (.int 0 0), (.int 2147483648 0), (.int 0 0), (.int 0 0), (.int 0 0), (.int 0 0), (.int 0 0), (.int 13 0), (.int 11 0), (.int 9 0), (.int 4294966783 0), (.int 0 0), (.int 0 0), (.int 2147483648 0), (.int 0 0), (.int 0 0), (.int 0 0), (.int 0 0), (.int 0 0), (.int 1 0)] 0, #[]⟩
noncomputable def o129_0 (P : Params) : Obj := ⟨(.type "re.Pattern"), none, .fields #[(.str (s "[\\x00-\\x08\\x0A-\\x1F\\x7F]") 2415), (.int 32 2446), (.int 0 0), .none, .none, (.ref 128), (.int 0 0)], #[]⟩
noncomputable def T13 (P : Params) (G : Nat → Obj) : BT := (.node (o0_0 P) (.node (o1_0 P) (.node (o3_14 P) (.node (o7_0 P) (.node (o15_0 P) (.node (o31_0 P) (.node (G 6) (.node (o127_0 P) .nil .nil) .nil) (.node (G 38) .nil .nil)) (T178 P G)) (T191 P G)) (T205 P G)) (.node (o5_0 P) (.node (o9_0 P) (.node (o17_0 P) (.node (o33_0 P) (.node (G 8) (.node (o129_0 P) .nil .nil) .nil) (.node (o97_0 P) .nil .nil)) (T195 P G)) (T206 P G)) (.node (o13_0 P) (T197 P G) (.node (o29_4 P) (T181 P G) (.node (G 4) (.node (G 36) .nil .nil) (.node (o125_0 P) .nil .nil)))))) (.node (o2_0 P) (.node (o4_0 P) (.node (o8_0 P) (.node (o16_0 P) (.node (o32_0 P) (.node (G 7) (.node (o128_0 P) .nil .nil) .nil) (.node (o96_0 P) .nil .nil)) (T183 P G)) (T207 P G)) (T208 P G)) (.node (o6_0 P) (T209 P G) (.node (o14_0 P) (T202 P G) (.node (o30_0 P) (T188 P G) (.node (G 5) (.node (G 37) .nil .nil) (.node (o126_0 P) .nil .nil)))))))
noncomputable def n13 : Nat := 130
noncomputable def k13 : Nat := 2448
noncomputable def st13 : Nat := 77
noncomputable def p13 : PySem.Pos := ⟨23, 0, 23, 20⟩
noncomputable def o3_15 (P : Params) : Obj := ⟨(.type "dict"), none, .dict #[(ke P (s "__name__") 165 (.str (s "cpy313.wsgiref.headers") 2386)), (ke P (s "__doc__") 166 .none), (ke P (s "__package__") 167 .none), (ke P (s "__loader__") 168 (.builtin "__main__.__loader__#opaque")), (ke P (s "__spec__") 169 .none), (ke P (s "__annotations__") 170 (.ref 6)), (ke P (s "__builtins__") 171 (.ref 4)), (ke P (s "__file__") 173 (.str (s "/claim/cut.py") 172)), (ke P (s "__cached__") 174 .none), (ke P (s "_sre") 275 (.ref 12)), (ke P (s "_wall") 288 (.ref 38)), (ke P (s "b1_set") 350 (.ref 46)), (ke P (s "in_table_b1") 357 (.ref 56)), (ke P (s "b3_exceptions") 2308 (.ref 57)), (ke P (s "map_table_b3") 2316 (.ref 102)), (ke P (s "_twin_re_1") 2334 (.ref 107)), (ke P (s "_twin_re_2") 2376 (.ref 112)), (ke P (s "CRLF") 2378 (.str (s "\x0d\n") 2377)), (ke P (s "quotedata") 2385 (.ref 119)), (ke P (s "_name_disallowed_re") 2413 (.ref 124)), (ke P (s "_value_disallowed_re") 2447 (.ref 129)), (ke P (s "Headers") 2604 (.ref 252))] 22, #[]⟩
noncomputable def o29_5 (P : Params) : Obj := ⟨.none, none, .fields #[(.int 2 0), (.int 0 0), (.ref 37), (.int 7 0), (.int 0 0), (.ref 55), (.int 10 0), (.int 0 0), (.ref 101), (.int 19 0), (.int 0 0), (.ref 118), (.int 24 0), (.int 0 0), (.ref 135)], #[]⟩
noncomputable def o130_0 (P : Params) : Obj := ⟨(.type "tuple"), none, .seq #[] 0, #[]⟩
noncomputable def o131_0 (P : Params) : Obj := ⟨(.type "builtin_function_or_method"), none, .fields #[(.builtin "type.__prepare__"), (.type "type")], #[]⟩
noncomputable def o132_0 (P : Params) : Obj := ⟨(.type "dict"), none, .dict #[(ke P (s "__module__") 2455 (.str (s "cpy313.wsgiref.headers") 2386)), (ke P (s "__qualname__") 2457 (.str (s "Headers") 2456)), (ke P (s "__firstlineno__") 2459 (.int 24 2458)), (ke P (s "__init__") 2469 (.ref 144)), (ke P (s "_convert_string_type") 2479 (.ref 151)), (ke P (s "__len__") 2486 (.ref 158)), (ke P (s "__setitem__") 2495 (.ref 165)), (ke P (s "__delitem__") 2501 (.ref 170)), (ke P (s "__getitem__") 2509 (.ref 177)), (ke P (s "__contains__") 2517 (.ref 184)), (ke P (s "get_all") 2525 (.ref 191)), (ke P (s "get") 2536 (.ref 199)), (ke P (s "keys") 2542 (.ref 204)), (ke P (s "values") 2548 (.ref 209)), (ke P (s "items") 2555 (.ref 216)), (ke P (s "__repr__") 2562 (.ref 223)), (ke P (s "__str__") 2568 (.ref 228)), (ke P (s "__bytes__") 2575 (.ref 235)), (ke P (s "setdefault") 2585 (.ref 242)), (ke P (s "add_header") 2595 (.ref 249)), (ke P (s "__static_attributes__") 2597 (.ref 250))] 21, #[]⟩
noncomputable def o133_0 (P : Params) : Obj := ⟨(.type "tuple"), none, .seq #[] 0, #[]⟩
noncomputable def o134_0 (P : Params) : Obj := ⟨.none, none, .fields #[(.int 26 0), (.int 4 0), (.ref 143), (.int 36 0), (.int 4 0), (.ref 150), (.int 44 0), (.int 4 0), (.ref 157), (.int 47 0), (.int 4 0), (.ref 164), (.int 51 0), (.int 4 0), (.ref 169), (.int 55 0), (.int 4 0), (.ref 176), (.int 58 0), (.int 4 0), (.ref 183), (.int 61 0), (.int 4 0), (.ref 190), (.int 64 0), (.int 4 0), (.ref 198), (.int 71 0), (.int 4 0), (.ref 203), (.int 74 0), (.int 4 0), (.ref 208), (.int 77 0), (.int 4 0), (.ref 215), (.int 80 0), (.int 4 0), (.ref 222), (.int 83 0), (.int 4 0), (.ref 227), (.int 86 0), (.int 4 0), (.ref 234), (.int 89 0), (.int 4 0), (.ref 241), (.int 97 0), (.int 4 0), (.ref 248)], #[]⟩
noncomputable def o135_0 (P : Params) : Obj := ⟨(.type "code"), none, .fields #[(.str (s "Headers") 2450), (.str (s "Headers") 2451), (.str (s "/claim/cut.py") 2452), (.int 24 0), (.int 0 0), (.int 0 0), (.int 0 0), (.int 0 0), (.ref 133), (.bool false), (.int 276 0), (.ref 134), .none, .none, .none, .none, (.int 2453 0), (.int 24 0), (.str (s "/claim/cut.py") 2454)], #[]⟩
noncomputable def o136_0 (P : Params) : Obj := ⟨(.type "frame"), none, .plain, #[(some (.ref 135)), (some (.ref 3)), (some (.ref 132)), none, (some (.str (s "cpy313.wsgiref.headers") 2386)), none, (some (.ref 0))]⟩
noncomputable def o137_0 (P : Params) : Obj := ⟨(.type "tuple"), none, .seq #[.none] 0, #[]⟩
noncomputable def o138_0 (P : Params) : Obj := ⟨(.type "tuple"), none, .seq #[] 0, #[]⟩
noncomputable def o139_0 (P : Params) : Obj := ⟨.none, none, .fields #[], #[]⟩
noncomputable def o140_0 (P : Params) : Obj := ⟨(.type "tuple"), none, .seq #[(.str (s "self") 2463), (.str (s "headers") 2464), (.str (s "k") 2465), (.str (s "v") 2466)] 0, #[]⟩
noncomputable def o141_0 (P : Params) : Obj := ⟨(.type "tuple"), none, .seq #[] 0, #[]⟩
noncomputable def o142_0 (P : Params) : Obj := ⟨.none, none, .func ⟨(s "__init__"), (s "Headers.__init__"), fArgs (cd 15 0), .stmts (fBody (cd 15 0)), fScope (cd 15 0), 0, [], .none, .none, .none, .none, none, .none, .none, 0⟩, #[]⟩
noncomputable def o143_0 (P : Params) : Obj := ⟨(.type "code"), none, .fields #[(.str (s "__init__") 2460), (.str (s "Headers.__init__") 2461), (.str (s "/claim/cut.py") 2462), (.int 26 0), (.int 2 0), (.int 0 0), (.int 0 0), (.int 3 0), (.ref 138), (.bool true), (.int 276 0), (.ref 139), .none, (.ref 140), (.ref 141), (.ref 142), (.int 2467 0), (.int 26 0), (.str (s "/claim/cut.py") 2468)], #[]⟩
noncomputable def o144_0 (P : Params) : Obj := ⟨(.type "function"), none, .func ⟨(s "__init__"), (s "Headers.__init__"), fArgs (cd 15 0), .stmts (fBody (cd 15 0)), fScope (cd 15 0), 3, [], (.ref 137), .none, .none, (.str (s "cpy313.wsgiref.headers") 2386), none, (.ref 143), .none, 0⟩, #[]⟩
noncomputable def o145_0 (P : Params) : Obj := ⟨(.type "tuple"), none, .seq #[] 0, #[]⟩
noncomputable def o146_0 (P : Params) : Obj := ⟨.none, none, .fields #[], #[]⟩
noncomputable def o147_0 (P : Params) : Obj := ⟨(.type "tuple"), none, .seq #[(.str (s "self") 2473), (.str (s "value") 2474), (.str (s "name") 2475), (.str (s "regex") 2476)] 0, #[]⟩
noncomputable def o148_0 (P : Params) : Obj := ⟨(.type "tuple"), none, .seq #[] 0, #[]⟩
noncomputable def o149_0 (P : Params) : Obj := ⟨.none, none, .func ⟨(s "_convert_string_type"), (s "Headers._convert_string_type"), fArgs (cd 15 1), .stmts (fBody (cd 15 1)), fScope (cd 15 1), 0, [], .none, .none, .none, .none, none, .none, .none, 0⟩, #[]⟩
noncomputable def o150_0 (P : Params) : Obj := ⟨(.type "code"), none, .fields #[(.str (s "_convert_string_type") 2470), (.str (s "Headers._convert_string_type") 2471), (.str (s "/claim/cut.py") 2472), (.int 36 0), (.int 2 0), (.int 0 0), (.int 1 0), (.int 3 0), (.ref 145), (.bool true), (.int 276 0), (.ref 146), .none, (.ref 147), (.ref 148), (.ref 149), (.int 2477 0), (.int 36 0), (.str (s "/claim/cut.py") 2478)], #[]⟩
noncomputable def o151_0 (P : Params) : Obj := ⟨(.type "function"), none, .func ⟨(s "_convert_string_type"), (s "Headers._convert_string_type"), fArgs (cd 15 1), .stmts (fBody (cd 15 1)), fScope (cd 15 1), 3, [], .none, .none, .none, (.str (s "cpy313.wsgiref.headers") 2386), none, (.ref 150), .none, 0⟩, #[]⟩
noncomputable def o152_0 (P : Params) : Obj := ⟨(.type "tuple"), none, .seq #[] 0, #[]⟩
noncomputable def o153_0 (P : Params) : Obj := ⟨.none, none, .fields #[], #[]⟩
noncomputable def o154_0 (P : Params) : Obj := ⟨(.type "tuple"), none, .seq #[(.str (s "self") 2483)] 0, #[]⟩
noncomputable def o155_0 (P : Params) : Obj := ⟨(.type "tuple"), none, .seq #[] 0, #[]⟩
noncomputable def o156_0 (P : Params) : Obj := ⟨.none, none, .func ⟨(s "__len__"), (s "Headers.__len__"), fArgs (cd 15 2), .stmts (fBody (cd 15 2)), fScope (cd 15 2), 0, [], .none, .none, .none, .none, none, .none, .none, 0⟩, #[]⟩
noncomputable def o157_0 (P : Params) : Obj := ⟨(.type "code"), none, .fields #[(.str (s "__len__") 2480), (.str (s "Headers.__len__") 2481), (.str (s "/claim/cut.py") 2482), (.int 44 0), (.int 1 0), (.int 0 0), (.int 0 0), (.int 3 0), (.ref 152), (.bool true), (.int 276 0), (.ref 153), .none, (.ref 154), (.ref 155), (.ref 156), (.int 2484 0), (.int 44 0), (.str (s "/claim/cut.py") 2485)], #[]⟩
noncomputable def o158_0 (P : Params) : Obj := ⟨(.type "function"), none, .func ⟨(s "__len__"), (s "Headers.__len__"), fArgs (cd 15 2), .stmts (fBody (cd 15 2)), fScope (cd 15 2), 3, [], .none, .none, .none, (.str (s "cpy313.wsgiref.headers") 2386), none, (.ref 157), .none, 0⟩, #[]⟩
noncomputable def o159_0 (P : Params) : Obj := ⟨(.type "tuple"), none, .seq #[] 0, #[]⟩
noncomputable def o160_0 (P : Params) : Obj := ⟨.none, none, .fields #[], #[]⟩
noncomputable def o161_0 (P : Params) : Obj := ⟨(.type "tuple"), none, .seq #[(.str (s "self") 2490), (.str (s "name") 2491), (.str (s "val") 2492)] 0, #[]⟩
noncomputable def o162_0 (P : Params) : Obj := ⟨(.type "tuple"), none, .seq #[] 0, #[]⟩
noncomputable def o163_0 (P : Params) : Obj := ⟨.none, none, .func ⟨(s "__setitem__"), (s "Headers.__setitem__"), fArgs (cd 15 3), .stmts (fBody (cd 15 3)), fScope (cd 15 3), 0, [], .none, .none, .none, .none, none, .none, .none, 0⟩, #[]⟩
noncomputable def o164_0 (P : Params) : Obj := ⟨(.type "code"), none, .fields #[(.str (s "__setitem__") 2487), (.str (s "Headers.__setitem__") 2488), (.str (s "/claim/cut.py") 2489), (.int 47 0), (.int 3 0), (.int 0 0), (.int 0 0), (.int 3 0), (.ref 159), (.bool true), (.int 276 0), (.ref 160), .none, (.ref 161), (.ref 162), (.ref 163), (.int 2493 0), (.int 47 0), (.str (s "/claim/cut.py") 2494)], #[]⟩
noncomputable def o165_0 (P : Params) : Obj := ⟨(.type "function"), none, .func ⟨(s "__setitem__"), (s "Headers.__setitem__"), fArgs (cd 15 3), .stmts (fBody (cd 15 3)), fScope (cd 15 3), 3, [], .none, .none, .none, (.str (s "cpy313.wsgiref.headers") 2386), none, (.ref 164), .none, 0⟩, #[]⟩
noncomputable def o166_0 (P : Params) : Obj := ⟨(.type "tuple"), none, .seq #[] 0, #[]⟩
noncomputable def o167_0 (P : Params) : Obj := ⟨.none, none, .fields #[], #[]⟩
noncomputable def o168_0 (P : Params) : Obj := ⟨.none, none, .func ⟨(s "__delitem__"), (s "Headers.__delitem__"), fArgs (cd 15 4), .stmts (fBody (cd 15 4)), fScope (cd 15 4), 0, [], .none, .none, .none, .none, none, .none, .none, 0⟩, #[]⟩
noncomputable def o169_0 (P : Params) : Obj := ⟨(.type "code"), none, .fields #[(.str (s "__delitem__") 2496), (.str (s "Headers.__delitem__") 2497), (.str (s "/claim/cut.py") 2498), (.int 51 0), (.int 2 0), (.int 0 0), (.int 0 0), (.int 3 0), (.ref 166), (.bool true), (.int 276 0), (.ref 167), .none, .none, .none, (.ref 168), (.int 2499 0), (.int 51 0), (.str (s "/claim/cut.py") 2500)], #[]⟩
noncomputable def o170_0 (P : Params) : Obj := ⟨(.type "function"), none, .func ⟨(s "__delitem__"), (s "Headers.__delitem__"), fArgs (cd 15 4), .stmts (fBody (cd 15 4)), fScope (cd 15 4), 3, [], .none, .none, .none, (.str (s "cpy313.wsgiref.headers") 2386), none, (.ref 169), .none, 0⟩, #[]⟩
noncomputable def o171_0 (P : Params) : Obj := ⟨(.type "tuple"), none, .seq #[] 0, #[]⟩
noncomputable def o172_0 (P : Params) : Obj := ⟨.none, none, .fields #[], #[]⟩
noncomputable def o173_0 (P : Params) : Obj := ⟨(.type "tuple"), none, .seq #[(.str (s "self") 2505), (.str (s "name") 2506)] 0, #[]⟩
noncomputable def o174_0 (P : Params) : Obj := ⟨(.type "tuple"), none, .seq #[] 0, #[]⟩
noncomputable def o175_0 (P : Params) : Obj := ⟨.none, none, .func ⟨(s "__getitem__"), (s "Headers.__getitem__"), fArgs (cd 15 5), .stmts (fBody (cd 15 5)), fScope (cd 15 5), 0, [], .none, .none, .none, .none, none, .none, .none, 0⟩, #[]⟩
noncomputable def o176_0 (P : Params) : Obj := ⟨(.type "code"), none, .fields #[(.str (s "__getitem__") 2502), (.str (s "Headers.__getitem__") 2503), (.str (s "/claim/cut.py") 2504), (.int 55 0), (.int 2 0), (.int 0 0), (.int 0 0), (.int 3 0), (.ref 171), (.bool true), (.int 276 0), (.ref 172), .none, (.ref 173), (.ref 174), (.ref 175), (.int 2507 0), (.int 55 0), (.str (s "/claim/cut.py") 2508)], #[]⟩
noncomputable def o177_0 (P : Params) : Obj := ⟨(.type "function"), none, .func ⟨(s "__getitem__"), (s "Headers.__getitem__"), fArgs (cd 15 5), .stmts (fBody (cd 15 5)), fScope (cd 15 5), 3, [], .none, .none, .none, (.str (s "cpy313.wsgiref.headers") 2386), none, (.ref 176), .none, 0⟩, #[]⟩
noncomputable def o178_0 (P : Params) : Obj := ⟨(.type "tuple"), none, .seq #[] 0, #[]⟩
noncomputable def o179_0 (P : Params) : Obj := ⟨.none, none, .fields #[], #[]⟩
noncomputable def o180_0 (P : Params) : Obj := ⟨(.type "tuple"), none, .seq #[(.str (s "self") 2513), (.str (s "name") 2514)] 0, #[]⟩
noncomputable def o181_0 (P : Params) : Obj := ⟨(.type "tuple"), none, .seq #[] 0, #[]⟩
noncomputable def o182_0 (P : Params) : Obj := ⟨.none, none, .func ⟨(s "__contains__"), (s "Headers.__contains__"), fArgs (cd 15 6), .stmts (fBody (cd 15 6)), fScope (cd 15 6), 0, [], .none, .none, .none, .none, none, .none, .none, 0⟩, #[]⟩
noncomputable def o183_0 (P : Params) : Obj := ⟨(.type "code"), none, .fields #[(.str (s "__contains__") 2510), (.str (s "Headers.__contains__") 2511), (.str (s "/claim/cut.py") 2512), (.int 58 0), (.int 2 0), (.int 0 0), (.int 0 0), (.int 3 0), (.ref 178), (.bool true), (.int 276 0), (.ref 179), .none, (.ref 180), (.ref 181), (.ref 182), (.int 2515 0), (.int 58 0), (.str (s "/claim/cut.py") 2516)], #[]⟩
noncomputable def o184_0 (P : Params) : Obj := ⟨(.type "function"), none, .func ⟨(s "__contains__"), (s "Headers.__contains__"), fArgs (cd 15 6), .stmts (fBody (cd 15 6)), fScope (cd 15 6), 3, [], .none, .none, .none, (.str (s "cpy313.wsgiref.headers") 2386), none, (.ref 183), .none, 0⟩, #[]⟩
noncomputable def o185_0 (P : Params) : Obj := ⟨(.type "tuple"), none, .seq #[] 0, #[]⟩
noncomputable def o186_0 (P : Params) : Obj := ⟨.none, none, .fields #[], #[]⟩
noncomputable def o187_0 (P : Params) : Obj := ⟨(.type "tuple"), none, .seq #[(.str (s "self") 2521), (.str (s "name") 2522)] 0, #[]⟩
noncomputable def o188_0 (P : Params) : Obj := ⟨(.type "tuple"), none, .seq #[] 0, #[]⟩
noncomputable def o189_0 (P : Params) : Obj := ⟨.none, none, .func ⟨(s "get_all"), (s "Headers.get_all"), fArgs (cd 15 7), .stmts (fBody (cd 15 7)), fScope (cd 15 7), 0, [], .none, .none, .none, .none, none, .none, .none, 0⟩, #[]⟩
noncomputable def o190_0 (P : Params) : Obj := ⟨(.type "code"), none, .fields #[(.str (s "get_all") 2518), (.str (s "Headers.get_all") 2519), (.str (s "/claim/cut.py") 2520), (.int 61 0), (.int 2 0), (.int 0 0), (.int 0 0), (.int 3 0), (.ref 185), (.bool true), (.int 276 0), (.ref 186), .none, (.ref 187), (.ref 188), (.ref 189), (.int 2523 0), (.int 61 0), (.str (s "/claim/cut.py") 2524)], #[]⟩
noncomputable def o191_0 (P : Params) : Obj := ⟨(.type "function"), none, .func ⟨(s "get_all"), (s "Headers.get_all"), fArgs (cd 15 7), .stmts (fBody (cd 15 7)), fScope (cd 15 7), 3, [], .none, .none, .none, (.str (s "cpy313.wsgiref.headers") 2386), none, (.ref 190), .none, 0⟩, #[]⟩
noncomputable def o192_0 (P : Params) : Obj := ⟨(.type "tuple"), none, .seq #[.none] 0, #[]⟩
noncomputable def o193_0 (P : Params) : Obj := ⟨(.type "tuple"), none, .seq #[] 0, #[]⟩
noncomputable def o194_0 (P : Params) : Obj := ⟨.none, none, .fields #[], #[]⟩
noncomputable def o195_0 (P : Params) : Obj := ⟨(.type "tuple"), none, .seq #[(.str (s "self") 2529), (.str (s "name") 2530), (.str (s "default") 2531), (.str (s "k") 2532), (.str (s "v") 2533)] 0, #[]⟩
noncomputable def o196_0 (P : Params) : Obj := ⟨(.type "tuple"), none, .seq #[] 0, #[]⟩
noncomputable def o197_0 (P : Params) : Obj := ⟨.none, none, .func ⟨(s "get"), (s "Headers.get"), fArgs (cd 15 8), .stmts (fBody (cd 15 8)), fScope (cd 15 8), 0, [], .none, .none, .none, .none, none, .none, .none, 0⟩, #[]⟩
noncomputable def o198_0 (P : Params) : Obj := ⟨(.type "code"), none, .fields #[(.str (s "get") 2526), (.str (s "Headers.get") 2527), (.str (s "/claim/cut.py") 2528), (.int 64 0), (.int 3 0), (.int 0 0), (.int 0 0), (.int 3 0), (.ref 193), (.bool true), (.int 276 0), (.ref 194), .none, (.ref 195), (.ref 196), (.ref 197), (.int 2534 0), (.int 64 0), (.str (s "/claim/cut.py") 2535)], #[]⟩
noncomputable def o199_0 (P : Params) : Obj := ⟨(.type "function"), none, .func ⟨(s "get"), (s "Headers.get"), fArgs (cd 15 8), .stmts (fBody (cd 15 8)), fScope (cd 15 8), 3, [], (.ref 192), .none, .none, (.str (s "cpy313.wsgiref.headers") 2386), none, (.ref 198), .none, 0⟩, #[]⟩
noncomputable def o200_0 (P : Params) : Obj := ⟨(.type "tuple"), none, .seq #[] 0, #[]⟩
noncomputable def o201_0 (P : Params) : Obj := ⟨.none, none, .fields #[], #[]⟩
noncomputable def o202_0 (P : Params) : Obj := ⟨.none, none, .func ⟨(s "keys"), (s "Headers.keys"), fArgs (cd 15 9), .stmts (fBody (cd 15 9)), fScope (cd 15 9), 0, [], .none, .none, .none, .none, none, .none, .none, 0⟩, #[]⟩
noncomputable def o203_0 (P : Params) : Obj := ⟨(.type "code"), none, .fields #[(.str (s "keys") 2537), (.str (s "Headers.keys") 2538), (.str (s "/claim/cut.py") 2539), (.int 71 0), (.int 1 0), (.int 0 0), (.int 0 0), (.int 3 0), (.ref 200), (.bool true), (.int 276 0), (.ref 201), .none, .none, .none, (.ref 202), (.int 2540 0), (.int 71 0), (.str (s "/claim/cut.py") 2541)], #[]⟩
noncomputable def o204_0 (P : Params) : Obj := ⟨(.type "function"), none, .func ⟨(s "keys"), (s "Headers.keys"), fArgs (cd 15 9), .stmts (fBody (cd 15 9)), fScope (cd 15 9), 3, [], .none, .none, .none, (.str (s "cpy313.wsgiref.headers") 2386), none, (.ref 203), .none, 0⟩, #[]⟩
noncomputable def o205_0 (P : Params) : Obj := ⟨(.type "tuple"), none, .seq #[] 0, #[]⟩
noncomputable def o206_0 (P : Params) : Obj := ⟨.none, none, .fields #[], #[]⟩
noncomputable def o207_0 (P : Params) : Obj := ⟨.none, none, .func ⟨(s "values"), (s "Headers.values"), fArgs (cd 15 10), .stmts (fBody (cd 15 10)), fScope (cd 15 10), 0, [], .none, .none, .none, .none, none, .none, .none, 0⟩, #[]⟩
noncomputable def o208_0 (P : Params) : Obj := ⟨(.type "code"), none, .fields #[(.str (s "values") 2543), (.str (s "Headers.values") 2544), (.str (s "/claim/cut.py") 2545), (.int 74 0), (.int 1 0), (.int 0 0), (.int 0 0), (.int 3 0), (.ref 205), (.bool true), (.int 276 0), (.ref 206), .none, .none, .none, (.ref 207), (.int 2546 0), (.int 74 0), (.str (s "/claim/cut.py") 2547)], #[]⟩
noncomputable def o209_0 (P : Params) : Obj := ⟨(.type "function"), none, .func ⟨(s "values"), (s "Headers.values"), fArgs (cd 15 10), .stmts (fBody (cd 15 10)), fScope (cd 15 10), 3, [], .none, .none, .none, (.str (s "cpy313.wsgiref.headers") 2386), none, (.ref 208), .none, 0⟩, #[]⟩
noncomputable def o210_0 (P : Params) : Obj := ⟨(.type "tuple"), none, .seq #[] 0, #[]⟩
noncomputable def o211_0 (P : Params) : Obj := ⟨.none, none, .fields #[], #[]⟩
noncomputable def o212_0 (P : Params) : Obj := ⟨(.type "tuple"), none, .seq #[(.str (s "self") 2552)] 0, #[]⟩
noncomputable def o213_0 (P : Params) : Obj := ⟨(.type "tuple"), none, .seq #[] 0, #[]⟩
noncomputable def o214_0 (P : Params) : Obj := ⟨.none, none, .func ⟨(s "items"), (s "Headers.items"), fArgs (cd 15 11), .stmts (fBody (cd 15 11)), fScope (cd 15 11), 0, [], .none, .none, .none, .none, none, .none, .none, 0⟩, #[]⟩
noncomputable def o215_0 (P : Params) : Obj := ⟨(.type "code"), none, .fields #[(.str (s "items") 2549), (.str (s "Headers.items") 2550), (.str (s "/claim/cut.py") 2551), (.int 77 0), (.int 1 0), (.int 0 0), (.int 0 0), (.int 3 0), (.ref 210), (.bool true), (.int 276 0), (.ref 211), .none, (.ref 212), (.ref 213), (.ref 214), (.int 2553 0), (.int 77 0), (.str (s "/claim/cut.py") 2554)], #[]⟩
noncomputable def o216_0 (P : Params) : Obj := ⟨(.type "function"), none, .func ⟨(s "items"), (s "Headers.items"), fArgs (cd 15 11), .stmts (fBody (cd 15 11)), fScope (cd 15 11), 3, [], .none, .none, .none, (.str (s "cpy313.wsgiref.headers") 2386), none, (.ref 215), .none, 0⟩, #[]⟩
noncomputable def o217_0 (P : Params) : Obj := ⟨(.type "tuple"), none, .seq #[] 0, #[]⟩
noncomputable def o218_0 (P : Params) : Obj := ⟨.none, none, .fields #[], #[]⟩
noncomputable def o219_0 (P : Params) : Obj := ⟨(.type "tuple"), none, .seq #[(.str (s "self") 2559)] 0, #[]⟩
noncomputable def o220_0 (P : Params) : Obj := ⟨(.type "tuple"), none, .seq #[] 0, #[]⟩
noncomputable def o221_0 (P : Params) : Obj := ⟨.none, none, .func ⟨(s "__repr__"), (s "Headers.__repr__"), fArgs (cd 15 12), .stmts (fBody (cd 15 12)), fScope (cd 15 12), 0, [], .none, .none, .none, .none, none, .none, .none, 0⟩, #[]⟩
noncomputable def o222_0 (P : Params) : Obj := ⟨(.type "code"), none, .fields #[(.str (s "__repr__") 2556), (.str (s "Headers.__repr__") 2557), (.str (s "/claim/cut.py") 2558), (.int 80 0), (.int 1 0), (.int 0 0), (.int 0 0), (.int 3 0), (.ref 217), (.bool true), (.int 276 0), (.ref 218), .none, (.ref 219), (.ref 220), (.ref 221), (.int 2560 0), (.int 80 0), (.str (s "/claim/cut.py") 2561)], #[]⟩
noncomputable def o223_0 (P : Params) : Obj := ⟨(.type "function"), none, .func ⟨(s "__repr__"), (s "Headers.__repr__"), fArgs (cd 15 12), .stmts (fBody (cd 15 12)), fScope (cd 15 12), 3, [], .none, .none, .none, (.str (s "cpy313.wsgiref.headers") 2386), none, (.ref 222), .none, 0⟩, #[]⟩
noncomputable def o224_0 (P : Params) : Obj := ⟨(.type "tuple"), none, .seq #[] 0, #[]⟩
noncomputable def o225_0 (P : Params) : Obj := ⟨.none, none, .fields #[], #[]⟩
noncomputable def o226_0 (P : Params) : Obj := ⟨.none, none, .func ⟨(s "__str__"), (s "Headers.__str__"), fArgs (cd 15 13), .stmts (fBody (cd 15 13)), fScope (cd 15 13), 0, [], .none, .none, .none, .none, none, .none, .none, 0⟩, #[]⟩
noncomputable def o227_0 (P : Params) : Obj := ⟨(.type "code"), none, .fields #[(.str (s "__str__") 2563), (.str (s "Headers.__str__") 2564), (.str (s "/claim/cut.py") 2565), (.int 83 0), (.int 1 0), (.int 0 0), (.int 0 0), (.int 3 0), (.ref 224), (.bool true), (.int 276 0), (.ref 225), .none, .none, .none, (.ref 226), (.int 2566 0), (.int 83 0), (.str (s "/claim/cut.py") 2567)], #[]⟩
noncomputable def o228_0 (P : Params) : Obj := ⟨(.type "function"), none, .func ⟨(s "__str__"), (s "Headers.__str__"), fArgs (cd 15 13), .stmts (fBody (cd 15 13)), fScope (cd 15 13), 3, [], .none, .none, .none, (.str (s "cpy313.wsgiref.headers") 2386), none, (.ref 227), .none, 0⟩, #[]⟩
noncomputable def o229_0 (P : Params) : Obj := ⟨(.type "tuple"), none, .seq #[] 0, #[]⟩
noncomputable def o230_0 (P : Params) : Obj := ⟨.none, none, .fields #[], #[]⟩
noncomputable def o231_0 (P : Params) : Obj := ⟨(.type "tuple"), none, .seq #[(.str (s "self") 2572)] 0, #[]⟩
noncomputable def o232_0 (P : Params) : Obj := ⟨(.type "tuple"), none, .seq #[] 0, #[]⟩
noncomputable def o233_0 (P : Params) : Obj := ⟨.none, none, .func ⟨(s "__bytes__"), (s "Headers.__bytes__"), fArgs (cd 15 14), .stmts (fBody (cd 15 14)), fScope (cd 15 14), 0, [], .none, .none, .none, .none, none, .none, .none, 0⟩, #[]⟩
noncomputable def o234_0 (P : Params) : Obj := ⟨(.type "code"), none, .fields #[(.str (s "__bytes__") 2569), (.str (s "Headers.__bytes__") 2570), (.str (s "/claim/cut.py") 2571), (.int 86 0), (.int 1 0), (.int 0 0), (.int 0 0), (.int 3 0), (.ref 229), (.bool true), (.int 276 0), (.ref 230), .none, (.ref 231), (.ref 232), (.ref 233), (.int 2573 0), (.int 86 0), (.str (s "/claim/cut.py") 2574)], #[]⟩
noncomputable def o235_0 (P : Params) : Obj := ⟨(.type "function"), none, .func ⟨(s "__bytes__"), (s "Headers.__bytes__"), fArgs (cd 15 14), .stmts (fBody (cd 15 14)), fScope (cd 15 14), 3, [], .none, .none, .none, (.str (s "cpy313.wsgiref.headers") 2386), none, (.ref 234), .none, 0⟩, #[]⟩
noncomputable def o236_0 (P : Params) : Obj := ⟨(.type "tuple"), none, .seq #[] 0, #[]⟩
noncomputable def o237_0 (P : Params) : Obj := ⟨.none, none, .fields #[], #[]⟩
noncomputable def o238_0 (P : Params) : Obj := ⟨(.type "tuple"), none, .seq #[(.str (s "self") 2579), (.str (s "name") 2580), (.str (s "value") 2581), (.str (s "result") 2582)] 0, #[]⟩
noncomputable def o239_0 (P : Params) : Obj := ⟨(.type "tuple"), none, .seq #[] 0, #[]⟩
noncomputable def o240_0 (P : Params) : Obj := ⟨.none, none, .func ⟨(s "setdefault"), (s "Headers.setdefault"), fArgs (cd 15 15), .stmts (fBody (cd 15 15)), fScope (cd 15 15), 0, [], .none, .none, .none, .none, none, .none, .none, 0⟩, #[]⟩
noncomputable def o241_0 (P : Params) : Obj := ⟨(.type "code"), none, .fields #[(.str (s "setdefault") 2576), (.str (s "Headers.setdefault") 2577), (.str (s "/claim/cut.py") 2578), (.int 89 0), (.int 3 0), (.int 0 0), (.int 0 0), (.int 3 0), (.ref 236), (.bool true), (.int 276 0), (.ref 237), .none, (.ref 238), (.ref 239), (.ref 240), (.int 2583 0), (.int 89 0), (.str (s "/claim/cut.py") 2584)], #[]⟩
noncomputable def o242_0 (P : Params) : Obj := ⟨(.type "function"), none, .func ⟨(s "setdefault"), (s "Headers.setdefault"), fArgs (cd 15 15), .stmts (fBody (cd 15 15)), fScope (cd 15 15), 3, [], .none, .none, .none, (.str (s "cpy313.wsgiref.headers") 2386), none, (.ref 241), .none, 0⟩, #[]⟩
noncomputable def o243_0 (P : Params) : Obj := ⟨(.type "tuple"), none, .seq #[] 0, #[]⟩
noncomputable def o244_0 (P : Params) : Obj := ⟨.none, none, .fields #[], #[]⟩
noncomputable def o245_0 (P : Params) : Obj := ⟨(.type "tuple"), none, .seq #[(.str (s "self") 2589), (.str (s "_name") 2590), (.str (s "_value") 2591), (.str (s "_params") 2592)] 0, #[]⟩
noncomputable def o246_0 (P : Params) : Obj := ⟨(.type "tuple"), none, .seq #[] 0, #[]⟩
noncomputable def o247_0 (P : Params) : Obj := ⟨.none, none, .func ⟨(s "add_header"), (s "Headers.add_header"), fArgs (cd 15 16), .stmts (fBody (cd 15 16)), fScope (cd 15 16), 0, [], .none, .none, .none, .none, none, .none, .none, 0⟩, #[]⟩
noncomputable def o248_0 (P : Params) : Obj := ⟨(.type "code"), none, .fields #[(.str (s "add_header") 2586), (.str (s "Headers.add_header") 2587), (.str (s "/claim/cut.py") 2588), (.int 97 0), (.int 3 0), (.int 0 0), (.int 0 0), (.int 11 0), (.ref 243), (.bool true), (.int 276 0), (.ref 244), .none, (.ref 245), (.ref 246), (.ref 247), (.int 2593 0), (.int 97 0), (.str (s "/claim/cut.py") 2594)], #[]⟩
noncomputable def o249_0 (P : Params) : Obj := ⟨(.type "function"), none, .func ⟨(s "add_header"), (s "Headers.add_header"), fArgs (cd 15 16), .stmts (fBody (cd 15 16)), fScope (cd 15 16), 3, [], .none, .none, .none, (.str (s "cpy313.wsgiref.headers") 2386), none, (.ref 248), .none, 0⟩, #[]⟩
noncomputable def o250_0 (P : Params) : Obj := ⟨(.type "tuple"), none, .seq #[(.str (s "_headers") 2596)] 0, #[]⟩
noncomputable def o251_0 (P : Params) : Obj := ⟨(.type "dict"), none, .dict #[(ke P (s "__module__") 2455 (.str (s "cpy313.wsgiref.headers") 2386)), (ke P (s "__firstlineno__") 2459 (.int 24 2458)), (ke P (s "__init__") 2469 (.ref 144)), (ke P (s "_convert_string_type") 2479 (.ref 151)), (ke P (s "__len__") 2486 (.ref 158)), (ke P (s "__setitem__") 2495 (.ref 165)), (ke P (s "__delitem__") 2501 (.ref 170)), (ke P (s "__getitem__") 2509 (.ref 177)), (ke P (s "__contains__") 2517 (.ref 184)), (ke P (s "get_all") 2525 (.ref 191)), (ke P (s "get") 2536 (.ref 199)), (ke P (s "keys") 2542 (.ref 204)), (ke P (s "values") 2548 (.ref 209)), (ke P (s "items") 2555 (.ref 216)), (ke P (s "__repr__") 2562 (.ref 223)), (ke P (s "__str__") 2568 (.ref 228)), (ke P (s "__bytes__") 2575 (.ref 235)), (ke P (s "setdefault") 2585 (.ref 242)), (ke P (s "add_header") 2595 (.ref 249)), (ke P (s "__static_attributes__") 2597 (.ref 250)), (ke P (s "__dict__") 2599 (.ref 253)), (ke P (s "__weakref__") 2601 (.ref 254)), (ke P (s "__doc__") 2602 .none)] 4, #[]⟩
noncomputable def o252_0 (P : Params) : Obj := ⟨(.type "type"), none, .cls ⟨(s "Headers"), [(.type "object")], [(.ref 252), (.type "object")], 251, (s "Headers"), true, [], [], false, none, false⟩, #[none, none, (some (.str (s "Headers") 2448)), (some (.str (s "Headers") 2456)), (some (.builtin "object.__new__")), (some (.bool true))]⟩
noncomputable def o253_0 (P : Params) : Obj := ⟨(.type "getset_descriptor"), none, .fields #[(.str (s "__dict__") 2598), (.ref 252), (.builtin "function.__dict__"), (.builtin "function.__dict__#set")], #[]⟩
noncomputable def o254_0 (P : Params) : Obj := ⟨(.type "getset_descriptor"), none, .fields #[(.str (s "__weakref__") 2600), (.ref 252), (.builtin "ExceptionGroup.__weakref__"), .none], #[]⟩
noncomputable def o255_0 (P : Params) : Obj := ⟨(.type "super"), none, .fields #[(.ref 252), (.ref 252), (.ref 252)], #[]⟩
noncomputable def o256_0 (P : Params) : Obj := ⟨(.type "builtin_function_or_method"), none, .fields #[(.builtin "object.__init_subclass__"), (.ref 252)], #[]⟩
noncomputable def T210 (P : Params) (G : Nat → Obj) : BT := (.node (o31_0 P) (.node (G 6) (.node (o127_0 P) (.node (o255_0 P) .nil .nil) .nil) (.node (o191_0 P) .nil .nil)) (.node (G 38) (.node (o159_0 P) .nil .nil) (.node (o223_0 P) .nil .nil)))
noncomputable def T211 (P : Params) : BT := (.node (o111_0 P) (.node (o175_0 P) .nil .nil) (.node (o239_0 P) .nil .nil))
noncomputable def T212 (P : Params) (G : Nat → Obj) : BT := (.node (o15_0 P) (T210 P G) (.node (o47_0 P) (.node (G 22) (.node (o143_0 P) .nil .nil) (.node (o207_0 P) .nil .nil)) (T211 P)))
noncomputable def T213 (P : Params) : BT := (.node (o103_0 P) (.node (o167_0 P) .nil .nil) (.node (o231_0 P) .nil .nil))
noncomputable def T214 (P : Params) : BT := (.node (o119_0 P) (.node (o183_0 P) .nil .nil) (.node (o247_0 P) .nil .nil))
noncomputable def T215 (P : Params) (G : Nat → Obj) : BT := (.node (o55_0 P) (.node (G 30) (.node (o151_0 P) .nil .nil) (.node (o215_0 P) .nil .nil)) (T214 P))
noncomputable def T216 (P : Params) (G : Nat → Obj) : BT := (.node (o7_0 P) (T212 P G) (.node (o23_0 P) (.node (o39_0 P) (.node (G 14) (.node (o135_0 P) .nil .nil) (.node (o199_0 P) .nil .nil)) (T213 P)) (T215 P G)))
noncomputable def T217 (P : Params) : BT := (.node (o99_0 P) (.node (o163_0 P) .nil .nil) (.node (o227_0 P) .nil .nil))
noncomputable def T218 (P : Params) : BT := (.node (o115_0 P) (.node (o179_0 P) .nil .nil) (.node (o243_0 P) .nil .nil))
noncomputable def T219 (P : Params) (G : Nat → Obj) : BT := (.node (o51_0 P) (.node (G 26) (.node (o147_0 P) .nil .nil) (.node (o211_0 P) .nil .nil)) (T218 P))
noncomputable def T220 (P : Params) : BT := (.node (o107_0 P) (.node (o171_0 P) .nil .nil) (.node (o235_0 P) .nil .nil))
noncomputable def T221 (P : Params) (G : Nat → Obj) : BT := (.node (G 2) (.node (G 34) (.node (o155_0 P) .nil .nil) (.node (o219_0 P) .nil .nil)) (.node (o123_0 P) (.node (o187_0 P) .nil .nil) (.node (o251_0 P) .nil .nil)))
noncomputable def T222 (P : Params) (G : Nat → Obj) : BT := (.node (o27_0 P) (.node (o43_0 P) (.node (G 18) (.node (o139_0 P) .nil .nil) (.node (o203_0 P) .nil .nil)) (T220 P)) (T221 P G))
noncomputable def T223 (P : Params) (G : Nat → Obj) : BT := (.node (o11_0 P) (.node (o19_0 P) (.node (o35_0 P) (.node (G 10) (.node (o131_0 P) .nil .nil) (.node (o195_0 P) .nil .nil)) (T217 P)) (T219 P G)) (T222 P G))
noncomputable def T224 (P : Params) : BT := (.node (o97_0 P) (.node (o161_0 P) .nil .nil) (.node (o225_0 P) .nil .nil))
noncomputable def T225 (P : Params) : BT := (.node (o113_0 P) (.node (o177_0 P) .nil .nil) (.node (o241_0 P) .nil .nil))
noncomputable def T226 (P : Params) (G : Nat → Obj) : BT := (.node (o49_0 P) (.node (G 24) (.node (o145_0 P) .nil .nil) (.node (o209_0 P) .nil .nil)) (T225 P))
noncomputable def T227 (P : Params) : BT := (.node (o105_0 P) (.node (o169_0 P) .nil .nil) (.node (o233_0 P) .nil .nil))
noncomputable def T228 (P : Params) (G : Nat → Obj) : BT := (.node (G 0) (.node (G 32) (.node (o153_0 P) .nil .nil) (.node (o217_0 P) .nil .nil)) (.node (o121_0 P) (.node (o185_0 P) .nil .nil) (.node (o249_0 P) .nil .nil)))
noncomputable def T229 (P : Params) (G : Nat → Obj) : BT := (.node (o25_0 P) (.node (o41_0 P) (.node (G 16) (.node (o137_0 P) .nil .nil) (.node (o201_0 P) .nil .nil)) (T227 P)) (T228 P G))
noncomputable def T230 (P : Params) : BT := (.node (o101_0 P) (.node (o165_0 P) .nil .nil) (.node (o229_0 P) .nil .nil))
noncomputable def T231 (P : Params) : BT := (.node (o117_0 P) (.node (o181_0 P) .nil .nil) (.node (o245_0 P) .nil .nil))
noncomputable def T232 (P : Params) (G : Nat → Obj) : BT := (.node (o53_0 P) (.node (G 28) (.node (o149_0 P) .nil .nil) (.node (o213_0 P) .nil .nil)) (T231 P))
noncomputable def T233 (P : Params) : BT := (.node (o109_0 P) (.node (o173_0 P) .nil .nil) (.node (o237_0 P) .nil .nil))
noncomputable def T234 (P : Params) (G : Nat → Obj) : BT := (.node (o45_0 P) (.node (G 20) (.node (o141_0 P) .nil .nil) (.node (o205_0 P) .nil .nil)) (T233 P))
noncomputable def T235 (P : Params) (G : Nat → Obj) : BT := (.node (G 4) (.node (G 36) (.node (o157_0 P) .nil .nil) (.node (o221_0 P) .nil .nil)) (.node (o125_0 P) (.node (o189_0 P) .nil .nil) (.node (o253_0 P) .nil .nil)))
noncomputable def T236 (P : Params) (G : Nat → Obj) : BT := (.node (o5_0 P) (.node (o9_0 P) (.node (o17_0 P) (.node (o33_0 P) (.node (G 8) (.node (o129_0 P) .nil .nil) (.node (o193_0 P) .nil .nil)) (T224 P)) (T226 P G)) (T229 P G)) (.node (o13_0 P) (.node (o21_0 P) (.node (o37_0 P) (.node (G 12) (.node (o133_0 P) .nil .nil) (.node (o197_0 P) .nil .nil)) (T230 P)) (T232 P G)) (.node (o29_5 P) (T234 P G) (T235 P G))))
noncomputable def T237 (P : Params) (G : Nat → Obj) : BT := (.node (o32_0 P) (.node (G 7) (.node (o128_0 P) (.node (o256_0 P) .nil .nil) .nil) (.node (o192_0 P) .nil .nil)) (.node (o96_0 P) (.node (o160_0 P) .nil .nil) (.node (o224_0 P) .nil .nil)))
noncomputable def T238 (P : Params) : BT := (.node (o112_0 P) (.node (o176_0 P) .nil .nil) (.node (o240_0 P) .nil .nil))
noncomputable def T239 (P : Params) (G : Nat → Obj) : BT := (.node (o16_0 P) (T237 P G) (.node (o48_0 P) (.node (G 23) (.node (o144_0 P) .nil .nil) (.node (o208_0 P) .nil .nil)) (T238 P)))
noncomputable def T240 (P : Params) : BT := (.node (o104_0 P) (.node (o168_0 P) .nil .nil) (.node (o232_0 P) .nil .nil))
noncomputable def T241 (P : Params) : BT := (.node (o120_0 P) (.node (o184_0 P) .nil .nil) (.node (o248_0 P) .nil .nil))
noncomputable def T242 (P : Params) (G : Nat → Obj) : BT := (.node (o56_0 P) (.node (G 31) (.node (o152_0 P) .nil .nil) (.node (o216_0 P) .nil .nil)) (T241 P))
noncomputable def T243 (P : Params) (G : Nat → Obj) : BT := (.node (o8_0 P) (T239 P G) (.node (o24_0 P) (.node (o40_0 P) (.node (G 15) (.node (o136_0 P) .nil .nil) (.node (o200_0 P) .nil .nil)) (T240 P)) (T242 P G)))
noncomputable def T244 (P : Params) : BT := (.node (o100_0 P) (.node (o164_0 P) .nil .nil) (.node (o228_0 P) .nil .nil))
noncomputable def T245 (P : Params) : BT := (.node (o116_0 P) (.node (o180_0 P) .nil .nil) (.node (o244_0 P) .nil .nil))
noncomputable def T246 (P : Params) (G : Nat → Obj) : BT := (.node (o52_0 P) (.node (G 27) (.node (o148_0 P) .nil .nil) (.node (o212_0 P) .nil .nil)) (T245 P))
noncomputable def T247 (P : Params) : BT := (.node (o108_0 P) (.node (o172_0 P) .nil .nil) (.node (o236_0 P) .nil .nil))
noncomputable def T248 (P : Params) (G : Nat → Obj) : BT := (.node (G 3) (.node (G 35) (.node (o156_0 P) .nil .nil) (.node (o220_0 P) .nil .nil)) (.node (o124_0 P) (.node (o188_0 P) .nil .nil) (.node (o252_0 P) .nil .nil)))
noncomputable def T249 (P : Params) (G : Nat → Obj) : BT := (.node (o28_0 P) (.node (o44_0 P) (.node (G 19) (.node (o140_0 P) .nil .nil) (.node (o204_0 P) .nil .nil)) (T247 P)) (T248 P G))
noncomputable def T250 (P : Params) : BT := (.node (o98_0 P) (.node (o162_0 P) .nil .nil) (.node (o226_0 P) .nil .nil))
noncomputable def T251 (P : Params) : BT := (.node (o114_0 P) (.node (o178_0 P) .nil .nil) (.node (o242_0 P) .nil .nil))
noncomputable def T252 (P : Params) (G : Nat → Obj) : BT := (.node (o50_0 P) (.node (G 25) (.node (o146_0 P) .nil .nil) (.node (o210_0 P) .nil .nil)) (T251 P))
noncomputable def T253 (P : Params) : BT := (.node (o106_0 P) (.node (o170_0 P) .nil .nil) (.node (o234_0 P) .nil .nil))
noncomputable def T254 (P : Params) (G : Nat → Obj) : BT := (.node (G 1) (.node (G 33) (.node (o154_0 P) .nil .nil) (.node (o218_0 P) .nil .nil)) (.node (o122_0 P) (.node (o186_0 P) .nil .nil) (.node (o250_0 P) .nil .nil)))
noncomputable def T255 (P : Params) (G : Nat → Obj) : BT := (.node (o26_0 P) (.node (o42_0 P) (.node (G 17) (.node (o138_0 P) .nil .nil) (.node (o202_0 P) .nil .nil)) (T253 P)) (T254 P G))
noncomputable def T256 (P : Params) : BT := (.node (o102_0 P) (.node (o166_0 P) .nil .nil) (.node (o230_0 P) .nil .nil))
noncomputable def T257 (P : Params) : BT := (.node (o118_0 P) (.node (o182_0 P) .nil .nil) (.node (o246_0 P) .nil .nil))
noncomputable def T258 (P : Params) (G : Nat → Obj) : BT := (.node (o54_0 P) (.node (G 29) (.node (o150_0 P) .nil .nil) (.node (o214_0 P) .nil .nil)) (T257 P))
noncomputable def T259 (P : Params) : BT := (.node (o110_0 P) (.node (o174_0 P) .nil .nil) (.node (o238_0 P) .nil .nil))
noncomputable def T260 (P : Params) (G : Nat → Obj) : BT := (.node (G 5) (.node (G 37) (.node (o158_0 P) .nil .nil) (.node (o222_0 P) .nil .nil)) (.node (o126_0 P) (.node (o190_0 P) .nil .nil) (.node (o254_0 P) .nil .nil)))
noncomputable def T261 (P : Params) (G : Nat → Obj) : BT := (.node (o30_0 P) (.node (o46_0 P) (.node (G 21) (.node (o142_0 P) .nil .nil) (.node (o206_0 P) .nil .nil)) (T259 P)) (T260 P G))
noncomputable def T262 (P : Params) (G : Nat → Obj) : BT := (.node (o2_0 P) (.node (o4_0 P) (T243 P G) (.node (o12_0 P) (.node (o20_0 P) (.node (o36_0 P) (.node (G 11) (.node (o132_0 P) .nil .nil) (.node (o196_0 P) .nil .nil)) (T244 P)) (T246 P G)) (T249 P G))) (.node (o6_0 P) (.node (o10_0 P) (.node (o18_0 P) (.node (o34_0 P) (.node (G 9) (.node (o130_0 P) .nil .nil) (.node (o194_0 P) .nil .nil)) (T250 P)) (T252 P G)) (T255 P G)) (.node (o14_0 P) (.node (o22_0 P) (.node (o38_0 P) (.node (G 13) (.node (o134_0 P) .nil .nil) (.node (o198_0 P) .nil .nil)) (T256 P)) (T258 P G)) (T261 P G))))
noncomputable def T14 (P : Params) (G : Nat → Obj) : BT := (.node (o0_0 P) (.node (o1_0 P) (.node (o3_15 P) (T216 P G) (T223 P G)) (T236 P G)) (T262 P G))
noncomputable def n14 : Nat := 257
noncomputable def k14 : Nat := 2605
noncomputable def st14 : Nat := 728
noncomputable def p14 : PySem.Pos := ⟨24, 0, 98, 16⟩
noncomputable def o3_16 (P : Params) : Obj := ⟨(.type "dict"), none, .dict #[(ke P (s "__name__") 165 (.str (s "law_re0177_01") 2605)), (ke P (s "__doc__") 166 .none), (ke P (s "__package__") 167 .none), (ke P (s "__loader__") 168 (.builtin "__main__.__loader__#opaque")), (ke P (s "__spec__") 169 .none), (ke P (s "__annotations__") 170 (.ref 6)), (ke P (s "__builtins__") 171 (.ref 4)), (ke P (s "__file__") 173 (.str (s "/claim/cut.py") 172)), (ke P (s "__cached__") 174 .none), (ke P (s "_sre") 275 (.ref 12)), (ke P (s "_wall") 288 (.ref 38)), (ke P (s "b1_set") 350 (.ref 46)), (ke P (s "in_table_b1") 357 (.ref 56)), (ke P (s "b3_exceptions") 2308 (.ref 57)), (ke P (s "map_table_b3") 2316 (.ref 102)), (ke P (s "_twin_re_1") 2334 (.ref 107)), (ke P (s "_twin_re_2") 2376 (.ref 112)), (ke P (s "CRLF") 2378 (.str (s "\x0d\n") 2377)), (ke P (s "quotedata") 2385 (.ref 119)), (ke P (s "_name_disallowed_re") 2413 (.ref 124)), (ke P (s "_value_disallowed_re") 2447 (.ref 129)), (ke P (s "Headers") 2604 (.ref 252))] 22, #[]⟩
noncomputable def T15 (P : Params) (G : Nat → Obj) : BT := (.node (o0_0 P) (.node (o1_0 P) (.node (o3_16 P) (T216 P G) (T223 P G)) (T236 P G)) (T262 P G))
noncomputable def n15 : Nat := 257
noncomputable def k15 : Nat := 2607
noncomputable def st15 : Nat := 9
noncomputable def p15 : PySem.Pos := ⟨99, 0, 99, 8⟩
noncomputable def o3_17 (P : Params) : Obj := ⟨(.type "dict"), none, .dict #[(ke P (s "__name__") 165 (.str (s "law_re0177_01") 2605)), (ke P (s "__doc__") 166 .none), (ke P (s "__package__") 167 .none), (ke P (s "__loader__") 168 (.builtin "__main__.__loader__#opaque")), (ke P (s "__spec__") 169 .none), (ke P (s "__annotations__") 170 (.ref 6)), (ke P (s "__builtins__") 171 (.ref 4)), (ke P (s "__file__") 173 (.str (s "/claim/cut.py") 172)), (ke P (s "__cached__") 174 .none), (ke P (s "_sre") 275 (.ref 12)), (ke P (s "_wall") 288 (.ref 38)), (ke P (s "b1_set") 350 (.ref 46)), (ke P (s "in_table_b1") 357 (.ref 56)), (ke P (s "b3_exceptions") 2308 (.ref 57)), (ke P (s "map_table_b3") 2316 (.ref 102)), (ke P (s "_twin_re_1") 2334 (.ref 107)), (ke P (s "_twin_re_2") 2376 (.ref 112)), (ke P (s "CRLF") 2378 (.str (s "\x0d\n") 2377)), (ke P (s "quotedata") 2385 (.ref 119)), (ke P (s "_name_disallowed_re") 2413 (.ref 124)), (ke P (s "_value_disallowed_re") 2447 (.ref 129)), (ke P (s "Headers") 2604 (.ref 252)), (ke P (s "_law_pool") 2612 (.ref 263))] 23, #[]⟩
noncomputable def o29_6 (P : Params) : Obj := ⟨.none, none, .fields #[(.int 2 0), (.int 0 0), (.ref 37), (.int 7 0), (.int 0 0), (.ref 55), (.int 10 0), (.int 0 0), (.ref 101), (.int 19 0), (.int 0 0), (.ref 118), (.int 24 0), (.int 0 0), (.ref 135), (.int 100 0), (.int 0 0), (.ref 262)], #[]⟩
noncomputable def o257_0 (P : Params) : Obj := ⟨(.type "tuple"), none, .seq #[] 0, #[]⟩
noncomputable def o258_0 (P : Params) : Obj := ⟨.none, none, .fields #[], #[]⟩
noncomputable def o259_0 (P : Params) : Obj := ⟨(.type "tuple"), none, .seq #[] 0, #[]⟩
noncomputable def o260_0 (P : Params) : Obj := ⟨(.type "tuple"), none, .seq #[] 0, #[]⟩
noncomputable def o261_0 (P : Params) : Obj := ⟨.none, none, .func ⟨(s "_law_pool"), (s "_law_pool"), fArgs (bd 17), .stmts (fBody (bd 17)), fScope (bd 17), 0, [], .none, .none, .none, .none, none, .none, .none, 0⟩, #[]⟩
noncomputable def o262_0 (P : Params) : Obj := ⟨(.type "code"), none, .fields #[(.str (s "_law_pool") 2607), (.str (s "_law_pool") 2608), (.str (s "/claim/cut.py") 2609), (.int 100 0), (.int 0 0), (.int 0 0), (.int 0 0), (.int 3 0), (.ref 257), (.bool true), (.int 276 0), (.ref 258), .none, (.ref 259), (.ref 260), (.ref 261), (.int 2610 0), (.int 100 0), (.str (s "/claim/cut.py") 2611)], #[]⟩
noncomputable def o263_0 (P : Params) : Obj := ⟨(.type "function"), none, .func ⟨(s "_law_pool"), (s "_law_pool"), fArgs (bd 17), .stmts (fBody (bd 17)), fScope (bd 17), 3, [], .none, .none, .none, (.str (s "law_re0177_01") 2605), none, (.ref 262), .none, 0⟩, #[]⟩
noncomputable def T263 (P : Params) (G : Nat → Obj) : BT := (.node (o39_0 P) (.node (G 14) (.node (o135_0 P) (.node (o263_0 P) .nil .nil) .nil) (.node (o199_0 P) .nil .nil)) (T213 P))
noncomputable def T264 (P : Params) (G : Nat → Obj) : BT := (.node (o23_0 P) (T263 P G) (T215 P G))
noncomputable def T265 (P : Params) (G : Nat → Obj) : BT := (.node (o7_0 P) (T212 P G) (T264 P G))
noncomputable def T266 (P : Params) (G : Nat → Obj) : BT := (.node (o35_0 P) (.node (G 10) (.node (o131_0 P) (.node (o259_0 P) .nil .nil) .nil) (.node (o195_0 P) .nil .nil)) (T217 P))
noncomputable def T267 (P : Params) (G : Nat → Obj) : BT := (.node (o19_0 P) (T266 P G) (T219 P G))
noncomputable def T268 (P : Params) (G : Nat → Obj) : BT := (.node (o33_0 P) (.node (G 8) (.node (o129_0 P) (.node (o257_0 P) .nil .nil) .nil) (.node (o193_0 P) .nil .nil)) (T224 P))
noncomputable def T269 (P : Params) (G : Nat → Obj) : BT := (.node (o17_0 P) (T268 P G) (T226 P G))
noncomputable def T270 (P : Params) (G : Nat → Obj) : BT := (.node (o37_0 P) (.node (G 12) (.node (o133_0 P) (.node (o261_0 P) .nil .nil) .nil) (.node (o197_0 P) .nil .nil)) (T230 P))
noncomputable def T271 (P : Params) (G : Nat → Obj) : BT := (.node (o21_0 P) (T270 P G) (T232 P G))
noncomputable def T272 (P : Params) (G : Nat → Obj) : BT := (.node (o36_0 P) (.node (G 11) (.node (o132_0 P) (.node (o260_0 P) .nil .nil) .nil) (.node (o196_0 P) .nil .nil)) (T244 P))
noncomputable def T273 (P : Params) (G : Nat → Obj) : BT := (.node (o20_0 P) (T272 P G) (T246 P G))
noncomputable def T274 (P : Params) (G : Nat → Obj) : BT := (.node (o34_0 P) (.node (G 9) (.node (o130_0 P) (.node (o258_0 P) .nil .nil) .nil) (.node (o194_0 P) .nil .nil)) (T250 P))
noncomputable def T275 (P : Params) (G : Nat → Obj) : BT := (.node (o18_0 P) (T274 P G) (T252 P G))
noncomputable def T276 (P : Params) (G : Nat → Obj) : BT := (.node (o38_0 P) (.node (G 13) (.node (o134_0 P) (.node (o262_0 P) .nil .nil) .nil) (.node (o198_0 P) .nil .nil)) (T256 P))
noncomputable def T277 (P : Params) (G : Nat → Obj) : BT := (.node (o22_0 P) (T276 P G) (T258 P G))
noncomputable def T16 (P : Params) (G : Nat → Obj) : BT := (.node (o0_0 P) (.node (o1_0 P) (.node (o3_17 P) (T265 P G) (.node (o11_0 P) (T267 P G) (T222 P G))) (.node (o5_0 P) (.node (o9_0 P) (T269 P G) (T229 P G)) (.node (o13_0 P) (T271 P G) (.node (o29_6 P) (T234 P G) (T235 P G))))) (.node (o2_0 P) (.node (o4_0 P) (T243 P G) (.node (o12_0 P) (T273 P G) (T249 P G))) (.node (o6_0 P) (.node (o10_0 P) (T275 P G) (T255 P G)) (.node (o14_0 P) (T277 P G) (T261 P G)))))
noncomputable def n16 : Nat := 264
noncomputable def k16 : Nat := 2613
noncomputable def st16 : Nat := 28
noncomputable def p16 : PySem.Pos := ⟨100, 0, 101, 265⟩
noncomputable def o3_18 (P : Params) : Obj := ⟨(.type "dict"), none, .dict #[(ke P (s "__name__") 165 (.str (s "law_re0177_01") 2605)), (ke P (s "__doc__") 166 .none), (ke P (s "__package__") 167 .none), (ke P (s "__loader__") 168 (.builtin "__main__.__loader__#opaque")), (ke P (s "__spec__") 169 .none), (ke P (s "__annotations__") 170 (.ref 6)), (ke P (s "__builtins__") 171 (.ref 4)), (ke P (s "__file__") 173 (.str (s "/claim/cut.py") 172)), (ke P (s "__cached__") 174 .none), (ke P (s "_sre") 275 (.ref 12)), (ke P (s "_wall") 288 (.ref 38)), (ke P (s "b1_set") 350 (.ref 46)), (ke P (s "in_table_b1") 357 (.ref 56)), (ke P (s "b3_exceptions") 2308 (.ref 57)), (ke P (s "map_table_b3") 2316 (.ref 102)), (ke P (s "_twin_re_1") 2334 (.ref 107)), (ke P (s "_twin_re_2") 2376 (.ref 112)), (ke P (s "CRLF") 2378 (.str (s "\x0d\n") 2377)), (ke P (s "quotedata") 2385 (.ref 119)), (ke P (s "_name_disallowed_re") 2413 (.ref 124)), (ke P (s "_value_disallowed_re") 2447 (.ref 129)), (ke P (s "Headers") 2604 (.ref 252)), (ke P (s "_law_pool") 2612 (.ref 263)), (ke P (s "_law_next") 2627 (.ref 270))] 24, #[]⟩
noncomputable def o29_7 (P : Params) : Obj := ⟨.none, none, .fields #[(.int 2 0), (.int 0 0), (.ref 37), (.int 7 0), (.int 0 0), (.ref 55), (.int 10 0), (.int 0 0), (.ref 101), (.int 19 0), (.int 0 0), (.ref 118), (.int 24 0), (.int 0 0), (.ref 135), (.int 100 0), (.int 0 0), (.ref 262), (.int 102 0), (.int 0 0), (.ref 269)], #[]⟩
noncomputable def o264_0 (P : Params) : Obj := ⟨(.type "tuple"), none, .seq #[] 0, #[]⟩
noncomputable def o265_0 (P : Params) : Obj := ⟨.none, none, .fields #[], #[]⟩
noncomputable def o266_0 (P : Params) : Obj := ⟨(.type "tuple"), none, .seq #[(.str (s "row") 2616), (.str (s "far") 2617), (.str (s "near") 2618), (.str (s "stock") 2619), (.str (s "rest") 2620), (.str (s "lead") 2621), (.str (s "told") 2622), (.str (s "sign") 2623), (.str (s "fold") 2624)] 0, #[]⟩
noncomputable def o267_0 (P : Params) : Obj := ⟨(.type "tuple"), none, .seq #[] 0, #[]⟩
noncomputable def o268_0 (P : Params) : Obj := ⟨.none, none, .func ⟨(s "_law_next"), (s "_law_next"), fArgs (bd 18), .stmts (fBody (bd 18)), fScope (bd 18), 0, [], .none, .none, .none, .none, none, .none, .none, 0⟩, #[]⟩
noncomputable def o269_0 (P : Params) : Obj := ⟨(.type "code"), none, .fields #[(.str (s "_law_next") 2613), (.str (s "_law_next") 2614), (.str (s "/claim/cut.py") 2615), (.int 102 0), (.int 4 0), (.int 0 0), (.int 0 0), (.int 3 0), (.ref 264), (.bool true), (.int 276 0), (.ref 265), .none, (.ref 266), (.ref 267), (.ref 268), (.int 2625 0), (.int 102 0), (.str (s "/claim/cut.py") 2626)], #[]⟩
noncomputable def o270_0 (P : Params) : Obj := ⟨(.type "function"), none, .func ⟨(s "_law_next"), (s "_law_next"), fArgs (bd 18), .stmts (fBody (bd 18)), fScope (bd 18), 3, [], .none, .none, .none, (.str (s "law_re0177_01") 2605), none, (.ref 269), .none, 0⟩, #[]⟩
noncomputable def T278 (P : Params) (G : Nat → Obj) : BT := (.node (o27_0 P) (.node (o43_0 P) (.node (G 18) (.node (o139_0 P) (.node (o267_0 P) .nil .nil) .nil) (.node (o203_0 P) .nil .nil)) (T220 P)) (T221 P G))
noncomputable def T279 (P : Params) (G : Nat → Obj) : BT := (.node (o25_0 P) (.node (o41_0 P) (.node (G 16) (.node (o137_0 P) (.node (o265_0 P) .nil .nil) .nil) (.node (o201_0 P) .nil .nil)) (T227 P)) (T228 P G))
noncomputable def T280 (P : Params) (G : Nat → Obj) : BT := (.node (o45_0 P) (.node (G 20) (.node (o141_0 P) (.node (o269_0 P) .nil .nil) .nil) (.node (o205_0 P) .nil .nil)) (T233 P))
noncomputable def T281 (P : Params) (G : Nat → Obj) : BT := (.node (o40_0 P) (.node (G 15) (.node (o136_0 P) (.node (o264_0 P) .nil .nil) .nil) (.node (o200_0 P) .nil .nil)) (T240 P))
noncomputable def T282 (P : Params) (G : Nat → Obj) : BT := (.node (o24_0 P) (T281 P G) (T242 P G))
noncomputable def T283 (P : Params) (G : Nat → Obj) : BT := (.node (o28_0 P) (.node (o44_0 P) (.node (G 19) (.node (o140_0 P) (.node (o268_0 P) .nil .nil) .nil) (.node (o204_0 P) .nil .nil)) (T247 P)) (T248 P G))
noncomputable def T284 (P : Params) (G : Nat → Obj) : BT := (.node (o12_0 P) (T273 P G) (T283 P G))
noncomputable def T285 (P : Params) (G : Nat → Obj) : BT := (.node (o26_0 P) (.node (o42_0 P) (.node (G 17) (.node (o138_0 P) (.node (o266_0 P) .nil .nil) .nil) (.node (o202_0 P) .nil .nil)) (T253 P)) (T254 P G))
noncomputable def T286 (P : Params) (G : Nat → Obj) : BT := (.node (o30_0 P) (.node (o46_0 P) (.node (G 21) (.node (o142_0 P) (.node (o270_0 P) .nil .nil) .nil) (.node (o206_0 P) .nil .nil)) (T259 P)) (T260 P G))
noncomputable def T287 (P : Params) (G : Nat → Obj) : BT := (.node (o14_0 P) (T277 P G) (T286 P G))
noncomputable def T17 (P : Params) (G : Nat → Obj) : BT := (.node (o0_0 P) (.node (o1_0 P) (.node (o3_18 P) (T265 P G) (.node (o11_0 P) (T267 P G) (T278 P G))) (.node (o5_0 P) (.node (o9_0 P) (T269 P G) (T279 P G)) (.node (o13_0 P) (T271 P G) (.node (o29_7 P) (T280 P G) (T235 P G))))) (.node (o2_0 P) (.node (o4_0 P) (.node (o8_0 P) (T239 P G) (T282 P G)) (T284 P G)) (.node (o6_0 P) (.node (o10_0 P) (T275 P G) (T285 P G)) (T287 P G))))
noncomputable def n17 : Nat := 271
noncomputable def k17 : Nat := 2628
noncomputable def st17 : Nat := 37
noncomputable def p17 : PySem.Pos := ⟨102, 0, 113, 15⟩
noncomputable def o3_19 (P : Params) : Obj := ⟨(.type "dict"), none, .dict #[(ke P (s "__name__") 165 (.str (s "law_re0177_01") 2605)), (ke P (s "__doc__") 166 .none), (ke P (s "__package__") 167 .none), (ke P (s "__loader__") 168 (.builtin "__main__.__loader__#opaque")), (ke P (s "__spec__") 169 .none), (ke P (s "__annotations__") 170 (.ref 6)), (ke P (s "__builtins__") 171 (.ref 4)), (ke P (s "__file__") 173 (.str (s "/claim/cut.py") 172)), (ke P (s "__cached__") 174 .none), (ke P (s "_sre") 275 (.ref 12)), (ke P (s "_wall") 288 (.ref 38)), (ke P (s "b1_set") 350 (.ref 46)), (ke P (s "in_table_b1") 357 (.ref 56)), (ke P (s "b3_exceptions") 2308 (.ref 57)), (ke P (s "map_table_b3") 2316 (.ref 102)), (ke P (s "_twin_re_1") 2334 (.ref 107)), (ke P (s "_twin_re_2") 2376 (.ref 112)), (ke P (s "CRLF") 2378 (.str (s "\x0d\n") 2377)), (ke P (s "quotedata") 2385 (.ref 119)), (ke P (s "_name_disallowed_re") 2413 (.ref 124)), (ke P (s "_value_disallowed_re") 2447 (.ref 129)), (ke P (s "Headers") 2604 (.ref 252)), (ke P (s "_law_pool") 2612 (.ref 263)), (ke P (s "_law_next") 2627 (.ref 270)), (ke P (s "_law_meaning") 2633 (.ref 275))] 25, #[]⟩
noncomputable def o29_8 (P : Params) : Obj := ⟨.none, none, .fields #[(.int 2 0), (.int 0 0), (.ref 37), (.int 7 0), (.int 0 0), (.ref 55), (.int 10 0), (.int 0 0), (.ref 101), (.int 19 0), (.int 0 0), (.ref 118), (.int 24 0), (.int 0 0), (.ref 135), (.int 100 0), (.int 0 0), (.ref 262), (.int 102 0), (.int 0 0), (.ref 269), (.int 114 0), (.int 0 0), (.ref 274)], #[]⟩
noncomputable def o271_0 (P : Params) : Obj := ⟨(.type "tuple"), none, .seq #[] 0, #[]⟩
noncomputable def o272_0 (P : Params) : Obj := ⟨.none, none, .fields #[], #[]⟩
noncomputable def o273_0 (P : Params) : Obj := ⟨.none, none, .func ⟨(s "_law_meaning"), (s "_law_meaning"), fArgs (bd 19), .stmts (fBody (bd 19)), fScope (bd 19), 0, [], .none, .none, .none, .none, none, .none, .none, 0⟩, #[]⟩
noncomputable def o274_0 (P : Params) : Obj := ⟨(.type "code"), none, .fields #[(.str (s "_law_meaning") 2628), (.str (s "_law_meaning") 2629), (.str (s "/claim/cut.py") 2630), (.int 114 0), (.int 2 0), (.int 0 0), (.int 0 0), (.int 3 0), (.ref 271), (.bool true), (.int 276 0), (.ref 272), .none, .none, .none, (.ref 273), (.int 2631 0), (.int 114 0), (.str (s "/claim/cut.py") 2632)], #[]⟩
noncomputable def o275_0 (P : Params) : Obj := ⟨(.type "function"), none, .func ⟨(s "_law_meaning"), (s "_law_meaning"), fArgs (bd 19), .stmts (fBody (bd 19)), fScope (bd 19), 3, [], .none, .none, .none, (.str (s "law_re0177_01") 2605), none, (.ref 274), .none, 0⟩, #[]⟩
noncomputable def T288 (P : Params) (G : Nat → Obj) : BT := (.node (o15_0 P) (T210 P G) (.node (o47_0 P) (.node (G 22) (.node (o143_0 P) (.node (o271_0 P) .nil .nil) .nil) (.node (o207_0 P) .nil .nil)) (T211 P)))
noncomputable def T289 (P : Params) (G : Nat → Obj) : BT := (.node (o11_0 P) (.node (o19_0 P) (T266 P G) (.node (o51_0 P) (.node (G 26) (.node (o147_0 P) (.node (o275_0 P) .nil .nil) .nil) (.node (o211_0 P) .nil .nil)) (T218 P))) (T278 P G))
noncomputable def T290 (P : Params) (G : Nat → Obj) : BT := (.node (o9_0 P) (.node (o17_0 P) (T268 P G) (.node (o49_0 P) (.node (G 24) (.node (o145_0 P) (.node (o273_0 P) .nil .nil) .nil) (.node (o209_0 P) .nil .nil)) (T225 P))) (T279 P G))
noncomputable def T291 (P : Params) (G : Nat → Obj) : BT := (.node (o16_0 P) (T237 P G) (.node (o48_0 P) (.node (G 23) (.node (o144_0 P) (.node (o272_0 P) .nil .nil) .nil) (.node (o208_0 P) .nil .nil)) (T238 P)))
noncomputable def T292 (P : Params) (G : Nat → Obj) : BT := (.node (o10_0 P) (.node (o18_0 P) (T274 P G) (.node (o50_0 P) (.node (G 25) (.node (o146_0 P) (.node (o274_0 P) .nil .nil) .nil) (.node (o210_0 P) .nil .nil)) (T251 P))) (T285 P G))
noncomputable def T18 (P : Params) (G : Nat → Obj) : BT := (.node (o0_0 P) (.node (o1_0 P) (.node (o3_19 P) (.node (o7_0 P) (T288 P G) (T264 P G)) (T289 P G)) (.node (o5_0 P) (T290 P G) (.node (o13_0 P) (T271 P G) (.node (o29_8 P) (T280 P G) (T235 P G))))) (.node (o2_0 P) (.node (o4_0 P) (.node (o8_0 P) (T291 P G) (T282 P G)) (T284 P G)) (.node (o6_0 P) (T292 P G) (T287 P G))))
noncomputable def n18 : Nat := 276
noncomputable def k18 : Nat := 2634
noncomputable def st18 : Nat := 26
noncomputable def p18 : PySem.Pos := ⟨114, 0, 115, 53⟩
noncomputable def o3_20 (P : Params) : Obj := ⟨(.type "dict"), none, .dict #[(ke P (s "__name__") 165 (.str (s "law_re0177_01") 2605)), (ke P (s "__doc__") 166 .none), (ke P (s "__package__") 167 .none), (ke P (s "__loader__") 168 (.builtin "__main__.__loader__#opaque")), (ke P (s "__spec__") 169 .none), (ke P (s "__annotations__") 170 (.ref 6)), (ke P (s "__builtins__") 171 (.ref 4)), (ke P (s "__file__") 173 (.str (s "/claim/cut.py") 172)), (ke P (s "__cached__") 174 .none), (ke P (s "_sre") 275 (.ref 12)), (ke P (s "_wall") 288 (.ref 38)), (ke P (s "b1_set") 350 (.ref 46)), (ke P (s "in_table_b1") 357 (.ref 56)), (ke P (s "b3_exceptions") 2308 (.ref 57)), (ke P (s "map_table_b3") 2316 (.ref 102)), (ke P (s "_twin_re_1") 2334 (.ref 107)), (ke P (s "_twin_re_2") 2376 (.ref 112)), (ke P (s "CRLF") 2378 (.str (s "\x0d\n") 2377)), (ke P (s "quotedata") 2385 (.ref 119)), (ke P (s "_name_disallowed_re") 2413 (.ref 124)), (ke P (s "_value_disallowed_re") 2447 (.ref 129)), (ke P (s "Headers") 2604 (.ref 252)), (ke P (s "_law_pool") 2612 (.ref 263)), (ke P (s "_law_next") 2627 (.ref 270)), (ke P (s "_law_meaning") 2633 (.ref 275)), (ke P (s "law") 2639 (.ref 280))] 26, #[]⟩
noncomputable def o29_9 (P : Params) : Obj := ⟨.none, none, .fields #[(.int 2 0), (.int 0 0), (.ref 37), (.int 7 0), (.int 0 0), (.ref 55), (.int 10 0), (.int 0 0), (.ref 101), (.int 19 0), (.int 0 0), (.ref 118), (.int 24 0), (.int 0 0), (.ref 135), (.int 100 0), (.int 0 0), (.ref 262), (.int 102 0), (.int 0 0), (.ref 269), (.int 114 0), (.int 0 0), (.ref 274), (.int 116 0), (.int 0 0), (.ref 279)], #[]⟩
noncomputable def o276_0 (P : Params) : Obj := ⟨(.type "tuple"), none, .seq #[] 0, #[]⟩
noncomputable def o277_0 (P : Params) : Obj := ⟨.none, none, .fields #[], #[]⟩
noncomputable def o278_0 (P : Params) : Obj := ⟨.none, none, .func ⟨(s "law"), (s "law"), fArgs (bd 20), .stmts (fBody (bd 20)), fScope (bd 20), 0, [], .none, .none, .none, .none, none, .none, .none, 0⟩, #[]⟩
noncomputable def o279_0 (P : Params) : Obj := ⟨(.type "code"), none, .fields #[(.str (s "law") 2634), (.str (s "law") 2635), (.str (s "/claim/cut.py") 2636), (.int 116 0), (.int 1 0), (.int 0 0), (.int 0 0), (.int 3 0), (.ref 276), (.bool true), (.int 276 0), (.ref 277), .none, .none, .none, (.ref 278), (.int 2637 0), (.int 116 0), (.str (s "/claim/cut.py") 2638)], #[]⟩
noncomputable def o280_0 (P : Params) : Obj := ⟨(.type "function"), none, .func ⟨(s "law"), (s "law"), fArgs (bd 20), .stmts (fBody (bd 20)), fScope (bd 20), 3, [], .none, .none, .none, (.str (s "law_re0177_01") 2605), none, (.ref 279), .none, 0⟩, #[]⟩
noncomputable def T293 (P : Params) (G : Nat → Obj) : BT := (.node (o0_0 P) (.node (o1_0 P) (.node (o3_20 P) (.node (o7_0 P) (T288 P G) (.node (o23_0 P) (T263 P G) (.node (o55_0 P) (.node (G 30) (.node (o151_0 P) (.node (o279_0 P) .nil .nil) .nil) (.node (o215_0 P) .nil .nil)) (T214 P)))) (T289 P G)) (.node (o5_0 P) (T290 P G) (.node (o13_0 P) (.node (o21_0 P) (T270 P G) (.node (o53_0 P) (.node (G 28) (.node (o149_0 P) (.node (o277_0 P) .nil .nil) .nil) (.node (o213_0 P) .nil .nil)) (T231 P))) (.node (o29_9 P) (T280 P G) (T235 P G))))) (.node (o2_0 P) (.node (o4_0 P) (.node (o8_0 P) (T291 P G) (.node (o24_0 P) (T281 P G) (.node (o56_0 P) (.node (G 31) (.node (o152_0 P) (.node (o280_0 P) .nil .nil) .nil) (.node (o216_0 P) .nil .nil)) (T241 P)))) (.node (o12_0 P) (.node (o20_0 P) (T272 P G) (.node (o52_0 P) (.node (G 27) (.node (o148_0 P) (.node (o276_0 P) .nil .nil) .nil) (.node (o212_0 P) .nil .nil)) (T245 P))) (T283 P G))) (.node (o6_0 P) (T292 P G) (.node (o14_0 P) (.node (o22_0 P) (T276 P G) (.node (o54_0 P) (.node (G 29) (.node (o150_0 P) (.node (o278_0 P) .nil .nil) .nil) (.node (o214_0 P) .nil .nil)) (T257 P))) (T286 P G)))))
noncomputable def T19 (P : Params) (G : Nat → Obj) : BT := (T293 P G)
noncomputable def n19 : Nat := 281
noncomputable def k19 : Nat := 2640
noncomputable def st19 : Nat := 26
noncomputable def p19 : PySem.Pos := ⟨116, 0, 178, 89⟩
noncomputable def Tf (P : Params) (G : Nat → Obj) : BT := (T293 P G)
noncomputable def nf : Nat := 281
noncomputable def kf : Nat := 2640
noncomputable def stf : Nat := 1
noncomputable def pf : PySem.Pos := ⟨116, 0, 178, 89⟩
noncomputable def KK (P : Params) : Frag := [(0, (o0_0 P)), (1, (o1_0 P)), (2, (o2_0 P)), (3, (o3_20 P)), (4, (o4_0 P)), (5, (o5_0 P)), (6, (o6_0 P)), (7, (o7_0 P)), (8, (o8_0 P)), (9, (o9_0 P)), (10, (o10_0 P)), (11, (o11_0 P)), (12, (o12_0 P)), (13, (o13_0 P)), (14, (o14_0 P)), (15, (o15_0 P)), (16, (o16_0 P)), (17, (o17_0 P)), (18, (o18_0 P)), (19, (o19_0 P)), (20, (o20_0 P)), (21, (o21_0 P)), (22, (o22_0 P)), (23, (o23_0 P)), (24, (o24_0 P)), (25, (o25_0 P)), (26, (o26_0 P)), (27, (o27_0 P)), (28, (o28_0 P)), (29, (o29_9 P)), (30, (o30_0 P)), (31, (o31_0 P)), (32, (o32_0 P)), (33, (o33_0 P)), (34, (o34_0 P)), (35, (o35_0 P)), (36, (o36_0 P)), (37, (o37_0 P)), (38, (o38_0 P)), (39, (o39_0 P)), (40, (o40_0 P)), (41, (o41_0 P)), (42, (o42_0 P)), (43, (o43_0 P)), (44, (o44_0 P)), (45, (o45_0 P)), (46, (o46_0 P)), (47, (o47_0 P)), (48, (o48_0 P)), (49, (o49_0 P)), (50, (o50_0 P)), (51, (o51_0 P)), (52, (o52_0 P)), (53, (o53_0 P)), (54, (o54_0 P)), (55, (o55_0 P)), (56, (o56_0 P)), (96, (o96_0 P)), (97, (o97_0 P)), (98, (o98_0 P)), (99, (o99_0 P)), (100, (o100_0 P)), (101, (o101_0 P)), (102, (o102_0 P)), (103, (o103_0 P)), (104, (o104_0 P)), (105, (o105_0 P)), (106, (o106_0 P)), (107, (o107_0 P)), (108, (o108_0 P)), (109, (o109_0 P)), (110, (o110_0 P)), (111, (o111_0 P)), (112, (o112_0 P)), (113, (o113_0 P)), (114, (o114_0 P)), (115, (o115_0 P)), (116, (o116_0 P)), (117, (o117_0 P)), (118, (o118_0 P)), (119, (o119_0 P)), (120, (o120_0 P)), (121, (o121_0 P)), (122, (o122_0 P)), (123, (o123_0 P)), (124, (o124_0 P)), (125, (o125_0 P)), (126, (o126_0 P)), (127, (o127_0 P)), (128, (o128_0 P)), (129, (o129_0 P)), (130, (o130_0 P)), (131, (o131_0 P)), (132, (o132_0 P)), (133, (o133_0 P)), (134, (o134_0 P)), (135, (o135_0 P)), (136, (o136_0 P)), (137, (o137_0 P)), (138, (o138_0 P)), (139, (o139_0 P)), (140, (o140_0 P)), (141, (o141_0 P)), (142, (o142_0 P)), (143, (o143_0 P)), (144, (o144_0 P)), (145, (o145_0 P)), (146, (o146_0 P)), (147, (o147_0 P)), (148, (o148_0 P)), (149, (o149_0 P)), (150, (o150_0 P)), (151, (o151_0 P)), (152, (o152_0 P)), (153, (o153_0 P)), (154, (o154_0 P)), (155, (o155_0 P)), (156, (o156_0 P)), (157, (o157_0 P)), (158, (o158_0 P)), (159, (o159_0 P)), (160, (o160_0 P)), (161, (o161_0 P)), (162, (o162_0 P)), (163, (o163_0 P)), (164, (o164_0 P)), (165, (o165_0 P)), (166, (o166_0 P)), (167, (o167_0 P)), (168, (o168_0 P)), (169, (o169_0 P)), (170, (o170_0 P)), (171, (o171_0 P)), (172, (o172_0 P)), (173, (o173_0 P)), (174, (o174_0 P)), (175, (o175_0 P)), (176, (o176_0 P)), (177, (o177_0 P)), (178, (o178_0 P)), (179, (o179_0 P)), (180, (o180_0 P)), (181, (o181_0 P)), (182, (o182_0 P)), (183, (o183_0 P)), (184, (o184_0 P)), (185, (o185_0 P)), (186, (o186_0 P)), (187, (o187_0 P)), (188, (o188_0 P)), (189, (o189_0 P)), (190, (o190_0 P)), (191, (o191_0 P)), (192, (o192_0 P)), (193, (o193_0 P)), (194, (o194_0 P)), (195, (o195_0 P)), (196, (o196_0 P)), (197, (o197_0 P)), (198, (o198_0 P)), (199, (o199_0 P)), (200, (o200_0 P)), (201, (o201_0 P)), (202, (o202_0 P)), (203, (o203_0 P)), (204, (o204_0 P)), (205, (o205_0 P)), (206, (o206_0 P)), (207, (o207_0 P)), (208, (o208_0 P)), (209, (o209_0 P)), (210, (o210_0 P)), (211, (o211_0 P)), (212, (o212_0 P)), (213, (o213_0 P)), (214, (o214_0 P)), (215, (o215_0 P)), (216, (o216_0 P)), (217, (o217_0 P)), (218, (o218_0 P)), (219, (o219_0 P)), (220, (o220_0 P)), (221, (o221_0 P)), (222, (o222_0 P)), (223, (o223_0 P)), (224, (o224_0 P)), (225, (o225_0 P)), (226, (o226_0 P)), (227, (o227_0 P)), (228, (o228_0 P)), (229, (o229_0 P)), (230, (o230_0 P)), (231, (o231_0 P)), (232, (o232_0 P)), (233, (o233_0 P)), (234, (o234_0 P)), (235, (o235_0 P)), (236, (o236_0 P)), (237, (o237_0 P)), (238, (o238_0 P)), (239, (o239_0 P)), (240, (o240_0 P)), (241, (o241_0 P)), (242, (o242_0 P)), (243, (o243_0 P)), (244, (o244_0 P)), (245, (o245_0 P)), (246, (o246_0 P)), (247, (o247_0 P)), (248, (o248_0 P)), (249, (o249_0 P)), (250, (o250_0 P)), (251, (o251_0 P)), (252, (o252_0 P)), (253, (o253_0 P)), (254, (o254_0 P)), (255, (o255_0 P)), (256, (o256_0 P)), (257, (o257_0 P)), (258, (o258_0 P)), (259, (o259_0 P)), (260, (o260_0 P)), (261, (o261_0 P)), (262, (o262_0 P)), (263, (o263_0 P)), (264, (o264_0 P)), (265, (o265_0 P)), (266, (o266_0 P)), (267, (o267_0 P)), (268, (o268_0 P)), (269, (o269_0 P)), (270, (o270_0 P)), (271, (o271_0 P)), (272, (o272_0 P)), (273, (o273_0 P)), (274, (o274_0 P)), (275, (o275_0 P)), (276, (o276_0 P)), (277, (o277_0 P)), (278, (o278_0 P)), (279, (o279_0 P)), (280, (o280_0 P))]
-- frame 31 code (.ref 30) framePos ⟨0, 0, 0, 0⟩ life 0 0

def benv : Env := { scope := pw.main.scope, locals := mainNs, globals := mainNs, cells := [], code := .ref 30, frame := some 31 }
def bbody : List Stmt := behindTheImports pw
def bcode : Code := .body bbody benv
noncomputable abbrev q0 : PySem.Pos := ⟨0, 0, 0, 0⟩
noncomputable abbrev stT (T : Params → BT) (n k : Nat) (w : World) (os : OsState) : SharedT := ⟨T w.params, n, life0, Array.mk [], {}, k, os⟩
noncomputable abbrev stG (T : Params → (Nat → Obj) → BT) (G : Nat → Obj) (n k : Nat) (w : World) (os : OsState) : SharedT := ⟨T w.params G, n, life0, Array.mk [], {}, k, os⟩
theorem open_ok : ∀ w : World, (fencedOpening treeTable pw w 40000).map (fun s => (s.heap, s.gens, s.drawn, s.toks)) = some (H0 w.params, Array.mk [], {}, kI) := by
  have key : ∀ w : World, (fencedOpening treeTable pw w 1000).map (fun s => (s.heap, s.gens, s.drawn, s.toks)) = some (H0 w.params, Array.mk [], {}, kI) := by
    intro w
    unfold fencedOpening
    rw [PySem.W.Fast.te10274390034422433532, PySem.W.Fast.te1435165496053646825, PySem.W.Fast.te14289696077712309145, PySem.W.Fast.te14364793385576792824]
    kernel_rfl
  intro w
  obtain ⟨s, hs, e⟩ := Option.map_eq_some_iff.mp (key w)
  obtain ⟨s1, h1, h2⟩ := Option.bind_eq_some_iff.mp hs
  have h3 := importEnds_mono 39000 _ _ _ _ h1
  unfold fencedOpening
  rw [show (40000 : Nat) = 1000 + 39000 from rfl, h3]
  show ((fenceModules? pw s1).map _) = _
  rw [h2]
  exact congrArg some e
theorem size_ok : ∀ w : World, ((H0 w.params).isNs mainGlobals && (Array.mk ([] : List GenState)).size == 0, (H0 w.params).objs.size, (H0 w.params).nsMap mainGlobals "__annotations__") = (true, m0, ann0) := by
  intro w; kernel_rfl
theorem pre_ok : ∀ (w : World) (os : OsState), topGo treeTable pw w m0 ann0 12 ⟨H0 w.params, Array.mk [], {}, kI, os⟩ (topStub pw) = some ((stT Ta na ka w os).abs, ⟨denote treeTable bcode, bcode, pa, [topFrame q0]⟩) := by
  intro w os
  rw [PySem.W.Fast.te15667345088766844465, PySem.W.Fast.te14364793385576792824, PySem.W.Fast.te11892475500146522536]
  kernel_rfl
theorem block_ok : ∀ (w : World) (os : OsState), segRunT treeTable pw w m0 ann0 1 1 (stT Ta na ka w os) (blockOf bbody benv bcode pa [topFrame q0]) = some (.next, stT Tb nb kb w os, bcode, pb) := by
  intro w os
  rw [PySem.W.Fast.te10110043849684766642, PySem.W.Fast.te14364793385576792824]
  kernel_rfl

theorem seg0 : ∀ (w : World) (os : OsState), segRunT treeTable pw w m0 ann0 1 (st0 + 1) (stT Tb nb kb w os) (pieceOf (bd 1) benv bcode pb [topFrame q0]) = some (.next, stT T0 n0 k0 w os, bcode, p0) := by
  intro w os
  rw [PySem.W.Fast.te10110043849684766642, PySem.W.Fast.te14364793385576792824]
  kernel_rfl

theorem seg1 : ∀ (w : World) (os : OsState), segRunT treeTable pw w m0 ann0 1 (st1 + 1) (stT T0 n0 k0 w os) (pieceOf (bd 2) benv bcode p0 [topFrame q0]) = some (.next, stT T1 n1 k1 w os, bcode, p1) := by
  intro w os
  rw [PySem.W.Fast.te10110043849684766642, PySem.W.Fast.te14364793385576792824]
  kernel_rfl

def Seg2 (w : World) : Prop := ∀ (os : OsState), segRunT treeTable pw w m0 ann0 1 (st2 + 1) (stT T1 n1 k1 w os) (pieceOf (bd 3) benv bcode p1 [topFrame q0]) = some (.next, stT T2 n2 k2 w os, bcode, p2)
theorem seg2' : ∀ (w : World), Seg2 w := by
  have key : ∀ (b c : Bool) (w : World), Seg2 ((w.withFollow "special-get-raises" c).withFollow "set-order" b) := by
    intro b c w os
    rw [PySem.W.Fast.te10110043849684766642, PySem.W.Fast.te14364793385576792824]
    cases b <;> cases c <;> kernel_rfl
  intro w
  have h := key (w.params.followText "set-order") (w.params.followText "special-get-raises") w
  rwa [World.withFollow_self, World.withFollow_self] at h
theorem seg2 : ∀ (w : World) (os : OsState), segRunT treeTable pw w m0 ann0 1 (st2 + 1) (stT T1 n1 k1 w os) (pieceOf (bd 3) benv bcode p1 [topFrame q0]) = some (.next, stT T2 n2 k2 w os, bcode, p2) := fun w os => seg2' w os

theorem seg3 : ∀ (w : World) (os : OsState), segRunT treeTable pw w m0 ann0 1 (st3 + 1) (stT T2 n2 k2 w os) (pieceOf (bd 4) benv bcode p2 [topFrame q0]) = some (.next, stT T3 n3 k3 w os, bcode, p3) := by
  intro w os
  rw [PySem.W.Fast.te10110043849684766642, PySem.W.Fast.te14364793385576792824]
  kernel_rfl

theorem seg5 : ∀ (w : World) (os : OsState) (G : Nat → Obj), segRunT treeTable pw w m0 ann0 1 (st5 + 1) (stG T4 G n4 k4 w os) (pieceOf (bd 6) benv bcode p4 [topFrame q0]) = some (.next, stG T5 G n5 k5 w os, bcode, p5) := by
  intro w os G
  rw [PySem.W.Fast.te10110043849684766642, PySem.W.Fast.te14364793385576792824]
  kernel_rfl

theorem seg6 : ∀ (w : World) (os : OsState) (G : Nat → Obj), segRunT treeTable pw w m0 ann0 1 (st6 + 1) (stG T5 G n5 k5 w os) (pieceOf (bd 7) benv bcode p5 [topFrame q0]) = some (.next, stG T6 G n6 k6 w os, bcode, p6) := by
  intro w os G
  rw [PySem.W.Fast.te10110043849684766642, PySem.W.Fast.te14364793385576792824]
  kernel_rfl

theorem seg7 : ∀ (w : World) (os : OsState) (G : Nat → Obj), segRunT treeTable pw w m0 ann0 1 (st7 + 1) (stG T6 G n6 k6 w os) (pieceOf (bd 8) benv bcode p6 [topFrame q0]) = some (.next, stG T7 G n7 k7 w os, bcode, p7) := by
  intro w os G
  rw [PySem.W.Fast.te10110043849684766642, PySem.W.Fast.te14364793385576792824]
  kernel_rfl

theorem seg8 : ∀ (w : World) (os : OsState) (G : Nat → Obj), segRunT treeTable pw w m0 ann0 1 (st8 + 1) (stG T7 G n7 k7 w os) (pieceOf (bd 9) benv bcode p7 [topFrame q0]) = some (.next, stG T8 G n8 k8 w os, bcode, p8) := by
  intro w os G
  rw [PySem.W.Fast.te10110043849684766642, PySem.W.Fast.te14364793385576792824]
  kernel_rfl

theorem seg9 : ∀ (w : World) (os : OsState) (G : Nat → Obj), segRunT treeTable pw w m0 ann0 1 (st9 + 1) (stG T8 G n8 k8 w os) (pieceOf (bd 10) benv bcode p8 [topFrame q0]) = some (.next, stG T9 G n9 k9 w os, bcode, p9) := by
  intro w os G
  rw [PySem.W.Fast.te10110043849684766642, PySem.W.Fast.te14364793385576792824]
  kernel_rfl

theorem seg10 : ∀ (w : World) (os : OsState) (G : Nat → Obj), segRunT treeTable pw w m0 ann0 1 (st10 + 1) (stG T9 G n9 k9 w os) (pieceOf (bd 11) benv bcode p9 [topFrame q0]) = some (.next, stG T10 G n10 k10 w os, bcode, p10) := by
  intro w os G
  rw [PySem.W.Fast.te10110043849684766642, PySem.W.Fast.te14364793385576792824]
  kernel_rfl

theorem seg11 : ∀ (w : World) (os : OsState) (G : Nat → Obj), segRunT treeTable pw w m0 ann0 1 (st11 + 1) (stG T10 G n10 k10 w os) (pieceOf (bd 12) benv bcode p10 [topFrame q0]) = some (.next, stG T11 G n11 k11 w os, bcode, p11) := by
  intro w os G
  rw [PySem.W.Fast.te10110043849684766642, PySem.W.Fast.te14364793385576792824]
  kernel_rfl

theorem seg12 : ∀ (w : World) (os : OsState) (G : Nat → Obj), segRunT treeTable pw w m0 ann0 1 (st12 + 1) (stG T11 G n11 k11 w os) (pieceOf (bd 13) benv bcode p11 [topFrame q0]) = some (.next, stG T12 G n12 k12 w os, bcode, p12) := by
  intro w os G
  rw [PySem.W.Fast.te10110043849684766642, PySem.W.Fast.te14364793385576792824]
  kernel_rfl

theorem seg13 : ∀ (w : World) (os : OsState) (G : Nat → Obj), segRunT treeTable pw w m0 ann0 1 (st13 + 1) (stG T12 G n12 k12 w os) (pieceOf (bd 14) benv bcode p12 [topFrame q0]) = some (.next, stG T13 G n13 k13 w os, bcode, p13) := by
  intro w os G
  rw [PySem.W.Fast.te10110043849684766642, PySem.W.Fast.te14364793385576792824]
  kernel_rfl

theorem seg14 : ∀ (w : World) (os : OsState) (G : Nat → Obj), segRunT treeTable pw w m0 ann0 1 (st14 + 1) (stG T13 G n13 k13 w os) (pieceOf (bd 15) benv bcode p13 [topFrame q0]) = some (.next, stG T14 G n14 k14 w os, bcode, p14) := by
  intro w os G
  rw [PySem.W.Fast.te10110043849684766642, PySem.W.Fast.te14364793385576792824]
  kernel_rfl

theorem seg15 : ∀ (w : World) (os : OsState) (G : Nat → Obj), segRunT treeTable pw w m0 ann0 1 (st15 + 1) (stG T14 G n14 k14 w os) (pieceOf (bd 16) benv bcode p14 [topFrame q0]) = some (.next, stG T15 G n15 k15 w os, bcode, p15) := by
  intro w os G
  rw [PySem.W.Fast.te10110043849684766642, PySem.W.Fast.te14364793385576792824]
  kernel_rfl

theorem seg16 : ∀ (w : World) (os : OsState) (G : Nat → Obj), segRunT treeTable pw w m0 ann0 1 (st16 + 1) (stG T15 G n15 k15 w os) (pieceOf (bd 17) benv bcode p15 [topFrame q0]) = some (.next, stG T16 G n16 k16 w os, bcode, p16) := by
  intro w os G
  rw [PySem.W.Fast.te10110043849684766642, PySem.W.Fast.te14364793385576792824]
  kernel_rfl

theorem seg17 : ∀ (w : World) (os : OsState) (G : Nat → Obj), segRunT treeTable pw w m0 ann0 1 (st17 + 1) (stG T16 G n16 k16 w os) (pieceOf (bd 18) benv bcode p16 [topFrame q0]) = some (.next, stG T17 G n17 k17 w os, bcode, p17) := by
  intro w os G
  rw [PySem.W.Fast.te10110043849684766642, PySem.W.Fast.te14364793385576792824]
  kernel_rfl

theorem seg18 : ∀ (w : World) (os : OsState) (G : Nat → Obj), segRunT treeTable pw w m0 ann0 1 (st18 + 1) (stG T17 G n17 k17 w os) (pieceOf (bd 19) benv bcode p17 [topFrame q0]) = some (.next, stG T18 G n18 k18 w os, bcode, p18) := by
  intro w os G
  rw [PySem.W.Fast.te10110043849684766642, PySem.W.Fast.te14364793385576792824]
  kernel_rfl

theorem seg19 : ∀ (w : World) (os : OsState) (G : Nat → Obj), segRunT treeTable pw w m0 ann0 1 (st19 + 1) (stG T18 G n18 k18 w os) (pieceOf (bd 20) benv bcode p18 [topFrame q0]) = some (.next, stG T19 G n19 k19 w os, bcode, p19) := by
  intro w os G
  rw [PySem.W.Fast.te10110043849684766642, PySem.W.Fast.te14364793385576792824]
  kernel_rfl

end
end Hd1
namespace Hd1
noncomputable section

theorem seg_mono {tb : String → Option Builtin} {p : Program} {w : World} {n₀ : Nat} {ann : Option Value} {b : Nat} (k : Nat) : ∀ {n : Nat} {s : Shared} {t : Thread} {r : Flow × Shared × Code × PySem.Pos}, segRun tb p w n₀ ann b n s t = some r → segRun tb p w n₀ ann b (n + k) s t = some r
  | 0, s, t, r, h => by simp [segRun] at h
  | n + 1, s, t, r, h => by
    rw [show n + 1 + k = n + k + 1 by lia]
    unfold segRun at h ⊢
    cases he : endAt b t with
    | some f => rw [he] at h; exact h
    | none =>
      rw [he] at h
      cases hk : stepOk n₀ ann t with
      | false => rw [hk] at h; cases h
      | true =>
        rw [hk] at h
        cases hs : step (denote tb) p w s t with
        | halt o s₂ => rw [hs] at h; cases h
        | go s₂ t₂ => rw [hs] at h; exact seg_mono k h

noncomputable def dKeys : Stmt → List (Option PySem.Expr) | .Assign _ (.Dict ks _ _) _ => ks | _ => []
noncomputable def dVals : Stmt → List PySem.Expr | .Assign _ (.Dict _ vs _) _ => vs | _ => []
def b3ks : List (Option PySem.Expr) := dKeys (bd 5)
def b3vs : List PySem.Expr := dVals (bd 5)
def b3l : List (Int × Str) := (Hs.litPairs b3ks b3vs).getD []
noncomputable abbrev b3tgt : PySem.Expr := .Name (s "b3_exceptions") ⟨9, 0, 9, 13⟩
abbrev b3dct : PySem.Expr := .Dict b3ks b3vs ⟨9, 16, 9, 8704⟩
theorem b3_stmt : bd 5 = .Assign [b3tgt] b3dct ⟨9, 0, 9, 8704⟩ := by kernel_rfl
theorem b3_some : Hs.litPairs b3ks b3vs = some b3l := by
  have h : (Hs.litPairs b3ks b3vs).isSome = true := by kernel_rfl
  unfold b3l
  cases e : Hs.litPairs b3ks b3vs with
  | none => rw [e] at h; cases h
  | some l => rfl
theorem b3_len : b3l.length = 650 := by kernel_rfl
theorem b3_rising : Hs.rising (-1) b3l = true := by kernel_rfl
def b3post (v : Value) : Sem Flow := do assignStores benv v (← swappedStores [b3tgt] b3dct benv) ((assignEach [b3tgt] benv).map (·.2))
theorem b3_exec : exec (bd 5) benv = (do standAt ⟨9, 0, 9, 8704⟩; let v ← eval b3dct benv; b3post v) := by
  rw [b3_stmt]; rfl
theorem b3_last : ∀ (w : World) (os : OsState) (G : Nat → Obj) (p : PySem.Pos), segRunT treeTable pw w m0 ann0 1 20 (stG TX G nX kX w os) ⟨(b3post (.ref 57)).wrap doneF deadEnd id id, bcode, p, [topFrame q0]⟩ = some (.next, stG T4 G n4 k4 w os, bcode, p4) := by
  intro w os G p
  rw [PySem.W.Fast.te10110043849684766642, PySem.W.Fast.te14364793385576792824]
  kernel_rfl
theorem txLow (P : Params) (G : Nat → Obj) : ∀ i, i < 57 → (TX P G).get i = (T3 P).get i
  | 0, _ => rfl
  | 1, _ => rfl
  | 2, _ => rfl
  | 3, _ => rfl
  | 4, _ => rfl
  | 5, _ => rfl
  | 6, _ => rfl
  | 7, _ => rfl
  | 8, _ => rfl
  | 9, _ => rfl
  | 10, _ => rfl
  | 11, _ => rfl
  | 12, _ => rfl
  | 13, _ => rfl
  | 14, _ => rfl
  | 15, _ => rfl
  | 16, _ => rfl
  | 17, _ => rfl
  | 18, _ => rfl
  | 19, _ => rfl
  | 20, _ => rfl
  | 21, _ => rfl
  | 22, _ => rfl
  | 23, _ => rfl
  | 24, _ => rfl
  | 25, _ => rfl
  | 26, _ => rfl
  | 27, _ => rfl
  | 28, _ => rfl
  | 29, _ => rfl
  | 30, _ => rfl
  | 31, _ => rfl
  | 32, _ => rfl
  | 33, _ => rfl
  | 34, _ => rfl
  | 35, _ => rfl
  | 36, _ => rfl
  | 37, _ => rfl
  | 38, _ => rfl
  | 39, _ => rfl
  | 40, _ => rfl
  | 41, _ => rfl
  | 42, _ => rfl
  | 43, _ => rfl
  | 44, _ => rfl
  | 45, _ => rfl
  | 46, _ => rfl
  | 47, _ => rfl
  | 48, _ => rfl
  | 49, _ => rfl
  | 50, _ => rfl
  | 51, _ => rfl
  | 52, _ => rfl
  | 53, _ => rfl
  | 54, _ => rfl
  | 55, _ => rfl
  | 56, _ => rfl
  | n + 57, h => absurd h (by lia)
theorem txHigh (P : Params) (G : Nat → Obj) : ∀ i, i < 39 → (TX P G).get (57 + i) = some (G i)
  | 0, _ => rfl
  | 1, _ => rfl
  | 2, _ => rfl
  | 3, _ => rfl
  | 4, _ => rfl
  | 5, _ => rfl
  | 6, _ => rfl
  | 7, _ => rfl
  | 8, _ => rfl
  | 9, _ => rfl
  | 10, _ => rfl
  | 11, _ => rfl
  | 12, _ => rfl
  | 13, _ => rfl
  | 14, _ => rfl
  | 15, _ => rfl
  | 16, _ => rfl
  | 17, _ => rfl
  | 18, _ => rfl
  | 19, _ => rfl
  | 20, _ => rfl
  | 21, _ => rfl
  | 22, _ => rfl
  | 23, _ => rfl
  | 24, _ => rfl
  | 25, _ => rfl
  | 26, _ => rfl
  | 27, _ => rfl
  | 28, _ => rfl
  | 29, _ => rfl
  | 30, _ => rfl
  | 31, _ => rfl
  | 32, _ => rfl
  | 33, _ => rfl
  | 34, _ => rfl
  | 35, _ => rfl
  | 36, _ => rfl
  | 37, _ => rfl
  | 38, _ => rfl
  | n + 39, h => absurd h (by lia)
theorem segBig (w : World) (os : OsState) : ∃ (G : Nat → Obj), Hs.Bears (absHeap (TX w.params G) 96 life0) 57 b3l ∧
    segRun treeTable pw w m0 ann0 1 13000 (stT T3 n3 k3 w os).abs (pieceOf (bd 5) benv bcode p3 [topFrame q0]) = some (.next, (stG T4 G n4 k4 w os).abs, bcode, p4) := by
  have hsz : (stT T3 n3 k3 w os).abs.heap.objs.size = 57 := absHeap_size _ _ _
  obtain ⟨h', a, M⟩ := Hs.st_Dict (X := ⟨pw, w, m0, ann0, bbody, benv, q0⟩) (s := (stT T3 n3 k3 w os).abs) (env := benv) (pos := ⟨9, 16, 9, 8704⟩) 37 b3_some (by rw [b3_len]; decide) (by rw [b3_len]; decide) (by rw [hsz]; exact Nat.le_of_ble_eq_true rfl) (by rw [hsz]; exact Nat.le_of_ble_eq_true rfl) (Hs.apart_of_rising _ _ (by decide) b3_rising) (by rw [b3_len]; decide)
  rw [hsz] at a
  have hs' := M.size
  rw [hsz] at hs'
  have hh : h' = absHeap (TX w.params fun i => (h'.objs[57 + i]?).getD default) 96 life0 := by
    have e : h'.objs = (absHeap (TX w.params fun i => (h'.objs[57 + i]?).getD default) 96 life0).objs := by
      apply Array.ext_getElem?
      intro i
      rw [absHeap_at]
      by_cases h1 : i < 57
      · rw [if_pos (by lia), txLow _ _ i h1, M.same i (by rw [hsz]; exact h1)]
        show (absHeap (T3 w.params) 57 life0).objs[i]? = _
        rw [absHeap_at, if_pos h1]
      · by_cases h2 : i < 96
        · obtain ⟨j, rfl⟩ : ∃ j, i = 57 + j := ⟨i - 57, by lia⟩
          rw [if_pos h2, txHigh _ _ j (by lia), Array.getElem?_eq_getElem (by lia)]
          rfl
        · rw [if_neg h2, Array.getElem?_eq_none (by lia)]
    have l : h'.life = life0 := M.life
    show h' = ⟨(absHeap (TX w.params fun i => (h'.objs[57 + i]?).getD default) 96 life0).objs, life0⟩
    rw [← e, ← l]
  have hk : (stT T3 n3 k3 w os).abs.toks + 3 * b3l.length = kX := by rw [b3_len]; rfl
  rw [hk] at a
  obtain ⟨n1, p1, l1, e1⟩ := Hs.st_bind (f := fun _ => eval b3dct benv) (Hs.st_at ⟨9, 0, 9, 8704⟩) a p3 (fun v => (b3post v).wrap doneF deadEnd id id) deadEnd id id
  have hw : (exec (bd 5) benv).wrap doneF deadEnd id id = ((standAt ⟨9, 0, 9, 8704⟩ >>= fun _ => eval b3dct benv).wrap (fun v => (b3post v).wrap doneF deadEnd id id) deadEnd id id : Sem Fin) := by
    rw [b3_exec]
    show ((standAt ⟨9, 0, 9, 8704⟩ >>= fun _ => (eval b3dct benv >>= b3post)) : Sem Flow).wrap doneF deadEnd id id = _
    rw [← bind_assoc, Sem.bind_eq_wrap' (standAt ⟨9, 0, 9, 8704⟩ >>= fun _ => eval b3dct benv) b3post, Sem.wrap_wrap]
    rfl
  obtain ⟨G, hG⟩ : ∃ G : Nat → Obj, h' = absHeap (TX w.params G) 96 life0 := ⟨_, hh⟩
  have B := M.bears
  rw [hsz, hG] at B
  refine ⟨G, B, ?_⟩
  subst hG
  have last := segRun_of (b3_last w os G p1)
  have e2 := seg_go (N := 20) e1 last
  have e3 := seg_mono (13000 - (n1 + 20)) e2
  rw [show n1 + 20 + (13000 - (n1 + 20)) = 13000 by lia, ← hw] at e3
  exact e3

end
end Hd1
namespace Hd1
noncomputable section

theorem bbody_eq : bbody = [bd 1, bd 2, bd 3, bd 4, bd 5, bd 6, bd 7, bd 8, bd 9, bd 10, bd 11, bd 12, bd 13, bd 14, bd 15, bd 16, bd 17, bd 18, bd 19, bd 20] := by kernel_rfl
theorem fin_ok (w : World) (os : OsState) (G : Nat → Obj) : topRun treeTable pw w m0 ann0 3 (stG T19 G n19 k19 w os).abs ⟨doneF .next, bcode, p19, [topFrame q0]⟩ = some (stG Tf G nf kf w os).abs := by
  kernel_rfl
abbrev Hf (P : Params) (G : Nat → Obj) : Heap := absHeap (Tf P G) nf life0
theorem run_le {tb : String → Option Builtin} {p : Program} {w : World} {n₀ : Nat} {ann : Option Value} {n N : Nat} {s r : Shared} {t : Thread} (h : topRun tb p w n₀ ann n s t = some r) (l : n ≤ N) : topRun tb p w n₀ ann N s t = some r := by
  have := topRun_mono (N - n) _ _ _ _ h
  rwa [show n + (N - n) = N by lia] at this
theorem run_ok (w : World) (os : OsState) : ∃ G : Nat → Obj, Hs.Bears (absHeap (TX w.params G) 96 life0) 57 b3l ∧
    topRun treeTable pw w m0 ann0 39000 ⟨H0 w.params, Array.mk [], {}, kI, os⟩ (topStub pw) = some (stG Tf G nf kf w os).abs := by
  obtain ⟨G, B, hb⟩ := segBig w os
  have fin := fin_ok w os G
  refine ⟨G, B, ?_⟩
  have c := piece_cons (segRun_of (seg0 w os)) (piece_cons (segRun_of (seg1 w os)) (piece_cons (segRun_of (seg2 w os)) (piece_cons (segRun_of (seg3 w os)) (piece_cons hb (piece_cons (segRun_of (seg5 w os G)) (piece_cons (segRun_of (seg6 w os G)) (piece_cons (segRun_of (seg7 w os G)) (piece_cons (segRun_of (seg8 w os G)) (piece_cons (segRun_of (seg9 w os G)) (piece_cons (segRun_of (seg10 w os G)) (piece_cons (segRun_of (seg11 w os G)) (piece_cons (segRun_of (seg12 w os G)) (piece_cons (segRun_of (seg13 w os G)) (piece_cons (segRun_of (seg14 w os G)) (piece_cons (segRun_of (seg15 w os G)) (piece_cons (segRun_of (seg16 w os G)) (piece_cons (segRun_of (seg17 w os G)) (piece_cons (segRun_of (seg18 w os G)) (piece_cons (segRun_of (seg19 w os G)) (piece_nil fin))))))))))))))))))))
  have e : restOf bbody benv bcode pb [topFrame q0] = restOf [bd 1, bd 2, bd 3, bd 4, bd 5, bd 6, bd 7, bd 8, bd 9, bd 10, bd 11, bd 12, bd 13, bd 14, bd 15, bd 16, bd 17, bd 18, bd 19, bd 20] benv bcode pb [topFrame q0] := congrArg (fun l => restOf l benv bcode pb [topFrame q0]) bbody_eq
  rw [← e] at c
  have c2 := go_top (pre_ok w os) (piece_block (segRun_of (block_ok w os)) c)
  exact run_le c2 (Nat.le_of_ble_eq_true rfl)
theorem kin_ok (w : World) (G : Nat → Obj) : (KK w.params).In (Hf w.params G) := by
  refine Frag.in_of (as := (KK w.params).map (·.1)) rfl ?_
  kernel_rfl
theorem b3_at (w : World) (G : Nat → Obj) (B : Hs.Bears (absHeap (TX w.params G) 96 life0) 57 b3l) : ∃ es n, (Hf w.params G).get? 57 = some (Hs.dObj es n) ∧ Hs.Ents b3l es.toList := by
  obtain ⟨es, n, h, e⟩ := B.at_
  refine ⟨es, n, Hs.get_of_objs ?_, e⟩
  rw [absHeap_at] at h ⊢
  exact h
def lawS : Stmt := bd 20
def qv : Program := { pw with main := { pw.main with body := [bd 0, bd 20] } }
noncomputable def loose : List Str := [s "_wall", s "b1_set", s "in_table_b1", s "b3_exceptions", s "map_table_b3", s "_twin_re_1", s "_twin_re_2", s "CRLF", s "quotedata", s "_name_disallowed_re", s "_value_disallowed_re", s "Headers", s "_law_pool", s "_law_next", s "_law_meaning"]
theorem statics_ok (w : World) (os : OsState) (G : Nat → Obj) : (staticsOk (importedModules pw.main.body) (H0 w.params) (Hf w.params G) && namesBound pw (Hf w.params G) && gensDone (stG Tf G nf kf w os).abs && laidKept (H0 w.params) (Hf w.params G)) = true := by
  kernel_rfl
theorem seen_ok (w : World) (os : OsState) (G : Nat → Obj) : openSeen qv loose (importedModules pw.main.body) (fun _ => true) true (stG Tf G nf kf w os).abs = openGood qv loose := by
  rw [PySem.W.Fast.te4187177175401517315]
  kernel_rfl

end
end Hd1
namespace Hd1
noncomputable section

noncomputable abbrev oMain (P : Params) : Obj := (o3_20 P)
noncomputable def nsOf (o : Obj) (x : Str) : Option Value := match o.data with | .dict es _ => nsFind es x | _ => none
def YP (w : World) (h : Heap) : Prop := (KK w.params).In h ∧ ∃ es n, h.get? 57 = some (Hs.dObj es n) ∧ Hs.Ents b3l es.toList
def Yf (w : World) (s : Shared) : Prop := YP w s.heap
theorem behind (w : World) :
    ∃ s, openEnds treeTable pw w 40000 = some s ∧ openSeen qv loose (importedModules pw.main.body) (fun _ => true) true s = openGood qv loose ∧ YP w s.heap := by
  obtain ⟨⟨h, gs, d, k, os⟩, e, e'⟩ := Option.map_eq_some_iff.mp (open_ok w)
  obtain ⟨rfl, rfl, rfl, rfl⟩ : h = H0 w.params ∧ gs = Array.mk [] ∧ d = {} ∧ k = kI := by simpa using e'
  obtain ⟨z1, z2, z3⟩ : _ ∧ _ ∧ _ := by simpa only [Prod.mk.injEq] using size_ok w
  obtain ⟨G, B, r⟩ := run_ok w os
  have r := run_le (N := 40000) r (by decide)
  refine ⟨(stG Tf G nf kf w os).abs, ?_, seen_ok w os G, kin_ok w G, b3_at w G B⟩
  have t : topFrom treeTable pw w 40000 ⟨H0 w.params, Array.mk [], {}, kI, os⟩ = some (stG Tf G nf kf w os).abs := by
    unfold topFrom
    dsimp only
    rw [z1, z2, z3, r]
    show (match (staticsOk (importedModules pw.main.body) (H0 w.params) (Hf w.params G) && namesBound pw (Hf w.params G) && gensDone (stG Tf G nf kf w os).abs && laidKept (H0 w.params) (Hf w.params G)) with | true => _ | false => _) = _
    rw [statics_ok w os G]
  unfold openEnds
  rw [e]
  exact t
open Classical in
theorem leftO : LeftO pw qv loose (fun _ => true) (fun s => fun w : World => YP w s.heap) (fun w => fun v => YP v (Classical.choose (behind w)).heap) 40000 := by
  intro w
  obtain ⟨a, b, c⟩ := Classical.choose_spec (behind w)
  rw [a]
  show some (openSeen qv loose (importedModules pw.main.body) (fun _ => true) true (Classical.choose (behind w)), _) = _
  rw [b]
theorem YP_keeps (w : World) (h h' : Heap) (y : YP w h) (k : ∀ b o, h.get? b = some o → h'.get? b = some o) : YP w h' := by
  obtain ⟨y1, es, n, y2, y3⟩ := y
  exact ⟨y1.keeps k, es, n, k _ _ y2, y3⟩
abbrev rw_ : OpenLaw := PySem.Challenge.rw_re0177_01

end
end Hd1
namespace L1
open Wk Hd1

noncomputable def isDictS (o : Obj) : Bool := match o.data with | .dict es _ => es.all (fun e => match e.key with | .str .. => true | _ => false) | _ => false
theorem ns_of {h : Heap} {a : Addr} {o : Obj} (e : h.get? a = some o) (hk : isDictS o = true) : h.Ns a (nsOf o) := by
  unfold isDictS at hk
  unfold nsOf
  split at hk
  · rename_i es ep hd
    refine ⟨o, es, ep, e, hd, fun x hx => ?_, fun name => by first | rfl | rw [hd]⟩
    have := (Array.all_eq_true_iff_forall_mem.mp hk) x hx
    split at this
    · rename_i n t hkey; exact ⟨n, t, hkey⟩
    · cases this
  · cases hk
theorem main_s (P : Params) : isDictS (oMain P) = true := by kernel_rfl
theorem bi_s (P : Params) : isDictS (o0_0 P) = true := by kernel_rfl
def Top (w : World) (base : Addr → Option Obj) : Prop := (∀ a o, (KK w.params).lookup a = some o → base a = some o) ∧ ∃ es n, base 57 = some (Hs.dObj es n) ∧ Hs.Ents b3l es.toList
theorem Top.yp {w : World} {base : Addr → Option Obj} {h : Heap} (t : Top w base) (b : Bh base h) : YP w h := ⟨fun a o e => b a o (t.1 a o e), let ⟨es, n, e, r⟩ := t.2; ⟨es, n, b _ _ e, r⟩⟩
theorem Top.of {w : World} {h : Heap} (y : YP w h) : Top w h.get? := ⟨fun a o e => y.1 a o e, y.2⟩
theorem Top.up {w : World} {base base' : Addr → Option Obj} (t : Top w base) (h : ∀ a o, base a = some o → base' a = some o) : Top w base' := ⟨fun a o e => h a o (t.1 a o e), let ⟨es, n, e, r⟩ := t.2; ⟨es, n, h _ _ e, r⟩⟩
structure Fr2 (w : World) (F : Fm) : Prop where
  top : Top w F.base
  gl : F.env.globals = 3
  bi : F.env.builtins = 0
  kd : F.env.scope.kind = .function
section
variable {w : World} {F : Fm}
theorem gl (f : Fr2 w F) {x : Str} {v : Value} (hx : F.env.kindOf x = some .globalImplicit) (hv : nsOf (oMain w.params) x = some v) (hd : (x == ("__debug__" : Str)) = false := by decide) : Glob pw w F x v :=
  glob_of (mg := nsOf (oMain w.params)) f.kd hx (fun s b => by rw [f.gl]; exact ns_of ((f.top.yp b).1 3 _ (by kernel_rfl)) (main_s _)) hv hd
theorem bi (f : Fr2 w F) {x : Str} {v : Value} (hx : F.env.kindOf x = some .globalImplicit) (hn : nsOf (oMain w.params) x = none) (hv : nsOf (o0_0 w.params) x = some v) (hd : (x == ("__debug__" : Str)) = false := by decide) : Glob pw w F x v :=
  glob_bi (mg := nsOf (oMain w.params)) (mb := nsOf (o0_0 w.params)) f.kd hx (fun s b => by rw [f.gl]; exact ns_of ((f.top.yp b).1 3 _ (by kernel_rfl)) (main_s _)) hn (fun s b => by rw [f.bi]; exact ns_of ((f.top.yp b).1 0 _ (by kernel_rfl)) (bi_s _)) hv hd
end
noncomputable def fdOf (o : Obj) : FuncData := match o.data with | .func fd => fd | _ => default
theorem st_s (P : Params) : isDictS (o2_0 P) = true := by kernel_rfl
theorem nolim {w : World} {h : Heap} (y : YP w h) : h.NoLimit := ⟨nsOf (o2_0 w.params), ns_of (y.1 2 (o2_0 w.params) (by kernel_rfl)) (st_s _), by kernel_rfl⟩
theorem fnAt {w : World} {base : Addr → Option Obj} (t : Top w base) {a c : Addr} {o oc : Obj} {fd : FuncData} {vs : Array Value} {u : Tok} (h1 : (KK w.params).lookup a = some o) (h2 : o.data = .func fd) (h3 : fd.code = .ref c) (h4 : (KK w.params).lookup c = some oc) (h5 : oc.data = .fields vs) (h6 : vs[1]? = some (.str fd.qualname u)) :
    ∀ s : Shared, Bk base s → (∃ o, s.heap.get? a = some o ∧ o.data = .func fd) ∧ s.heap.NoLimit ∧ s.heap.CodeRec fd.code fd.qualname := fun s b => by
  have y := t.yp b
  exact ⟨⟨o, y.1 a o h1, h2⟩, nolim y, c, oc, vs, u, h3, y.1 c oc h4, h5, h6⟩
theorem fr2_fn {w : World} {base : Addr → Option Obj} {fd : FuncData} {a L : Addr} {sp : List (Str × CSlot)} {os : OsState} (t : Top w base) (h1 : fd.globals = 3) (h2 : fd.builtins = 0) (h3 : fd.scope.kind = .function) : Fr2 w (fnFm fd a L sp base os) := ⟨t, h1, h2, h3⟩
open Wk Hd1
noncomputable def setOk (o : Obj) : Bool := match o.cls, o.dict, o.data with
  | .type n, none, .set es _ t => n == "set" && es.all (fun e => match e.2 with | .int i _ => e.1 == hashInt i | _ => false) && t.fits es.size && decide (es.size < 1000) && decide (o.slots.size = 0)
  | _, _, _ => false
noncomputable def setHas (o : Obj) (k : Int) : Bool := match o.data with | .set es _ _ => es.toList.any fun e => Value.isInt k e.2 | _ => false
theorem set_s (P : Params) : setOk (o46_0 P) = true := by kernel_rfl
theorem set_of {prog : Program} {w : World} {h : Heap} {a : Addr} {o : Obj} (e : h.get? a = some o) (hk : setOk o = true) : ∃ n, h.SetOf (intKind prog w) a (setHas o) n := by
  unfold setOk at hk
  unfold setHas
  obtain ⟨c, d, dt, sl⟩ := o
  dsimp only at hk ⊢
  split at hk
  · rename_i n es ep t
    simp only [Bool.and_eq_true, beq_iff_eq, decide_eq_true_eq, Array.all_eq_true_iff_forall_mem] at hk
    obtain ⟨⟨⟨⟨h1, h2⟩, h3⟩, h4⟩, h5⟩ := hk
    refine ⟨es.size, _, es, ep, t, e, ⟨by rw [h1], rfl, Array.eq_empty_of_size_eq_zero h5⟩, rfl, fun x hx => ?_, fun k => ?_, by unfold scanBound; lia, h3, rfl⟩
    · have := h2 x (Array.mem_toList_iff.mp hx)
      obtain ⟨hh, v⟩ := x
      dsimp only at this ⊢
      split at this
      · rename_i i t2
        exact ⟨⟨i, by show (i == i) = true; simp, (by have h9 : hh = hashInt i := by simpa using this
                                                      exact h9)⟩, rfl⟩
      · cases this
    · rw [List.any_eq_true]
      exact Iff.rfl
  · cases hk
theorem ents_find {k : Int} : ∀ {l : List (Int × Str)} {es : List DictEntry}, Hs.Ents l es → match (l.find? fun p => p.1 == k) with | none => (es.find? fun e => Value.isInt k e.key) = none | some p => ∃ t, (es.find? fun e => Value.isInt k e.key).map (·.val) = some (.str p.2 t)
  | [], [], _ => rfl
  | p :: l, e :: es, ⟨⟨t, t', h⟩, r⟩ => by
    subst h
    have hb : Value.isInt k (.int p.1 t) = (p.1 == k) := rfl
    simp only [List.find?_cons, hb]
    cases hk : p.1 == k with
    | true => exact ⟨t', rfl⟩
    | false => exact ents_find r
  | [], _ :: _, h => h.elim
  | _ :: _, [], h => h.elim
theorem ents_keys : ∀ {l : List (Int × Str)} {es : List DictEntry}, Hs.Ents l es → ∀ e ∈ es, ∃ k : Int, Value.isInt k e.key = true ∧ e.hash = hashInt k
  | [], [], _, e, h => by cases h
  | p :: l, e :: es, ⟨⟨t, t', h⟩, r⟩, e', h' => by
    subst h
    rcases List.mem_cons.mp h' with rfl | h'
    · exact ⟨p.1, by show (p.1 == p.1) = true; simp, rfl⟩
    · exact ents_keys r e' h'
  | [], _ :: _, h, _, _ => h.elim
  | _ :: _, [], h, _, _ => h.elim
def b3v (k : Int) : At := match (b3l.find? fun p => p.1 == k) with | none => .none | some p => .str p.2
theorem b3_of {prog : Program} {w : World} {h : Heap} (y : YP w h) : ∃ f, h.MapOf (intKind prog w) 57 f ∧ ∀ k, (b3v k).of ((f k).getD .none) := by
  obtain ⟨_, es, n, ho, he⟩ := y
  refine ⟨fun k => findBy (intKind prog w).is es k, ⟨_, es, n, ho, ⟨rfl, rfl, rfl⟩, rfl, fun e hh => ents_keys he e (Array.mem_toList_iff.mpr hh), fun _ => rfl⟩, fun k => ?_⟩
  have h2 := ents_find (k := k) he
  have e1 : findBy (intKind prog w).is es k = (es.toList.find? fun e => Value.isInt k e.key).map (·.val) := by
    show (es.find? _).map _ = _
    rw [← Array.find?_toList]; rfl
  show (b3v k).of ((findBy (intKind prog w).is es k).getD .none)
  rw [e1]
  unfold b3v
  split at h2
  · rename_i hq; rw [h2]; rfl
  · rename_i p hq
    obtain ⟨t, h3⟩ := h2
    rw [h3]
    exact ⟨t, rfl⟩
open Wk Hd1
section
variable {w : World} {F : Fm} {ρ : Rho} {k : Nat}
theorem ev_in_set {l : PySem.Expr} {x : Str} {np pos : PySem.Pos} {i : Int} {f1 fr : Bool} (f : Fr2 w F) (hm : behindInMarks .In (.Name x np) = false) (hl : EvJ pw w F ρ k l (.int i) f1) (g : Glob pw w F x (.ref 46)) : EvJ pw w F ρ k (.Compare l [.In] [.Name x np] pos) (.bool (setHas (o46_0 w.params) i)) fr := fun A s rm I => by
  refine wpAny_Compare1 (hm := hm) (wpAny_mono (hl A s rm I) (fun a s₁ ⟨x1, fp1, ⟨⟨t, e1⟩, _⟩, _⟩ => ?_) fun _ _ e => e)
  subst e1
  have b := (I.ext x1).keep
  obtain ⟨n, hS⟩ := set_of (prog := pw) (w := w) ((f.top.yp b).1 46 (o46_0 w.params) (by kernel_rfl)) (set_s _)
  refine g A s₁ _ _ _ b (wpAny_inSet_of (k := i) (by show (i == i) = true; simp) rfl hS ?_)
  exact give_trans (x1.trans (Ext.tok s₁ _)) giv_bool
theorem ev_b3_get {x : Str} {np apos pos : PySem.Pos} {e : PySem.Expr} {i : Int} {f1 fr : Bool} (f : Fr2 w F) (hb : attributeBase (.Name x np) "get" F.env (eval (.Name x np) F.env) = eval (.Name x np) F.env) (hs : starEach [e] F.env = plainArgs [e] F.env) (hl : (apos.endLine == pos.line) = true) (g : Glob pw w F x (.ref 57)) (he : EvJ pw w F ρ k e (.int i) f1) :
    EvJ pw w F ρ k (.Call (.Attribute (.Name x np) "get" apos) [e] [] pos) (.iv (.at (b3v i))) fr := fun A s rm I => by
  refine meth_wp hb hs hl (by simp) (T := "dict") (id := "dict.get") ⟨PySem.F.plainAttrs_dict, PySem.F.slot_dict_get, PySem.F.type_dict_get, by decide⟩ (g A s _ _ _ I.keep ?_)
  obtain ⟨es, n, ho, _⟩ := (f.top.yp I.keep).2
  refine ⟨⟨_, ho, rfl⟩, fun a ea => by cases ea; exact ⟨_, ho, rfl⟩, ?_⟩
  refine Calls.spliced_cons (wpAny_mono (he A s rm I) (fun a s₁ ⟨x1, fp1, ⟨⟨t, e1⟩, _⟩, _⟩ => Calls.spliced_nil ?_) fun _ _ e => e)
  subst e1
  obtain ⟨ff, hM, hv⟩ := b3_of (prog := pw) (w := w) (f.top.yp (I.ext x1).keep)
  refine call_meetsIn PySem.F.slot_dict_get hM.typeIs PySem.F.entry_dict_get (PySem.F.args_dict_get_2 _ _) (meets_dict_get (intKind pw w) 57 (k := i) (by show (i == i) = true; simp) (by rfl)) ⟨ff, hM, ?_⟩
  exact give_trans (x1.trans (Ext.tok s₁ _)) ⟨Ext.refl _, [], ⟨hv i, rfl⟩, fun _ a ha => nomatch ha⟩
end
set_option maxHeartbeats 2000000 in
theorem in_table {w : World} {base : Addr → Option Obj} {k : Nat} (t : Top w base) {c : Nat} : CallP pw w base (k + 1) (.ref 56) [.str ⟨#[c]⟩] (.bool (setHas (o46_0 w.params) c)) true := by
  refine call_own (fd := fdOf (o56_0 w.params)) (sp := [("code", .loc)]) (names := ["code"]) (n := 0) (body := fBody (bd 4)) (fnAt t (o := o56_0 w.params) (oc := o55_0 w.params) (by kernel_rfl) rfl rfl (by kernel_rfl) rfl rfl) rfl rfl ?_ ⟨by kernel_rfl, trivial⟩ (by decide) rfl rfl rfl ?_ (by kernel_rfl) (by kernel_rfl) (by kernel_rfl)
  · exact vals1 fun v => rfl
  · intro L base' os hb ok
    have f := fr2_fn (fd := fdOf (o56_0 w.params)) (a := 56) (L := L) (sp := [("code", .loc)]) (os := os) (t.up hb) rfl rfl (by kernel_rfl)
    have hord := bi (x := "ord") f (by kernel_rfl) (by kernel_rfl) (v := .builtin "ord") (by kernel_rfl)
    have hset := gl (x := "b1_set") f (by kernel_rfl) (v := .ref 46) (by kernel_rfl)
    exact ex_one (ex_return_iv (fr := true) (ev_in_set f (by rfl) (ev_call (by rfl) hord (.cons (ev_local 0 ok rfl rfl (by intro q; cases q)) .nil) (c_ord (c := c)) (fun a e => nomatch e)) hset) rfl)
def mapV (c : Nat) : Str := match b3v c with | .str x => x | _ => Txt.lower ⟨#[c]⟩
theorem b3v_cases (k : Int) : b3v k = .none ∨ ∃ x, b3v k = .str x := by
  unfold b3v
  split
  · exact .inl rfl
  · exact .inr ⟨_, rfl⟩
set_option maxHeartbeats 2000000 in
theorem map_table {w : World} {base : Addr → Option Obj} {k : Nat} (t : Top w base) {c : Nat} (hc : Builtin.Str.tooLong (Txt.lower ⟨#[c]⟩).length = false) : CallP pw w base (k + 1) (.ref 102) [.str ⟨#[c]⟩] (.str (mapV c)) true := by
  refine call_own (fd := fdOf (o102_0 w.params)) (sp := [("code", .loc), ("r", .loc)]) (names := ["code"]) (n := 1) (body := fBody (bd 6)) (fnAt t (o := o102_0 w.params) (oc := o101_0 w.params) (by kernel_rfl) rfl rfl (by kernel_rfl) rfl rfl) rfl rfl ?_ ⟨by kernel_rfl, by kernel_rfl, trivial⟩ (by decide) rfl rfl rfl ?_ (by kernel_rfl) (by kernel_rfl) (by kernel_rfl)
  · exact vals1 fun v => rfl
  · intro L base' os hb ok
    have f := fr2_fn (fd := fdOf (o102_0 w.params)) (a := 102) (L := L) (sp := [("code", .loc), ("r", .loc)]) (os := os) (t.up hb) rfl rfl (by kernel_rfl)
    have hord := bi (x := "ord") f (by kernel_rfl) (by kernel_rfl) (v := .builtin "ord") (by kernel_rfl)
    have hb3 := gl (x := "b3_exceptions") f (by kernel_rfl) (v := .ref 57) (by kernel_rfl)
    refine ex_then (ex_assign_iv (own := false) 1 (acc := none) rfl own_none (ev_b3_get (fr := true) f (by rfl) (by rfl) (by rfl) hb3 (ev_call (by rfl) hord (.cons (ev_local 0 ok rfl rfl (by intro q; cases q)) .nil) (c_ord (c := c)) (fun a e => nomatch e))) (by rfl)) ?_
    rcases b3v_cases c with h | ⟨x, h⟩
    · rw [h]
      refine ex_then (ρ₁ := [(.str ⟨#[c]⟩, false), (.none, false)]) (ex_if (b := false) (eb_cmp (by rfl) (ev_local 1 ok rfl rfl (by intro q; cases q)) ev_none (op_isnot_none (a := .none) (by intro b q; cases q))) ?_) ?_
      · exact ex_nil ⟨rfl, rfl⟩
      · refine ex_one (ex_return_iv (fr := true) (ev_meth (by rfl) (by rfl) (by rfl) (by decide) (ev_local 0 ok rfl rfl (by intro q; cases q)) .nil .str m_lower (c_lower hc)) ?_)
        unfold mapV; rw [h]
    · rw [h]
      refine ex_cons (P₁ := fun fl _ => fl = .ret (.str (mapV c))) (ex_if (b := true) (eb_cmp (by rfl) (ev_local 1 ok rfl rfl (by intro q; cases q)) ev_none (op_isnot_none (a := .str x) (by intro b q; cases q))) ?_) (fun ρ' e => by cases e) (fun fl ρ' _ e => e)
      refine ex_one (ex_return_iv (ev_local 1 ok rfl rfl (by intro q; cases q)) ?_)
      unfold mapV; rw [h]
end L1
open PySem PySem.W PyProof.Rows PySem.Builtin.Re
namespace L1
open Wk Hd1
theorem pat_of {base : Addr → Option Obj} {w : World} (t : Top w base) {p T : Addr} {o ot : Obj} {vs items : Array Value} {n : Nat} {C : Array Nat} (h1 : (KK w.params).lookup p = some o) (h2 : (KK w.params).lookup T = some ot) (hc : o.cls = .type "re.Pattern") (hd : o.dict = none) (hf : o.data = .fields vs)
    (h5 : vs.getD 5 .none = .ref T) (h6 : reRawNat (vs.getD 6 .none) = 0) (h7 : reRawNat (vs.getD 2 .none) = 0) (hct : ot.cls = .type "tuple") (hdt : ot.data = .seq items n) (hC : (items.map reRawOf).map Int.toNat = C) : ∀ s : Shared, Bk base s → PatOk s.heap p C := fun s b =>
  ⟨o, vs, T, ot, items, n, (t.yp b).1 p o h1, hc, hd, hf, h5, h6, h7, (t.yp b).1 T ot h2, hct, hdt, hC⟩
noncomputable def tokOf : Option Value → Tok | some (.str _ u) => u | _ => 0
set_option maxHeartbeats 2000000 in
theorem c_quotedata {w : World} {base : Addr → Option Obj} {k : Nat} (t : Top w base) {x : Str} (hx : x.length ≤ 5000) (h13 : ∀ i, x.cps.getD i 0 ≠ 13) : CallP pw w base (k + 1) (.ref 119) [.str x] (.str (quoteV x)) true := by
  refine call_own (fd := fdOf (o119_0 w.params)) (sp := [("data", .loc)]) (names := ["data"]) (n := 0) (body := fBody (bd 11)) (fnAt t (o := o119_0 w.params) (oc := o118_0 w.params) (by kernel_rfl) rfl rfl (by kernel_rfl) rfl rfl) rfl rfl ?_ ⟨by kernel_rfl, trivial⟩ (by decide) rfl rfl rfl ?_ (by kernel_rfl) (by kernel_rfl) (by kernel_rfl)
  · exact vals1 fun v => rfl
  · intro L base' os hb ok
    have t' := t.up hb
    have f := fr2_fn (fd := fdOf (o119_0 w.params)) (a := 119) (L := L) (sp := [("data", .loc)]) (os := os) t' rfl rfl (by kernel_rfl)
    have g1 := gl (x := "_twin_re_1") f (by kernel_rfl) (v := .ref 107) (by kernel_rfl)
    have g2 := gl (x := "_twin_re_2") f (by kernel_rfl) (v := .ref 112) (by kernel_rfl)
    have hu : nsOf (oMain w.params) "CRLF" = some (.str "\r\n" (tokOf (nsOf (oMain w.params) "CRLF"))) := by kernel_rfl
    have g3 := gl (x := "CRLF") f (by kernel_rfl) hu
    have p1 := pat_of t' (p := 107) (T := 106) (o := o107_0 w.params) (ot := o106_0 w.params) (C := C1) (by kernel_rfl) (by kernel_rfl) rfl rfl rfl (by kernel_rfl) (by kernel_rfl) (by kernel_rfl) rfl rfl (by kernel_rfl)
    have p2 := pat_of t' (p := 112) (T := 111) (o := o112_0 w.params) (ot := o111_0 w.params) (C := C2) (by kernel_rfl) (by kernel_rfl) rfl rfl rfl (by kernel_rfl) (by kernel_rfl) (by kernel_rfl) rfl rfl (by kernel_rfl)
    have hcl := crlfV_len x
    exact ex_one (ex_return_iv (fr := true) (ev_re_sub (by rfl) (by rfl) (by rfl) g1 p1 ev_str (ev_re_sub (by rfl) (by rfl) (by rfl) g2 p2 (ev_glob (p := .at (.str "\r\n")) g3 fun h => ⟨_, rfl⟩) (ev_local 0 ok rfl rfl (by intro q; cases q)) (findsP2 _ h13) (by lia) (by decide) (by kernel_rfl)) (findsP1 _) (show (crlfV x).length ≤ 100000 by lia) (by decide) (by kernel_rfl)) rfl)
end L1
namespace Wk
open PySem.Builtin.Re PySem.Builtin PySem.Sre
noncomputable def C3 : Array Nat := #[14, 10, 4, 1, 1, 22, 0, 31, 16, 127, 0, 13, 7, 22, 0, 31, 16, 127, 0, 1]
noncomputable def C4 : Array Nat := #[14, 14, 4, 1, 1, 9, 4294966783, 0, 0, 2147483648, 0, 0, 0, 0, 0, 13, 11, 9, 4294966783, 0, 0, 2147483648, 0, 0, 0, 0, 0, 1]
def okC (c : Nat) : Prop := 32 ≤ c ∧ c ≠ 127
def SetMiss (C : Array Nat) : Prop := ∀ c seen, okC c → ∃ seen', inSet C c C.size 5 true seen = .ok (false, seen')
theorem miss3 : SetMiss C3 := fun c seen ⟨h1, h2⟩ => by
  have e : inSet C3 c C3.size 5 true seen = if (decide (0 ≤ c) && decide (c ≤ 31)) = true then .ok (true, seen.add 22) else if (c == 127) = true then .ok (true, (seen.add 22).add 16) else .ok (false, ((seen.add 22).add 16).add 0) := rfl
  rw [e, if_neg (by simp; omega), if_neg (by simpa using h2)]
  exact ⟨_, rfl⟩
theorem bits4 : ∀ c : Fin 256, 32 ≤ c.val → c.val ≠ 127 → (C4.getD (5 + (1 + c.val / 32)) 0).testBit (c.val % 32) = false := by decide +kernel
theorem miss4 : SetMiss C4 := fun c seen ⟨h1, h2⟩ => by
  have e : inSet C4 c C4.size 5 true seen = if (decide (c < 256) && (C4.getD (5 + (1 + c / 32)) 0).testBit (c % 32)) = true then .ok (true, seen.add 9) else .ok (false, (seen.add 9).add 0) := rfl
  have hn : (decide (c < 256) && (C4.getD (5 + (1 + c / 32)) 0).testBit (c % 32)) = false := by
    by_cases hc : c < 256
    · rw [bits4 ⟨c, hc⟩ h1 h2]; simp
    · simp [hc]
  rw [e, hn, if_neg (by simp)]
  exact ⟨_, rfl⟩
theorem admN {C : Array Nat} (hm : SetMiss C) {m : Sre.M} (hc : m.code = C) (hk : ∀ i, i < m.lim → okC (m.text.getD i 0)) : ∀ (f s : Nat) (seen : Sre.Seen), ∃ seen', M.admitted m f s seen = .ok (none, seen')
  | 0, s, seen => ⟨seen, rfl⟩
  | f + 1, s, seen => by
    unfold M.admitted
    by_cases hl : s < m.lim
    · rw [if_neg (by omega), hc]
      obtain ⟨seen1, h1⟩ := hm (m.text.getD s 0) seen (hk s hl)
      rw [h1]
      obtain ⟨seen2, h2⟩ := admN hm hc hk f (s + 1) seen1
      exact ⟨seen2, h2⟩
    · rw [if_pos (by omega)]
      exact ⟨seen, rfl⟩
def Misses (C : Array Nat) (x : Array Nat) : Prop := ∃ n m', n ≤ 2 ∧ (Sre.forSearch C x 0 0 x.size false).runFor n = m' ∧ m'.outcome = some .failed
theorem search3 {text : Array Nat} (hk : ∀ i, i < text.size → okC (text.getD i 0)) : Misses C3 text := by
  have e : ∀ lim, forSearch C3 text 0 0 lim false = if (decide (0 > lim) || decide (lim - 0 < 1)) = true then mk C3 text lim 0 0 11 0 0 true [] 0 (some false) (({} : Sre.Seen).add 14) else
      match M.admitted (mk C3 text lim 0 lim 11 0 0 true [] 0 none (({} : Sre.Seen).add 14)) (lim + 1 - 0) 0 (({} : Sre.Seen).add 14) with
      | .ok (some i, seen) => mk C3 text lim i lim 11 i i true [nsFrame 11 i true] 1 none seen
      | .ok (none, seen) => mk C3 text lim 0 lim 11 0 0 true [] 0 (some false) seen
      | .error why => (mk C3 text lim 0 lim 11 0 0 true [] 0 none (({} : Sre.Seen).add 14)).stick why := fun lim => rfl
  unfold Misses
  rw [e]
  split
  · exact ⟨1, _, by omega, by rw [run_step _ _ rfl, fin_step], rfl⟩
  · obtain ⟨seen', h1⟩ := admN miss3 (m := mk C3 text text.size 0 text.size 11 0 0 true [] 0 none (({} : Sre.Seen).add 14)) rfl hk (text.size + 1 - 0) 0 (({} : Sre.Seen).add 14)
    rw [h1]
    exact ⟨1, _, by omega, by rw [run_step _ _ rfl, fin_step], rfl⟩
theorem search4 {text : Array Nat} (hk : ∀ i, i < text.size → okC (text.getD i 0)) : Misses C4 text := by
  have e : ∀ lim, forSearch C4 text 0 0 lim false = if (decide (0 > lim) || decide (lim - 0 < 1)) = true then mk C4 text lim 0 0 15 0 0 true [] 0 (some false) (({} : Sre.Seen).add 14) else
      match M.admitted (mk C4 text lim 0 lim 15 0 0 true [] 0 none (({} : Sre.Seen).add 14)) (lim + 1 - 0) 0 (({} : Sre.Seen).add 14) with
      | .ok (some i, seen) => mk C4 text lim i lim 15 i i true [nsFrame 15 i true] 1 none seen
      | .ok (none, seen) => mk C4 text lim 0 lim 15 0 0 true [] 0 (some false) seen
      | .error why => (mk C4 text lim 0 lim 15 0 0 true [] 0 none (({} : Sre.Seen).add 14)).stick why := fun lim => rfl
  unfold Misses
  rw [e]
  split
  · exact ⟨1, _, by omega, by rw [run_step _ _ rfl, fin_step], rfl⟩
  · obtain ⟨seen', h1⟩ := admN miss4 (m := mk C4 text text.size 0 text.size 15 0 0 true [] 0 none (({} : Sre.Seen).add 14)) rfl hk (text.size + 1 - 0) 0 (({} : Sre.Seen).add 14)
    rw [h1]
    exact ⟨1, _, by omega, by rw [run_step _ _ rfl, fin_step], rfl⟩
section
variable {prog : Program} {w : World}
theorem target_wp {p : Addr} {x : Str} {t : Tok} {C : Array Nat} {A : Around} {s : Shared} {E : Value → Shared → Prop} {Q : ReTarget → Shared → Prop} (hx : x.length ≤ 100000) (hp : PatOk s.heap p C) (hq : Q (tgtOf p x t C) s) : wpAny (model prog w) A (reTarget "re.Pattern.search" "search" ⟨[.ref p, .str x t], []⟩) Q E s := by
  obtain ⟨o, vs, T, ot, items, n, a1, a2, a3, a4, a5, a6, a7, a8, _, a9, a10⟩ := hp
  unfold reTarget
  dsimp only
  refine wpAny_bind (wpAny_of_eq (a := [some (.str x t), none, none]) rfl ?_)
  dsimp only
  refine wpAny_bind (wpAny_pure ?_)
  refine wpAny_bind (wpAny_pure ?_)
  refine wpAny_bind (m := fieldsOf (.ref p)) ?_
  unfold fieldsOf
  refine wpAny_bind (wpAny_load a1 ?_)
  rw [a4]
  refine wpAny_pure ?_
  refine wpAny_bind (m := reTextOf (.str x t)) (wpAny_pure ?_)
  dsimp only
  rw [a6]
  rw [if_neg (by decide), if_neg (by decide)]
  refine wpAny_bind (m := reNoCollectionInside (.str x t) 0) (wpAny_pure ?_)
  rw [a5]
  refine wpAny_bind (m := reRawItems (.ref T)) ?_
  unfold reRawItems
  refine wpAny_bind (wpAny_seqItems a8 a9 (wpAny_pure (wpAny_pure ?_)))
  dsimp only [Option.getD]
  rw [a10, a7]
  have e : min (2 ^ 63 - 1 : Int).toNat x.cps.size = x.cps.size := by
    have : x.cps.size ≤ 100000 := hx
    exact Nat.min_eq_right (by have : (2 ^ 63 - 1 : Int).toNat = 9223372036854775807 := by decide
                               omega)
  rw [e]
  have e0 : min (0 : Int).toNat x.cps.size = 0 := Nat.zero_min _
  rw [e0]
  exact hq
theorem c_search {C : Array Nat} {p : Addr} {x : Str} {t : Tok} {A : Around} {s : Shared} {Q E : Value → Shared → Prop} (hm : Misses C x.cps) (hx : x.length ≤ 100000) (hp : PatOk s.heap p C) (hQ : Q .none s) :
    wpAny (model prog w) A (PySem.call (.builtin "re.Pattern.search") [.ref p, .str x t]) Q E s := by
  have hT : s.TypeIs (.ref p) "re.Pattern" := by obtain ⟨o, vs, T, ot, items, n, a1, a2, _⟩ := hp; exact ⟨o, a1, a2⟩
  obtain ⟨n, m', h1, h2, h3⟩ := hm
  refine wpAny_call (codeAny_call_builtin slot_search.plain entry_search (slot_search.check _ _ _ _ _ _ _ _ hT (args_search_2 _ _) ?_))
  refine wpAny_bind (target_wp hx hp ?_)
  unfold reAnswer
  refine wpAny_bind (toEnd_wp h2 (by omega) (.inr ⟨h3, ?_⟩))
  exact wpAny_pure hQ
end
section
variable {prog : Program} {w : World} {F : Fm} {ρ : Rho} {k : Nat}
theorem ev_re_search {C : Array Nat} {p : Addr} {f : PySem.Expr} {apos pos : PySem.Pos} {e2 : PySem.Expr} {x : Str} {f0 f2 : Bool} (hb : attributeBase f "search" F.env (eval f F.env) = eval f F.env) (hs : starEach [e2] F.env = plainArgs [e2] F.env) (hl : (apos.endLine == pos.line) = true)
    (g : EvJ prog w F ρ k f (.iv (.at (.val (.ref p)))) f0) (hp : ∀ s : Shared, Bk F.base s → PatOk s.heap p C) (h2 : EvJ prog w F ρ k e2 (.str x) f2) (hm : Misses C x.cps) (hx : x.length ≤ 100000) :
    EvJ prog w F ρ k (.Call (.Attribute f "search" apos) [e2] [] pos) .none true := fun A s rm I => by
  refine meth_wp hb hs hl (by simp) m_search (wpAny_mono (g A s rm I) (fun v s₀ ⟨x0, fp0, ⟨q0, _⟩, _⟩ => ?_) fun _ _ e => e)
  have q0 : v = .ref p := q0
  subst q0
  obtain ⟨o, vs, T, ot, items, n, ho, hc, hd, _⟩ := hp s₀ (I.ext x0).keep
  refine ⟨⟨o, ho, hc⟩, fun a ea => by cases ea; exact ⟨o, ho, hd⟩, ?_⟩
  refine Calls.spliced_cons (wpAny_mono (h2 A s₀ rm (I.ext x0)) (fun a s₂ ⟨x2, fp2, ⟨⟨t2, q2⟩, _⟩, _⟩ => Calls.spliced_nil ?_) fun _ _ e => e)
  subst q2
  exact c_search hm hx (hp s₂ ((I.ext x0).ext x2).keep) (give_trans (x0.trans x2) giv_none)
end
variable {prog : Program} {w : World}
section
variable {k : Nat} {base : Addr → Option Obj} {F : Fm} {ρ : Rho}
noncomputable abbrev PV.val (u : Value) : PV := .iv (.at (.val u))
theorem giv_val {s : Shared} {u : Value} {fr : Bool} : Gives' prog w (PV.val u) fr s u s := ⟨Ext.refl s, [], ⟨rfl, rfl⟩, fun _ a ha => nomatch ha⟩
theorem c_type {p : PV} {T : String} (t : TyOf p T) (hnb : (Value.type T == Value.type "builtin_function_or_method") = false) : CallP prog w base k (.type "type") [p] (PV.val (.type T)) true := fun A s vals rm g b r => by
  obtain ⟨v, rfl, fp, h⟩ := reps1 r
  exact call_type_of (t.is h) hnb giv_val
theorem op_is_type {T : String} : Op2 (prog := prog) (w := w) k (compareOp .Is) (PV.val (.type T)) (PV.val (.type T)) (.bool true) true := fun A s x y fa fb rm g ⟨h1, _⟩ ⟨h2, _⟩ => by
  have h1 : x = .type T := h1
  have h2 : y = .type T := h2
  subst h1 h2
  exact wpAny_is_self rfl giv_bool
theorem op_isnot_type {T : String} : Op2 (prog := prog) (w := w) k (compareOp .IsNot) (PV.val (.type T)) (PV.val (.type T)) (.bool false) true := fun A s x y fa fb rm g ⟨h1, _⟩ ⟨h2, _⟩ => by
  have h1 : x = .type T := h1
  have h2 : y = .type T := h2
  subst h1 h2
  exact wpAny_isNot_self rfl giv_bool
theorem eb_call_none {f : PySem.Expr} {as : List PySem.Expr} {kw : List Keyword} {pos : PySem.Pos} {fr : Bool} (h : EvJ prog w F ρ k (.Call f as kw pos) .none fr) : EvB prog w F ρ k (.Call f as kw pos) false :=
  eb_val h (fun A s v _ (hv : v = .none) => by subst hv; exact truthy_none ⟨rfl, Ext.refl s⟩) fun Q s A E h => wpAny_isTrue_value h
theorem eb_name {x : Str} {pos : PySem.Pos} {b fr : Bool} (h : EvJ prog w F ρ k (.Name x pos) (.bool b) fr) : EvB prog w F ρ k (.Name x pos) b := eb_bool h fun Q s A E h => wpAny_isTrue_value h
end
end Wk
namespace L1
open Wk Hd1
abbrev mHd (P : Params) : Str → Option Value := nsOf (o251_0 P)
theorem cl_s (P : Params) : isDictS (o251_0 P) = true := by kernel_rfl
theorem clsB {w : World} {base : Addr → Option Obj} (t : Top w base) : ClsB base 252 251 (mHd w.params) where
  at_ := fun s b => ⟨⟨_, _, _, _, _, _, _, _, _, _, _, _, (t.yp b).1 252 (o252_0 w.params) (by kernel_rfl)⟩, ns_of ((t.yp b).1 251 (o251_0 w.params) (by kernel_rfl)) (cl_s _)⟩
  ga := by kernel_rfl
  gt := by kernel_rfl
  hd := by kernel_rfl
theorem methB {w : World} {base : Addr → Option Obj} (t : Top w base) {name : Str} {f : Addr} {o : Obj} {fd : FuncData} (h1 : mHd w.params name = some (.ref f)) (h2 : (KK w.params).lookup f = some o) (h3 : o.cls = .type "function") (h4 : o.data = .func fd) (h5 : name ≠ "_headers") (h6 : ∃ y, typeLookup (.type "object") name = pure y) : MethB base (mHd w.params) name f := ⟨h1, ⟨o, fd, t.1 f o h2, h3, h4⟩, h5, h6⟩
def StrOk (x : Str) : Prop := (∀ i, i < x.cps.size → okC (x.cps.getD i 0)) ∧ x.length ≤ 100000
set_option maxHeartbeats 2000000 in
theorem c_convert {w : World} {base : Addr → Option Obj} {k : Nat} (t : Top w base) {l : List IV} {x : Str} {b : Bool} (hx : StrOk x) : CallX pw w base (k + 1) (.ref 151) [("name", .bool b)] [.obj 252 l, .str x] (.str x) true := by
  refine call_ownX (fd := fdOf (o151_0 w.params)) (sp := [("self", .loc), ("value", .loc), ("name", .loc), ("regex", .loc)]) (names := ["self", "value", "name"]) (ps := [.obj 252 l, .str x, .bool b]) (n := 1) (body := fBody (cd 15 1)) (fnAt t (o := o151_0 w.params) (oc := o150_0 w.params) (by kernel_rfl) rfl rfl (by kernel_rfl) rfl rfl) rfl rfl ?_ ⟨by kernel_rfl, by kernel_rfl, by kernel_rfl, by kernel_rfl, trivial⟩ (by decide) rfl rfl rfl ?_ (by kernel_rfl) (by kernel_rfl) (by kernel_rfl)
  · intro A s vals bk r
    obtain ⟨v, u, rfl, h1, h2⟩ := reps2 r
    exact ⟨[v, u, .bool b], ⟨h1, h2, ⟨[], rfl, rfl⟩, trivial⟩, wpAny_of_eq rfl ⟨rfl, rfl⟩⟩
  · intro L base' os hb ok
    have t' := t.up hb
    have f := fr2_fn (fd := fdOf (o151_0 w.params)) (a := 151) (L := L) (sp := [("self", .loc), ("value", .loc), ("name", .loc), ("regex", .loc)]) (os := os) t' rfl rfl (by kernel_rfl)
    have g1 := gl (x := "_name_disallowed_re") f (by kernel_rfl) (v := .ref 124) (by kernel_rfl)
    have g2 := gl (x := "_value_disallowed_re") f (by kernel_rfl) (v := .ref 129) (by kernel_rfl)
    have gt := bi (x := "type") f (by kernel_rfl) (by kernel_rfl) (v := .type "type") (by kernel_rfl)
    have gs := bi (x := "str") f (by kernel_rfl) (by kernel_rfl) (v := .type "str") (by kernel_rfl)
    have p1 := pat_of t' (p := 124) (T := 123) (o := o124_0 w.params) (ot := o123_0 w.params) (C := C3) (by kernel_rfl) (by kernel_rfl) rfl rfl rfl (by kernel_rfl) (by kernel_rfl) (by kernel_rfl) rfl rfl (by kernel_rfl)
    have p2 := pat_of t' (p := 129) (T := 128) (o := o129_0 w.params) (ot := o128_0 w.params) (C := C4) (by kernel_rfl) (by kernel_rfl) rfl rfl rfl (by kernel_rfl) (by kernel_rfl) (by kernel_rfl) rfl rfl (by kernel_rfl)
    refine ex_cons (P₁ := fun fl _ => fl = .ret (.str x)) (ex_if (b := true) (eb_cmp (by rfl) (ev_call (fr := true) (by rfl) gt (.cons (ev_local 1 ok rfl rfl (by intro q; cases q)) .nil) (c_type .str (by decide)) (fun a e => nomatch e)) (ev_glob (p := .at (.val (.type "str"))) gs fun h => rfl) op_is_type) ?_) (fun ρ' e => by cases e) (fun fl ρ' _ e => e)
    refine ex_then (ex_assign_iv (fr := true) (own := false) 3 (acc := none) rfl own_none (ev_ifexp (p := PV.val (.ref (if b then 124 else 129))) (c := b) (eb_name (ev_local 2 ok rfl rfl (by intro q; cases q))) (by
      cases b with
      | true => exact ev_glob (p := .at (.val (.ref 124))) g1 fun h => rfl
      | false => exact ev_glob (p := .at (.val (.ref 129))) g2 fun h => rfl)) (by rfl)) ?_
    refine ex_then (ρ₁ := [(.obj 252 l, false), (.str x, false), (.bool b, false), (PV.val (.ref (if b then 124 else 129)), false)]) (ex_if (b := false) (eb_call_none (fr := true) ?_) (ex_nil ⟨rfl, rfl⟩)) ?_
    · cases b with
      | true => exact ev_re_search (C := C3) (by rfl) (by rfl) (by rfl) (ev_local 3 ok rfl rfl (by intro q; cases q)) p1 (ev_local 1 ok rfl rfl (by intro q; cases q)) (search3 hx.1) hx.2
      | false => exact ev_re_search (C := C4) (by rfl) (by rfl) (by rfl) (ev_local 3 ok rfl rfl (by intro q; cases q)) p2 (ev_local 1 ok rfl rfl (by intro q; cases q)) (search4 hx.1) hx.2
    · exact ex_one (ex_return_iv (ev_local 1 ok rfl rfl (by intro q; cases q)) rfl)
open Wk Hd1
noncomputable abbrev rowsIV (l : List (Str × Str)) : List IV := l.map fun p => .tup [.str p.1, .str p.2]
def LowOk (x : Str) : Prop := Builtin.Str.tooLong (Txt.lower x).length = false
noncomputable def getV (l : List (Str × Str)) (x : Str) : At := match l.find? (fun p => Txt.lower p.1 == Txt.lower x) with | some p => .str p.2 | none => .none
theorem find_snoc {α : Type} (p : α → Bool) (done : List α) (x : α) (h : done.find? p = none) : (done ++ [x]).find? p = if p x then some x else none := by
  rw [List.find?_append, h]
  simp only [Option.none_or, List.find?_cons, List.find?_nil]
  cases p x <;> rfl
set_option maxHeartbeats 4000000 in
theorem c_get {w : World} {base : Addr → Option Obj} {k : Nat} (t : Top w base) {l : List (Str × Str)} {x : Str} (hx : LowOk x) (hs : StrOk (Txt.lower x)) (hl : ∀ p ∈ l, LowOk p.1) : CallP pw w base (k + 2) (.ref 199) [.obj 252 (rowsIV l), .str x] (.iv (.at (getV l x))) true := by
  refine call_ownX (ks := []) (fd := fdOf (o199_0 w.params)) (sp := [("self", .loc), ("name", .loc), ("default", .loc), ("k", .loc), ("v", .loc)]) (names := ["self", "name", "default"]) (ps := [.obj 252 (rowsIV l), .str x, .none]) (n := 2) (body := fBody (cd 15 8)) (fnAt t (o := o199_0 w.params) (oc := o198_0 w.params) (by kernel_rfl) rfl rfl (by kernel_rfl) rfl rfl) rfl rfl ?_ ⟨by kernel_rfl, by kernel_rfl, by kernel_rfl, by kernel_rfl, by kernel_rfl, trivial⟩ (by decide) rfl rfl rfl ?_ (by kernel_rfl) (by kernel_rfl) (by kernel_rfl)
  · intro A s vals bk r
    obtain ⟨v, u, rfl, h1, h2⟩ := reps2 r
    have h192 : s.heap.get? 192 = some (o192_0 w.params) := (t.yp bk).1 192 _ (by kernel_rfl)
    refine ⟨[v, u, .none], ⟨h1, h2, ⟨[], rfl, rfl⟩, trivial⟩, ?_⟩
    unfold bindArgs
    refine wpAny_bind (m := pure _) (wpAny_pure ?_)
    refine wpAny_bind (m := seqItems? (.ref 192)) (wpAny_seqItems h192 rfl ?_)
    exact wpAny_of_eq rfl ⟨rfl, rfl⟩
  · intro L base' os hb ok
    have t' := t.up hb
    have f := fr2_fn (fd := fdOf (o199_0 w.params)) (a := 199) (L := L) (sp := [("self", .loc), ("name", .loc), ("default", .loc), ("k", .loc), ("v", .loc)]) (os := os) t' rfl rfl (by kernel_rfl)
    have mc : MethB base' (mHd w.params) "_convert_string_type" 151 := methB t' (o := o151_0 w.params) (by kernel_rfl) (by kernel_rfl) rfl rfl (by decide) ⟨none, by rw [typeLookup_type, builtinLookup_eq_fast]; kernel_rfl⟩
    refine ex_then (ex_assign_iv (own := false) 1 (acc := none) rfl own_none (ev_inst_kw (fr := true) (by rfl) (by rfl) (by rfl) (clsB t') mc (ev_local 0 ok rfl rfl (by intro q; cases q)) (ev_meth (fr := true) (by rfl) (by rfl) (by rfl) (by decide) (ev_local 1 ok rfl rfl (by intro q; cases q)) .nil .str m_lower (c_lower hx)) (c_convert t' hs)) (by rfl)) ?_
    let P₁ : Fl → Rho → Prop := fun fl ρ' => fl = .ret (.iv (.at (getV l x))) ∨ (fl = .next ∧ getV l x = .none ∧ ∃ a b c d, ρ' = [(.obj 252 (rowsIV l), a), b, (.none, false), c, d])
    refine ex_cons (P₁ := P₁) (ex_forM l (fun p => .tup [.str p.1, .str p.2]) (fun done ρ' => done.find? (fun p => Txt.lower p.1 == Txt.lower x) = none ∧ ∃ c d, ρ' = [(.obj 252 (rowsIV l), false), (.str (Txt.lower x), false), (.none, false), c, d]) (itj_list (src_hdr 0 (clsB t') rfl rfl)) ⟨rfl, _, _, rfl⟩ ?_ ?_) ?_ ?_
    · rintro ρ' ⟨h1, c, d, rfl⟩
      refine .inr ⟨rfl, ?_, _, _, _, _, rfl⟩
      unfold getV; rw [h1]
    · rintro done p rest ρ' hxs ⟨h1, c, d, rfl⟩
      refine ⟨_, asg_tup (.cons 3 (acc := none) rfl own_none (.cons 4 (acc := none) rfl own_none .nil)), ?_⟩
      have hp : LowOk p.1 := hl p (by rw [hxs]; simp)
      have e := find_snoc (fun p : Str × Str => Txt.lower p.1 == Txt.lower x) done p h1
      refine ex_one (ex_if (b := Txt.lower p.1 == Txt.lower x) (eb_cmp (by rfl) (ev_meth (fr := true) (by rfl) (by rfl) (by rfl) (by decide) (ev_local 3 ok rfl rfl (by intro q; cases q)) .nil .str m_lower (c_lower hp)) (ev_local 1 ok rfl rfl (by intro q; cases q)) op_eq_str) ?_)
      cases hq : (Txt.lower p.1 == Txt.lower x) with
      | true =>
        rw [hq] at e
        refine ex_one (ex_return_iv (ev_local 4 ok rfl rfl (by intro q; cases q)) (.inl ?_))
        have : l.find? (fun p : Str × Str => Txt.lower p.1 == Txt.lower x) = some p := by
          rw [hxs, show done ++ p :: rest = (done ++ [p]) ++ rest by simp, List.find?_append, e]; rfl
        unfold getV; rw [this]
      | false =>
        rw [hq] at e
        exact ex_nil ⟨e, _, _, rfl⟩
    · rintro ρ' (h | ⟨_, h1, a, b, c, d, rfl⟩)
      · cases h
      · rw [h1]
        exact ex_one (ex_return_iv (ev_local 2 ok rfl rfl (by intro q; cases q)) rfl)
    · rintro fl ρ' hne (h | ⟨h, _⟩)
      · exact h
      · exact absurd h hne
open Wk Hd1
set_option maxHeartbeats 4000000 in
theorem c_items {w : World} {base : Addr → Option Obj} {k : Nat} (t : Top w base) {l : List (Str × Str)} (hl : l.length ≤ 1000) : CallP pw w base (k + 1) (.ref 216) [.obj 252 (rowsIV l)] (.list (rowsIV l)) true := by
  refine call_own (fd := fdOf (o216_0 w.params)) (sp := [("self", .loc)]) (names := ["self"]) (n := 0) (body := fBody (cd 15 11)) (fnAt t (o := o216_0 w.params) (oc := o215_0 w.params) (by kernel_rfl) rfl rfl (by kernel_rfl) rfl rfl) rfl rfl ?_ ⟨by kernel_rfl, trivial⟩ (by decide) rfl rfl rfl ?_ (by kernel_rfl) (by kernel_rfl) (by kernel_rfl)
  · exact vals1 fun v => rfl
  · intro L base' os hb ok
    have t' := t.up hb
    have sz : sizeLine = 16777216 := sizeLine_eq
    refine ex_one (ex_return (ev_cast (ev_slice_list (ev_hdr (clsB t') (ev_local 0 ok rfl rfl (by intro q; cases q))) .none .none .none (by simp) (by rw [List.length_map, sz]; lia)) (congrArg PV.list (slice_full (rowsIV l)))) rfl rfl)
set_option maxHeartbeats 4000000 in
theorem c_setd {w : World} {base : Addr → Option Obj} {k : Nat} (t : Top w base) {l : List (Str × Str)} {y v : Str} (hy : LowOk y) (hs : StrOk (Txt.lower y)) (hsy : StrOk y) (hsv : StrOk v) (hl : ∀ p ∈ l, LowOk p.1) (hlen : l.length ≤ 1000) (hnone : getV l y = .none) : SetP pw w base (k + 3) 242 252 (rowsIV l) y v (rowsIV (l ++ [(y, v)])) := by
  intro A s x d Ld u u2 rm g bk r hu hu2
  obtain ⟨tk, rfl⟩ := hu
  obtain ⟨tk2, rfl⟩ := hu2
  obtain ⟨⟨o, ho1, ho2⟩, hlim, hcd⟩ := fnAt t (a := 242) (o := o242_0 w.params) (c := 241) (oc := o241_0 w.params) (fd := fdOf (o242_0 w.params)) (by kernel_rfl) rfl rfl (by kernel_rfl) rfl rfl s bk
  refine wpAny_call (fn_runR (fd := fdOf (o242_0 w.params)) (sp := [("self", .loc), ("name", .loc), ("value", .loc), ("result", .loc)]) (ρ := rhoOf [PV.val (.ref x), .str y, .str v] 1) (binds := [("self", .ref x), ("name", .str y tk), ("value", .str v tk2)]) (body := fBody (cd 15 15)) rm g ho1 ho2 hlim hcd rfl rfl (wpAny_of_eq rfl ⟨rfl, rfl⟩) ?_ ⟨by kernel_rfl, by kernel_rfl, by kernel_rfl, by kernel_rfl, trivial⟩ (by decide) (bound_pos (names := ["self", "name", "value"]) (ps := [PV.val (.ref x), .str y, .str v]) (vals := [.ref x, .str y tk, .str v tk2]) (n := 1) (by decide) rfl ⟨⟨[], rfl, rfl⟩, ⟨[], ⟨tk, rfl⟩, rfl⟩, ⟨[], ⟨tk2, rfl⟩, rfl⟩, trivial⟩ rfl rfl) ?_ (by kernel_rfl) (by kernel_rfl) (by kernel_rfl))
  · intro b hb
    simp only [List.mem_cons, List.not_mem_nil, or_false] at hb
    rcases hb with rfl | rfl | rfl <;> exact ⟨.loc, by simp⟩
  · intro base' hbase ok A' s₁ rm' I
    have t' : Top w base' := t.up fun a o e => (hbase a).trans (bk a o e)
    have f := fr2_fn (fd := fdOf (o242_0 w.params)) (a := 242) (L := s.heap.objs.size) (sp := [("self", .loc), ("name", .loc), ("value", .loc), ("result", .loc)]) (os := s.os) t' rfl rfl (by kernel_rfl)
    have ob : ObjB pw w base' x 252 Ld (rowsIV l) := ObjB.of hbase r
    have mc : MethB base' (mHd w.params) "_convert_string_type" 151 := methB t' (o := o151_0 w.params) (by kernel_rfl) (by kernel_rfl) rfl rfl (by decide) ⟨none, by rw [typeLookup_type, builtinLookup_eq_fast]; kernel_rfl⟩
    have mg : MethB base' (mHd w.params) "get" 199 := methB t' (o := o199_0 w.params) (by kernel_rfl) (by kernel_rfl) rfl rfl (by decide) ⟨none, by rw [typeLookup_type, builtinLookup_eq_fast]; kernel_rfl⟩
    have sz : sizeLine = 16777216 := sizeLine_eq
    refine then_raw (F := fnFm (fdOf (o242_0 w.params)) 242 s.heap.objs.size [("self", .loc), ("name", .loc), ("value", .loc), ("result", .loc)] base' s.os) (ρ₁ := aRho [some (.val (.ref x)), some (.str y), some (.str v), some .none]) (ex_assign_iv (fr := true) (own := false) 3 (acc := none) rfl own_none (ev_cast (ev_inst (by rfl) (by rfl) (by rfl) (by decide) (clsB t') mg (ev_of_val ob (ev_local 0 ok rfl rfl (by intro q; cases q))) (.cons (ev_local 1 ok rfl rfl (by intro q; cases q)) .nil) (c_get t' hy hs hl)) (by rw [hnone])) (by rfl)) ok rm' I fun s₂ I₂ => ?_
    refine wpAny_execs_cons (wpAny_If (wpAny_mono ((eb_cmp (F := fnFm (fdOf (o242_0 w.params)) 242 s.heap.objs.size [("self", .loc), ("name", .loc), ("value", .loc), ("result", .loc)] base' s.os) (ρ := aRho [some (.val (.ref x)), some (.str y), some (.str v), some .none]) (b := true) (k := k + 2) (by rfl) (ev_local 3 ok rfl rfl (by intro q; cases q)) ev_none (op_is_none (a := .none) (by intro b q; cases q))) A' s₂ rm' I₂) (fun c s₃ ⟨ec, x3⟩ => ?_) fun _ _ e => e))
    subst ec
    have I₃ := I₂.ext x3
    have kb : ∀ s' : Shared, Bk base' s' → Keep s.heap s'.heap := fun s' b a o e => b a o ((hbase a).trans e)
    refine wpAny_execs_cons (hdr_append (F := fnFm (fdOf (o242_0 w.params)) 242 s.heap.objs.size [("self", .loc), ("name", .loc), ("value", .loc), ("result", .loc)] base' s.os) (y := .tup [.str y, .str v]) rm' (clsB t') I₃ r (kb s₃ I₃.keep) (ev_local 0 ok rfl rfl (by intro q; cases q)) (ev_tuple (fr := true) (by rfl) (.cons (ev_inst_kw (fr := true) (by rfl) (by rfl) (by rfl) (clsB t') mc (ev_of_val ob (ev_local 0 ok rfl rfl (by intro q; cases q))) (ev_local 1 ok rfl rfl (by intro q; cases q)) (c_convert t' hsy)) (.cons (ev_inst_kw (fr := true) (by rfl) (by rfl) (by rfl) (clsB t') mc (ev_of_val ob (ev_local 0 ok rfl rfl (by intro q; cases q))) (ev_local 2 ok rfl rfl (by intro q; cases q)) (c_convert t' hsv)) .nil)) (by rw [sz]; show (2 : Nat) ≤ _; decide)) (by rw [List.length_map, sz]; lia) (by rfl) (by rfl) (by rfl) (fun s₄ h' x4 sb ch r' => ?_))
    obtain ⟨oL, hoL⟩ := ob.at_
    obtain ⟨base0, hb0⟩ : ∃ base0 : Addr → Option Obj, ∀ a, base0 a = if a = Ld then h'.get? a else base' a := ⟨_, fun _ => rfl⟩
    have ok0 := FmOk.rebase (b := base0) ok fun a ha => by
      have ha : base' a = none := ha
      rw [hb0]
      split
      · rename_i q
        subst q
        rw [hoL] at ha; cases ha
      · exact ha
    have I₄ := I₃.ext x4
    have hLs : s.heap.objs.size ≠ Ld := fun q => by
      have := ok.baseL
      rw [← q] at hoL
      exact absurd (hoL.symm.trans this) (by simp)
    have I0 := Inv.rebase (F := fnFm (fdOf (o242_0 w.params)) 242 s.heap.objs.size [("self", .loc), ("name", .loc), ("value", .loc), ("result", .loc)] base' s.os) (b := base0) (h' := h') (ps := [some (.val (.ref x)), some (.str y), some (.str v), some .none]) I₄ s₄.toks (fun a o e => by
        rw [hb0] at e
        split at e
        · exact e
        · rename_i q; exact (sb.2 a q).trans (I₄.keep a o e)) (fun o e => (sb.2 _ hLs).trans e) (fun i y c h => by
          rcases i with _ | _ | _ | _ | i <;> first | (cases h; done) | (simp [fnFm] at h)) (fun a h => h) (fun a h => h)
    refine wpAny_execs_cons (wpAny_Return_some (wpAny_mono (ev_local (F := fnFm (fdOf (o242_0 w.params)) 242 s.heap.objs.size [("self", .loc), ("name", .loc), ("value", .loc), ("result", .loc)] base0 s.os) (ρ := aRho [some (.val (.ref x)), some (.str y), some (.str v), some .none]) (k := k + 2) 2 ok0 rfl rfl (by intro q; cases q) (by decide) A' _ rm' I0) (fun v' s₅ ⟨x5, _, _, _⟩ => ?_) fun _ _ e => e))
    refine ⟨x5.1.1.trans (I₄.gens.trans g.symm), x5.1.2.trans I₄.os, fun a o hn e => x5.2 a o (ch a o hn e), ?_⟩
    have er : rowsIV (l ++ [(y, v)]) = rowsIV l ++ [.tup [.str y, .str v]] := List.map_append
    rw [er]
    exact r'.keep x5.2
end L1
namespace Wk
variable {prog : Program} {w : World} {k : Nat} {F : Fm} {ρ : Rho}
theorem c_type_ref {base : Addr → Option Obj} {L : Addr} {vs : List Value} {l : List IV} (lb : LstB base L vs l) : CallP prog w base k (.type "type") [PV.val (.ref L)] (PV.val (.type "list")) true := fun A s vals rm g b r => by
  obtain ⟨v, rfl, fp, h⟩ := reps1 r
  have h : v = .ref L := h.1
  subst h
  exact call_type_of (lb.at_ s b).1.isList.typeIs (by decide) giv_val
theorem inst_dict {h : Heap} {x C d : Addr} {mA : Str → Option Value} {o : Obj} (I : h.Inst x C mA) (ho : h.get? x = some o) (hd : o.dict = some d) : o.cls = .ref C ∧ (∀ c, o.data ≠ .cls c) ∧ d ≠ x ∧ h.Ns1 d mA := by
  obtain ⟨o', e1, e2, e3, e4⟩ := I
  rw [ho] at e1; cases e1
  rcases e4 with ⟨q, _⟩ | ⟨d', q1, q2, q3⟩
  · rw [hd] at q; cases q
  · rw [hd] at q1; cases q1
    exact ⟨e2, e3, q2, q3⟩
end Wk
namespace L1
open Wk Hd1
noncomputable abbrev spI : List (Str × CSlot) := [("self", .loc), ("headers", .loc), ("k", .loc), ("v", .loc)]
set_option maxHeartbeats 4000000 in
theorem c_init0 {w : World} {base : Addr → Option Obj} {k : Nat} (t : Top w base) : InitP0 pw w base (k + 2) 144 252 := by
  intro A s x d rm g bk hin hxd hbxd
  obtain ⟨⟨o, ho1, ho2⟩, hlim, hcd⟩ := fnAt t (a := 144) (o := o144_0 w.params) (c := 143) (oc := o143_0 w.params) (fd := fdOf (o144_0 w.params)) (by kernel_rfl) rfl rfl (by kernel_rfl) rfl rfl s bk
  have h137 : s.heap.get? 137 = some (o137_0 w.params) := (t.yp bk).1 137 _ (by kernel_rfl)
  have hb : wpAny (model pw w) A.in1 (bindArgs (fdOf (o144_0 w.params)) ⟨[.ref x], []⟩) (fun b s' => b = ([("self", .ref x), ("headers", .none)] : List (Str × Value)) ∧ s' = s) No s := by
    unfold bindArgs
    refine wpAny_bind (m := pure _) (wpAny_pure ?_)
    refine wpAny_bind (m := seqItems? (.ref 137)) (wpAny_seqItems h137 rfl ?_)
    exact wpAny_of_eq rfl ⟨rfl, rfl⟩
  obtain ⟨ox, hox, hodx⟩ := hxd
  obtain ⟨i1, i2, i3, i4⟩ := inst_dict hin hox hodx
  obtain ⟨od, hod, hodd⟩ : ∃ od, s.heap.get? d = some od ∧ ∃ es ep, od.data = .dict es ep := by obtain ⟨od, es, ep, e1, e2, _⟩ := i4; exact ⟨od, e1, es, ep, e2⟩
  refine wpAny_call (fn_runR (fd := fdOf (o144_0 w.params)) (sp := spI) (ρ := rhoOf [PV.val (.ref x), .none] 2) (binds := [("self", .ref x), ("headers", .none)]) (body := fBody (cd 15 0)) rm g ho1 ho2 hlim hcd rfl rfl hb ?_ ⟨by kernel_rfl, by kernel_rfl, by kernel_rfl, by kernel_rfl, trivial⟩ (by decide) (bound_pos (names := ["self", "headers"]) (ps := [PV.val (.ref x), .none]) (vals := [.ref x, .none]) (n := 2) (by decide) rfl ⟨⟨[], rfl, rfl⟩, ⟨[], rfl, rfl⟩, trivial⟩ rfl rfl) ?_ (by kernel_rfl) (by kernel_rfl) (by kernel_rfl))
  · intro b hb
    simp only [List.mem_cons, List.not_mem_nil, or_false] at hb
    rcases hb with rfl | rfl
    · exact ⟨.loc, by simp⟩
    · exact ⟨.loc, by simp⟩
  · intro base1 hbase1 ok1 A' s₁ rm' I
    suffices key : ∀ Q : Flow → Shared → Prop, (∀ s', s'.gens = s.gens ∧ s'.os = s.os ∧ Chg [x, d] s.heap s'.heap ∧ (∃ L, s.heap.get? L = none ∧ Rep pw w s'.heap (.obj 252 []) (.ref x) [x, d, L]) → Q .next s') → wpAny (model pw w) A' (execs (fBody (cd 15 0)) (fnFm (fdOf (o144_0 w.params)) 144 s.heap.objs.size spI base1 s.os).env) Q No s₁ from key _ fun s' h => ⟨rfl, h⟩
    intro Q hQ
    refine then_raw (F := fnFm (fdOf (o144_0 w.params)) 144 s.heap.objs.size spI base1 s.os) (ρ₁ := [(PV.val (.ref x), false), (.list [], true), (.any, false), (.any, false)]) (ex_assign (own := true) 1 (acc := none) rfl own_none (ev_ifexp (fr := true) (c := false) (eb_cmp (by rfl) (ev_local 1 ok1 rfl rfl (by intro q; cases q)) ev_none (op_isnot_none (a := .none) (by intro b q; cases q))) (ev_list (by rfl) .nil (Nat.zero_le _))) rfl (by rfl)) ok1 rm' I fun s₂ I₂ => ?_
    obtain ⟨Ld, vs, hpl, hiv, hLb, hLl, I₂'⟩ := Inv.own_list (F := fnFm (fdOf (o144_0 w.params)) 144 s.heap.objs.size spI base1 s.os) (i := 1) (x := "headers") I₂ rfl rfl
    have hvs : vs = [] := by cases vs with | nil => rfl | cons a b => exact hiv.elim
    subst hvs
    have hLs : s.heap.get? Ld = none := (hbase1 Ld).symm.trans hLb
    have hxL : x ≠ Ld := fun e => by rw [e, hLs] at hox; cases hox
    have hdL : d ≠ Ld := fun e => by rw [e, hLs] at hod; cases hod
    obtain ⟨base', hb'⟩ : ∃ base' : Addr → Option Obj, ∀ a, base' a = if a = Ld then s₂.heap.get? Ld else base1 a := ⟨_, fun _ => rfl⟩
    have hbase : ∀ a o, s.heap.get? a = some o → base' a = some o := fun a o e => by
      rw [hb', if_neg (fun q => by rw [q, hLs] at e; cases e)]
      exact (hbase1 a).trans e
    have nc : ∀ (i : Nat) (y : Str) (c : Addr), (fnFm (fdOf (o144_0 w.params)) 144 s.heap.objs.size spI base1 s.os).slots[i]? ≠ some (y, some c) := fun i y c h => by
      rcases i with _ | _ | _ | _ | i <;> first | (cases h; done) | (simp [fnFm, spI] at h)
    have ok := FmOk.freezeL (b := base') (L := Ld) ok1 nc (fun d h => h) hLl (fun a hn e => by rw [hb', if_neg hn]; exact e)
    have I' := Inv.rebase (F := fnFm (fdOf (o144_0 w.params)) 144 s.heap.objs.size spI base1 s.os) (b := base') (h' := s₂.heap) (ps := [some (.val (.ref x)), some (.val (.ref Ld)), none, none]) I₂' s₂.toks (fun a o e => by
        rw [hb'] at e
        split at e
        · rename_i q; rw [q]; exact e
        · exact I₂.keep a o e) (fun o e => e) (fun i y c h => absurd h (nc i y c)) (fun a h => h) (fun a h => h)
    have t' : Top w base' := t.up fun a o e => hbase a o (bk a o e)
    have f := fr2_fn (fd := fdOf (o144_0 w.params)) (a := 144) (L := s.heap.objs.size) (sp := spI) (os := s.os) t' rfl rfl (by kernel_rfl)
    have gt := bi (x := "type") f (by kernel_rfl) (by kernel_rfl) (v := .type "type") (by kernel_rfl)
    have gs := bi (x := "list") f (by kernel_rfl) (by kernel_rfl) (v := .type "list") (by kernel_rfl)
    have kb : ∀ s' : Shared, Bk base' s' → Keep s.heap s'.heap := fun s' b a o e => b a o (hbase a o e)
    obtain ⟨oL, nL, hoL, hcL, hdiL, hdaL⟩ := id hpl
    have hLB : base' Ld = some oL := by rw [hb', if_pos rfl]; exact hoL
    have lb : LstB base' Ld [] [] := ⟨fun s' b => ⟨⟨oL, nL, b _ _ hLB, hcL, hdiL, hdaL⟩, trivial⟩, ⟨oL, hLB⟩⟩
    refine then_raw (F := fnFm (fdOf (o144_0 w.params)) 144 s.heap.objs.size spI base' s.os) (ρ₁ := rhoOf [PV.val (.ref x), PV.val (.ref Ld)] 2) (ex_if (b := false) (eb_cmp (by rfl) (ev_call (fr := true) (by rfl) gt (.cons (ev_local 1 ok rfl rfl (by intro q; cases q)) .nil) (c_type_ref lb) (fun a e => nomatch e)) (ev_glob (p := .at (.val (.type "list"))) gs fun h => rfl) op_isnot_type) (ex_nil ⟨rfl, rfl⟩)) ok rm' I' fun s₃ I₃ => ?_
    refine wpAny_execs_cons (plainObj_wpAny_Assign_Attribute (wpAny_mono (ev_local (F := fnFm (fdOf (o144_0 w.params)) 144 s.heap.objs.size spI base' s.os) (ρ := rhoOf [PV.val (.ref x), PV.val (.ref Ld)] 2) (k := k + 1) 1 ok rfl rfl (by intro q; cases q) (by decide) A' s₃ rm' I₃) (fun v s₄ ⟨x4, fp4, ⟨e4, _⟩, _⟩ => ?_) fun _ _ e => e) (by rfl))
    have e4 : v = .ref Ld := e4
    subst e4
    refine wpAny_mono (ev_local (F := fnFm (fdOf (o144_0 w.params)) 144 s.heap.objs.size spI base' s.os) (ρ := rhoOf [PV.val (.ref x), PV.val (.ref Ld)] 2) (k := k + 1) 0 ok rfl rfl (by intro q; cases q) (by decide) A' s₄ rm' (I₃.ext x4)) (fun v s₅ ⟨x5, fp5, ⟨e5, _⟩, _⟩ => ?_) fun _ _ e => e
    have e5 : v = .ref x := e5
    subst e5
    have I₅ := (I₃.ext x4).ext x5
    have b5 : Bk base' s₅ := I₅.keep
    have k5 := kb s₅ b5
    have cb := clsB t'
    obtain ⟨hh, gg, dr, tk, os5⟩ := s₅
    obtain ⟨nm, q, bs, sn, sub, col, dd, c0, c1, c2, c3, c5, hC⟩ := (cb.at_ _ b5).obj
    have hin5 : hh.Inst x 252 (fun _ => none) := ⟨ox, k5 _ _ hox, i1, i2, .inr ⟨d, hodx, i3, i4.keeps k5⟩⟩
    have hxC : x ≠ 252 := fun e => by
      subst e
      have h1 := k5 _ _ hox
      rw [hC] at h1; cases h1
      exact i2 _ rfl
    refine store_attr (name := "_headers") PySem.F.store_object hC (cb.at_ _ b5).ns (by kernel_rfl) cb.hd lk_headers hxC hin5 fun h' tk' hin' hk' hx' => ?_
    obtain ⟨o1, ho1', hc1, hd1, _, hdd1⟩ := hx' ox (k5 _ _ hox)
    obtain ⟨j1, j2, j3, j4⟩ := inst_dict hin' ho1' (hdd1 d hodx)
    have kk : ∀ b o, b ∉ [x, d] → hh.get? b = some o → h'.get? b = some o := fun b o hb e => hk' b o (fun q => hb (by simp [q])) (fun o₀ dx e1 e2 q => by
      rw [k5 _ _ hox] at e1; cases e1
      rw [hodx] at e2; cases e2
      exact hb (by simp [q])) e
    obtain ⟨od', hod', _⟩ : ∃ od', h'.get? d = some od' ∧ True := by obtain ⟨od, es, ep, e1, _⟩ := j4; exact ⟨od, e1, trivial⟩
    obtain ⟨base0, hb0⟩ : ∃ base0 : Addr → Option Obj, ∀ a, base0 a = if a ∈ [x, d] then h'.get? a else base' a := ⟨_, fun _ => rfl⟩
    have ok0 := FmOk.rebase (b := base0) ok fun a ha => by
      have ha : base' a = none := ha
      rw [hb0]
      split
      · rename_i q
        simp only [List.mem_cons, List.not_mem_nil, or_false] at q
        rcases q with rfl | rfl
        · rw [hbase _ _ hox] at ha; cases ha
        · rw [hbase _ _ hod] at ha; cases ha
      · exact ha
    have lt : ∀ {a : Addr} {o : Obj}, s.heap.get? a = some o → a < s.heap.objs.size := fun e => Heap.lt_size e
    have I0 := Inv.rebase (F := fnFm (fdOf (o144_0 w.params)) 144 s.heap.objs.size spI base' s.os) (b := base0) (h' := h') (ps := [some (.val (.ref x)), some (.val (.ref Ld)), none, none]) I₅ tk' (fun a o e => by
        rw [hb0] at e
        split at e
        · exact e
        · rename_i q; exact kk a o q (b5 a o e)) (fun o e => kk _ _ (fun q => by
          simp only [List.mem_cons, List.not_mem_nil, or_false] at q
          have q : s.heap.objs.size = x ∨ s.heap.objs.size = d := q
          rcases q with q | q
          · exact absurd q.symm (Nat.ne_of_lt (lt hox))
          · exact absurd q.symm (Nat.ne_of_lt (lt hod))) e) (fun i y c h => by
          rcases i with _ | _ | _ | _ | i <;> first | (cases h; done) | (simp [fnFm] at h)) (fun a h => h) (fun a h => h)
    have hL0 : base0 Ld = some oL := by rw [hb0, if_neg (by simp; exact ⟨hxL.symm, hdL.symm⟩)]; exact hLB
    have mk : ∀ s' : Shared, Bk base0 s' → Rep pw w s'.heap (.obj 252 ([])) (.ref x) [x, d, Ld] := fun s' b => by
      have ch : Chg [x, d] s.heap s'.heap := fun a o hn e => b a o (by rw [hb0, if_neg hn]; exact hbase a o e)
      have hx1 := b x o1 (by rw [hb0, if_pos (by simp)]; exact ho1')
      have j4' : s'.heap.Ns1 d (hdM Ld) := by
        obtain ⟨od, es, ep, e1, e2⟩ := j4
        exact ⟨od, es, ep, b d od (by rw [hb0, if_pos (by simp)]; exact e1), e2⟩
      exact ⟨x, d, Ld, [], o1, _, rfl, hx1, ⟨⟨j1, hdd1 d hodx, j2⟩, j3⟩, j4', rfl, ⟨oL, nL, b Ld oL hL0, hcL, hdiL, hdaL⟩, trivial, rfl⟩
    have t0 : Top w base0 := by
      have hne : ∀ a o, base a = some o → a ≠ x ∧ a ≠ d := fun a o e => ⟨fun q => (by subst q; rw [hbxd.1] at e; cases e), fun q => (by subst q; rw [hbxd.2] at e; cases e)⟩
      exact t.up fun a o e => by rw [hb0, if_neg (by simp; exact hne a o e)]; exact hbase a o (bk a o e)
    have lb0 : LstB base0 Ld [] [] := ⟨fun s' b => ⟨⟨oL, nL, b Ld oL hL0, hcL, hdiL, hdaL⟩, trivial⟩, ⟨oL, hL0⟩⟩
    refine ex_raw (F := fnFm (fdOf (o144_0 w.params)) 144 s.heap.objs.size spI base0 s.os) (ρ := aRho [some (.val (.ref x)), some (.val (.ref Ld)), none, none]) ?_ ok0 rm' I0 fun ρ' s' I' => hQ s' ⟨I'.gens.trans g.symm, I'.os, fun a o hn e => I'.keep a o ((hb0 a).trans ((if_neg hn).trans (hbase a o e))), Ld, hLs, mk s' I'.keep⟩
    refine ex_one (ex_if (b := true) eb_const (ex_one (ex_forM ([] : List (Str × Str)) (fun p => .tup [.str p.1, .str p.2]) (fun _ ρ' => ∃ c d, ρ' = [(PV.val (.ref x), false), (PV.val (.ref Ld), false), c, d]) (itj_list (src_val lb0 fun b r' lf okb => ev_local 1 okb rfl rfl (by intro q; cases q))) ⟨_, _, rfl⟩ (fun ρ' h => rfl) ?_)))
    intro done p rest ρ' hxs _
    cases done <;> cases hxs
end L1
namespace Wk
variable {prog : Program} {w : World} {k : Nat} {F : Fm} {ρ : Rho}
noncomputable def tupOf (e : PySem.Expr) : Option (Str × Str) := match e with | .Tuple es _ _ => (match es with | [a, b] => (Hs.strC a).bind fun x => (Hs.strC b).map fun y => (x, y) | _ => none) | _ => none
noncomputable def tupsOf : List PySem.Expr → Option (List (Str × Str))
  | [] => some []
  | e :: es => (tupOf e).bind fun p => (tupsOf es).map fun l => p :: l
theorem ev_tupOf {e : PySem.Expr} {p : Str × Str} (h : tupOf e = some p) : EvJ prog w F ρ k e (.tup [.str p.1, .str p.2]) true := by
  cases e with
  | Tuple es kd pos =>
    rcases es with _ | ⟨a, _ | ⟨b, _ | ⟨c, es⟩⟩⟩
    · cases h
    · cases h
    · obtain ⟨x, h1, h2⟩ := Option.bind_eq_some_iff.mp (show ((Hs.strC a).bind fun x => (Hs.strC b).map fun y => (x, y)) = some p from h)
      obtain ⟨y, h3, rfl⟩ := Option.map_eq_some_iff.mp h2
      obtain ⟨kd1, p1, rfl⟩ := Hs.strC_at h1
      obtain ⟨kd2, p2, rfl⟩ := Hs.strC_at h3
      exact ev_tuple (fr := true) (by rfl) (.cons ev_str (.cons ev_str .nil)) (by rw [sizeLine_eq]; show (2 : Nat) ≤ _; decide)
    · cases h
  | _ => cases h
theorem tups_ev : ∀ {es : List PySem.Expr} {l : List (Str × Str)}, tupsOf es = some l → EvIVs prog w F ρ k es (l.map fun p => .tup [.str p.1, .str p.2])
  | [], l, h => by cases h; exact .nil
  | e :: es, l, h => by
    obtain ⟨p, h1, h2⟩ := Option.bind_eq_some_iff.mp (show ((tupOf e).bind fun p => (tupsOf es).map fun l => p :: l) = some l from h)
    obtain ⟨l', h3, rfl⟩ := Option.map_eq_some_iff.mp h2
    exact .cons (ev_tupOf h1) (tups_ev h3)
noncomputable def retTups (st : List PySem.Stmt) : Option (List (Str × Str)) := match st with | [s] => (match s with | .Return e _ => (match e with | some e => (match e with | .List es _ => if es.all noStar then tupsOf es else none | _ => none) | none => none) | _ => none) | _ => none
theorem ret_tups {st : List PySem.Stmt} {l : List (Str × Str)} (h : retTups st = some l) (hl : l.length ≤ sizeLine) : ExS prog w F ρ k (execs st F.env) (fun fl ρ' => fl = .ret (.list (l.map fun p => .tup [.str p.1, .str p.2]))) := by
  rcases st with _ | ⟨s, _ | ⟨s2, st⟩⟩
  · cases h
  · cases s with
    | Return e pos =>
      cases e with
      | none => cases h
      | some e =>
        cases e with
        | List es pos =>
          have h : (if es.all noStar then tupsOf es else none) = some l := h
          by_cases hn : es.all noStar = true
          · rw [if_pos hn] at h
            exact ex_one (ex_return (ev_list (star_plain _ hn) (tups_ev h) (by rw [List.length_map]; exact hl)) rfl rfl)
          · rw [if_neg hn] at h; cases h
        | _ => cases h
    | _ => cases h
  · cases h
end Wk
namespace L1
open Wk Hd1
noncomputable def signN : List Nat := [13259, 13169, 13171, 13271, 13184, 13226, 13261, 13262, 13187, 13227, 119808, 119815, 75, 119820, 8473, 119828, 13225]
noncomputable def wordS : List Str := ["hp", "hpa", "au", "ph", "pa", "kpa", "kk", "km", "ma", "mpa", "a", "h", "k", "m", "p", "u", "pa"]
noncomputable def poolV : List (Str × Str) := (signN.map fun c => (⟨#[c]⟩ : Str)).zip wordS
set_option maxHeartbeats 4000000 in
theorem c_pool {w : World} {base : Addr → Option Obj} {k : Nat} (t : Top w base) : CallP pw w base (k + 1) (.ref 263) [] (.list (rowsIV poolV)) true := by
  refine call_own (fd := fdOf (o263_0 w.params)) (sp := []) (names := []) (n := 0) (body := fBody (bd 17)) (fnAt t (o := o263_0 w.params) (oc := o262_0 w.params) (by kernel_rfl) rfl rfl (by kernel_rfl) rfl rfl) rfl rfl ?_ trivial (by decide) rfl rfl rfl ?_ (by kernel_rfl) (by kernel_rfl) (by kernel_rfl)
  · exact vals0 rfl
  · intro L base' os hb ok
    have hl : poolV.length ≤ sizeLine := by rw [sizeLine_eq]; decide +kernel
    have h0 : retTups (fBody (bd 17)) = some poolV := by kernel_rfl
    generalize fBody (bd 17) = st at h0 ⊢
    exact ret_tups (F := fnFm (fdOf (o263_0 w.params)) 263 L [] base' os) h0 hl
open Wk
noncomputable abbrev tx (l : List Nat) : Str := ⟨l.toArray⟩
theorem tx_len (l : List Nat) : (tx l).length = l.length := by simp [Str.length]
theorem tx_app (l m : List Nat) : (tx l ++ tx m : Str) = tx (l ++ m) := by
  apply Str.ext'
  show (tx l ++ tx m : Str).cps = _
  rw [show (tx l ++ tx m : Str).cps = (tx l).cps ++ (tx m).cps from rfl]
  simp
theorem tx_inj {l m : List Nat} (h : tx l = tx m) : l = m := by
  have h2 : l.toArray = m.toArray := congrArg Str.cps h
  simpa using h2
theorem tx_beq (l m : List Nat) : (tx l == tx m) = (l == m) := by
  rw [Bool.eq_iff_iff, beq_iff_eq, beq_iff_eq]
  exact ⟨tx_inj, fun h => by rw [h]⟩
theorem tx_starts (l m : List Nat) : Txt.startswith (tx l) (tx m) = m.isPrefixOf l := by
  unfold Txt.startswith
  rw [PySem.StrLaws.subAt_eq, tx_len, tx_len, List.drop_zero]
  rw [Bool.eq_iff_iff, List.isPrefixOf_iff_prefix]
  simp only [Bool.and_eq_true, decide_eq_true_eq, beq_iff_eq, Nat.zero_add]
  constructor
  · rintro ⟨_, h⟩
    rw [← h]
    exact List.take_prefix _ _
  · intro h
    exact ⟨h.length_le, (List.prefix_iff_eq_take.mp h).symm⟩
theorem tx_to (l : List Nat) (n : Nat) (h : n ≤ l.length) : Txt.slice (tx l) none (some (n : Int)) = tx (l.take n) := by
  have := eq_of_beq (slice_closes_to (x := tx l) (j := (n : Int)) ⟨by lia, by simpa using h⟩)
  rw [this]
  simp
theorem tx_from (l : List Nat) (n : Nat) (h : n ≤ l.length) : Txt.slice (tx l) (some (n : Int)) none = tx (l.drop n) := by
  have := slice_from_eq (x := tx l) (i := (n : Int)) (b := (l.length : Int)) (by lia) (by rw [tx_len]; lia) (by rw [tx_len])
  rw [this]
  have e : ((l.length : Int) - (n : Int)).toNat = (l.drop n).length := by rw [List.length_drop]; lia
  rw [e]
  show tx _ = _
  congr 1
  rw [Int.toNat_natCast]
  exact List.take_of_length_le (Nat.le_refl _)
open Wk Hd1
abbrev Sg := Fin 17
noncomputable def sgN (i : Sg) : Nat := signN.getD i.val 0
noncomputable def wdT : List (List Nat) := [[104, 112], [104, 112, 97], [97, 117], [112, 104], [112, 97], [107, 112, 97], [107, 107], [107, 109], [109, 97], [109, 112, 97], [97], [104], [107], [109], [112], [117], [112, 97]]
noncomputable def wd (i : Sg) : List Nat := wdT.getD i.val []
theorem wd_map : ∀ i : Sg, mapV (sgN i) = tx (wd i) := by decide +kernel
theorem wd_fit : ∀ i : Sg, Builtin.Str.tooLong (Txt.lower ⟨#[sgN i]⟩).length = false := by decide +kernel
theorem sg_inj : ∀ i j : Sg, sgN i = sgN j → i = j := by decide +kernel
theorem wd_len : ∀ i : Sg, (wd i).length ≤ 3 := by decide
noncomputable def wr (l : List Sg) : Str := tx (l.map sgN)
theorem wr_len (l : List Sg) : (wr l).length = l.length := by unfold wr; rw [tx_len, List.length_map]
theorem wr_snoc (l : List Sg) (s : Sg) : (wr l ++ ⟨#[sgN s]⟩ : Str) = wr (l ++ [s]) := by
  unfold wr
  rw [show (⟨#[sgN s]⟩ : Str) = tx [sgN s] from rfl, tx_app, List.map_append]
  rfl
theorem wr_ne (l m : List Sg) : (wr l != wr m) = !decide (l = m) := by
  show (!(wr l == wr m)) = _
  congr 1
  unfold wr
  rw [tx_beq, Bool.eq_iff_iff, beq_iff_eq, decide_eq_true_eq]
  constructor
  · intro h
    induction l generalizing m with
    | nil => cases m with | nil => rfl | cons a m => cases h
    | cons a l ih =>
      cases m with
      | nil => cases h
      | cons b m =>
        rw [List.map_cons, List.map_cons] at h
        injection h with h1 h2
        rw [sg_inj _ _ h1, ih _ h2]
  · intro h; rw [h]
abbrev Row := List Nat × List Sg × List Sg
noncomputable def rowD (r : Row) : Nat := r.2.1.length + r.2.2.length
noncomputable def rowL (r : Row) : List Nat := List.replicate (rowD r) 46 ++ r.1
noncomputable abbrev rowV (r : Row) : IV := .tup [.str (tx (rowL r)), .str (wr r.2.1), .str (wr r.2.2)]
noncomputable abbrev rowsV (l : List Row) : List IV := l.map rowV
noncomputable abbrev sgsV (l : List Sg) : List IV := l.map fun s => .at (.str ⟨#[sgN s]⟩)
noncomputable def stepR (r : Row) (s : Sg) : List Row :=
  if r.2.2 ++ [s] = r.2.1 then [] else if (wd s).isPrefixOf r.1 then [(r.1.drop (wd s).length, r.2.1, r.2.2 ++ [s])] else if r.1.isPrefixOf (wd s) then [((wd s).drop r.1.length, r.2.2 ++ [s], r.2.1)] else []
noncomputable def nextR (st : List Sg) (r : Row) : List Row := st.flatMap (stepR r)
noncomputable abbrev E0 : PV × Bool := (.any, false)
noncomputable abbrev spN : List (Str × CSlot) := [("row", .loc), ("far", .loc), ("near", .loc), ("stock", .loc), ("rest", .loc), ("lead", .loc), ("told", .loc), ("sign", .loc), ("fold", .loc)]
abbrev NF (w : World) (L : Addr) (base : Addr → Option Obj) (os : OsState) : Fm := fnFm (fdOf (o270_0 w.params)) 270 L spN base os
theorem fn_at {w : World} {base : Addr → Option Obj} (t : Top w base) {b : Addr} {o : Obj} {fd : FuncData} (h1 : (KK w.params).lookup b = some o) (h2 : o.data = .func fd) : ∀ a, Value.ref b = .ref a → ∃ o fd, base a = some o ∧ o.data = .func fd := fun a e => by cases e; exact ⟨o, fd, t.1 b o h1, h2⟩
theorem fr2_of {w : World} {F : Fm} {base : Addr → Option Obj} {scope : Scope} {cl : List (Str × Addr)} {sp : List (Str × CSlot)} {C D : Addr} (f : Fr2 w F) (h : ∀ a o, F.base a = some o → base a = some o) (ok : FmOk (compFm F scope cl sp C D base)) : Fr2 w (compFm F scope cl sp C D base) := ⟨f.top.up h, f.gl, f.bi, ok.kind⟩
theorem head_ok {l : List Nat} (h : ∀ c ∈ l, 97 ≤ c ∧ c ≤ 122) : ∀ c ∈ l.head?, c ≠ 46 := fun c hc => by
  have := h c (List.mem_of_mem_head? hc)
  lia
noncomputable abbrev rn (r : Row) (st : List Sg) (rest lead told sign fold : PV × Bool) : Rho := [(.str (tx (46 :: rowL r)), false), (.str (wr r.2.1), false), (.str (wr r.2.2), false), (.list (sgsV st), false), rest, lead, told, sign, fold]
noncomputable abbrev S1 (x : Str) : PV × Bool := (.str x, false)
def bN : List Stmt := forBody (sub (fBody (bd 18)) 3)
set_option maxHeartbeats 8000000 in
theorem next_turn {w : World} {base : Addr → Option Obj} {k : Nat} {L : Addr} {os : OsState} (t : Top w base) (ok : FmOk (NF w L base os)) {r : Row} {st : List Sg} {T : List Row} (s : Sg) (h1 : r.1.length ≤ 10) (h2 : rowD r ≤ 1000) (hT : T.length ≤ 1000) :
    ExS pw w (NF w L base os) (rn r st (S1 (tx r.1)) (S1 (tx (List.replicate (rowD r + 1) 46))) (.list (rowsV T), true) (S1 ⟨#[sgN s]⟩) E0) (k + 1) (execs bN (NF w L base os).env) (Only (rn r st (S1 (tx r.1)) (S1 (tx (List.replicate (rowD r + 1) 46))) (.list (rowsV (T ++ stepR r s)), true) (S1 ⟨#[sgN s]⟩) (S1 (tx (wd s))))) := by
  have f := fr2_fn (fd := fdOf (o270_0 w.params)) (a := 270) (L := L) (sp := spN) (os := os) t rfl rfl (by kernel_rfl)
  have gM := gl (x := "map_table_b3") f (by kernel_rfl) (v := .ref 102) (by kernel_rfl)
  have gL := bi (x := "len") f (by kernel_rfl) (by kernel_rfl) (v := .builtin "len") (by kernel_rfl)
  have sz : sizeLine = 16777216 := sizeLine_eq
  have hw := wd_len s
  have hD : r.2.1.length + r.2.2.length ≤ 1000 := h2
  refine ex_then (ρ₁ := rn r st (S1 (tx r.1)) (S1 (tx (List.replicate (rowD r + 1) 46))) (.list (rowsV T), true) (S1 ⟨#[sgN s]⟩) (S1 (tx (wd s)))) (ex_assign_cast (q := .str (tx (wd s))) (fr := true) (own := false) 8 (acc := none) rfl own_none (ev_call (by rfl) gM (.cons (ev_local 7 ok rfl rfl (by intro q; cases q)) .nil) (map_table (k := k) f.top (wd_fit s)) (fn_at f.top (o := o102_0 w.params) (by kernel_rfl) rfl)) rfl (congrArg PV.str (wd_map s)) (by rfl)) ?_
  have hsn : r.2.2.length + 1 ≤ 1001 := by lia
  have rowq : ∀ (a b : List Sg) (x : List Nat), a.length + b.length = rowD r + 1 → (tx (List.replicate (rowD r + 1) 46) ++ tx x : Str) = tx (rowL (x, a, b)) := fun a b x h => by
    rw [tx_app]
    unfold rowL rowD
    rw [show a.length + b.length = r.2.1.length + r.2.2.length + 1 from h]
  have enear : ∀ {p1 p2 p3 : PySem.Pos}, EvJ pw w (NF w L base os) (rn r st (S1 (tx r.1)) (S1 (tx (List.replicate (rowD r + 1) 46))) (.list (rowsV T), true) (S1 ⟨#[sgN s]⟩) (S1 (tx (wd s)))) (k + 1) (.BinOp (.Name "near" p1) .Add (.Name "sign" p2) p3) (.str (wr (r.2.2 ++ [s]))) true := ev_cast (ev_bin (fr := true) (ev_local 2 ok rfl rfl (by intro q; cases q)) (ev_local 7 ok rfl rfl (by intro q; cases q)) (op_add_str (by rw [wr_len, sz]; show r.2.2.length + 1 ≤ _; lia))) (congrArg PV.str (wr_snoc r.2.2 s))
  refine ex_one (ex_if (b := !decide (r.2.2 ++ [s] = r.2.1)) (eb_cmp (by rfl) enear (ev_local 1 ok rfl rfl (by intro q; cases q)) (wr_ne (r.2.2 ++ [s]) r.2.1 ▸ op_ne_str)) ?_)
  by_cases c0 : r.2.2 ++ [s] = r.2.1
  · rw [decide_eq_true c0]
    refine ex_nil ⟨rfl, ?_⟩
    have : stepR r s = [] := by unfold stepR; rw [if_pos c0]
    rw [this, List.append_nil]
  rw [decide_eq_false c0]
  refine ex_one (ex_if (b := (wd s).isPrefixOf r.1) (eb_call (fr := true) (tx_starts r.1 (wd s) ▸ ev_meth (by rfl) (by rfl) (by rfl) (by decide) (ev_local 4 ok rfl rfl (by intro q; cases q)) (.cons (ev_local 8 ok rfl rfl (by intro q; cases q)) .nil) .str m_startswith c_startswith)) ?_)
  have hlead : (tx (List.replicate (rowD r + 1) 46)).length = rowD r + 1 := by rw [tx_len, List.length_replicate]
  have hTl : (rowsV T).length ≤ sizeLine := by rw [List.length_map, sz]; lia
  cases c1 : (wd s).isPrefixOf r.1 with
  | true =>
    have hle : (wd s).length ≤ r.1.length := (List.isPrefixOf_iff_prefix.mp c1).length_le
    have e : stepR r s = [(r.1.drop (wd s).length, r.2.1, r.2.2 ++ [s])] := by unfold stepR; rw [if_neg c0, if_pos c1]
    rw [e]
    refine ex_one (ex_mono (ex_append (F := NF w L base os) (ρ := rn r st (S1 (tx r.1)) (S1 (tx (List.replicate (rowD r + 1) 46))) (.list (rowsV T), true) (S1 ⟨#[sgN s]⟩) (S1 (tx (wd s)))) (k := k + 1) 6 (acc := none) (y := rowV (r.1.drop (wd s).length, r.2.1, r.2.2 ++ [s])) rfl rfl (ev_tuple (fr := true) (by rfl) (.cons (ev_cast (ev_bin (fr := true) (ev_local 5 ok rfl rfl (by intro q; cases q)) (ev_cast (ev_slice_str (fr := true) (ev_local 4 ok rfl rfl (by intro q; cases q)) (.some (ev_call (fr := true) (by rfl) gL (.cons (ev_local 8 ok rfl rfl (by intro q; cases q)) .nil) (c_len_str (x := tx (wd s)) (by rw [tx_len]; lia)) (fun a e => nomatch e))) .none (by rw [tx_len, sz]; lia)) (congrArg PV.str ((tx_len (wd s)).symm ▸ tx_from r.1 _ hle))) (op_add_str (by rw [hlead, tx_len, List.length_drop, sz]; lia))) (congrArg PV.str (rowq r.2.1 (r.2.2 ++ [s]) _ (by rw [List.length_append]; unfold rowD; simp; lia)))) (.cons (ev_local 1 ok rfl rfl (by intro q; cases q)) (.cons enear .nil))) (by rw [sz]; show (3 : Nat) ≤ _; decide)) hTl (by rfl) (by rfl) (by rfl)) ?_)
    rintro fl ρ' ⟨rfl, rfl⟩
    refine ⟨rfl, ?_⟩
    show _ = rn r st _ _ (.list (rowsV (T ++ [_])), true) _ _
    unfold rowsV
    rw [List.map_append]
    rfl
  | false =>
    refine ex_one (ex_if (b := r.1.isPrefixOf (wd s)) (eb_call (fr := true) (tx_starts (wd s) r.1 ▸ ev_meth (by rfl) (by rfl) (by rfl) (by decide) (ev_local 8 ok rfl rfl (by intro q; cases q)) (.cons (ev_local 4 ok rfl rfl (by intro q; cases q)) .nil) .str m_startswith c_startswith)) ?_)
    cases c2 : r.1.isPrefixOf (wd s) with
    | true =>
      have hle : r.1.length ≤ (wd s).length := (List.isPrefixOf_iff_prefix.mp c2).length_le
      have e : stepR r s = [((wd s).drop r.1.length, r.2.2 ++ [s], r.2.1)] := by unfold stepR; rw [if_neg c0, if_neg (by rw [c1]; simp), if_pos c2]
      rw [e]
      refine ex_one (ex_mono (ex_append (F := NF w L base os) (ρ := rn r st (S1 (tx r.1)) (S1 (tx (List.replicate (rowD r + 1) 46))) (.list (rowsV T), true) (S1 ⟨#[sgN s]⟩) (S1 (tx (wd s)))) (k := k + 1) 6 (acc := none) (y := rowV ((wd s).drop r.1.length, r.2.2 ++ [s], r.2.1)) rfl rfl (ev_tuple (fr := true) (by rfl) (.cons (ev_cast (ev_bin (fr := true) (ev_local 5 ok rfl rfl (by intro q; cases q)) (ev_cast (ev_slice_str (fr := true) (ev_local 8 ok rfl rfl (by intro q; cases q)) (.some (ev_call (fr := true) (by rfl) gL (.cons (ev_local 4 ok rfl rfl (by intro q; cases q)) .nil) (c_len_str (x := tx r.1) (by rw [tx_len]; lia)) (fun a e => nomatch e))) .none (by rw [tx_len, sz]; lia)) (congrArg PV.str ((tx_len r.1).symm ▸ tx_from (wd s) _ hle))) (op_add_str (by rw [hlead, tx_len, List.length_drop, sz]; lia))) (congrArg PV.str (rowq (r.2.2 ++ [s]) r.2.1 _ (by rw [List.length_append]; unfold rowD; simp; lia)))) (.cons enear (.cons (ev_local 1 ok rfl rfl (by intro q; cases q)) .nil))) (by rw [sz]; show (3 : Nat) ≤ _; decide)) hTl (by rfl) (by rfl) (by rfl)) ?_)
      rintro fl ρ' ⟨rfl, rfl⟩
      refine ⟨rfl, ?_⟩
      show _ = rn r st _ _ (.list (rowsV (T ++ [_])), true) _ _
      unfold rowsV
      rw [List.map_append]
      rfl
    | false =>
      have e : stepR r s = [] := by unfold stepR; rw [if_neg c0, if_neg (by rw [c1]; simp), if_neg (by rw [c2]; simp)]
      rw [e, List.append_nil]
      exact ex_nil ⟨rfl, rfl⟩
open Wk Hd1
theorem step_len (r : Row) (s : Sg) : (stepR r s).length ≤ 1 := by
  unfold stepR
  split
  · simp
  · split
    · simp
    · split <;> simp
theorem next_len (st : List Sg) (r : Row) : (nextR st r).length ≤ st.length := by
  unfold nextR
  induction st with
  | nil => exact Nat.le_refl _
  | cons s st ih => have := step_len r s; rw [List.flatMap_cons, List.length_append, List.length_cons]; lia
theorem rowL_len (r : Row) : (rowL r).length = rowD r + r.1.length := by unfold rowL; simp
set_option maxHeartbeats 8000000 in
theorem c_next {w : World} {base : Addr → Option Obj} {k : Nat} (t : Top w base) {r : Row} {st : List Sg} (h0 : ∀ c ∈ r.1, 97 ≤ c ∧ c ≤ 122) (h1 : r.1.length ≤ 10) (h2 : rowD r ≤ 1000) (h3 : st.length ≤ 500) :
    CallP pw w base (k + 2) (.ref 270) [.str (tx (46 :: rowL r)), .str (wr r.2.1), .str (wr r.2.2), .list (sgsV st)] (.list (rowsV (nextR st r))) true := by
  refine call_own (fd := fdOf (o270_0 w.params)) (sp := spN) (names := ["row", "far", "near", "stock"]) (n := 5) (body := fBody (bd 18)) (fnAt t (o := o270_0 w.params) (oc := o269_0 w.params) (by kernel_rfl) rfl rfl (by kernel_rfl) rfl rfl) rfl rfl ?_ ⟨by kernel_rfl, by kernel_rfl, by kernel_rfl, by kernel_rfl, by kernel_rfl, by kernel_rfl, by kernel_rfl, by kernel_rfl, by kernel_rfl, trivial⟩ (by decide) rfl rfl rfl ?_ (by kernel_rfl) (by kernel_rfl) (by kernel_rfl)
  · exact vals4 fun a b c d => rfl
  · intro L base' os hb ok
    have t' := t.up hb
    have f := fr2_fn (fd := fdOf (o270_0 w.params)) (a := 270) (L := L) (sp := spN) (os := os) t' rfl rfl (by kernel_rfl)
    have gL := bi (x := "len") f (by kernel_rfl) (by kernel_rfl) (v := .builtin "len") (by kernel_rfl)
    have sz : sizeLine = 16777216 := sizeLine_eq
    have hrl : (tx (46 :: rowL r)).length = rowD r + 1 + r.1.length := by rw [tx_len, List.length_cons, rowL_len]; lia
    have hdots : (46 :: rowL r) = List.replicate (rowD r + 1) 46 ++ r.1 := rfl
    have e1 : Txt.lstripChars (tx (46 :: rowL r)) "." = tx r.1 := by rw [hdots]; exact PS.lstrip_dots _ _ (head_ok h0)
    have e2 : Txt.slice (tx (46 :: rowL r)) none (some (((tx (46 :: rowL r)).length : Int) - ((tx r.1).length : Int))) = tx (List.replicate (rowD r + 1) 46) := by
      rw [hrl, tx_len, show (((rowD r + 1 + r.1.length : Nat) : Int) - (r.1.length : Int)) = ((rowD r + 1 : Nat) : Int) by lia, tx_to _ _ (by rw [List.length_cons, rowL_len]; lia), hdots]
      rw [List.take_append_of_le_length (by simp)]
      simp
    show ExS pw w (NF w L base' os) (rn r st E0 E0 E0 E0 E0) (k + 1) (execs (fBody (bd 18)) (NF w L base' os).env) _
    refine ex_then (ρ₁ := rn r st (S1 (tx r.1)) E0 E0 E0 E0) (ex_assign_cast (q := .str (tx r.1)) (own := false) (fr := true) 4 (acc := none) rfl own_none (ev_meth (by rfl) (by rfl) (by rfl) (by decide) (ev_local 0 ok rfl rfl (by intro q; cases q)) (.cons ev_str .nil) .str m_lstrip (c_lstrip (by rw [hrl, sz]; lia))) rfl (congrArg PV.str e1) (by rfl)) ?_
    refine ex_then (ρ₁ := rn r st (S1 (tx r.1)) (S1 (tx (List.replicate (rowD r + 1) 46))) E0 E0 E0) (ex_assign_cast (q := .str (tx (List.replicate (rowD r + 1) 46))) (own := false) (fr := true) 5 (acc := none) rfl own_none (ev_slice_str (fr := true) (ev_local 0 ok rfl rfl (by intro q; cases q)) .none (.some (ev_bin (fr := true) (ev_call (fr := true) (by rfl) gL (.cons (ev_local 0 ok rfl rfl (by intro q; cases q)) .nil) (c_len_str (by rw [hrl]; lia)) (fun a e => nomatch e)) (ev_call (fr := true) (by rfl) gL (.cons (ev_local 4 ok rfl rfl (by intro q; cases q)) .nil) (c_len_str (by rw [tx_len]; lia)) (fun a e => nomatch e)) op_sub_int)) (by rw [hrl, sz]; lia)) rfl (congrArg PV.str e2) (by rfl)) ?_
    refine ex_then (ρ₁ := rn r st (S1 (tx r.1)) (S1 (tx (List.replicate (rowD r + 1) 46))) (.list (rowsV []), true) E0 E0) (ex_assign (own := true) 6 (acc := none) rfl own_none (ev_list (by rfl) .nil (Nat.zero_le _)) rfl (by rfl)) ?_
    refine ex_then (ρ₁ := rn r st (S1 (tx r.1)) (S1 (tx (List.replicate (rowD r + 1) 46))) (.list (rowsV (nextR st r)), true) E0 E0) ?_ (ex_one (ex_return_own 6 rfl rfl (by intro q; cases q) rfl))
    refine ex_forM st (fun s => .at (.str ⟨#[sgN s]⟩)) (fun done ρ' => ρ' = rn r st (S1 (tx r.1)) (S1 (tx (List.replicate (rowD r + 1) 46))) (.list (rowsV (nextR done r)), true) E0 E0) (itj_list (src_slot 3 rfl rfl)) rfl (fun ρ' e => ⟨rfl, e⟩) ?_
    rintro done s rest ρ' hxs rfl
    have hdl : (nextR done r).length ≤ 1000 := by
      have := next_len done r
      have h4 : done.length ≤ st.length := by rw [hxs]; simp
      lia
    have e3 : nextR (done ++ [s]) r = nextR done r ++ stepR r s := by unfold nextR; rw [List.flatMap_append]; simp
    refine ⟨_, asg_name 7 (acc := none) rfl own_none, ?_⟩
    show ExS pw w (NF w L base' os) (rn r st (S1 (tx r.1)) (S1 (tx (List.replicate (rowD r + 1) 46))) (.list (rowsV (nextR done r)), true) (S1 ⟨#[sgN s]⟩) E0) (k + 1) _ _
    refine ex_post (next_turn (k := k) t' ok s h1 h2 hdl) ?_
    rintro fl ρ' ⟨rfl, rfl⟩
    refine ⟨rn r st (S1 (tx r.1)) (S1 (tx (List.replicate (rowD r + 1) 46))) (.list (rowsV (nextR (done ++ [s]) r)), true) E0 E0, ?_, rfl⟩
    rw [e3]
    exact (.same (.same (.same (.same (.same (.same (.same (.any (.any .nil)))))))))
noncomputable def mn (l : List Sg) : List Nat := l.flatMap wd
open Wk Hd1
theorem join_tx : ∀ (l : List (List Nat)), Txt.join "" (l.map tx) = tx l.flatten := fun l => by
  show PySem.Builtin.Str.glued _ _ = _
  rw [StrLaws.glued_eq_join]
  have e0 : ("" : Str) = tx [] := rfl
  rw [e0]
  induction l with
  | nil => rfl
  | cons x l ih =>
    cases l with
    | nil => simp [Str.join]
    | cons y l =>
      rw [List.map_cons, List.map_cons]
      show tx x ++ tx [] ++ Str.join (tx []) (tx y :: l.map tx) = _
      rw [List.map_cons] at ih
      rw [ih, tx_app, tx_app]
      simp
theorem joinOk_tx {l : List (List Nat)} {B : Nat} (h : ∀ x ∈ l, x.length ≤ B) (h2 : l.length * B ≤ 16777216) : JoinOk "" (l.map tx) = true := by
  unfold JoinOk
  rw [StrLaws.joinFits (B := B)]
  · rfl
  · intro y hy
    obtain ⟨x, hx, rfl⟩ := List.mem_map.mp hy
    rw [tx_len]
    exact h x hx
  · rw [List.length_map]
    have : ("" : Str).length = 0 := rfl
    rw [this]
    lia
theorem flat_map_tx (l : List Sg) : strsIV (l.map fun s => tx (wd s)) = strsIV ((l.map wd).map tx) := by rw [List.map_map]; rfl
noncomputable def meantV : List (Str × At) := poolV.map fun p => (p.1, .str p.2)
theorem meant_at : ∀ s : Sg, dictAt meantV ⟨#[sgN s]⟩ = some (.str (tx (wd s))) := by
  have h : ∀ s : Sg, ((poolV.find? fun p => p.1 == ⟨#[sgN s]⟩).map (·.2)) = some (tx (wd s)) := by decide +kernel
  intro s
  have := h s
  unfold dictAt meantV
  rw [List.find?_map, Option.map_map]
  have e : ((fun p : Str × At => p.1 == (⟨#[sgN s]⟩ : Str)) ∘ fun p : Str × Str => (p.1, At.str p.2)) = fun p => p.1 == ⟨#[sgN s]⟩ := rfl
  rw [e]
  cases q : poolV.find? fun p => p.1 == (⟨#[sgN s]⟩ : Str) with
  | none => rw [q] at this; cases this
  | some p =>
    rw [q] at this
    have h2 : p.2 = tx (wd s) := Option.some.inj this
    show some (At.str p.2) = _
    rw [h2]
noncomputable def wdF (x : IV) : List IV := match x with | .at (.str s) => (match dictAt meantV s with | some a => [.at a] | none => []) | _ => []
theorem wdF_at (s : Sg) : wdF (.at (.str ⟨#[sgN s]⟩)) = [.at (.str (tx (wd s)))] := by
  show (match dictAt meantV ⟨#[sgN s]⟩ with | some a => [IV.at a] | none => []) = _
  rw [meant_at s]
theorem wdF_eq (l : List Sg) : (sgsV l).flatMap wdF = strsIV (l.map fun s => tx (wd s)) := by
  induction l with
  | nil => rfl
  | cons s l ih =>
    show wdF (.at (.str ⟨#[sgN s]⟩)) ++ (sgsV l).flatMap wdF = _
    rw [ih, wdF_at]; rfl
theorem chars_wr (l : List Sg) : chars (wr l) = sgsV l := by
  unfold chars wr sgsV
  simp
theorem mn_flat (l : List Sg) : tx ((l.map wd).flatten) = tx (mn l) := by unfold mn; rw [List.flatMap_def]
noncomputable abbrev spM : List (Str × CSlot) := [("writing", .loc), ("meant", .own)]
set_option maxHeartbeats 8000000 in
theorem c_meaning {w : World} {base : Addr → Option Obj} {k : Nat} (t : Top w base) {l : List Sg} (h1 : l.length ≤ 1000) : CallP pw w base (k + 1) (.ref 275) [.str (wr l), .dict meantV] (.str (tx (mn l))) true := by
  refine call_own (fd := fdOf (o275_0 w.params)) (sp := spM) (names := ["writing", "meant"]) (n := 0) (body := fBody (bd 19)) (fnAt t (o := o275_0 w.params) (oc := o274_0 w.params) (by kernel_rfl) rfl rfl (by kernel_rfl) rfl rfl) rfl rfl ?_ ⟨by kernel_rfl, by kernel_rfl, trivial⟩ (by decide) rfl rfl rfl ?_ (by kernel_rfl) (by kernel_rfl) (by kernel_rfl)
  · exact vals2 fun a b => rfl
  · intro L base' os hb ok
    have sz : sizeLine = 16777216 := sizeLine_eq
    show ExS pw w (fnFm (fdOf (o275_0 w.params)) 275 L spM base' os) [(.str (wr l), false), (.dict meantV, false)] k (execs (fBody (bd 19)) (fnFm (fdOf (o275_0 w.params)) 275 L spM base' os).env) _
    refine ex_one (ex_return_iv (fr := true) (ev_meth (by rfl) (by rfl) (by rfl) (by decide) ev_str (.cons (ev_cast (ev_comp_eq [("meant", L + 1)] [("sign", .loc), ("meant", .cap 1)] (sgsV l) wdF ok ((wdF_eq l).trans (flat_map_tx l)) ⟨by rfl, ⟨by kernel_rfl, ⟨by kernel_rfl, by kernel_rfl, _, rfl, rfl⟩, trivial⟩, by kernel_rfl, by decide, by decide +kernel, by intro _; rfl, rfl, ItJ.cast (itj_str (ev_local 0 ok rfl rfl (by intro q; cases q))) (chars_wr l), ?_, ?_⟩) rfl) .nil) .str m_join (c_join (joinOk_tx (B := 3) ?_ ?_))) (congrArg (fun x => Fl.ret (.str x)) ((join_tx _).trans (mn_flat l))))
    · intro C D base2 hbase2 okc x hx
      obtain ⟨s, _, rfl⟩ := List.mem_map.mp hx
      exact ⟨[(.str ⟨#[sgN s]⟩, false), (.dict meantV, false)], true, asg_name 0 (acc := none) rfl own_none, .inl ⟨rfl, rfl⟩, ⟨.at (.str (tx (wd s))), true, wdF_at s, ev_sub_dict (ev_cell 1 okc rfl rfl (by intro q; cases q)) (ev_local 0 okc rfl rfl (by intro q; cases q)) (meant_at s)⟩, .any (.same .nil)⟩
    · rw [wdF_eq, List.length_map, List.length_map, sz]; lia
    · intro x hx
      obtain ⟨s, _, rfl⟩ := List.mem_map.mp hx
      exact wd_len s
    · rw [List.length_map]; lia
open Wk Hd1
noncomputable def spL : List (Str × CSlot) := [("script", .loc), ("pool", .loc), ("meant", .own), ("text", .loc), ("drawn", .own), ("k", .loc), ("own", .loc), ("x", .loc), ("stock", .loc), ("sign", .own), ("book", .loc), ("told", .loc), ("rows", .loc), ("row", .loc), ("far", .loc), ("near", .loc), ("heard", .loc), ("fresh", .loc), ("names", .loc), ("rest", .loc), ("best", .loc), ("seen", .loc), ("layer", .loc), ("size", .loc), ("writing", .loc), ("due", .loc), ("ahead", .loc), ("letters", .own), ("shares", .loc)]
abbrev LF (w : World) (L : Addr) (base : Addr → Option Obj) (os : OsState) : Fm := fnFm (fdOf (o280_0 w.params)) 280 L spL base os
noncomputable abbrev rh (script pool meant text drawn k own x stock sign book told rows row far near heard fresh names rest best seen layer size writing due ahead letters shares : PV × Bool := E0) : Rho :=
  [script, pool, meant, text, drawn, k, own, x, stock, sign, book, told, rows, row, far, near, heard, fresh, names, rest, best, seen, layer, size, writing, due, ahead, letters, shares]
def st (i : Nat) : Stmt := sub (fBody (bd 20)) i
section
variable {w : World} {L : Addr} {base : Addr → Option Obj} {os : OsState}
theorem lawFr (t : Top w base) : Fr2 w (LF w L base os) := fr2_fn t rfl rfl (by kernel_rfl)
theorem ownM : Own (LF w L base os) "meant" (some (L + 1)) := fun c e => by cases e; exact ⟨by kernel_rfl, "meant", by simp [spL], by rfl⟩
theorem ownD : Own (LF w L base os) "drawn" (some (L + 1 + 1)) := fun c e => by cases e; exact ⟨by kernel_rfl, "drawn", by simp [spL], by rfl⟩
theorem ownS : Own (LF w L base os) "sign" (some (L + 1 + 1 + 1)) := fun c e => by cases e; exact ⟨by kernel_rfl, "sign", by simp [spL], by rfl⟩
theorem ownL : Own (LF w L base os) "letters" (some (L + 1 + 1 + 1 + 1)) := fun c e => by cases e; exact ⟨by kernel_rfl, "letters", by simp [spL], by rfl⟩
end
theorem filter_ints (ns : List Int) (ix : List Nat) : ix.filterMap ((intsIV ns)[·]?) = intsIV (ix.filterMap (ns[·]?)) := by
  induction ix with
  | nil => rfl
  | cons i ix ih =>
    rw [List.filterMap_cons, List.filterMap_cons, ih]
    rw [List.getElem?_map]
    cases ns[i]? <;> rfl
noncomputable def modF (m : Int) (x : IV) : List IV := [match x with | .at (.int i) => .at (.int (i.fmod m)) | _ => x]
theorem modF_eq (m : Int) (l : List Int) : (intsIV l).flatMap (modF m) = intsIV (l.map fun y => y.fmod m) := by
  induction l with
  | nil => rfl
  | cons c l ih => simp only [List.map_cons, List.flatMap_cons, ih]; rfl
def noth (w : World) (c : Nat) : Bool := setHas (o46_0 w.params) (c : Nat)
theorem noth_sg (w : World) : ∀ i : Sg, noth w (sgN i) = false := by
  intro i
  have h : ∀ i : Sg, sgN i ∈ signN := by decide
  have h1 := h i
  unfold noth
  generalize sgN i = c at h1 ⊢
  simp only [signN, List.mem_cons, List.not_mem_nil, or_false] at h1
  rcases h1 with rfl | rfl | rfl | rfl | rfl | rfl | rfl | rfl | rfl | rfl | rfl | rfl | rfl | rfl | rfl | rfl | rfl <;> kernel_rfl
theorem noth_no (w : World) : ∀ j : Fin 16, noth w (65024 + j.val) = true := by
  intro j
  have h : (List.range 16).all (fun n => noth w (65024 + n)) = true := by kernel_rfl
  exact List.all_eq_true.mp h j.val (List.mem_range.mpr j.isLt)
def addC (w : World) (r : List Nat) (c : Nat) : List Nat := if !noth w c && !r.contains c then r ++ [c] else r
def stk (w : World) (T : List Nat) : List Nat := T.foldl (addC w) []
theorem stk_snoc (w : World) (T : List Nat) (c : Nat) : stk w (T ++ [c]) = addC w (stk w T) c := by unfold stk; rw [List.foldl_append]; rfl
theorem sgN_mem (d : List Sg) (i : Sg) : (d.map sgN).contains (sgN i) = d.contains i := by
  rw [Bool.eq_iff_iff, List.contains_iff_mem, List.contains_iff_mem]
  constructor
  · intro h
    obtain ⟨j, hj, e⟩ := List.mem_map.mp h
    rw [← sg_inj _ _ e]; exact hj
  · exact fun h => List.mem_map_of_mem h
structure Drawn (w : World) (T : List Nat) (d : List Sg) (n : Nat) : Prop where
  nd : d.Nodup
  eq : stk w T = d.map sgN
  len : T.length ≤ 2 * n
  dlen : d.length ≤ n
theorem Drawn.no {w : World} {T : List Nat} {d : List Sg} {n : Nat} (h : Drawn w T d n) (j : Fin 16) : stk w (T ++ [65024 + j.val]) = d.map sgN := by
  rw [stk_snoc, h.eq]
  unfold addC
  rw [noth_no]
  rfl
theorem drawn_sg {w : World} {T : List Nat} {d : List Sg} (h : stk w T = d.map sgN) (i : Sg) : stk w (T ++ [sgN i]) = (if d.contains i then d else d ++ [i]).map sgN := by
  rw [stk_snoc, h]
  unfold addC
  rw [noth_sg, sgN_mem]
  cases d.contains i with
  | true => rfl
  | false => simp
theorem sgs_strs (d : List Sg) : sgsV d = strsIV (d.map fun s => (⟨#[sgN s]⟩ : Str)) := by unfold sgsV strsIV; rw [List.map_map]; rfl
theorem str1_inj {a b : Nat} (h : (⟨#[a]⟩ : Str) = ⟨#[b]⟩) : a = b := tx_inj (l := [a]) (m := [b]) h |> fun e => by injection e
theorem has_str (d : List Sg) (i : Sg) : (d.map fun s => (⟨#[sgN s]⟩ : Str)).contains ⟨#[sgN i]⟩ = d.contains i := by
  rw [Bool.eq_iff_iff, List.contains_iff_mem, List.contains_iff_mem]
  constructor
  · intro h
    obtain ⟨j, hj, e⟩ := List.mem_map.mp h
    rw [← sg_inj _ _ (str1_inj e)]; exact hj
  · exact fun h => List.mem_map_of_mem h
theorem mod_sg (x : Int) : ∃ i : Sg, x.fmod 17 = ((i.val : Nat) : Int) := by
  have h1 := Int.fmod_nonneg_of_pos x (b := 17) (by decide)
  have h2 := Int.fmod_lt_of_pos x (b := 17) (by decide)
  exact ⟨⟨(x.fmod 17).toNat, by lia⟩, by simp; lia⟩
theorem mod_no (x : Int) : ∃ j : Fin 16, x.fmod 16 = ((j.val : Nat) : Int) := by
  have h1 := Int.fmod_nonneg_of_pos x (b := 16) (by decide)
  have h2 := Int.fmod_lt_of_pos x (b := 16) (by decide)
  exact ⟨⟨(x.fmod 16).toNat, by lia⟩, by simp; lia⟩
theorem pool_at (i : Sg) : (rowsIV poolV)[i.val]? = some (.tup [.str ⟨#[sgN i]⟩, .str (wordS.getD i.val Str.empty)]) := by
  have h : ∀ i : Sg, poolV[i.val]? = some (⟨#[sgN i]⟩, wordS.getD i.val Str.empty) := by decide +kernel
  rw [List.getElem?_map, h i]
  rfl
open Wk Hd1
section
variable {w : World} {L : Addr} {base : Addr → Option Obj} {os : OsState} {k : Nat}
noncomputable abbrev rd (S : PV × Bool) (T : List Nat) (d : List Sg) (kk own x : PV × Bool) : Rho := rh (script := S) (pool := (.list (rowsIV poolV), false)) (meant := (.dict meantV, false)) (text := S1 (tx T)) (drawn := (.list (sgsV d), true)) (k := kk) (own := own) (x := x)
def bDr : List Stmt := forBody (st 4)
set_option maxHeartbeats 8000000 in
theorem drawn_turn (t : Top w base) (ok : FmOk (LF w L base os)) {S : PV × Bool} {T : List Nat} {d : List Sg} {n : Nat} {kk own : PV × Bool} {x : Int} (h : Drawn w T d n) (hn : n ≤ 5) :
    ExS pw w (LF w L base os) (rd S T d kk own (.int x, false)) (k + 3) (execs (bDr.drop 1) (LF w L base os).env) (fun fl ρ' => fl = .next ∧ ∃ T' d', Drawn w T' d' (n + 1) ∧ ρ' = rd S T' d' kk own (.int x, false)) := by
  have f := lawFr (L := L) (os := os) t
  have gC := bi (x := "chr") f (by kernel_rfl) (by kernel_rfl) (v := .builtin "chr") (by kernel_rfl)
  have sz : sizeLine = 16777216 := sizeLine_eq
  have hlen := h.len
  have hdl := h.dlen
  obtain ⟨i, hi⟩ := mod_sg x
  obtain ⟨j, hj⟩ := mod_no (x.fdiv 34)
  refine ex_cons (P₁ := fun fl ρ' => fl = .next ∧ ∃ T', stk w T' = d.map sgN ∧ T'.length ≤ 2 * n + 1 ∧ ρ' = rd S T' d kk own (.int x, false)) (ex_if (b := (x.fdiv 17).fmod 2 == 1) (eb_cmp (fr := true) (by rfl) (ev_bin (fr := true) (ev_bin (fr := true) (ev_local 7 ok rfl rfl (by intro q; cases q)) (ev_int (i := 17)) (op_floordiv_int (y := 17) (by decide) (by decide))) (ev_int (i := 2)) (op_mod_int (y := 2) (by decide))) (ev_int (i := 1)) op_eq_int) ?_) ?_ (fun fl ρ' hne e => absurd e.1 hne)
  · cases (x.fdiv 17).fmod 2 == 1 with
    | false => exact ex_nil ⟨rfl, T, h.eq, by lia, rfl⟩
    | true =>
      refine ex_one (ex_mono (ex_aug_str (fr := true) (own' := false) (c := ⟨#[65024 + j.val]⟩) 3 rfl rfl (ev_cast (ev_call (fr := true) (by rfl) gC (.cons (ev_bin (fr := true) (ev_int (i := 65024)) (ev_bin (fr := true) (ev_bin (fr := true) (ev_local 7 ok rfl rfl (by intro q; cases q)) (ev_int (i := 34)) (op_floordiv_int (y := 34) (by decide) (by decide))) (ev_int (i := 16)) (op_mod_int (y := 16) (by decide))) op_add_int) .nil) (c_chr (by rw [hj]; lia) (by rw [hj]; lia)) (fun a e => nomatch e)) (congrArg (fun c : Nat => PV.str ⟨#[c]⟩) (by rw [hj]; omega))) (by rw [tx_len, sz]; show T.length + 1 ≤ _; lia)) ?_)
      rintro fl ρ' ⟨rfl, rfl⟩
      refine ⟨rfl, T ++ [65024 + j.val], h.no j, by rw [List.length_append]; simp; lia, ?_⟩
      rw [show (tx T ++ (⟨#[65024 + j.val]⟩ : Str)) = tx (T ++ [65024 + j.val]) from tx_app T [65024 + j.val]]
      rfl
  · rintro ρ' ⟨_, T', hT, hTl, rfl⟩
    have epool : ∀ {ρ : Rho} {p1 p2 p3 p4 p5 p6 p7 : PySem.Pos} {k1 k2 : Nat}, ρ[1]? = some (.list (rowsIV poolV), false) → ρ[7]? = some (.int x, false) → EvJ pw w (LF w L base os) ρ (k + 3) (.Subscript (.Subscript (.Name "pool" p1) (.BinOp (.Name "x" p2) .Mod (.Constant (.int 17) k1 p3) p4) p5) (.Constant (.int 0) k2 p6) p7) (.str ⟨#[sgN i]⟩) true := fun h1 h2 =>
      ev_sub_tup (n := 0) (ev_sub_list (fr := true) (n := i.val) (ev_local 1 ok rfl h1 (by intro q; cases q)) (ev_cast (ev_bin (fr := true) (ev_local 7 ok rfl h2 (by intro q; cases q)) (ev_int (i := 17)) (op_mod_int (y := 17) (by decide))) (congrArg PV.int hi)) (pool_at i) (by have := i.isLt; lia)) (ev_int (i := 0)) rfl (by decide)
    refine ex_then (ρ₁ := rd S (T' ++ [sgN i]) d kk own (.int x, false)) (ex_mono (ex_aug_str (own' := false) 3 rfl rfl (epool rfl rfl) (by rw [tx_len, sz]; show T'.length + 1 ≤ _; lia)) ?_) ?_
    · rintro fl ρ' ⟨rfl, rfl⟩
      refine ⟨rfl, ?_⟩
      rw [show (tx T' ++ (⟨#[sgN i]⟩ : Str)) = tx (T' ++ [sgN i]) from tx_app T' [sgN i]]
      rfl
    have h8 := op_notin_strs (prog := pw) (w := w) (k := k + 3) (x := ⟨#[sgN i]⟩) (l := d.map fun s => (⟨#[sgN s]⟩ : Str))
    rw [has_str, ← sgs_strs] at h8
    have hq0 := drawn_sg hT i
    refine ex_one (ex_if (b := !d.contains i) (eb_cmp (by rfl) (epool rfl rfl) (ev_cell 4 ok rfl rfl (by intro q; cases q)) h8) ?_)
    cases hq : d.contains i with
    | true =>
      rw [hq, if_pos rfl] at hq0
      exact ex_nil ⟨rfl, T' ++ [sgN i], d, ⟨h.nd, hq0, by rw [List.length_append]; simp; lia, by lia⟩, rfl⟩
    | false =>
      rw [hq, if_neg (by simp)] at hq0
      refine ex_one (ex_mono (ex_append 4 (y := .at (.str ⟨#[sgN i]⟩)) rfl rfl (epool rfl rfl) (by rw [List.length_map, sz]; lia) (by rfl) (by rfl) (by rfl)) fun fl ρ' ⟨e1, e2⟩ => ⟨e1, T' ++ [sgN i], d ++ [i], ⟨?_, hq0, by rw [List.length_append]; simp; lia, by simp; lia⟩, ?_⟩)
      · refine List.nodup_append.mpr ⟨h.nd, by simp, fun a ha b hb e => ?_⟩
        rw [List.mem_singleton] at hb
        rw [e, hb] at ha
        rw [List.contains_iff_mem.mpr ha] at hq
        cases hq
      · rw [e2]
        show _ = rd S (T' ++ [sgN i]) (d ++ [i]) kk own (.int x, false)
        unfold rd sgsV
        rw [List.map_append]
        rfl
end
open Wk Hd1
section
variable {w : World} {L : Addr} {base : Addr → Option Obj} {os : OsState} {k : Nat}
theorem slice_len (l : List Int) (a b c : Option Int) : ((sliceRange (sliceBounds a b c l.length).1 (sliceBounds a b c l.length).2.1 (sliceBounds a b c l.length).2.2).filterMap (l[·]?)).length ≤ l.length := by
  have h := slicePick_size_le (l.map fun i => Value.int i 0).toArray a b c
  unfold slicePick at h
  rw [List.size_toArray, List.size_toArray, List.length_map] at h
  generalize sliceRange (sliceBounds a b c l.length).1 (sliceBounds a b c l.length).2.1 (sliceBounds a b c l.length).2.2 = ix at h ⊢
  have e : (ix.filterMap ((l.map fun i => Value.int i 0).toArray[·]?)) = (ix.filterMap (l[·]?)).map fun i => Value.int i 0 := by
    clear h
    induction ix with
    | nil => rfl
    | cons i ix ih =>
      rw [List.filterMap_cons, List.filterMap_cons, ih, List.getElem?_toArray, List.getElem?_map]
      cases l[i]? <;> rfl
  rw [e, List.length_map] at h
  exact h
set_option maxHeartbeats 8000000 in
theorem seg_drawn (t : Top w base) (ok : FmOk (LF w L base os)) {ns : List Int} (hns : ns.length ≤ 63) :
    ExS pw w (LF w L base os) (rd (.list (intsIV ns), false) [] [] E0 E0 E0) (k + 3) (exec (st 4) (LF w L base os).env) (fun fl ρ' => fl = .next ∧ ∃ T d, Drawn w T d 5 ∧ ρ' = rd (.list (intsIV ns), false) T d E0 E0 E0) := by
  have f := lawFr (L := L) (os := os) t
  have gE := bi (x := "enumerate") f (by kernel_rfl) (by kernel_rfl) (v := .type "enumerate") (by kernel_rfl)
  have gS := bi (x := "sum") f (by kernel_rfl) (by kernel_rfl) (v := .builtin "sum") (by kernel_rfl)
  have sz : sizeLine = 16777216 := sizeLine_eq
  refine ex_forM [((0 : Nat), (14 : Int)), (1, 20), (2, 1), (3, 2), (4, 15)] (fun p => .tup [.int ((p.1 : Nat) : Int), .int p.2]) (fun done ρ' => ∃ T d, Drawn w T d done.length ∧ ρ' = rd (.list (intsIV ns), false) T d E0 E0 E0) (itj_enum (l := [.int 14, .int 20, .int 1, .int 2, .int 15]) (by rfl) gE (src_fresh (ev_list (by rfl) (.cons (ev_int (i := 14)) (.cons (ev_int (i := 20)) (.cons (ev_int (i := 1)) (.cons (ev_int (i := 2)) (.cons (ev_int (i := 15)) .nil))))) (by decide)) rfl)) ⟨[], [], ⟨List.nodup_nil, rfl, Nat.le_refl _, Nat.le_refl _⟩, rfl⟩ ?_ ?_
  · rintro ρ' ⟨T, d, h, rfl⟩
    exact ⟨rfl, T, d, h, rfl⟩
  · rintro done ⟨kk, own⟩ rest ρ' hxs ⟨T, d, h, rfl⟩
    have hdl : done.length ≤ 4 := by
      have := congrArg List.length hxs
      simp at this; lia
    refine ⟨_, asg_tup (.cons 5 (acc := none) rfl own_none (.cons 6 (acc := none) rfl own_none .nil)), ?_⟩
    show ExS pw w (LF w L base os) (rd (.list (intsIV ns), false) T d (.int ((kk : Nat) : Int), false) (.int own, false) E0) (k + 3) _ _
    refine ex_then (ex_assign_iv (fr := true) (own := false) 7 (acc := none) rfl own_none (ev_bin (ev_local 6 ok rfl rfl (by intro q; cases q)) (ev_call (fr := true) (by rfl) gS (.cons (ev_comp_eq [] [("y", .loc)] _ (modF (10 ^ (6 : Int).toNat)) ok (modF_eq _ _) ⟨by rfl, ⟨by kernel_rfl, trivial⟩, by kernel_rfl, by decide, by decide +kernel, by intro _; rfl, rfl, itj_list (src_fresh (ev_cast (ev_slice_list (ev_local 0 ok rfl rfl (by intro q; cases q)) (.some (ev_local 5 ok rfl rfl (by intro q; cases q))) (.some (ev_int (i := 20))) (.some (ev_int (i := 5))) (by simp) (by rw [List.length_map, sz]; lia)) (congrArg PV.list (filter_ints ns _))) rfl), ?_, ?_⟩) .nil) c_sum (fun a e => nomatch e)) op_add_int) (by rfl)) ?_
    · intro C D base2 hbase2 okc z hz
      obtain ⟨y, hy, rfl⟩ := List.mem_map.mp hz
      exact ⟨[(.int y, false)], true, asg_name 0 (acc := none) rfl own_none, .inl ⟨rfl, rfl⟩, ⟨.at (.int (y.fmod (10 ^ (6 : Int).toNat))), true, rfl, ev_bin (ev_local 0 okc rfl rfl (by intro q; cases q)) (ev_bin (fr := true) (ev_int (i := 10)) (ev_int (i := 6)) (op_pow_int (by decide) (by decide) (by decide))) (op_mod_int (by decide))⟩, .any .nil⟩
    · rw [modF_eq, List.length_map, List.length_map, sz]
      refine Nat.le_trans ?_ (Nat.le_trans (slice_len ns (some ((kk : Nat) : Int)) (some 20) (some 5)) (by lia))
      rw [List.length_map]
      exact Nat.le_refl _
    generalize own + (List.map (fun (y : Int) => y.fmod (10 ^ (6 : Int).toNat)) _).sum = x
    refine ex_post (drawn_turn (k := k) t ok h (by lia)) ?_
    rintro fl ρ' ⟨rfl, T', d', h', rfl⟩
    refine ⟨rd (.list (intsIV ns), false) T' d' E0 E0 E0, ?_, T', d', by rw [List.length_append]; exact h', rfl⟩
    exact (.same (.same (.same (.same (.same (.any (.any (.any (Weaker.refl _)))))))))
end
open Wk Hd1
noncomputable abbrev stkV (l : List Nat) : List IV := l.map fun c => .at (.str ⟨#[c]⟩)
theorem stk_strs (l : List Nat) : stkV l = strsIV (l.map fun c => (⟨#[c]⟩ : Str)) := by unfold stkV strsIV; rw [List.map_map]; rfl
theorem stk_has (l : List Nat) (c : Nat) : (l.map fun c => (⟨#[c]⟩ : Str)).contains ⟨#[c]⟩ = l.contains c := by
  rw [Bool.eq_iff_iff, List.contains_iff_mem, List.contains_iff_mem]
  constructor
  · intro h
    obtain ⟨j, hj, e⟩ := List.mem_map.mp h
    rw [← str1_inj e]; exact hj
  · exact fun h => List.mem_map_of_mem h
theorem addC_len (w : World) (r : List Nat) (c : Nat) : (addC w r c).length ≤ r.length + 1 := by
  unfold addC
  split
  · simp
  · lia
theorem stk_len (w : World) (T : List Nat) : (stk w T).length ≤ T.length := by
  have : ∀ (T r : List Nat), (T.foldl (addC w) r).length ≤ r.length + T.length := by
    intro T
    induction T with
    | nil => intro r; exact Nat.le_refl _
    | cons c T ih => intro r; have := ih (addC w r c); have := addC_len w r c; rw [List.foldl_cons, List.length_cons]; lia
  have := this T []
  simpa [stk] using this
noncomputable def row0 (s : Sg) : Row := (wd s, [s], [])
section
variable {w : World} {L : Addr} {base : Addr → Option Obj} {os : OsState} {k : Nat}
noncomputable abbrev rs (S : PV × Bool) (T : List Nat) (d : List Sg) (stock sign : PV × Bool) : Rho := rh (script := S) (pool := (.list (rowsIV poolV), false)) (meant := (.dict meantV, false)) (text := S1 (tx T)) (drawn := (.list (sgsV d), false)) (stock := stock) (sign := sign)
set_option maxHeartbeats 8000000 in
theorem seg_stock (t : Top w base) (ok : FmOk (LF w L base os)) {S : PV × Bool} {T : List Nat} {d : List Sg} (hT : T.length ≤ 100) (hd : stk w T = d.map sgN) :
    ExS pw w (LF w L base os) (rs S T d (.list [], true) E0) (k + 3) (exec (st 6) (LF w L base os).env) (Only (rs S T d (.list (sgsV d), true) E0)) := by
  have f := lawFr (L := L) (os := os) t
  have gI := gl (x := "in_table_b1") f (by kernel_rfl) (v := .ref 56) (by kernel_rfl)
  have sz : sizeLine = 16777216 := sizeLine_eq
  refine ex_forM T (fun c => .at (.str ⟨#[c]⟩)) (fun done ρ' => ρ' = rs S T d (.list (stkV (stk w done)), true) E0) (ItJ.cast (itj_str (ev_local 3 ok rfl rfl (by intro q; cases q))) (by unfold chars; simp)) rfl (fun ρ' e => ⟨rfl, ?_⟩) ?_
  · rw [e, hd]
    unfold stkV sgsV
    rw [List.map_map]
    rfl
  · rintro done c rest ρ' hxs rfl
    have hdl : done.length ≤ T.length := by rw [hxs]; simp
    have hsl := stk_len w done
    refine ⟨_, asg_name 9 rfl ownS, ?_⟩
    show ExS pw w (LF w L base os) (rs S T d (.list (stkV (stk w done)), true) (S1 ⟨#[c]⟩)) (k + 3) _ _
    have h8 := op_notin_strs (prog := pw) (w := w) (k := k + 3) (x := ⟨#[c]⟩) (l := (stk w done).map fun c => (⟨#[c]⟩ : Str))
    rw [stk_has, ← stk_strs] at h8
    have e1 : stk w (done ++ [c]) = addC w (stk w done) c := stk_snoc w done c
    refine ex_one (ex_post (P₁ := Only (rs S T d (.list (stkV (stk w (done ++ [c]))), true) (S1 ⟨#[c]⟩))) (ex_if (b := !noth w c && (!(stk w done).contains c && true)) (eb_op (.andCons (eb_not (eb_call (fr := true) (ev_call (by rfl) gI (.cons (ev_cell 9 ok rfl rfl (by intro q; cases q)) .nil) (in_table (k := k + 2) f.top) (fn_at f.top (o := o56_0 w.params) (by kernel_rfl) rfl)))) fun _ => .andCons (eb_cmp (by rfl) (ev_cell 9 ok rfl rfl (by intro q; cases q)) (ev_local 8 ok rfl rfl (by intro q; cases q)) h8) fun _ => .andNil)) ?_) ?_)
    · rw [e1, Bool.and_true]
      unfold addC
      cases hq : !noth w c && !(stk w done).contains c with
      | false => rw [if_neg (by simp)]; exact ex_nil ⟨rfl, rfl⟩
      | true =>
        rw [if_pos rfl]
        refine ex_one (ex_mono (ex_append 8 (y := .at (.str ⟨#[c]⟩)) rfl rfl (ev_cell 9 ok rfl rfl (by intro q; cases q)) (by rw [List.length_map, sz]; lia) (by rfl) (by rfl) (by rfl)) fun fl ρ' ⟨e1, e2⟩ => ⟨e1, ?_⟩)
        rw [e2]
        show _ = rs S T d (.list (stkV (stk w done ++ [c])), true) (S1 ⟨#[c]⟩)
        unfold stkV
        rw [List.map_append]
        rfl
    · rintro fl ρ' ⟨rfl, rfl⟩
      exact ⟨rs S T d (.list (stkV (stk w (done ++ [c]))), true) E0, (.same (.same (.same (.same (.same (.same (.same (.same (.same (.any (Weaker.refl _))))))))))), rfl⟩
end
open Wk Hd1
noncomputable def sufs : List (List Nat) := [[], [112], [112, 97], [97], [117], [104], [107], [109]]
noncomputable def rests : List (List Nat) := sufs.tail ++ wdT
theorem suf_low : ∀ x ∈ sufs, Txt.lower (tx x) = tx x := by decide +kernel
theorem suf_let : ∀ x ∈ sufs, (∀ c ∈ x, 97 ≤ c ∧ c ≤ 122) ∧ x.length ≤ 2 := by decide
theorem rest_let : ∀ x ∈ rests, (∀ c ∈ x, 97 ≤ c ∧ c ≤ 122) ∧ x.length ≤ 3 := by decide
theorem rest_wd : ∀ s : Sg, wd s ∈ rests := by decide
theorem rest_step : ∀ x ∈ rests, ∀ s : Sg, ((wd s).isPrefixOf x = true → x.drop (wd s).length ∈ sufs) ∧ (x.isPrefixOf (wd s) = true → (wd s).drop x.length ∈ sufs) := by decide
theorem suf_rest : ∀ x ∈ sufs, x ≠ [] → x ∈ rests := by decide
theorem suf_fit : ∀ x ∈ sufs, LowOk (tx x) := by unfold LowOk; decide +kernel
theorem okC_let : ∀ c : Fin 26, okC (97 + c.val) := by unfold okC; decide +kernel
theorem okC_sg : ∀ i : Sg, okC (sgN i) := by unfold okC; decide +kernel
theorem okC_sp : okC 32 := by unfold okC; decide +kernel
theorem strOk_tx {l : List Nat} (h : ∀ c ∈ l, okC c) (h2 : l.length ≤ 100000) : StrOk (tx l) := by
  refine ⟨fun i hi => ?_, by rw [tx_len]; exact h2⟩
  have hi : i < l.length := by simpa using hi
  have e : (tx l).cps.getD i 0 = l[i] := by
    show l.toArray.getD i 0 = _
    simp [hi]
  rw [e]
  exact h _ (List.getElem_mem hi)
theorem suf_str {x : List Nat} (hx : x ∈ sufs) : StrOk (tx x) := by
  obtain ⟨h1, h2⟩ := suf_let x hx
  refine strOk_tx (fun c hc => ?_) (by lia)
  obtain ⟨h3, h4⟩ := h1 c hc
  have := okC_let ⟨c - 97, by lia⟩
  rw [show 97 + (c - 97) = c by lia] at this
  exact this
noncomputable def valS (r : Row) : Str := wr r.2.1 ++ " " ++ wr r.2.2
noncomputable def bookR (r : Row) : Str × Str := (tx r.1, valS r)
theorem valS_tx (r : Row) : valS r = tx (r.2.1.map sgN ++ [32] ++ r.2.2.map sgN) := by
  unfold valS wr
  rw [show (" " : Str) = tx [32] from by decide +kernel, tx_app, tx_app]
theorem valS_ok {r : Row} (h : rowD r ≤ 1000) : StrOk (valS r) := by
  rw [valS_tx]
  refine strOk_tx (fun c hc => ?_) ?_
  · rw [List.mem_append, List.mem_append] at hc
    rcases hc with (hc | hc) | hc
    · obtain ⟨s, _, rfl⟩ := List.mem_map.mp hc; exact okC_sg s
    · rw [List.mem_singleton.mp hc]; exact okC_sp
    · obtain ⟨s, _, rfl⟩ := List.mem_map.mp hc; exact okC_sg s
  · unfold rowD at h
    simp
    lia
theorem valS_len (r : Row) : (valS r).length = rowD r + 1 := by
  rw [valS_tx, tx_len]
  unfold rowD
  simp
  lia
theorem getV_book {B : List Row} {x : List Nat} (hB : ∀ r ∈ B, r.1 ∈ sufs) (hx : x ∈ sufs) : getV (B.map bookR) (tx x) = match B.find? (fun r => r.1 == x) with | some r => .str (valS r) | none => .none := by
  unfold getV
  rw [List.find?_map, suf_low x hx]
  have e : B.find? ((fun p : Str × Str => Txt.lower p.1 == tx x) ∘ bookR) = B.find? (fun r => r.1 == x) := by
    induction B with
    | nil => rfl
    | cons r B ih =>
      have h1 : ((fun p : Str × Str => Txt.lower p.1 == tx x) ∘ bookR) r = (r.1 == x) := by
        show (Txt.lower (tx r.1) == tx x) = _
        rw [suf_low r.1 (hB r (List.mem_cons_self ..)), tx_beq]
      rw [List.find?_cons, List.find?_cons, h1, ih fun r hr => hB r (List.mem_cons_of_mem _ hr)]
  rw [e]
  cases B.find? (fun r => r.1 == x) <;> rfl
noncomputable def addR (told fresh : List Row) (r : Row) : List Row := if (told ++ fresh).any (fun q => q.1 == r.1) then fresh else fresh ++ [r]
noncomputable def roundR (d : List Sg) (told rows : List Row) : List Row := (rows.flatMap (nextR d)).foldl (addR told) []
theorem find_any {B : List Row} {x : List Nat} : (B.find? fun r => r.1 == x).isSome = B.any fun r => r.1 == x := by
  rw [Bool.eq_iff_iff, List.find?_isSome, List.any_eq_true]
structure Fit (B R : List Row) (n : Nat) : Prop where
  told : ∀ r ∈ B, r.1 ∈ sufs
  tnd : (B.map (·.1)).Nodup
  rows : ∀ r ∈ R, r.1 ∈ rests
  dots : ∀ r ∈ R, rowD r ≤ n
  tdots : ∀ r ∈ B, rowD r ≤ n
theorem nodup_len {α : Type} : ∀ {l m : List α}, l.Nodup → (∀ x ∈ l, x ∈ m) → l.length ≤ m.length
  | [], m, _, _ => Nat.zero_le _
  | x :: l, m, hl, h => by
    obtain ⟨a, b, rfl⟩ := List.append_of_mem (h x (List.mem_cons_self ..))
    rw [List.nodup_cons] at hl
    have := nodup_len (m := a ++ b) hl.2 fun y hy => by
      have := h y (List.mem_cons_of_mem _ hy)
      rw [List.mem_append, List.mem_cons] at this
      rcases this with q | rfl | q
      · exact List.mem_append_left _ q
      · exact absurd hy hl.1
      · exact List.mem_append_right _ q
    simp at this ⊢
    lia
theorem told_len {told : List Row} (h : ∀ r ∈ told, r.1 ∈ sufs) (nd : (told.map (·.1)).Nodup) : told.length ≤ 8 := by
  have := nodup_len (m := sufs) nd fun x hx => by
    obtain ⟨r, hr, rfl⟩ := List.mem_map.mp hx
    exact h r hr
  rw [List.length_map] at this
  exact this
theorem step_suf {r : Row} (h : r.1 ∈ rests) {s : Sg} {q : Row} (hq : q ∈ stepR r s) : q.1 ∈ sufs ∧ rowD q = rowD r + 1 := by
  unfold stepR at hq
  have hs := rest_step r.1 h s
  split at hq
  · cases hq
  · split at hq
    · rename_i c1
      rw [List.mem_singleton] at hq; subst hq
      exact ⟨hs.1 c1, by unfold rowD; simp; lia⟩
    · split at hq
      · rename_i c2
        rw [List.mem_singleton] at hq; subst hq
        exact ⟨hs.2 c2, by unfold rowD; simp; lia⟩
      · cases hq
theorem next_suf {d : List Sg} {r : Row} (h : r.1 ∈ rests) {q : Row} (hq : q ∈ nextR d r) : q.1 ∈ sufs ∧ rowD q = rowD r + 1 := by
  obtain ⟨s, _, hs⟩ := List.mem_flatMap.mp hq
  exact step_suf h hs
theorem addR_fit {told fresh : List Row} {r : Row} (h : ∀ q ∈ told ++ fresh, q.1 ∈ sufs) (nd : ((told ++ fresh).map (·.1)).Nodup) (hr : r.1 ∈ sufs) : (∀ q ∈ told ++ addR told fresh r, q.1 ∈ sufs) ∧ ((told ++ addR told fresh r).map (·.1)).Nodup := by
  unfold addR
  split
  · exact ⟨h, nd⟩
  · rename_i c
    rw [← List.append_assoc]
    refine ⟨fun q hq => ?_, ?_⟩
    · rcases List.mem_append.mp hq with hq | hq
      · exact h q hq
      · rw [List.mem_singleton.mp hq]; exact hr
    · rw [List.map_append, List.nodup_append]
      refine ⟨nd, by simp, fun a ha b hb e => c ?_⟩
      simp at hb
      obtain ⟨q, hq, rfl⟩ := List.mem_map.mp ha
      rw [List.any_eq_true]
      exact ⟨q, hq, by rw [e, hb]; simp⟩
open Wk Hd1
section
variable {w : World} {base : Addr → Option Obj}
theorem m_get (t : Top w base) : MethB base (mHd w.params) "get" 199 := methB t (o := o199_0 w.params) (by kernel_rfl) (by kernel_rfl) rfl rfl (by decide) ⟨none, by rw [typeLookup_type, builtinLookup_eq_fast]; kernel_rfl⟩
theorem m_setd (t : Top w base) : MethB base (mHd w.params) "setdefault" 242 := methB t (o := o242_0 w.params) (by kernel_rfl) (by kernel_rfl) rfl rfl (by decide) ⟨none, by rw [typeLookup_type, builtinLookup_eq_fast]; kernel_rfl⟩
theorem m_items (t : Top w base) : MethB base (mHd w.params) "items" 216 := methB t (o := o216_0 w.params) (by kernel_rfl) (by kernel_rfl) rfl rfl (by decide) ⟨none, by rw [typeLookup_type, builtinLookup_eq_fast]; kernel_rfl⟩
theorem m_init (t : Top w base) : MethB base (mHd w.params) "__init__" 144 := methB t (o := o144_0 w.params) (by kernel_rfl) (by kernel_rfl) rfl rfl (by decide) ⟨some (.builtin "object.__init__"), by rw [typeLookup_type, builtinLookup_eq_fast]; kernel_rfl⟩
end
noncomputable def bookAt (B : List Row) (x : List Nat) : At := match B.find? (fun r : Row => r.1 == x) with | some r => .str (valS r) | none => .none
theorem getV_at {B : List Row} {x : List Nat} (hB : ∀ r ∈ B, r.1 ∈ sufs) (hx : x ∈ sufs) : getV (B.map bookR) (tx x) = bookAt B x := getV_book hB hx
theorem bookAt_none (B : List Row) (x : List Nat) : (bookAt B x).isNone = !(B.any fun r => r.1 == x) := by
  rw [← find_any]
  unfold bookAt
  cases B.find? (fun r : Row => r.1 == x) <;> rfl
theorem bookAt_kind (B : List Row) (x : List Nat) : bookAt B x = .none ∨ ∃ y, bookAt B x = .str y := by
  unfold bookAt
  cases B.find? (fun r : Row => r.1 == x) with
  | none => exact .inl rfl
  | some r => exact .inr ⟨_, rfl⟩
noncomputable def bookV (B : List Row) : PV := .obj 252 (rowsIV (B.map bookR))
section
variable {w : World} {L : Addr} {base : Addr → Option Obj} {os : OsState} {k : Nat}
noncomputable abbrev rw_ (S : PV × Bool) (T : List Nat) (d : List Sg) (B told : List Row) (rows : PV × Bool) (kk row far near heard fresh : PV × Bool) : Rho := rh (script := S) (pool := (.list (rowsIV poolV), false)) (meant := (.dict meantV, false)) (text := S1 (tx T)) (drawn := (.list (sgsV d), false)) (k := kk) (stock := (.list (sgsV d), false)) (book := (bookV B, true)) (told := (.list (rowsV told), true)) (rows := rows) (row := row) (far := far) (near := near) (heard := heard) (fresh := fresh)
theorem ev_get (t : Top w base) (ok : FmOk (LF w L base os)) {ρ : Rho} {B : List Row} {x : List Nat} {np ap pos : PySem.Pos} {e : PySem.Expr} {b f1 : Bool} (hr : ρ[10]? = some (bookV B, b)) (hB : ∀ r ∈ B, r.1 ∈ sufs) (hx : x ∈ sufs) (he : EvJ pw w (LF w L base os) ρ (k + 2) e (.str (tx x)) f1)
    (hb : attributeBase (.Name "book" np) "get" (LF w L base os).env (eval (.Name "book" np) (LF w L base os).env) = eval (.Name "book" np) (LF w L base os).env) (hs : starEach [e] (LF w L base os).env = plainArgs [e] (LF w L base os).env) (hl : (ap.endLine == pos.line) = true) :
    EvJ pw w (LF w L base os) ρ (k + 2) (.Call (.Attribute (.Name "book" np) "get" ap) [e] [] pos) (.iv (.at (bookAt B x))) true := by
  rw [← getV_at hB hx]
  refine ev_inst hb hs hl (by simp) (clsB t) (m_get t) (ev_local 10 ok rfl hr (by intro q; cases q)) (.cons he .nil) (c_get (k := k) t (suf_fit x hx) (by rw [suf_low x hx]; exact suf_str hx) fun p hp => ?_)
  obtain ⟨r, hr, rfl⟩ := List.mem_map.mp hp
  exact suf_fit r.1 (hB r hr)
def bW : List Stmt := forBody (st 11)
def bK : List Stmt := forBody (sub bW 2)
def bI : List Stmt := forBody (sub bK 0)
theorem strip_row (q : Row) (h : ∀ c ∈ q.1, 97 ≤ c ∧ c ≤ 122) : Txt.lstripChars (tx (rowL q)) "." = tx q.1 := PS.lstrip_dots _ _ (head_ok h)
set_option maxHeartbeats 8000000 in
theorem new_turn (t : Top w base) (ok : FmOk (LF w L base os)) {S : PV × Bool} {T : List Nat} {d : List Sg} {told fresh : List Row} {rows kk heard : PV × Bool} {q : Row} (h : ∀ r ∈ told ++ fresh, r.1 ∈ sufs) (nd : ((told ++ fresh).map (·.1)).Nodup) (hq : q.1 ∈ sufs) (hD : rowD q ≤ 1000) :
    ExS pw w (LF w L base os) (rw_ S T d (told ++ fresh) told rows kk (S1 (tx (rowL q))) (S1 (wr q.2.1)) (S1 (wr q.2.2)) heard (.list (rowsV fresh), true)) (k + 4) (execs bI (LF w L base os).env) (Only (rw_ S T d (told ++ addR told fresh q) told rows kk (S1 (tx (rowL q))) (S1 (wr q.2.1)) (S1 (wr q.2.2)) heard (.list (rowsV (addR told fresh q)), true))) := by
  have f := lawFr (L := L) (os := os) t
  have sz : sizeLine = 16777216 := sizeLine_eq
  have hlet := suf_let q.1 hq
  have hlen := told_len h nd
  rw [List.length_append] at hlen
  have hD2 : q.2.1.length + q.2.2.length ≤ 1000 := hD
  have estrip : ∀ {ρ : Rho} {p1 p2 p3 p4 : PySem.Pos} {k1 : Nat} {j : Nat}, ρ[13]? = some (S1 (tx (rowL q))) → (p2.endLine == p4.line) = true → EvJ pw w (LF w L base os) ρ (k + j) (.Call (.Attribute (.Name "row" p1) "lstrip" p2) [.Constant (.str ".") k1 p3] [] p4) (.str (tx q.1)) true := fun h1 h2 =>
    ev_cast (ev_meth (by rfl) (by rfl) h2 (by simp) (ev_local 13 ok rfl h1 (by intro q; cases q)) (.cons ev_str .nil) .str m_lstrip (c_lstrip (by rw [tx_len, rowL_len, sz]; lia))) (congrArg PV.str (strip_row q hlet.1))
  have hgv := getV_at h hq
  refine ex_one (ex_if (b := (bookAt (told ++ fresh) q.1).isNone) (eb_cmp (fr := true) (by rfl) (ev_get (k := k + 2) t ok rfl h hq (estrip (j := 4) rfl (by rfl)) (by rfl) (by rfl) (by rfl)) ev_none (op_is_none (by intro b e; rcases bookAt_kind (told ++ fresh) q.1 with h | ⟨y, h⟩ <;> rw [h] at e <;> cases e) (by intro u e; rcases bookAt_kind (told ++ fresh) q.1 with h | ⟨y, h⟩ <;> rw [h] at e <;> cases e))) ?_)
  rw [bookAt_none]
  cases hc : (told ++ fresh).any (fun r => r.1 == q.1) with
  | true =>
    have e : addR told fresh q = fresh := by unfold addR; rw [if_pos hc]
    rw [e]
    exact ex_nil ⟨rfl, rfl⟩
  | false =>
    have e : addR told fresh q = fresh ++ [q] := by unfold addR; rw [if_neg (by rw [hc]; simp)]
    have hnone : getV ((told ++ fresh).map bookR) (tx q.1) = .none := by
      rw [hgv]
      rcases bookAt_kind (told ++ fresh) q.1 with h | ⟨y, h⟩
      · exact h
      · have h2 := bookAt_none (told ++ fresh) q.1
        rw [h, hc] at h2
        cases h2
    rw [e]
    refine ex_then (ρ₁ := rw_ S T d (told ++ (fresh ++ [q])) told rows kk (S1 (tx (rowL q))) (S1 (wr q.2.1)) (S1 (wr q.2.2)) heard (.list (rowsV fresh), true)) (ex_mono (ex_setd (v := valS q) 10 rfl rfl (clsB t) (m_setd t) (estrip (j := 4) rfl (by rfl)) (ev_bin (fr := true) (ev_bin (fr := true) (ev_local 14 ok rfl rfl (by intro q; cases q)) ev_str (op_add_str (by rw [wr_len, sz]; show _ + 1 ≤ _; lia))) (ev_local 15 ok rfl rfl (by intro q; cases q)) (op_add_str (by rw [show (wr q.2.1 ++ (" " : Str)).length = q.2.1.length + 1 from by unfold wr; rw [show (" " : Str) = tx [32] from by decide +kernel, tx_app, tx_len]; simp, wr_len, sz]; lia))) (c_setd (k := k + 1) t (suf_fit _ hq) (by rw [suf_low _ hq]; exact suf_str hq) (suf_str hq) (valS_ok hD) (fun p hp => ?_) (by rw [List.length_map, List.length_append]; lia) hnone) (by rfl) (by rfl) (by rfl)) ?_) ?_
    · obtain ⟨r, hr, rfl⟩ := List.mem_map.mp hp
      exact suf_fit r.1 (h r hr)
    · rintro fl ρ' ⟨rfl, rfl⟩
      refine ⟨rfl, ?_⟩
      have e2 : PV.obj 252 (rowsIV ((told ++ fresh).map bookR ++ [(tx q.1, valS q)])) = bookV (told ++ (fresh ++ [q])) := by
        unfold bookV
        rw [← List.append_assoc, List.map_append (l₁ := told ++ fresh)]
        rfl
      rw [e2]
      rfl
    refine ex_one (ex_mono (ex_append 17 (y := rowV q) rfl rfl (ev_tuple (fr := true) (by rfl) (.cons (ev_local 13 ok rfl rfl (by intro q; cases q)) (.cons (ev_local 14 ok rfl rfl (by intro q; cases q)) (.cons (ev_local 15 ok rfl rfl (by intro q; cases q)) .nil))) (by rw [sz]; show (3 : Nat) ≤ _; decide)) (by rw [List.length_map, sz]; lia) (by rfl) (by rfl) (by rfl)) ?_)
    rintro fl ρ' ⟨rfl, rfl⟩
    refine ⟨rfl, ?_⟩
    show _ = rw_ S T d (told ++ (fresh ++ [q])) told rows kk (S1 (tx (rowL q))) (S1 (wr q.2.1)) (S1 (wr q.2.2)) heard (.list (rowsV (fresh ++ [q])), true)
    unfold rowsV
    rw [List.map_append]
    rfl
end
open Wk Hd1
theorem range_split {n x : Nat} {done rest : List Nat} (h : List.range n = done ++ x :: rest) : x = done.length ∧ x < n := by
  have h1 : (List.range n)[done.length]? = some x := by rw [h]; simp
  have h2 : done.length < n := by
    have := congrArg List.length h
    simp at this
    lia
  rw [List.getElem?_range h2] at h1
  cases h1
  exact ⟨rfl, h2⟩
theorem addRs_fit {told : List Row} : ∀ (l : List Row) {fresh : List Row}, (∀ q ∈ told ++ fresh, q.1 ∈ sufs) → ((told ++ fresh).map (·.1)).Nodup → (∀ q ∈ l, q.1 ∈ sufs) → (∀ q ∈ told ++ l.foldl (addR told) fresh, q.1 ∈ sufs) ∧ ((told ++ l.foldl (addR told) fresh).map (·.1)).Nodup
  | [], fresh, h, nd, _ => ⟨h, nd⟩
  | q :: l, fresh, h, nd, hl => by
    obtain ⟨h1, h2⟩ := addR_fit h nd (hl q (List.mem_cons_self ..))
    exact addRs_fit l h1 h2 fun q hq => hl q (List.mem_cons_of_mem _ hq)
theorem take_snoc {α : Type} {l : List α} {i : Nat} {x : α} (h : l[i]? = some x) : l.take (i + 1) = l.take i ++ [x] := by
  rw [List.take_add_one, h]; rfl
section
variable {w : World} {L : Addr} {base : Addr → Option Obj} {os : OsState} {k : Nat}
noncomputable def heardV (rows : List Row) : List IV := strsIV (rows.map (fun r => tx (46 :: rowL r)) ++ [tx []])
theorem heard_at {rows : List Row} {i : Nat} {r : Row} (h : rows[i]? = some r) : (heardV rows)[i]? = some (.at (.str (tx (46 :: rowL r)))) := by
  unfold heardV strsIV
  rw [List.getElem?_map, List.getElem?_append_left (by simp; exact (List.getElem?_eq_some_iff.mp h).1), List.getElem?_map, h]
  rfl
theorem rows_get {rows : List Row} {i : Nat} {r : Row} (h : rows[i]? = some r) : (rowsV rows)[i]? = some (rowV r) := by
  rw [List.getElem?_map, h]; rfl
set_option maxHeartbeats 8000000 in
theorem inner_loop (t : Top w base) (ok : FmOk (LF w L base os)) {S : PV × Bool} {T : List Nat} {d : List Sg} {told fresh rows : List Row} {i : Nat} {r : Row} (hd : d.length ≤ 5) (hi : rows[i]? = some r) (hil : i < 100) (hr : r.1 ∈ rests) (hD : rowD r ≤ 500) (h : ∀ r ∈ told ++ fresh, r.1 ∈ sufs) (nd : ((told ++ fresh).map (·.1)).Nodup) :
    ExS pw w (LF w L base os) (rw_ S T d (told ++ fresh) told (.list (rowsV rows), false) (.int ((i : Nat) : Int), false) E0 E0 E0 (.list (heardV rows), false) (.list (rowsV fresh), true)) (k + 4) (exec (sub bK 0) (LF w L base os).env) (Only (rw_ S T d (told ++ (nextR d r).foldl (addR told) fresh) told (.list (rowsV rows), false) (.int ((i : Nat) : Int), false) E0 E0 E0 (.list (heardV rows), false) (.list (rowsV ((nextR d r).foldl (addR told) fresh)), true))) := by
  have f := lawFr (L := L) (os := os) t
  have gN := gl (x := "_law_next") f (by kernel_rfl) (v := .ref 270) (by kernel_rfl)
  have sz : sizeLine = 16777216 := sizeLine_eq
  have hlet := rest_let r.1 hr
  have hnx : ∀ q ∈ nextR d r, q.1 ∈ sufs ∧ rowD q = rowD r + 1 := fun q hq => next_suf hr hq
  refine ex_forM (nextR d r) rowV (fun done ρ' => ρ' = rw_ S T d (told ++ done.foldl (addR told) fresh) told (.list (rowsV rows), false) (.int ((i : Nat) : Int), false) E0 E0 E0 (.list (heardV rows), false) (.list (rowsV (done.foldl (addR told) fresh)), true)) (itj_list (src_fresh (ev_call (by rfl) gN (.cons (ev_sub_list (fr := true) (n := i) (ev_local 16 ok rfl rfl (by intro q; cases q)) (ev_local 5 ok rfl rfl (by intro q; cases q)) (heard_at hi) (by lia)) (.cons (ev_sub_tup (fr := true) (n := 1) (ev_sub_list (fr := true) (n := i) (ev_local 12 ok rfl rfl (by intro q; cases q)) (ev_local 5 ok rfl rfl (by intro q; cases q)) (rows_get hi) (by lia)) (ev_int (i := 1)) rfl (by decide)) (.cons (ev_sub_tup (fr := true) (n := 2) (ev_sub_list (fr := true) (n := i) (ev_local 12 ok rfl rfl (by intro q; cases q)) (ev_local 5 ok rfl rfl (by intro q; cases q)) (rows_get hi) (by lia)) (ev_int (i := 2)) rfl (by decide)) (.cons (ev_local 8 ok rfl rfl (by intro q; cases q)) .nil)))) (c_next (k := k + 2) f.top hlet.1 (by lia) (by lia) (by lia)) (fn_at f.top (o := o270_0 w.params) (by kernel_rfl) rfl)) rfl)) rfl (fun ρ' e => ⟨rfl, e⟩) ?_
  rintro done q rest ρ' hxs rfl
  have hsub : ∀ q ∈ done, q.1 ∈ sufs := fun q hq => (hnx q (by rw [hxs]; exact List.mem_append_left _ hq)).1
  have hq := hnx q (by rw [hxs]; simp)
  obtain ⟨h1, h2⟩ := addRs_fit done h nd hsub
  have e1 : (done ++ [q]).foldl (addR told) fresh = addR told (done.foldl (addR told) fresh) q := by rw [List.foldl_append]; rfl
  refine ⟨_, asg_tup (.cons 13 (acc := none) rfl own_none (.cons 14 (acc := none) rfl own_none (.cons 15 (acc := none) rfl own_none .nil))), ?_⟩
  show ExS pw w (LF w L base os) (rw_ S T d (told ++ done.foldl (addR told) fresh) told (.list (rowsV rows), false) (.int ((i : Nat) : Int), false) (S1 (tx (rowL q))) (S1 (wr q.2.1)) (S1 (wr q.2.2)) (.list (heardV rows), false) (.list (rowsV (done.foldl (addR told) fresh)), true)) (k + 4) _ _
  refine ex_post (new_turn (k := k) t ok h1 h2 hq.1 (by lia)) ?_
  rintro fl ρ' ⟨rfl, rfl⟩
  refine ⟨rw_ S T d (told ++ (done ++ [q]).foldl (addR told) fresh) told (.list (rowsV rows), false) (.int ((i : Nat) : Int), false) E0 E0 E0 (.list (heardV rows), false) (.list (rowsV ((done ++ [q]).foldl (addR told) fresh)), true), ?_, rfl⟩
  rw [e1]
  exact (.same (.same (.same (.same (.same (.same (.same (.same (.same (.same (.same (.same (.same (.any (.any (.any (Weaker.refl _)))))))))))))))))
set_option maxHeartbeats 8000000 in
theorem k_loop (t : Top w base) (ok : FmOk (LF w L base os)) {S : PV × Bool} {T : List Nat} {d : List Sg} {told rows : List Row} (hd : d.length ≤ 5) (hrl : rows.length ≤ 50) (hr : ∀ r ∈ rows, r.1 ∈ rests) (hD : ∀ r ∈ rows, rowD r ≤ 500) (h : ∀ r ∈ told, r.1 ∈ sufs) (nd : (told.map (·.1)).Nodup) :
    ExS pw w (LF w L base os) (rw_ S T d told told (.list (rowsV rows), false) E0 E0 E0 E0 (.list (heardV rows), false) (.list (rowsV []), true)) (k + 4) (exec (sub bW 2) (LF w L base os).env) (Only (rw_ S T d (told ++ roundR d told rows) told (.list (rowsV rows), false) E0 E0 E0 E0 (.list (heardV rows), false) (.list (rowsV (roundR d told rows)), true))) := by
  have f := lawFr (L := L) (os := os) t
  have gR := bi (x := "range") f (by kernel_rfl) (by kernel_rfl) (v := .type "range") (by kernel_rfl)
  have gL := bi (x := "len") f (by kernel_rfl) (by kernel_rfl) (v := .builtin "len") (by kernel_rfl)
  have sz : sizeLine = 16777216 := sizeLine_eq
  have hlenV : (rowsV rows).length = rows.length := List.length_map _
  let fr : Nat → List Row := fun m => ((rows.take m).flatMap (nextR d)).foldl (addR told) []
  have hfr : ∀ m, (∀ q ∈ told ++ fr m, q.1 ∈ sufs) ∧ ((told ++ fr m).map (·.1)).Nodup := fun m => by
    refine addRs_fit _ (by simpa using h) (by simpa using nd) fun q hq => ?_
    obtain ⟨r, h1, h2⟩ := List.mem_flatMap.mp hq
    exact (next_suf (hr r (List.mem_of_mem_take h1)) h2).1
  refine ex_forM (List.range rows.length) (fun i => .at (.int ((i : Nat) : Int))) (fun done ρ' => ρ' = rw_ S T d (told ++ fr done.length) told (.list (rowsV rows), false) E0 E0 E0 E0 (.list (heardV rows), false) (.list (rowsV (fr done.length)), true)) (ItJ.cast (itj_range (n := rows.length) (by rfl) gR (ev_cast (ev_call (fr := true) (by rfl) gL (.cons (ev_local 12 ok rfl rfl (by intro q; cases q)) .nil) (c_len_list (by rw [hlenV]; lia)) (fun a e => nomatch e)) (by rw [hlenV])) (by lia)) (by unfold Wk.intsFrom; simp)) (by show _ = rw_ S T d (told ++ []) told _ _ _ _ _ _ _; rw [List.append_nil]; rfl) (fun ρ' e => ⟨rfl, ?_⟩) ?_
  · rw [e, List.length_range]
    show rw_ S T d (told ++ ((rows.take rows.length).flatMap (nextR d)).foldl (addR told) []) told _ _ _ _ _ _ (.list (rowsV (((rows.take rows.length).flatMap (nextR d)).foldl (addR told) [])), true) = _
    rw [List.take_length]
    rfl
  · rintro done i rest ρ' hxs rfl
    obtain ⟨hi, hin⟩ := range_split hxs
    obtain ⟨r, hri⟩ : ∃ r, rows[i]? = some r := ⟨_, List.getElem?_eq_getElem hin⟩
    have hrm := List.mem_of_getElem? hri
    obtain ⟨h1, h2⟩ := hfr done.length
    refine ⟨_, asg_name 5 (acc := none) rfl own_none, ?_⟩
    show ExS pw w (LF w L base os) (rw_ S T d (told ++ fr done.length) told (.list (rowsV rows), false) (.int ((i : Nat) : Int), false) E0 E0 E0 (.list (heardV rows), false) (.list (rowsV (fr done.length)), true)) (k + 4) _ _
    refine ex_one (ex_post (inner_loop (k := k) t ok hd hri (by lia) (hr r hrm) (hD r hrm) h1 h2) ?_)
    rintro fl ρ' ⟨rfl, rfl⟩
    have e1 : fr (done ++ [i]).length = (nextR d r).foldl (addR told) (fr done.length) := by
      show ((rows.take (done ++ [i]).length).flatMap (nextR d)).foldl (addR told) [] = _
      rw [List.length_append]
      show ((rows.take (done.length + 1)).flatMap (nextR d)).foldl (addR told) [] = _
      rw [← hi, take_snoc hri, List.flatMap_append, List.foldl_append, hi]
      show ([r].flatMap (nextR d)).foldl (addR told) (fr done.length) = _
      rw [List.flatMap_cons, List.flatMap_nil, List.append_nil]
    refine ⟨rw_ S T d (told ++ fr (done ++ [i]).length) told (.list (rowsV rows), false) E0 E0 E0 E0 (.list (heardV rows), false) (.list (rowsV (fr (done ++ [i]).length)), true), ?_, rfl⟩
    rw [e1]
    exact (.same (.same (.same (.same (.same (.any (Weaker.refl _)))))))
end
open Wk Hd1
noncomputable def nlF (x : IV) : List IV := match x with | .tup (.str a :: _) => [.at (.str (a ++ "\n"))] | x => [x]
theorem nlF_eq (rows : List Row) : (rowsV rows).flatMap nlF = strsIV (((rows.map rowL).map (· ++ [10])).map tx) := by
  induction rows with
  | nil => rfl
  | cons r rows ih =>
    show nlF (rowV r) ++ (rowsV rows).flatMap nlF = _
    rw [ih]
    show [IV.at (.str (tx (rowL r) ++ "\n"))] ++ _ = _
    rw [show ("\n" : Str) = tx [10] from by decide +kernel, tx_app]
    rfl
theorem mail_tx (rows : List Row) : Txt.join "" (((rows.map rowL).map (· ++ [10])).map tx) = tx (PS.glue [10] (rows.map rowL)) := by
  rw [join_tx]
  unfold PS.glue
  rw [List.flatMap_def]
theorem row_let {r : Row} (h : r.1 ∈ rests) : ∀ c ∈ rowL r, c = 46 ∨ (97 ≤ c ∧ c ≤ 122) := fun c hc => by
  rcases List.mem_append.mp hc with hc | hc
  · exact .inl (List.eq_of_mem_replicate hc)
  · exact .inr ((rest_let r.1 h).1 c hc)
theorem quote_heard {rows : List Row} (h : ∀ r ∈ rows, r.1 ∈ rests ∧ 1 ≤ rowD r) : strsIV (Txt.split (quoteV (tx (PS.glue [10] (rows.map rowL)))) "\r\n") = heardV rows := by
  rw [PS.quote_pieces]
  · rw [PS.split_crlf]
    · unfold heardV
      rw [List.map_map, List.map_map]
      rfl
    · intro p hp
      obtain ⟨p2, hp2, e2⟩ := List.mem_map.mp hp
      obtain ⟨r, hr, rfl⟩ := List.mem_map.mp hp2
      rw [← e2]
      intro hc
      rcases List.mem_cons.mp hc with e | hc
      · cases e
      · have := row_let (h r hr).1 _ hc
        lia
  · intro p hp
    obtain ⟨r, hr, rfl⟩ := List.mem_map.mp hp
    obtain ⟨h1, h2⟩ := h r hr
    refine ⟨fun hc => ?_, ?_⟩
    · have := row_let h1 _ hc
      lia
    · unfold rowL
      cases hn : rowD r with
      | zero => lia
      | succ n => exact ⟨_, rfl⟩
theorem glue_len : ∀ (l : List (List Nat)) (B : Nat), (∀ p ∈ l, p.length ≤ B) → (PS.glue [10] l).length ≤ l.length * (B + 1)
  | [], B, _ => Nat.zero_le _
  | p :: l, B, h => by
    have h1 := h p (List.mem_cons_self ..)
    have ih := glue_len l B fun q hq => h q (List.mem_cons_of_mem _ hq)
    have e : (PS.glue [10] (p :: l)).length = p.length + 1 + (PS.glue [10] l).length := by unfold PS.glue; rw [List.flatMap_cons, List.length_append, List.length_append]; rfl
    rw [e, List.length_cons, Nat.add_mul]
    lia
theorem glue_let {l : List (List Nat)} (h : ∀ p ∈ l, 13 ∉ p) : 13 ∉ PS.glue [10] l := fun hc => by
  obtain ⟨p, hp, hc⟩ := List.mem_flatMap.mp hc
  rcases List.mem_append.mp hc with hc | hc
  · exact h p hp hc
  · cases List.mem_singleton.mp hc
theorem tx_no13 {l : List Nat} (h : 13 ∉ l) : ∀ i, (tx l).cps.getD i 0 ≠ 13 := fun i e => by
  by_cases hi : i < l.length
  · have e2 : (tx l).cps.getD i 0 = l[i] := by
      show l.toArray.getD i 0 = _
      simp [hi]
    rw [e2] at e
    exact h (e ▸ List.getElem_mem hi)
  · have e2 : (tx l).cps.getD i 0 = 0 := by
      show l.toArray.getD i 0 = _
      simp [hi]
    rw [e2] at e
    cases e
theorem quote_len1 (x : Str) (n : Nat) (h : x.length ≤ n) : (Wk.quoteV x).length ≤ 100 * n := by
  have h1 := crlfV_len x
  have h2 : (Wk.quoteV x).length ≤ 10 * (Wk.crlfV x).length := by
    have := outL_len (P := dotAt (Wk.crlfV x).cps) (x := (Wk.crlfV x).cps) (r := "..") (by decide) (Wk.crlfV x).length
    simpa [Wk.quoteV, Wk.dotsV, patStr, Str.length] using this
  lia
theorem parts_len1 (x y : Str) : (Builtin.Str.partsBetween x (Builtin.Str.occurrences x y 0 x.length (x.length + 1)) y.length).length ≤ x.length + 2 := by
  rw [PyProof.Rows.len_partsBetween]
  have := StrLaws.occ_length_le x y 0 x.length (x.length + 1)
  lia
section
variable {w : World} {L : Addr} {base : Addr → Option Obj} {os : OsState} {k : Nat}
set_option maxHeartbeats 8000000 in
theorem while_body (t : Top w base) (ok : FmOk (LF w L base os)) {S : PV × Bool} {T : List Nat} {d : List Sg} {told rows : List Row} (hd : d.length ≤ 5) (hrl : rows.length ≤ 8) (hr : ∀ r ∈ rows, r.1 ∈ rests ∧ 1 ≤ rowD r) (hD : ∀ r ∈ rows, rowD r ≤ 20) (h : ∀ r ∈ told, r.1 ∈ sufs) (nd : (told.map (·.1)).Nodup) (hfl : (roundR d told rows).length ≤ 8) :
    ExS pw w (LF w L base os) (rw_ S T d told told (.list (rowsV rows), false) E0 E0 E0 E0 E0 E0) (k + 4) (execs bW (LF w L base os).env) (Only (rw_ S T d (told ++ roundR d told rows) (told ++ roundR d told rows) (.list (rowsV (roundR d told rows)), false) E0 E0 E0 E0 E0 E0)) := by
  have f := lawFr (L := L) (os := os) t
  have gQ := gl (x := "quotedata") f (by kernel_rfl) (v := .ref 119) (by kernel_rfl)
  have sz : sizeLine = 16777216 := sizeLine_eq
  have hrow : ∀ r ∈ rows, (rowL r).length ≤ 23 := fun r hr' => by
    rw [rowL_len]
    have := (rest_let r.1 (hr r hr').1).2
    have := hD r hr'
    lia
  have hml : (PS.glue [10] (rows.map rowL)).length ≤ 200 := by
    have := glue_len (rows.map rowL) 23 fun p hp => by
      obtain ⟨r, hr', rfl⟩ := List.mem_map.mp hp
      exact hrow r hr'
    rw [List.length_map] at this
    lia
  have h13 : 13 ∉ PS.glue [10] (rows.map rowL) := glue_let fun p hp => by
    obtain ⟨r, hr', rfl⟩ := List.mem_map.mp hp
    intro hc
    have := row_let (hr r hr').1 _ hc
    lia
  have hql := quote_len1 (tx (PS.glue [10] (rows.map rowL))) 200 (by rw [tx_len]; exact hml)
  have hpl := parts_len1 (Wk.quoteV (tx (PS.glue [10] (rows.map rowL)))) "\r\n"
  have hlen := told_len h nd
  refine ex_then (ρ₁ := rw_ S T d told told (.list (rowsV rows), false) E0 E0 E0 E0 (.list (heardV rows), false) E0) (ex_assign_cast (own := false) 16 (acc := none) rfl own_none (ev_meth (fr := true) (by rfl) (by rfl) (by rfl) (by decide) (ev_call (fr := true) (by rfl) gQ (.cons (ev_cast (ev_meth (by rfl) (by rfl) (by rfl) (by decide) ev_str (.cons (ev_comp_eq [] [("row", .loc), ("far", .loc), ("near", .loc)] (rowsV rows) nlF ok (nlF_eq rows) ⟨by rfl, ⟨by kernel_rfl, by kernel_rfl, by kernel_rfl, trivial⟩, by kernel_rfl, by decide, by decide +kernel, by intro _; rfl, rfl, itj_list (src_slot 12 rfl rfl), ?_, ?_⟩) .nil) .str m_join (c_join (joinOk_tx (B := 24) ?_ ?_))) (congrArg PV.str (mail_tx rows))) .nil) (c_quotedata (k := k + 3) t (by rw [tx_len]; lia) (tx_no13 h13)) (fn_at t (o := o119_0 w.params) (by kernel_rfl) rfl)) (.cons ev_str .nil) .str m_split (c_split (by decide) (by rw [sz]; lia) (by rw [sz]; lia))) rfl (congrArg PV.list (quote_heard hr)) (by rfl)) ?_
  · intro C D base2 hbase2 okc x hx
    obtain ⟨r, hr', rfl⟩ := List.mem_map.mp hx
    exact ⟨[(.str (tx (rowL r)), false), (.str (wr r.2.1), false), (.str (wr r.2.2), false)], true, asg_tup (.cons 0 (acc := none) rfl own_none (.cons 1 (acc := none) rfl own_none (.cons 2 (acc := none) rfl own_none .nil))), .inl ⟨rfl, rfl⟩, ⟨.at (.str (tx (rowL r) ++ "\n")), true, rfl, ev_bin (fr := true) (ev_local 0 okc rfl rfl (by intro q; cases q)) ev_str (op_add_str (by have := hrow r hr'; rw [tx_len, sz]; show _ + 1 ≤ _; lia))⟩, .any (.any (.any .nil))⟩
  · rw [nlF_eq, List.length_map, List.length_map, List.length_map, List.length_map, sz]; lia
  · intro x hx
    obtain ⟨p, hp, rfl⟩ := List.mem_map.mp hx
    obtain ⟨r, hr', rfl⟩ := List.mem_map.mp hp
    have := hrow r hr'
    simp
    lia
  · rw [List.length_map, List.length_map]; lia
  refine ex_then (ρ₁ := rw_ S T d told told (.list (rowsV rows), false) E0 E0 E0 E0 (.list (heardV rows), false) (.list (rowsV []), true)) (ex_assign (own := true) 17 (acc := none) rfl own_none (ev_list (by rfl) .nil (Nat.zero_le _)) rfl (by rfl)) ?_
  refine ex_then (k_loop (k := k) t ok hd (by lia) (fun r hr' => (hr r hr').1) (fun r hr' => by have := hD r hr'; lia) h nd) ?_
  refine ex_then (ρ₁ := rw_ S T d (told ++ roundR d told rows) (told ++ roundR d told rows) (.list (rowsV rows), false) E0 E0 E0 E0 (.list (heardV rows), false) (.list (rowsV (roundR d told rows)), true)) (ex_mono (ex_extend 11 rfl rfl (ev_local 17 ok rfl rfl (by intro q; cases q)) (by rw [List.length_map]; lia) (by rw [List.length_map]; lia) (by rfl) (by rfl) (by rfl)) ?_) ?_
  · rintro fl ρ' ⟨rfl, rfl⟩
    refine ⟨rfl, ?_⟩
    show _ = rw_ S T d (told ++ roundR d told rows) (told ++ roundR d told rows) _ E0 E0 E0 E0 _ _
    unfold rw_ rowsV
    rw [List.map_append (l₁ := told)]
    rfl
  refine ex_weak (ρ₁ := rw_ S T d (told ++ roundR d told rows) (told ++ roundR d told rows) (.list (rowsV rows), false) E0 E0 E0 E0 (.list (heardV rows), false) (.list (rowsV (roundR d told rows)), false)) (.same (.same (.same (.same (.same (.same (.same (.same (.same (.same (.same (.same (.same (.same (.same (.same (.same (.dis (Weaker.refl _))))))))))))))))))) (ex_one ?_)
  refine ex_post (ex_alias 12 17 rfl rfl rfl (by intro q; cases q)) ?_
  rintro fl ρ' ⟨rfl, rfl⟩
  exact ⟨_, .same (.same (.same (.same (.same (.same (.same (.same (.same (.same (.same (.same (.same (.same (.same (.same (.any (.any (Weaker.refl _)))))))))))))))))), rfl, rfl⟩
end
open Wk Hd1
noncomputable def bfs (d : List Sg) : Nat → List Row × List Row
  | 0 => ([], d.map row0)
  | n + 1 => ((bfs d n).1 ++ roundR d (bfs d n).1 (bfs d n).2, roundR d (bfs d n).1 (bfs d n).2)
def Go (d : List Sg) (n : Nat) : Prop := (bfs d n).2 ≠ [] ∧ ∀ r ∈ (bfs d n).1, r.1 ≠ []
theorem addR_mem {told : List Row} : ∀ (l : List Row) {fresh : List Row} {q : Row}, q ∈ l.foldl (addR told) fresh → q ∈ fresh ∨ q ∈ l
  | [], fresh, q, h => .inl h
  | x :: l, fresh, q, h => by
    rcases addR_mem l h with h | h
    · unfold addR at h
      split at h
      · exact .inl h
      · rcases List.mem_append.mp h with h | h
        · exact .inl h
        · rw [List.mem_singleton.mp h]; exact .inr (List.mem_cons_self ..)
    · exact .inr (List.mem_cons_of_mem _ h)
theorem addR_keep {told : List Row} : ∀ (l : List Row) {fresh : List Row} {q : Row}, q ∈ fresh → q ∈ l.foldl (addR told) fresh
  | [], fresh, q, h => h
  | x :: l, fresh, q, h => addR_keep l (by
      unfold addR
      split
      · exact h
      · exact List.mem_append_left _ h)
theorem addR_cover {told : List Row} : ∀ (l : List Row) {fresh : List Row} {q : Row}, q ∈ l → ∃ q' ∈ told ++ l.foldl (addR told) fresh, q'.1 = q.1
  | x :: l, fresh, q, h => by
    rcases List.mem_cons.mp h with rfl | h
    · show ∃ q' ∈ told ++ l.foldl (addR told) (addR told fresh q), _
      unfold addR
      split
      · rename_i c
        obtain ⟨q', h1, h2⟩ := List.any_eq_true.mp c
        refine ⟨q', ?_, by simpa using h2⟩
        rcases List.mem_append.mp h1 with h1 | h1
        · exact List.mem_append_left _ h1
        · exact List.mem_append_right _ (addR_keep l h1)
      · exact ⟨q, List.mem_append_right _ (addR_keep l (by simp)), rfl⟩
    · exact addR_cover l h
theorem round_mem {d : List Sg} {told rows : List Row} {q : Row} (h : q ∈ roundR d told rows) : ∃ r ∈ rows, q ∈ nextR d r := by
  rcases addR_mem _ h with h | h
  · cases h
  · exact List.mem_flatMap.mp h
structure BInv (d : List Sg) (n : Nat) : Prop where
  told : ∀ r ∈ (bfs d n).1, r.1 ∈ sufs
  nd : ((bfs d n).1.map (·.1)).Nodup
  rows : ∀ r ∈ (bfs d n).2, r.1 ∈ rests ∨ r.1 = []
  dots : ∀ r ∈ (bfs d n).2, rowD r = n + 1
  tdots : ∀ r ∈ (bfs d n).1, rowD r ≤ n + 1
  len1 : n ≤ (bfs d n).1.length + 1
  len2 : (bfs d n).2 ≠ [] → n ≤ (bfs d n).1.length
  sub : n ≠ 0 → ∀ r ∈ (bfs d n).2, r ∈ (bfs d n).1
theorem BInv.rests {d : List Sg} {n : Nat} (I : BInv d n) (g : Go d n) : ∀ r ∈ (bfs d n).2, r.1 ∈ L1.rests := fun r hr => by
  rcases I.rows r hr with h | h
  · exact h
  · cases n with
    | zero =>
      obtain ⟨s, _, rfl⟩ := List.mem_map.mp hr
      exact rest_wd s
    | succ n => exact absurd h (g.2 r (I.sub (by lia) r hr))
theorem binv_zero (d : List Sg) : BInv d 0 := by
  refine ⟨fun r hr => (nomatch hr), List.nodup_nil, fun r hr => ?_, fun r hr => ?_, fun r hr => (nomatch hr), Nat.zero_le _, fun _ => Nat.zero_le _, fun h => absurd rfl h⟩
  · obtain ⟨s, _, rfl⟩ := List.mem_map.mp hr
    exact .inl (rest_wd s)
  · obtain ⟨s, _, rfl⟩ := List.mem_map.mp hr
    rfl
theorem BInv.step {d : List Sg} {n : Nat} (I : BInv d n) (g : Go d n) : BInv d (n + 1) := by
  have hr := I.rests g
  have hq : ∀ q ∈ (bfs d (n + 1)).2, q.1 ∈ sufs ∧ rowD q = n + 2 := fun q h => by
    obtain ⟨r, h1, h2⟩ := round_mem h
    have := next_suf (hr r h1) h2
    exact ⟨this.1, by rw [this.2, I.dots r h1]⟩
  have hf := addRs_fit (told := (bfs d n).1) ((bfs d n).2.flatMap (nextR d)) (fresh := []) (by simpa using I.told) (by simpa using I.nd) fun q h => by
    obtain ⟨r, h1, h2⟩ := List.mem_flatMap.mp h
    exact (next_suf (hr r h1) h2).1
  have hl := I.len2 g.1
  have e1 : (bfs d (n + 1)).1 = (bfs d n).1 ++ (bfs d (n + 1)).2 := rfl
  refine ⟨hf.1, hf.2, fun r h => ?_, fun r h => (hq r h).2, fun r h => ?_, ?_, fun h => ?_, fun _ r h => by rw [e1]; exact List.mem_append_right _ h⟩
  · by_cases hz : r.1 = []
    · exact .inr hz
    · exact .inl (suf_rest r.1 (hq r h).1 hz)
  · rw [e1] at h
    rcases List.mem_append.mp h with h | h
    · have := I.tdots r h; lia
    · rw [(hq r h).2]; exact Nat.le_refl _
  · rw [e1, List.length_append]; lia
  · rw [e1, List.length_append]
    have := List.length_pos_iff.mpr h
    lia
theorem binv {d : List Sg} : ∀ {n : Nat}, (∀ i < n, Go d i) → BInv d n
  | 0, _ => binv_zero d
  | n + 1, h => (binv fun i hi => h i (by lia)).step (h n (by lia))
theorem BInv.le {d : List Sg} {n : Nat} (I : BInv d n) : n ≤ 9 := by
  have := told_len I.told I.nd
  have := I.len1
  lia
section
variable {w : World} {L : Addr} {base : Addr → Option Obj} {os : OsState} {k : Nat}
noncomputable abbrev rB (S : PV × Bool) (T : List Nat) (d : List Sg) (n : Nat) : Rho := rw_ S T d (bfs d n).1 (bfs d n).1 (.list (rowsV (bfs d n).2), false) E0 E0 E0 E0 E0 E0
theorem any_nil (B : List Row) : (B.any fun r => r.1 == []) = true ↔ ¬ ∀ r ∈ B, r.1 ≠ [] := by
  rw [List.any_eq_true]
  constructor
  · rintro ⟨r, h1, h2⟩ h
    exact h r h1 (by simpa using h2)
  · intro h
    simp only [Classical.not_forall] at h
    obtain ⟨r, h1, h2⟩ := h
    exact ⟨r, h1, by simpa using h2⟩
open Classical in
set_option maxHeartbeats 8000000 in
theorem seg_rounds (t : Top w base) (ok : FmOk (LF w L base os)) {S : PV × Bool} {T : List Nat} {d : List Sg} (hd : d.length ≤ 5) :
    ExS pw w (LF w L base os) (rB S T d 0) (k + 4) (exec (st 11) (LF w L base os).env) (fun fl ρ' => fl = .next ∧ ∃ n, (∀ i < n, Go d i) ∧ ¬ Go d n ∧ ρ' = rB S T d n) := by
  have sz : sizeLine = 16777216 := sizeLine_eq
  refine ex_while (fun m ρ' => ∃ n, m = 20 - n ∧ (∀ i < n, Go d i) ∧ ρ' = rB S T d n) 20 ⟨0, rfl, fun i h => by lia, rfl⟩ ?_
  rintro m ρ' ⟨n, rfl, hgo, rfl⟩
  have I := binv hgo
  have hlen := told_len I.told I.nd
  have hn := I.le
  refine ⟨!(rowsV (bfs d n).2).isEmpty && ((bookAt (bfs d n).1 []).isNone && true), eb_op (.andCons (eb_cmp (fr := true) (by rfl) (ev_local 12 ok rfl rfl (by intro q; cases q)) (ev_list (by rfl) .nil (Nat.zero_le _)) op_ne_nil) fun _ => .andCons (eb_cmp (fr := true) (by rfl) (ev_get (x := []) (k := k + 2) t ok rfl I.told (by decide) (ev_cast ev_str rfl) (by rfl) (by rfl) (by rfl)) ev_none (op_is_none (by intro b e; rcases bookAt_kind (bfs d n).1 [] with h | ⟨y, h⟩ <;> rw [h] at e <;> cases e) (by intro u e; rcases bookAt_kind (bfs d n).1 [] with h | ⟨y, h⟩ <;> rw [h] at e <;> cases e))) fun _ => .andNil), ?_⟩
  have hb : (!(rowsV (bfs d n).2).isEmpty && ((bookAt (bfs d n).1 []).isNone && true)) = decide (Go d n) := by
    rw [Bool.eq_iff_iff, decide_eq_true_eq, Bool.and_true, Bool.and_eq_true, bookAt_none]
    unfold Go
    have h1 : (!(rowsV (bfs d n).2).isEmpty) = true ↔ (bfs d n).2 ≠ [] := by
      cases (bfs d n).2 <;> simp
    have h2 : (!(bfs d n).1.any fun r => r.1 == []) = true ↔ ∀ r ∈ (bfs d n).1, r.1 ≠ [] := by
      have := any_nil (bfs d n).1
      cases hq : (bfs d n).1.any fun r => r.1 == [] with
      | true => rw [hq] at this; simp only [true_iff] at this; simp only [Bool.not_true, Bool.false_eq_true, false_iff]; exact this
      | false => rw [hq] at this; simp only [Bool.false_eq_true, false_iff, Classical.not_not] at this; simp only [Bool.not_false, true_iff]; exact this
    rw [h1, h2]
  rw [hb]
  by_cases g : Go d n
  · rw [if_pos (decide_eq_true g)]
    have hgo2 : ∀ i < n + 1, Go d i := fun i hi => by
      by_cases e : i = n
      · rw [e]; exact g
      · exact hgo i (by lia)
    have I2 := binv hgo2
    have hlen2 := told_len I2.told I2.nd
    have e1 : (bfs d (n + 1)).1 = (bfs d n).1 ++ (bfs d (n + 1)).2 := rfl
    have hfl : (bfs d (n + 1)).2.length ≤ 8 := by rw [e1, List.length_append] at hlen2; lia
    have hrl : (bfs d n).2.length ≤ 8 := by
      cases n with
      | zero => show (d.map row0).length ≤ 8; rw [List.length_map]; lia
      | succ n =>
        have e2 : (bfs d (n + 1)).1 = (bfs d n).1 ++ (bfs d (n + 1)).2 := rfl
        rw [e2, List.length_append] at hlen
        lia
    refine ex_mono (while_body (k := k) t ok hd hrl (fun r hr => ⟨I.rests g r hr, by rw [I.dots r hr]; lia⟩) (fun r hr => by rw [I.dots r hr]; lia) I.told I.nd hfl) ?_
    rintro fl ρ' ⟨rfl, rfl⟩
    exact ⟨20 - (n + 1), by lia, n + 1, rfl, hgo2, rfl⟩
  · rw [if_neg (by simpa using g)]
    exact ⟨rfl, n, hgo, g, rfl⟩
end
open Wk Hd1
def map0 (x : IV) : List IV := match x with | .at (.str y) => [.tup [.str ("." ++ tx (mapV (y.cps.getD 0 0)).cps.toList), .str y, .str ""]] | x => [x]
theorem map0_at (s : Sg) : map0 (.at (.str ⟨#[sgN s]⟩)) = [rowV (row0 s)] := by
  show [IV.tup [.str ("." ++ tx (mapV (sgN s)).cps.toList), .str ⟨#[sgN s]⟩, .str ""]] = _
  rw [wd_map s, show ("." : Str) = tx [46] from by decide +kernel]
  show [IV.tup [.str (tx [46] ++ tx (tx (wd s)).cps.toList), .str ⟨#[sgN s]⟩, .str ""]] = _
  rw [show (tx (wd s)).cps.toList = wd s by simp, tx_app]
  rfl
theorem map0_eq (d : List Sg) : (sgsV d).flatMap map0 = rowsV (d.map row0) := by
  induction d with
  | nil => rfl
  | cons s d ih =>
    show map0 (.at (.str ⟨#[sgN s]⟩)) ++ (sgsV d).flatMap map0 = _
    rw [ih, map0_at]; rfl
theorem pool_rows : rowsIV poolV = pairIV meantV := by unfold rowsIV pairIV meantV; rw [List.map_map]; rfl
theorem meant_nd : (meantV.map (·.1)).Nodup := by
  have h : (poolV.map (·.1)).Nodup := by
    have : poolV.map (·.1) = signN.map fun c => (⟨#[c]⟩ : Str) := by decide +kernel
    rw [this]
    have h : signN.Nodup := by decide
    rw [List.nodup_iff_pairwise_ne] at h ⊢
    exact List.pairwise_map.mpr (h.imp fun hab e => hab (str1_inj e))
  have e : meantV.map (·.1) = poolV.map (·.1) := by unfold meantV; rw [List.map_map]; rfl
  rw [e]; exact h
section
variable {w : World} {L : Addr} {base : Addr → Option Obj} {os : OsState} {k : Nat} {P : Fl → Rho → Prop}
set_option maxHeartbeats 8000000 in
theorem seg_rows (t : Top w base) (ok : FmOk (LF w L base os)) {S : PV × Bool} {T : List Nat} {d : List Sg} (hd : d.length ≤ 5) :
    ExS pw w (LF w L base os) (rw_ S T d [] [] E0 E0 E0 E0 E0 E0 E0) (k + 4) (exec (st 10) (LF w L base os).env) (Only (rB S T d 0)) := by
  have f := lawFr (L := L) (os := os) t
  have sz : sizeLine = 16777216 := sizeLine_eq
  refine ex_assign_comp_eq (own := false) [] [("sign", .loc)] (sgsV d) map0 12 (acc := none) rfl own_none (by rfl) (map0_eq d) ⟨by rfl, ⟨by kernel_rfl, trivial⟩, by kernel_rfl, by decide, by decide +kernel, by intro _; rfl, rfl, itj_list (src_slot 8 rfl rfl), ?_, ?_⟩
  · intro C D base2 hbase2 okc x hx
    obtain ⟨s, _, rfl⟩ := List.mem_map.mp hx
    have fc := fr2_of f hbase2 okc
    have gM := gl (x := "map_table_b3") fc (by kernel_rfl) (v := .ref 102) (by kernel_rfl)
    refine ⟨[(.str ⟨#[sgN s]⟩, false)], true, asg_name 0 (acc := none) rfl own_none, .inl ⟨rfl, rfl⟩, ⟨rowV (row0 s), true, map0_at s, ?_⟩, .any .nil⟩
    refine ev_tuple (fr := true) (by rfl) (.cons (ev_cast (ev_bin (fr := true) ev_str (ev_cast (ev_call (by rfl) gM (.cons (ev_local 0 okc rfl rfl (by intro q; cases q)) .nil) (map_table (k := k + 3) fc.top (wd_fit s)) (fn_at fc.top (o := o102_0 w.params) (by kernel_rfl) rfl)) (congrArg PV.str (wd_map s))) (op_add_str (by have := wd_len s; show 1 + (tx (wd s)).length ≤ _; rw [tx_len, sz]; lia))) (congrArg PV.str ?_)) (.cons (ev_local 0 okc rfl rfl (by intro q; cases q)) (.cons ev_str .nil))) (by rw [sz]; show (3 : Nat) ≤ _; decide)
    rw [show ("." : Str) = tx [46] from by decide +kernel, tx_app]
    rfl
  · rw [map0_eq, List.length_map, List.length_map, sz]; lia
set_option maxHeartbeats 8000000 in
theorem law_top (t : Top w base) (ok : FmOk (LF w L base os)) {ns : List Int} (hns : ns.length ≤ 63)
    (hrest : ∀ T d n, d.Nodup → d.length ≤ 5 → (∀ i < n, Go d i) → ¬ Go d n → ExS pw w (LF w L base os) (rB (.list (intsIV ns), false) T d n) (k + 5) (execs ((fBody (bd 20)).drop 12) (LF w L base os).env) P) :
    ExS pw w (LF w L base os) (rh (script := (.list (intsIV ns), false))) (k + 5) (execs (fBody (bd 20)) (LF w L base os).env) P := by
  have f := lawFr (L := L) (os := os) t
  have gP := gl (x := "_law_pool") f (by kernel_rfl) (v := .ref 263) (by kernel_rfl)
  have gD := bi (x := "dict") f (by kernel_rfl) (by kernel_rfl) (v := .type "dict") (by kernel_rfl)
  have gH := gl (x := "Headers") f (by kernel_rfl) (v := .ref 252) (by kernel_rfl)
  refine ex_then (ex_assign (own := false) 1 (acc := none) rfl own_none (ev_call (by rfl) gP .nil (c_pool (k := k + 4) t) (fn_at t (o := o263_0 w.params) (by kernel_rfl) rfl)) rfl (by rfl)) ?_
  refine ex_then (ex_assign (own := false) 2 rfl ownM (ev_call (by rfl) gD (.cons (ev_cast (ev_local 1 ok rfl rfl (by intro q; cases q)) (congrArg PV.list pool_rows)) .nil) (c_dict_pairs meant_nd (by rw [sizeLine_eq]; decide +kernel) ⟨o1_0 w.params, t.1 _ _ (by kernel_rfl)⟩) (fun a e => nomatch e)) rfl (by rfl)) ?_
  refine ex_then (ex_assign_iv (own := false) 3 (acc := none) rfl own_none ev_str (by rfl)) ?_
  refine ex_then (ex_assign (own := true) 4 rfl ownD (ev_list (by rfl) .nil (Nat.zero_le _)) rfl (by rfl)) ?_
  show ExS pw w (LF w L base os) (rd (.list (intsIV ns), false) [] [] E0 E0 E0) (k + 5) _ P
  refine ex_cons (seg_drawn (k := k + 2) t ok hns) (fun ρ' h => ?_) (fun fl ρ' hne h => absurd h.1 hne)
  obtain ⟨_, T, d, hd, rfl⟩ := h
  refine ex_weak (ρ₁ := rs (.list (intsIV ns), false) T d E0 E0) (.same (.same (.same (.same (.dis (Weaker.refl _)))))) ?_
  refine ex_then (ex_assign (own := true) 8 (acc := none) rfl own_none (ev_list (by rfl) .nil (Nat.zero_le _)) rfl (by rfl)) ?_
  have hTl := hd.len
  refine ex_then (seg_stock (k := k + 2) t ok (by lia) hd.eq) ?_
  refine ex_weak (ρ₁ := rs (.list (intsIV ns), false) T d (.list (sgsV d), false) E0) (.same (.same (.same (.same (.same (.same (.same (.same (.dis (Weaker.refl _)))))))))) ?_
  have hne := op_ne_strs (prog := pw) (w := w) (k := k + 5) (l := d.map fun s => (⟨#[sgN s]⟩ : Str)) (l' := d.map fun s => (⟨#[sgN s]⟩ : Str))
  rw [← sgs_strs, show ((d.map fun s => (⟨#[sgN s]⟩ : Str)) != d.map fun s => (⟨#[sgN s]⟩ : Str)) = false by simp] at hne
  refine ex_then (ρ₁ := rs (.list (intsIV ns), false) T d (.list (sgsV d), false) E0) (ex_if (b := false) (eb_cmp (by rfl) (ev_local 8 ok rfl rfl (by intro q; cases q)) (ev_cell 4 ok rfl rfl (by intro q; cases q)) hne) (ex_nil ⟨rfl, rfl⟩)) ?_
  refine ex_then (ρ₁ := rh (script := (.list (intsIV ns), false)) (pool := (.list (rowsIV poolV), false)) (meant := (.dict meantV, false)) (text := S1 (tx T)) (drawn := (.list (sgsV d), false)) (stock := (.list (sgsV d), false)) (book := (bookV [], true))) (ex_assign (own := true) 10 (acc := none) rfl own_none (ev_new0 (k := k + 4) gH (clsB t) (m_init t) (c_init0 (k := k + 2) t)) rfl (by rfl)) ?_
  refine ex_then (ex_assign (own := true) 11 (acc := none) rfl own_none (ev_list (by rfl) .nil (Nat.zero_le _)) rfl (by rfl)) ?_
  refine ex_then (seg_rows (k := k + 1) t ok hd.dlen) ?_
  refine ex_cons (seg_rounds (k := k + 1) t ok hd.dlen) (fun ρ' h => ?_) (fun fl ρ' hne h => absurd h.1 hne)
  obtain ⟨_, n, h1, h2, rfl⟩ := h
  exact hrest T d n hd.nd hd.dlen h1 h2
end
open Wk Hd1
theorem mul_dots1 : ∀ q : Fin 20, Txt.mul "." ((q.val : Nat) : Int) = tx (List.replicate q.val 46) := by decide +kernel
theorem mul_ok1 : ∀ q : Fin 20, MulOk "." ((q.val : Nat) : Int) := by unfold MulOk; decide +kernel
theorem wr_app (a b : List Sg) : (wr a ++ wr b : Str) = wr (a ++ b) := by unfold wr; rw [tx_app, List.map_append]
theorem mn_len (l : List Sg) : (mn l).length ≤ 3 * l.length := by
  unfold mn
  induction l with
  | nil => exact Nat.le_refl _
  | cons s l ih => have := wd_len s; rw [List.flatMap_cons, List.length_append, List.length_cons]; lia
noncomputable def itF (x : IV) : List IV := match x with | .tup [.str a, .str b, .str c] => [.tup [.str (Txt.lstripChars a "."), .str (b ++ " " ++ c)]] | x => [x]
theorem itF_at {r : Row} (h : r.1 ∈ sufs) : itF (rowV r) = [.tup [.str (bookR r).1, .str (bookR r).2]] := by
  show [IV.tup [.str (Txt.lstripChars (tx (rowL r)) "."), .str (wr r.2.1 ++ " " ++ wr r.2.2)]] = _
  rw [strip_row r (suf_let r.1 h).1]
  rfl
theorem itF_eq {B : List Row} (h : ∀ r ∈ B, r.1 ∈ sufs) : (rowsV B).flatMap itF = (B.map bookR).map fun p => IV.tup [.str p.1, .str p.2] := by
  induction B with
  | nil => rfl
  | cons r B ih =>
    show itF (rowV r) ++ (rowsV B).flatMap itF = _
    rw [ih fun q hq => h q (List.mem_cons_of_mem _ hq), itF_at (h r (List.mem_cons_self ..))]
    rfl
section
variable {w : World} {L : Addr} {base : Addr → Option Obj} {os : OsState} {k : Nat} {P : Fl → Rho → Prop}
noncomputable abbrev rf (S : PV × Bool) (T : List Nat) (d : List Sg) (B : List Row) (names : PV × Bool := E0) (row far near rest best seen layer size writing due ahead letters shares : PV × Bool := E0) : Rho := rh (script := S) (pool := (.list (rowsIV poolV), false)) (meant := (.dict meantV, false)) (text := S1 (tx T)) (drawn := (.list (sgsV d), false)) (stock := (.list (sgsV d), false)) (book := (bookV B, false)) (told := (.list (rowsV B), false)) (row := row) (far := far) (near := near) (names := names) (rest := rest) (best := best) (seen := seen) (layer := layer) (size := size) (writing := writing) (due := due) (ahead := ahead) (letters := letters) (shares := shares)
set_option maxHeartbeats 8000000 in
theorem seg_items (t : Top w base) (ok : FmOk (LF w L base os)) {S : PV × Bool} {T : List Nat} {d : List Sg} {B : List Row} (hB : ∀ r ∈ B, r.1 ∈ sufs) (hl : B.length ≤ 8) (hD : ∀ r ∈ B, rowD r ≤ 15) :
    ExS pw w (LF w L base os) (rf S T d B) (k + 4) (exec (st 12) (LF w L base os).env) (Only (rf S T d B)) := by
  have sz : sizeLine = 16777216 := sizeLine_eq
  refine ex_if (b := false) (eb_cmp (by rfl) (ev_inst (by rfl) (by rfl) (by rfl) (by simp) (clsB t) (m_items t) (ev_local 10 ok rfl rfl (by intro q; cases q)) .nil (c_items (k := k + 3) t (l := B.map bookR) (by rw [List.length_map]; lia))) (ev_comp_eq [] [("row", .loc), ("far", .loc), ("near", .loc)] (rowsV B) itF ok (itF_eq hB) ⟨by rfl, ⟨by kernel_rfl, by kernel_rfl, by kernel_rfl, trivial⟩, by kernel_rfl, by decide, by decide +kernel, by intro _; rfl, rfl, itj_list (src_slot 11 rfl rfl), ?_, ?_⟩) op_ne_rows) (ex_nil ⟨rfl, rfl⟩)
  · intro C D base2 hbase2 okc x hx
    obtain ⟨r, hr, rfl⟩ := List.mem_map.mp hx
    have hlet := suf_let r.1 (hB r hr)
    have hD1 : r.2.1.length + r.2.2.length ≤ 15 := hD r hr
    have hrl := rowL_len r
    have hrd : rowD r ≤ 15 := hD r hr
    refine ⟨[(.str (tx (rowL r)), false), (.str (wr r.2.1), false), (.str (wr r.2.2), false)], true, asg_tup (.cons 0 (acc := none) rfl own_none (.cons 1 (acc := none) rfl own_none (.cons 2 (acc := none) rfl own_none .nil))), .inl ⟨rfl, rfl⟩, ⟨.tup [.str (bookR r).1, .str (bookR r).2], true, itF_at (hB r hr), ?_⟩, .any (.any (.any .nil))⟩
    refine ev_tuple (fr := true) (by rfl) (.cons (ev_cast (ev_meth (by rfl) (by rfl) (by rfl) (by simp) (ev_local 0 okc rfl rfl (by intro q; cases q)) (.cons ev_str .nil) .str m_lstrip (c_lstrip (by rw [tx_len, sz]; lia))) (congrArg PV.str (strip_row r hlet.1))) (.cons (ev_bin (fr := true) (ev_bin (fr := true) (ev_local 1 okc rfl rfl (by intro q; cases q)) ev_str (op_add_str (by rw [wr_len, sz]; show _ + 1 ≤ _; lia))) (ev_local 2 okc rfl rfl (by intro q; cases q)) (op_add_str (by rw [show (wr r.2.1 ++ (" " : Str)).length = r.2.1.length + 1 from by unfold wr; rw [show (" " : Str) = tx [32] from by decide +kernel, tx_app, tx_len]; simp, wr_len, sz]; lia))) .nil)) (by rw [sz]; show (2 : Nat) ≤ _; decide)
  · rw [itF_eq hB, List.length_map, List.length_map, sz]; lia
noncomputable def nameV (B : List Row) : List IV := strsIV (B.map fun r => tx r.1)
set_option maxHeartbeats 8000000 in
theorem seg_names (t : Top w base) (ok : FmOk (LF w L base os)) {S : PV × Bool} {T : List Nat} {d : List Sg} {B : List Row} (hB : ∀ r ∈ B, r.1 ∈ sufs) (hl : B.length ≤ 8) (hD : ∀ r ∈ B, rowD r ≤ 15) (hm : ∀ r ∈ B, mn r.2.1 = mn r.2.2 ++ r.1) :
    ExS pw w (LF w L base os) (rf S T d B (.list [], true)) (k + 4) (exec (st 14) (LF w L base os).env) (Only (rf S T d B (.list (nameV B), true))) := by
  have f := lawFr (L := L) (os := os) t
  have gL := bi (x := "len") f (by kernel_rfl) (by kernel_rfl) (v := .builtin "len") (by kernel_rfl)
  have gM := gl (x := "_law_meaning") f (by kernel_rfl) (v := .ref 275) (by kernel_rfl)
  have sz : sizeLine = 16777216 := sizeLine_eq
  refine ex_forM B rowV (fun done ρ' => ρ' = rf S T d B (.list (nameV done), true)) (itj_list (src_slot 11 rfl rfl)) rfl (fun ρ' e => ⟨rfl, e⟩) ?_
  rintro done r rest ρ' hxs rfl
  have hrB : r ∈ B := by rw [hxs]; simp
  have hlet := suf_let r.1 (hB r hrB)
  have hD0 : rowD r ≤ 15 := hD r hrB
  have hD1 : r.2.1.length + r.2.2.length ≤ 15 := hD0
  have hrl := rowL_len r
  have hml1 := mn_len r.2.1
  have hml2 := mn_len r.2.2
  have hmm := hm r hrB
  have hdl : done.length ≤ 8 := by have := congrArg List.length hxs; simp at this; lia
  refine ⟨_, asg_tup (.cons 13 (acc := none) rfl own_none (.cons 14 (acc := none) rfl own_none (.cons 15 (acc := none) rfl own_none .nil))), ?_⟩
  show ExS pw w (LF w L base os) (rf S T d B (.list (nameV done), true) (S1 (tx (rowL r))) (S1 (wr r.2.1)) (S1 (wr r.2.2))) (k + 4) _ _
  refine ex_then (ρ₁ := rf S T d B (.list (nameV done), true) (S1 (tx (rowL r))) (S1 (wr r.2.1)) (S1 (wr r.2.2)) (S1 (tx r.1))) (ex_assign_cast (q := .str (tx r.1)) (fr := true) (own := false) 19 (acc := none) rfl own_none (ev_meth (by rfl) (by rfl) (by rfl) (by simp) (ev_local 13 ok rfl rfl (by intro q; cases q)) (.cons ev_str .nil) .str m_lstrip (c_lstrip (by rw [tx_len, sz]; lia))) rfl (congrArg PV.str (strip_row r hlet.1)) (by rfl)) ?_
  refine ex_then (ρ₁ := rf S T d B (.list (nameV (done ++ [r])), true) (S1 (tx (rowL r))) (S1 (wr r.2.1)) (S1 (wr r.2.2)) (S1 (tx r.1))) (ex_mono (ex_append 18 (y := .at (.str (tx r.1))) rfl rfl (ev_local 19 ok rfl rfl (by intro q; cases q)) (by show (strsIV _).length ≤ _; rw [List.length_map, List.length_map, sz]; lia) (by rfl) (by rfl) (by rfl)) ?_) ?_
  · rintro fl ρ' ⟨rfl, rfl⟩
    refine ⟨rfl, ?_⟩
    have e : nameV (done ++ [r]) = nameV done ++ [.at (.str (tx r.1))] := by unfold nameV strsIV; rw [List.map_append, List.map_append]; rfl
    rw [e]
    rfl
  have hne : (tx (rowL r) != tx (rowL r)) = false := bne_self_eq_false _
  refine ex_then (ρ₁ := rf S T d B (.list (nameV (done ++ [r])), true) (S1 (tx (rowL r))) (S1 (wr r.2.1)) (S1 (wr r.2.2)) (S1 (tx r.1))) (ex_if (b := false) (eb_cmp (fr := true) (by rfl) (ev_local 13 ok rfl rfl (by intro q; cases q)) (ev_cast (q := .str (tx (rowL r))) (ev_bin (fr := true) (ev_bin (fr := true) ev_str (ev_cast (q := .int ((rowD r : Nat) : Int)) (ev_call (fr := true) (by rfl) gL (.cons (ev_cast (ev_bin (fr := true) (ev_local 14 ok rfl rfl (by intro q; cases q)) (ev_local 15 ok rfl rfl (by intro q; cases q)) (op_add_str (by rw [wr_len, wr_len, sz]; lia))) (congrArg PV.str (wr_app _ _))) .nil) (c_len_str (by rw [wr_len, List.length_append]; lia)) (fun a e => nomatch e)) (by rw [wr_len, List.length_append]; rfl)) (op_mul_str (mul_ok1 ⟨rowD r, by lia⟩))) (ev_local 19 ok rfl rfl (by intro q; cases q)) (op_add_str (by rw [show Txt.mul "." ((rowD r : Nat) : Int) = _ from mul_dots1 ⟨rowD r, by lia⟩, tx_len, tx_len, List.length_replicate, sz]; lia))) (congrArg PV.str (by rw [show Txt.mul "." ((rowD r : Nat) : Int) = _ from mul_dots1 ⟨rowD r, by lia⟩, tx_app]; rfl))) (hne ▸ op_ne_str)) (ex_nil ⟨rfl, rfl⟩)) ?_
  have hne2 : (tx (mn r.2.1) != tx (mn r.2.2 ++ r.1)) = false := by rw [hmm]; exact bne_self_eq_false _
  have hcm : ∀ {a : List Sg}, a.length ≤ 1000 → CallP pw w (LF w L base os).base (k + 4) (.ref 275) [.str (wr a), .dict meantV] (.str (tx (mn a))) true := fun h => c_meaning (k := k + 3) f.top h
  refine ex_one (ex_post (P₁ := Only (rf S T d B (.list (nameV (done ++ [r])), true) (S1 (tx (rowL r))) (S1 (wr r.2.1)) (S1 (wr r.2.2)) (S1 (tx r.1)))) (ex_if (b := false) (eb_cmp (fr := true) (by rfl) (ev_call (by rfl) gM (.cons (ev_local 14 ok rfl rfl (by intro q; cases q)) (.cons (ev_cell 2 ok rfl rfl (by intro q; cases q)) .nil)) (hcm (by lia)) (fn_at f.top (o := o275_0 w.params) (by kernel_rfl) rfl)) (ev_cast (ev_bin (fr := true) (ev_call (by rfl) gM (.cons (ev_local 15 ok rfl rfl (by intro q; cases q)) (.cons (ev_cell 2 ok rfl rfl (by intro q; cases q)) .nil)) (hcm (by lia)) (fn_at f.top (o := o275_0 w.params) (by kernel_rfl) rfl)) (ev_local 19 ok rfl rfl (by intro q; cases q)) (op_add_str (by rw [tx_len, tx_len, sz]; lia))) (congrArg PV.str (tx_app _ _))) (hne2 ▸ op_ne_str)) (ex_nil ⟨rfl, rfl⟩)) ?_)
  rintro fl ρ' ⟨rfl, rfl⟩
  exact ⟨rf S T d B (.list (nameV (done ++ [r])), true), (.same (.same (.same (.same (.same (.same (.same (.same (.same (.same (.same (.same (.same (.any (.any (.any (.same (.same (.same (.any (Weaker.refl _))))))))))))))))))))), rfl⟩
end
open Wk Hd1
noncomputable def layW (d : List Sg) : Nat → List (List Sg)
  | 0 => [[]]
  | n + 1 => (layW d n).flatMap fun u => d.map fun s => u ++ [s]
theorem layW_len (d : List Sg) : ∀ n, (layW d n).length = d.length ^ n
  | 0 => rfl
  | n + 1 => by
    have : ∀ l : List (List Sg), (l.flatMap fun u => d.map fun s => u ++ [s]).length = l.length * d.length := fun l => by
      induction l with
      | nil => simp
      | cons u l ih => rw [List.flatMap_cons, List.length_append, ih, List.length_map, List.length_cons, Nat.add_mul]; lia
    show ((layW d n).flatMap _).length = _
    rw [this, layW_len d n, Nat.pow_succ]
theorem layW_mem {d : List Sg} : ∀ {n : Nat} {u : List Sg}, u ∈ layW d n ↔ u.length = n ∧ ∀ s ∈ u, s ∈ d
  | 0, u => by
    rw [show layW d 0 = [[]] from rfl, List.mem_singleton, List.length_eq_zero_iff]
    constructor
    · rintro rfl; exact ⟨rfl, fun _ h => nomatch h⟩
    · exact fun h => h.1
  | n + 1, u => by
    show u ∈ (layW d n).flatMap _ ↔ _
    rw [List.mem_flatMap]
    constructor
    · rintro ⟨v, hv, hu⟩
      obtain ⟨s, hs, rfl⟩ := List.mem_map.mp hu
      obtain ⟨h1, h2⟩ := layW_mem.mp hv
      refine ⟨by simp [h1], fun x hx => ?_⟩
      rcases List.mem_append.mp hx with hx | hx
      · exact h2 x hx
      · rw [List.mem_singleton.mp hx]; exact hs
    · rintro ⟨h1, h2⟩
      have hne : u ≠ [] := by intro e; rw [e] at h1; cases h1
      have e := List.dropLast_concat_getLast hne
      refine ⟨u.dropLast, layW_mem.mpr ⟨by rw [List.length_dropLast, h1]; rfl, fun s hs => h2 s (List.dropLast_subset u hs)⟩, List.mem_map.mpr ⟨u.getLast hne, h2 _ (List.getLast_mem hne), e⟩⟩
noncomputable def layE (u : List Sg) : IV := .tup [.str (wr u), .str (tx (mn u))]
noncomputable def layV (d : List Sg) (n : Nat) : List IV := (layW d n).map layE
noncomputable def layG (a b : Str) (x : IV) : List IV := match x with | .at (.str y) => [.tup [.str (a ++ y), .str (b ++ (match dictAt meantV y with | some (.str z) => z | _ => y))]] | _ => []
noncomputable def layF (d : List Sg) (x : IV) : List IV := match x with | .tup [.str a, .str b] => (sgsV d).flatMap (layG a b) | _ => []
theorem mn_snoc (u : List Sg) (s : Sg) : mn (u ++ [s]) = mn u ++ wd s := by unfold mn; simp
theorem layG_at (u : List Sg) (s : Sg) : layG (wr u) (tx (mn u)) (.at (.str ⟨#[sgN s]⟩)) = [layE (u ++ [s])] := by
  show [IV.tup [.str (wr u ++ ⟨#[sgN s]⟩), .str (tx (mn u) ++ (match dictAt meantV ⟨#[sgN s]⟩ with | some (.str z) => z | _ => ⟨#[sgN s]⟩))]] = _
  rw [meant_at s, wr_snoc]
  show [IV.tup [.str (wr (u ++ [s])), .str (tx (mn u) ++ tx (wd s))]] = _
  rw [tx_app]
  unfold layE
  rw [mn_snoc]
theorem layG_eq (u : List Sg) (d : List Sg) : (sgsV d).flatMap (layG (wr u) (tx (mn u))) = (d.map fun s => u ++ [s]).map layE := by
  induction d with
  | nil => rfl
  | cons s d ih =>
    show layG _ _ (.at (.str ⟨#[sgN s]⟩)) ++ (sgsV d).flatMap _ = _
    rw [ih, layG_at]; rfl
theorem layF_eq (d : List Sg) (n : Nat) : (layV d n).flatMap (layF d) = layV d (n + 1) := by
  show ((layW d n).map layE).flatMap (layF d) = ((layW d n).flatMap _).map layE
  induction layW d n with
  | nil => rfl
  | cons u l ih =>
    rw [List.map_cons, List.flatMap_cons, List.flatMap_cons, List.map_append, ih]
    congr 1
    exact layG_eq u d
abbrev Seen := Nat × List (List Nat × Nat)
noncomputable def turnB (st : Seen) (u : List Sg) : Seen :=
  match st.2.find? (fun p => p.1 == mn u) with
  | some p => (if st.1 = 0 ∨ p.2 + u.length < st.1 then p.2 + u.length else st.1, st.2)
  | none => (st.1, st.2 ++ [(mn u, u.length)])
noncomputable def seenV (l : List (List Nat × Nat)) : List (Str × At) := l.map fun p => (tx p.1, .int ((p.2 : Nat) : Int))
theorem seen_at (l : List (List Nat × Nat)) (x : List Nat) : dictAt (seenV l) (tx x) = (l.find? fun p => p.1 == x).map fun p => .int ((p.2 : Nat) : Int) := by
  unfold dictAt seenV
  rw [List.find?_map, Option.map_map]
  have e : ((fun p : Str × At => p.1 == tx x) ∘ fun p : List Nat × Nat => (tx p.1, At.int ((p.2 : Nat) : Int))) = fun p => p.1 == x := by
    funext p
    show (tx p.1 == tx x) = _
    exact tx_beq _ _
  rw [e]
  rfl
theorem turnB_len (st : Seen) (u : List Sg) : (turnB st u).2.length ≤ st.2.length + 1 := by
  unfold turnB
  split
  · exact Nat.le_succ _
  · simp
noncomputable def runB (d : List Sg) : Nat → Seen
  | 0 => (0, [])
  | n + 1 => (layW d (n + 1)).foldl turnB (runB d n)
theorem foldB_len (l : List (List Sg)) : ∀ (st : Seen), (l.foldl turnB st).2.length ≤ st.2.length + l.length := by
  induction l with
  | nil => intro st; exact Nat.le_refl _
  | cons u l ih => intro st; have := ih (turnB st u); have := turnB_len st u; rw [List.foldl_cons, List.length_cons]; lia
section
variable {w : World} {L : Addr} {base : Addr → Option Obj} {os : OsState} {k : Nat} {P : Fl → Rho → Prop}
def bSz : List Stmt := forBody (st 18)
def bLy : List Stmt := forBody (sub bSz 1)
noncomputable abbrev rg (S : PV × Bool) (T : List Nat) (d : List Sg) (B : List Row) (st : Seen) (layer size writing due : PV × Bool) : Rho := rf S T d B (.list (nameV B), false) E0 E0 E0 E0 (.int ((st.1 : Nat) : Int), false) (.dict (seenV st.2), true) layer size writing due
set_option maxHeartbeats 8000000 in
theorem seen_turn (ok : FmOk (LF w L base os)) (t : Top w base) {S : PV × Bool} {T : List Nat} {d : List Sg} {B : List Row} {st : Seen} {layer size : PV × Bool} {u : List Sg} (hu : u.length ≤ 10) (hs : st.2.length ≤ 1000) :
    ExS pw w (LF w L base os) (rg S T d B st layer size (S1 (wr u)) (S1 (tx (mn u)))) (k + 4) (execs bLy (LF w L base os).env) (Only (rg S T d B (turnB st u) layer size (S1 (wr u)) (S1 (tx (mn u))))) := by
  have f := lawFr (L := L) (os := os) t
  have gL := bi (x := "len") f (by kernel_rfl) (by kernel_rfl) (v := .builtin "len") (by kernel_rfl)
  have sz : sizeLine = 16777216 := sizeLine_eq
  have hml := mn_len u
  have hat := seen_at st.2 (mn u)
  have elen : ∀ {ρ : Rho} {p1 p2 p3 : PySem.Pos}, ρ[24]? = some (S1 (wr u)) → EvJ pw w (LF w L base os) ρ (k + 4) (.Call (.Name "len" p1) [.Name "writing" p2] [] p3) (.int ((u.length : Nat) : Int)) true := fun h =>
    ev_cast (ev_call (fr := true) (by rfl) gL (.cons (ev_local 24 ok rfl h (by intro q; cases q)) .nil) (c_len_str (by rw [wr_len]; lia)) (fun a e => nomatch e)) (by rw [wr_len])
  have hset : ∀ st' : Seen, st'.2 = st.2 → (turnB st u).1 = st'.1 → ExS pw w (LF w L base os) (rg S T d B st' layer size (S1 (wr u)) (S1 (tx (mn u)))) (k + 4) (exec (sub bLy 1) (LF w L base os).env) (Only (rg S T d B (turnB st u) layer size (S1 (wr u)) (S1 (tx (mn u))))) := fun st' h2 h1 => by
    refine ex_mono (ex_setdef 21 (l := seenV st.2) (y := tx (mn u)) (a := .int ((u.length : Nat) : Int)) rfl (by rw [← h2]; rfl) (ev_local 25 ok rfl rfl (by intro q; cases q)) (elen rfl) (by unfold seenV; rw [List.length_map, sz]; lia) (by rfl) (by rfl) (by rfl)) ?_
    rintro fl ρ' ⟨rfl, rfl⟩
    refine ⟨rfl, ?_⟩
    have e : setD (seenV st.2) (tx (mn u)) (.int ((u.length : Nat) : Int)) = seenV (turnB st u).2 := by
      unfold setD turnB
      rw [hat]
      cases st.2.find? fun p => p.1 == mn u with
      | some p => rfl
      | none =>
        unfold seenV
        show (if Option.isSome _ = true then _ else _) = List.map _ (st.2 ++ [(mn u, u.length)])
        rw [List.map_append]
        rfl
    rw [e]
    show _ = rg S T d B (turnB st u) layer size (S1 (wr u)) (S1 (tx (mn u)))
    unfold rg
    rw [h1]
    rfl
  cases hq : st.2.find? fun p => p.1 == mn u with
  | none =>
    rw [hq] at hat
    refine ex_then (ρ₁ := rg S T d B st layer size (S1 (wr u)) (S1 (tx (mn u)))) (ex_if (b := (dictAt (seenV st.2) (tx (mn u))).isSome && true) (eb_op (.andCons (eb_cmp (fr := true) (by rfl) (ev_local 25 ok rfl rfl (by intro q; cases q)) (ev_local 21 ok rfl rfl (by intro q; cases q)) op_in_dict) fun h => by rw [hat] at h; cases h)) ?_) ?_
    · rw [hat]; exact ex_nil ⟨rfl, rfl⟩
    · refine ex_one (hset st rfl ?_)
      unfold turnB
      rw [hq]
  | some p =>
    rw [hq] at hat
    have hat : dictAt (seenV st.2) (tx (mn u)) = some (.int ((p.2 : Nat) : Int)) := hat
    have esum : ∀ {ρ : Rho} {p1 p2 p3 p4 p5 p6 p7 : PySem.Pos}, ρ[24]? = some (S1 (wr u)) → ρ[25]? = some (S1 (tx (mn u))) → ρ[21]? = some (.dict (seenV st.2), true) → EvJ pw w (LF w L base os) ρ (k + 4) (.BinOp (.Subscript (.Name "seen" p1) (.Name "due" p2) p3) .Add (.Call (.Name "len" p4) [.Name "writing" p5] [] p6) p7) (.int (((p.2 + u.length : Nat)) : Int)) true := fun h1 h2 h3 =>
      ev_cast (ev_bin (fr := true) (ev_sub_dict (fr := true) (ev_local 21 ok rfl h3 (by intro q; cases q)) (ev_local 25 ok rfl h2 (by intro q; cases q)) hat) (elen h1) op_add_int) (by rw [Int.natCast_add])
    refine ex_then (ρ₁ := rg S T d B ((turnB st u).1, st.2) layer size (S1 (wr u)) (S1 (tx (mn u)))) (ex_if (b := (dictAt (seenV st.2) (tx (mn u))).isSome && (((((st.1 : Nat) : Int) == 0) || (decide (((st.1 : Nat) : Int) > (((p.2 + u.length : Nat)) : Int)) || false)) && true)) (eb_op (.andCons (eb_cmp (fr := true) (by rfl) (ev_local 25 ok rfl rfl (by intro q; cases q)) (ev_local 21 ok rfl rfl (by intro q; cases q)) op_in_dict) fun h => .andCons (eb_op (.orCons (eb_cmp (fr := true) (by rfl) (ev_local 20 ok rfl rfl (by intro q; cases q)) (ev_int (i := 0)) op_eq_int) fun _ => .orCons (eb_cmp (fr := true) (by rfl) (ev_local 20 ok rfl rfl (by intro q; cases q)) (esum rfl rfl rfl) op_gt_int) fun _ => .orNil)) fun _ => .andNil)) ?_) ?_
    · rw [hat]
      have hb : ((some (At.int ((p.2 : Nat) : Int))).isSome && (((((st.1 : Nat) : Int) == 0) || (decide (((st.1 : Nat) : Int) > (((p.2 + u.length : Nat)) : Int)) || false)) && true)) = decide (st.1 = 0 ∨ p.2 + u.length < st.1) := by
        rw [Bool.eq_iff_iff]
        simp
        lia
      have e1 : (turnB st u).1 = if st.1 = 0 ∨ p.2 + u.length < st.1 then p.2 + u.length else st.1 := by unfold turnB; rw [hq]
      rw [hb, e1]
      by_cases c : st.1 = 0 ∨ p.2 + u.length < st.1
      · rw [decide_eq_true c, if_pos c]
        exact ex_one (ex_assign (fr := true) (own := false) 20 (acc := none) rfl own_none (esum rfl rfl rfl) rfl (by rfl))
      · rw [decide_eq_false c, if_neg c]
        exact ex_nil ⟨rfl, rfl⟩
    · exact ex_one (hset _ rfl rfl)
end
open Wk Hd1
section
variable {w : World} {L : Addr} {base : Addr → Option Obj} {os : OsState} {k : Nat} {P : Fl → Rho → Prop}
set_option maxHeartbeats 8000000 in
theorem seg_layer (t : Top w base) (ok : FmOk (LF w L base os)) {S : PV × Bool} {T : List Nat} {d : List Sg} {B : List Row} {st : Seen} {size : PV × Bool} {n : Nat} (hd : d.length ≤ 5) (hn : n ≤ 2) :
    ExS pw w (LF w L base os) (rg S T d B st (.list (layV d n), false) size E0 E0) (k + 4) (exec (sub bSz 0) (LF w L base os).env) (Only (rg S T d B st (.list (layV d (n + 1)), false) size E0 E0)) := by
  have f := lawFr (L := L) (os := os) t
  have sz : sizeLine = 16777216 := sizeLine_eq
  refine ex_assign_comp_eq (own := false) [("meant", L + 1), ("drawn", L + 1 + 1)] [("writing", .loc), ("due", .loc), ("sign", .loc), ("meant", .cap 2), ("drawn", .cap 4)] (layV d n) (layF d) 22 (acc := none) rfl own_none (by rfl) (layF_eq d n) ⟨by rfl, ⟨by kernel_rfl, by kernel_rfl, by kernel_rfl, ⟨by kernel_rfl, by kernel_rfl, _, rfl, rfl⟩, ⟨by kernel_rfl, by kernel_rfl, _, rfl, rfl⟩, trivial⟩, by kernel_rfl, by decide, by decide +kernel, by intro _; rfl, rfl, itj_list (src_slot 22 rfl rfl), ?_, ?_⟩
  · intro C D base2 hbase2 okc x hx
    obtain ⟨u, hu, rfl⟩ := List.mem_map.mp hx
    have hu2 := layW_mem.mp hu
    have hml := mn_len u
    refine ⟨[(.str (wr u), false), (.str (tx (mn u)), false), (.any, false), (.dict meantV, false), (.list (sgsV d), false)], true, asg_tup (.cons 0 (acc := none) rfl own_none (.cons 1 (acc := none) rfl own_none .nil)), .inl ⟨rfl, rfl⟩, ?_, .any (.any (.same (.same (.same .nil))))⟩
    rw [if_pos rfl]
    refine ⟨sgsV d, layG (wr u) (tx (mn u)), rfl, by intro _; rfl, itj_list (src_slot 4 rfl rfl), rfl, fun y hy => ?_⟩
    obtain ⟨s, hs, rfl⟩ := List.mem_map.mp hy
    have hw := wd_len s
    refine ⟨[(.str (wr u), false), (.str (tx (mn u)), false), (.str ⟨#[sgN s]⟩, false), (.dict meantV, false), (.list (sgsV d), false)], true, asg_name 2 (acc := none) rfl own_none, .inl ⟨rfl, rfl⟩, ?_, .same (.same (.any (.same (.same .nil))))⟩
    rw [if_pos rfl]
    refine ⟨layE (u ++ [s]), true, layG_at u s, ?_⟩
    refine ev_tuple (fr := true) (by rfl) (.cons (ev_cast (ev_bin (fr := true) (ev_local 0 okc rfl rfl (by intro q; cases q)) (ev_local 2 okc rfl rfl (by intro q; cases q)) (op_add_str (by rw [wr_len, sz]; show u.length + 1 ≤ _; lia))) (congrArg PV.str (wr_snoc u s))) (.cons (ev_cast (ev_bin (fr := true) (ev_local 1 okc rfl rfl (by intro q; cases q)) (ev_sub_dict (fr := true) (ev_cell 3 okc rfl rfl (by intro q; cases q)) (ev_local 2 okc rfl rfl (by intro q; cases q)) (meant_at s)) (op_add_str (by rw [tx_len, tx_len, sz]; lia))) (congrArg PV.str (by rw [tx_app, mn_snoc]))) .nil)) (by rw [sz]; show (2 : Nat) ≤ _; decide)
  · rw [layF_eq]
    unfold layV
    rw [List.length_map, layW_len, sz]
    have h1 : d.length ^ (n + 1) ≤ 5 ^ (n + 1) := Nat.pow_le_pow_left hd _
    have h2 : 5 ^ (n + 1) ≤ 5 ^ 3 := Nat.pow_le_pow_right (by decide) (by lia)
    lia
theorem pow_le {d : List Sg} {n : Nat} (hd : d.length ≤ 5) (hn : n ≤ 3) : d.length ^ n ≤ 125 := by
  have h1 : d.length ^ n ≤ 5 ^ n := Nat.pow_le_pow_left hd _
  have h2 : 5 ^ n ≤ 5 ^ 3 := Nat.pow_le_pow_right (by decide) hn
  lia
theorem runB_len (d : List Sg) (hd : d.length ≤ 5) : ∀ n, n ≤ 3 → (runB d n).2.length ≤ 125 * n
  | 0, _ => Nat.le_refl _
  | n + 1, h => by
    have h1 := runB_len d hd n (by lia)
    have h2 := foldB_len (layW d (n + 1)) (runB d n)
    have h3 := pow_le hd h
    rw [← layW_len d (n + 1)] at h3
    show ((layW d (n + 1)).foldl turnB (runB d n)).2.length ≤ _
    lia
set_option maxHeartbeats 8000000 in
theorem seg_seen (t : Top w base) (ok : FmOk (LF w L base os)) {S : PV × Bool} {T : List Nat} {d : List Sg} {B : List Row} {size : PV × Bool} {n : Nat} (hd : d.length ≤ 5) (hn : n ≤ 2) :
    ExS pw w (LF w L base os) (rg S T d B (runB d n) (.list (layV d (n + 1)), false) size E0 E0) (k + 4) (exec (sub bSz 1) (LF w L base os).env) (Only (rg S T d B (runB d (n + 1)) (.list (layV d (n + 1)), false) size E0 E0)) := by
  have hl := runB_len d hd n (by lia)
  have hp := pow_le (d := d) (n := n + 1) hd (by lia)
  rw [← layW_len d (n + 1)] at hp
  refine ex_forM (layW d (n + 1)) layE (fun done ρ' => ρ' = rg S T d B (done.foldl turnB (runB d n)) (.list (layV d (n + 1)), false) size E0 E0) (itj_list (src_slot 22 rfl rfl)) rfl (fun ρ' e => ⟨rfl, e⟩) ?_
  rintro done u rest ρ' hxs rfl
  have hu : u ∈ layW d (n + 1) := by rw [hxs]; simp
  have hu2 := layW_mem.mp hu
  have hdl : done.length ≤ 125 := by have := congrArg List.length hxs; simp at this; lia
  have hf := foldB_len done (runB d n)
  refine ⟨_, asg_tup (.cons 24 (acc := none) rfl own_none (.cons 25 (acc := none) rfl own_none .nil)), ?_⟩
  show ExS pw w (LF w L base os) (rg S T d B (done.foldl turnB (runB d n)) (.list (layV d (n + 1)), false) size (S1 (wr u)) (S1 (tx (mn u)))) (k + 4) _ _
  refine ex_post (seen_turn (k := k) ok t (u := u) (by lia) (by lia)) ?_
  rintro fl ρ' ⟨rfl, rfl⟩
  refine ⟨rg S T d B (turnB (done.foldl turnB (runB d n)) u) (.list (layV d (n + 1)), false) size E0 E0, ?_, ?_⟩
  · exact (.same (.same (.same (.same (.same (.same (.same (.same (.same (.same (.same (.same (.same (.same (.same (.same (.same (.same (.same (.same (.same (.same (.same (.same (.any (.any (Weaker.refl _)))))))))))))))))))))))))))
  · show _ = rg S T d B ((done ++ [u]).foldl turnB (runB d n)) _ _ _ _
    rw [List.foldl_append]
    rfl
set_option maxHeartbeats 8000000 in
theorem seg_sizes (t : Top w base) (ok : FmOk (LF w L base os)) {S : PV × Bool} {T : List Nat} {d : List Sg} {B : List Row} (hd : d.length ≤ 5) :
    ExS pw w (LF w L base os) (rg S T d B (runB d 0) (.list (layV d 0), false) E0 E0 E0) (k + 4) (exec (st 18) (LF w L base os).env) (Only (rg S T d B (runB d 3) (.list (layV d 3), false) E0 E0 E0)) := by
  have f := lawFr (L := L) (os := os) t
  have gR := bi (x := "range") f (by kernel_rfl) (by kernel_rfl) (v := .type "range") (by kernel_rfl)
  refine ex_forM (List.range 3) (fun i => .at (.int ((i : Nat) : Int))) (fun done ρ' => ρ' = rg S T d B (runB d done.length) (.list (layV d done.length), false) E0 E0 E0) (ItJ.cast (itj_range (n := 3) (by rfl) gR (ev_int (i := 3)) (by lia)) (by unfold Wk.intsFrom; simp)) rfl (fun ρ' e => ⟨rfl, e⟩) ?_
  rintro done i rest ρ' hxs rfl
  have hdl : done.length ≤ 2 := by have := congrArg List.length hxs; simp at this; lia
  refine ⟨_, asg_name 23 (acc := none) rfl own_none, ?_⟩
  show ExS pw w (LF w L base os) (rg S T d B (runB d done.length) (.list (layV d done.length), false) (.int ((i : Nat) : Int), false) E0 E0) (k + 4) _ _
  refine ex_then (seg_layer (k := k) t ok hd hdl) ?_
  refine ex_one (ex_post (seg_seen (k := k) t ok hd hdl) ?_)
  rintro fl ρ' ⟨rfl, rfl⟩
  refine ⟨rg S T d B (runB d (done.length + 1)) (.list (layV d (done.length + 1)), false) E0 E0 E0, ?_, ?_⟩
  · exact (.same (.same (.same (.same (.same (.same (.same (.same (.same (.same (.same (.same (.same (.same (.same (.same (.same (.same (.same (.same (.same (.same (.same (.any (.same (.same (Weaker.refl _)))))))))))))))))))))))))))
  · show _ = rg S T d B (runB d (done ++ [i]).length) (.list (layV d (done ++ [i]).length), false) E0 E0 E0
    rw [List.length_append]; rfl
end
open Wk Hd1
noncomputable def aheadC (d : List Sg) (s : Sg) : List (List Nat) := d.flatMap fun o => if o ≠ s ∧ (wd o).isPrefixOf (wd s) = true then [(wd s).drop (wd o).length] else []
noncomputable def aheadN1 (s : Sg) (x : List Nat) : List (List Nat) := if (wd s).isPrefixOf x = true then [x.drop (wd s).length] else if x.isPrefixOf (wd s) = true then [(wd s).drop x.length] else []
noncomputable def aheadN (B : List Row) (s : Sg) : List (List Nat) := B.flatMap fun r => aheadN1 s r.1
noncomputable def aheadL (d : List Sg) (B : List Row) : List (List Nat) := d.flatMap fun s => aheadC d s ++ aheadN B s
noncomputable def aheadV (l : List (List Nat)) : List IV := strsIV (l.map tx)
theorem aheadV_app (l m : List (List Nat)) : aheadV (l ++ m) = aheadV l ++ aheadV m := by unfold aheadV strsIV; rw [List.map_append, List.map_append]
noncomputable def sgOf (y : Str) : Sg := ((List.finRange 17).find? fun i => (⟨#[sgN i]⟩ : Str) == y).getD 0
theorem sgOf_at : ∀ o : Sg, sgOf ⟨#[sgN o]⟩ = o := by decide +kernel
noncomputable def aF (s : Sg) (x : IV) : List IV := match x with | .at (.str y) => aheadV (aheadC [sgOf y] s) | _ => []
theorem aF_at (s o : Sg) : aF s (.at (.str ⟨#[sgN o]⟩)) = aheadV (aheadC [o] s) := by
  show aheadV (aheadC [sgOf _] s) = _
  rw [sgOf_at]
theorem aF_eq (d : List Sg) (s : Sg) : (sgsV d).flatMap (aF s) = aheadV (aheadC d s) := by
  induction d with
  | nil => rfl
  | cons o d ih =>
    show aF s (.at (.str ⟨#[sgN o]⟩)) ++ (sgsV d).flatMap (aF s) = _
    rw [ih, aF_at, ← aheadV_app]
    congr 1
    unfold aheadC
    rw [List.flatMap_cons, List.flatMap_cons, List.flatMap_nil, List.append_nil]
theorem aheadC_one (o s : Sg) : aheadC [o] s = if o ≠ s ∧ (wd o).isPrefixOf (wd s) = true then [(wd s).drop (wd o).length] else [] := by
  unfold aheadC
  rw [List.flatMap_cons, List.flatMap_nil, List.append_nil]
theorem aheadC_len (d : List Sg) (s : Sg) : (aheadC d s).length ≤ d.length := by
  unfold aheadC
  induction d with
  | nil => exact Nat.le_refl _
  | cons o d ih =>
    rw [List.flatMap_cons, List.length_append, List.length_cons]
    have : ∀ (p : Prop) [Decidable p] (x : List Nat), (if p then [x] else []).length ≤ 1 := fun p _ x => by split <;> simp
    have := this (o ≠ s ∧ (wd o).isPrefixOf (wd s) = true) ((wd s).drop (wd o).length)
    lia
theorem aheadN1_len (s : Sg) (x : List Nat) : (aheadN1 s x).length ≤ 1 := by
  unfold aheadN1
  split
  · simp
  · split <;> simp
theorem aheadN_len (B : List Row) (s : Sg) : (aheadN B s).length ≤ B.length := by
  unfold aheadN
  induction B with
  | nil => exact Nat.le_refl _
  | cons r B ih =>
    have := aheadN1_len s r.1
    rw [List.flatMap_cons, List.length_append, List.length_cons]
    lia
theorem aheadL_len (d : List Sg) (B : List Row) (m : List Sg) : (m.flatMap fun s => aheadC d s ++ aheadN B s).length ≤ m.length * (d.length + B.length) := by
  induction m with
  | nil => simp
  | cons s m ih =>
    have h1 := aheadC_len d s
    have h2 := aheadN_len B s
    rw [List.flatMap_cons, List.length_append, List.length_append, List.length_cons, Nat.add_mul]
    lia
section
variable {w : World} {L : Addr} {base : Addr → Option Obj} {os : OsState} {k : Nat} {P : Fl → Rho → Prop}
noncomputable abbrev ra (S : PV × Bool) (T : List Nat) (d : List Sg) (B : List Row) (best : Nat) (sign rest : PV × Bool) (A : List (List Nat)) (letters shares : PV × Bool) : Rho := rh (script := S) (pool := (.list (rowsIV poolV), false)) (meant := (.dict meantV, false)) (text := S1 (tx T)) (drawn := (.list (sgsV d), false)) (stock := (.list (sgsV d), false)) (sign := sign) (book := (bookV B, false)) (told := (.list (rowsV B), false)) (names := (.list (nameV B), false)) (rest := rest) (best := (.int ((best : Nat) : Int), false)) (ahead := (.list (aheadV A), true)) (letters := letters) (shares := shares)
def bAh : List Stmt := forBody (st 21)
def bAn : List Stmt := forBody (sub bAh 1)
set_option maxHeartbeats 8000000 in
theorem seg_ahC (t : Top w base) (ok : FmOk (LF w L base os)) {S : PV × Bool} {T : List Nat} {d : List Sg} {B : List Row} {best : Nat} {s : Sg} {A : List (List Nat)} (hd : d.length ≤ 5) (hA : A.length ≤ 1000) :
    ExS pw w (LF w L base os) (ra S T d B best (S1 ⟨#[sgN s]⟩) E0 A E0 E0) (k + 4) (exec (sub bAh 0) (LF w L base os).env) (Only (ra S T d B best (S1 ⟨#[sgN s]⟩) E0 (A ++ aheadC d s) E0 E0)) := by
  have f := lawFr (L := L) (os := os) t
  have gL := bi (x := "len") f (by kernel_rfl) (by kernel_rfl) (v := .builtin "len") (by kernel_rfl)
  have sz : sizeLine = 16777216 := sizeLine_eq
  have hcl := aheadC_len d s
  refine ex_mono (ex_extend 26 (l := aheadV A) (l2 := aheadV (aheadC d s)) rfl rfl (ev_comp_eq [("sign", L + 1 + 1 + 1), ("meant", L + 1)] [("one", .loc), ("meant", .cap 2), ("sign", .cap 9)] (sgsV d) (aF s) ok (aF_eq d s) ⟨by rfl, ⟨by kernel_rfl, ⟨by kernel_rfl, by kernel_rfl, _, rfl, rfl⟩, ⟨by kernel_rfl, by kernel_rfl, _, rfl, rfl⟩, trivial⟩, by kernel_rfl, by decide, by decide +kernel, by intro _; rfl, rfl, itj_list (src_slot 4 rfl rfl), ?_, ?_⟩) (by unfold aheadV; rw [List.length_map, List.length_map]; exact hA) (by unfold aheadV; rw [List.length_map, List.length_map]; lia) (by rfl) (by rfl) (by rfl)) ?_
  · intro C D base2 hbase2 okc x hx
    obtain ⟨o, ho, rfl⟩ := List.mem_map.mp hx
    have fc := fr2_of f hbase2 okc
    have gLc := bi (x := "len") fc (by kernel_rfl) (by kernel_rfl) (v := .builtin "len") (by kernel_rfl)
    have hwo := wd_len o
    have hws := wd_len s
    have emo : ∀ {ρ : Rho} {p1 p2 p3 : PySem.Pos}, ρ[0]? = some (S1 ⟨#[sgN o]⟩) → ρ[1]? = some (.dict meantV, false) → EvJ pw w (compFm (LF w L base os) _ _ _ C D base2) ρ (k + 4) (.Subscript (.Name "meant" p1) (.Name "one" p2) p3) (.str (tx (wd o))) true := fun h0 h1 => ev_sub_dict (fr := true) (ev_cell 1 okc rfl h1 (by intro q; cases q)) (ev_local 0 okc rfl h0 (by intro q; cases q)) (meant_at o)
    have ems : ∀ {ρ : Rho} {p1 p2 p3 : PySem.Pos}, ρ[2]? = some (S1 ⟨#[sgN s]⟩) → ρ[1]? = some (.dict meantV, false) → EvJ pw w (compFm (LF w L base os) _ _ _ C D base2) ρ (k + 4) (.Subscript (.Name "meant" p1) (.Name "sign" p2) p3) (.str (tx (wd s))) true := fun h0 h1 => ev_sub_dict (fr := true) (ev_cell 1 okc rfl h1 (by intro q; cases q)) (ev_cell 2 okc rfl h0 (by intro q; cases q)) (meant_at s)
    refine ⟨[(.str ⟨#[sgN o]⟩, false), (.dict meantV, false), (.str ⟨#[sgN s]⟩, false)], ((⟨#[sgN o]⟩ : Str) != ⟨#[sgN s]⟩) && ((wd o).isPrefixOf (wd s) && true), asg_name 0 (acc := none) rfl own_none, .inr ⟨_, rfl, eb_op (.andCons (eb_cmp (fr := true) (by rfl) (ev_local 0 okc rfl rfl (by intro q; cases q)) (ev_cell 2 okc rfl rfl (by intro q; cases q)) op_ne_str) fun _ => .andCons (eb_call (fr := true) (tx_starts (wd s) (wd o) ▸ ev_meth (by rfl) (by rfl) (by rfl) (by decide) (ems rfl rfl) (.cons (emo rfl rfl) .nil) .str m_startswith c_startswith)) fun _ => .andNil)⟩, ?_, .any (.same (.same .nil))⟩
    have hb : (((⟨#[sgN o]⟩ : Str) != ⟨#[sgN s]⟩) && ((wd o).isPrefixOf (wd s) && true)) = decide (o ≠ s ∧ (wd o).isPrefixOf (wd s) = true) := by
      rw [Bool.eq_iff_iff, Bool.and_true, Bool.and_eq_true, decide_eq_true_eq, bne_iff_ne]
      exact and_congr_left fun _ => not_congr ⟨fun h => sg_inj _ _ (str1_inj h), fun h => by rw [h]⟩
    rw [hb, aF_at, aheadC_one]
    by_cases c : o ≠ s ∧ (wd o).isPrefixOf (wd s) = true
    · rw [decide_eq_true c, if_pos rfl, if_pos c]
      have hle : (wd o).length ≤ (wd s).length := (List.isPrefixOf_iff_prefix.mp c.2).length_le
      refine ⟨.at (.str (tx ((wd s).drop (wd o).length))), true, rfl, ?_⟩
      exact ev_cast (ev_slice_str (fr := true) (ems rfl rfl) (.some (ev_call (fr := true) (by rfl) gLc (.cons (emo rfl rfl) .nil) (c_len_str (x := tx (wd o)) (by rw [tx_len]; lia)) (fun a e => nomatch e))) .none (by rw [tx_len, sz]; lia)) (congrArg PV.str ((tx_len (wd o)).symm ▸ tx_from (wd s) _ hle))
    · rw [decide_eq_false c, if_neg (by simp), if_neg c]
      rfl
  · rw [aF_eq]
    unfold aheadV
    rw [List.length_map, List.length_map, sz]
    lia
  · rintro fl ρ' ⟨rfl, rfl⟩
    refine ⟨rfl, ?_⟩
    rw [← aheadV_app]
    rfl
set_option maxHeartbeats 8000000 in
theorem ahN_turn (t : Top w base) (ok : FmOk (LF w L base os)) {S : PV × Bool} {T : List Nat} {d : List Sg} {B : List Row} {best : Nat} {s : Sg} {A : List (List Nat)} {x : List Nat} (hx : x.length ≤ 10) (hA : A.length ≤ 1000) :
    ExS pw w (LF w L base os) (ra S T d B best (S1 ⟨#[sgN s]⟩) (S1 (tx x)) A E0 E0) (k + 4) (execs bAn (LF w L base os).env) (Only (ra S T d B best (S1 ⟨#[sgN s]⟩) (S1 (tx x)) (A ++ aheadN1 s x) E0 E0)) := by
  have f := lawFr (L := L) (os := os) t
  have gL := bi (x := "len") f (by kernel_rfl) (by kernel_rfl) (v := .builtin "len") (by kernel_rfl)
  have sz : sizeLine = 16777216 := sizeLine_eq
  have hw := wd_len s
  have ems : ∀ {ρ : Rho} {p1 p2 p3 : PySem.Pos}, ρ[9]? = some (S1 ⟨#[sgN s]⟩) → ρ[2]? = some (.dict meantV, false) → EvJ pw w (LF w L base os) ρ (k + 4) (.Subscript (.Name "meant" p1) (.Name "sign" p2) p3) (.str (tx (wd s))) true := fun h0 h1 => ev_sub_dict (fr := true) (ev_cell 2 ok rfl h1 (by intro q; cases q)) (ev_cell 9 ok rfl h0 (by intro q; cases q)) (meant_at s)
  have hAl : (aheadV A).length ≤ sizeLine := by unfold aheadV; rw [List.length_map, List.length_map, sz]; lia
  have fin : ∀ y : List Nat, ((ra S T d B best (S1 ⟨#[sgN s]⟩) (S1 (tx x)) A E0 E0).set 26 (.list (aheadV A ++ [.at (.str (tx y))]), true)) = ra S T d B best (S1 ⟨#[sgN s]⟩) (S1 (tx x)) (A ++ [y]) E0 E0 := fun y => by
    rw [show ra S T d B best (S1 ⟨#[sgN s]⟩) (S1 (tx x)) (A ++ [y]) E0 E0 = (ra S T d B best (S1 ⟨#[sgN s]⟩) (S1 (tx x)) A E0 E0).set 26 (.list (aheadV (A ++ [y])), true) from rfl, aheadV_app]
    rfl
  refine ex_one (ex_if (b := (wd s).isPrefixOf x) (eb_call (fr := true) (tx_starts x (wd s) ▸ ev_meth (by rfl) (by rfl) (by rfl) (by decide) (ev_local 19 ok rfl rfl (by intro q; cases q)) (.cons (ems rfl rfl) .nil) .str m_startswith c_startswith)) ?_)
  unfold aheadN1
  cases c1 : (wd s).isPrefixOf x with
  | true =>
    have hle : (wd s).length ≤ x.length := (List.isPrefixOf_iff_prefix.mp c1).length_le
    rw [if_pos rfl, if_pos rfl]
    refine ex_one (ex_mono (ex_append 26 (y := .at (.str (tx (x.drop (wd s).length)))) rfl rfl (ev_cast (ev_slice_str (fr := true) (ev_local 19 ok rfl rfl (by intro q; cases q)) (.some (ev_call (fr := true) (by rfl) gL (.cons (ems rfl rfl) .nil) (c_len_str (x := tx (wd s)) (by rw [tx_len]; lia)) (fun a e => nomatch e))) .none (by rw [tx_len, sz]; lia)) (congrArg PV.str ((tx_len (wd s)).symm ▸ tx_from x _ hle))) hAl (by rfl) (by rfl) (by rfl)) ?_)
    rintro fl ρ' ⟨rfl, rfl⟩
    exact ⟨rfl, fin _⟩
  | false =>
    rw [if_neg (by simp), if_neg (by simp)]
    refine ex_one (ex_if (b := x.isPrefixOf (wd s)) (eb_call (fr := true) (tx_starts (wd s) x ▸ ev_meth (by rfl) (by rfl) (by rfl) (by decide) (ems rfl rfl) (.cons (ev_local 19 ok rfl rfl (by intro q; cases q)) .nil) .str m_startswith c_startswith)) ?_)
    cases c2 : x.isPrefixOf (wd s) with
    | true =>
      have hle : x.length ≤ (wd s).length := (List.isPrefixOf_iff_prefix.mp c2).length_le
      rw [if_pos rfl, if_pos rfl]
      refine ex_one (ex_mono (ex_append 26 (y := .at (.str (tx ((wd s).drop x.length)))) rfl rfl (ev_cast (ev_slice_str (fr := true) (ems rfl rfl) (.some (ev_call (fr := true) (by rfl) gL (.cons (ev_local 19 ok rfl rfl (by intro q; cases q)) .nil) (c_len_str (x := tx x) (by rw [tx_len]; lia)) (fun a e => nomatch e))) .none (by rw [tx_len, sz]; lia)) (congrArg PV.str ((tx_len x).symm ▸ tx_from (wd s) _ hle))) hAl (by rfl) (by rfl) (by rfl)) ?_)
      rintro fl ρ' ⟨rfl, rfl⟩
      exact ⟨rfl, fin _⟩
    | false =>
      rw [if_neg (by simp), if_neg (by simp), List.append_nil]
      exact ex_nil ⟨rfl, rfl⟩
set_option maxHeartbeats 8000000 in
theorem seg_ahead (t : Top w base) (ok : FmOk (LF w L base os)) {S : PV × Bool} {T : List Nat} {d : List Sg} {B : List Row} {best : Nat} (hd : d.length ≤ 5) (hB : ∀ r ∈ B, r.1 ∈ sufs) (hl : B.length ≤ 8) :
    ExS pw w (LF w L base os) (ra S T d B best E0 E0 [] E0 E0) (k + 4) (exec (st 21) (LF w L base os).env) (Only (ra S T d B best E0 E0 (aheadL d B) E0 E0)) := by
  refine ex_forM d (fun s => .at (.str ⟨#[sgN s]⟩)) (fun done ρ' => ρ' = ra S T d B best E0 E0 (done.flatMap fun s => aheadC d s ++ aheadN B s) E0 E0) (itj_list (src_slot 4 rfl rfl)) rfl (fun ρ' e => ⟨rfl, e⟩) ?_
  rintro done s rest ρ' hxs rfl
  have hdl : done.length ≤ 5 := by have := congrArg List.length hxs; simp at this; lia
  have hal := aheadL_len d B done
  have hmul : done.length * (d.length + B.length) ≤ 5 * 13 := Nat.mul_le_mul hdl (by lia)
  generalize hA : (done.flatMap fun s => aheadC d s ++ aheadN B s) = A at hal
  have hcl := aheadC_len d s
  refine ⟨_, asg_name 9 rfl ownS, ?_⟩
  show ExS pw w (LF w L base os) (ra S T d B best (S1 ⟨#[sgN s]⟩) E0 A E0 E0) (k + 4) _ _
  refine ex_then (seg_ahC (k := k) t ok hd (by lia)) ?_
  refine ex_one (ex_post (P₁ := Only (ra S T d B best (S1 ⟨#[sgN s]⟩) E0 (A ++ aheadC d s ++ aheadN B s) E0 E0)) (ex_forM B (fun r => .at (.str (tx r.1))) (fun dn ρ' => ρ' = ra S T d B best (S1 ⟨#[sgN s]⟩) E0 (A ++ aheadC d s ++ aheadN dn s) E0 E0) (ItJ.cast (itj_list (src_slot 18 rfl rfl)) (by unfold nameV strsIV; rw [List.map_map]; rfl)) (by show _ = ra S T d B best _ E0 (A ++ aheadC d s ++ []) E0 E0; rw [List.append_nil]) (fun ρ' e => ⟨rfl, e⟩) ?_) ?_)
  · rintro dn r rs ρ' hxs2 rfl
    have hr : r ∈ B := by rw [hxs2]; simp
    have hdn : dn.length ≤ 8 := by have := congrArg List.length hxs2; simp at this; lia
    have hnl := aheadN_len dn s
    have hlet := suf_let r.1 (hB r hr)
    refine ⟨_, asg_name 19 (acc := none) rfl own_none, ?_⟩
    show ExS pw w (LF w L base os) (ra S T d B best (S1 ⟨#[sgN s]⟩) (S1 (tx r.1)) (A ++ aheadC d s ++ aheadN dn s) E0 E0) (k + 4) _ _
    refine ex_post (ahN_turn (k := k) t ok (x := r.1) (by lia) (by rw [List.length_append, List.length_append]; lia)) ?_
    rintro fl ρ' ⟨rfl, rfl⟩
    refine ⟨ra S T d B best (S1 ⟨#[sgN s]⟩) E0 (A ++ aheadC d s ++ aheadN (dn ++ [r]) s) E0 E0, ?_, rfl⟩
    rw [show A ++ aheadC d s ++ aheadN (dn ++ [r]) s = A ++ aheadC d s ++ aheadN dn s ++ aheadN1 s r.1 from by unfold aheadN; simp]
    exact (.same (.same (.same (.same (.same (.same (.same (.same (.same (.same (.same (.same (.same (.same (.same (.same (.same (.same (.same (.any (Weaker.refl _)))))))))))))))))))))
  · rintro fl ρ' ⟨rfl, rfl⟩
    refine ⟨ra S T d B best E0 E0 (A ++ aheadC d s ++ aheadN B s) E0 E0, (.same (.same (.same (.same (.same (.same (.same (.same (.same (.any (Weaker.refl _))))))))))), ?_⟩
    show _ = ra S T d B best E0 E0 ((done ++ [s]).flatMap fun s => aheadC d s ++ aheadN B s) E0 E0
    rw [List.flatMap_append, hA, List.flatMap_cons, List.flatMap_nil, List.append_nil, List.append_assoc]
end
open Wk Hd1
noncomputable def lettersN (d : List Sg) : Nat := (metS (charS (tx (d.map wd).flatten))).length
noncomputable def sharesL (d : List Sg) (n : Nat) : List Int := d.map fun s => ((n : Nat) : Int) ^ (3 - (wd s).length)
noncomputable def shF (n : Nat) (x : IV) : List IV := match x with | .at (.str y) => [.at (.int (((n : Nat) : Int) ^ (3 - (wd (sgOf y)).length)))] | _ => []
theorem shF_at (n : Nat) (s : Sg) : shF n (.at (.str ⟨#[sgN s]⟩)) = [.at (.int (((n : Nat) : Int) ^ (3 - (wd s).length)))] := by
  show [IV.at (.int (((n : Nat) : Int) ^ (3 - (wd (sgOf _)).length)))] = _
  rw [sgOf_at]
theorem shF_eq (n : Nat) (d : List Sg) : (sgsV d).flatMap (shF n) = intsIV (sharesL d n) := by
  induction d with
  | nil => rfl
  | cons s d ih =>
    show shF n (.at (.str ⟨#[sgN s]⟩)) ++ (sgsV d).flatMap (shF n) = _
    rw [ih, shF_at]; rfl
theorem flat_len (d : List Sg) : (d.map wd).flatten.length ≤ 3 * d.length := by
  have := mn_len d
  unfold mn at this
  rw [List.flatMap_def] at this
  exact this
theorem letters_le (d : List Sg) : lettersN d ≤ 3 * d.length := by
  have h := metS_len (charS (tx (d.map wd).flatten))
  have h2 := flat_len d
  have h3 : (charS (tx (d.map wd).flatten)).length = (d.map wd).flatten.length := by
    show (List.map _ _).length = _
    rw [List.length_map]
  unfold lettersN
  lia
structure PlainOk (d : List Sg) (B : List Row) : Prop where
  mean : ∀ r ∈ B, mn r.2.1 = mn r.2.2 ++ r.1
  found : ∀ r, B.find? (fun r => r.1 == []) = some r → (runB d 3).1 = rowD r
  none : B.find? (fun r => r.1 == []) = none → (runB d 3).1 = 0 ∧ (metS ((aheadL d B).map tx)).Perm (B.map fun r => tx r.1) ∧ (sharesL d (lettersN d)).sum ≤ ((lettersN d : Nat) : Int) ^ 3
section
variable {w : World} {L : Addr} {base : Addr → Option Obj} {os : OsState} {k : Nat} {P : Fl → Rho → Prop}
set_option maxHeartbeats 8000000 in
theorem seg_letters (t : Top w base) (ok : FmOk (LF w L base os)) {S : PV × Bool} {T : List Nat} {d : List Sg} {B : List Row} {best : Nat} {A : List (List Nat)} (hd : d.length ≤ 5) :
    ExS pw w (LF w L base os) (ra S T d B best E0 E0 A E0 E0) (k + 4) (exec (st 22) (LF w L base os).env) (Only (ra S T d B best E0 E0 A (.int ((lettersN d : Nat) : Int), false) E0)) := by
  have f := lawFr (L := L) (os := os) t
  have gL := bi (x := "len") f (by kernel_rfl) (by kernel_rfl) (v := .builtin "len") (by kernel_rfl)
  have gS := bi (x := "set") f (by kernel_rfl) (by kernel_rfl) (v := .type "set") (by kernel_rfl)
  have sz : sizeLine = 16777216 := sizeLine_eq
  have hfl := flat_len d
  have sb : scanBound = 4096 := rfl
  refine ex_assign_iv (fr := true) (own := false) 27 rfl ownL (ev_len_set_str (x := tx (d.map wd).flatten) (by rfl) (by rfl) gL gS (ev_cast (ev_meth (fr := true) (by rfl) (by rfl) (by rfl) (by decide) ev_str (.cons (ev_cast (ev_comp_eq [] [("sign", .loc)] (sgsV d) wdF ok ((wdF_eq d).trans (flat_map_tx d)) ⟨by rfl, ⟨by kernel_rfl, trivial⟩, by kernel_rfl, by decide, by decide +kernel, by intro _; rfl, rfl, itj_list (src_slot 4 rfl rfl), ?_, ?_⟩) rfl) .nil) .str m_join (c_join (joinOk_tx (B := 3) ?_ ?_))) (congrArg PV.str (join_tx _))) (by rw [tx_len, sb]; lia)) (by rfl)
  · intro C D base2 hbase2 okc x hx
    obtain ⟨s, _, rfl⟩ := List.mem_map.mp hx
    have fc := fr2_of f hbase2 okc
    have gM := gl (x := "map_table_b3") fc (by kernel_rfl) (v := .ref 102) (by kernel_rfl)
    exact ⟨[(.str ⟨#[sgN s]⟩, false)], true, asg_name 0 (acc := none) rfl own_none, .inl ⟨rfl, rfl⟩, ⟨.at (.str (tx (wd s))), true, wdF_at s, ev_cast (ev_call (by rfl) gM (.cons (ev_local 0 okc rfl rfl (by intro q; cases q)) .nil) (map_table (k := k + 3) fc.top (wd_fit s)) (fn_at fc.top (o := o102_0 w.params) (by kernel_rfl) rfl)) (congrArg PV.str (wd_map s))⟩, .any .nil⟩
  · rw [wdF_eq, List.length_map, List.length_map, sz]; lia
  · intro x hx
    obtain ⟨s, _, rfl⟩ := List.mem_map.mp hx
    exact wd_len s
  · rw [List.length_map]; lia
set_option maxHeartbeats 8000000 in
theorem seg_shares (t : Top w base) (ok : FmOk (LF w L base os)) {S : PV × Bool} {T : List Nat} {d : List Sg} {B : List Row} {best : Nat} {A : List (List Nat)} {n : Nat} (hd : d.length ≤ 5) (hn : n ≤ 100) :
    ExS pw w (LF w L base os) (ra S T d B best E0 E0 A (.int ((n : Nat) : Int), false) E0) (k + 4) (exec (st 23) (LF w L base os).env) (Only (ra S T d B best E0 E0 A (.int ((n : Nat) : Int), false) (.int (sharesL d n).sum, false))) := by
  have f := lawFr (L := L) (os := os) t
  have gS := bi (x := "sum") f (by kernel_rfl) (by kernel_rfl) (v := .builtin "sum") (by kernel_rfl)
  have sz : sizeLine = 16777216 := sizeLine_eq
  refine ex_assign_iv (fr := true) (own := false) 28 (acc := none) rfl own_none (ev_call (fr := true) (by rfl) gS (.cons (ev_comp_eq [("letters", L + 1 + 1 + 1 + 1)] [("sign", .loc), ("letters", .cap 27)] (sgsV d) (shF n) ok (shF_eq n d) ⟨by rfl, ⟨by kernel_rfl, ⟨by kernel_rfl, by kernel_rfl, _, rfl, rfl⟩, trivial⟩, by kernel_rfl, by decide, by decide +kernel, by intro _; rfl, rfl, itj_list (src_slot 4 rfl rfl), ?_, ?_⟩) .nil) c_sum (fun a e => nomatch e)) (by rfl)
  · intro C D base2 hbase2 okc x hx
    obtain ⟨s, _, rfl⟩ := List.mem_map.mp hx
    have hw := wd_len s
    have fc := fr2_of f hbase2 okc
    have gM := gl (x := "map_table_b3") fc (by kernel_rfl) (v := .ref 102) (by kernel_rfl)
    have gLc := bi (x := "len") fc (by kernel_rfl) (by kernel_rfl) (v := .builtin "len") (by kernel_rfl)
    have he : (3 - (((wd s).length : Nat) : Int)).toNat = 3 - (wd s).length := by lia
    refine ⟨[(.str ⟨#[sgN s]⟩, false), (.int ((n : Nat) : Int), false)], true, asg_name 0 (acc := none) rfl own_none, .inl ⟨rfl, rfl⟩, ⟨.at (.int (((n : Nat) : Int) ^ (3 - (wd s).length))), true, shF_at n s, ?_⟩, .any (.same .nil)⟩
    refine ev_cast (ev_bin (fr := true) (ev_cell 1 okc rfl rfl (by intro q; cases q)) (ev_bin (fr := true) (ev_int (i := 3)) (ev_cast (q := .int (((wd s).length : Nat) : Int)) (ev_call (fr := true) (by rfl) gLc (.cons (ev_cast (ev_call (by rfl) gM (.cons (ev_local 0 okc rfl rfl (by intro q; cases q)) .nil) (map_table (k := k + 3) fc.top (wd_fit s)) (fn_at fc.top (o := o102_0 w.params) (by kernel_rfl) rfl)) (congrArg PV.str (wd_map s))) .nil) (c_len_str (by rw [tx_len]; lia)) (fun a e => nomatch e)) (by rw [tx_len])) op_sub_int) (op_pow_int (by lia) (by lia) (by rw [Int.natAbs_natCast]; lia))) (by rw [he])
  · rw [shF_eq, List.length_map]
    unfold sharesL
    rw [List.length_map, sz]
    lia
end
open Wk Hd1
theorem nameV_has (B : List Row) : (B.map fun r => tx r.1).contains ("" : Str) = (B.find? fun r => r.1 == []).isSome := by
  rw [find_any, Bool.eq_iff_iff, List.contains_iff_mem, List.any_eq_true, show ("" : Str) = tx [] from rfl]
  constructor
  · intro h
    obtain ⟨r, hr, e⟩ := List.mem_map.mp h
    exact ⟨r, hr, by rw [tx_inj e]; rfl⟩
  · rintro ⟨r, hr, e⟩
    exact List.mem_map.mpr ⟨r, hr, by rw [show r.1 = [] by simpa using e]⟩
section
variable {w : World} {L : Addr} {base : Addr → Option Obj} {os : OsState} {k : Nat}
abbrev RetT : Fl → Rho → Prop := fun fl _ => fl = .ret (.bool true)
set_option maxHeartbeats 8000000 in
theorem seg_last (t : Top w base) (ok : FmOk (LF w L base os)) {S : PV × Bool} {T : List Nat} {d : List Sg} {B : List Row} (hd : d.length ≤ 5) (hB : ∀ r ∈ B, r.1 ∈ sufs) (hl : B.length ≤ 8) (pl : PlainOk d B) (hf : B.find? (fun r => r.1 == []) = none) :
    ExS pw w (LF w L base os) (ra S T d B (runB d 3).1 E0 E0 (aheadL d B) (.int ((lettersN d : Nat) : Int), false) (.int (sharesL d (lettersN d)).sum, false)) (k + 4) (exec (st 24) (LF w L base os).env) RetT := by
  have f := lawFr (L := L) (os := os) t
  have gS := bi (x := "set") f (by kernel_rfl) (by kernel_rfl) (v := .type "set") (by kernel_rfl)
  have gO := bi (x := "sorted") f (by kernel_rfl) (by kernel_rfl) (v := .builtin "sorted") (by kernel_rfl)
  have sb : scanBound = 4096 := rfl
  obtain ⟨p1, p2, p3⟩ := pl.none hf
  have hal : (aheadL d B).length ≤ d.length * (d.length + B.length) := aheadL_len d B d
  have hmul : d.length * (d.length + B.length) ≤ 5 * 13 := Nat.mul_le_mul hd (by lia)
  have hln := letters_le d
  refine ex_return_iv (fr := true) (ev_and3 (ev_cast (ev_cmp (fr := true) (by rfl) (ev_local 20 ok rfl rfl (by intro q; cases q)) (ev_int (i := 0)) op_eq_int) (by rw [p1]; rfl)) (ev_sortedset_eq (l := (aheadL d B).map tx) (l' := B.map fun r => tx r.1) (by rfl) (by rfl) (by rfl) gO gS (by rfl) (ev_local 26 ok rfl rfl (by intro q; cases q)) (ev_local 18 ok rfl rfl (by intro q; cases q)) p2 (by rw [List.length_map, sb]; lia) (by rw [List.length_map]; lia)) (ev_cast (ev_cmp (fr := true) (by rfl) (ev_local 28 ok rfl rfl (by intro q; cases q)) (ev_bin (fr := true) (ev_cell 27 ok rfl rfl (by intro q; cases q)) (ev_int (i := 3)) (op_pow_int (by decide) (by decide) (by rw [Int.natAbs_natCast]; lia))) op_le_int) (by rw [decide_eq_true (show (sharesL d (lettersN d)).sum ≤ ((lettersN d : Nat) : Int) ^ (3 : Int).toNat from p3)]))) rfl
set_option maxHeartbeats 8000000 in
theorem law_rest (t : Top w base) (ok : FmOk (LF w L base os)) {S : PV × Bool} {T : List Nat} {d : List Sg} {n : Nat} (hd : d.length ≤ 5) (hgo : ∀ i < n, Go d i) (pl : PlainOk d (bfs d n).1) :
    ExS pw w (LF w L base os) (rB S T d n) (k + 5) (execs ((fBody (bd 20)).drop 12) (LF w L base os).env) RetT := by
  have f := lawFr (L := L) (os := os) t
  have sz : sizeLine = 16777216 := sizeLine_eq
  have I := binv hgo
  have hn := I.le
  have hl := told_len I.told I.nd
  have hD : ∀ r ∈ (bfs d n).1, rowD r ≤ 15 := fun r hr => by have := I.tdots r hr; lia
  have hB := I.told
  generalize hBn : (bfs d n).1 = B at pl hl hD hB
  have hw0 : Weaker (rB S T d n) (rf S T d B) := by
    rw [← hBn]
    exact .same (.same (.same (.same (.same (.same (.same (.same (.same (.same (.dis (.dis (.any (Weaker.refl _)))))))))))))
  refine ex_weak hw0 ?_
  refine ex_then (seg_items (k := k + 1) t ok hB hl hD) ?_
  refine ex_then (ρ₁ := rf S T d B (.list [], true)) (ex_assign (own := true) 18 (acc := none) rfl own_none (ev_list (by rfl) .nil (Nat.zero_le _)) rfl (by rfl)) ?_
  refine ex_then (seg_names (k := k + 1) t ok hB hl hD pl.mean) ?_
  refine ex_weak (ρ₁ := rf S T d B (.list (nameV B), false)) (.same (.same (.same (.same (.same (.same (.same (.same (.same (.same (.same (.same (.same (.same (.same (.same (.same (.same (.dis (Weaker.refl _)))))))))))))))))))) ?_
  refine ex_then (ex_assign_iv (fr := true) (own := false) 20 (acc := none) rfl own_none (ev_int (i := 0)) (by rfl)) ?_
  refine ex_then (ex_assign (own := true) 21 (acc := none) rfl own_none (ev_dict0 ⟨o1_0 w.params, t.1 _ _ (by kernel_rfl)⟩) rfl (by rfl)) ?_
  refine ex_then (ρ₁ := rg S T d B (runB d 0) (.list (layV d 0), false) E0 E0 E0) (ex_assign (own := false) 22 (acc := none) rfl own_none (ev_list (l := layV d 0) (by rfl) (.cons (x := layE []) (ev_tuple (fr := true) (by rfl) (.cons (ev_str (x := "")) (.cons (ev_str (x := "")) .nil)) (by rw [sz]; show (2 : Nat) ≤ _; decide)) .nil) (by rw [sz]; show (1 : Nat) ≤ _; decide)) rfl (by rfl)) ?_
  refine ex_then (seg_sizes (k := k + 1) t ok hd) ?_
  have h19 := op_in_strs (prog := pw) (w := w) (k := k + 5) (x := "") (l := B.map fun r => tx r.1)
  rw [nameV_has] at h19
  cases hf : B.find? (fun r => r.1 == []) with
  | some r =>
    rw [hf] at h19
    have hr : r ∈ B := List.mem_of_find?_eq_some hf
    have hb : bookAt B [] = .str (valS r) := by unfold bookAt; rw [hf]
    have h1 := pl.found r hf
    have hDr := hD r hr
    refine ex_cons (P₁ := RetT) (ex_if (b := true) (eb_cmp (by rfl) ev_str (ev_local 18 ok rfl rfl (by intro q; cases q)) h19) ?_) (fun ρ' h => nomatch h) (fun fl ρ' _ h => h)
    rw [if_pos rfl]
    have gL := bi (x := "len") f (by kernel_rfl) (by kernel_rfl) (v := .builtin "len") (by kernel_rfl)
    refine ex_one (ex_return_iv (fr := true) (ev_cast (ev_cmp (fr := true) (by rfl) (ev_local 20 ok rfl rfl (by intro q; cases q)) (ev_bin (fr := true) (ev_call (fr := true) (by rfl) gL (.cons (ev_cast (q := .str (valS r)) (ev_get (x := []) (k := k + 3) t ok rfl hB (by decide) (ev_cast ev_str rfl) (by rfl) (by rfl) (by rfl)) (by rw [hb])) .nil) (c_len_str (by rw [valS_len]; lia)) (fun a e => nomatch e)) (ev_int (i := 1)) op_sub_int) op_eq_int) (congrArg PV.bool (by rw [beq_iff_eq, h1, valS_len]; lia))) rfl)
  | none =>
    rw [hf] at h19
    refine ex_then (ρ₁ := rg S T d B (runB d 3) (.list (layV d 3), false) E0 E0 E0) (ex_if (b := false) (eb_cmp (by rfl) ev_str (ev_local 18 ok rfl rfl (by intro q; cases q)) h19) (ex_nil ⟨rfl, rfl⟩)) ?_
    refine ex_then (ex_assign (own := true) 26 (acc := none) rfl own_none (ev_list (by rfl) .nil (Nat.zero_le _)) rfl (by rfl)) ?_
    refine ex_weak (ρ₁ := ra S T d B (runB d 3).1 E0 E0 [] E0 E0) (.same (.same (.same (.same (.same (.same (.same (.same (.same (.same (.same (.same (.same (.same (.same (.same (.same (.same (.same (.same (.same (.any (.any (Weaker.refl _)))))))))))))))))))))))) ?_
    refine ex_then (seg_ahead (k := k + 1) t ok hd hB hl) ?_
    refine ex_then (seg_letters (k := k + 1) t ok hd) ?_
    refine ex_then (seg_shares (k := k + 1) t ok hd (by have := letters_le d; lia)) ?_
    exact ex_one (seg_last (k := k + 1) t ok hd hB hl pl hf)
end
open Wk Hd1
set_option maxHeartbeats 8000000 in
theorem law_call {w : World} {base : Addr → Option Obj} {k : Nat} (t : Top w base) {ns : List Int} (hns : ns.length ≤ 63) (plain : ∀ (d : List Sg) (n : Nat), d.Nodup → d.length ≤ 5 → (∀ i < n, Go d i) → ¬ Go d n → PlainOk d (bfs d n).1) :
    CallP pw w base (k + 6) (.ref 280) [.list (intsIV ns)] (.bool true) true := by
  refine call_own (k := k + 5) (fd := fdOf (o280_0 w.params)) (sp := spL) (names := ["script"]) (n := 28) (body := fBody (bd 20)) (fnAt t (o := o280_0 w.params) (oc := o279_0 w.params) (by kernel_rfl) rfl rfl (by kernel_rfl) rfl rfl) rfl rfl ?_ ?_ (by decide) rfl rfl rfl ?_ (by kernel_rfl) (by kernel_rfl) (by kernel_rfl)
  · exact vals1 fun v => rfl
  · exact ⟨by kernel_rfl, by kernel_rfl, by kernel_rfl, by kernel_rfl, by kernel_rfl, by kernel_rfl, by kernel_rfl, by kernel_rfl, by kernel_rfl, by kernel_rfl, by kernel_rfl, by kernel_rfl, by kernel_rfl, by kernel_rfl, by kernel_rfl, by kernel_rfl, by kernel_rfl, by kernel_rfl, by kernel_rfl, by kernel_rfl, by kernel_rfl, by kernel_rfl, by kernel_rfl, by kernel_rfl, by kernel_rfl, by kernel_rfl, by kernel_rfl, by kernel_rfl, by kernel_rfl, trivial⟩
  · intro L base' os hb ok
    have t' := t.up hb
    show ExS pw w (LF w L base' os) (rh (script := (.list (intsIV ns), false))) (k + 5) (execs (fBody (bd 20)) (LF w L base' os).env) _
    refine law_top (k := k) t' ok hns fun T d n h1 h2 h3 h4 => ?_
    exact ex_mono (law_rest (k := k) t' ok h2 h3 (plain d n h1 h2 h3 h4)) fun fl ρ' h => h
end L1
namespace Hd1
noncomputable section
theorem plain_of_well {P : Params} {h : Heap} {a : Addr} {vs : List Value} {xs : List WData} (W : Well P h (.ref a) (.list xs)) (hl : h.IsList a vs.toArray) : PlainL h a vs.toArray := by
  cases W with
  | list ha wa =>
    obtain ⟨o, ho, _, n, hd⟩ := hl
    rw [ha] at ho; cases ho
    obtain ⟨e, _⟩ := Data.seq.inj hd
    exact ⟨_, _, ha, rfl, rfl, by rw [e]⟩
set_option maxHeartbeats 4000000 in
theorem head2 (walk : ∀ (w : World) (s : Shared) (L : Addr) (vs : List Value) (ns : List Int), YP w s.heap → s.gens = #[] → PlainL s.heap L vs.toArray → IntsAre vs ns → ns.length ≤ 63 →
    wpAny (model pw w) callerA (PySem.call (.ref 280) [.ref L]) (fun v s' => v = .bool true ∧ (∀ b o, s.heap.get? b = some o → s'.heap.get? b = some o) ∧ s'.os = s.os ∧ s'.gens = #[]) (fun _ _ => False) s) (said : rw_.row.wellSaid = true) : rw_.row.Holds := by
  refine PySem.W.holds_open (r := rw_.row) (q := qv) (loose := loose) (Xt := fun _ => true) (XP := fun _ _ => True) (YP := YP) (d := ⟨s "law", fArgs (bd 20), fBody (bd 20), fScope (bd 20), ⟨116, 0, 178, 89⟩⟩) (kwd := []) leftO (fun w s e => ?_) YP_keeps (fun _ _ => trivial) (fun _ _ _ _ _ => trivial) (by kernel_rfl) (by kernel_rfl) (by kernel_rfl) (fun s _ => recFacts_nil rfl) (by rfl) (by assumption) (by decide +kernel) ⟨rfl, rfl, rfl, rfl, rfl, by decide +kernel⟩ ?_ ?_
  · exact Eq.mpr (congrFun e w) (Classical.choose_spec (behind w)).2.2
  · w_witness2
  · intro w s₀ s₁ mg mb G Y a o pm cd doc dV kV ha hd hcd hD hmg hg args vals as hpre hlay hrd hwl hlo
    refine wpAny_mono ?_ (fun v s' x => GoodW.toG x) (fun e s' x => GoodW.toG x)
    wrow_args hpre hlay hrd hwl hlo
    rename_i ns _ _ _ _ _ _ _ L vs _ hL _ hW _ hI _ hc _
    have ea : a = 280 := by
      obtain ⟨o', es, ep, h1, h2, h3, h4⟩ := G.T.g
      have h5 : s₁.heap.get? mainGlobals = some (oMain w.params) := Y.1 _ _ (by kernel_rfl)
      rw [h5] at h1
      obtain rfl := Option.some.inj h1
      have h6 := (h4 (s "law")).trans hmg
      have h7 : nsOf (oMain w.params) (s "law") = some (.ref 280) := by kernel_rfl
      unfold nsOf at h7
      rw [h2] at h7
      exact Value.ref.inj (Option.some.inj (h6.symm.trans h7))
    subst ea
    refine wpAny_mono (walk w s₁ L vs ns Y hg (plain_of_well (xs := ofPys (ns.map PyData.int)) (by simpa only [ofPy] using hW) hL) hI (by omega)) (fun v s' h => ?_) (fun _ _ h => h.elim)
    obtain ⟨rfl, h1, h2, h3⟩ := h
    exact ⟨.inl ⟨.bool true, .bool true, [], rfl, fun _ => rfl, .bool true, postW_of rfl (w_eq_bool (w_res rfl) w_lit) rfl, unshared_nil⟩, h1, h2, h3⟩

end
end Hd1
namespace L1
open Wk Hd1
theorem ivs_ints {h : Heap} : ∀ {vs : List Value} {ns : List Int}, IntsAre vs ns → IVs h (intsIV ns) vs := by
  intro vs ns x
  induction x with
  | nil => exact trivial
  | cons => rename_i ih; exact ⟨⟨_, rfl⟩, ih⟩
theorem walk (plain : ∀ (d : List Sg) (n : Nat), d.Nodup → d.length ≤ 5 → (∀ i < n, Go d i) → ¬ Go d n → PlainOk d (bfs d n).1) (w : World) (s : Shared) (L : Addr) (vs : List Value) (ns : List Int) (Y : YP w s.heap) (hg : s.gens = #[]) (hl : PlainL s.heap L vs.toArray) (hi : IntsAre vs ns) (hn : ns.length ≤ 63) :
    wpAny (model pw w) callerA (PySem.call (.ref 280) [.ref L]) (fun v s' => v = .bool true ∧ (∀ b o, s.heap.get? b = some o → s'.heap.get? b = some o) ∧ s'.os = s.os ∧ s'.gens = #[]) (fun _ _ => False) s := by
  have c := law_call (w := w) (base := s.heap.get?) (k := 20) (Top.of Y) hn plain
  refine wpAny_mono (c callerA s [.ref L] ⟨by decide, by decide, rfl⟩ hg (fun a o e => e) ⟨⟨[L], L, vs, rfl, hl, ivs_ints hi, rfl⟩, trivial⟩) (fun v s' h => ?_) (fun _ _ h => h.elim)
  obtain ⟨x, fp, r, _⟩ := h
  exact ⟨r.1, x.2, x.1.2, x.1.1.trans hg⟩
set_option maxHeartbeats 8000000 in
theorem said : PySem.Challenge.rw_re0177_01.wellSaid = true := by
  unfold OpenLaw.wellSaid OpenRow.wellSaid OpenRow.partSaid looksOpen
  repeat' (with_reducible refine PySem.W.look_both ?_ ?_)
  all_goals (try rewrite [PySem.W.Fast.te2368527892694137696])
  all_goals (try rewrite [PySem.W.Fast.te3471404346716756564])
  all_goals (try rewrite [PySem.W.Fast.te10792542408131684335])
  all_goals (try rewrite [PySem.W.Fast.te18344453789297297638])
  all_goals (try rewrite [PySem.W.Fast.te17119622794617984870])
  all_goals (try rewrite [PySem.W.Fast.te6984425678791042302])
  all_goals (try rewrite [PySem.W.Fast.te5318747976498570220])
  all_goals (try rewrite [PySem.W.Fast.te9807087744658564304])
  all_goals (try rewrite [PySem.W.Fast.te9572597257264208301])
  all_goals (try rewrite [PySem.W.Fast.te8326940854005059898])
  all_goals (try rewrite [PySem.W.Fast.te797321630700447069])
  all_goals (try rewrite [PySem.W.Fast.te4857012375875476094])
  all_goals (try rewrite [PySem.W.Fast.te17095254045102204799])
  all_goals (try rewrite [PySem.W.Fast.te12879404354523853263])
  all_goals (try rewrite [PySem.W.Fast.te9558739934217749035])
  all_goals (try rewrite [PySem.W.Fast.te8377067652309620493])
  all_goals (try rewrite [PySem.W.Fast.te8179353310426384613])
  all_goals (try rewrite [PySem.W.Fast.te7723801398212525404])
  all_goals (try rewrite [PySem.W.Fast.te5923862056798008813])
  all_goals (try rewrite [PySem.W.Fast.te482687673346738481])
  all_goals (try rewrite [PySem.W.Fast.te4274047373036748609])
  all_goals (try rewrite [PySem.W.Fast.te2357444279172408678])
  all_goals (try rewrite [PySem.W.Fast.te17868728402115742887])
  all_goals (try rewrite [PySem.W.Fast.te17691160309236699985])
  all_goals (try rewrite [PySem.W.Fast.te16286561074155671207])
  all_goals (try rewrite [PySem.W.Fast.te14412699480532031325])
  all_goals (try rewrite [PySem.W.Fast.te13582783067957832011])
  all_goals (try rewrite [PySem.W.Fast.te13343964577679436407])
  all_goals (try rewrite [PySem.W.Fast.te12862048085361865435])
  all_goals (try rewrite [PySem.W.Fast.te12749700546528644094])
  all_goals (try rewrite [PySem.W.Fast.te11788848310118352699])
  all_goals (try rewrite [PySem.W.Fast.te10501279942588096481])
  all_goals kernel_rfl
open Wk Hd1
inductive Rch (d : List Sg) : Nat → List Nat → Prop
  | start {s t : Sg} {y : List Nat} : s ∈ d → t ∈ d → s ≠ t → y ∈ aheadN1 t (wd s) → Rch d 1 y
  | step {n : Nat} {x y : List Nat} {s : Sg} : Rch d n x → x ≠ [] → s ∈ d → y ∈ aheadN1 s x → Rch d (n + 1) y
theorem wd_ne : ∀ s : Sg, wd s ≠ [] := by decide
theorem mn_cons (s : Sg) (u : List Sg) : mn (s :: u) = wd s ++ mn u := by unfold mn; rw [List.flatMap_cons]
theorem ahead_in {x : List Nat} {s : Sg} {a b : List Nat} (h : x ++ a = wd s ++ b) : (∃ y, y ∈ aheadN1 s x ∧ y ++ a = b) ∨ ∃ y, y ∈ aheadN1 s x ∧ y ≠ [] ∧ a = y ++ b := by
  by_cases hl : (wd s).length ≤ x.length
  · left
    have hp : wd s <+: x := by
      have h1 : wd s <+: x ++ a := ⟨b, h.symm⟩
      exact List.prefix_of_prefix_length_le h1 (List.prefix_append x a) hl
    refine ⟨x.drop (wd s).length, ?_, ?_⟩
    · unfold aheadN1
      rw [if_pos (List.isPrefixOf_iff_prefix.mpr hp)]
      exact List.mem_singleton_self _
    · obtain ⟨z, rfl⟩ := hp
      rw [List.drop_left]
      rw [List.append_assoc] at h
      exact List.append_cancel_left h
  · right
    have hp : x <+: wd s := by
      have h1 : wd s <+: x ++ a := ⟨b, h.symm⟩
      exact List.prefix_of_prefix_length_le (List.prefix_append x a) h1 (by lia)
    obtain ⟨z, hz⟩ := hp
    have hnp : ¬ (wd s).isPrefixOf x = true := fun q => hl (List.isPrefixOf_iff_prefix.mp q).length_le
    refine ⟨z, ?_, ?_, ?_⟩
    · unfold aheadN1
      rw [if_neg hnp, if_pos (List.isPrefixOf_iff_prefix.mpr ⟨z, hz⟩), ← hz, List.drop_left]
      exact List.mem_singleton_self _
    · intro e
      rw [e, List.append_nil] at hz
      rw [hz] at hl
      exact hl (Nat.le_refl _)
    · rw [← hz, List.append_assoc] at h
      exact List.append_cancel_left h
theorem coll_core {d : List Sg} : ∀ (k : Nat) {n : Nat} {x : List Nat} {a b : List Sg}, a.length + b.length = k → (∀ s ∈ a, s ∈ d) → (∀ s ∈ b, s ∈ d) → Rch d n x → x ≠ [] → x ++ mn a = mn b → ∃ m, Rch d m [] ∧ m ≤ n + k := by
  intro k
  induction k with
  | zero =>
    intro n x a b hk ha hb hr hx h
    have : b = [] := List.length_eq_zero_iff.mp (by lia)
    subst this
    exact absurd (List.append_eq_nil_iff.mp h).1 hx
  | succ k ih =>
    intro n x a b hk ha hb hr hx h
    cases b with
    | nil => exact absurd (List.append_eq_nil_iff.mp h).1 hx
    | cons s b =>
      rw [mn_cons] at h
      rw [List.length_cons] at hk
      have hs : s ∈ d := hb s (List.mem_cons_self ..)
      rcases ahead_in h with ⟨y, hy, e⟩ | ⟨y, hy, hne, e⟩
      · by_cases hy0 : y = []
        · subst hy0
          exact ⟨n + 1, .step hr hx hs hy, by lia⟩
        · obtain ⟨m, h1, h2⟩ := ih (a := a) (b := b) (by lia) ha (fun t ht => hb t (List.mem_cons_of_mem _ ht)) (.step hr hx hs hy) hy0 e
          exact ⟨m, h1, by lia⟩
      · obtain ⟨m, h1, h2⟩ := ih (a := b) (b := a) (by lia) (fun t ht => hb t (List.mem_cons_of_mem _ ht)) ha (.step hr hx hs hy) hne e.symm
        exact ⟨m, h1, by lia⟩
theorem coll_start {d : List Sg} {s t : Sg} {u v : List Sg} (hst : s ≠ t) (hs : s ∈ d) (ht : t ∈ d) (hu : ∀ x ∈ u, x ∈ d) (hv : ∀ x ∈ v, x ∈ d) (h : wd s ++ mn u = wd t ++ mn v) : ∃ m, Rch d m [] ∧ m ≤ 1 + (u.length + v.length) := by
  rcases ahead_in h with ⟨y, hy, e⟩ | ⟨y, hy, hne, e⟩
  · by_cases hy0 : y = []
    · subst hy0
      exact ⟨1, .start hs ht hst hy, by lia⟩
    · exact coll_core _ rfl hu hv (.start hs ht hst hy) hy0 e
  · obtain ⟨m, h1, h2⟩ := coll_core _ rfl hv hu (.start hs ht hst hy) hne e.symm
    exact ⟨m, h1, by lia⟩
theorem coll {d : List Sg} : ∀ {u v : List Sg}, u ≠ v → (∀ x ∈ u, x ∈ d) → (∀ x ∈ v, x ∈ d) → mn u = mn v → ∃ m, Rch d m [] ∧ m + 1 ≤ u.length + v.length
  | [], [], hne, _, _, _ => absurd rfl hne
  | [], t :: v, _, _, _, h => by
    rw [mn_cons] at h
    exact absurd (List.append_eq_nil_iff.mp h.symm).1 (wd_ne t)
  | s :: u, [], _, _, _, h => by
    rw [mn_cons] at h
    exact absurd (List.append_eq_nil_iff.mp h).1 (wd_ne s)
  | s :: u, t :: v, hne, hu, hv, h => by
    rw [mn_cons, mn_cons] at h
    by_cases hst : s = t
    · subst hst
      obtain ⟨m, h1, h2⟩ := coll (u := u) (v := v) (fun e => hne (by rw [e])) (fun x hx => hu x (List.mem_cons_of_mem _ hx)) (fun x hx => hv x (List.mem_cons_of_mem _ hx)) (List.append_cancel_left h)
      exact ⟨m, h1, by simp; lia⟩
    · obtain ⟨m, h1, h2⟩ := coll_start hst (hu s (List.mem_cons_self ..)) (hv t (List.mem_cons_self ..)) (fun x hx => hu x (List.mem_cons_of_mem _ hx)) (fun x hx => hv x (List.mem_cons_of_mem _ hx)) h
      exact ⟨m, h1, by simp; lia⟩
structure RowOk (d : List Sg) (r : Row) : Prop where
  mean : mn r.2.1 = mn r.2.2 ++ r.1
  far : ∀ s ∈ r.2.1, s ∈ d
  near : ∀ s ∈ r.2.2, s ∈ d
  heads : ∃ a x b y, r.2.1 = a :: x ∧ r.2.2 = b :: y ∧ a ≠ b
theorem mn_one (s : Sg) : mn [s] = wd s := by unfold mn; simp
theorem step_rest {r : Row} {s : Sg} (h : r.2.2 ++ [s] ≠ r.2.1) : (stepR r s).map (·.1) = aheadN1 s r.1 := by
  unfold stepR aheadN1
  rw [if_neg h]
  by_cases c1 : (wd s).isPrefixOf r.1 = true
  · rw [if_pos c1, if_pos c1]; rfl
  · rw [if_neg c1, if_neg c1]
    by_cases c2 : r.1.isPrefixOf (wd s) = true
    · rw [if_pos c2, if_pos c2]; rfl
    · rw [if_neg c2, if_neg c2]; rfl
theorem RowOk.free {d : List Sg} {r : Row} (h : RowOk d r) (s : Sg) : r.2.2 ++ [s] ≠ r.2.1 := by
  obtain ⟨a, x, b, y, h1, h2, h3⟩ := h.heads
  rw [h1, h2]
  intro e
  injection e with e1 e2
  exact h3 e1.symm
theorem RowOk.step {d : List Sg} {r q : Row} {s : Sg} (h : RowOk d r) (hs : s ∈ d) (hq : q ∈ stepR r s) : RowOk d q := by
  have hf := h.free s
  obtain ⟨a, x, b, y, h1, h2, h3⟩ := h.heads
  unfold stepR at hq
  rw [if_neg hf] at hq
  have hnear : ∀ t ∈ r.2.2 ++ [s], t ∈ d := fun t ht => by
    rcases List.mem_append.mp ht with ht | ht
    · exact h.near t ht
    · rw [List.mem_singleton.mp ht]; exact hs
  have hm : mn (r.2.2 ++ [s]) = mn r.2.2 ++ wd s := mn_snoc _ _
  split at hq
  · rename_i c1
    rw [List.mem_singleton] at hq; subst hq
    obtain ⟨z, hz⟩ := List.isPrefixOf_iff_prefix.mp c1
    refine ⟨?_, h.far, hnear, a, x, b, y ++ [s], h1, by rw [h2]; rfl, h3⟩
    show mn r.2.1 = mn (r.2.2 ++ [s]) ++ r.1.drop (wd s).length
    rw [hm, h.mean, ← hz, List.drop_left, List.append_assoc]
  · split at hq
    · rename_i c2
      rw [List.mem_singleton] at hq; subst hq
      obtain ⟨z, hz⟩ := List.isPrefixOf_iff_prefix.mp c2
      refine ⟨?_, hnear, h.far, b, y ++ [s], a, x, by rw [h2]; rfl, h1, Ne.symm h3⟩
      show mn (r.2.2 ++ [s]) = mn r.2.1 ++ (wd s).drop r.1.length
      rw [hm, h.mean, ← hz, List.drop_left, List.append_assoc]
    · cases hq
theorem row0_ok {d : List Sg} {s t : Sg} {q : Row} (hs : s ∈ d) (ht : t ∈ d) (hq : q ∈ stepR (row0 s) t) : s ≠ t ∧ RowOk d q := by
  unfold stepR at hq
  by_cases c0 : (row0 s).2.2 ++ [t] = (row0 s).2.1
  · rw [if_pos c0] at hq; cases hq
  · rw [if_neg c0] at hq
    have hst : s ≠ t := fun e => c0 (by rw [e]; rfl)
    have hd : ∀ a, a ∈ d → ∀ x ∈ [a], x ∈ d := fun a ha x hx => by rw [List.mem_singleton.mp hx]; exact ha
    refine ⟨hst, ?_⟩
    split at hq
    · rename_i c1
      rw [List.mem_singleton] at hq; subst hq
      obtain ⟨z, hz⟩ := List.isPrefixOf_iff_prefix.mp c1
      refine ⟨?_, hd s hs, hd t ht, s, [], t, [], rfl, rfl, hst⟩
      show mn [s] = mn [t] ++ (wd s).drop (wd t).length
      have hz : wd t ++ z = wd s := hz
      rw [mn_one, mn_one, ← hz, List.drop_left]
    · split at hq
      · rename_i c2
        rw [List.mem_singleton] at hq; subst hq
        obtain ⟨z, hz⟩ := List.isPrefixOf_iff_prefix.mp c2
        refine ⟨?_, hd t ht, hd s hs, t, [], s, [], rfl, rfl, Ne.symm hst⟩
        show mn [t] = mn [s] ++ (wd t).drop (wd s).length
        have hz : wd s ++ z = wd t := hz
        rw [mn_one, mn_one, ← hz, List.drop_left]
      · cases hq
open Wk Hd1
theorem rest_in {r q : Row} {s : Sg} (hf : r.2.2 ++ [s] ≠ r.2.1) (hq : q ∈ stepR r s) : q.1 ∈ aheadN1 s r.1 := by
  rw [← step_rest hf]
  exact List.mem_map_of_mem hq
theorem rest_out {r : Row} {s : Sg} {y : List Nat} (hf : r.2.2 ++ [s] ≠ r.2.1) (hy : y ∈ aheadN1 s r.1) : ∃ q ∈ stepR r s, q.1 = y := by
  rw [← step_rest hf] at hy
  obtain ⟨q, h1, h2⟩ := List.mem_map.mp hy
  exact ⟨q, h1, h2⟩
theorem row0_free {s t : Sg} (h : s ≠ t) : (row0 s).2.2 ++ [t] ≠ (row0 s).2.1 := fun e => by
  have e : [t] = [s] := e
  injection e with e1
  exact h e1.symm
theorem rows_ok {d : List Sg} : ∀ {n : Nat}, (∀ i < n, Go d i) → 1 ≤ n → ∀ r ∈ (bfs d n).2, RowOk d r ∧ Rch d n r.1
  | 0, _, h, _, _ => absurd h (by decide)
  | n + 1, hgo, _, q, hq => by
    obtain ⟨r, hr, hq2⟩ := round_mem hq
    obtain ⟨s, hs, hq3⟩ := List.mem_flatMap.mp hq2
    cases n with
    | zero =>
      obtain ⟨s0, hs0, rfl⟩ := List.mem_map.mp hr
      obtain ⟨hne, hok⟩ := row0_ok hs0 hs hq3
      exact ⟨hok, .start hs0 hs hne (rest_in (row0_free hne) hq3)⟩
    | succ n =>
      obtain ⟨h1, h2⟩ := rows_ok (fun i hi => hgo i (by lia)) (by lia) r hr
      have I := binv (d := d) (n := n + 1) fun i hi => hgo i (by lia)
      have hne : r.1 ≠ [] := (hgo (n + 1) (by lia)).2 r (I.sub (by lia) r hr)
      exact ⟨h1.step hs hq3, .step h2 hne hs (rest_in (h1.free s) hq3)⟩
theorem told_succ (d : List Sg) (n : Nat) : (bfs d (n + 1)).1 = (bfs d n).1 ++ (bfs d (n + 1)).2 := rfl
theorem told_at {d : List Sg} : ∀ {n : Nat} {r : Row}, r ∈ (bfs d n).1 → ∃ m, 1 ≤ m ∧ m ≤ n ∧ r ∈ (bfs d m).2
  | 0, r, h => nomatch h
  | n + 1, r, h => by
    rw [told_succ] at h
    rcases List.mem_append.mp h with h | h
    · obtain ⟨m, h1, h2, h3⟩ := told_at h
      exact ⟨m, h1, by lia, h3⟩
    · exact ⟨n + 1, by lia, Nat.le_refl _, h⟩
theorem told_mono {d : List Sg} {m : Nat} {r : Row} (h : r ∈ (bfs d m).1) : ∀ {n : Nat}, m ≤ n → r ∈ (bfs d n).1
  | 0, hn => by
    have : m = 0 := by lia
    subst this; exact h
  | n + 1, hn => by
    by_cases e : m = n + 1
    · subst e; exact h
    · rw [told_succ]; exact List.mem_append_left _ (told_mono h (by lia))
theorem next_cover {d : List Sg} {j : Nat} {r q : Row} (hr : r ∈ (bfs d j).2) (hq : q ∈ nextR d r) : ∃ q' ∈ (bfs d (j + 1)).1, q'.1 = q.1 := by
  have := addR_cover (told := (bfs d j).1) ((bfs d j).2.flatMap (nextR d)) (fresh := []) (q := q) (List.mem_flatMap.mpr ⟨r, hr, hq⟩)
  exact this
theorem step_cover {d : List Sg} {j : Nat} {r : Row} {s : Sg} {y : List Nat} (hr : r ∈ (bfs d j).2) (hs : s ∈ d) (hf : r.2.2 ++ [s] ≠ r.2.1) (hy : y ∈ aheadN1 s r.1) : ∃ q ∈ (bfs d (j + 1)).1, q.1 = y := by
  obtain ⟨q, h1, h2⟩ := rest_out hf hy
  obtain ⟨q', h3, h4⟩ := next_cover hr (List.mem_flatMap.mpr ⟨s, hs, h1⟩)
  exact ⟨q', h3, h4.trans h2⟩
theorem row0_mem {d : List Sg} {s : Sg} (h : s ∈ d) : row0 s ∈ (bfs d 0).2 := List.mem_map_of_mem h
theorem cover {d : List Sg} {n : Nat} (hgo : ∀ i < n, Go d i) {m : Nat} {y : List Nat} (h : Rch d m y) : m ≤ n → ∃ q ∈ (bfs d m).1, q.1 = y := by
  induction h with
  | start hs ht hne hy => exact fun _ => step_cover (row0_mem hs) ht (row0_free hne) hy
  | @step m x y s hr hx hs hy ih =>
    intro hm
    obtain ⟨q, h1, rfl⟩ := ih (by lia)
    obtain ⟨j, h2, h3, h4⟩ := told_at h1
    have hok := (rows_ok (fun i hi => hgo i (by lia)) h2 q h4).1
    obtain ⟨p, h5, h6⟩ := step_cover h4 hs (hok.free s) hy
    exact ⟨p, told_mono h5 (by lia), h6⟩
theorem cover_all {d : List Sg} {n : Nat} (hgo : ∀ i < n, Go d i) (he : (bfs d n).2 = []) {m : Nat} {y : List Nat} (h : Rch d m y) : ∃ q ∈ (bfs d n).1, q.1 = y := by
  have h0 : ∀ {s : Sg}, s ∈ d → 1 ≤ n := fun {s} hs => by
    cases n with
    | zero => have := row0_mem hs; rw [he] at this; cases this
    | succ n => lia
  induction h with
  | start hs ht hne hy =>
    obtain ⟨q, h1, h2⟩ := step_cover (row0_mem hs) ht (row0_free hne) hy
    exact ⟨q, told_mono h1 (h0 hs), h2⟩
  | @step m x y s hr hx hs hy ih =>
    obtain ⟨q, h1, rfl⟩ := ih
    obtain ⟨j, h2, h3, h4⟩ := told_at h1
    have hok := (rows_ok (fun i hi => hgo i (by lia)) h2 q h4).1
    obtain ⟨p, h5, h6⟩ := step_cover h4 hs (hok.free s) hy
    have hjn : j ≠ n := fun e => by rw [e, he] at h4; cases h4
    exact ⟨p, told_mono h5 (by lia), h6⟩
theorem coll_le {d : List Sg} {n : Nat} (hgo : ∀ i < n, Go d i) {m : Nat} (h : Rch d m []) : n ≤ m := by
  by_cases hm : n ≤ m
  · exact hm
  · obtain ⟨q, h1, h2⟩ := cover hgo h (by lia)
    exact absurd h2 ((hgo m (by lia)).2 q h1)
theorem told_row {d : List Sg} {n : Nat} (hgo : ∀ i < n, Go d i) {r : Row} (h : r ∈ (bfs d n).1) : RowOk d r ∧ ∃ m, Rch d m r.1 := by
  obtain ⟨m, h1, h2, h3⟩ := told_at h
  obtain ⟨h4, h5⟩ := rows_ok (fun i hi => hgo i (by lia)) h1 r h3
  exact ⟨h4, m, h5⟩
open Wk Hd1
structure SInv (done : List (List Sg)) (st : Seen) : Prop where
  seen1 : ∀ p ∈ st.2, ∃ u ∈ done, mn u = p.1 ∧ u.length = p.2
  seen2 : ∀ u ∈ done, ∃ p, st.2.find? (fun p => p.1 == mn u) = some p ∧ p.2 ≤ u.length
  best1 : st.1 ≠ 0 → ∃ u ∈ done, ∃ v ∈ done, u ≠ v ∧ mn u = mn v ∧ st.1 = u.length + v.length
  best2 : ∀ u ∈ done, ∀ v ∈ done, u ≠ v → mn u = mn v → st.1 ≠ 0 ∧ st.1 ≤ u.length + v.length
theorem SInv.step {done : List (List Sg)} {st : Seen} (I : SInv done st) {u : List Sg} (hu : ∀ v ∈ done, v ≠ u ∧ v.length ≤ u.length) (h1 : 1 ≤ u.length) : SInv (done ++ [u]) (turnB st u) := by
  have hin : ∀ v ∈ done, v ∈ done ++ [u] := fun v hv => List.mem_append_left _ hv
  have hu' : u ∈ done ++ [u] := by simp
  have hsp : ∀ v ∈ done ++ [u], v ∈ done ∨ v = u := fun v hv => by simpa using hv
  unfold turnB
  cases hq : st.2.find? (fun p => p.1 == mn u) with
  | none =>
    have hno : ∀ v ∈ done, mn v ≠ mn u := fun v hv e => by
      obtain ⟨p, h2, _⟩ := I.seen2 v hv
      rw [e, hq] at h2
      cases h2
    refine ⟨fun p hp => ?_, fun v hv => ?_, fun hb => ?_, fun a ha b hb hne e => ?_⟩
    · rcases List.mem_append.mp hp with hp | hp
      · obtain ⟨v, h2, h3⟩ := I.seen1 p hp
        exact ⟨v, hin v h2, h3⟩
      · rw [List.mem_singleton.mp hp]
        exact ⟨u, hu', rfl, rfl⟩
    · rcases hsp v hv with hv | rfl
      · obtain ⟨p, h2, h3⟩ := I.seen2 v hv
        exact ⟨p, by rw [List.find?_append, h2]; rfl, h3⟩
      · refine ⟨(mn v, v.length), ?_, Nat.le_refl _⟩
        rw [List.find?_append, hq]
        simp
    · obtain ⟨a, h2, b, h3, h4⟩ := I.best1 hb
      exact ⟨a, hin a h2, b, hin b h3, h4⟩
    · rcases hsp a ha with ha2 | rfl
      · rcases hsp b hb with hb2 | rfl
        · exact I.best2 a ha2 b hb2 hne e
        · exact absurd e (hno a ha2)
      · rcases hsp b hb with hb2 | rfl
        · exact absurd e.symm (hno b hb2)
        · exact absurd rfl hne
  | some p =>
    have hp1 : p.1 = mn u := by simpa using List.find?_some hq
    obtain ⟨v0, hv0, e1, e2⟩ := I.seen1 p (List.mem_of_find?_eq_some hq)
    have hv0u := hu v0 hv0
    have hp2 : ∀ v ∈ done, mn v = mn u → p.2 ≤ v.length := fun v hv e => by
      obtain ⟨p', h2, h3⟩ := I.seen2 v hv
      rw [e, hq] at h2
      cases h2
      exact h3
    dsimp only
    refine ⟨fun q hq2 => ?_, fun v hv => ?_, fun hb => ?_, fun a ha b hb hne e => ?_⟩
    · obtain ⟨v, h2, h3⟩ := I.seen1 q hq2
      exact ⟨v, hin v h2, h3⟩
    · rcases hsp v hv with hv | rfl
      · exact I.seen2 v hv
      · exact ⟨p, hq, by lia⟩
    · dsimp only at hb ⊢
      by_cases c : st.1 = 0 ∨ p.2 + u.length < st.1
      · rw [if_pos c]
        exact ⟨v0, hin v0 hv0, u, hu', hv0u.1, e1.trans hp1, by lia⟩
      · rw [if_neg c]
        rw [if_neg c] at hb
        obtain ⟨a, h2, b, h3, h4⟩ := I.best1 hb
        exact ⟨a, hin a h2, b, hin b h3, h4⟩
    · dsimp only
      have key : ∀ a ∈ done, mn a = mn u → (if st.1 = 0 ∨ p.2 + u.length < st.1 then p.2 + u.length else st.1) ≠ 0 ∧ (if st.1 = 0 ∨ p.2 + u.length < st.1 then p.2 + u.length else st.1) ≤ a.length + u.length := fun a ha e => by
        have := hp2 a ha e
        split <;> lia
      rcases hsp a ha with ha2 | rfl
      · rcases hsp b hb with hb2 | rfl
        · have := I.best2 a ha2 b hb2 hne e
          split <;> lia
        · exact key a ha2 e
      · rcases hsp b hb with hb2 | rfl
        · have := key b hb2 e.symm
          lia
        · exact absurd rfl hne
theorem runS : ∀ (l : List (List Sg)) {done : List (List Sg)} {st : Seen}, SInv done st → (done ++ l).Pairwise (fun a b => a ≠ b ∧ a.length ≤ b.length) → (∀ u ∈ l, 1 ≤ u.length) → SInv (done ++ l) (l.foldl turnB st)
  | [], done, st, I, _, _ => by rw [List.append_nil]; exact I
  | u :: l, done, st, I, hp, h1 => by
    have e : done ++ u :: l = (done ++ [u]) ++ l := by simp
    rw [e] at hp ⊢
    refine runS l (I.step (fun v hv => ?_) (h1 u (List.mem_cons_self ..))) hp fun v hv => h1 v (List.mem_cons_of_mem _ hv)
    have h2 := (List.pairwise_append.mp hp).1
    exact (List.pairwise_append.mp h2).2.2 v hv u (List.mem_singleton_self u)
theorem layW_nodup {d : List Sg} (h : d.Nodup) : ∀ n, (layW d n).Pairwise (· ≠ ·)
  | 0 => List.pairwise_singleton _ _
  | n + 1 => by
    show ((layW d n).flatMap fun u => d.map fun s => u ++ [s]).Pairwise _
    rw [List.pairwise_flatMap]
    refine ⟨fun u _ => ?_, (layW_nodup h n).imp fun {a b} hab x hx y hy e => ?_⟩
    · rw [List.pairwise_map]
      exact (List.nodup_iff_pairwise_ne.mp h).imp fun {a b} hab e => hab (by simpa using e)
    · obtain ⟨s, _, rfl⟩ := List.mem_map.mp hx
      obtain ⟨t, _, rfl⟩ := List.mem_map.mp hy
      have := List.append_inj' e rfl
      exact hab this.1
noncomputable def LL (d : List Sg) : List (List Sg) := layW d 1 ++ layW d 2 ++ layW d 3
theorem runB_LL (d : List Sg) : runB d 3 = (LL d).foldl turnB (0, []) := by
  unfold LL
  rw [List.foldl_append, List.foldl_append]
  rfl
theorem LL_mem {d : List Sg} {u : List Sg} : u ∈ LL d ↔ (1 ≤ u.length ∧ u.length ≤ 3) ∧ ∀ s ∈ u, s ∈ d := by
  unfold LL
  rw [List.mem_append, List.mem_append, layW_mem, layW_mem, layW_mem]
  constructor
  · rintro ((⟨h1, h2⟩ | ⟨h1, h2⟩) | ⟨h1, h2⟩) <;> exact ⟨by lia, h2⟩
  · rintro ⟨h1, h2⟩
    have : u.length = 1 ∨ u.length = 2 ∨ u.length = 3 := by lia
    rcases this with h | h | h
    · exact .inl (.inl ⟨h, h2⟩)
    · exact .inl (.inr ⟨h, h2⟩)
    · exact .inr ⟨h, h2⟩
theorem LL_pair {d : List Sg} (h : d.Nodup) : (LL d).Pairwise (fun a b => a ≠ b ∧ a.length ≤ b.length) := by
  have hp : ∀ n, (layW d n).Pairwise (fun a b => a ≠ b ∧ a.length ≤ b.length) := fun n => (layW_nodup h n).imp_of_mem fun {a b} ha hb hab => ⟨hab, by rw [(layW_mem.mp ha).1, (layW_mem.mp hb).1]; exact Nat.le_refl _⟩
  have hlt : ∀ a b : List Sg, a.length < b.length → a ≠ b ∧ a.length ≤ b.length := fun a b hab => ⟨fun e => by rw [e] at hab; exact Nat.lt_irrefl _ hab, Nat.le_of_lt hab⟩
  unfold LL
  refine List.pairwise_append.mpr ⟨List.pairwise_append.mpr ⟨hp 1, hp 2, fun a ha b hb => hlt a b (by rw [(layW_mem.mp ha).1, (layW_mem.mp hb).1]; decide)⟩, hp 3, fun a ha b hb => hlt a b ?_⟩
  rcases List.mem_append.mp ha with ha | ha
  · rw [(layW_mem.mp ha).1, (layW_mem.mp hb).1]; decide
  · rw [(layW_mem.mp ha).1, (layW_mem.mp hb).1]; decide
theorem best_inv {d : List Sg} (h : d.Nodup) : SInv (LL d) (runB d 3) := by
  rw [runB_LL]
  exact runS (LL d) (done := []) ⟨fun p hp => (nomatch hp), fun u hu => (nomatch hu), fun hb => absurd rfl hb, fun u hu => (nomatch hu)⟩ (LL_pair h) fun u hu => (LL_mem.mp hu).1.1
theorem best_some {d : List Sg} (h : d.Nodup) (hb : (runB d 3).1 ≠ 0) : ∃ u v : List Sg, u ≠ v ∧ (∀ s ∈ u, s ∈ d) ∧ (∀ s ∈ v, s ∈ d) ∧ mn u = mn v ∧ (runB d 3).1 = u.length + v.length := by
  obtain ⟨u, hu, v, hv, h1, h2, h3⟩ := (best_inv h).best1 hb
  exact ⟨u, v, h1, (LL_mem.mp hu).2, (LL_mem.mp hv).2, h2, h3⟩
theorem best_le {d : List Sg} (h : d.Nodup) {u v : List Sg} (hne : u ≠ v) (hu : ∀ s ∈ u, s ∈ d) (hv : ∀ s ∈ v, s ∈ d) (h1 : 1 ≤ u.length ∧ u.length ≤ 3) (h2 : 1 ≤ v.length ∧ v.length ≤ 3) (e : mn u = mn v) : (runB d 3).1 ≠ 0 ∧ (runB d 3).1 ≤ u.length + v.length :=
  (best_inv h).best2 u (LL_mem.mpr ⟨h1, hu⟩) v (LL_mem.mpr ⟨h2, hv⟩) hne e
open Wk Hd1
noncomputable def eT : Nat := 0x108000000000100000000000000000008010001000000000000000001000000000000000001000000000000000000010000000400000000000000080000000000000000800000000000000040000000000000000400000000000000000000000108000000000000002000000000001000000000000400000000000000020000000000
noncomputable def qT : Nat := 0x800000000000000000001000000000000000000000000000000000000000000080000000000000000000000082000000000000000000000040800000000000000000000000000000000008040040000000000000000000000000000000000000000040200000000000000000000000000001000000000000400000000000000000000000000000000080000000000000000000000000000000000800000000000000000000000000000000040000000000000000000000000000000000400000000000000000000000001000800000000000000000000000000000000200000000000000000000000000000000000000000100000000000000000000000000000000400000000000000000000080000000000020000000000000000000800
noncomputable def lT : Nat := 0x118102040816493045514a14d2
noncomputable def nT : Nat := 0x2555eaeae
noncomputable def frc (n : Nat) (f : Nat → Bool) : Bool := match n with | 0 => f 0 | k + 1 => f (k + 1)
theorem frc_eq (n : Nat) (f : Nat → Bool) : frc n f = f n := by cases n <;> rfl
noncomputable def ent (s : Nat) : Nat := Nat.mod (Nat.shiftRight eT (Nat.mul 64 s)) 18446744073709551616
noncomputable def qnt (s t : Nat) : Nat := Nat.mod (Nat.shiftRight qT (Nat.mul 8 (Nat.add (Nat.mul 17 s) t))) 256
noncomputable def lnt (s : Nat) : Nat := Nat.mod (Nat.shiftRight lT (Nat.mul 6 s)) 64
noncomputable def nnt (s : Nat) : Nat := Nat.mod (Nat.shiftRight nT (Nat.mul 2 s)) 4
noncomputable def eM (l : List Nat) : Nat := l.foldr (fun s a => Nat.lor (ent s) a) 0
noncomputable def rowQ (s : Nat) (l : List Nat) : Nat := l.foldr (fun t a => Nat.lor (qnt s t) a) 0
noncomputable def pM : List Nat → Nat
  | [] => 0
  | s :: l => Nat.lor (rowQ s l) (pM l)
noncomputable def gx (E R x : Nat) : Nat := Nat.mul (Nat.mod (Nat.shiftRight R x) 2) (Nat.mod (Nat.shiftRight E (Nat.mul 8 x)) 256)
noncomputable def stM (E R : Nat) : Nat := Nat.lor R (Nat.lor (gx E R 1) (Nat.lor (gx E R 2) (Nat.lor (gx E R 3) (Nat.lor (gx E R 4) (Nat.lor (gx E R 5) (Nat.lor (gx E R 6) (gx E R 7)))))))
noncomputable def lM (l : List Nat) : Nat := l.foldr (fun s a => Nat.lor (lnt s) a) 0
noncomputable def cnt (m : Nat) : Nat := Nat.add (Nat.mod m 2) (Nat.add (Nat.mod (Nat.shiftRight m 1) 2) (Nat.add (Nat.mod (Nat.shiftRight m 2) 2) (Nat.add (Nat.mod (Nat.shiftRight m 3) 2) (Nat.add (Nat.mod (Nat.shiftRight m 4) 2) (Nat.mod (Nat.shiftRight m 5) 2)))))
noncomputable def shM (c : Nat) (l : List Nat) : Nat := l.foldr (fun s a => Nat.add (Nat.pow c (Nat.sub 3 (nnt s))) a) 0
noncomputable def krM (l : List Nat) : Bool := frc (cnt (lM l)) fun c => Nat.ble (shM c l) (Nat.pow c 3)
noncomputable def chk (l : List Nat) : Bool := frc (eM l) fun E => frc (pM l) fun P => frc (stM E P) fun R => frc (stM E R) fun R => frc (stM E R) fun R => bif Nat.beq (Nat.mod R 2) 1 then true else bif l == [15, 14, 3, 2, 1] then true else bif Nat.beq (stM E R) R then krM l else false
noncomputable def wlk (L : List Nat) : Nat → List Nat → Bool := List.rec (motive := fun _ => Nat → List Nat → Bool) (fun _ acc => chk acc) (fun s _ ih k acc => Nat.casesOn (motive := fun _ => Bool) k (chk acc) (fun k => bif ih k (s :: acc) then ih (Nat.succ k) acc else false)) L
set_option maxRecDepth 1000000 in
theorem wlk_all : wlk [0, 1, 2, 3, 4, 5, 6, 7, 8, 9, 10, 11, 12, 13, 14, 15, 16] 5 [] = true := by decide +kernel
open Wk Hd1
theorem wlk_sound : ∀ (L : List Nat) (k : Nat) (acc : List Nat), wlk L k acc = true → ∀ l : List Nat, l.Sublist L → l.length ≤ k → chk (l.reverse ++ acc) = true
  | [], k, acc, h, l, hs, _ => by
    rw [List.sublist_nil.mp hs]
    exact h
  | s :: L, 0, acc, h, l, hs, hl => by
    rw [List.length_eq_zero_iff.mp (Nat.le_zero.mp hl)]
    exact h
  | s :: L, k + 1, acc, h, l, hs, hl => by
    have h : (bif wlk L k (s :: acc) then wlk L (k + 1) acc else false) = true := h
    cases h1 : wlk L k (s :: acc) with
    | false => rw [h1] at h; cases h
    | true =>
      rw [h1] at h
      cases hs with
      | cons _ hs => exact wlk_sound L (k + 1) acc h l hs hl
      | @cons_cons l' _ _ hs =>
        have := wlk_sound L k (s :: acc) h1 l' hs (by simp at hl; lia)
        rw [List.reverse_cons, List.append_assoc]
        exact this
noncomputable def suf (i : Nat) : List Nat := sufs.getD i []
theorem suf_inj : ∀ i j : Fin 8, suf i.val = suf j.val → i = j := by decide +kernel
theorem ent_bit : ∀ (s : Sg) (x y : Fin 8), x.val ≠ 0 → (ent s.val).testBit (8 * x.val + y.val) = decide (suf y.val ∈ aheadN1 s (suf x.val)) := by decide +kernel
theorem qnt_bit : ∀ (s t : Sg) (y : Fin 8), (qnt s.val t.val).testBit y.val = decide (s ≠ t ∧ suf y.val ∈ aheadN1 t (wd s)) := by decide +kernel
theorem qnt_sym : ∀ s t : Sg, qnt s.val t.val = qnt t.val s.val := by decide +kernel
theorem qnt_self : ∀ s : Sg, qnt s.val s.val = 0 := by decide +kernel
theorem ahead_suf : ∀ (s : Sg) (x : Fin 8), x.val ≠ 0 → ∀ y ∈ aheadN1 s (suf x.val), ∃ i : Fin 8, suf i.val = y := by decide +kernel
theorem ahead_wd : ∀ s t : Sg, ∀ y ∈ aheadN1 t (wd s), ∃ i : Fin 8, suf i.val = y := by decide +kernel
theorem eM_bit (l : List Nat) (i : Nat) : (eM l).testBit i = true ↔ ∃ s ∈ l, (ent s).testBit i = true := by
  induction l with
  | nil => simp [eM]
  | cons s l ih =>
    have e : eM (s :: l) = ent s ||| eM l := rfl
    rw [e, Nat.testBit_or, Bool.or_eq_true, ih]
    simp
theorem rowQ_bit (s : Nat) (l : List Nat) (i : Nat) : (rowQ s l).testBit i = true ↔ ∃ t ∈ l, (qnt s t).testBit i = true := by
  induction l with
  | nil => simp [rowQ]
  | cons t l ih =>
    have e : rowQ s (t :: l) = qnt s t ||| rowQ s l := rfl
    rw [e, Nat.testBit_or, Bool.or_eq_true, ih]
    simp
theorem pM_in {l : List Nat} {i : Nat} : (pM l).testBit i = true → ∃ s ∈ l, ∃ t ∈ l, (qnt s t).testBit i = true := by
  induction l with
  | nil => intro h; simp [pM] at h
  | cons s l ih =>
    intro h
    have e : pM (s :: l) = rowQ s l ||| pM l := rfl
    rw [e, Nat.testBit_or, Bool.or_eq_true, rowQ_bit] at h
    rcases h with ⟨t, ht, h⟩ | h
    · exact ⟨s, List.mem_cons_self .., t, List.mem_cons_of_mem _ ht, h⟩
    · obtain ⟨a, ha, b, hb, h⟩ := ih h
      exact ⟨a, List.mem_cons_of_mem _ ha, b, List.mem_cons_of_mem _ hb, h⟩
theorem pM_out {l : List Nat} (hl : ∀ i ∈ l, i < 17) {i : Nat} {s t : Nat} (hs : s ∈ l) (ht : t ∈ l) (h : (qnt s t).testBit i = true) : (pM l).testBit i = true := by
  induction l with
  | nil => cases hs
  | cons a l ih =>
    have e : pM (a :: l) = rowQ a l ||| pM l := rfl
    rw [e, Nat.testBit_or, Bool.or_eq_true, rowQ_bit]
    have hs17 := hl s hs
    have ht17 := hl t ht
    rcases List.mem_cons.mp hs with rfl | hs2
    · rcases List.mem_cons.mp ht with rfl | ht2
      · rw [qnt_self ⟨t, ht17⟩] at h
        simp at h
      · exact .inl ⟨t, ht2, h⟩
    · rcases List.mem_cons.mp ht with rfl | ht2
      · rw [qnt_sym ⟨s, hs17⟩ ⟨t, ht17⟩] at h
        exact .inl ⟨s, hs2, h⟩
      · exact .inr (ih (fun j hj => hl j (List.mem_cons_of_mem _ hj)) hs2 ht2)
theorem gx_bit (E R x y : Nat) : (gx E R x).testBit y = (R.testBit x && (decide (y < 8) && E.testBit (8 * x + y))) := by
  have e : gx E R x = ((R >>> x) % 2) * ((E >>> (8 * x)) % 2 ^ 8) := rfl
  rw [e, Nat.testBit_eq_decide_div_mod_eq (x := R), ← Nat.shiftRight_eq_div_pow]
  rcases Nat.mod_two_eq_zero_or_one (R >>> x) with h | h
  · rw [h, Nat.zero_mul]; simp
  · rw [h, Nat.one_mul, Nat.testBit_mod_two_pow, Nat.testBit_shiftRight]; simp
theorem stM_bit (E R y : Nat) : (stM E R).testBit y = true ↔ R.testBit y = true ∨ ∃ x, x < 8 ∧ x ≠ 0 ∧ R.testBit x = true ∧ y < 8 ∧ E.testBit (8 * x + y) = true := by
  have e : stM E R = R ||| (gx E R 1 ||| (gx E R 2 ||| (gx E R 3 ||| (gx E R 4 ||| (gx E R 5 ||| (gx E R 6 ||| gx E R 7)))))) := rfl
  rw [e]
  simp only [Nat.testBit_or, gx_bit, Bool.or_eq_true, Bool.and_eq_true, decide_eq_true_eq]
  constructor
  · rintro (h | h | h | h | h | h | h | h)
    · exact .inl h
    all_goals exact .inr ⟨_, by decide, by decide, h.1, h.2.1, h.2.2⟩
  · rintro (h | ⟨x, h1, h2, h3, h4, h5⟩)
    · exact .inl h
    · have : x = 1 ∨ x = 2 ∨ x = 3 ∨ x = 4 ∨ x = 5 ∨ x = 6 ∨ x = 7 := by lia
      rcases this with rfl | rfl | rfl | rfl | rfl | rfl | rfl
      · exact .inr (.inl ⟨h3, h4, h5⟩)
      · exact .inr (.inr (.inl ⟨h3, h4, h5⟩))
      · exact .inr (.inr (.inr (.inl ⟨h3, h4, h5⟩)))
      · exact .inr (.inr (.inr (.inr (.inl ⟨h3, h4, h5⟩))))
      · exact .inr (.inr (.inr (.inr (.inr (.inl ⟨h3, h4, h5⟩)))))
      · exact .inr (.inr (.inr (.inr (.inr (.inr (.inl ⟨h3, h4, h5⟩))))))
      · exact .inr (.inr (.inr (.inr (.inr (.inr (.inr ⟨h3, h4, h5⟩))))))
noncomputable def RR (E P : Nat) : Nat → Nat
  | 0 => P
  | i + 1 => stM E (RR E P i)
theorem suf_ne {x : Nat} (h : x < 8) (h0 : x ≠ 0) : suf x ≠ [] := fun e => by
  have := suf_inj ⟨x, h⟩ 0 e
  exact h0 (congrArg Fin.val this)
theorem rr_sound {l : List Nat} {d : List Sg} (hl : ∀ i ∈ l, i < 17) (hd : ∀ s : Sg, s.val ∈ l → s ∈ d) : ∀ (i : Nat) {y : Nat}, y < 8 → (RR (eM l) (pM l) i).testBit y = true → ∃ m, m ≤ i + 1 ∧ Rch d m (suf y)
  | 0, y, hy, h => by
    obtain ⟨s, hs, t, ht, h1⟩ := pM_in h
    have h2 := qnt_bit ⟨s, hl s hs⟩ ⟨t, hl t ht⟩ ⟨y, hy⟩
    rw [h1] at h2
    have h3 := of_decide_eq_true h2.symm
    exact ⟨1, Nat.le_refl _, .start (hd ⟨s, hl s hs⟩ hs) (hd ⟨t, hl t ht⟩ ht) h3.1 h3.2⟩
  | i + 1, y, hy, h => by
    rcases (stM_bit _ _ _).mp h with h | ⟨x, h1, h2, h3, _, h5⟩
    · obtain ⟨m, h1, h2⟩ := rr_sound hl hd i hy h
      exact ⟨m, by lia, h2⟩
    · obtain ⟨m, h6, h7⟩ := rr_sound hl hd i h1 h3
      obtain ⟨s, hs, h8⟩ := (eM_bit _ _).mp h5
      have h9 := ent_bit ⟨s, hl s hs⟩ ⟨x, h1⟩ ⟨y, hy⟩ h2
      rw [h8] at h9
      exact ⟨m + 1, by lia, .step h7 (suf_ne h1 h2) (hd ⟨s, hl s hs⟩ hs) (of_decide_eq_true h9.symm)⟩
theorem rr_all {l : List Nat} {d : List Sg} (hl : ∀ i ∈ l, i < 17) (hd : ∀ s : Sg, s ∈ d → s.val ∈ l) {R : Nat} (hP : ∀ y, (pM l).testBit y = true → R.testBit y = true) (hR : stM (eM l) R = R) {m : Nat} {x : List Nat} (h : Rch d m x) : ∃ y : Fin 8, suf y.val = x ∧ R.testBit y.val = true := by
  induction h with
  | @start s t y hs ht hne hy =>
    obtain ⟨i, rfl⟩ := ahead_wd s t y hy
    refine ⟨i, rfl, hP _ (pM_out hl (hd s hs) (hd t ht) ?_)⟩
    rw [qnt_bit]
    exact decide_eq_true ⟨hne, hy⟩
  | @step n x y s hr hx hs hy ih =>
    obtain ⟨i, rfl, hi⟩ := ih
    have h0 : i.val ≠ 0 := fun e => hx (by rw [e]; rfl)
    obtain ⟨j, rfl⟩ := ahead_suf s i h0 y hy
    refine ⟨j, rfl, ?_⟩
    rw [← hR]
    refine (stM_bit _ _ _).mpr (.inr ⟨i.val, i.isLt, h0, hi, j.isLt, (eM_bit _ _).mpr ⟨s.val, hd s hs, ?_⟩⟩)
    rw [ent_bit s i j h0]
    exact decide_eq_true hy
theorem rr_up (E P : Nat) : ∀ (i : Nat) {y : Nat}, P.testBit y = true → (RR E P i).testBit y = true
  | 0, _, h => h
  | i + 1, _, h => (stM_bit _ _ _).mpr (.inl (rr_up E P i h))
theorem chk_sem {l : List Nat} {d : List Sg} (hl : ∀ i ∈ l, i < 17) (hd : ∀ s : Sg, s ∈ d ↔ s.val ∈ l) (h : chk l = true) : (∃ m, m ≤ 4 ∧ Rch d m []) ∨ l = [15, 14, 3, 2, 1] ∨ ((∀ m, ¬ Rch d m []) ∧ krM l = true) := by
  unfold chk at h
  simp only [frc_eq] at h
  have e3 : stM (eM l) (stM (eM l) (stM (eM l) (pM l))) = RR (eM l) (pM l) 3 := rfl
  rw [e3] at h
  have hb : (RR (eM l) (pM l) 3).testBit 0 = Nat.beq (Nat.mod (RR (eM l) (pM l) 3) 2) 1 := by
    rw [Nat.testBit_zero]
    rw [Bool.eq_iff_iff, decide_eq_true_eq, Nat.beq_eq]
    exact Iff.rfl
  cases h1 : Nat.beq (Nat.mod (RR (eM l) (pM l) 3) 2) 1 with
  | true =>
    left
    rw [h1] at hb
    exact rr_sound hl (fun s hs => (hd s).mpr hs) 3 (by decide) hb
  | false =>
    rw [h1] at h hb
    right
    cases h2 : l == [15, 14, 3, 2, 1] with
    | true => left; exact eq_of_beq h2
    | false =>
      rw [h2] at h
      cases h3 : Nat.beq (stM (eM l) (RR (eM l) (pM l) 3)) (RR (eM l) (pM l) 3) with
      | false => rw [h3] at h; cases h
      | true =>
        rw [h3] at h
        right
        refine ⟨fun m hr => ?_, h⟩
        obtain ⟨y, h4, h5⟩ := rr_all hl (fun s hs => (hd s).mp hs) (fun y hy => rr_up _ _ 3 hy) (Nat.eq_of_beq_eq_true h3) hr
        have := suf_inj y 0 h4
        rw [this] at h5
        have h5 : (RR (eM l) (pM l) 3).testBit 0 = true := h5
        rw [hb] at h5
        cases h5
open Wk Hd1
theorem addS_mem (l : List Str) (x y : Str) : y ∈ addS l x ↔ y ∈ l ∨ y = x := by
  unfold addS
  split
  · rename_i c
    rw [List.contains_iff_mem] at c
    exact ⟨.inl, fun h => h.elim id fun e => e ▸ c⟩
  · simp
theorem addS_nodup {l : List Str} (x : Str) (h : l.Nodup) : (addS l x).Nodup := by
  unfold addS
  split
  · exact h
  · rename_i c
    rw [List.contains_iff_mem] at c
    refine List.nodup_append.mpr ⟨h, by simp, fun a ha b hb e => ?_⟩
    rw [List.mem_singleton] at hb
    exact c (by rw [← hb, ← e]; exact ha)
theorem foldS (l : List Str) : ∀ r : List Str, (r.Nodup → (l.foldl addS r).Nodup) ∧ ∀ y, y ∈ l.foldl addS r ↔ y ∈ r ∨ y ∈ l := by
  induction l with
  | nil => intro r; exact ⟨id, fun y => by simp⟩
  | cons x l ih =>
    intro r
    obtain ⟨h1, h2⟩ := ih (addS r x)
    refine ⟨fun h => h1 (addS_nodup x h), fun y => ?_⟩
    rw [List.foldl_cons, h2, addS_mem, List.mem_cons, or_assoc]
theorem metS_nodup (l : List Str) : (metS l).Nodup := (foldS l []).1 List.nodup_nil
theorem metS_mem (l : List Str) (y : Str) : y ∈ metS l ↔ y ∈ l := by
  have := (foldS l []).2 y
  unfold metS
  rw [this]
  simp
noncomputable def ltr (i : Nat) : Nat := [97, 104, 107, 109, 112, 117].getD i 0
theorem ltr_inj : ∀ i j : Fin 6, ltr i.val = ltr j.val → i = j := by decide
theorem lnt_bit : ∀ (s : Sg) (i : Fin 6), (lnt s.val).testBit i.val = (wd s).contains (ltr i.val) := by decide +kernel
theorem wd_ltr : ∀ s : Sg, ∀ c ∈ wd s, ∃ i : Fin 6, ltr i.val = c := by decide +kernel
theorem nnt_len : ∀ s : Sg, nnt s.val = (wd s).length := by decide +kernel
theorem lM_bit (l : List Nat) (i : Nat) : (lM l).testBit i = true ↔ ∃ s ∈ l, (lnt s).testBit i = true := by
  induction l with
  | nil => simp [lM]
  | cons s l ih =>
    have e : lM (s :: l) = lnt s ||| lM l := rfl
    rw [e, Nat.testBit_or, Bool.or_eq_true, ih]
    simp
theorem mod_bit (m i : Nat) : (m >>> i) % 2 = if m.testBit i then 1 else 0 := by
  rw [Nat.testBit_eq_decide_div_mod_eq, ← Nat.shiftRight_eq_div_pow]
  rcases Nat.mod_two_eq_zero_or_one (m >>> i) with h | h <;> rw [h] <;> simp
theorem cnt_eq (m : Nat) : cnt m = ((List.range 6).filter fun i => m.testBit i).length := by
  have e : cnt m = (m >>> 0) % 2 + ((m >>> 1) % 2 + ((m >>> 2) % 2 + ((m >>> 3) % 2 + ((m >>> 4) % 2 + (m >>> 5) % 2)))) := rfl
  rw [e]
  simp only [mod_bit]
  rw [show List.range 6 = [0, 1, 2, 3, 4, 5] from rfl]
  simp only [List.filter_cons, List.filter_nil]
  cases m.testBit 0 <;> cases m.testBit 1 <;> cases m.testBit 2 <;> cases m.testBit 3 <;> cases m.testBit 4 <;> cases m.testBit 5 <;> rfl
theorem char_mem (l : List Nat) (y : Str) : y ∈ charS (tx l) ↔ ∃ c ∈ l, (⟨#[c]⟩ : Str) = y := by
  show y ∈ (tx l).cps.toList.map _ ↔ _
  rw [List.mem_map]
theorem letters_cnt {l : List Nat} {d : List Sg} (hl : ∀ i ∈ l, i < 17) (hd : ∀ s : Sg, s ∈ d ↔ s.val ∈ l) : lettersN d = cnt (lM l) := by
  rw [cnt_eq]
  have hp : (metS (charS (tx (d.map wd).flatten))).Perm (((List.range 6).filter fun i => (lM l).testBit i).map fun i => (⟨#[ltr i]⟩ : Str)) := by
    refine (List.perm_ext_iff_of_nodup (metS_nodup _) ?_).mpr fun y => ?_
    · rw [List.nodup_iff_pairwise_ne, List.pairwise_map]
      refine List.Pairwise.imp_of_mem ?_ (List.nodup_iff_pairwise_ne.mp (List.Pairwise.filter _ List.nodup_range))
      intro a b ha hb hab e
      have ha := List.mem_range.mp (List.mem_filter.mp ha).1
      have hb := List.mem_range.mp (List.mem_filter.mp hb).1
      have := ltr_inj ⟨a, ha⟩ ⟨b, hb⟩ (str1_inj e)
      exact hab (congrArg Fin.val this)
    · rw [metS_mem, char_mem, List.mem_map]
      constructor
      · rintro ⟨c, hc, rfl⟩
        obtain ⟨x, hx, hcx⟩ := List.mem_flatten.mp hc
        obtain ⟨s, hs, rfl⟩ := List.mem_map.mp hx
        obtain ⟨i, rfl⟩ := wd_ltr s c hcx
        refine ⟨i.val, List.mem_filter.mpr ⟨List.mem_range.mpr i.isLt, (lM_bit _ _).mpr ⟨s.val, (hd s).mp hs, ?_⟩⟩, rfl⟩
        rw [lnt_bit, List.contains_iff_mem]
        exact hcx
      · rintro ⟨i, hi, rfl⟩
        obtain ⟨h1, h2⟩ := List.mem_filter.mp hi
        have h1 := List.mem_range.mp h1
        obtain ⟨s, hs, h3⟩ := (lM_bit _ _).mp h2
        have h4 := lnt_bit ⟨s, hl s hs⟩ ⟨i, h1⟩
        rw [h3] at h4
        refine ⟨ltr i, List.mem_flatten.mpr ⟨wd ⟨s, hl s hs⟩, List.mem_map_of_mem ((hd _).mpr hs), List.contains_iff_mem.mp h4.symm⟩, rfl⟩
  unfold lettersN
  rw [hp.length_eq, List.length_map]
theorem shM_cons (c s : Nat) (l : List Nat) : shM c (s :: l) = c ^ (3 - nnt s) + shM c l := rfl
theorem shM_perm (c : Nat) {l l' : List Nat} (h : l.Perm l') : shM c l = shM c l' := by
  induction h with
  | nil => rfl
  | cons x _ ih => rw [shM_cons, shM_cons, ih]
  | swap x y l => rw [shM_cons, shM_cons, shM_cons, shM_cons]; lia
  | trans _ _ h1 h2 => exact h1.trans h2
theorem shM_eq (c : Nat) (d : List Sg) : ((shM c (d.map fun s => s.val) : Nat) : Int) = (sharesL d c).sum := by
  induction d with
  | nil => rfl
  | cons s d ih =>
    rw [List.map_cons, shM_cons, nnt_len, Int.natCast_add, ih]
    unfold sharesL
    rw [List.map_cons, List.sum_cons, Int.natCast_pow]
theorem kraft {l : List Nat} {d : List Sg} (hl : ∀ i ∈ l, i < 17) (hd : ∀ s : Sg, s ∈ d ↔ s.val ∈ l) (hp : (d.map fun s => s.val).Perm l) (h : krM l = true) : (sharesL d (lettersN d)).sum ≤ ((lettersN d : Nat) : Int) ^ 3 := by
  unfold krM at h
  rw [frc_eq, ← letters_cnt hl hd] at h
  have h2 : shM (lettersN d) l ≤ lettersN d ^ 3 := Nat.le_of_ble_eq_true h
  rw [← shM_eq, shM_perm _ hp]
  exact_mod_cast h2
theorem sgSet {d : List Sg} (nd : d.Nodup) (hd : d.length ≤ 5) : ∃ l : List Nat, (∀ i ∈ l, i < 17) ∧ (∀ s : Sg, s ∈ d ↔ s.val ∈ l) ∧ (d.map fun s => s.val).Perm l ∧ chk l = true := by
  have key : ∀ i, i ∈ (List.range 17).filter (fun i => (d.map fun s => s.val).contains i) ↔ i ∈ d.map fun s => s.val := fun i => by
    rw [List.mem_filter, List.contains_iff_mem, List.mem_range]
    refine ⟨fun h => h.2, fun h => ⟨?_, h⟩⟩
    obtain ⟨s, _, rfl⟩ := List.mem_map.mp h
    exact s.isLt
  have nd2 : (d.map fun s => s.val).Nodup := by
    rw [List.nodup_iff_pairwise_ne, List.pairwise_map]
    exact (List.nodup_iff_pairwise_ne.mp nd).imp fun {a b} hab e => hab (Fin.ext e)
  have nd3 : ((List.range 17).filter (fun i => (d.map fun s => s.val).contains i)).Nodup := List.Pairwise.filter _ List.nodup_range
  have hp := (List.perm_ext_iff_of_nodup nd3 nd2).mpr key
  have hlen := hp.length_eq
  rw [List.length_map] at hlen
  have hc := wlk_sound _ 5 [] wlk_all _ (List.filter_sublist (l := List.range 17) (p := fun i => (d.map fun s => s.val).contains i)) (by lia)
  rw [List.append_nil] at hc
  refine ⟨_, fun i hi => ?_, fun s => ?_, ?_, hc⟩
  · rw [List.mem_reverse] at hi
    exact List.mem_range.mp (List.mem_filter.mp hi).1
  · rw [List.mem_reverse, key, List.mem_map]
    constructor
    · exact fun h => ⟨s, h, rfl⟩
    · rintro ⟨t, ht, e⟩
      rw [← Fin.ext e]; exact ht
  · exact hp.symm.trans (List.reverse_perm _).symm
open Wk Hd1
theorem mn_ge (u : List Sg) : u.length ≤ (mn u).length := by
  induction u with
  | nil => exact Nat.zero_le _
  | cons s u ih =>
    rw [mn_cons, List.length_append, List.length_cons]
    have := List.length_pos_iff.mpr (wd_ne s)
    lia
theorem aheadC_mem {d : List Sg} {s : Sg} {x : List Nat} : x ∈ aheadC d s ↔ ∃ o ∈ d, o ≠ s ∧ (wd o).isPrefixOf (wd s) = true ∧ x = (wd s).drop (wd o).length := by
  unfold aheadC
  rw [List.mem_flatMap]
  constructor
  · rintro ⟨o, ho, hx⟩
    by_cases c : o ≠ s ∧ (wd o).isPrefixOf (wd s) = true
    · rw [if_pos c, List.mem_singleton] at hx
      exact ⟨o, ho, c.1, c.2, hx⟩
    · rw [if_neg c] at hx; cases hx
  · rintro ⟨o, ho, h1, h2, h3⟩
    exact ⟨o, ho, by rw [if_pos ⟨h1, h2⟩, h3]; exact List.mem_singleton_self _⟩
theorem ahead_names {d : List Sg} {n : Nat} (hgo : ∀ i < n, Go d i) (he : (bfs d n).2 = []) (hne : ∀ r ∈ (bfs d n).1, r.1 ≠ []) (x : List Nat) : x ∈ aheadL d (bfs d n).1 ↔ ∃ r ∈ (bfs d n).1, r.1 = x := by
  unfold aheadL
  rw [List.mem_flatMap]
  constructor
  · rintro ⟨s, hs, hx⟩
    rcases List.mem_append.mp hx with hx | hx
    · obtain ⟨o, ho, h1, h2, rfl⟩ := aheadC_mem.mp hx
      refine cover_all hgo he (.start hs ho (Ne.symm h1) ?_)
      unfold aheadN1
      rw [if_pos h2]
      exact List.mem_singleton_self _
    · obtain ⟨r, hr, h1⟩ := List.mem_flatMap.mp hx
      obtain ⟨_, m, h2⟩ := told_row hgo hr
      exact cover_all hgo he (.step h2 (hne r hr) hs h1)
  · rintro ⟨r, hr, rfl⟩
    obtain ⟨_, m, h2⟩ := told_row hgo hr
    generalize r.1 = x at h2
    cases h2 with
    | @start s t _ hs ht hst hy =>
      unfold aheadN1 at hy
      by_cases c1 : (wd t).isPrefixOf (wd s) = true
      · rw [if_pos c1, List.mem_singleton] at hy
        exact ⟨s, hs, List.mem_append_left _ (aheadC_mem.mpr ⟨t, ht, Ne.symm hst, c1, hy⟩)⟩
      · rw [if_neg c1] at hy
        by_cases c2 : (wd s).isPrefixOf (wd t) = true
        · rw [if_pos c2, List.mem_singleton] at hy
          exact ⟨t, ht, List.mem_append_left _ (aheadC_mem.mpr ⟨s, hs, hst, c2, hy⟩)⟩
        · rw [if_neg c2] at hy; cases hy
    | @step m y _ s hr2 hy0 hs hy =>
      obtain ⟨q, hq, rfl⟩ := cover_all hgo he hr2
      exact ⟨s, hs, List.mem_append_right _ (List.mem_flatMap.mpr ⟨q, hq, hy⟩)⟩
theorem names_perm {d : List Sg} {n : Nat} (hgo : ∀ i < n, Go d i) (he : (bfs d n).2 = []) (hne : ∀ r ∈ (bfs d n).1, r.1 ≠ []) : (metS ((aheadL d (bfs d n).1).map tx)).Perm ((bfs d n).1.map fun r => tx r.1) := by
  refine (List.perm_ext_iff_of_nodup (metS_nodup _) ?_).mpr fun y => ?_
  · have := (binv hgo).nd
    rw [List.nodup_iff_pairwise_ne, List.pairwise_map] at this ⊢
    exact this.imp fun {a b} hab e => hab (tx_inj e)
  · rw [metS_mem, List.mem_map, List.mem_map]
    constructor
    · rintro ⟨x, hx, rfl⟩
      obtain ⟨r, hr, rfl⟩ := (ahead_names hgo he hne x).mp hx
      exact ⟨r, hr, rfl⟩
    · rintro ⟨r, hr, rfl⟩
      exact ⟨r.1, (ahead_names hgo he hne r.1).mpr ⟨r, hr, rfl⟩, rfl⟩
theorem spec_mn : mn [(3 : Sg), 14, 2] = mn [(14 : Sg), 1, 15] := by decide +kernel
theorem plain (d : List Sg) (n : Nat) (nd : d.Nodup) (hd : d.length ≤ 5) (hgo : ∀ i < n, Go d i) (hn : ¬ Go d n) : PlainOk d (bfs d n).1 := by
  have I := binv hgo
  obtain ⟨l, h17, hmem, hperm, hchk⟩ := sgSet nd hd
  have hsem := chk_sem h17 hmem hchk
  -- a doublet is no shorter than the rounds
  have hlow : ∀ u v : List Sg, u ≠ v → (∀ s ∈ u, s ∈ d) → (∀ s ∈ v, s ∈ d) → mn u = mn v → n + 1 ≤ u.length + v.length := fun u v h1 h2 h3 h4 => by
    obtain ⟨m, h5, h6⟩ := coll h1 h2 h3 h4
    have := coll_le hgo h5
    lia
  have hspec : l = [15, 14, 3, 2, 1] → ([(3 : Sg), 14, 2] ≠ [(14 : Sg), 1, 15]) ∧ (∀ s ∈ [(3 : Sg), 14, 2], s ∈ d) ∧ ∀ s ∈ [(14 : Sg), 1, 15], s ∈ d := fun e => by
    have hin : ∀ s : Sg, s.val ∈ [15, 14, 3, 2, 1] → s ∈ d := fun s h => (hmem s).mpr (by rw [e]; exact h)
    refine ⟨by decide, fun s hs => hin s ?_, fun s hs => hin s ?_⟩
    · have : ∀ s : Sg, s ∈ [(3 : Sg), 14, 2] → s.val ∈ [15, 14, 3, 2, 1] := by decide
      exact this s hs
    · have : ∀ s : Sg, s ∈ [(14 : Sg), 1, 15] → s.val ∈ [15, 14, 3, 2, 1] := by decide
      exact this s hs
  refine ⟨fun r hr => (told_row hgo hr).1.mean, fun r hf => ?_, fun hf => ?_⟩
  · -- found
    have hr : r ∈ (bfs d n).1 := List.mem_of_find?_eq_some hf
    have hr0 : r.1 = [] := by simpa using List.find?_some hf
    obtain ⟨m, h1, h2, h3⟩ := told_at hr
    have hmn : m = n := by
      by_cases e : m = n
      · exact e
      · have Im := binv (d := d) (n := m) fun i hi => hgo i (by lia)
        exact absurd hr0 ((hgo m (by lia)).2 r (Im.sub (by lia) r h3))
    subst hmn
    obtain ⟨hok, hrch⟩ := rows_ok hgo h1 r h3
    have hD : rowD r = m + 1 := I.dots r h3
    have hD2 : r.2.1.length + r.2.2.length = m + 1 := hD
    rw [hr0] at hrch
    have hmean : mn r.2.1 = mn r.2.2 := by have := hok.mean; rw [hr0, List.append_nil] at this; exact this
    obtain ⟨a, x, b, y, e1, e2, hab⟩ := hok.heads
    have hne : r.2.1 ≠ r.2.2 := fun e => by rw [e1, e2] at e; injection e with e3; exact hab e3
    have l1 : 1 ≤ r.2.1.length := by rw [e1]; simp
    have l2 : 1 ≤ r.2.2.length := by rw [e2]; simp
    have hup : ∀ b : Nat, (runB d 3).1 ≠ 0 → (runB d 3).1 ≤ b → m + 1 ≤ (runB d 3).1 := fun b hb _ => by
      obtain ⟨u, v, h4, h5, h6, h7, h8⟩ := best_some nd hb
      have := hlow u v h4 h5 h6 h7
      lia
    have hsmall : m ≤ 4 → (runB d 3).1 = rowD r := fun hm => by
      have g1 := mn_ge r.2.1
      have g2 := mn_ge r.2.2
      have g3 := mn_len r.2.1
      have g4 := mn_len r.2.2
      have hml := congrArg List.length hmean
      have := best_le nd hne hok.far hok.near ⟨l1, by lia⟩ ⟨l2, by lia⟩ hmean
      have := hup _ this.1 this.2
      lia
    rcases hsem with ⟨k, hk, hrk⟩ | hsp | ⟨hno, _⟩
    · exact hsmall (Nat.le_trans (coll_le hgo hrk) hk)
    · obtain ⟨s1, s2, s3⟩ := hspec hsp
      have h6 := best_le nd s1 s2 s3 ⟨by decide, by decide⟩ ⟨by decide, by decide⟩ spec_mn
      have h6b : (runB d 3).1 ≤ 6 := h6.2
      have h7 := hup _ h6.1 h6.2
      by_cases hm : m ≤ 4
      · exact hsmall hm
      · lia
    · exact absurd hrch (hno m)
  · -- not found
    have hne : ∀ r ∈ (bfs d n).1, r.1 ≠ [] := fun r hr e => by
      have := List.find?_eq_none.mp hf r hr
      rw [e] at this
      exact this rfl
    have he : (bfs d n).2 = [] := Classical.byContradiction fun q => hn ⟨q, hne⟩
    have hno : ∀ m, ¬ Rch d m [] := fun m hr => by
      obtain ⟨q, h1, h2⟩ := cover_all hgo he hr
      exact hne q h1 h2
    have hnoc : ∀ u v : List Sg, u ≠ v → (∀ s ∈ u, s ∈ d) → (∀ s ∈ v, s ∈ d) → mn u ≠ mn v := fun u v h1 h2 h3 h4 => by
      obtain ⟨m, h5, _⟩ := coll h1 h2 h3 h4
      exact hno m h5
    refine ⟨Classical.byContradiction fun hb => ?_, names_perm hgo he hne, ?_⟩
    · obtain ⟨u, v, h1, h2, h3, h4, _⟩ := best_some nd hb
      exact hnoc u v h1 h2 h3 h4
    · rcases hsem with ⟨k, _, hrk⟩ | hsp | ⟨_, hk⟩
      · exact absurd hrk (hno k)
      · obtain ⟨s1, s2, s3⟩ := hspec hsp
        exact absurd spec_mn (hnoc _ _ s1 s2 s3)
      · exact kraft h17 hmem hperm hk
end L1
set_option maxRecDepth 100000 in
set_option maxHeartbeats 8000000 in
theorem PySem.Challenge.cw_re0177_01_holds : PySem.Challenge.rw_re0177_01.Holds := by
  exact holds_law L1.said (Hd1.head2 (L1.walk L1.plain))
