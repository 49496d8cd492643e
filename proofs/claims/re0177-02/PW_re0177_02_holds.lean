import PyProof.Rows.All
import Wide.All
import OpenK.AllK
import Wide.FinOn
import PyProof.FactsTree
import PyProof.StrLawsChain
import KE.KSortKey
import Lean
import PySem.Challenge.RW_re0177_02
open PySem PySem.W PyProof.Rows
set_option Elab.async false
set_option maxRecDepth 100000
set_option linter.unusedVariables false
noncomputable section
namespace Hs

theorem go_go {tb : String → Option Builtin} {p : Program} {w : World} {n₀ : Nat} {ann : Option Value} {b : Nat} : ∀ {n N : Nat} {s s' : Shared} {t t' : Thread} {r : Shared × Thread}, segGo tb p w n₀ ann b n s t = some (s', t') →
    segGo tb p w n₀ ann b N s' t' = some r → segGo tb p w n₀ ann b (n + N) s t = some r
  | 0, N, s, s', t, t', r, h, k => by
    obtain ⟨rfl, rfl⟩ : s = s' ∧ t = t' := by simpa [segGo] using h
    rw [Nat.zero_add]; exact k
  | n + 1, N, s, s', t, t', r, h, k => by
    rw [show n + 1 + N = n + N + 1 by omega]
    unfold segGo at h ⊢
    cases he : endAt b t with
    | some f => rw [he] at h; cases h
    | none =>
      rw [he] at h
      cases hk : stepOk n₀ ann t with
      | false => rw [hk] at h; cases h
      | true =>
        rw [hk] at h
        cases hs : step (denote tb) p w s t with
        | halt o s₂ => rw [hs] at h; cases h
        | go s₂ t₂ => rw [hs] at h; exact go_go h k

structure Cx where
  p : Program
  w : World
  n₀ : Nat
  ann : Option Value
  b : List Stmt
  e : Env
  q : PySem.Pos
abbrev Cx.go (X : Cx) (n : Nat) (s : Shared) (t : Thread) : Option (Shared × Thread) := segGo treeTable X.p X.w X.n₀ X.ann 1 n s t
abbrev Cx.th (X : Cx) (m : Sem Fin) (pos : PySem.Pos) : Thread := ⟨m, .body X.b X.e, pos, [topFrame X.q]⟩

def Str' {α : Type} (X : Cx) (N : Nat) (m : Sem α) (s : Shared) (a : α) (s' : Shared) : Prop :=
  ∀ (pos : PySem.Pos) (K : α → Sem Fin) (H : Value → Sem Fin) (gd : Bool → Bool) (lv : List Value → List Value), ∃ n pos', n ≤ N ∧ X.go n s (X.th (m.wrap K H gd lv) pos) = some (s', X.th (K a) pos')
theorem st_le {α : Type} {X : Cx} {N N' : Nat} {m : Sem α} {s s' : Shared} {a : α} (h : Str' X N m s a s') (hN : N ≤ N' := by omega) : Str' X N' m s a s' := fun pos K H gd lv =>
  let ⟨n, q, h1, h2⟩ := h pos K H gd lv
  ⟨n, q, Nat.le_trans h1 hN, h2⟩

section
variable {X : Cx} {α β : Type} {s s' s'' : Shared}
theorem st_pure (a : α) : Str' X 0 (pure a) s a s := fun pos K H gd lv => ⟨0, pos, Nat.le_refl _, rfl⟩
theorem st_bind {N N' : Nat} {m : Sem α} {f : α → Sem β} {a : α} {b : β} (h : Str' X N m s a s') (k : Str' X N' (f a) s' b s'') : Str' X (N + N') (m >>= f) s b s'' := fun pos K H gd lv => by
  obtain ⟨n, q, l, e⟩ := h pos (fun a => (f a).wrap K H gd lv) H gd lv
  obtain ⟨n', q', l', e'⟩ := k q K H gd lv
  refine ⟨n + n', q', Nat.add_le_add l l', ?_⟩
  rw [Sem.bind_eq_wrap', Sem.wrap_wrap]
  exact go_go e e'
theorem st_keep {N : Nat} {vs : List Value} {m : Sem α} {a : α} (h : Str' X N m s a s') : Str' X N (m.keep vs) s a s' := fun pos K H gd lv => by
  obtain ⟨n, q, l, e⟩ := h pos K H gd (fun l => lv (vs ++ l))
  refine ⟨n, q, l, ?_⟩
  rw [Sem.keep_eq_wrap, Sem.wrap_wrap]
  exact e
theorem st_holding {N : Nat} {vs : List Value} {m : Sem α} {a : α} (h : Str' X N m s a s') : Str' X N (holding vs m) s a s' := by
  unfold PySem.holding
  split
  · exact h
  · exact st_keep h
theorem st_onRaise {N : Nat} {m : Sem α} {f : Value → Sem Unit} {a : α} (h : Str' X N m s a s') : Str' X N (m.onRaise f) s a s' := fun pos K H gd lv => by
  rw [Sem.onRaise_eq_wrap, Sem.wrap_wrap]
  exact h pos K _ _ _
theorem st_at (p : PySem.Pos) : Str' X 1 (standAt p) s () s := fun pos K H gd lv => ⟨1, p, Nat.le_refl _, by obtain ⟨h, g, d, k, o⟩ := s; rfl⟩
theorem st_rule (t : String) : Str' X 1 (rule t) s () s := fun pos K H gd lv => ⟨1, pos, Nat.le_refl _, by obtain ⟨h, g, d, k, o⟩ := s; rfl⟩
theorem st_alloc (o : Obj) : Str' X 1 (alloc o) s s.heap.objs.size { s with heap := s.heap.push o } := fun pos K H gd lv => ⟨1, pos, Nat.le_refl _, by obtain ⟨h, g, d, k, os⟩ := s; rfl⟩
theorem st_fresh : Str' X 1 fresh s s.toks { s with toks := s.toks + 1 } := fun pos K H gd lv => ⟨1, pos, Nat.le_refl _, by obtain ⟨h, g, d, k, os⟩ := s; rfl⟩
theorem st_ask : Str' X 1 ask s ⟨X.p, X.w.params⟩ s := fun pos K H gd lv => ⟨1, pos, Nat.le_refl _, by obtain ⟨h, g, d, k, os⟩ := s; rfl⟩
theorem st_load {a : Addr} {o : Obj} (part : Option Value) (ho : s.heap.get? a = some o) : Str' X 1 (loadPart a part) s o s := fun pos K H gd lv => ⟨1, pos, Nat.le_refl _, by
  obtain ⟨h, g, d, k, os⟩ := s
  show segGo _ _ _ _ _ _ 1 _ _ = _
  unfold segGo
  show (match PySem.step (denote treeTable) X.p X.w ⟨h, g, d, k, os⟩ (X.th ((loadPart a part).wrap K H gd lv) pos) with | .go s' t' => _ | .halt _ _ => _) = _
  have e : PySem.step (denote treeTable) X.p X.w ⟨h, g, d, k, os⟩ (X.th ((loadPart a part).wrap K H gd lv) pos) = .go ⟨h, g, d, k, os⟩ (X.th (K o) pos) := by
    show (match h.get? a with | some o => _ | none => _) = _
    rw [ho]
    rfl
  rw [e]
  rfl⟩
theorem st_update {a : Addr} {o : Obj} {f : Obj → Obj} (part : Option Value) (ho : s.heap.get? a = some o) (hn : X.n₀ ≤ a) : Str' X 1 (updatePart a part f) s () { s with heap := s.heap.update a f } := fun pos K H gd lv => ⟨1, pos, Nat.le_refl _, by
  obtain ⟨h, g, d, k, os⟩ := s
  show segGo _ _ _ _ _ _ 1 _ _ = _
  unfold segGo
  have ok : stepOk X.n₀ X.ann (X.th ((updatePart a part f).wrap K H gd lv) pos) = true := by
    show (true && (Nat.ble X.n₀ a || a == mainNs || a == cStatics || X.ann == some (.ref a))) = true
    rw [Nat.ble_eq_true_of_le hn]; rfl
  have e : PySem.step (denote treeTable) X.p X.w ⟨h, g, d, k, os⟩ (X.th ((updatePart a part f).wrap K H gd lv) pos) = .go ⟨h.update a f, g, d, k, os⟩ (X.th (K ()) pos) := by
    show (if (h.get? a).isSome then _ else _) = _
    rw [if_pos (by rw [show h.get? a = some o from ho]; rfl)]
    rfl
  show (match stepOk X.n₀ X.ann (X.th ((updatePart a part f).wrap K H gd lv) pos) with | false => _ | true => _) = _
  rw [ok, e]
  rfl⟩
theorem st_of_eq {N : Nat} {m m' : Sem α} {a : α} (e : m = m') (h : Str' X N m' s a s') : Str' X N m s a s' := e ▸ h
end

section
variable {X : Cx} {s : Shared}
theorem st_hashCall (k : Int) (t : Tok) : Str' X 4 (call (.builtin "int.__hash__") [.int k t]) s (.int (rawHash k) s.toks) { s with toks := s.toks + 1 } := fun pos K H gd lv => ⟨4, pos, Nat.le_refl _, by
  obtain ⟨p, w, n₀, ann, b, e, q⟩ := X
  obtain ⟨h, g, d, kk, os⟩ := s
  show segGo treeTable p w n₀ ann 1 4 _ _ = _
  rw [PySem.W.Fast.te3277212676724774461, PySem.W.Fast.te14364793385576792824]
  kernel_rfl⟩
theorem specialOf_int (k : Int) (t : Tok) : specialOf (.int k t) "__hash__" = pure (some (.builtin "int.__hash__")) := slot_int_hash.lookup
theorem st_tryCatch {α : Type} {N : Nat} {m : Sem α} {f : Value → Sem α} {a : α} {s' : Shared} (h : Str' X N m s a s') : Str' X N (m.tryCatch f) s a s' := fun pos K H gd lv => by
  rw [Sem.tryCatch_eq_wrap, Sem.wrap_wrap]
  exact h pos K _ _ _
theorem st_bound (k : Int) (t : Tok) (refuse : Sem Value) : Str' X 5 (callSpecialIfBoundUnlessNone? (.int k t) "__hash__" refuse) s (some (.int (rawHash k) s.toks)) { s with toks := s.toks + 1 } := by
  unfold callSpecialIfBoundUnlessNone? bindSpecialIfBound?
  rw [specialOf_int]
  refine st_holding (st_le (N := 0 + (1 + (0 + 0)) + (4 + 0)) (st_bind (a := some (.builtin "int.__hash__", [.int k t])) (s' := s) (st_bind (st_pure _) ?_) ?_))
  · refine st_bind (a := ⟨X.p, X.w.params⟩) st_ask ?_
    dsimp only
    rw [slot_int_hash.bind]
    split
    · exact st_bind (st_pure _) (st_pure _)
    · exact st_tryCatch (st_bind (st_pure _) (st_pure _))
  · dsimp only
    rw [if_neg (by rw [builtin_beq_none]; exact Bool.false_ne_true)]
    exact st_bind (st_hashCall k t) (st_pure _)
theorem st_hash (k : Int) (t : Tok) : Str' X 5 (pyHash (.int k t)) s (hashInt k) { s with toks := s.toks + 1 } := by
  have hr := rawHash_range k
  unfold pyHash
  show Str' X 5 (pyHashByItsType (.int k t)) _ _ _
  unfold pyHashByItsType
  refine st_le (N := 0 + (0 + (0 + (5 + 0)))) ?_
  refine st_bind (a := ()) (s' := s) (st_of_eq (cRoomFor_of_value rfl) (st_pure ())) ?_
  rw [specialOf_int]
  refine st_bind (st_pure _) ?_
  show Str' X _ (if (some (Value.builtin "int.__hash__") == some Value.none) = true then _ else _) _ _ _
  rw [if_neg (by rw [beq_builtin_none]; exact Bool.false_ne_true)]
  refine st_bind (st_pure _) ?_
  show Str' X _ (callSpecialIfBoundUnlessNone? (.int k t) "__hash__" _ >>= _) _ _ _
  refine st_bind (st_bound k t _) ?_
  show Str' X _ (if (decide (-(2 : Int) ^ 63 ≤ rawHash k) && decide (rawHash k < 2 ^ 63)) = true then _ else _) _ _ _
  rw [if_pos (by rw [decide_eq_true hr.1, decide_eq_true hr.2]; rfl)]
  exact st_pure _
-- a dict of int keys
abbrev dObj (es : Array DictEntry) (n : Nat) : Obj := ⟨.type "dict", none, .dict es n, #[]⟩
theorem st_entries {d : Addr} {es : Array DictEntry} {n : Nat} (part : Option Value) (ho : s.heap.get? d = some (dObj es n)) : Str' X 1 (dictEntries d part) s es s := by
  unfold dictEntries
  exact st_bind (N := 1) (N' := 0) (st_load part ho) (st_pure _)
theorem st_epoch {d : Addr} {es : Array DictEntry} {n : Nat} (part : Option Value) (ho : s.heap.get? d = some (dObj es n)) : Str' X 1 (dictEpoch d part) s n s := by
  unfold dictEpoch
  exact st_bind (N := 1) (N' := 0) (st_load part ho) (st_pure _)
end

theorem get_of_objs {h : Heap} {d : Addr} {es : Array DictEntry} {n : Nat} (ho : h.objs[d]? = some (dObj es n)) : h.get? d = some (dObj es n) := by
  unfold Heap.get?; rw [ho]
structure HB (d : Addr) (h h' : Heap) : Prop where
  life : h'.life = h.life
  size : h'.objs.size = h.objs.size
  same : ∀ b, b ≠ d → h'.objs[b]? = h.objs[b]?
theorem HB.refl (d : Addr) (h : Heap) : HB d h h := ⟨rfl, rfl, fun _ _ => rfl⟩
theorem HB.trans {d : Addr} {h h' h'' : Heap} (x : HB d h h') (y : HB d h' h'') : HB d h h'' := ⟨y.life.trans x.life, y.size.trans x.size, fun b hb => (y.same b hb).trans (x.same b hb)⟩
theorem HB.upd (d : Addr) (h : Heap) (f : Obj → Obj) : HB d h (h.update d f) := by
  obtain ⟨objs, l⟩ := h
  refine ⟨rfl, by simp [Heap.update], fun b hb => ?_⟩
  show (objs.modify d f)[b]? = objs[b]?
  rw [Array.getElem?_modify]
  simp [Ne.symm hb]
theorem upd_at {h : Heap} {d : Addr} {o : Obj} (f : Obj → Obj) (ho : h.objs[d]? = some o) : (h.update d f).objs[d]? = some (f o) := by
  obtain ⟨objs, l⟩ := h
  show (objs.modify d f)[d]? = _
  rw [Array.getElem?_modify]
  simp [show objs[d]? = some o from ho]

section
variable {X : Cx} {s : Shared}
theorem st_push {d : Addr} {es : Array DictEntry} {n : Nat} (e : DictEntry) (part : Option Value) (ho : s.heap.objs[d]? = some (dObj es n)) (hn : X.n₀ ≤ d) (hsz : es.size + 1 ≤ sizeLine) :
    ∃ h', Str' X 3 (updateDictKeys d (·.push e) part) s () { s with heap := h' } ∧ h'.objs[d]? = some (dObj (es.push e) (n + 1)) ∧ HB d s.heap h' := by
  refine ⟨s.heap.update d (Obj.mapDictKeys (·.push e)), ?_, upd_at _ ho, HB.upd ..⟩
  have h1 : (s.heap.update d (Obj.mapDictKeys (·.push e))).objs[d]? = some (dObj (es.push e) (n + 1)) := upd_at _ ho
  unfold updateDictKeys
  refine st_le (N := 1 + (1 + (1 + 0))) ?_
  refine st_bind (st_load part (get_of_objs ho)) ?_
  dsimp only
  refine st_bind (st_update part (get_of_objs ho) hn) ?_
  unfold lookBehind
  refine st_bind (st_load part (get_of_objs h1)) ?_
  have e0 : (dObj (es.push e) (n + 1)).data.pastItsLine = none := by
    have q : ¬ ((es.push e).size > sizeLine + 1) := by rw [Array.size_push]; omega
    simp only [Data.pastItsLine, q, if_false]
  rw [e0]
  exact st_pure _
theorem st_findNone {d : Addr} {es : Array DictEntry} {n : Nat} {k : Int} (t : Tok) (ho : s.heap.objs[d]? = some (dObj es n)) (hk : ∀ e ∈ es, e.hash ≠ hashInt k) :
    Str' X 1 (dictFind d (.int k t) (hashInt k)) s none s := by
  have hp : placesWithHash es.size (fun i => es[i]?.map (·.hash)) (hashInt k) = [] := by
    unfold placesWithHash
    rw [List.filter_eq_nil_iff]
    intro i hi
    have hi := List.mem_range.mp hi
    show ¬ ((es[i]?.map (·.hash)) == some (hashInt k)) = true
    rw [Array.getElem?_eq_getElem hi]
    simpa using hk _ (Array.getElem_mem hi)
  unfold dictFind
  refine st_holding (st_le (N := 1 + (0 + 0)) (st_bind (st_entries _ (get_of_objs ho)) ?_))
  dsimp only
  rw [hp]
  show Str' X _ (dictWalkPlain d (.int k t) (hashInt k) es []) _ _ _
  unfold dictWalkPlain
  exact st_bind (a := (none, ())) (st_pure _) (st_pure _)
theorem st_set {d : Addr} {es : Array DictEntry} {n : Nat} {k : Int} (t : Tok) (v : Value) (ho : s.heap.objs[d]? = some (dObj es n)) (hk : ∀ e ∈ es, e.hash ≠ hashInt k) (hn : X.n₀ ≤ d) (hsz : es.size + 1 ≤ sizeLine) :
    ∃ h', Str' X 10 (dictSet d (.int k t) v) s () { s with heap := h', toks := s.toks + 1 } ∧ h'.objs[d]? = some (dObj (es.push ⟨hashInt k, .int k t, v⟩) (n + 1)) ∧ HB d s.heap h' := by
  obtain ⟨h', h1, h2, h3⟩ := st_push (X := X) (s := { s with toks := s.toks + 1 }) ⟨hashInt k, .int k t, v⟩ (keyPart (.int k t)) ho hn hsz
  refine ⟨h', ?_, h2, h3⟩
  unfold dictSet
  refine st_holding (st_le (N := 5 + (1 + (1 + 3))) (st_bind (st_hash k t) ?_))
  unfold dictSetHashed
  refine st_holding (st_bind (st_findNone t ho hk) ?_)
  exact st_bind (st_rule _) h1
theorem st_put {d : Addr} {es : Array DictEntry} {n : Nat} {k : Int} (t : Tok) (v : Value) (ho : s.heap.objs[d]? = some (dObj es n)) (hk : ∀ e ∈ es, e.hash ≠ hashInt k) (hn : X.n₀ ≤ d) (hsz : es.size + 1 ≤ sizeLine) :
    ∃ h', Str' X 4 (dictPut d (hashInt k) (.int k t) v) s () { s with heap := h' } ∧ h'.objs[d]? = some (dObj (es.push ⟨hashInt k, .int k t, v⟩) (n + 1)) ∧ HB d s.heap h' := by
  obtain ⟨h', h1, h2, h3⟩ := st_push (X := X) (s := s) ⟨hashInt k, .int k t, v⟩ none ho hn hsz
  refine ⟨h', ?_, h2, h3⟩
  unfold dictPut
  exact st_bind (N := 1) (N' := 3) (st_findNone t ho hk) h1
end

-- entries that bear pairs
def Ent (p : Int × Str) (e : DictEntry) : Prop := ∃ t t', e = ⟨hashInt p.1, .int p.1 t, .str p.2 t'⟩
def Ents : List (Int × Str) → List DictEntry → Prop
  | [], [] => True
  | p :: l, e :: es => Ent p e ∧ Ents l es
  | _, _ => False
theorem Ents.length : ∀ {l : List (Int × Str)} {es : List DictEntry}, Ents l es → es.length = l.length
  | [], [], _ => rfl
  | p :: l, e :: es, h => by rw [List.length_cons, List.length_cons, Ents.length h.2]
  | [], _ :: _, h => h.elim
  | _ :: _, [], h => h.elim
theorem Ents.snoc {p : Int × Str} {e : DictEntry} : ∀ {l : List (Int × Str)} {es : List DictEntry}, Ents l es → Ent p e → Ents (l ++ [p]) (es ++ [e])
  | [], [], _, x => ⟨x, trivial⟩
  | q :: l, f :: es, h, x => ⟨h.1, Ents.snoc h.2 x⟩
  | [], _ :: _, h, _ => h.elim
  | _ :: _, [], h, _ => h.elim
theorem Ents.mem : ∀ {l : List (Int × Str)} {es : List DictEntry}, Ents l es → ∀ e ∈ es, ∃ p ∈ l, Ent p e
  | [], [], _, e, he => nomatch he
  | q :: l, f :: es, h, e, he => by
    rcases List.mem_cons.mp he with rfl | he
    · exact ⟨q, List.mem_cons_self, h.1⟩
    · obtain ⟨p, hp, x⟩ := Ents.mem h.2 e he
      exact ⟨p, List.mem_cons_of_mem _ hp, x⟩
  | [], _ :: _, h, _, _ => h.elim
  | _ :: _, [], h, _, _ => h.elim
-- keys apart: the hash of each is no earlier one's
def Apart (l : List (Int × Str)) : Prop := l.Pairwise fun a b => hashInt a.1 ≠ hashInt b.1

/-- a dict that bears the pairs -/
structure Bears (h : Heap) (d : Addr) (l : List (Int × Str)) : Prop where
  at_ : ∃ es n, h.objs[d]? = some (dObj es n) ∧ Ents l es.toList
theorem Bears.noKey {l : List (Int × Str)} {es : Array DictEntry} (h : Ents l es.toList) {p : Int × Str} (hp : ∀ a ∈ l, hashInt a.1 ≠ hashInt p.1) : ∀ e ∈ es, e.hash ≠ hashInt p.1 := fun e he => by
  obtain ⟨q, hq, t, t', rfl⟩ := h.mem e (Array.mem_toList_iff.mpr he)
  exact hp q hq

section
variable {X : Cx} {s : Shared}
theorem st_setB {d : Addr} {l : List (Int × Str)} {p : Int × Str} (t t' : Tok) (B : Bears s.heap d l) (hp : ∀ a ∈ l, hashInt a.1 ≠ hashInt p.1) (hn : X.n₀ ≤ d) (hsz : l.length + 1 ≤ sizeLine) :
    ∃ h', Str' X 10 (dictSet d (.int p.1 t) (.str p.2 t')) s () { s with heap := h', toks := s.toks + 1 } ∧ Bears h' d (l ++ [p]) ∧ HB d s.heap h' := by
  obtain ⟨es, n, ho, he⟩ := B.at_
  obtain ⟨h', h1, h2, h3⟩ := st_set (X := X) t (.str p.2 t') ho (Bears.noKey he hp) hn (by rw [← Array.length_toList, he.length]; exact hsz)
  exact ⟨h', h1, ⟨_, _, h2, by rw [Array.toList_push]; exact he.snoc ⟨t, t', rfl⟩⟩, h3⟩
theorem st_putB {d : Addr} {l : List (Int × Str)} {p : Int × Str} (t t' : Tok) (B : Bears s.heap d l) (hp : ∀ a ∈ l, hashInt a.1 ≠ hashInt p.1) (hn : X.n₀ ≤ d) (hsz : l.length + 1 ≤ sizeLine) :
    ∃ h', Str' X 4 (dictPut d (hashInt p.1) (.int p.1 t) (.str p.2 t')) s () { s with heap := h' } ∧ Bears h' d (l ++ [p]) ∧ HB d s.heap h' := by
  obtain ⟨es, n, ho, he⟩ := B.at_
  obtain ⟨h', h1, h2, h3⟩ := st_put (X := X) t (.str p.2 t') ho (Bears.noKey he hp) hn (by rw [← Array.length_toList, he.length]; exact hsz)
  exact ⟨h', h1, ⟨_, _, h2, by rw [Array.toList_push]; exact he.snoc ⟨t, t', rfl⟩⟩, h3⟩
-- the trees of a display's items
def kT (p : Int × Str) : Sem Value := mkInt p.1
def vT (pos : PySem.Pos) (p : Int × Str) : Sem Value := do let x ← mkText p.2; standAt pos; pure x
theorem st_kT (p : Int × Str) : Str' X 1 (kT p) s (.int p.1 s.toks) { s with toks := s.toks + 1 } := st_bind (N := 1) (N' := 0) st_fresh (st_pure _)
theorem st_vT (pos : PySem.Pos) (p : Int × Str) : Str' X 2 (vT pos p) s (.str p.2 s.toks) { s with toks := s.toks + 1 } := st_le (st_bind (st_bind st_fresh (st_pure _)) (st_bind (st_at _) (st_pure _)))
def itemT (pos : PySem.Pos) (p : Int × Str) : Sem Value × Sem Value := (kT p, vT pos p)

theorem st_long {d : Addr} (pos : PySem.Pos) (hn : X.n₀ ≤ d) : ∀ (r l : List (Int × Str)) (s : Shared), Bears s.heap d l → Apart (l ++ r) → l.length + r.length ≤ sizeLine →
    ∃ h', Str' X (13 * r.length) (forIn (r.map (itemT pos)) PUnit.unit fun (x : Sem Value × Sem Value) (_ : PUnit) => (do
        let kv ← x.1; let vv ← holding [kv] x.2; holding [kv, vv] (dictSet d kv vv); pure (ForInStep.yield PUnit.unit) : Sem (ForInStep PUnit))) s PUnit.unit
        { s with heap := h', toks := s.toks + 3 * r.length } ∧ Bears h' d (l ++ r) ∧ HB d s.heap h'
  | [], l, s, B, _, _ => ⟨s.heap, st_pure _, by simpa using B, HB.refl ..⟩
  | p :: r, l, s, B, ha, hz => by
    rw [List.length_cons] at hz
    obtain ⟨h₁, a1, a2, a3⟩ := st_setB (X := X) (s := { s with toks := s.toks + 1 + 1 }) s.toks (s.toks + 1) B (p := p) (fun a hal => (List.pairwise_append.mp ha).2.2 a hal p List.mem_cons_self) hn (by omega)
    obtain ⟨h₂, b1, b2, b3⟩ := st_long pos hn r (l ++ [p]) { s with heap := h₁, toks := s.toks + 1 + 1 + 1 } a2 (by simpa using ha) (by simp; omega)
    refine ⟨h₂, ?_, by simpa using b2, a3.trans b3⟩
    rw [List.map_cons, List.forIn_cons]
    refine st_le (N := 1 + (2 + (10 + 0)) + 13 * r.length) ?_ (by rw [List.length_cons]; omega)
    refine st_bind (a := .yield PUnit.unit) (st_bind (st_kT p) (st_bind (st_holding (st_vT pos p)) (st_bind (st_holding a1) (st_pure _)))) ?_
    have e : s.toks + 3 * (p :: r).length = s.toks + 1 + 1 + 1 + 3 * r.length := by rw [List.length_cons]; omega
    rw [e]
    exact b1
theorem st_short {d : Addr} (hn : X.n₀ ≤ d) : ∀ (r : List ((Int × Str) × Tok × Tok)) (l : List (Int × Str)) (s : Shared), Bears s.heap d l → Apart (l ++ r.map (·.1)) → l.length + r.length ≤ sizeLine →
    ∃ h', Str' X (10 * r.length) (forIn (r.map fun x => (Value.int x.1.1 x.2.1, Value.str x.1.2 x.2.2)) PUnit.unit fun (x : Value × Value) (_ : PUnit) => (do
        dictSet d x.1 x.2; pure (ForInStep.yield PUnit.unit) : Sem (ForInStep PUnit))) s PUnit.unit
        { s with heap := h', toks := s.toks + r.length } ∧ Bears h' d (l ++ r.map (·.1)) ∧ HB d s.heap h'
  | [], l, s, B, _, _ => ⟨s.heap, st_pure _, by simpa using B, HB.refl ..⟩
  | (p, t, t') :: r, l, s, B, ha, hz => by
    rw [List.length_cons] at hz
    obtain ⟨h₁, a1, a2, a3⟩ := st_setB (X := X) (s := s) t t' B (p := p) (fun a hal => (List.pairwise_append.mp ha).2.2 a hal p List.mem_cons_self) hn (by omega)
    obtain ⟨h₂, b1, b2, b3⟩ := st_short hn r (l ++ [p]) { s with heap := h₁, toks := s.toks + 1 } a2 (by simpa using ha) (by simp; omega)
    refine ⟨h₂, ?_, by simpa using b2, a3.trans b3⟩
    rw [List.map_cons, List.forIn_cons]
    refine st_le (N := 10 + 0 + 10 * r.length) ?_ (by rw [List.length_cons]; omega)
    refine st_bind (a := .yield PUnit.unit) (st_bind a1 (st_pure _)) ?_
    have e : s.toks + ((p, t, t') :: r).length = s.toks + 1 + r.length := by rw [List.length_cons]; omega
    rw [e]
    exact b1
theorem st_pairs (pos : PySem.Pos) : ∀ (r : List (Int × Str)) (s : Shared), ∃ x : List ((Int × Str) × Tok × Tok), x.map (·.1) = r ∧
    Str' X (3 * r.length) (evalPairs (r.map (itemT pos))) s (x.map fun x => (Value.int x.1.1 x.2.1, Value.str x.1.2 x.2.2)) { s with toks := s.toks + 2 * r.length }
  | [], s => ⟨[], rfl, st_pure _⟩
  | p :: r, s => by
    obtain ⟨x, hx, h⟩ := st_pairs pos r { s with toks := s.toks + 1 + 1 }
    refine ⟨(p, s.toks, s.toks + 1) :: x, by rw [List.map_cons, hx], ?_⟩
    rw [List.map_cons]
    refine st_le (N := 1 + (2 + (3 * r.length + 0))) ?_ (by rw [List.length_cons]; omega)
    show Str' X _ (do let kv ← kT p; let vv ← holding [kv] (vT pos p); return (kv, vv) :: (← holding [kv, vv] (evalPairs (r.map (itemT pos))))) _ _ _
    have e : s.toks + 2 * (p :: r).length = s.toks + 1 + 1 + 2 * r.length := by rw [List.length_cons]; omega
    rw [e]
    exact st_bind (st_kT p) (st_bind (st_holding (st_vT pos p)) (st_bind (st_holding h) (st_pure _)))
theorem Bears.new (h : Heap) : Bears (h.push { cls := .type "dict", data := .dict #[] }) h.objs.size [] := ⟨#[], 0, by
  obtain ⟨objs, l⟩ := h
  show (objs.push _)[objs.size]? = _
  rw [Array.getElem?_push_size], trivial⟩
theorem st_sub (pos : PySem.Pos) (r : List (Int × Str)) (hn : X.n₀ ≤ s.heap.objs.size) (ha : Apart r) (hz : r.length ≤ sizeLine) :
    ∃ h', Str' X (2 + 13 * r.length) (subDict (r.map (itemT pos))) s s.heap.objs.size { s with heap := h', toks := s.toks + 3 * r.length } ∧ Bears h' s.heap.objs.size r ∧
      HB s.heap.objs.size (s.heap.push { cls := .type "dict", data := .dict #[] }) h' := by
  unfold subDict
  by_cases hl : r.length ≤ 15
  · obtain ⟨x, hx, h⟩ := st_pairs (X := X) pos r { s with heap := s.heap.push { cls := .type "dict", data := .dict #[] } }
    have hxl : x.length = r.length := by rw [← hx, List.length_map]
    obtain ⟨h', b1, b2, b3⟩ := st_short (X := X) (d := s.heap.objs.size) hn x [] { s with heap := s.heap.push { cls := .type "dict", data := .dict #[] }, toks := s.toks + 2 * r.length } (Bears.new _) (by rw [hx]; exact ha) (by simp; omega)
    refine ⟨h', st_le (N := 1 + (3 * r.length + (10 * x.length + 0) + 0)) (st_bind (st_alloc _) (st_bind (st_holding (a := ()) ?_) (st_pure _))), by rw [hx] at b2; exact b2, b3⟩
    rw [List.length_map, if_pos hl]
    refine st_bind h (st_holding ?_)
    refine st_bind b1 ?_
    have e : s.toks + 2 * r.length + x.length = s.toks + 3 * r.length := by omega
    rw [show ({ s with heap := h', toks := s.toks + 2 * r.length + x.length } : Shared) = { s with heap := h', toks := s.toks + 3 * r.length } by rw [e]]
    exact st_pure _
  · obtain ⟨h', b1, b2, b3⟩ := st_long (X := X) (d := s.heap.objs.size) pos hn r [] { s with heap := s.heap.push { cls := .type "dict", data := .dict #[] } } (Bears.new _) ha (by simp; omega)
    refine ⟨h', st_le (N := 1 + (1 + (13 * r.length + 0) + 0)) (st_bind (st_alloc _) (st_bind (st_holding (a := ()) ?_) (st_pure _))), b2, b3⟩
    rw [List.length_map, if_neg hl]
    exact st_bind (st_rule _) (st_bind b1 (st_pure _))
end

theorem specialOf_dictIter {X : Cx} {s : Shared} {a : Addr} {es : Array DictEntry} {n : Nat} (ho : s.heap.get? a = some (dObj es n)) : Str' X 1 (specialOf (.ref a) "__iter__") s (some (.builtin "dict.__iter__")) s := by
  unfold specialOf
  refine st_bind (N := 1) (a := .type "dict") (s' := s) ?_ (st_of_eq PySem.F.slot_dict_iter.lookup (st_pure _))
  unfold typeOf
  exact st_bind (N := 1) (N' := 0) (st_load _ ho) (st_pure _)
theorem isInst_dict {X : Cx} {s : Shared} {a : Addr} {es : Array DictEntry} {n : Nat} (ho : s.heap.get? a = some (dObj es n)) : Str' X 1 (isInstance (.ref a) (.type "dict")) s true s := by
  unfold isInstance
  refine st_bind (N := 1) (a := .type "dict") (s' := s) ?_ (st_of_eq (by rw [isSubtype_type]; kernel_rfl) (st_pure _))
  unfold typeOf
  exact st_bind (N := 1) (N' := 0) (st_load _ ho) (st_pure _)

section
variable {X : Cx}
/-- the rest of a merge: entries from i on -/
theorem st_mergeLoop {d a : Addr} {es : Array DictEntry} {n : Nat} {r : List (Int × Str)} (hda : a ≠ d) (hn : X.n₀ ≤ d) (he : Ents r es.toList) : ∀ (k i : Nat) (l : List (Int × Str)) (s : Shared), i + k = r.length → s.heap.objs[a]? = some (dObj es n) → Bears s.heap d (l ++ r.take i) →
    Apart (l ++ r) → l.length + r.length ≤ sizeLine →
    ∃ h', Str' X (6 * k) (forIn (List.range' i k) PUnit.unit fun (i : Nat) (_ : PUnit) => (do
        let es' ← dictEntries a
        match es'[i]? with
        | some e => do
          holding [e.key, e.val] (dictPut d e.hash e.key e.val)
          let ep ← dictEpoch a
          if (ep != n) = true then do
            unsupported "dict.changed-during-merge"
            pure (ForInStep.yield PUnit.unit)
          else pure (ForInStep.yield PUnit.unit)
        | x => do
          unsupported "dict.changed-during-merge"
          pure (ForInStep.yield PUnit.unit) : Sem (ForInStep PUnit))) s PUnit.unit { s with heap := h' } ∧ Bears h' d (l ++ r) ∧ HB d s.heap h'
  | 0, i, l, s, hi, ha, B, hap, hz => ⟨s.heap, st_pure _, by rw [List.take_of_length_le (by omega)] at B; exact B, HB.refl ..⟩
  | k + 1, i, l, s, hi, ha, B, hap, hz => by
    have hlt : i < r.length := by omega
    have hlt' : i < es.size := by rw [← Array.length_toList, he.length]; exact hlt
    have hE : Ent r[i] es[i] := by
      have : ∀ (r : List (Int × Str)) (es : List DictEntry) (i : Nat) (h1 : i < r.length) (h2 : i < es.length), Ents r es → Ent r[i] es[i] := by
        intro r
        induction r with
        | nil => intro es i h1; exact absurd h1 (Nat.not_lt_zero _)
        | cons p r ih =>
          intro es i h1 h2 he
          cases es with
          | nil => exact absurd h2 (Nat.not_lt_zero _)
          | cons e es =>
            cases i with
            | zero => exact he.1
            | succ i => exact ih es i (by simpa using h1) (by simpa using h2) he.2
      exact this r es.toList i hlt (by rw [Array.length_toList]; exact hlt') he
    obtain ⟨t, t', hE⟩ := hE
    have hnew : ∀ a ∈ l ++ r.take i, hashInt a.1 ≠ hashInt (r[i]).1 := by
      intro q hq
      have h1 : l ++ r = (l ++ r.take i) ++ (r[i] :: r.drop (i + 1)) := by
        rw [List.append_assoc, List.getElem_cons_drop hlt, List.take_append_drop]
      rw [h1] at hap
      exact (List.pairwise_append.mp hap).2.2 q hq _ List.mem_cons_self
    obtain ⟨h₁, a1, a2, a3⟩ := st_putB (X := X) (s := s) t t' B (p := r[i]) hnew hn (by simp; omega)
    have ha1 : h₁.objs[a]? = some (dObj es n) := (a3.same a hda).trans ha
    obtain ⟨h₂, b1, b2, b3⟩ := st_mergeLoop hda hn he k (i + 1) l { s with heap := h₁ } (by omega) ha1 (by
      rw [List.append_assoc] at a2
      rw [List.take_add_one, List.getElem?_eq_getElem hlt]
      exact a2) hap hz
    refine ⟨h₂, ?_, b2, a3.trans b3⟩
    rw [List.range'_succ, List.forIn_cons]
    refine st_le (N := 1 + (4 + (1 + 0)) + 6 * k) ?_
    refine st_bind (a := .yield PUnit.unit) (s' := { s with heap := h₁ }) ?_ ?_
    rotate_left
    · exact b1
    refine st_bind (st_entries _ (get_of_objs ha)) ?_
    rw [Array.getElem?_eq_getElem hlt', hE]
    dsimp only
    refine st_bind (st_holding a1) ?_
    refine st_bind (st_epoch _ (get_of_objs ha1)) ?_
    rw [if_neg (by simp)]
    exact st_pure _
theorem st_merge {s : Shared} {d a : Addr} {l r : List (Int × Str)} (hda : a ≠ d) (hn : X.n₀ ≤ d) (hl : l ≠ []) (hm : a ≠ sysModules) (B : Bears s.heap d l) (C : Bears s.heap a r) (hap : Apart (l ++ r)) (hz : l.length + r.length ≤ sizeLine) :
    ∃ h', Str' X (5 + 6 * r.length) (mergeMapping d (.ref a) false) s () { s with heap := h' } ∧ Bears h' d (l ++ r) ∧ HB d s.heap h' := by
  obtain ⟨es, n, ho, he⟩ := C.at_
  obtain ⟨es0, n0, ho0, he0⟩ := B.at_
  obtain ⟨h', b1, b2, b3⟩ := st_mergeLoop (X := X) hda hn he r.length 0 l s (by omega) ho (by simpa using B) hap hz
  refine ⟨h', ?_, b2, b3⟩
  unfold mergeMapping
  refine st_le (N := 1 + (1 + (0 + (1 + (1 + (1 + (6 * r.length + 0))))))) ?_
  refine st_bind (isInst_dict (get_of_objs ho)) ?_
  dsimp only
  rw [if_pos rfl]
  refine st_bind (specialOf_dictIter (get_of_objs ho)) ?_
  refine st_bind (a := true) (s' := s) (st_of_eq (by rfl) (st_pure _)) ?_
  dsimp only
  rw [if_neg (by simpa using hm)]
  refine st_bind (st_entries _ (get_of_objs ho0)) ?_
  have hne : es0.isEmpty = false := by
    rw [Array.isEmpty_eq_false_iff]
    intro e
    rw [e] at he0
    cases l with
    | nil => exact hl rfl
    | cons _ _ => exact he0.elim
  rw [hne, if_neg Bool.false_ne_true]
  refine st_bind (st_entries _ (get_of_objs ho)) ?_
  refine st_bind (st_epoch _ (get_of_objs ho)) ?_
  rw [List.range_eq_range', show es.size = r.length by rw [← Array.length_toList, he.length]]
  refine st_bind (a := PUnit.unit) ?_ (st_pure _)
  refine st_of_eq ?_ b1
  rfl
end

/-- what a display's run has made: the dict and the chunks beside it -/
structure Made (h₀ h : Heap) (l : List (Int × Str)) (c : Nat) : Prop where
  bears : Bears h h₀.objs.size l
  life : h.life = h₀.life
  size : h.objs.size = h₀.objs.size + c
  same : ∀ b, b < h₀.objs.size → h.objs[b]? = h₀.objs[b]?
theorem push_same (h : Heap) (o : Obj) : ∀ b, b < h.objs.size → (h.push o).objs[b]? = h.objs[b]? := fun b hb => by
  obtain ⟨objs, l⟩ := h
  show (objs.push o)[b]? = objs[b]?
  rw [Array.getElem?_push_lt hb, Array.getElem?_eq_getElem hb]
theorem push_size (h : Heap) (o : Obj) : (h.push o).objs.size = h.objs.size + 1 := by
  obtain ⟨objs, l⟩ := h; exact Array.size_push ..
theorem push_life (h : Heap) (o : Obj) : (h.push o).life = h.life := by
  obtain ⟨objs, l⟩ := h; rfl
abbrev Run := List (Sem Value × Sem Value)
abbrev flushOf (run : Run) (main : Option Addr) : Sem (Option Addr) :=
    if run.isEmpty = true then pure main
    else
      match main with
      | none => do
        let __do_lift ← subDict run
        pure (some __do_lift)
      | some d => do
        let sub ← holding [Value.ref d] (subDict run)
        (holding [Value.ref d, Value.ref sub] (mergeMapping d (Value.ref sub) false)).onRaise fun x => do
            let _ ← holding [Value.ref d, x] (runValue (Code.builtin "proto.let_go" { }))
            pure ()
        pure (some d)
section
variable {X : Cx}
theorem st_flush0 {h₀ : Heap} {s : Shared} (pos : PySem.Pos) (r : List (Int × Str)) (hs : s.heap = h₀) (hn : X.n₀ ≤ h₀.objs.size) (hr : r ≠ []) (ha : Apart r) (hz : r.length ≤ sizeLine) :
    ∃ h', Str' X (2 + 13 * r.length) (flushOf (r.map (itemT pos)) none) s (some h₀.objs.size) { s with heap := h', toks := s.toks + 3 * r.length } ∧ Made h₀ h' r 1 := by
  subst hs
  obtain ⟨h', b1, b2, b3⟩ := st_sub (X := X) (s := s) pos r hn ha hz
  refine ⟨h', ?_, b2, b3.life.trans (push_life _ _), b3.size.trans (push_size _ _), fun b hb => (b3.same b (Nat.ne_of_lt hb)).trans (push_same _ _ b hb)⟩
  have e : (r.map (itemT pos)).isEmpty = false := by cases r with
    | nil => exact absurd rfl hr
    | cons _ _ => rfl
  unfold flushOf
  rw [e, if_neg Bool.false_ne_true]
  exact st_bind (N := 2 + 13 * r.length) (N' := 0) b1 (st_pure _)
theorem st_flush1 {h₀ : Heap} {s : Shared} {l : List (Int × Str)} {c : Nat} (pos : PySem.Pos) (r : List (Int × Str)) (M : Made h₀ s.heap l c) (hn : X.n₀ ≤ h₀.objs.size) (hc : 1 ≤ c) (hm : sysModules < h₀.objs.size) (hl : l ≠ []) (hr : r ≠ []) (ha : Apart (l ++ r)) (hz : l.length + r.length ≤ sizeLine) :
    ∃ h', Str' X (7 + 19 * r.length) (flushOf (r.map (itemT pos)) (some h₀.objs.size)) s (some h₀.objs.size) { s with heap := h', toks := s.toks + 3 * r.length } ∧ Made h₀ h' (l ++ r) (c + 1) := by
  have hsz := M.size
  obtain ⟨h₁, b1, b2, b3⟩ := st_sub (X := X) (s := s) pos r (by omega) (List.pairwise_append.mp ha).2.1 (by omega)
  have hne : s.heap.objs.size ≠ h₀.objs.size := by omega
  have hms : s.heap.objs.size ≠ sysModules := Nat.ne_of_gt (Nat.lt_of_lt_of_le hm (by rw [hsz]; exact Nat.le_add_right _ _))
  have B1 : Bears h₁ h₀.objs.size l := by
    obtain ⟨es, n, ho, he⟩ := M.bears.at_
    exact ⟨es, n, (b3.same _ (Ne.symm hne)).trans ((push_same _ _ _ (by omega)).trans ho), he⟩
  obtain ⟨h₂, c1, c2, c3⟩ := st_merge (X := X) (s := { s with heap := h₁, toks := s.toks + 3 * r.length }) (d := h₀.objs.size) (a := s.heap.objs.size) hne hn hl hms B1 b2 ha hz
  have q1 : h₂.objs.size = h₁.objs.size := c3.size
  have q2 : h₁.objs.size = s.heap.objs.size + 1 := b3.size.trans (push_size _ _)
  refine ⟨h₂, ?_, c2, c3.life.trans (b3.life.trans ((push_life _ _).trans M.life)), by omega, fun b hb => ?_⟩
  · have e : (r.map (itemT pos)).isEmpty = false := by cases r with
      | nil => exact absurd rfl hr
      | cons _ _ => rfl
    unfold flushOf
    rw [e, if_neg Bool.false_ne_true]
    exact st_le (st_bind (st_holding b1) (st_bind (st_onRaise (st_holding c1)) (st_pure _)))
  · have g1 : h₂.objs[b]? = h₁.objs[b]? := c3.same b (Nat.ne_of_lt hb)
    have g2 : h₁.objs[b]? = s.heap.objs[b]? := (b3.same b (Nat.ne_of_lt (by omega : b < s.heap.objs.size))).trans (push_same _ _ _ (by omega : b < s.heap.objs.size))
    exact g1.trans (g2.trans (M.same b hb))
abbrev bodyOf (x : Option (Sem Value) × Sem Value) (st : Option Addr × Run) : Sem (ForInStep (Option Addr × Run)) :=
  match x with
  | (k, v) =>
    match k with
    | some k =>
      if ((st.2 ++ [(k, v)]).length == 17) = true then do
        let main ← flushOf (st.2 ++ [(k, v)]) st.1
        pure (ForInStep.yield (main, []))
      else pure (ForInStep.yield (st.1, st.2 ++ [(k, v)]))
    | none => unsupported "not here"
/-- a loop whose body does as bodyOf on plain items -/
def Body (f : (Option (Sem Value) × Sem Value) → (Option Addr × Run) → Sem (ForInStep (Option Addr × Run))) : Prop := ∀ k v st, f (some k, v) st = bodyOf (some k, v) st
variable {f : (Option (Sem Value) × Sem Value) → (Option Addr × Run) → Sem (ForInStep (Option Addr × Run))}
abbrev opt (x : Sem Value × Sem Value) : Option (Sem Value) × Sem Value := (some x.1, x.2)
theorem st_gather (hf : Body f) (mn : Option Addr) : ∀ (items run : Run) (rest : List (Option (Sem Value) × Sem Value)), run.length + items.length < 17 →
    forIn (items.map opt ++ rest) (mn, run) f = forIn rest (mn, run ++ items) f
  | [], run, rest, _ => by simp
  | p :: items, run, rest, h => by
    rw [List.length_cons] at h
    rw [List.map_cons, List.cons_append, List.forIn_cons]
    show (f (some p.1, p.2) (mn, run) >>= _) = _
    rw [hf]
    have e : ((run ++ [(p.1, p.2)]).length == 17) = false := by simp; omega
    show ((if ((run ++ [(p.1, p.2)]).length == 17) = true then _ else _) >>= _) = _
    rw [e, if_neg Bool.false_ne_true]
    show forIn (items.map opt ++ rest) (mn, run ++ [p]) f = _
    rw [st_gather hf mn items (run ++ [p]) rest (by simp; omega)]
    simp
theorem st_chunk (hf : Body f) (mn : Option Addr) (items : Run) (rest : List (Option (Sem Value) × Sem Value)) (h : items.length = 17) :
    forIn (items.map opt ++ rest) (mn, []) f = (flushOf items mn >>= fun m => forIn rest (m, []) f) := by
  obtain ⟨l, x, rfl⟩ : ∃ l x, items = l ++ [x] := ⟨items.dropLast, items.getLast (by intro e; rw [e] at h; cases h), (List.dropLast_concat_getLast _).symm⟩
  rw [List.map_append, List.append_assoc, st_gather hf mn l [] _ (by simp at h ⊢; omega)]
  rw [List.nil_append, List.map_cons, List.map_nil, List.cons_append, List.nil_append, List.forIn_cons]
  show (f (some x.1, x.2) (mn, l) >>= _) = _
  rw [hf]
  show ((if ((l ++ [(x.1, x.2)]).length == 17) = true then _ else _) >>= _) = _
  rw [if_pos (by simpa using h)]
  show ((flushOf (l ++ [x]) mn >>= fun m => pure (ForInStep.yield (m, []))) >>= _) = _
  rw [bind_assoc]
  rfl
end

section
variable {X : Cx} {f : (Option (Sem Value) × Sem Value) → (Option Addr × Run) → Sem (ForInStep (Option Addr × Run))}
abbrev itm (pos : PySem.Pos) (p : Int × Str) : Option (Sem Value) × Sem Value := opt (itemT pos p)
theorem map_itm (pos : PySem.Pos) (l : List (Int × Str)) : l.map (itm pos) = (l.map (itemT pos)).map opt := by rw [List.map_map]; rfl
theorem st_chunks {h₀ : Heap} (hf : Body f) (pos : PySem.Pos) (hn : X.n₀ ≤ h₀.objs.size) (hm : sysModules < h₀.objs.size) : ∀ (m : Nat) (acc l : List (Int × Str)) (c : Nat) (s : Shared), l.length < 17 * m + 17 → 17 * m ≤ l.length →
    Made h₀ s.heap acc c → 1 ≤ c → acc ≠ [] → Apart (acc ++ l) → acc.length + l.length ≤ sizeLine →
    ∃ h', Str' X (330 * m) (forIn (l.map (itm pos)) (some h₀.objs.size, []) f) s (some h₀.objs.size, (l.drop (17 * m)).map (itemT pos)) { s with heap := h', toks := s.toks + 3 * (17 * m) } ∧ Made h₀ h' (acc ++ l.take (17 * m)) (c + m)
  | 0, acc, l, c, s, h1, h2, M, hc, ha0, ha, hz => by
    refine ⟨s.heap, ?_, by simpa using M⟩
    have e := st_gather hf (some h₀.objs.size) (l.map (itemT pos)) [] [] (by simpa using h1)
    rw [List.append_nil, List.nil_append, ← map_itm] at e
    rw [e]
    exact st_pure _
  | m + 1, acc, l, c, s, h1, h2, M, hc, ha0, ha, hz => by
    have hl : l = l.take 17 ++ l.drop 17 := (List.take_append_drop 17 l).symm
    have ht : (l.take 17).length = 17 := by rw [List.length_take]; omega
    have hd : (l.drop 17).length = l.length - 17 := List.length_drop
    have hap : Apart (acc ++ l.take 17 ++ l.drop 17) := by rw [List.append_assoc, ← hl]; exact ha
    obtain ⟨h₁, a1, a2⟩ := st_flush1 (X := X) pos (l.take 17) M hn hc hm ha0 (by intro e; rw [e] at ht; cases ht) (List.pairwise_append.mp hap).1 (by omega)
    obtain ⟨h₂, b1, b2⟩ := st_chunks hf pos hn hm m (acc ++ l.take 17) (l.drop 17) (c + 1) { s with heap := h₁, toks := s.toks + 3 * (l.take 17).length } (by omega) (by omega) a2 (by omega) (by simp [ha0]) hap (by simp only [List.length_append]; omega)
    refine ⟨h₂, ?_, ?_⟩
    · have e := st_chunk hf (some h₀.objs.size) ((l.take 17).map (itemT pos)) ((l.drop 17).map (itm pos)) (by simpa using ht)
      rw [← map_itm, ← List.map_append, ← hl] at e
      rw [e]
      have e2 : s.toks + 3 * (17 * (m + 1)) = s.toks + 3 * (l.take 17).length + 3 * (17 * m) := by omega
      rw [e2, show 17 * (m + 1) = 17 + 17 * m by omega, ← List.drop_drop]
      exact st_le (st_bind a1 b1) (by rw [ht]; omega)
    · rw [show 17 * (m + 1) = 17 + 17 * m by omega, List.take_add, ← List.append_assoc, show c + (m + 1) = c + 1 + m by omega]
      exact b2
theorem st_display {s : Shared} (pos : PySem.Pos) (m : Nat) (l : List (Int × Str)) (h1 : 17 * m + 17 < l.length) (h2 : l.length < 17 * m + 34) (hn : X.n₀ ≤ s.heap.objs.size) (hm : sysModules < s.heap.objs.size) (ha : Apart l) (hz : l.length ≤ sizeLine) :
    ∃ h', Str' X (330 * m + 700) (dictDisplay (l.map (itm pos))) s (.ref s.heap.objs.size) { s with heap := h', toks := s.toks + 3 * l.length } ∧ Made s.heap h' l (m + 2) := by
  have hl : l = l.take 17 ++ l.drop 17 := (List.take_append_drop 17 l).symm
  have ht : (l.take 17).length = 17 := by rw [List.length_take]; omega
  have hd : (l.drop 17).length = l.length - 17 := List.length_drop
  have hap : Apart (l.take 17 ++ l.drop 17) := by rw [← hl]; exact ha
  obtain ⟨h₁, a1, a2⟩ := st_flush0 (X := X) (s := s) pos (l.take 17) rfl hn (by intro e; rw [e] at ht; cases ht) (List.pairwise_append.mp hap).1 (by omega)
  have ne : l.take 17 ≠ [] := by intro e; rw [e] at ht; cases ht
  have hd2 : ((l.drop 17).drop (17 * m)).length = l.length - 17 - 17 * m := by rw [List.length_drop, hd]
  have hl2 : l.take 17 ++ (l.drop 17).take (17 * m) ++ (l.drop 17).drop (17 * m) = l := by rw [List.append_assoc, List.take_append_drop, ← hl]
  have key : ∀ f, Body f → ∃ h₂, Str' X (223 + 330 * m) (forIn (l.map (itm pos)) (none, []) f) s (some s.heap.objs.size, ((l.drop 17).drop (17 * m)).map (itemT pos)) { s with heap := h₂, toks := s.toks + 3 * 17 + 3 * (17 * m) } ∧ Made s.heap h₂ (l.take 17 ++ (l.drop 17).take (17 * m)) (1 + m) := by
    intro f hf
    obtain ⟨h₂, b1, b2⟩ := st_chunks (X := X) (h₀ := s.heap) hf pos hn hm m (l.take 17) (l.drop 17) 1 { s with heap := h₁, toks := s.toks + 3 * (l.take 17).length } (by omega) (by omega) a2 (Nat.le_refl _) ne hap (by omega)
    refine ⟨h₂, ?_, b2⟩
    have e := st_chunk hf none ((l.take 17).map (itemT pos)) ((l.drop 17).map (itm pos)) (by simpa using ht)
    rw [← map_itm, ← List.map_append, ← hl] at e
    rw [e]
    have e3 : 3 * (l.take 17).length = 3 * 17 := by rw [ht]
    rw [e3] at a1 b1
    exact st_le (st_bind a1 b1) (by rw [ht]; omega)
  have lastOne : ∀ h₂, Made s.heap h₂ (l.take 17 ++ (l.drop 17).take (17 * m)) (1 + m) → ∃ h', Str' X 330 (flushOf (((l.drop 17).drop (17 * m)).map (itemT pos)) (some s.heap.objs.size)) { s with heap := h₂, toks := s.toks + 3 * 17 + 3 * (17 * m) } (some s.heap.objs.size) { s with heap := h', toks := s.toks + 3 * l.length } ∧ Made s.heap h' l (m + 2) := by
    intro h₂ M
    obtain ⟨h₃, c1, c2⟩ := st_flush1 (X := X) (s := { s with heap := h₂, toks := s.toks + 3 * 17 + 3 * (17 * m) }) pos ((l.drop 17).drop (17 * m)) M hn (by omega) hm (by simp [ne]) (by intro e; rw [e] at hd2; simp at hd2; omega) (by rw [hl2]; exact ha) (by
      have q := congrArg List.length hl2
      rw [List.length_append] at q
      omega)
    rw [hl2] at c2
    refine ⟨h₃, ?_, by rw [show m + 2 = 1 + m + 1 by omega]; exact c2⟩
    have e : s.toks + 3 * 17 + 3 * (17 * m) + 3 * ((l.drop 17).drop (17 * m)).length = s.toks + 3 * l.length := by rw [hd2]; omega
    rw [← e]
    exact st_le c1 (by rw [hd2]; omega)
  unfold dictDisplay
  dsimp only
  generalize hF : (fun (x : Option (Sem Value) × Sem Value) (st : Option Addr × Run) => _ : (Option (Sem Value) × Sem Value) → (Option Addr × Run) → Sem (ForInStep (Option Addr × Run))) = F
  have hf : Body F := by subst hF; intro k v st; rfl
  obtain ⟨h₂, b1, b2⟩ := key F hf
  obtain ⟨h₃, c1, c2⟩ := lastOne h₂ b2
  exact ⟨h₃, st_le (st_bind b1 (st_bind c1 (st_pure _))), c2⟩
end

def litPairs : List (Option PySem.Expr) → List PySem.Expr → Option (List (Int × Str))
  | some (.Constant (.int k) _ _) :: ks, .Constant (.str v) _ _ :: vs => (litPairs ks vs).map ((k, v) :: ·)
  | [], [] => some []
  | _, _ => none
theorem litItems (env : Env) (pos : PySem.Pos) : ∀ (ks : List (Option PySem.Expr)) (vs : List PySem.Expr) (l : List (Int × Str)), litPairs ks vs = some l →
    (evalEachOpt ks env).zip ((evalEach vs env).map fun v => do let x ← v; standAt pos; pure x) = l.map (itm pos) := by
  intro ks vs
  induction ks, vs using litPairs.induct with
  | case1 k kd p ks v kd' p' vs ih =>
    intro l h
    rw [litPairs] at h
    obtain ⟨l', h', rfl⟩ := Option.map_eq_some_iff.mp h
    have := ih l' h'
    rw [List.map_cons, ← this]
    rfl
  | case2 => intro l h; rw [litPairs] at h; cases h; rfl
  | case3 ks vs h1 h2 => intro l h; rw [litPairs] at h <;> first | cases h | assumption
theorem st_Dict {X : Cx} {s : Shared} {env : Env} {ks : List (Option PySem.Expr)} {vs : List PySem.Expr} {pos : PySem.Pos} {l : List (Int × Str)} (m : Nat) (hl : litPairs ks vs = some l) (h1 : 17 * m + 17 < l.length) (h2 : l.length < 17 * m + 34)
    (hn : X.n₀ ≤ s.heap.objs.size) (hm : sysModules < s.heap.objs.size) (ha : Apart l) (hz : l.length ≤ sizeLine) :
    ∃ h', Str' X (330 * m + 701) (eval (.Dict ks vs pos) env) s (.ref s.heap.objs.size) { s with heap := h', toks := s.toks + 3 * l.length } ∧ Made s.heap h' l (m + 2) := by
  obtain ⟨h', a, b⟩ := st_display (X := X) (s := s) pos m l h1 h2 hn hm ha hz
  refine ⟨h', ?_, b⟩
  rw [arm_eval_Dict, litItems env pos ks vs l hl]
  exact st_le (st_bind (st_at _) a)
def rising : Int → List (Int × Str) → Bool
  | _, [] => true
  | a, p :: l => decide (a < p.1) && decide (p.1 < 1000000000) && rising p.1 l
theorem hashInt_small {k : Int} (h0 : 0 ≤ k) (h1 : k < 1000000000) : hashInt k = k := by
  unfold hashInt rawHash
  have e : ((k.natAbs % (2 ^ 61 - 1 : Nat) : Nat) : Int) = k := by
    rw [Nat.mod_eq_of_lt (by omega)]; omega
  have e2 : ((k.natAbs : Int) % ((2 ^ 61 - 1 : Nat) : Int)) = k := by exact_mod_cast e
  simp only [e2]
  rw [if_neg (by omega : ¬ k < 0)]
  have ne : ¬ ((k == -1) = true) := by simp; omega
  rw [if_neg ne, if_neg ne]
theorem rising_all : ∀ (l : List (Int × Str)) (a : Int), rising a l = true → ∀ p ∈ l, a < p.1 ∧ p.1 < 1000000000
  | [], _, _, p, hp => nomatch hp
  | q :: l, a, h, p, hp => by
    simp only [rising, Bool.and_eq_true, decide_eq_true_eq] at h
    rcases List.mem_cons.mp hp with rfl | hp
    · exact h.1
    · have := rising_all l q.1 h.2 p hp
      exact ⟨by omega, this.2⟩
theorem apart_of_rising : ∀ (l : List (Int × Str)) (a : Int), -1 ≤ a → rising a l = true → Apart l
  | [], _, _, _ => List.Pairwise.nil
  | q :: l, a, h0, h => by
    simp only [rising, Bool.and_eq_true, decide_eq_true_eq] at h
    refine List.pairwise_cons.mpr ⟨fun p hp => ?_, apart_of_rising l q.1 (by omega) h.2⟩
    have := rising_all l q.1 h.2 p hp
    rw [hashInt_small (by omega) h.1.2, hashInt_small (by omega) this.2]
    omega
end Hs
namespace Hd2
noncomputable section
noncomputable abbrev pw : Program := PySem.Challenge.pw_re0177_02
abbrev s (x : String) : Str := Str.ofString x
noncomputable def ke (P : Params) (x : Str) (t : Nat) (v : Value) : DictEntry := ⟨PyData.keyHash P x, .str x t, v⟩
noncomputable def bd (i : Nat) : Stmt := pw.main.body.getD i (.Pass ⟨0, 0, 0, 0⟩)
def cBody : Stmt → List Stmt | .ClassDef _ _ _ b .. => b | _ => []
noncomputable def cd (i j : Nat) : Stmt := (cBody (bd i)).getD j (.Pass ⟨0, 0, 0, 0⟩)
def fArgs : Stmt → Arguments | .FunctionDef _ a .. => a | _ => ⟨[], [], none, [], [], none, []⟩
def fBody : Stmt → List Stmt | .FunctionDef _ _ b .. => b | _ => []
def fScope : Stmt → Scope | .FunctionDef _ _ _ _ _ _ sc .. => sc | _ => ⟨.function, [], false, false, []⟩
def life0 : Life := {}
noncomputable abbrev o0_0 (P : Params) : Obj := PySem.W.boot_o_0 P
noncomputable def o1_0 (P : Params) : Obj := ⟨(.type "dict"), none, .dict (List.toArray [(ke P (s "builtins") 162 (.ref 4)), (ke P (s "__main__") 163 (.ref 5)), (ke P (s "_sre") 244 (.ref 12))]) 3, (List.toArray [])⟩
noncomputable def o2_0 (P : Params) : Obj := ⟨.none, none, .dict (List.toArray [(ke P (s "im\x70ort.loaded._sre") 183 (.bool true)), (ke P (s "class._frozen_importlib.BuiltinImporter") 185 (.ref 14)), (ke P (s "watched.im\x70ort") 206 (.ref 18)), (ke P (s "class._frozen_importlib.ModuleSpec") 216 (.ref 22)), (ke P (s "sys.modules.booked-epoch") 245 (.int 3 0)), (ke P (s "im\x70ort.later-laid._sre") 270 (.bool true)), (ke P (s "watched.library") 272 (.ref 27)), (ke P (s "watched.library-objects") 0 (.str (s "\x0c") 0)), (ke P (s "watched.library-deep._sre") 273 (.str (s "\x04\x00\x00\x0b\x04\x00\x00\x0b\x04\x00\x00\x03\x04\x00\x00\x0b\x08\x04dict\x02") 0))]) 9, (List.toArray [])⟩
noncomputable def o3_0 (P : Params) : Obj := ⟨(.type "dict"), none, .dict (List.toArray [(ke P (s "__name__") 165 (.str (s "__main__") 164)), (ke P (s "__doc__") 166 .none), (ke P (s "__package__") 167 .none), (ke P (s "__loader__") 168 (.builtin "__main__.__loader__#opaque")), (ke P (s "__spec__") 169 .none), (ke P (s "__annotations__") 170 (.ref 6)), (ke P (s "__builtins__") 171 (.ref 4)), (ke P (s "__file__") 173 (.str (s "/claim/cut.py") 172)), (ke P (s "__cached__") 174 .none), (ke P (s "_sre") 275 (.ref 12))]) 10, (List.toArray [])⟩
noncomputable def o4_0 (P : Params) : Obj := ⟨(.type "module"), (some 0), .plain, (List.toArray [])⟩
noncomputable def o5_0 (P : Params) : Obj := ⟨(.type "module"), (some 3), .plain, (List.toArray [])⟩
noncomputable def o6_0 (P : Params) : Obj := ⟨(.type "dict"), none, .dict (List.toArray []) 0, (List.toArray [])⟩
noncomputable def o7_0 (P : Params) : Obj := ⟨(.type "tuple"), none, .seq (List.toArray []) 0, (List.toArray [])⟩
noncomputable def o8_0 (P : Params) : Obj := ⟨.none, none, .fields (List.toArray []), (List.toArray [])⟩
noncomputable def o9_0 (P : Params) : Obj := ⟨(.type "code"), none, .fields (List.toArray [(.str (s "<module>") 176), (.str (s "<module>") 177), (.str (s "/claim/cut.py") 178), (.int 1 0), (.int 0 0), (.int 0 0), (.int 0 0), (.int 0 0), (.ref 7), (.bool false), (.int 175 0), (.ref 8), .none, .none, .none, .none, (.int 179 0), (.int 1 0), (.str (s "/claim/cut.py") 180)]), (List.toArray [])⟩
noncomputable def o10_0 (P : Params) : Obj := ⟨(.type "frame"), none, .plain, (List.toArray [(some (.ref 9)), (some (.ref 3)), (some (.ref 3)), none, (some (.str (s "__main__") 164)), none, (some (.ref 0))])⟩
noncomputable def o11_0 (P : Params) : Obj := ⟨(.type "dict"), none, .dict (List.toArray [(ke P (s "__name__") 247 (.str (s "_sre") 246)), (ke P (s "__doc__") 248 .none), (ke P (s "__package__") 250 (.str (s "") 249)), (ke P (s "__loader__") 251 (.builtin "off-the-table:_sre.__loader__:shared#opaque")), (ke P (s "__spec__") 252 (.builtin "off-the-table:_sre.__spec__:shared#opaque")), (ke P (s "compile") 253 (.builtin "_sre.compile")), (ke P (s "template") 254 (.builtin "off-the-table:_sre.template:shared#opaque")), (ke P (s "getcodesize") 255 (.builtin "off-the-table:_sre.getcodesize:shared#opaque")), (ke P (s "ascii_iscased") 256 (.builtin "off-the-table:_sre.ascii_iscased:shared#opaque")), (ke P (s "unicode_iscased") 257 (.builtin "off-the-table:_sre.unicode_iscased:shared#opaque")), (ke P (s "ascii_tolower") 258 (.builtin "off-the-table:_sre.ascii_tolower:shared#opaque")), (ke P (s "unicode_tolower") 259 (.builtin "off-the-table:_sre.unicode_tolower:shared#opaque")), (ke P (s "MAGIC") 261 (.int 20230612 260)), (ke P (s "CODESIZE") 263 (.int 4 262)), (ke P (s "MAXREPEAT") 265 (.int 4294967295 264)), (ke P (s "MAXGROUPS") 267 (.int 1073741823 266)), (ke P (s "copyright") 269 (.str (s " SRE 2.2.2 Copyright (c) 1997-2002 by Secret Labs AB ") 268))]) 17, (List.toArray [])⟩
noncomputable def o12_0 (P : Params) : Obj := ⟨(.type "module"), (some 11), .plain, (List.toArray [])⟩
noncomputable def o13_0 (P : Params) : Obj := ⟨(.type "dict"), none, .dict (List.toArray [(ke P (s "__module__") 189 (.str (s "_frozen_importlib") 186)), (ke P (s "__firstlineno__") 190 (.int 971 187)), (ke P (s "__doc__") 191 (.builtin "_frozen_importlib.BuiltinImporter.__doc__:str#opaque")), (ke P (s "_ORIGIN") 192 (.str (s "built-in") 188)), (ke P (s "find_spec") 193 (.builtin "_frozen_importlib.BuiltinImporter.find_spec#opaque")), (ke P (s "create_module") 194 (.builtin "_frozen_importlib.BuiltinImporter.create_module#opaque")), (ke P (s "exec_module") 195 (.builtin "_frozen_importlib.BuiltinImporter.exec_module#opaque")), (ke P (s "get_code") 196 (.builtin "_frozen_importlib.BuiltinImporter.get_code#opaque")), (ke P (s "get_source") 197 (.builtin "_frozen_importlib.BuiltinImporter.get_source#opaque")), (ke P (s "is_package") 198 (.builtin "_frozen_importlib.BuiltinImporter.is_package#opaque")), (ke P (s "load_module") 199 (.builtin "_frozen_importlib.BuiltinImporter.load_module#opaque")), (ke P (s "__static_attributes__") 200 (.ref 15)), (ke P (s "__dict__") 202 (.ref 16)), (ke P (s "__weakref__") 204 (.ref 17))]) 14, (List.toArray [])⟩
noncomputable def o14_0 (P : Params) : Obj := ⟨(.type "type"), none, .cls ⟨(s "BuiltinImporter"), [(.type "object")], [(.ref 14), (.type "object")], 13, (s "BuiltinImporter"), true, [], [], false, none, false⟩, (List.toArray [])⟩
noncomputable def o15_0 (P : Params) : Obj := ⟨(.type "tuple"), none, .seq (List.toArray []) 0, (List.toArray [])⟩
noncomputable def o16_0 (P : Params) : Obj := ⟨(.type "getset_descriptor"), none, .fields (List.toArray [(.str (s "__dict__") 201), (.ref 14), (.builtin "function.__dict__"), (.builtin "function.__dict__#set")]), (List.toArray [])⟩
noncomputable def o17_0 (P : Params) : Obj := ⟨(.type "getset_descriptor"), none, .fields (List.toArray [(.str (s "__weakref__") 203), (.ref 14), (.builtin "ExceptionGroup.__weakref__"), .none]), (List.toArray [])⟩
noncomputable def o18_0 (P : Params) : Obj := ⟨.none, none, .seq (List.toArray [(.int 13 0), (.str (s "\x06½\n__module__\x06º\x11_frozen_importlib\x06¾\x0f__firstlineno__\x04»\x00ϋ\x06¿\x07__doc__\t4_frozen_importlib.BuiltinImporter.__doc__:str#opaque\x06À\x07_ORIGIN\x06¼\x08built-in\x06Á\tfind_spec\t2_frozen_importlib.BuiltinImporter.find_spec#opaque\x06Â\x0dcreate_module\t6_frozen_importlib.BuiltinImporter.create_module#opaque\x06Ã\x0bexec_module\t4_frozen_importlib.BuiltinImporter.exec_module#opaque\x06Ä\x08get_code\t1_frozen_importlib.BuiltinImporter.get_code#opaque\x06Å\nget_source\t3_frozen_importlib.BuiltinImporter.get_source#opaque\x06Æ\nis_package\t3_frozen_importlib.BuiltinImporter.is_package#opaque\x06Ç\x0bload_module\t4_frozen_importlib.BuiltinImporter.load_module#opaque\x06È\x15__static_attributes__\x04\x00\x00\x0f\x06Ê\x08__dict__\x04\x00\x00\x10\x06Ì\x0b__weakref__\x04\x00\x00\x11") 0), (.bool true), (.bool true), (.str (s "") 205), (.int 21 0), (.str (s "\x06ã\n__module__\x06Ù\x11_frozen_importlib\x06ä\x0f__firstlineno__\x04Ú\x00Ȳ\x06å\x07__doc__\t/_frozen_importlib.ModuleSpec.__doc__:str#opaque\x06æ\x08__init__\t,_frozen_importlib.ModuleSpec.__init__#opaque\x06ç\x08__repr__\t,_frozen_importlib.ModuleSpec.__repr__#opaque\x06è\x06__eq__\t*_frozen_importlib.ModuleSpec.__eq__#opaque\x06é\x06cached\t*_frozen_importlib.ModuleSpec.cached#opaque\x06ê\x06parent\t*_frozen_importlib.ModuleSpec.parent#opaque\x06ë\x0chas_location\t0_frozen_importlib.ModuleSpec.has_location#opaque\x06ì\x15__static_attributes__\x04\x00\x00\x17\x06î\x08__dict__\x04\x00\x00\x18\x06ð\x0b__weakref__\x04\x00\x00\x19\x06ñ\x08__hash__\x00") 0), (.bool true), (.bool true), (.str (s "") 242)]) 1, (List.toArray [])⟩
noncomputable def o19_0 (P : Params) : Obj := ⟨(.type "list"), none, .seq (List.toArray []) 0, (List.toArray [])⟩
noncomputable def o20_0 (P : Params) : Obj := ⟨(.type "dict"), none, .dict (List.toArray [(ke P (s "name") 208 (.str (s "_sre") 207)), (ke P (s "loader") 209 (.ref 14)), (ke P (s "origin") 210 (.str (s "built-in") 184)), (ke P (s "loader_state") 211 .none), (ke P (s "submodule_search_locations") 212 .none), (ke P (s "_uninitialized_submodules") 213 (.ref 19)), (ke P (s "_set_fileattr") 214 (.bool false)), (ke P (s "_cached") 215 .none), (ke P (s "_initializing") 243 (.bool false))]) 9, (List.toArray [])⟩
noncomputable def o21_0 (P : Params) : Obj := ⟨(.type "dict"), none, .dict (List.toArray [(ke P (s "__module__") 227 (.str (s "_frozen_importlib") 217)), (ke P (s "__firstlineno__") 228 (.int 562 218)), (ke P (s "__doc__") 229 (.builtin "_frozen_importlib.ModuleSpec.__doc__:str#opaque")), (ke P (s "__init__") 230 (.builtin "_frozen_importlib.ModuleSpec.__init__#opaque")), (ke P (s "__repr__") 231 (.builtin "_frozen_importlib.ModuleSpec.__repr__#opaque")), (ke P (s "__eq__") 232 (.builtin "_frozen_importlib.ModuleSpec.__eq__#opaque")), (ke P (s "cached") 233 (.builtin "_frozen_importlib.ModuleSpec.cached#opaque")), (ke P (s "parent") 234 (.builtin "_frozen_importlib.ModuleSpec.parent#opaque")), (ke P (s "has_location") 235 (.builtin "_frozen_importlib.ModuleSpec.has_location#opaque")), (ke P (s "__static_attributes__") 236 (.ref 23)), (ke P (s "__dict__") 238 (.ref 24)), (ke P (s "__weakref__") 240 (.ref 25)), (ke P (s "__hash__") 241 .none)]) 13, (List.toArray [])⟩
noncomputable def o22_0 (P : Params) : Obj := ⟨(.type "type"), none, .cls ⟨(s "ModuleSpec"), [(.type "object")], [(.ref 22), (.type "object")], 21, (s "ModuleSpec"), true, [], [], false, none, false⟩, (List.toArray [])⟩
noncomputable def o23_0 (P : Params) : Obj := ⟨(.type "tuple"), none, .seq (List.toArray [(.str (s "_cached") 219), (.str (s "_set_fileattr") 220), (.str (s "_uninitialized_submodules") 221), (.str (s "loader") 222), (.str (s "loader_state") 223), (.str (s "name") 224), (.str (s "origin") 225), (.str (s "submodule_search_locations") 226)]) 0, (List.toArray [])⟩
noncomputable def o24_0 (P : Params) : Obj := ⟨(.type "getset_descriptor"), none, .fields (List.toArray [(.str (s "__dict__") 237), (.ref 22), (.builtin "function.__dict__"), (.builtin "function.__dict__#set")]), (List.toArray [])⟩
noncomputable def o25_0 (P : Params) : Obj := ⟨(.type "getset_descriptor"), none, .fields (List.toArray [(.str (s "__weakref__") 239), (.ref 22), (.builtin "ExceptionGroup.__weakref__"), .none]), (List.toArray [])⟩
noncomputable def o26_0 (P : Params) : Obj := ⟨(.ref 22), (some 20), .plain, (List.toArray [])⟩
noncomputable def o27_0 (P : Params) : Obj := ⟨.none, none, .seq (List.toArray [(.int 11 0), (.str (Str.mk #[6, 247, 8, 95, 95, 110, 97, 109, 101, 95, 95, 6, 246, 4, 95, 115, 114, 101, 6, 248, 7, 95, 95, 100, 111, 99, 95, 95, 0, 6, 250, 11, 95, 95, 112, 97, 99, 107, 97, 103, 101, 95, 95, 6, 249, 0, 6, 251, 10, 95, 95, 108, 111, 97, 100, 101, 114, 95, 95, 4, 0, 0, 14, 6, 252, 8, 95, 95, 115, 112, 101, 99, 95, 95, 4, 0, 0, 26, 6, 253, 7, 99, 111, 109, 112, 105, 108, 101, 9, 12, 95, 115, 114, 101, 46, 99, 111, 109, 112, 105, 108, 101, 6, 254, 8, 116, 101, 109, 112, 108, 97, 116, 101, 9, 13, 95, 115, 114, 101, 46, 116, 101, 109, 112, 108, 97, 116, 101, 6, 255, 11, 103, 101, 116, 99, 111, 100, 101, 115, 105, 122, 101, 9, 16, 95, 115, 114, 101, 46, 103, 101, 116, 99, 111, 100, 101, 115, 105, 122, 101, 6, 256, 13, 97, 115, 99, 105, 105, 95, 105, 115, 99, 97, 115, 101, 100, 9, 18, 95, 115, 114, 101, 46, 97, 115, 99, 105, 105, 95, 105, 115, 99, 97, 115, 101, 100, 6, 257, 15, 117, 110, 105, 99, 111, 100, 101, 95, 105, 115, 99, 97, 115, 101, 100, 9, 20, 95, 115, 114, 101, 46, 117, 110, 105, 99, 111, 100, 101, 95, 105, 115, 99, 97, 115, 101, 100, 6, 258, 13, 97, 115, 99, 105, 105, 95, 116, 111, 108, 111, 119, 101, 114, 9, 18, 95, 115, 114, 101, 46, 97, 115, 99, 105, 105, 95, 116, 111, 108, 111, 119, 101, 114, 6, 259, 15, 117, 110, 105, 99, 111, 100, 101, 95, 116, 111, 108, 111, 119, 101, 114, 9, 20, 95, 115, 114, 101, 46, 117, 110, 105, 99, 111, 100, 101, 95, 116, 111, 108, 111, 119, 101, 114, 6, 261, 5, 77, 65, 71, 73, 67, 4, 260, 0, 20230612, 6, 263, 8, 67, 79, 68, 69, 83, 73, 90, 69, 4, 262, 0, 4, 6, 265, 9, 77, 65, 88, 82, 69, 80, 69, 65, 84, 4, 264, 0, 4294967295, 6, 267, 9, 77, 65, 88, 71, 82, 79, 85, 80, 83, 4, 266, 0, 1073741823, 6, 269, 9, 99, 111, 112, 121, 114, 105, 103, 104, 116, 6, 268, 53, 32, 83, 82, 69, 32, 50, 46, 50, 46, 50, 32, 67, 111, 112, 121, 114, 105, 103, 104, 116, 32, 40, 99, 41, 32, 49, 57, 57, 55, 45, 50, 48, 48, 50, 32, 98, 121, 32, 83, 101, 99, 114, 101, 116, 32, 76, 97, 98, 115, 32, 65, 66, 32]) 0), (.bool true), (.bool false), (.str (s "_sre") 271)]) 0, (List.toArray [])⟩
def H0 (P : Params) : Heap := ⟨#[(o0_0 P), (o1_0 P), (o2_0 P), (o3_0 P), (o4_0 P), (o5_0 P), (o6_0 P), (o7_0 P), (o8_0 P), (o9_0 P), (o10_0 P), (o11_0 P), (o12_0 P), (o13_0 P), (o14_0 P), (o15_0 P), (o16_0 P), (o17_0 P), (o18_0 P), (o19_0 P), (o20_0 P), (o21_0 P), (o22_0 P), (o23_0 P), (o24_0 P), (o25_0 P), (o26_0 P), (o27_0 P)], life0⟩
def kI : Nat := 276
def m0 : Nat := 28
def ann0 : Option Value := (some (.ref 6))
noncomputable def o28_0 (P : Params) : Obj := ⟨(.type "tuple"), none, .seq (List.toArray []) 0, (List.toArray [])⟩
noncomputable def o29_0 (P : Params) : Obj := ⟨.none, none, .fields (List.toArray []), (List.toArray [])⟩
noncomputable def o30_0 (P : Params) : Obj := ⟨(.type "code"), none, .fields (List.toArray [(.str (s "<module>") 277), (.str (s "<module>") 278), (.str (s "/claim/cut.py") 279), (.int 1 0), (.int 0 0), (.int 0 0), (.int 0 0), (.int 0 0), (.ref 28), (.bool false), (.int 276 0), (.ref 29), .none, .none, .none, .none, (.int 280 0), (.int 1 0), (.str (s "/claim/cut.py") 281)]), (List.toArray [])⟩
noncomputable def o31_0 (P : Params) : Obj := ⟨(.type "frame"), none, .plain, (List.toArray [(some (.ref 30)), (some (.ref 3)), (some (.ref 3)), none, (some (.str (s "__main__") 164)), none, (some (.ref 0))])⟩
def Ta (P : Params) : BT := (.node (o0_0 P) (.node (o1_0 P) (.node (o3_0 P) (.node (o7_0 P) (.node (o15_0 P) (.node (o31_0 P) .nil .nil) .nil) (.node (o23_0 P) .nil .nil)) (.node (o11_0 P) (.node (o19_0 P) .nil .nil) (.node (o27_0 P) .nil .nil))) (.node (o5_0 P) (.node (o9_0 P) (.node (o17_0 P) .nil .nil) (.node (o25_0 P) .nil .nil)) (.node (o13_0 P) (.node (o21_0 P) .nil .nil) (.node (o29_0 P) .nil .nil)))) (.node (o2_0 P) (.node (o4_0 P) (.node (o8_0 P) (.node (o16_0 P) .nil .nil) (.node (o24_0 P) .nil .nil)) (.node (o12_0 P) (.node (o20_0 P) .nil .nil) (.node (o28_0 P) .nil .nil))) (.node (o6_0 P) (.node (o10_0 P) (.node (o18_0 P) .nil .nil) (.node (o26_0 P) .nil .nil)) (.node (o14_0 P) (.node (o22_0 P) .nil .nil) (.node (o30_0 P) .nil .nil)))))
def na : Nat := 32
def ka : Nat := 282
def sta : Nat := 12
def pa : PySem.Pos := ⟨0, 0, 0, 0⟩
def Tb (P : Params) : BT := (.node (o0_0 P) (.node (o1_0 P) (.node (o3_0 P) (.node (o7_0 P) (.node (o15_0 P) (.node (o31_0 P) .nil .nil) .nil) (.node (o23_0 P) .nil .nil)) (.node (o11_0 P) (.node (o19_0 P) .nil .nil) (.node (o27_0 P) .nil .nil))) (.node (o5_0 P) (.node (o9_0 P) (.node (o17_0 P) .nil .nil) (.node (o25_0 P) .nil .nil)) (.node (o13_0 P) (.node (o21_0 P) .nil .nil) (.node (o29_0 P) .nil .nil)))) (.node (o2_0 P) (.node (o4_0 P) (.node (o8_0 P) (.node (o16_0 P) .nil .nil) (.node (o24_0 P) .nil .nil)) (.node (o12_0 P) (.node (o20_0 P) .nil .nil) (.node (o28_0 P) .nil .nil))) (.node (o6_0 P) (.node (o10_0 P) (.node (o18_0 P) .nil .nil) (.node (o26_0 P) .nil .nil)) (.node (o14_0 P) (.node (o22_0 P) .nil .nil) (.node (o30_0 P) .nil .nil)))))
def nb : Nat := 32
def kb : Nat := 282
def stb : Nat := 0
def pb : PySem.Pos := ⟨0, 0, 0, 0⟩
noncomputable def o3_1 (P : Params) : Obj := ⟨(.type "dict"), none, .dict (List.toArray [(ke P (s "__name__") 165 (.str (s "__main__") 164)), (ke P (s "__doc__") 166 .none), (ke P (s "__package__") 167 .none), (ke P (s "__loader__") 168 (.builtin "__main__.__loader__#opaque")), (ke P (s "__spec__") 169 .none), (ke P (s "__annotations__") 170 (.ref 6)), (ke P (s "__builtins__") 171 (.ref 4)), (ke P (s "__file__") 173 (.str (s "/claim/cut.py") 172)), (ke P (s "__cached__") 174 .none), (ke P (s "_sre") 275 (.ref 12)), (ke P (s "_wall") 288 (.ref 38))]) 11, (List.toArray [])⟩
noncomputable def o29_1 (P : Params) : Obj := ⟨.none, none, .fields (List.toArray [(.int 2 0), (.int 0 0), (.ref 37)]), (List.toArray [])⟩
noncomputable def o32_0 (P : Params) : Obj := ⟨(.type "tuple"), none, .seq (List.toArray []) 0, (List.toArray [])⟩
noncomputable def o33_0 (P : Params) : Obj := ⟨.none, none, .fields (List.toArray []), (List.toArray [])⟩
noncomputable def o34_0 (P : Params) : Obj := ⟨(.type "tuple"), none, .seq (List.toArray [(.str (s "k") 285)]) 0, (List.toArray [])⟩
noncomputable def o35_0 (P : Params) : Obj := ⟨(.type "tuple"), none, .seq (List.toArray []) 0, (List.toArray [])⟩
noncomputable def o36_0 (P : Params) : Obj := ⟨.none, none, .func ⟨(s "_wall"), (s "_wall"), fArgs (bd 1), .stmts (fBody (bd 1)), fScope (bd 1), 0, [], .none, .none, .none, .none, none, .none, .none, 0⟩, (List.toArray [])⟩
noncomputable def o37_0 (P : Params) : Obj := ⟨(.type "code"), none, .fields (List.toArray [(.str (s "_wall") 282), (.str (s "_wall") 283), (.str (s "/claim/cut.py") 284), (.int 2 0), (.int 1 0), (.int 0 0), (.int 0 0), (.int 3 0), (.ref 32), (.bool true), (.int 276 0), (.ref 33), .none, (.ref 34), (.ref 35), (.ref 36), (.int 286 0), (.int 2 0), (.str (s "/claim/cut.py") 287)]), (List.toArray [])⟩
noncomputable def o38_0 (P : Params) : Obj := ⟨(.type "function"), none, .func ⟨(s "_wall"), (s "_wall"), fArgs (bd 1), .stmts (fBody (bd 1)), fScope (bd 1), 3, [], .none, .none, .none, (.str (s "__main__") 164), none, (.ref 37), .none, 0⟩, (List.toArray [])⟩
noncomputable def T0 (P : Params) : BT := (.node (o0_0 P) (.node (o1_0 P) (.node (o3_1 P) (.node (o7_0 P) (.node (o15_0 P) (.node (o31_0 P) .nil .nil) .nil) (.node (o23_0 P) .nil .nil)) (.node (o11_0 P) (.node (o19_0 P) (.node (o35_0 P) .nil .nil) .nil) (.node (o27_0 P) .nil .nil))) (.node (o5_0 P) (.node (o9_0 P) (.node (o17_0 P) (.node (o33_0 P) .nil .nil) .nil) (.node (o25_0 P) .nil .nil)) (.node (o13_0 P) (.node (o21_0 P) (.node (o37_0 P) .nil .nil) .nil) (.node (o29_1 P) .nil .nil)))) (.node (o2_0 P) (.node (o4_0 P) (.node (o8_0 P) (.node (o16_0 P) (.node (o32_0 P) .nil .nil) .nil) (.node (o24_0 P) .nil .nil)) (.node (o12_0 P) (.node (o20_0 P) (.node (o36_0 P) .nil .nil) .nil) (.node (o28_0 P) .nil .nil))) (.node (o6_0 P) (.node (o10_0 P) (.node (o18_0 P) (.node (o34_0 P) .nil .nil) .nil) (.node (o26_0 P) .nil .nil)) (.node (o14_0 P) (.node (o22_0 P) (.node (o38_0 P) .nil .nil) .nil) (.node (o30_0 P) .nil .nil)))))
def n0 : Nat := 39
def k0 : Nat := 289
def st0 : Nat := 29
def p0 : PySem.Pos := ⟨2, 0, 4, 12⟩
noncomputable def o3_2 (P : Params) : Obj := ⟨(.type "dict"), none, .dict (List.toArray [(ke P (s "__name__") 165 (.str (s "cpy313.wsgiref.headers") 289)), (ke P (s "__doc__") 166 .none), (ke P (s "__package__") 167 .none), (ke P (s "__loader__") 168 (.builtin "__main__.__loader__#opaque")), (ke P (s "__spec__") 169 .none), (ke P (s "__annotations__") 170 (.ref 6)), (ke P (s "__builtins__") 171 (.ref 4)), (ke P (s "__file__") 173 (.str (s "/claim/cut.py") 172)), (ke P (s "__cached__") 174 .none), (ke P (s "_sre") 275 (.ref 12)), (ke P (s "_wall") 288 (.ref 38))]) 11, (List.toArray [])⟩
noncomputable def T1 (P : Params) : BT := (.node (o0_0 P) (.node (o1_0 P) (.node (o3_2 P) (.node (o7_0 P) (.node (o15_0 P) (.node (o31_0 P) .nil .nil) .nil) (.node (o23_0 P) .nil .nil)) (.node (o11_0 P) (.node (o19_0 P) (.node (o35_0 P) .nil .nil) .nil) (.node (o27_0 P) .nil .nil))) (.node (o5_0 P) (.node (o9_0 P) (.node (o17_0 P) (.node (o33_0 P) .nil .nil) .nil) (.node (o25_0 P) .nil .nil)) (.node (o13_0 P) (.node (o21_0 P) (.node (o37_0 P) .nil .nil) .nil) (.node (o29_1 P) .nil .nil)))) (.node (o2_0 P) (.node (o4_0 P) (.node (o8_0 P) (.node (o16_0 P) (.node (o32_0 P) .nil .nil) .nil) (.node (o24_0 P) .nil .nil)) (.node (o12_0 P) (.node (o20_0 P) (.node (o36_0 P) .nil .nil) .nil) (.node (o28_0 P) .nil .nil))) (.node (o6_0 P) (.node (o10_0 P) (.node (o18_0 P) (.node (o34_0 P) .nil .nil) .nil) (.node (o26_0 P) .nil .nil)) (.node (o14_0 P) (.node (o22_0 P) (.node (o38_0 P) .nil .nil) .nil) (.node (o30_0 P) .nil .nil)))))
def n1 : Nat := 39
def k1 : Nat := 291
def st1 : Nat := 9
def p1 : PySem.Pos := ⟨5, 0, 5, 8⟩
noncomputable def o3_3 (P : Params) : Obj := ⟨(.type "dict"), none, .dict (List.toArray [(ke P (s "__name__") 165 (.str (s "cpy313.wsgiref.headers") 289)), (ke P (s "__doc__") 166 .none), (ke P (s "__package__") 167 .none), (ke P (s "__loader__") 168 (.builtin "__main__.__loader__#opaque")), (ke P (s "__spec__") 169 .none), (ke P (s "__annotations__") 170 (.ref 6)), (ke P (s "__builtins__") 171 (.ref 4)), (ke P (s "__file__") 173 (.str (s "/claim/cut.py") 172)), (ke P (s "__cached__") 174 .none), (ke P (s "_sre") 275 (.ref 12)), (ke P (s "_wall") 288 (.ref 38)), (ke P (s "_name_disallowed_re") 316 (.ref 43))]) 12, (List.toArray [])⟩
noncomputable def o39_0 (P : Params) : Obj := ⟨(.type "list"), none, .seq (List.toArray [(.int 14 294), (.int 10 295), (.int 4 296), (.int 1 297), (.int 1 298), (.int 22 299), (.int 0 300), (.int 31 301), (.int 16 302), (.int 127 303), (.int 0 304), (.int 13 305), (.int 7 306), (.int 22 307), (.int 0 308), (.int 31 309), (.int 16 310), (.int 127 311), (.int 0 312), (.int 1 313)]) 0, (List.toArray [])⟩
noncomputable def o40_0 (P : Params) : Obj := ⟨(.type "dict"), none, .dict (List.toArray []) 0, (List.toArray [])⟩
noncomputable def o41_0 (P : Params) : Obj := ⟨(.type "tuple"), none, .seq (List.toArray [.none]) 0, (List.toArray [])⟩
noncomputable def o42_0 (P : Params) : Obj := ⟨(.type "tuple"), none, .seq (List.toArray [(.int 14 0), (.int 10 0), (.int 4 0), (.int 1 0), (.int 1 0), (.int 22 0), (.int 0 0), (.int 31 0), (.int 16 0), (.int 127 0), (.int 0 0), (.int 13 0), (.int 7 0), (.int 22 0), (.int 0 0), (.int 31 0), (.int 16 0), (.int 127 0), (.int 0 0), (.int 1 0)]) 0, (List.toArray [])⟩
noncomputable def o43_0 (P : Params) : Obj := ⟨(.type "re.Pattern"), none, .fields (List.toArray [(.str (s "[\\x00-\\x1F\\x7F]") 292), (.int 32 315), (.int 0 0), .none, .none, (.ref 42), (.int 0 0)]), (List.toArray [])⟩
noncomputable def T2 (P : Params) : BT := (.node (o0_0 P) (.node (o1_0 P) (.node (o3_3 P) (.node (o7_0 P) (.node (o15_0 P) (.node (o31_0 P) .nil .nil) .nil) (.node (o23_0 P) (.node (o39_0 P) .nil .nil) .nil)) (.node (o11_0 P) (.node (o19_0 P) (.node (o35_0 P) .nil .nil) .nil) (.node (o27_0 P) (.node (o43_0 P) .nil .nil) .nil))) (.node (o5_0 P) (.node (o9_0 P) (.node (o17_0 P) (.node (o33_0 P) .nil .nil) .nil) (.node (o25_0 P) (.node (o41_0 P) .nil .nil) .nil)) (.node (o13_0 P) (.node (o21_0 P) (.node (o37_0 P) .nil .nil) .nil) (.node (o29_1 P) .nil .nil)))) (.node (o2_0 P) (.node (o4_0 P) (.node (o8_0 P) (.node (o16_0 P) (.node (o32_0 P) .nil .nil) .nil) (.node (o24_0 P) (.node (o40_0 P) .nil .nil) .nil)) (.node (o12_0 P) (.node (o20_0 P) (.node (o36_0 P) .nil .nil) .nil) (.node (o28_0 P) .nil .nil))) (.node (o6_0 P) (.node (o10_0 P) (.node (o18_0 P) (.node (o34_0 P) .nil .nil) .nil) (.node (o26_0 P) (.node (o42_0 P) .nil .nil) .nil)) (.node (o14_0 P) (.node (o22_0 P) (.node (o38_0 P) .nil .nil) .nil) (.node (o30_0 P) .nil .nil)))))
def n2 : Nat := 44
def k2 : Nat := 317
def st2 : Nat := 69
def p2 : PySem.Pos := ⟨6, 0, 6, 19⟩
noncomputable def o3_4 (P : Params) : Obj := ⟨(.type "dict"), none, .dict (List.toArray [(ke P (s "__name__") 165 (.str (s "cpy313.wsgiref.headers") 289)), (ke P (s "__doc__") 166 .none), (ke P (s "__package__") 167 .none), (ke P (s "__loader__") 168 (.builtin "__main__.__loader__#opaque")), (ke P (s "__spec__") 169 .none), (ke P (s "__annotations__") 170 (.ref 6)), (ke P (s "__builtins__") 171 (.ref 4)), (ke P (s "__file__") 173 (.str (s "/claim/cut.py") 172)), (ke P (s "__cached__") 174 .none), (ke P (s "_sre") 275 (.ref 12)), (ke P (s "_wall") 288 (.ref 38)), (ke P (s "_name_disallowed_re") 316 (.ref 43)), (ke P (s "_value_disallowed_re") 350 (.ref 48))]) 13, (List.toArray [])⟩
noncomputable def o44_0 (P : Params) : Obj := ⟨(.type "list"), none, .seq (List.toArray [(.int 14 320), (.int 14 321), (.int 4 322), (.int 1 323), (.int 1 324), (.int 9 325), (.int 4294966783 326), (.int 0 327), (.int 0 328), (.int 2147483648 329), (.int 0 330), (.int 0 331), (.int 0 332), (.int 0 333), (.int 0 334), (.int 13 335), (.int 11 336), (.int 9 337), (.int 4294966783 338), (.int 0 339), (.int 0 340), (.int 2147483648 341), (.int 0 342), (.int 0 343), (.int 0 344), (.int 0 345), (.int 0 346), (.int 1 347)]) 0, (List.toArray [])⟩
noncomputable def o45_0 (P : Params) : Obj := ⟨(.type "dict"), none, .dict (List.toArray []) 0, (List.toArray [])⟩
noncomputable def o46_0 (P : Params) : Obj := ⟨(.type "tuple"), none, .seq (List.toArray [.none]) 0, (List.toArray [])⟩
noncomputable def o47_0 (P : Params) : Obj := ⟨(.type "tuple"), none, .seq (List.toArray [(.int 14 0), (.int 14 0), (.int 4 0), (.int 1 0), (.int 1 0), (.int 9 0), (.int 4294966783 0), (.int 0 0), (.int 0 0), (.int 2147483648 0), (.int 0 0), (.int 0 0), (.int 0 0), (.int 0 0), (.int 0 0), (.int 13 0), (.int 11 0), (.int 9 0), (.int 4294966783 0), (.int 0 0), (.int 0 0), (.int 2147483648 0), (.int 0 0), (.int 0 0), (.int 0 0), (.int 0 0), (.int 0 0), (.int 1 0)]) 0, (List.toArray [])⟩
noncomputable def o48_0 (P : Params) : Obj := ⟨(.type "re.Pattern"), none, .fields (List.toArray [(.str (s "[\\x00-\\x08\\x0A-\\x1F\\x7F]") 318), (.int 32 349), (.int 0 0), .none, .none, (.ref 47), (.int 0 0)]), (List.toArray [])⟩
noncomputable def T3 (P : Params) : BT := (.node (o0_0 P) (.node (o1_0 P) (.node (o3_4 P) (.node (o7_0 P) (.node (o15_0 P) (.node (o31_0 P) .nil .nil) (.node (o47_0 P) .nil .nil)) (.node (o23_0 P) (.node (o39_0 P) .nil .nil) .nil)) (.node (o11_0 P) (.node (o19_0 P) (.node (o35_0 P) .nil .nil) .nil) (.node (o27_0 P) (.node (o43_0 P) .nil .nil) .nil))) (.node (o5_0 P) (.node (o9_0 P) (.node (o17_0 P) (.node (o33_0 P) .nil .nil) .nil) (.node (o25_0 P) (.node (o41_0 P) .nil .nil) .nil)) (.node (o13_0 P) (.node (o21_0 P) (.node (o37_0 P) .nil .nil) .nil) (.node (o29_1 P) (.node (o45_0 P) .nil .nil) .nil)))) (.node (o2_0 P) (.node (o4_0 P) (.node (o8_0 P) (.node (o16_0 P) (.node (o32_0 P) .nil .nil) (.node (o48_0 P) .nil .nil)) (.node (o24_0 P) (.node (o40_0 P) .nil .nil) .nil)) (.node (o12_0 P) (.node (o20_0 P) (.node (o36_0 P) .nil .nil) .nil) (.node (o28_0 P) (.node (o44_0 P) .nil .nil) .nil))) (.node (o6_0 P) (.node (o10_0 P) (.node (o18_0 P) (.node (o34_0 P) .nil .nil) .nil) (.node (o26_0 P) (.node (o42_0 P) .nil .nil) .nil)) (.node (o14_0 P) (.node (o22_0 P) (.node (o38_0 P) .nil .nil) .nil) (.node (o30_0 P) (.node (o46_0 P) .nil .nil) .nil)))))
def n3 : Nat := 49
def k3 : Nat := 351
def st3 : Nat := 77
def p3 : PySem.Pos := ⟨7, 0, 7, 20⟩
noncomputable def o3_5 (P : Params) : Obj := ⟨(.type "dict"), none, .dict (List.toArray [(ke P (s "__name__") 165 (.str (s "cpy313.wsgiref.headers") 289)), (ke P (s "__doc__") 166 .none), (ke P (s "__package__") 167 .none), (ke P (s "__loader__") 168 (.builtin "__main__.__loader__#opaque")), (ke P (s "__spec__") 169 .none), (ke P (s "__annotations__") 170 (.ref 6)), (ke P (s "__builtins__") 171 (.ref 4)), (ke P (s "__file__") 173 (.str (s "/claim/cut.py") 172)), (ke P (s "__cached__") 174 .none), (ke P (s "_sre") 275 (.ref 12)), (ke P (s "_wall") 288 (.ref 38)), (ke P (s "_name_disallowed_re") 316 (.ref 43)), (ke P (s "_value_disallowed_re") 350 (.ref 48)), (ke P (s "Headers") 506 (.ref 171))]) 14, (List.toArray [])⟩
noncomputable def o29_2 (P : Params) : Obj := ⟨.none, none, .fields (List.toArray [(.int 2 0), (.int 0 0), (.ref 37), (.int 8 0), (.int 0 0), (.ref 54)]), (List.toArray [])⟩
noncomputable def o49_0 (P : Params) : Obj := ⟨(.type "tuple"), none, .seq (List.toArray []) 0, (List.toArray [])⟩
noncomputable def o50_0 (P : Params) : Obj := ⟨(.type "builtin_function_or_method"), none, .fields (List.toArray [(.builtin "type.__prepare__"), (.type "type")]), (List.toArray [])⟩
noncomputable def o51_0 (P : Params) : Obj := ⟨(.type "dict"), none, .dict (List.toArray [(ke P (s "__module__") 358 (.str (s "cpy313.wsgiref.headers") 289)), (ke P (s "__qualname__") 360 (.str (s "Headers") 359)), (ke P (s "__firstlineno__") 362 (.int 8 361)), (ke P (s "__init__") 372 (.ref 63)), (ke P (s "_convert_string_type") 382 (.ref 70)), (ke P (s "__len__") 389 (.ref 77)), (ke P (s "__setitem__") 398 (.ref 84)), (ke P (s "__delitem__") 404 (.ref 89)), (ke P (s "__getitem__") 412 (.ref 96)), (ke P (s "__contains__") 420 (.ref 103)), (ke P (s "get_all") 428 (.ref 110)), (ke P (s "get") 439 (.ref 118)), (ke P (s "keys") 445 (.ref 123)), (ke P (s "values") 451 (.ref 128)), (ke P (s "items") 458 (.ref 135)), (ke P (s "__repr__") 465 (.ref 142)), (ke P (s "__str__") 471 (.ref 147)), (ke P (s "__bytes__") 478 (.ref 154)), (ke P (s "setdefault") 487 (.ref 161)), (ke P (s "add_header") 497 (.ref 168)), (ke P (s "__static_attributes__") 499 (.ref 169))]) 21, (List.toArray [])⟩
noncomputable def o52_0 (P : Params) : Obj := ⟨(.type "tuple"), none, .seq (List.toArray []) 0, (List.toArray [])⟩
noncomputable def o53_0 (P : Params) : Obj := ⟨.none, none, .fields (List.toArray [(.int 10 0), (.int 4 0), (.ref 62), (.int 20 0), (.int 4 0), (.ref 69), (.int 28 0), (.int 4 0), (.ref 76), (.int 31 0), (.int 4 0), (.ref 83), (.int 35 0), (.int 4 0), (.ref 88), (.int 39 0), (.int 4 0), (.ref 95), (.int 42 0), (.int 4 0), (.ref 102), (.int 45 0), (.int 4 0), (.ref 109), (.int 48 0), (.int 4 0), (.ref 117), (.int 55 0), (.int 4 0), (.ref 122), (.int 58 0), (.int 4 0), (.ref 127), (.int 61 0), (.int 4 0), (.ref 134), (.int 64 0), (.int 4 0), (.ref 141), (.int 67 0), (.int 4 0), (.ref 146), (.int 70 0), (.int 4 0), (.ref 153), (.int 73 0), (.int 4 0), (.ref 160), (.int 76 0), (.int 4 0), (.ref 167)]), (List.toArray [])⟩
noncomputable def o54_0 (P : Params) : Obj := ⟨(.type "code"), none, .fields (List.toArray [(.str (s "Headers") 353), (.str (s "Headers") 354), (.str (s "/claim/cut.py") 355), (.int 8 0), (.int 0 0), (.int 0 0), (.int 0 0), (.int 0 0), (.ref 52), (.bool false), (.int 276 0), (.ref 53), .none, .none, .none, .none, (.int 356 0), (.int 8 0), (.str (s "/claim/cut.py") 357)]), (List.toArray [])⟩
noncomputable def o55_0 (P : Params) : Obj := ⟨(.type "frame"), none, .plain, (List.toArray [(some (.ref 54)), (some (.ref 3)), (some (.ref 51)), none, (some (.str (s "cpy313.wsgiref.headers") 289)), none, (some (.ref 0))])⟩
noncomputable def o56_0 (P : Params) : Obj := ⟨(.type "tuple"), none, .seq (List.toArray [.none]) 0, (List.toArray [])⟩
noncomputable def o57_0 (P : Params) : Obj := ⟨(.type "tuple"), none, .seq (List.toArray []) 0, (List.toArray [])⟩
noncomputable def o58_0 (P : Params) : Obj := ⟨.none, none, .fields (List.toArray []), (List.toArray [])⟩
noncomputable def o59_0 (P : Params) : Obj := ⟨(.type "tuple"), none, .seq (List.toArray [(.str (s "self") 366), (.str (s "headers") 367), (.str (s "k") 368), (.str (s "v") 369)]) 0, (List.toArray [])⟩
noncomputable def o60_0 (P : Params) : Obj := ⟨(.type "tuple"), none, .seq (List.toArray []) 0, (List.toArray [])⟩
noncomputable def o61_0 (P : Params) : Obj := ⟨.none, none, .func ⟨(s "__init__"), (s "Headers.__init__"), fArgs (cd 5 0), .stmts (fBody (cd 5 0)), fScope (cd 5 0), 0, [], .none, .none, .none, .none, none, .none, .none, 0⟩, (List.toArray [])⟩
noncomputable def o62_0 (P : Params) : Obj := ⟨(.type "code"), none, .fields (List.toArray [(.str (s "__init__") 363), (.str (s "Headers.__init__") 364), (.str (s "/claim/cut.py") 365), (.int 10 0), (.int 2 0), (.int 0 0), (.int 0 0), (.int 3 0), (.ref 57), (.bool true), (.int 276 0), (.ref 58), .none, (.ref 59), (.ref 60), (.ref 61), (.int 370 0), (.int 10 0), (.str (s "/claim/cut.py") 371)]), (List.toArray [])⟩
noncomputable def o63_0 (P : Params) : Obj := ⟨(.type "function"), none, .func ⟨(s "__init__"), (s "Headers.__init__"), fArgs (cd 5 0), .stmts (fBody (cd 5 0)), fScope (cd 5 0), 3, [], (.ref 56), .none, .none, (.str (s "cpy313.wsgiref.headers") 289), none, (.ref 62), .none, 0⟩, (List.toArray [])⟩
noncomputable def o64_0 (P : Params) : Obj := ⟨(.type "tuple"), none, .seq (List.toArray []) 0, (List.toArray [])⟩
noncomputable def o65_0 (P : Params) : Obj := ⟨.none, none, .fields (List.toArray []), (List.toArray [])⟩
noncomputable def o66_0 (P : Params) : Obj := ⟨(.type "tuple"), none, .seq (List.toArray [(.str (s "self") 376), (.str (s "value") 377), (.str (s "name") 378), (.str (s "regex") 379)]) 0, (List.toArray [])⟩
noncomputable def o67_0 (P : Params) : Obj := ⟨(.type "tuple"), none, .seq (List.toArray []) 0, (List.toArray [])⟩
noncomputable def o68_0 (P : Params) : Obj := ⟨.none, none, .func ⟨(s "_convert_string_type"), (s "Headers._convert_string_type"), fArgs (cd 5 1), .stmts (fBody (cd 5 1)), fScope (cd 5 1), 0, [], .none, .none, .none, .none, none, .none, .none, 0⟩, (List.toArray [])⟩
noncomputable def o69_0 (P : Params) : Obj := ⟨(.type "code"), none, .fields (List.toArray [(.str (s "_convert_string_type") 373), (.str (s "Headers._convert_string_type") 374), (.str (s "/claim/cut.py") 375), (.int 20 0), (.int 2 0), (.int 0 0), (.int 1 0), (.int 3 0), (.ref 64), (.bool true), (.int 276 0), (.ref 65), .none, (.ref 66), (.ref 67), (.ref 68), (.int 380 0), (.int 20 0), (.str (s "/claim/cut.py") 381)]), (List.toArray [])⟩
noncomputable def o70_0 (P : Params) : Obj := ⟨(.type "function"), none, .func ⟨(s "_convert_string_type"), (s "Headers._convert_string_type"), fArgs (cd 5 1), .stmts (fBody (cd 5 1)), fScope (cd 5 1), 3, [], .none, .none, .none, (.str (s "cpy313.wsgiref.headers") 289), none, (.ref 69), .none, 0⟩, (List.toArray [])⟩
noncomputable def o71_0 (P : Params) : Obj := ⟨(.type "tuple"), none, .seq (List.toArray []) 0, (List.toArray [])⟩
noncomputable def o72_0 (P : Params) : Obj := ⟨.none, none, .fields (List.toArray []), (List.toArray [])⟩
noncomputable def o73_0 (P : Params) : Obj := ⟨(.type "tuple"), none, .seq (List.toArray [(.str (s "self") 386)]) 0, (List.toArray [])⟩
noncomputable def o74_0 (P : Params) : Obj := ⟨(.type "tuple"), none, .seq (List.toArray []) 0, (List.toArray [])⟩
noncomputable def o75_0 (P : Params) : Obj := ⟨.none, none, .func ⟨(s "__len__"), (s "Headers.__len__"), fArgs (cd 5 2), .stmts (fBody (cd 5 2)), fScope (cd 5 2), 0, [], .none, .none, .none, .none, none, .none, .none, 0⟩, (List.toArray [])⟩
noncomputable def o76_0 (P : Params) : Obj := ⟨(.type "code"), none, .fields (List.toArray [(.str (s "__len__") 383), (.str (s "Headers.__len__") 384), (.str (s "/claim/cut.py") 385), (.int 28 0), (.int 1 0), (.int 0 0), (.int 0 0), (.int 3 0), (.ref 71), (.bool true), (.int 276 0), (.ref 72), .none, (.ref 73), (.ref 74), (.ref 75), (.int 387 0), (.int 28 0), (.str (s "/claim/cut.py") 388)]), (List.toArray [])⟩
noncomputable def o77_0 (P : Params) : Obj := ⟨(.type "function"), none, .func ⟨(s "__len__"), (s "Headers.__len__"), fArgs (cd 5 2), .stmts (fBody (cd 5 2)), fScope (cd 5 2), 3, [], .none, .none, .none, (.str (s "cpy313.wsgiref.headers") 289), none, (.ref 76), .none, 0⟩, (List.toArray [])⟩
noncomputable def o78_0 (P : Params) : Obj := ⟨(.type "tuple"), none, .seq (List.toArray []) 0, (List.toArray [])⟩
noncomputable def o79_0 (P : Params) : Obj := ⟨.none, none, .fields (List.toArray []), (List.toArray [])⟩
noncomputable def o80_0 (P : Params) : Obj := ⟨(.type "tuple"), none, .seq (List.toArray [(.str (s "self") 393), (.str (s "name") 394), (.str (s "val") 395)]) 0, (List.toArray [])⟩
noncomputable def o81_0 (P : Params) : Obj := ⟨(.type "tuple"), none, .seq (List.toArray []) 0, (List.toArray [])⟩
noncomputable def o82_0 (P : Params) : Obj := ⟨.none, none, .func ⟨(s "__setitem__"), (s "Headers.__setitem__"), fArgs (cd 5 3), .stmts (fBody (cd 5 3)), fScope (cd 5 3), 0, [], .none, .none, .none, .none, none, .none, .none, 0⟩, (List.toArray [])⟩
noncomputable def o83_0 (P : Params) : Obj := ⟨(.type "code"), none, .fields (List.toArray [(.str (s "__setitem__") 390), (.str (s "Headers.__setitem__") 391), (.str (s "/claim/cut.py") 392), (.int 31 0), (.int 3 0), (.int 0 0), (.int 0 0), (.int 3 0), (.ref 78), (.bool true), (.int 276 0), (.ref 79), .none, (.ref 80), (.ref 81), (.ref 82), (.int 396 0), (.int 31 0), (.str (s "/claim/cut.py") 397)]), (List.toArray [])⟩
noncomputable def o84_0 (P : Params) : Obj := ⟨(.type "function"), none, .func ⟨(s "__setitem__"), (s "Headers.__setitem__"), fArgs (cd 5 3), .stmts (fBody (cd 5 3)), fScope (cd 5 3), 3, [], .none, .none, .none, (.str (s "cpy313.wsgiref.headers") 289), none, (.ref 83), .none, 0⟩, (List.toArray [])⟩
noncomputable def o85_0 (P : Params) : Obj := ⟨(.type "tuple"), none, .seq (List.toArray []) 0, (List.toArray [])⟩
noncomputable def o86_0 (P : Params) : Obj := ⟨.none, none, .fields (List.toArray []), (List.toArray [])⟩
noncomputable def o87_0 (P : Params) : Obj := ⟨.none, none, .func ⟨(s "__delitem__"), (s "Headers.__delitem__"), fArgs (cd 5 4), .stmts (fBody (cd 5 4)), fScope (cd 5 4), 0, [], .none, .none, .none, .none, none, .none, .none, 0⟩, (List.toArray [])⟩
noncomputable def o88_0 (P : Params) : Obj := ⟨(.type "code"), none, .fields (List.toArray [(.str (s "__delitem__") 399), (.str (s "Headers.__delitem__") 400), (.str (s "/claim/cut.py") 401), (.int 35 0), (.int 2 0), (.int 0 0), (.int 0 0), (.int 3 0), (.ref 85), (.bool true), (.int 276 0), (.ref 86), .none, .none, .none, (.ref 87), (.int 402 0), (.int 35 0), (.str (s "/claim/cut.py") 403)]), (List.toArray [])⟩
noncomputable def o89_0 (P : Params) : Obj := ⟨(.type "function"), none, .func ⟨(s "__delitem__"), (s "Headers.__delitem__"), fArgs (cd 5 4), .stmts (fBody (cd 5 4)), fScope (cd 5 4), 3, [], .none, .none, .none, (.str (s "cpy313.wsgiref.headers") 289), none, (.ref 88), .none, 0⟩, (List.toArray [])⟩
noncomputable def o90_0 (P : Params) : Obj := ⟨(.type "tuple"), none, .seq (List.toArray []) 0, (List.toArray [])⟩
noncomputable def o91_0 (P : Params) : Obj := ⟨.none, none, .fields (List.toArray []), (List.toArray [])⟩
noncomputable def o92_0 (P : Params) : Obj := ⟨(.type "tuple"), none, .seq (List.toArray [(.str (s "self") 408), (.str (s "name") 409)]) 0, (List.toArray [])⟩
noncomputable def o93_0 (P : Params) : Obj := ⟨(.type "tuple"), none, .seq (List.toArray []) 0, (List.toArray [])⟩
noncomputable def o94_0 (P : Params) : Obj := ⟨.none, none, .func ⟨(s "__getitem__"), (s "Headers.__getitem__"), fArgs (cd 5 5), .stmts (fBody (cd 5 5)), fScope (cd 5 5), 0, [], .none, .none, .none, .none, none, .none, .none, 0⟩, (List.toArray [])⟩
noncomputable def o95_0 (P : Params) : Obj := ⟨(.type "code"), none, .fields (List.toArray [(.str (s "__getitem__") 405), (.str (s "Headers.__getitem__") 406), (.str (s "/claim/cut.py") 407), (.int 39 0), (.int 2 0), (.int 0 0), (.int 0 0), (.int 3 0), (.ref 90), (.bool true), (.int 276 0), (.ref 91), .none, (.ref 92), (.ref 93), (.ref 94), (.int 410 0), (.int 39 0), (.str (s "/claim/cut.py") 411)]), (List.toArray [])⟩
noncomputable def o96_0 (P : Params) : Obj := ⟨(.type "function"), none, .func ⟨(s "__getitem__"), (s "Headers.__getitem__"), fArgs (cd 5 5), .stmts (fBody (cd 5 5)), fScope (cd 5 5), 3, [], .none, .none, .none, (.str (s "cpy313.wsgiref.headers") 289), none, (.ref 95), .none, 0⟩, (List.toArray [])⟩
noncomputable def o97_0 (P : Params) : Obj := ⟨(.type "tuple"), none, .seq (List.toArray []) 0, (List.toArray [])⟩
noncomputable def o98_0 (P : Params) : Obj := ⟨.none, none, .fields (List.toArray []), (List.toArray [])⟩
noncomputable def o99_0 (P : Params) : Obj := ⟨(.type "tuple"), none, .seq (List.toArray [(.str (s "self") 416), (.str (s "name") 417)]) 0, (List.toArray [])⟩
noncomputable def o100_0 (P : Params) : Obj := ⟨(.type "tuple"), none, .seq (List.toArray []) 0, (List.toArray [])⟩
noncomputable def o101_0 (P : Params) : Obj := ⟨.none, none, .func ⟨(s "__contains__"), (s "Headers.__contains__"), fArgs (cd 5 6), .stmts (fBody (cd 5 6)), fScope (cd 5 6), 0, [], .none, .none, .none, .none, none, .none, .none, 0⟩, (List.toArray [])⟩
noncomputable def o102_0 (P : Params) : Obj := ⟨(.type "code"), none, .fields (List.toArray [(.str (s "__contains__") 413), (.str (s "Headers.__contains__") 414), (.str (s "/claim/cut.py") 415), (.int 42 0), (.int 2 0), (.int 0 0), (.int 0 0), (.int 3 0), (.ref 97), (.bool true), (.int 276 0), (.ref 98), .none, (.ref 99), (.ref 100), (.ref 101), (.int 418 0), (.int 42 0), (.str (s "/claim/cut.py") 419)]), (List.toArray [])⟩
noncomputable def o103_0 (P : Params) : Obj := ⟨(.type "function"), none, .func ⟨(s "__contains__"), (s "Headers.__contains__"), fArgs (cd 5 6), .stmts (fBody (cd 5 6)), fScope (cd 5 6), 3, [], .none, .none, .none, (.str (s "cpy313.wsgiref.headers") 289), none, (.ref 102), .none, 0⟩, (List.toArray [])⟩
noncomputable def o104_0 (P : Params) : Obj := ⟨(.type "tuple"), none, .seq (List.toArray []) 0, (List.toArray [])⟩
noncomputable def o105_0 (P : Params) : Obj := ⟨.none, none, .fields (List.toArray []), (List.toArray [])⟩
noncomputable def o106_0 (P : Params) : Obj := ⟨(.type "tuple"), none, .seq (List.toArray [(.str (s "self") 424), (.str (s "name") 425)]) 0, (List.toArray [])⟩
noncomputable def o107_0 (P : Params) : Obj := ⟨(.type "tuple"), none, .seq (List.toArray []) 0, (List.toArray [])⟩
noncomputable def o108_0 (P : Params) : Obj := ⟨.none, none, .func ⟨(s "get_all"), (s "Headers.get_all"), fArgs (cd 5 7), .stmts (fBody (cd 5 7)), fScope (cd 5 7), 0, [], .none, .none, .none, .none, none, .none, .none, 0⟩, (List.toArray [])⟩
noncomputable def o109_0 (P : Params) : Obj := ⟨(.type "code"), none, .fields (List.toArray [(.str (s "get_all") 421), (.str (s "Headers.get_all") 422), (.str (s "/claim/cut.py") 423), (.int 45 0), (.int 2 0), (.int 0 0), (.int 0 0), (.int 3 0), (.ref 104), (.bool true), (.int 276 0), (.ref 105), .none, (.ref 106), (.ref 107), (.ref 108), (.int 426 0), (.int 45 0), (.str (s "/claim/cut.py") 427)]), (List.toArray [])⟩
noncomputable def o110_0 (P : Params) : Obj := ⟨(.type "function"), none, .func ⟨(s "get_all"), (s "Headers.get_all"), fArgs (cd 5 7), .stmts (fBody (cd 5 7)), fScope (cd 5 7), 3, [], .none, .none, .none, (.str (s "cpy313.wsgiref.headers") 289), none, (.ref 109), .none, 0⟩, (List.toArray [])⟩
noncomputable def o111_0 (P : Params) : Obj := ⟨(.type "tuple"), none, .seq (List.toArray [.none]) 0, (List.toArray [])⟩
noncomputable def o112_0 (P : Params) : Obj := ⟨(.type "tuple"), none, .seq (List.toArray []) 0, (List.toArray [])⟩
noncomputable def o113_0 (P : Params) : Obj := ⟨.none, none, .fields (List.toArray []), (List.toArray [])⟩
noncomputable def o114_0 (P : Params) : Obj := ⟨(.type "tuple"), none, .seq (List.toArray [(.str (s "self") 432), (.str (s "name") 433), (.str (s "default") 434), (.str (s "k") 435), (.str (s "v") 436)]) 0, (List.toArray [])⟩
noncomputable def o115_0 (P : Params) : Obj := ⟨(.type "tuple"), none, .seq (List.toArray []) 0, (List.toArray [])⟩
noncomputable def o116_0 (P : Params) : Obj := ⟨.none, none, .func ⟨(s "get"), (s "Headers.get"), fArgs (cd 5 8), .stmts (fBody (cd 5 8)), fScope (cd 5 8), 0, [], .none, .none, .none, .none, none, .none, .none, 0⟩, (List.toArray [])⟩
noncomputable def o117_0 (P : Params) : Obj := ⟨(.type "code"), none, .fields (List.toArray [(.str (s "get") 429), (.str (s "Headers.get") 430), (.str (s "/claim/cut.py") 431), (.int 48 0), (.int 3 0), (.int 0 0), (.int 0 0), (.int 3 0), (.ref 112), (.bool true), (.int 276 0), (.ref 113), .none, (.ref 114), (.ref 115), (.ref 116), (.int 437 0), (.int 48 0), (.str (s "/claim/cut.py") 438)]), (List.toArray [])⟩
noncomputable def o118_0 (P : Params) : Obj := ⟨(.type "function"), none, .func ⟨(s "get"), (s "Headers.get"), fArgs (cd 5 8), .stmts (fBody (cd 5 8)), fScope (cd 5 8), 3, [], (.ref 111), .none, .none, (.str (s "cpy313.wsgiref.headers") 289), none, (.ref 117), .none, 0⟩, (List.toArray [])⟩
noncomputable def o119_0 (P : Params) : Obj := ⟨(.type "tuple"), none, .seq (List.toArray []) 0, (List.toArray [])⟩
noncomputable def o120_0 (P : Params) : Obj := ⟨.none, none, .fields (List.toArray []), (List.toArray [])⟩
noncomputable def o121_0 (P : Params) : Obj := ⟨.none, none, .func ⟨(s "keys"), (s "Headers.keys"), fArgs (cd 5 9), .stmts (fBody (cd 5 9)), fScope (cd 5 9), 0, [], .none, .none, .none, .none, none, .none, .none, 0⟩, (List.toArray [])⟩
noncomputable def o122_0 (P : Params) : Obj := ⟨(.type "code"), none, .fields (List.toArray [(.str (s "keys") 440), (.str (s "Headers.keys") 441), (.str (s "/claim/cut.py") 442), (.int 55 0), (.int 1 0), (.int 0 0), (.int 0 0), (.int 3 0), (.ref 119), (.bool true), (.int 276 0), (.ref 120), .none, .none, .none, (.ref 121), (.int 443 0), (.int 55 0), (.str (s "/claim/cut.py") 444)]), (List.toArray [])⟩
noncomputable def o123_0 (P : Params) : Obj := ⟨(.type "function"), none, .func ⟨(s "keys"), (s "Headers.keys"), fArgs (cd 5 9), .stmts (fBody (cd 5 9)), fScope (cd 5 9), 3, [], .none, .none, .none, (.str (s "cpy313.wsgiref.headers") 289), none, (.ref 122), .none, 0⟩, (List.toArray [])⟩
noncomputable def o124_0 (P : Params) : Obj := ⟨(.type "tuple"), none, .seq (List.toArray []) 0, (List.toArray [])⟩
noncomputable def o125_0 (P : Params) : Obj := ⟨.none, none, .fields (List.toArray []), (List.toArray [])⟩
noncomputable def o126_0 (P : Params) : Obj := ⟨.none, none, .func ⟨(s "values"), (s "Headers.values"), fArgs (cd 5 10), .stmts (fBody (cd 5 10)), fScope (cd 5 10), 0, [], .none, .none, .none, .none, none, .none, .none, 0⟩, (List.toArray [])⟩
noncomputable def o127_0 (P : Params) : Obj := ⟨(.type "code"), none, .fields (List.toArray [(.str (s "values") 446), (.str (s "Headers.values") 447), (.str (s "/claim/cut.py") 448), (.int 58 0), (.int 1 0), (.int 0 0), (.int 0 0), (.int 3 0), (.ref 124), (.bool true), (.int 276 0), (.ref 125), .none, .none, .none, (.ref 126), (.int 449 0), (.int 58 0), (.str (s "/claim/cut.py") 450)]), (List.toArray [])⟩
noncomputable def o128_0 (P : Params) : Obj := ⟨(.type "function"), none, .func ⟨(s "values"), (s "Headers.values"), fArgs (cd 5 10), .stmts (fBody (cd 5 10)), fScope (cd 5 10), 3, [], .none, .none, .none, (.str (s "cpy313.wsgiref.headers") 289), none, (.ref 127), .none, 0⟩, (List.toArray [])⟩
noncomputable def o129_0 (P : Params) : Obj := ⟨(.type "tuple"), none, .seq (List.toArray []) 0, (List.toArray [])⟩
noncomputable def o130_0 (P : Params) : Obj := ⟨.none, none, .fields (List.toArray []), (List.toArray [])⟩
noncomputable def o131_0 (P : Params) : Obj := ⟨(.type "tuple"), none, .seq (List.toArray [(.str (s "self") 455)]) 0, (List.toArray [])⟩
noncomputable def o132_0 (P : Params) : Obj := ⟨(.type "tuple"), none, .seq (List.toArray []) 0, (List.toArray [])⟩
noncomputable def o133_0 (P : Params) : Obj := ⟨.none, none, .func ⟨(s "items"), (s "Headers.items"), fArgs (cd 5 11), .stmts (fBody (cd 5 11)), fScope (cd 5 11), 0, [], .none, .none, .none, .none, none, .none, .none, 0⟩, (List.toArray [])⟩
noncomputable def o134_0 (P : Params) : Obj := ⟨(.type "code"), none, .fields (List.toArray [(.str (s "items") 452), (.str (s "Headers.items") 453), (.str (s "/claim/cut.py") 454), (.int 61 0), (.int 1 0), (.int 0 0), (.int 0 0), (.int 3 0), (.ref 129), (.bool true), (.int 276 0), (.ref 130), .none, (.ref 131), (.ref 132), (.ref 133), (.int 456 0), (.int 61 0), (.str (s "/claim/cut.py") 457)]), (List.toArray [])⟩
noncomputable def o135_0 (P : Params) : Obj := ⟨(.type "function"), none, .func ⟨(s "items"), (s "Headers.items"), fArgs (cd 5 11), .stmts (fBody (cd 5 11)), fScope (cd 5 11), 3, [], .none, .none, .none, (.str (s "cpy313.wsgiref.headers") 289), none, (.ref 134), .none, 0⟩, (List.toArray [])⟩
noncomputable def o136_0 (P : Params) : Obj := ⟨(.type "tuple"), none, .seq (List.toArray []) 0, (List.toArray [])⟩
noncomputable def o137_0 (P : Params) : Obj := ⟨.none, none, .fields (List.toArray []), (List.toArray [])⟩
noncomputable def o138_0 (P : Params) : Obj := ⟨(.type "tuple"), none, .seq (List.toArray [(.str (s "self") 462)]) 0, (List.toArray [])⟩
noncomputable def o139_0 (P : Params) : Obj := ⟨(.type "tuple"), none, .seq (List.toArray []) 0, (List.toArray [])⟩
noncomputable def o140_0 (P : Params) : Obj := ⟨.none, none, .func ⟨(s "__repr__"), (s "Headers.__repr__"), fArgs (cd 5 12), .stmts (fBody (cd 5 12)), fScope (cd 5 12), 0, [], .none, .none, .none, .none, none, .none, .none, 0⟩, (List.toArray [])⟩
noncomputable def o141_0 (P : Params) : Obj := ⟨(.type "code"), none, .fields (List.toArray [(.str (s "__repr__") 459), (.str (s "Headers.__repr__") 460), (.str (s "/claim/cut.py") 461), (.int 64 0), (.int 1 0), (.int 0 0), (.int 0 0), (.int 3 0), (.ref 136), (.bool true), (.int 276 0), (.ref 137), .none, (.ref 138), (.ref 139), (.ref 140), (.int 463 0), (.int 64 0), (.str (s "/claim/cut.py") 464)]), (List.toArray [])⟩
noncomputable def o142_0 (P : Params) : Obj := ⟨(.type "function"), none, .func ⟨(s "__repr__"), (s "Headers.__repr__"), fArgs (cd 5 12), .stmts (fBody (cd 5 12)), fScope (cd 5 12), 3, [], .none, .none, .none, (.str (s "cpy313.wsgiref.headers") 289), none, (.ref 141), .none, 0⟩, (List.toArray [])⟩
noncomputable def o143_0 (P : Params) : Obj := ⟨(.type "tuple"), none, .seq (List.toArray []) 0, (List.toArray [])⟩
noncomputable def o144_0 (P : Params) : Obj := ⟨.none, none, .fields (List.toArray []), (List.toArray [])⟩
noncomputable def o145_0 (P : Params) : Obj := ⟨.none, none, .func ⟨(s "__str__"), (s "Headers.__str__"), fArgs (cd 5 13), .stmts (fBody (cd 5 13)), fScope (cd 5 13), 0, [], .none, .none, .none, .none, none, .none, .none, 0⟩, (List.toArray [])⟩
noncomputable def o146_0 (P : Params) : Obj := ⟨(.type "code"), none, .fields (List.toArray [(.str (s "__str__") 466), (.str (s "Headers.__str__") 467), (.str (s "/claim/cut.py") 468), (.int 67 0), (.int 1 0), (.int 0 0), (.int 0 0), (.int 3 0), (.ref 143), (.bool true), (.int 276 0), (.ref 144), .none, .none, .none, (.ref 145), (.int 469 0), (.int 67 0), (.str (s "/claim/cut.py") 470)]), (List.toArray [])⟩
noncomputable def o147_0 (P : Params) : Obj := ⟨(.type "function"), none, .func ⟨(s "__str__"), (s "Headers.__str__"), fArgs (cd 5 13), .stmts (fBody (cd 5 13)), fScope (cd 5 13), 3, [], .none, .none, .none, (.str (s "cpy313.wsgiref.headers") 289), none, (.ref 146), .none, 0⟩, (List.toArray [])⟩
noncomputable def o148_0 (P : Params) : Obj := ⟨(.type "tuple"), none, .seq (List.toArray []) 0, (List.toArray [])⟩
noncomputable def o149_0 (P : Params) : Obj := ⟨.none, none, .fields (List.toArray []), (List.toArray [])⟩
noncomputable def o150_0 (P : Params) : Obj := ⟨(.type "tuple"), none, .seq (List.toArray [(.str (s "self") 475)]) 0, (List.toArray [])⟩
noncomputable def o151_0 (P : Params) : Obj := ⟨(.type "tuple"), none, .seq (List.toArray []) 0, (List.toArray [])⟩
noncomputable def o152_0 (P : Params) : Obj := ⟨.none, none, .func ⟨(s "__bytes__"), (s "Headers.__bytes__"), fArgs (cd 5 14), .stmts (fBody (cd 5 14)), fScope (cd 5 14), 0, [], .none, .none, .none, .none, none, .none, .none, 0⟩, (List.toArray [])⟩
noncomputable def o153_0 (P : Params) : Obj := ⟨(.type "code"), none, .fields (List.toArray [(.str (s "__bytes__") 472), (.str (s "Headers.__bytes__") 473), (.str (s "/claim/cut.py") 474), (.int 70 0), (.int 1 0), (.int 0 0), (.int 0 0), (.int 3 0), (.ref 148), (.bool true), (.int 276 0), (.ref 149), .none, (.ref 150), (.ref 151), (.ref 152), (.int 476 0), (.int 70 0), (.str (s "/claim/cut.py") 477)]), (List.toArray [])⟩
noncomputable def o154_0 (P : Params) : Obj := ⟨(.type "function"), none, .func ⟨(s "__bytes__"), (s "Headers.__bytes__"), fArgs (cd 5 14), .stmts (fBody (cd 5 14)), fScope (cd 5 14), 3, [], .none, .none, .none, (.str (s "cpy313.wsgiref.headers") 289), none, (.ref 153), .none, 0⟩, (List.toArray [])⟩
noncomputable def o155_0 (P : Params) : Obj := ⟨(.type "tuple"), none, .seq (List.toArray []) 0, (List.toArray [])⟩
noncomputable def o156_0 (P : Params) : Obj := ⟨.none, none, .fields (List.toArray []), (List.toArray [])⟩
noncomputable def o157_0 (P : Params) : Obj := ⟨(.type "tuple"), none, .seq (List.toArray [(.str (s "self") 482), (.str (s "name") 483), (.str (s "value") 484)]) 0, (List.toArray [])⟩
noncomputable def o158_0 (P : Params) : Obj := ⟨(.type "tuple"), none, .seq (List.toArray []) 0, (List.toArray [])⟩
noncomputable def o159_0 (P : Params) : Obj := ⟨.none, none, .func ⟨(s "setdefault"), (s "Headers.setdefault"), fArgs (cd 5 15), .stmts (fBody (cd 5 15)), fScope (cd 5 15), 0, [], .none, .none, .none, .none, none, .none, .none, 0⟩, (List.toArray [])⟩
noncomputable def o160_0 (P : Params) : Obj := ⟨(.type "code"), none, .fields (List.toArray [(.str (s "setdefault") 479), (.str (s "Headers.setdefault") 480), (.str (s "/claim/cut.py") 481), (.int 73 0), (.int 3 0), (.int 0 0), (.int 0 0), (.int 3 0), (.ref 155), (.bool true), (.int 276 0), (.ref 156), .none, (.ref 157), (.ref 158), (.ref 159), (.int 485 0), (.int 73 0), (.str (s "/claim/cut.py") 486)]), (List.toArray [])⟩
noncomputable def o161_0 (P : Params) : Obj := ⟨(.type "function"), none, .func ⟨(s "setdefault"), (s "Headers.setdefault"), fArgs (cd 5 15), .stmts (fBody (cd 5 15)), fScope (cd 5 15), 3, [], .none, .none, .none, (.str (s "cpy313.wsgiref.headers") 289), none, (.ref 160), .none, 0⟩, (List.toArray [])⟩
noncomputable def o162_0 (P : Params) : Obj := ⟨(.type "tuple"), none, .seq (List.toArray []) 0, (List.toArray [])⟩
noncomputable def o163_0 (P : Params) : Obj := ⟨.none, none, .fields (List.toArray []), (List.toArray [])⟩
noncomputable def o164_0 (P : Params) : Obj := ⟨(.type "tuple"), none, .seq (List.toArray [(.str (s "self") 491), (.str (s "_name") 492), (.str (s "_value") 493), (.str (s "_params") 494)]) 0, (List.toArray [])⟩
noncomputable def o165_0 (P : Params) : Obj := ⟨(.type "tuple"), none, .seq (List.toArray []) 0, (List.toArray [])⟩
noncomputable def o166_0 (P : Params) : Obj := ⟨.none, none, .func ⟨(s "add_header"), (s "Headers.add_header"), fArgs (cd 5 16), .stmts (fBody (cd 5 16)), fScope (cd 5 16), 0, [], .none, .none, .none, .none, none, .none, .none, 0⟩, (List.toArray [])⟩
noncomputable def o167_0 (P : Params) : Obj := ⟨(.type "code"), none, .fields (List.toArray [(.str (s "add_header") 488), (.str (s "Headers.add_header") 489), (.str (s "/claim/cut.py") 490), (.int 76 0), (.int 3 0), (.int 0 0), (.int 0 0), (.int 11 0), (.ref 162), (.bool true), (.int 276 0), (.ref 163), .none, (.ref 164), (.ref 165), (.ref 166), (.int 495 0), (.int 76 0), (.str (s "/claim/cut.py") 496)]), (List.toArray [])⟩
noncomputable def o168_0 (P : Params) : Obj := ⟨(.type "function"), none, .func ⟨(s "add_header"), (s "Headers.add_header"), fArgs (cd 5 16), .stmts (fBody (cd 5 16)), fScope (cd 5 16), 3, [], .none, .none, .none, (.str (s "cpy313.wsgiref.headers") 289), none, (.ref 167), .none, 0⟩, (List.toArray [])⟩
noncomputable def o169_0 (P : Params) : Obj := ⟨(.type "tuple"), none, .seq (List.toArray [(.str (s "_headers") 498)]) 0, (List.toArray [])⟩
noncomputable def o170_0 (P : Params) : Obj := ⟨(.type "dict"), none, .dict (List.toArray [(ke P (s "__module__") 358 (.str (s "cpy313.wsgiref.headers") 289)), (ke P (s "__firstlineno__") 362 (.int 8 361)), (ke P (s "__init__") 372 (.ref 63)), (ke P (s "_convert_string_type") 382 (.ref 70)), (ke P (s "__len__") 389 (.ref 77)), (ke P (s "__setitem__") 398 (.ref 84)), (ke P (s "__delitem__") 404 (.ref 89)), (ke P (s "__getitem__") 412 (.ref 96)), (ke P (s "__contains__") 420 (.ref 103)), (ke P (s "get_all") 428 (.ref 110)), (ke P (s "get") 439 (.ref 118)), (ke P (s "keys") 445 (.ref 123)), (ke P (s "values") 451 (.ref 128)), (ke P (s "items") 458 (.ref 135)), (ke P (s "__repr__") 465 (.ref 142)), (ke P (s "__str__") 471 (.ref 147)), (ke P (s "__bytes__") 478 (.ref 154)), (ke P (s "setdefault") 487 (.ref 161)), (ke P (s "add_header") 497 (.ref 168)), (ke P (s "__static_attributes__") 499 (.ref 169)), (ke P (s "__dict__") 501 (.ref 172)), (ke P (s "__weakref__") 503 (.ref 173)), (ke P (s "__doc__") 504 .none)]) 4, (List.toArray [])⟩
noncomputable def o171_0 (P : Params) : Obj := ⟨(.type "type"), none, .cls ⟨(s "Headers"), [(.type "object")], [(.ref 171), (.type "object")], 170, (s "Headers"), true, [], [], false, none, false⟩, (List.toArray [none, none, (some (.str (s "Headers") 351)), (some (.str (s "Headers") 359)), (some (.builtin "object.__new__")), (some (.bool true))])⟩
noncomputable def o172_0 (P : Params) : Obj := ⟨(.type "getset_descriptor"), none, .fields (List.toArray [(.str (s "__dict__") 500), (.ref 171), (.builtin "function.__dict__"), (.builtin "function.__dict__#set")]), (List.toArray [])⟩
noncomputable def o173_0 (P : Params) : Obj := ⟨(.type "getset_descriptor"), none, .fields (List.toArray [(.str (s "__weakref__") 502), (.ref 171), (.builtin "ExceptionGroup.__weakref__"), .none]), (List.toArray [])⟩
noncomputable def o174_0 (P : Params) : Obj := ⟨(.type "super"), none, .fields (List.toArray [(.ref 171), (.ref 171), (.ref 171)]), (List.toArray [])⟩
noncomputable def o175_0 (P : Params) : Obj := ⟨(.type "builtin_function_or_method"), none, .fields (List.toArray [(.builtin "object.__init_subclass__"), (.ref 171)]), (List.toArray [])⟩
noncomputable def T4 (P : Params) : BT := (.node (o0_0 P) (.node (o1_0 P) (.node (o3_5 P) (.node (o7_0 P) (.node (o15_0 P) (.node (o31_0 P) (.node (o63_0 P) (.node (o127_0 P) .nil .nil) .nil) (.node (o95_0 P) (.node (o159_0 P) .nil .nil) .nil)) (.node (o47_0 P) (.node (o79_0 P) (.node (o143_0 P) .nil .nil) .nil) (.node (o111_0 P) (.node (o175_0 P) .nil .nil) .nil))) (.node (o23_0 P) (.node (o39_0 P) (.node (o71_0 P) (.node (o135_0 P) .nil .nil) .nil) (.node (o103_0 P) (.node (o167_0 P) .nil .nil) .nil)) (.node (o55_0 P) (.node (o87_0 P) (.node (o151_0 P) .nil .nil) .nil) (.node (o119_0 P) .nil .nil)))) (.node (o11_0 P) (.node (o19_0 P) (.node (o35_0 P) (.node (o67_0 P) (.node (o131_0 P) .nil .nil) .nil) (.node (o99_0 P) (.node (o163_0 P) .nil .nil) .nil)) (.node (o51_0 P) (.node (o83_0 P) (.node (o147_0 P) .nil .nil) .nil) (.node (o115_0 P) .nil .nil))) (.node (o27_0 P) (.node (o43_0 P) (.node (o75_0 P) (.node (o139_0 P) .nil .nil) .nil) (.node (o107_0 P) (.node (o171_0 P) .nil .nil) .nil)) (.node (o59_0 P) (.node (o91_0 P) (.node (o155_0 P) .nil .nil) .nil) (.node (o123_0 P) .nil .nil))))) (.node (o5_0 P) (.node (o9_0 P) (.node (o17_0 P) (.node (o33_0 P) (.node (o65_0 P) (.node (o129_0 P) .nil .nil) .nil) (.node (o97_0 P) (.node (o161_0 P) .nil .nil) .nil)) (.node (o49_0 P) (.node (o81_0 P) (.node (o145_0 P) .nil .nil) .nil) (.node (o113_0 P) .nil .nil))) (.node (o25_0 P) (.node (o41_0 P) (.node (o73_0 P) (.node (o137_0 P) .nil .nil) .nil) (.node (o105_0 P) (.node (o169_0 P) .nil .nil) .nil)) (.node (o57_0 P) (.node (o89_0 P) (.node (o153_0 P) .nil .nil) .nil) (.node (o121_0 P) .nil .nil)))) (.node (o13_0 P) (.node (o21_0 P) (.node (o37_0 P) (.node (o69_0 P) (.node (o133_0 P) .nil .nil) .nil) (.node (o101_0 P) (.node (o165_0 P) .nil .nil) .nil)) (.node (o53_0 P) (.node (o85_0 P) (.node (o149_0 P) .nil .nil) .nil) (.node (o117_0 P) .nil .nil))) (.node (o29_2 P) (.node (o45_0 P) (.node (o77_0 P) (.node (o141_0 P) .nil .nil) .nil) (.node (o109_0 P) (.node (o173_0 P) .nil .nil) .nil)) (.node (o61_0 P) (.node (o93_0 P) (.node (o157_0 P) .nil .nil) .nil) (.node (o125_0 P) .nil .nil)))))) (.node (o2_0 P) (.node (o4_0 P) (.node (o8_0 P) (.node (o16_0 P) (.node (o32_0 P) (.node (o64_0 P) (.node (o128_0 P) .nil .nil) .nil) (.node (o96_0 P) (.node (o160_0 P) .nil .nil) .nil)) (.node (o48_0 P) (.node (o80_0 P) (.node (o144_0 P) .nil .nil) .nil) (.node (o112_0 P) .nil .nil))) (.node (o24_0 P) (.node (o40_0 P) (.node (o72_0 P) (.node (o136_0 P) .nil .nil) .nil) (.node (o104_0 P) (.node (o168_0 P) .nil .nil) .nil)) (.node (o56_0 P) (.node (o88_0 P) (.node (o152_0 P) .nil .nil) .nil) (.node (o120_0 P) .nil .nil)))) (.node (o12_0 P) (.node (o20_0 P) (.node (o36_0 P) (.node (o68_0 P) (.node (o132_0 P) .nil .nil) .nil) (.node (o100_0 P) (.node (o164_0 P) .nil .nil) .nil)) (.node (o52_0 P) (.node (o84_0 P) (.node (o148_0 P) .nil .nil) .nil) (.node (o116_0 P) .nil .nil))) (.node (o28_0 P) (.node (o44_0 P) (.node (o76_0 P) (.node (o140_0 P) .nil .nil) .nil) (.node (o108_0 P) (.node (o172_0 P) .nil .nil) .nil)) (.node (o60_0 P) (.node (o92_0 P) (.node (o156_0 P) .nil .nil) .nil) (.node (o124_0 P) .nil .nil))))) (.node (o6_0 P) (.node (o10_0 P) (.node (o18_0 P) (.node (o34_0 P) (.node (o66_0 P) (.node (o130_0 P) .nil .nil) .nil) (.node (o98_0 P) (.node (o162_0 P) .nil .nil) .nil)) (.node (o50_0 P) (.node (o82_0 P) (.node (o146_0 P) .nil .nil) .nil) (.node (o114_0 P) .nil .nil))) (.node (o26_0 P) (.node (o42_0 P) (.node (o74_0 P) (.node (o138_0 P) .nil .nil) .nil) (.node (o106_0 P) (.node (o170_0 P) .nil .nil) .nil)) (.node (o58_0 P) (.node (o90_0 P) (.node (o154_0 P) .nil .nil) .nil) (.node (o122_0 P) .nil .nil)))) (.node (o14_0 P) (.node (o22_0 P) (.node (o38_0 P) (.node (o70_0 P) (.node (o134_0 P) .nil .nil) .nil) (.node (o102_0 P) (.node (o166_0 P) .nil .nil) .nil)) (.node (o54_0 P) (.node (o86_0 P) (.node (o150_0 P) .nil .nil) .nil) (.node (o118_0 P) .nil .nil))) (.node (o30_0 P) (.node (o46_0 P) (.node (o78_0 P) (.node (o142_0 P) .nil .nil) .nil) (.node (o110_0 P) (.node (o174_0 P) .nil .nil) .nil)) (.node (o62_0 P) (.node (o94_0 P) (.node (o158_0 P) .nil .nil) .nil) (.node (o126_0 P) .nil .nil)))))))
def n4 : Nat := 176
def k4 : Nat := 507
def st4 : Nat := 727
def p4 : PySem.Pos := ⟨8, 0, 77, 16⟩
noncomputable def o3_6 (P : Params) : Obj := ⟨(.type "dict"), none, .dict (List.toArray [(ke P (s "__name__") 165 (.str (s "cpy313.smtplib") 507)), (ke P (s "__doc__") 166 .none), (ke P (s "__package__") 167 .none), (ke P (s "__loader__") 168 (.builtin "__main__.__loader__#opaque")), (ke P (s "__spec__") 169 .none), (ke P (s "__annotations__") 170 (.ref 6)), (ke P (s "__builtins__") 171 (.ref 4)), (ke P (s "__file__") 173 (.str (s "/claim/cut.py") 172)), (ke P (s "__cached__") 174 .none), (ke P (s "_sre") 275 (.ref 12)), (ke P (s "_wall") 288 (.ref 38)), (ke P (s "_name_disallowed_re") 316 (.ref 43)), (ke P (s "_value_disallowed_re") 350 (.ref 48)), (ke P (s "Headers") 506 (.ref 171))]) 14, (List.toArray [])⟩
noncomputable def T5 (P : Params) : BT := (.node (o0_0 P) (.node (o1_0 P) (.node (o3_6 P) (.node (o7_0 P) (.node (o15_0 P) (.node (o31_0 P) (.node (o63_0 P) (.node (o127_0 P) .nil .nil) .nil) (.node (o95_0 P) (.node (o159_0 P) .nil .nil) .nil)) (.node (o47_0 P) (.node (o79_0 P) (.node (o143_0 P) .nil .nil) .nil) (.node (o111_0 P) (.node (o175_0 P) .nil .nil) .nil))) (.node (o23_0 P) (.node (o39_0 P) (.node (o71_0 P) (.node (o135_0 P) .nil .nil) .nil) (.node (o103_0 P) (.node (o167_0 P) .nil .nil) .nil)) (.node (o55_0 P) (.node (o87_0 P) (.node (o151_0 P) .nil .nil) .nil) (.node (o119_0 P) .nil .nil)))) (.node (o11_0 P) (.node (o19_0 P) (.node (o35_0 P) (.node (o67_0 P) (.node (o131_0 P) .nil .nil) .nil) (.node (o99_0 P) (.node (o163_0 P) .nil .nil) .nil)) (.node (o51_0 P) (.node (o83_0 P) (.node (o147_0 P) .nil .nil) .nil) (.node (o115_0 P) .nil .nil))) (.node (o27_0 P) (.node (o43_0 P) (.node (o75_0 P) (.node (o139_0 P) .nil .nil) .nil) (.node (o107_0 P) (.node (o171_0 P) .nil .nil) .nil)) (.node (o59_0 P) (.node (o91_0 P) (.node (o155_0 P) .nil .nil) .nil) (.node (o123_0 P) .nil .nil))))) (.node (o5_0 P) (.node (o9_0 P) (.node (o17_0 P) (.node (o33_0 P) (.node (o65_0 P) (.node (o129_0 P) .nil .nil) .nil) (.node (o97_0 P) (.node (o161_0 P) .nil .nil) .nil)) (.node (o49_0 P) (.node (o81_0 P) (.node (o145_0 P) .nil .nil) .nil) (.node (o113_0 P) .nil .nil))) (.node (o25_0 P) (.node (o41_0 P) (.node (o73_0 P) (.node (o137_0 P) .nil .nil) .nil) (.node (o105_0 P) (.node (o169_0 P) .nil .nil) .nil)) (.node (o57_0 P) (.node (o89_0 P) (.node (o153_0 P) .nil .nil) .nil) (.node (o121_0 P) .nil .nil)))) (.node (o13_0 P) (.node (o21_0 P) (.node (o37_0 P) (.node (o69_0 P) (.node (o133_0 P) .nil .nil) .nil) (.node (o101_0 P) (.node (o165_0 P) .nil .nil) .nil)) (.node (o53_0 P) (.node (o85_0 P) (.node (o149_0 P) .nil .nil) .nil) (.node (o117_0 P) .nil .nil))) (.node (o29_2 P) (.node (o45_0 P) (.node (o77_0 P) (.node (o141_0 P) .nil .nil) .nil) (.node (o109_0 P) (.node (o173_0 P) .nil .nil) .nil)) (.node (o61_0 P) (.node (o93_0 P) (.node (o157_0 P) .nil .nil) .nil) (.node (o125_0 P) .nil .nil)))))) (.node (o2_0 P) (.node (o4_0 P) (.node (o8_0 P) (.node (o16_0 P) (.node (o32_0 P) (.node (o64_0 P) (.node (o128_0 P) .nil .nil) .nil) (.node (o96_0 P) (.node (o160_0 P) .nil .nil) .nil)) (.node (o48_0 P) (.node (o80_0 P) (.node (o144_0 P) .nil .nil) .nil) (.node (o112_0 P) .nil .nil))) (.node (o24_0 P) (.node (o40_0 P) (.node (o72_0 P) (.node (o136_0 P) .nil .nil) .nil) (.node (o104_0 P) (.node (o168_0 P) .nil .nil) .nil)) (.node (o56_0 P) (.node (o88_0 P) (.node (o152_0 P) .nil .nil) .nil) (.node (o120_0 P) .nil .nil)))) (.node (o12_0 P) (.node (o20_0 P) (.node (o36_0 P) (.node (o68_0 P) (.node (o132_0 P) .nil .nil) .nil) (.node (o100_0 P) (.node (o164_0 P) .nil .nil) .nil)) (.node (o52_0 P) (.node (o84_0 P) (.node (o148_0 P) .nil .nil) .nil) (.node (o116_0 P) .nil .nil))) (.node (o28_0 P) (.node (o44_0 P) (.node (o76_0 P) (.node (o140_0 P) .nil .nil) .nil) (.node (o108_0 P) (.node (o172_0 P) .nil .nil) .nil)) (.node (o60_0 P) (.node (o92_0 P) (.node (o156_0 P) .nil .nil) .nil) (.node (o124_0 P) .nil .nil))))) (.node (o6_0 P) (.node (o10_0 P) (.node (o18_0 P) (.node (o34_0 P) (.node (o66_0 P) (.node (o130_0 P) .nil .nil) .nil) (.node (o98_0 P) (.node (o162_0 P) .nil .nil) .nil)) (.node (o50_0 P) (.node (o82_0 P) (.node (o146_0 P) .nil .nil) .nil) (.node (o114_0 P) .nil .nil))) (.node (o26_0 P) (.node (o42_0 P) (.node (o74_0 P) (.node (o138_0 P) .nil .nil) .nil) (.node (o106_0 P) (.node (o170_0 P) .nil .nil) .nil)) (.node (o58_0 P) (.node (o90_0 P) (.node (o154_0 P) .nil .nil) .nil) (.node (o122_0 P) .nil .nil)))) (.node (o14_0 P) (.node (o22_0 P) (.node (o38_0 P) (.node (o70_0 P) (.node (o134_0 P) .nil .nil) .nil) (.node (o102_0 P) (.node (o166_0 P) .nil .nil) .nil)) (.node (o54_0 P) (.node (o86_0 P) (.node (o150_0 P) .nil .nil) .nil) (.node (o118_0 P) .nil .nil))) (.node (o30_0 P) (.node (o46_0 P) (.node (o78_0 P) (.node (o142_0 P) .nil .nil) .nil) (.node (o110_0 P) (.node (o174_0 P) .nil .nil) .nil)) (.node (o62_0 P) (.node (o94_0 P) (.node (o158_0 P) .nil .nil) .nil) (.node (o126_0 P) .nil .nil)))))))
def n5 : Nat := 176
def k5 : Nat := 509
def st5 : Nat := 9
def p5 : PySem.Pos := ⟨78, 0, 78, 8⟩
noncomputable def o3_7 (P : Params) : Obj := ⟨(.type "dict"), none, .dict (List.toArray [(ke P (s "__name__") 165 (.str (s "cpy313.smtplib") 507)), (ke P (s "__doc__") 166 .none), (ke P (s "__package__") 167 .none), (ke P (s "__loader__") 168 (.builtin "__main__.__loader__#opaque")), (ke P (s "__spec__") 169 .none), (ke P (s "__annotations__") 170 (.ref 6)), (ke P (s "__builtins__") 171 (.ref 4)), (ke P (s "__file__") 173 (.str (s "/claim/cut.py") 172)), (ke P (s "__cached__") 174 .none), (ke P (s "_sre") 275 (.ref 12)), (ke P (s "_wall") 288 (.ref 38)), (ke P (s "_name_disallowed_re") 316 (.ref 43)), (ke P (s "_value_disallowed_re") 350 (.ref 48)), (ke P (s "Headers") 506 (.ref 171)), (ke P (s "_twin_re_1") 524 (.ref 180))]) 15, (List.toArray [])⟩
noncomputable def o176_0 (P : Params) : Obj := ⟨(.type "list"), none, .seq (List.toArray [(.int 14 512), (.int 4 513), (.int 0 514), (.int 1 515), (.int 1 516), (.int 6 517), (.int 1 518), (.int 16 519), (.int 46 520), (.int 1 521)]) 0, (List.toArray [])⟩
noncomputable def o177_0 (P : Params) : Obj := ⟨(.type "dict"), none, .dict (List.toArray []) 0, (List.toArray [])⟩
noncomputable def o178_0 (P : Params) : Obj := ⟨(.type "tuple"), none, .seq (List.toArray [.none]) 0, (List.toArray [])⟩
noncomputable def o179_0 (P : Params) : Obj := ⟨(.type "tuple"), none, .seq (List.toArray [(.int 14 0), (.int 4 0), (.int 0 0), (.int 1 0), (.int 1 0), (.int 6 0), (.int 1 0), (.int 16 0), (.int 46 0), (.int 1 0)]) 0, (List.toArray [])⟩
noncomputable def o180_0 (P : Params) : Obj := ⟨(.type "re.Pattern"), none, .fields (List.toArray [(.str (s "(?m)^\\.") 510), (.int 40 523), (.int 0 0), .none, .none, (.ref 179), (.int 0 0)]), (List.toArray [])⟩
noncomputable def T6 (P : Params) : BT := (.node (o0_0 P) (.node (o1_0 P) (.node (o3_7 P) (.node (o7_0 P) (.node (o15_0 P) (.node (o31_0 P) (.node (o63_0 P) (.node (o127_0 P) .nil .nil) .nil) (.node (o95_0 P) (.node (o159_0 P) .nil .nil) .nil)) (.node (o47_0 P) (.node (o79_0 P) (.node (o143_0 P) .nil .nil) .nil) (.node (o111_0 P) (.node (o175_0 P) .nil .nil) .nil))) (.node (o23_0 P) (.node (o39_0 P) (.node (o71_0 P) (.node (o135_0 P) .nil .nil) .nil) (.node (o103_0 P) (.node (o167_0 P) .nil .nil) .nil)) (.node (o55_0 P) (.node (o87_0 P) (.node (o151_0 P) .nil .nil) .nil) (.node (o119_0 P) .nil .nil)))) (.node (o11_0 P) (.node (o19_0 P) (.node (o35_0 P) (.node (o67_0 P) (.node (o131_0 P) .nil .nil) .nil) (.node (o99_0 P) (.node (o163_0 P) .nil .nil) .nil)) (.node (o51_0 P) (.node (o83_0 P) (.node (o147_0 P) .nil .nil) .nil) (.node (o115_0 P) (.node (o179_0 P) .nil .nil) .nil))) (.node (o27_0 P) (.node (o43_0 P) (.node (o75_0 P) (.node (o139_0 P) .nil .nil) .nil) (.node (o107_0 P) (.node (o171_0 P) .nil .nil) .nil)) (.node (o59_0 P) (.node (o91_0 P) (.node (o155_0 P) .nil .nil) .nil) (.node (o123_0 P) .nil .nil))))) (.node (o5_0 P) (.node (o9_0 P) (.node (o17_0 P) (.node (o33_0 P) (.node (o65_0 P) (.node (o129_0 P) .nil .nil) .nil) (.node (o97_0 P) (.node (o161_0 P) .nil .nil) .nil)) (.node (o49_0 P) (.node (o81_0 P) (.node (o145_0 P) .nil .nil) .nil) (.node (o113_0 P) (.node (o177_0 P) .nil .nil) .nil))) (.node (o25_0 P) (.node (o41_0 P) (.node (o73_0 P) (.node (o137_0 P) .nil .nil) .nil) (.node (o105_0 P) (.node (o169_0 P) .nil .nil) .nil)) (.node (o57_0 P) (.node (o89_0 P) (.node (o153_0 P) .nil .nil) .nil) (.node (o121_0 P) .nil .nil)))) (.node (o13_0 P) (.node (o21_0 P) (.node (o37_0 P) (.node (o69_0 P) (.node (o133_0 P) .nil .nil) .nil) (.node (o101_0 P) (.node (o165_0 P) .nil .nil) .nil)) (.node (o53_0 P) (.node (o85_0 P) (.node (o149_0 P) .nil .nil) .nil) (.node (o117_0 P) .nil .nil))) (.node (o29_2 P) (.node (o45_0 P) (.node (o77_0 P) (.node (o141_0 P) .nil .nil) .nil) (.node (o109_0 P) (.node (o173_0 P) .nil .nil) .nil)) (.node (o61_0 P) (.node (o93_0 P) (.node (o157_0 P) .nil .nil) .nil) (.node (o125_0 P) .nil .nil)))))) (.node (o2_0 P) (.node (o4_0 P) (.node (o8_0 P) (.node (o16_0 P) (.node (o32_0 P) (.node (o64_0 P) (.node (o128_0 P) .nil .nil) .nil) (.node (o96_0 P) (.node (o160_0 P) .nil .nil) .nil)) (.node (o48_0 P) (.node (o80_0 P) (.node (o144_0 P) .nil .nil) .nil) (.node (o112_0 P) (.node (o176_0 P) .nil .nil) .nil))) (.node (o24_0 P) (.node (o40_0 P) (.node (o72_0 P) (.node (o136_0 P) .nil .nil) .nil) (.node (o104_0 P) (.node (o168_0 P) .nil .nil) .nil)) (.node (o56_0 P) (.node (o88_0 P) (.node (o152_0 P) .nil .nil) .nil) (.node (o120_0 P) .nil .nil)))) (.node (o12_0 P) (.node (o20_0 P) (.node (o36_0 P) (.node (o68_0 P) (.node (o132_0 P) .nil .nil) .nil) (.node (o100_0 P) (.node (o164_0 P) .nil .nil) .nil)) (.node (o52_0 P) (.node (o84_0 P) (.node (o148_0 P) .nil .nil) .nil) (.node (o116_0 P) (.node (o180_0 P) .nil .nil) .nil))) (.node (o28_0 P) (.node (o44_0 P) (.node (o76_0 P) (.node (o140_0 P) .nil .nil) .nil) (.node (o108_0 P) (.node (o172_0 P) .nil .nil) .nil)) (.node (o60_0 P) (.node (o92_0 P) (.node (o156_0 P) .nil .nil) .nil) (.node (o124_0 P) .nil .nil))))) (.node (o6_0 P) (.node (o10_0 P) (.node (o18_0 P) (.node (o34_0 P) (.node (o66_0 P) (.node (o130_0 P) .nil .nil) .nil) (.node (o98_0 P) (.node (o162_0 P) .nil .nil) .nil)) (.node (o50_0 P) (.node (o82_0 P) (.node (o146_0 P) .nil .nil) .nil) (.node (o114_0 P) (.node (o178_0 P) .nil .nil) .nil))) (.node (o26_0 P) (.node (o42_0 P) (.node (o74_0 P) (.node (o138_0 P) .nil .nil) .nil) (.node (o106_0 P) (.node (o170_0 P) .nil .nil) .nil)) (.node (o58_0 P) (.node (o90_0 P) (.node (o154_0 P) .nil .nil) .nil) (.node (o122_0 P) .nil .nil)))) (.node (o14_0 P) (.node (o22_0 P) (.node (o38_0 P) (.node (o70_0 P) (.node (o134_0 P) .nil .nil) .nil) (.node (o102_0 P) (.node (o166_0 P) .nil .nil) .nil)) (.node (o54_0 P) (.node (o86_0 P) (.node (o150_0 P) .nil .nil) .nil) (.node (o118_0 P) .nil .nil))) (.node (o30_0 P) (.node (o46_0 P) (.node (o78_0 P) (.node (o142_0 P) .nil .nil) .nil) (.node (o110_0 P) (.node (o174_0 P) .nil .nil) .nil)) (.node (o62_0 P) (.node (o94_0 P) (.node (o158_0 P) .nil .nil) .nil) (.node (o126_0 P) .nil .nil)))))))
def n6 : Nat := 181
def k6 : Nat := 525
def st6 : Nat := 59
def p6 : PySem.Pos := ⟨79, 0, 79, 10⟩
noncomputable def o3_8 (P : Params) : Obj := ⟨(.type "dict"), none, .dict (List.toArray [(ke P (s "__name__") 165 (.str (s "cpy313.smtplib") 507)), (ke P (s "__doc__") 166 .none), (ke P (s "__package__") 167 .none), (ke P (s "__loader__") 168 (.builtin "__main__.__loader__#opaque")), (ke P (s "__spec__") 169 .none), (ke P (s "__annotations__") 170 (.ref 6)), (ke P (s "__builtins__") 171 (.ref 4)), (ke P (s "__file__") 173 (.str (s "/claim/cut.py") 172)), (ke P (s "__cached__") 174 .none), (ke P (s "_sre") 275 (.ref 12)), (ke P (s "_wall") 288 (.ref 38)), (ke P (s "_name_disallowed_re") 316 (.ref 43)), (ke P (s "_value_disallowed_re") 350 (.ref 48)), (ke P (s "Headers") 506 (.ref 171)), (ke P (s "_twin_re_1") 524 (.ref 180)), (ke P (s "_twin_re_2") 566 (.ref 185))]) 16, (List.toArray [])⟩
noncomputable def o181_0 (P : Params) : Obj := ⟨(.type "list"), none, .seq (List.toArray [(.int 14 528), (.int 9 529), (.int 4 530), (.int 1 531), (.int 2 532), (.int 16 533), (.int 10 534), (.int 16 535), (.int 13 536), (.int 0 537), (.int 7 538), (.int 7 539), (.int 16 540), (.int 13 541), (.int 16 542), (.int 10 543), (.int 15 544), (.int 18 545), (.int 5 546), (.int 16 547), (.int 10 548), (.int 15 549), (.int 13 550), (.int 11 551), (.int 16 552), (.int 13 553), (.int 5 554), (.int 5 555), (.int 0 556), (.int 16 557), (.int 10 558), (.int 1 559), (.int 15 560), (.int 2 561), (.int 0 562), (.int 1 563)]) 0, (List.toArray [])⟩
noncomputable def o182_0 (P : Params) : Obj := ⟨(.type "dict"), none, .dict (List.toArray []) 0, (List.toArray [])⟩
noncomputable def o183_0 (P : Params) : Obj := ⟨(.type "tuple"), none, .seq (List.toArray [.none]) 0, (List.toArray [])⟩
noncomputable def o184_0 (P : Params) : Obj := ⟨(.type "tuple"), none, .seq (List.toArray [(.int 14 0), (.int 9 0), (.int 4 0), (.int 1 0), (.int 2 0), (.int 16 0), (.int 10 0), (.int 16 0), (.int 13 0), (.int 0 0), (.int 7 0), (.int 7 0), (.int 16 0), (.int 13 0), (.int 16 0), (.int 10 0), (.int 15 0), (.int 18 0), (.int 5 0), (.int 16 0), (.int 10 0), (.int 15 0), (.int 13 0), (.int 11 0), (.int 16 0), (.int 13 0), (.int 5 0), (.int 5 0), (.int 0 0), (.int 16 0), (.int 10 0), (.int 1 0), (.int 15 0), (.int 2 0), (.int 0 0), (.int 1 0)]) 0, (List.toArray [])⟩
noncomputable def o185_0 (P : Params) : Obj := ⟨(.type "re.Pattern"), none, .fields (List.toArray [(.str (s "(?:\\r\\n|\\n|\\r(?!\\n))") 526), (.int 32 565), (.int 0 0), .none, .none, (.ref 184), (.int 0 0)]), (List.toArray [])⟩
noncomputable def T7 (P : Params) : BT := (.node (o0_0 P) (.node (o1_0 P) (.node (o3_8 P) (.node (o7_0 P) (.node (o15_0 P) (.node (o31_0 P) (.node (o63_0 P) (.node (o127_0 P) .nil .nil) .nil) (.node (o95_0 P) (.node (o159_0 P) .nil .nil) .nil)) (.node (o47_0 P) (.node (o79_0 P) (.node (o143_0 P) .nil .nil) .nil) (.node (o111_0 P) (.node (o175_0 P) .nil .nil) .nil))) (.node (o23_0 P) (.node (o39_0 P) (.node (o71_0 P) (.node (o135_0 P) .nil .nil) .nil) (.node (o103_0 P) (.node (o167_0 P) .nil .nil) .nil)) (.node (o55_0 P) (.node (o87_0 P) (.node (o151_0 P) .nil .nil) .nil) (.node (o119_0 P) (.node (o183_0 P) .nil .nil) .nil)))) (.node (o11_0 P) (.node (o19_0 P) (.node (o35_0 P) (.node (o67_0 P) (.node (o131_0 P) .nil .nil) .nil) (.node (o99_0 P) (.node (o163_0 P) .nil .nil) .nil)) (.node (o51_0 P) (.node (o83_0 P) (.node (o147_0 P) .nil .nil) .nil) (.node (o115_0 P) (.node (o179_0 P) .nil .nil) .nil))) (.node (o27_0 P) (.node (o43_0 P) (.node (o75_0 P) (.node (o139_0 P) .nil .nil) .nil) (.node (o107_0 P) (.node (o171_0 P) .nil .nil) .nil)) (.node (o59_0 P) (.node (o91_0 P) (.node (o155_0 P) .nil .nil) .nil) (.node (o123_0 P) .nil .nil))))) (.node (o5_0 P) (.node (o9_0 P) (.node (o17_0 P) (.node (o33_0 P) (.node (o65_0 P) (.node (o129_0 P) .nil .nil) .nil) (.node (o97_0 P) (.node (o161_0 P) .nil .nil) .nil)) (.node (o49_0 P) (.node (o81_0 P) (.node (o145_0 P) .nil .nil) .nil) (.node (o113_0 P) (.node (o177_0 P) .nil .nil) .nil))) (.node (o25_0 P) (.node (o41_0 P) (.node (o73_0 P) (.node (o137_0 P) .nil .nil) .nil) (.node (o105_0 P) (.node (o169_0 P) .nil .nil) .nil)) (.node (o57_0 P) (.node (o89_0 P) (.node (o153_0 P) .nil .nil) .nil) (.node (o121_0 P) (.node (o185_0 P) .nil .nil) .nil)))) (.node (o13_0 P) (.node (o21_0 P) (.node (o37_0 P) (.node (o69_0 P) (.node (o133_0 P) .nil .nil) .nil) (.node (o101_0 P) (.node (o165_0 P) .nil .nil) .nil)) (.node (o53_0 P) (.node (o85_0 P) (.node (o149_0 P) .nil .nil) .nil) (.node (o117_0 P) (.node (o181_0 P) .nil .nil) .nil))) (.node (o29_2 P) (.node (o45_0 P) (.node (o77_0 P) (.node (o141_0 P) .nil .nil) .nil) (.node (o109_0 P) (.node (o173_0 P) .nil .nil) .nil)) (.node (o61_0 P) (.node (o93_0 P) (.node (o157_0 P) .nil .nil) .nil) (.node (o125_0 P) .nil .nil)))))) (.node (o2_0 P) (.node (o4_0 P) (.node (o8_0 P) (.node (o16_0 P) (.node (o32_0 P) (.node (o64_0 P) (.node (o128_0 P) .nil .nil) .nil) (.node (o96_0 P) (.node (o160_0 P) .nil .nil) .nil)) (.node (o48_0 P) (.node (o80_0 P) (.node (o144_0 P) .nil .nil) .nil) (.node (o112_0 P) (.node (o176_0 P) .nil .nil) .nil))) (.node (o24_0 P) (.node (o40_0 P) (.node (o72_0 P) (.node (o136_0 P) .nil .nil) .nil) (.node (o104_0 P) (.node (o168_0 P) .nil .nil) .nil)) (.node (o56_0 P) (.node (o88_0 P) (.node (o152_0 P) .nil .nil) .nil) (.node (o120_0 P) (.node (o184_0 P) .nil .nil) .nil)))) (.node (o12_0 P) (.node (o20_0 P) (.node (o36_0 P) (.node (o68_0 P) (.node (o132_0 P) .nil .nil) .nil) (.node (o100_0 P) (.node (o164_0 P) .nil .nil) .nil)) (.node (o52_0 P) (.node (o84_0 P) (.node (o148_0 P) .nil .nil) .nil) (.node (o116_0 P) (.node (o180_0 P) .nil .nil) .nil))) (.node (o28_0 P) (.node (o44_0 P) (.node (o76_0 P) (.node (o140_0 P) .nil .nil) .nil) (.node (o108_0 P) (.node (o172_0 P) .nil .nil) .nil)) (.node (o60_0 P) (.node (o92_0 P) (.node (o156_0 P) .nil .nil) .nil) (.node (o124_0 P) .nil .nil))))) (.node (o6_0 P) (.node (o10_0 P) (.node (o18_0 P) (.node (o34_0 P) (.node (o66_0 P) (.node (o130_0 P) .nil .nil) .nil) (.node (o98_0 P) (.node (o162_0 P) .nil .nil) .nil)) (.node (o50_0 P) (.node (o82_0 P) (.node (o146_0 P) .nil .nil) .nil) (.node (o114_0 P) (.node (o178_0 P) .nil .nil) .nil))) (.node (o26_0 P) (.node (o42_0 P) (.node (o74_0 P) (.node (o138_0 P) .nil .nil) .nil) (.node (o106_0 P) (.node (o170_0 P) .nil .nil) .nil)) (.node (o58_0 P) (.node (o90_0 P) (.node (o154_0 P) .nil .nil) .nil) (.node (o122_0 P) .nil .nil)))) (.node (o14_0 P) (.node (o22_0 P) (.node (o38_0 P) (.node (o70_0 P) (.node (o134_0 P) .nil .nil) .nil) (.node (o102_0 P) (.node (o166_0 P) .nil .nil) .nil)) (.node (o54_0 P) (.node (o86_0 P) (.node (o150_0 P) .nil .nil) .nil) (.node (o118_0 P) (.node (o182_0 P) .nil .nil) .nil))) (.node (o30_0 P) (.node (o46_0 P) (.node (o78_0 P) (.node (o142_0 P) .nil .nil) .nil) (.node (o110_0 P) (.node (o174_0 P) .nil .nil) .nil)) (.node (o62_0 P) (.node (o94_0 P) (.node (o158_0 P) .nil .nil) .nil) (.node (o126_0 P) .nil .nil)))))))
def n7 : Nat := 186
def k7 : Nat := 567
def st7 : Nat := 85
def p7 : PySem.Pos := ⟨80, 0, 80, 10⟩
noncomputable def o3_9 (P : Params) : Obj := ⟨(.type "dict"), none, .dict (List.toArray [(ke P (s "__name__") 165 (.str (s "cpy313.smtplib") 507)), (ke P (s "__doc__") 166 .none), (ke P (s "__package__") 167 .none), (ke P (s "__loader__") 168 (.builtin "__main__.__loader__#opaque")), (ke P (s "__spec__") 169 .none), (ke P (s "__annotations__") 170 (.ref 6)), (ke P (s "__builtins__") 171 (.ref 4)), (ke P (s "__file__") 173 (.str (s "/claim/cut.py") 172)), (ke P (s "__cached__") 174 .none), (ke P (s "_sre") 275 (.ref 12)), (ke P (s "_wall") 288 (.ref 38)), (ke P (s "_name_disallowed_re") 316 (.ref 43)), (ke P (s "_value_disallowed_re") 350 (.ref 48)), (ke P (s "Headers") 506 (.ref 171)), (ke P (s "_twin_re_1") 524 (.ref 180)), (ke P (s "_twin_re_2") 566 (.ref 185)), (ke P (s "CRLF") 568 (.str (s "\x0d\n") 567))]) 17, (List.toArray [])⟩
noncomputable def T8 (P : Params) : BT := (.node (o0_0 P) (.node (o1_0 P) (.node (o3_9 P) (.node (o7_0 P) (.node (o15_0 P) (.node (o31_0 P) (.node (o63_0 P) (.node (o127_0 P) .nil .nil) .nil) (.node (o95_0 P) (.node (o159_0 P) .nil .nil) .nil)) (.node (o47_0 P) (.node (o79_0 P) (.node (o143_0 P) .nil .nil) .nil) (.node (o111_0 P) (.node (o175_0 P) .nil .nil) .nil))) (.node (o23_0 P) (.node (o39_0 P) (.node (o71_0 P) (.node (o135_0 P) .nil .nil) .nil) (.node (o103_0 P) (.node (o167_0 P) .nil .nil) .nil)) (.node (o55_0 P) (.node (o87_0 P) (.node (o151_0 P) .nil .nil) .nil) (.node (o119_0 P) (.node (o183_0 P) .nil .nil) .nil)))) (.node (o11_0 P) (.node (o19_0 P) (.node (o35_0 P) (.node (o67_0 P) (.node (o131_0 P) .nil .nil) .nil) (.node (o99_0 P) (.node (o163_0 P) .nil .nil) .nil)) (.node (o51_0 P) (.node (o83_0 P) (.node (o147_0 P) .nil .nil) .nil) (.node (o115_0 P) (.node (o179_0 P) .nil .nil) .nil))) (.node (o27_0 P) (.node (o43_0 P) (.node (o75_0 P) (.node (o139_0 P) .nil .nil) .nil) (.node (o107_0 P) (.node (o171_0 P) .nil .nil) .nil)) (.node (o59_0 P) (.node (o91_0 P) (.node (o155_0 P) .nil .nil) .nil) (.node (o123_0 P) .nil .nil))))) (.node (o5_0 P) (.node (o9_0 P) (.node (o17_0 P) (.node (o33_0 P) (.node (o65_0 P) (.node (o129_0 P) .nil .nil) .nil) (.node (o97_0 P) (.node (o161_0 P) .nil .nil) .nil)) (.node (o49_0 P) (.node (o81_0 P) (.node (o145_0 P) .nil .nil) .nil) (.node (o113_0 P) (.node (o177_0 P) .nil .nil) .nil))) (.node (o25_0 P) (.node (o41_0 P) (.node (o73_0 P) (.node (o137_0 P) .nil .nil) .nil) (.node (o105_0 P) (.node (o169_0 P) .nil .nil) .nil)) (.node (o57_0 P) (.node (o89_0 P) (.node (o153_0 P) .nil .nil) .nil) (.node (o121_0 P) (.node (o185_0 P) .nil .nil) .nil)))) (.node (o13_0 P) (.node (o21_0 P) (.node (o37_0 P) (.node (o69_0 P) (.node (o133_0 P) .nil .nil) .nil) (.node (o101_0 P) (.node (o165_0 P) .nil .nil) .nil)) (.node (o53_0 P) (.node (o85_0 P) (.node (o149_0 P) .nil .nil) .nil) (.node (o117_0 P) (.node (o181_0 P) .nil .nil) .nil))) (.node (o29_2 P) (.node (o45_0 P) (.node (o77_0 P) (.node (o141_0 P) .nil .nil) .nil) (.node (o109_0 P) (.node (o173_0 P) .nil .nil) .nil)) (.node (o61_0 P) (.node (o93_0 P) (.node (o157_0 P) .nil .nil) .nil) (.node (o125_0 P) .nil .nil)))))) (.node (o2_0 P) (.node (o4_0 P) (.node (o8_0 P) (.node (o16_0 P) (.node (o32_0 P) (.node (o64_0 P) (.node (o128_0 P) .nil .nil) .nil) (.node (o96_0 P) (.node (o160_0 P) .nil .nil) .nil)) (.node (o48_0 P) (.node (o80_0 P) (.node (o144_0 P) .nil .nil) .nil) (.node (o112_0 P) (.node (o176_0 P) .nil .nil) .nil))) (.node (o24_0 P) (.node (o40_0 P) (.node (o72_0 P) (.node (o136_0 P) .nil .nil) .nil) (.node (o104_0 P) (.node (o168_0 P) .nil .nil) .nil)) (.node (o56_0 P) (.node (o88_0 P) (.node (o152_0 P) .nil .nil) .nil) (.node (o120_0 P) (.node (o184_0 P) .nil .nil) .nil)))) (.node (o12_0 P) (.node (o20_0 P) (.node (o36_0 P) (.node (o68_0 P) (.node (o132_0 P) .nil .nil) .nil) (.node (o100_0 P) (.node (o164_0 P) .nil .nil) .nil)) (.node (o52_0 P) (.node (o84_0 P) (.node (o148_0 P) .nil .nil) .nil) (.node (o116_0 P) (.node (o180_0 P) .nil .nil) .nil))) (.node (o28_0 P) (.node (o44_0 P) (.node (o76_0 P) (.node (o140_0 P) .nil .nil) .nil) (.node (o108_0 P) (.node (o172_0 P) .nil .nil) .nil)) (.node (o60_0 P) (.node (o92_0 P) (.node (o156_0 P) .nil .nil) .nil) (.node (o124_0 P) .nil .nil))))) (.node (o6_0 P) (.node (o10_0 P) (.node (o18_0 P) (.node (o34_0 P) (.node (o66_0 P) (.node (o130_0 P) .nil .nil) .nil) (.node (o98_0 P) (.node (o162_0 P) .nil .nil) .nil)) (.node (o50_0 P) (.node (o82_0 P) (.node (o146_0 P) .nil .nil) .nil) (.node (o114_0 P) (.node (o178_0 P) .nil .nil) .nil))) (.node (o26_0 P) (.node (o42_0 P) (.node (o74_0 P) (.node (o138_0 P) .nil .nil) .nil) (.node (o106_0 P) (.node (o170_0 P) .nil .nil) .nil)) (.node (o58_0 P) (.node (o90_0 P) (.node (o154_0 P) .nil .nil) .nil) (.node (o122_0 P) .nil .nil)))) (.node (o14_0 P) (.node (o22_0 P) (.node (o38_0 P) (.node (o70_0 P) (.node (o134_0 P) .nil .nil) .nil) (.node (o102_0 P) (.node (o166_0 P) .nil .nil) .nil)) (.node (o54_0 P) (.node (o86_0 P) (.node (o150_0 P) .nil .nil) .nil) (.node (o118_0 P) (.node (o182_0 P) .nil .nil) .nil))) (.node (o30_0 P) (.node (o46_0 P) (.node (o78_0 P) (.node (o142_0 P) .nil .nil) .nil) (.node (o110_0 P) (.node (o174_0 P) .nil .nil) .nil)) (.node (o62_0 P) (.node (o94_0 P) (.node (o158_0 P) .nil .nil) .nil) (.node (o126_0 P) .nil .nil)))))))
def n8 : Nat := 186
def k8 : Nat := 569
def st8 : Nat := 9
def p8 : PySem.Pos := ⟨81, 0, 81, 4⟩
noncomputable def o3_10 (P : Params) : Obj := ⟨(.type "dict"), none, .dict (List.toArray [(ke P (s "__name__") 165 (.str (s "cpy313.smtplib") 507)), (ke P (s "__doc__") 166 .none), (ke P (s "__package__") 167 .none), (ke P (s "__loader__") 168 (.builtin "__main__.__loader__#opaque")), (ke P (s "__spec__") 169 .none), (ke P (s "__annotations__") 170 (.ref 6)), (ke P (s "__builtins__") 171 (.ref 4)), (ke P (s "__file__") 173 (.str (s "/claim/cut.py") 172)), (ke P (s "__cached__") 174 .none), (ke P (s "_sre") 275 (.ref 12)), (ke P (s "_wall") 288 (.ref 38)), (ke P (s "_name_disallowed_re") 316 (.ref 43)), (ke P (s "_value_disallowed_re") 350 (.ref 48)), (ke P (s "Headers") 506 (.ref 171)), (ke P (s "_twin_re_1") 524 (.ref 180)), (ke P (s "_twin_re_2") 566 (.ref 185)), (ke P (s "CRLF") 568 (.str (s "\x0d\n") 567)), (ke P (s "quotedata") 575 (.ref 192))]) 18, (List.toArray [])⟩
noncomputable def o29_3 (P : Params) : Obj := ⟨.none, none, .fields (List.toArray [(.int 2 0), (.int 0 0), (.ref 37), (.int 8 0), (.int 0 0), (.ref 54), (.int 82 0), (.int 0 0), (.ref 191)]), (List.toArray [])⟩
noncomputable def o186_0 (P : Params) : Obj := ⟨(.type "tuple"), none, .seq (List.toArray []) 0, (List.toArray [])⟩
noncomputable def o187_0 (P : Params) : Obj := ⟨.none, none, .fields (List.toArray []), (List.toArray [])⟩
noncomputable def o188_0 (P : Params) : Obj := ⟨(.type "tuple"), none, .seq (List.toArray [(.str (s "data") 572)]) 0, (List.toArray [])⟩
noncomputable def o189_0 (P : Params) : Obj := ⟨(.type "tuple"), none, .seq (List.toArray []) 0, (List.toArray [])⟩
noncomputable def o190_0 (P : Params) : Obj := ⟨.none, none, .func ⟨(s "quotedata"), (s "quotedata"), fArgs (bd 10), .stmts (fBody (bd 10)), fScope (bd 10), 0, [], .none, .none, .none, .none, none, .none, .none, 0⟩, (List.toArray [])⟩
noncomputable def o191_0 (P : Params) : Obj := ⟨(.type "code"), none, .fields (List.toArray [(.str (s "quotedata") 569), (.str (s "quotedata") 570), (.str (s "/claim/cut.py") 571), (.int 82 0), (.int 1 0), (.int 0 0), (.int 0 0), (.int 3 0), (.ref 186), (.bool true), (.int 276 0), (.ref 187), .none, (.ref 188), (.ref 189), (.ref 190), (.int 573 0), (.int 82 0), (.str (s "/claim/cut.py") 574)]), (List.toArray [])⟩
noncomputable def o192_0 (P : Params) : Obj := ⟨(.type "function"), none, .func ⟨(s "quotedata"), (s "quotedata"), fArgs (bd 10), .stmts (fBody (bd 10)), fScope (bd 10), 3, [], .none, .none, .none, (.str (s "cpy313.smtplib") 507), none, (.ref 191), .none, 0⟩, (List.toArray [])⟩
noncomputable def T9 (P : Params) : BT := (.node (o0_0 P) (.node (o1_0 P) (.node (o3_10 P) (.node (o7_0 P) (.node (o15_0 P) (.node (o31_0 P) (.node (o63_0 P) (.node (o127_0 P) .nil .nil) (.node (o191_0 P) .nil .nil)) (.node (o95_0 P) (.node (o159_0 P) .nil .nil) .nil)) (.node (o47_0 P) (.node (o79_0 P) (.node (o143_0 P) .nil .nil) .nil) (.node (o111_0 P) (.node (o175_0 P) .nil .nil) .nil))) (.node (o23_0 P) (.node (o39_0 P) (.node (o71_0 P) (.node (o135_0 P) .nil .nil) .nil) (.node (o103_0 P) (.node (o167_0 P) .nil .nil) .nil)) (.node (o55_0 P) (.node (o87_0 P) (.node (o151_0 P) .nil .nil) .nil) (.node (o119_0 P) (.node (o183_0 P) .nil .nil) .nil)))) (.node (o11_0 P) (.node (o19_0 P) (.node (o35_0 P) (.node (o67_0 P) (.node (o131_0 P) .nil .nil) .nil) (.node (o99_0 P) (.node (o163_0 P) .nil .nil) .nil)) (.node (o51_0 P) (.node (o83_0 P) (.node (o147_0 P) .nil .nil) .nil) (.node (o115_0 P) (.node (o179_0 P) .nil .nil) .nil))) (.node (o27_0 P) (.node (o43_0 P) (.node (o75_0 P) (.node (o139_0 P) .nil .nil) .nil) (.node (o107_0 P) (.node (o171_0 P) .nil .nil) .nil)) (.node (o59_0 P) (.node (o91_0 P) (.node (o155_0 P) .nil .nil) .nil) (.node (o123_0 P) (.node (o187_0 P) .nil .nil) .nil))))) (.node (o5_0 P) (.node (o9_0 P) (.node (o17_0 P) (.node (o33_0 P) (.node (o65_0 P) (.node (o129_0 P) .nil .nil) .nil) (.node (o97_0 P) (.node (o161_0 P) .nil .nil) .nil)) (.node (o49_0 P) (.node (o81_0 P) (.node (o145_0 P) .nil .nil) .nil) (.node (o113_0 P) (.node (o177_0 P) .nil .nil) .nil))) (.node (o25_0 P) (.node (o41_0 P) (.node (o73_0 P) (.node (o137_0 P) .nil .nil) .nil) (.node (o105_0 P) (.node (o169_0 P) .nil .nil) .nil)) (.node (o57_0 P) (.node (o89_0 P) (.node (o153_0 P) .nil .nil) .nil) (.node (o121_0 P) (.node (o185_0 P) .nil .nil) .nil)))) (.node (o13_0 P) (.node (o21_0 P) (.node (o37_0 P) (.node (o69_0 P) (.node (o133_0 P) .nil .nil) .nil) (.node (o101_0 P) (.node (o165_0 P) .nil .nil) .nil)) (.node (o53_0 P) (.node (o85_0 P) (.node (o149_0 P) .nil .nil) .nil) (.node (o117_0 P) (.node (o181_0 P) .nil .nil) .nil))) (.node (o29_3 P) (.node (o45_0 P) (.node (o77_0 P) (.node (o141_0 P) .nil .nil) .nil) (.node (o109_0 P) (.node (o173_0 P) .nil .nil) .nil)) (.node (o61_0 P) (.node (o93_0 P) (.node (o157_0 P) .nil .nil) .nil) (.node (o125_0 P) (.node (o189_0 P) .nil .nil) .nil)))))) (.node (o2_0 P) (.node (o4_0 P) (.node (o8_0 P) (.node (o16_0 P) (.node (o32_0 P) (.node (o64_0 P) (.node (o128_0 P) .nil .nil) (.node (o192_0 P) .nil .nil)) (.node (o96_0 P) (.node (o160_0 P) .nil .nil) .nil)) (.node (o48_0 P) (.node (o80_0 P) (.node (o144_0 P) .nil .nil) .nil) (.node (o112_0 P) (.node (o176_0 P) .nil .nil) .nil))) (.node (o24_0 P) (.node (o40_0 P) (.node (o72_0 P) (.node (o136_0 P) .nil .nil) .nil) (.node (o104_0 P) (.node (o168_0 P) .nil .nil) .nil)) (.node (o56_0 P) (.node (o88_0 P) (.node (o152_0 P) .nil .nil) .nil) (.node (o120_0 P) (.node (o184_0 P) .nil .nil) .nil)))) (.node (o12_0 P) (.node (o20_0 P) (.node (o36_0 P) (.node (o68_0 P) (.node (o132_0 P) .nil .nil) .nil) (.node (o100_0 P) (.node (o164_0 P) .nil .nil) .nil)) (.node (o52_0 P) (.node (o84_0 P) (.node (o148_0 P) .nil .nil) .nil) (.node (o116_0 P) (.node (o180_0 P) .nil .nil) .nil))) (.node (o28_0 P) (.node (o44_0 P) (.node (o76_0 P) (.node (o140_0 P) .nil .nil) .nil) (.node (o108_0 P) (.node (o172_0 P) .nil .nil) .nil)) (.node (o60_0 P) (.node (o92_0 P) (.node (o156_0 P) .nil .nil) .nil) (.node (o124_0 P) (.node (o188_0 P) .nil .nil) .nil))))) (.node (o6_0 P) (.node (o10_0 P) (.node (o18_0 P) (.node (o34_0 P) (.node (o66_0 P) (.node (o130_0 P) .nil .nil) .nil) (.node (o98_0 P) (.node (o162_0 P) .nil .nil) .nil)) (.node (o50_0 P) (.node (o82_0 P) (.node (o146_0 P) .nil .nil) .nil) (.node (o114_0 P) (.node (o178_0 P) .nil .nil) .nil))) (.node (o26_0 P) (.node (o42_0 P) (.node (o74_0 P) (.node (o138_0 P) .nil .nil) .nil) (.node (o106_0 P) (.node (o170_0 P) .nil .nil) .nil)) (.node (o58_0 P) (.node (o90_0 P) (.node (o154_0 P) .nil .nil) .nil) (.node (o122_0 P) (.node (o186_0 P) .nil .nil) .nil)))) (.node (o14_0 P) (.node (o22_0 P) (.node (o38_0 P) (.node (o70_0 P) (.node (o134_0 P) .nil .nil) .nil) (.node (o102_0 P) (.node (o166_0 P) .nil .nil) .nil)) (.node (o54_0 P) (.node (o86_0 P) (.node (o150_0 P) .nil .nil) .nil) (.node (o118_0 P) (.node (o182_0 P) .nil .nil) .nil))) (.node (o30_0 P) (.node (o46_0 P) (.node (o78_0 P) (.node (o142_0 P) .nil .nil) .nil) (.node (o110_0 P) (.node (o174_0 P) .nil .nil) .nil)) (.node (o62_0 P) (.node (o94_0 P) (.node (o158_0 P) .nil .nil) .nil) (.node (o126_0 P) (.node (o190_0 P) .nil .nil) .nil)))))))
def n9 : Nat := 193
def k9 : Nat := 576
def st9 : Nat := 29
def p9 : PySem.Pos := ⟨82, 0, 83, 59⟩
noncomputable def o3_11 (P : Params) : Obj := ⟨(.type "dict"), none, .dict (List.toArray [(ke P (s "__name__") 165 (.str (s "cpy313.stringprep") 576)), (ke P (s "__doc__") 166 .none), (ke P (s "__package__") 167 .none), (ke P (s "__loader__") 168 (.builtin "__main__.__loader__#opaque")), (ke P (s "__spec__") 169 .none), (ke P (s "__annotations__") 170 (.ref 6)), (ke P (s "__builtins__") 171 (.ref 4)), (ke P (s "__file__") 173 (.str (s "/claim/cut.py") 172)), (ke P (s "__cached__") 174 .none), (ke P (s "_sre") 275 (.ref 12)), (ke P (s "_wall") 288 (.ref 38)), (ke P (s "_name_disallowed_re") 316 (.ref 43)), (ke P (s "_value_disallowed_re") 350 (.ref 48)), (ke P (s "Headers") 506 (.ref 171)), (ke P (s "_twin_re_1") 524 (.ref 180)), (ke P (s "_twin_re_2") 566 (.ref 185)), (ke P (s "CRLF") 568 (.str (s "\x0d\n") 567)), (ke P (s "quotedata") 575 (.ref 192))]) 18, (List.toArray [])⟩
noncomputable def T10 (P : Params) : BT := (.node (o0_0 P) (.node (o1_0 P) (.node (o3_11 P) (.node (o7_0 P) (.node (o15_0 P) (.node (o31_0 P) (.node (o63_0 P) (.node (o127_0 P) .nil .nil) (.node (o191_0 P) .nil .nil)) (.node (o95_0 P) (.node (o159_0 P) .nil .nil) .nil)) (.node (o47_0 P) (.node (o79_0 P) (.node (o143_0 P) .nil .nil) .nil) (.node (o111_0 P) (.node (o175_0 P) .nil .nil) .nil))) (.node (o23_0 P) (.node (o39_0 P) (.node (o71_0 P) (.node (o135_0 P) .nil .nil) .nil) (.node (o103_0 P) (.node (o167_0 P) .nil .nil) .nil)) (.node (o55_0 P) (.node (o87_0 P) (.node (o151_0 P) .nil .nil) .nil) (.node (o119_0 P) (.node (o183_0 P) .nil .nil) .nil)))) (.node (o11_0 P) (.node (o19_0 P) (.node (o35_0 P) (.node (o67_0 P) (.node (o131_0 P) .nil .nil) .nil) (.node (o99_0 P) (.node (o163_0 P) .nil .nil) .nil)) (.node (o51_0 P) (.node (o83_0 P) (.node (o147_0 P) .nil .nil) .nil) (.node (o115_0 P) (.node (o179_0 P) .nil .nil) .nil))) (.node (o27_0 P) (.node (o43_0 P) (.node (o75_0 P) (.node (o139_0 P) .nil .nil) .nil) (.node (o107_0 P) (.node (o171_0 P) .nil .nil) .nil)) (.node (o59_0 P) (.node (o91_0 P) (.node (o155_0 P) .nil .nil) .nil) (.node (o123_0 P) (.node (o187_0 P) .nil .nil) .nil))))) (.node (o5_0 P) (.node (o9_0 P) (.node (o17_0 P) (.node (o33_0 P) (.node (o65_0 P) (.node (o129_0 P) .nil .nil) .nil) (.node (o97_0 P) (.node (o161_0 P) .nil .nil) .nil)) (.node (o49_0 P) (.node (o81_0 P) (.node (o145_0 P) .nil .nil) .nil) (.node (o113_0 P) (.node (o177_0 P) .nil .nil) .nil))) (.node (o25_0 P) (.node (o41_0 P) (.node (o73_0 P) (.node (o137_0 P) .nil .nil) .nil) (.node (o105_0 P) (.node (o169_0 P) .nil .nil) .nil)) (.node (o57_0 P) (.node (o89_0 P) (.node (o153_0 P) .nil .nil) .nil) (.node (o121_0 P) (.node (o185_0 P) .nil .nil) .nil)))) (.node (o13_0 P) (.node (o21_0 P) (.node (o37_0 P) (.node (o69_0 P) (.node (o133_0 P) .nil .nil) .nil) (.node (o101_0 P) (.node (o165_0 P) .nil .nil) .nil)) (.node (o53_0 P) (.node (o85_0 P) (.node (o149_0 P) .nil .nil) .nil) (.node (o117_0 P) (.node (o181_0 P) .nil .nil) .nil))) (.node (o29_3 P) (.node (o45_0 P) (.node (o77_0 P) (.node (o141_0 P) .nil .nil) .nil) (.node (o109_0 P) (.node (o173_0 P) .nil .nil) .nil)) (.node (o61_0 P) (.node (o93_0 P) (.node (o157_0 P) .nil .nil) .nil) (.node (o125_0 P) (.node (o189_0 P) .nil .nil) .nil)))))) (.node (o2_0 P) (.node (o4_0 P) (.node (o8_0 P) (.node (o16_0 P) (.node (o32_0 P) (.node (o64_0 P) (.node (o128_0 P) .nil .nil) (.node (o192_0 P) .nil .nil)) (.node (o96_0 P) (.node (o160_0 P) .nil .nil) .nil)) (.node (o48_0 P) (.node (o80_0 P) (.node (o144_0 P) .nil .nil) .nil) (.node (o112_0 P) (.node (o176_0 P) .nil .nil) .nil))) (.node (o24_0 P) (.node (o40_0 P) (.node (o72_0 P) (.node (o136_0 P) .nil .nil) .nil) (.node (o104_0 P) (.node (o168_0 P) .nil .nil) .nil)) (.node (o56_0 P) (.node (o88_0 P) (.node (o152_0 P) .nil .nil) .nil) (.node (o120_0 P) (.node (o184_0 P) .nil .nil) .nil)))) (.node (o12_0 P) (.node (o20_0 P) (.node (o36_0 P) (.node (o68_0 P) (.node (o132_0 P) .nil .nil) .nil) (.node (o100_0 P) (.node (o164_0 P) .nil .nil) .nil)) (.node (o52_0 P) (.node (o84_0 P) (.node (o148_0 P) .nil .nil) .nil) (.node (o116_0 P) (.node (o180_0 P) .nil .nil) .nil))) (.node (o28_0 P) (.node (o44_0 P) (.node (o76_0 P) (.node (o140_0 P) .nil .nil) .nil) (.node (o108_0 P) (.node (o172_0 P) .nil .nil) .nil)) (.node (o60_0 P) (.node (o92_0 P) (.node (o156_0 P) .nil .nil) .nil) (.node (o124_0 P) (.node (o188_0 P) .nil .nil) .nil))))) (.node (o6_0 P) (.node (o10_0 P) (.node (o18_0 P) (.node (o34_0 P) (.node (o66_0 P) (.node (o130_0 P) .nil .nil) .nil) (.node (o98_0 P) (.node (o162_0 P) .nil .nil) .nil)) (.node (o50_0 P) (.node (o82_0 P) (.node (o146_0 P) .nil .nil) .nil) (.node (o114_0 P) (.node (o178_0 P) .nil .nil) .nil))) (.node (o26_0 P) (.node (o42_0 P) (.node (o74_0 P) (.node (o138_0 P) .nil .nil) .nil) (.node (o106_0 P) (.node (o170_0 P) .nil .nil) .nil)) (.node (o58_0 P) (.node (o90_0 P) (.node (o154_0 P) .nil .nil) .nil) (.node (o122_0 P) (.node (o186_0 P) .nil .nil) .nil)))) (.node (o14_0 P) (.node (o22_0 P) (.node (o38_0 P) (.node (o70_0 P) (.node (o134_0 P) .nil .nil) .nil) (.node (o102_0 P) (.node (o166_0 P) .nil .nil) .nil)) (.node (o54_0 P) (.node (o86_0 P) (.node (o150_0 P) .nil .nil) .nil) (.node (o118_0 P) (.node (o182_0 P) .nil .nil) .nil))) (.node (o30_0 P) (.node (o46_0 P) (.node (o78_0 P) (.node (o142_0 P) .nil .nil) .nil) (.node (o110_0 P) (.node (o174_0 P) .nil .nil) .nil)) (.node (o62_0 P) (.node (o94_0 P) (.node (o158_0 P) .nil .nil) .nil) (.node (o126_0 P) (.node (o190_0 P) .nil .nil) .nil)))))))
def n10 : Nat := 193
def k10 : Nat := 578
def st10 : Nat := 9
def p10 : PySem.Pos := ⟨84, 0, 84, 8⟩
noncomputable def o3_12 (P : Params) : Obj := ⟨(.type "dict"), none, .dict (List.toArray [(ke P (s "__name__") 165 (.str (s "cpy313.stringprep") 576)), (ke P (s "__doc__") 166 .none), (ke P (s "__package__") 167 .none), (ke P (s "__loader__") 168 (.builtin "__main__.__loader__#opaque")), (ke P (s "__spec__") 169 .none), (ke P (s "__annotations__") 170 (.ref 6)), (ke P (s "__builtins__") 171 (.ref 4)), (ke P (s "__file__") 173 (.str (s "/claim/cut.py") 172)), (ke P (s "__cached__") 174 .none), (ke P (s "_sre") 275 (.ref 12)), (ke P (s "_wall") 288 (.ref 38)), (ke P (s "_name_disallowed_re") 316 (.ref 43)), (ke P (s "_value_disallowed_re") 350 (.ref 48)), (ke P (s "Headers") 506 (.ref 171)), (ke P (s "_twin_re_1") 524 (.ref 180)), (ke P (s "_twin_re_2") 566 (.ref 185)), (ke P (s "CRLF") 568 (.str (s "\x0d\n") 567)), (ke P (s "quotedata") 575 (.ref 192)), (ke P (s "b1_set") 637 (.ref 200))]) 19, (List.toArray [])⟩
noncomputable def o193_0 (P : Params) : Obj := ⟨(.type "list"), none, .seq (List.toArray [(.int 173 578), (.int 847 579), (.int 6150 580), (.int 6155 581), (.int 6156 582), (.int 6157 583), (.int 8203 584), (.int 8204 585), (.int 8205 586), (.int 8288 587), (.int 65279 588)]) 0, (List.toArray [])⟩
noncomputable def o194_0 (P : Params) : Obj := ⟨(.type "range"), none, .fields (List.toArray [(.int 65024 589), (.int 65040 590), (.int 1 591)]), (List.toArray [])⟩
noncomputable def o195_0 (P : Params) : Obj := ⟨(.type "list"), none, .seq (List.toArray [(.int 65024 594), (.int 65025 595), (.int 65026 596), (.int 65027 597), (.int 65028 598), (.int 65029 599), (.int 65030 600), (.int 65031 601), (.int 65032 602), (.int 65033 603), (.int 65034 604), (.int 65035 605), (.int 65036 606), (.int 65037 607), (.int 65038 608), (.int 65039 609)]) 18, (List.toArray [])⟩
noncomputable def o196_0 (P : Params) : Obj := ⟨(.type "range_iterator"), none, .fields (List.toArray [(.int 65040 0), (.int 0 0), (.int 1 0)]), (List.toArray [])⟩
noncomputable def o197_0 (P : Params) : Obj := ⟨(.type "tuple"), none, .seq (List.toArray []) 0, (List.toArray [])⟩
noncomputable def o198_0 (P : Params) : Obj := ⟨(.type "StopIteration"), none, .fields (List.toArray [(.ref 197), .none, .none, .none, (.bool false), .none]), (List.toArray [])⟩
noncomputable def o199_0 (P : Params) : Obj := ⟨(.type "list"), none, .seq (List.toArray [(.int 173 578), (.int 847 579), (.int 6150 580), (.int 6155 581), (.int 6156 582), (.int 6157 583), (.int 8203 584), (.int 8204 585), (.int 8205 586), (.int 8288 587), (.int 65279 588), (.int 65024 594), (.int 65025 595), (.int 65026 596), (.int 65027 597), (.int 65028 598), (.int 65029 599), (.int 65030 600), (.int 65031 601), (.int 65032 602), (.int 65033 603), (.int 65034 604), (.int 65035 605), (.int 65036 606), (.int 65037 607), (.int 65038 608), (.int 65039 609)]) 0, (List.toArray [])⟩
noncomputable def o200_0 (P : Params) : Obj := ⟨(.type "set"), none, .set (List.toArray [(65024, (.int 65024 594)), (65025, (.int 65025 595)), (65026, (.int 65026 596)), (65027, (.int 65027 597)), (65028, (.int 65028 598)), (65029, (.int 65029 599)), (6150, (.int 6150 580)), (65030, (.int 65030 600)), (65031, (.int 65031 601)), (65032, (.int 65032 602)), (65033, (.int 65033 603)), (6155, (.int 6155 581)), (6156, (.int 6156 582)), (6157, (.int 6157 583)), (8203, (.int 8203 584)), (8204, (.int 8204 585)), (8205, (.int 8205 586)), (65034, (.int 65034 604)), (65035, (.int 65035 605)), (65036, (.int 65036 606)), (65037, (.int 65037 607)), (65038, (.int 65038 608)), (65039, (.int 65039 609)), (173, (.int 173 578)), (847, (.int 847 579)), (8288, (.int 8288 587)), (65279, (.int 65279 588))]) 29 ⟨127, (List.toArray [0, 1, 2, 3, 4, 5, 6, 7, 8, 9, 10, 11, 12, 13, 14, 15, 16, 17, 18, 19, 20, 21, 22, 45, 79, 96, 127]), (List.toArray []), 0, !(P.followText "set-order"), 2, true⟩, (List.toArray [])⟩
noncomputable def o201_0 (P : Params) : Obj := ⟨(.type "list_iterator"), none, .fields (List.toArray [.none, (.int 27 0)]), (List.toArray [])⟩
noncomputable def o202_0 (P : Params) : Obj := ⟨(.type "tuple"), none, .seq (List.toArray []) 0, (List.toArray [])⟩
noncomputable def o203_0 (P : Params) : Obj := ⟨(.type "StopIteration"), none, .fields (List.toArray [(.ref 202), .none, .none, .none, (.bool false), .none]), (List.toArray [])⟩
noncomputable def T11 (P : Params) : BT := (.node (o0_0 P) (.node (o1_0 P) (.node (o3_12 P) (.node (o7_0 P) (.node (o15_0 P) (.node (o31_0 P) (.node (o63_0 P) (.node (o127_0 P) .nil .nil) (.node (o191_0 P) .nil .nil)) (.node (o95_0 P) (.node (o159_0 P) .nil .nil) .nil)) (.node (o47_0 P) (.node (o79_0 P) (.node (o143_0 P) .nil .nil) .nil) (.node (o111_0 P) (.node (o175_0 P) .nil .nil) .nil))) (.node (o23_0 P) (.node (o39_0 P) (.node (o71_0 P) (.node (o135_0 P) .nil .nil) (.node (o199_0 P) .nil .nil)) (.node (o103_0 P) (.node (o167_0 P) .nil .nil) .nil)) (.node (o55_0 P) (.node (o87_0 P) (.node (o151_0 P) .nil .nil) .nil) (.node (o119_0 P) (.node (o183_0 P) .nil .nil) .nil)))) (.node (o11_0 P) (.node (o19_0 P) (.node (o35_0 P) (.node (o67_0 P) (.node (o131_0 P) .nil .nil) (.node (o195_0 P) .nil .nil)) (.node (o99_0 P) (.node (o163_0 P) .nil .nil) .nil)) (.node (o51_0 P) (.node (o83_0 P) (.node (o147_0 P) .nil .nil) .nil) (.node (o115_0 P) (.node (o179_0 P) .nil .nil) .nil))) (.node (o27_0 P) (.node (o43_0 P) (.node (o75_0 P) (.node (o139_0 P) .nil .nil) (.node (o203_0 P) .nil .nil)) (.node (o107_0 P) (.node (o171_0 P) .nil .nil) .nil)) (.node (o59_0 P) (.node (o91_0 P) (.node (o155_0 P) .nil .nil) .nil) (.node (o123_0 P) (.node (o187_0 P) .nil .nil) .nil))))) (.node (o5_0 P) (.node (o9_0 P) (.node (o17_0 P) (.node (o33_0 P) (.node (o65_0 P) (.node (o129_0 P) .nil .nil) (.node (o193_0 P) .nil .nil)) (.node (o97_0 P) (.node (o161_0 P) .nil .nil) .nil)) (.node (o49_0 P) (.node (o81_0 P) (.node (o145_0 P) .nil .nil) .nil) (.node (o113_0 P) (.node (o177_0 P) .nil .nil) .nil))) (.node (o25_0 P) (.node (o41_0 P) (.node (o73_0 P) (.node (o137_0 P) .nil .nil) (.node (o201_0 P) .nil .nil)) (.node (o105_0 P) (.node (o169_0 P) .nil .nil) .nil)) (.node (o57_0 P) (.node (o89_0 P) (.node (o153_0 P) .nil .nil) .nil) (.node (o121_0 P) (.node (o185_0 P) .nil .nil) .nil)))) (.node (o13_0 P) (.node (o21_0 P) (.node (o37_0 P) (.node (o69_0 P) (.node (o133_0 P) .nil .nil) (.node (o197_0 P) .nil .nil)) (.node (o101_0 P) (.node (o165_0 P) .nil .nil) .nil)) (.node (o53_0 P) (.node (o85_0 P) (.node (o149_0 P) .nil .nil) .nil) (.node (o117_0 P) (.node (o181_0 P) .nil .nil) .nil))) (.node (o29_3 P) (.node (o45_0 P) (.node (o77_0 P) (.node (o141_0 P) .nil .nil) .nil) (.node (o109_0 P) (.node (o173_0 P) .nil .nil) .nil)) (.node (o61_0 P) (.node (o93_0 P) (.node (o157_0 P) .nil .nil) .nil) (.node (o125_0 P) (.node (o189_0 P) .nil .nil) .nil)))))) (.node (o2_0 P) (.node (o4_0 P) (.node (o8_0 P) (.node (o16_0 P) (.node (o32_0 P) (.node (o64_0 P) (.node (o128_0 P) .nil .nil) (.node (o192_0 P) .nil .nil)) (.node (o96_0 P) (.node (o160_0 P) .nil .nil) .nil)) (.node (o48_0 P) (.node (o80_0 P) (.node (o144_0 P) .nil .nil) .nil) (.node (o112_0 P) (.node (o176_0 P) .nil .nil) .nil))) (.node (o24_0 P) (.node (o40_0 P) (.node (o72_0 P) (.node (o136_0 P) .nil .nil) (.node (o200_0 P) .nil .nil)) (.node (o104_0 P) (.node (o168_0 P) .nil .nil) .nil)) (.node (o56_0 P) (.node (o88_0 P) (.node (o152_0 P) .nil .nil) .nil) (.node (o120_0 P) (.node (o184_0 P) .nil .nil) .nil)))) (.node (o12_0 P) (.node (o20_0 P) (.node (o36_0 P) (.node (o68_0 P) (.node (o132_0 P) .nil .nil) (.node (o196_0 P) .nil .nil)) (.node (o100_0 P) (.node (o164_0 P) .nil .nil) .nil)) (.node (o52_0 P) (.node (o84_0 P) (.node (o148_0 P) .nil .nil) .nil) (.node (o116_0 P) (.node (o180_0 P) .nil .nil) .nil))) (.node (o28_0 P) (.node (o44_0 P) (.node (o76_0 P) (.node (o140_0 P) .nil .nil) .nil) (.node (o108_0 P) (.node (o172_0 P) .nil .nil) .nil)) (.node (o60_0 P) (.node (o92_0 P) (.node (o156_0 P) .nil .nil) .nil) (.node (o124_0 P) (.node (o188_0 P) .nil .nil) .nil))))) (.node (o6_0 P) (.node (o10_0 P) (.node (o18_0 P) (.node (o34_0 P) (.node (o66_0 P) (.node (o130_0 P) .nil .nil) (.node (o194_0 P) .nil .nil)) (.node (o98_0 P) (.node (o162_0 P) .nil .nil) .nil)) (.node (o50_0 P) (.node (o82_0 P) (.node (o146_0 P) .nil .nil) .nil) (.node (o114_0 P) (.node (o178_0 P) .nil .nil) .nil))) (.node (o26_0 P) (.node (o42_0 P) (.node (o74_0 P) (.node (o138_0 P) .nil .nil) (.node (o202_0 P) .nil .nil)) (.node (o106_0 P) (.node (o170_0 P) .nil .nil) .nil)) (.node (o58_0 P) (.node (o90_0 P) (.node (o154_0 P) .nil .nil) .nil) (.node (o122_0 P) (.node (o186_0 P) .nil .nil) .nil)))) (.node (o14_0 P) (.node (o22_0 P) (.node (o38_0 P) (.node (o70_0 P) (.node (o134_0 P) .nil .nil) (.node (o198_0 P) .nil .nil)) (.node (o102_0 P) (.node (o166_0 P) .nil .nil) .nil)) (.node (o54_0 P) (.node (o86_0 P) (.node (o150_0 P) .nil .nil) .nil) (.node (o118_0 P) (.node (o182_0 P) .nil .nil) .nil))) (.node (o30_0 P) (.node (o46_0 P) (.node (o78_0 P) (.node (o142_0 P) .nil .nil) .nil) (.node (o110_0 P) (.node (o174_0 P) .nil .nil) .nil)) (.node (o62_0 P) (.node (o94_0 P) (.node (o158_0 P) .nil .nil) .nil) (.node (o126_0 P) (.node (o190_0 P) .nil .nil) .nil)))))))
def n11 : Nat := 204
def k11 : Nat := 638
def st11 : Nat := 998
def p11 : PySem.Pos := ⟨85, 0, 85, 6⟩
noncomputable def o3_13 (P : Params) : Obj := ⟨(.type "dict"), none, .dict (List.toArray [(ke P (s "__name__") 165 (.str (s "cpy313.stringprep") 576)), (ke P (s "__doc__") 166 .none), (ke P (s "__package__") 167 .none), (ke P (s "__loader__") 168 (.builtin "__main__.__loader__#opaque")), (ke P (s "__spec__") 169 .none), (ke P (s "__annotations__") 170 (.ref 6)), (ke P (s "__builtins__") 171 (.ref 4)), (ke P (s "__file__") 173 (.str (s "/claim/cut.py") 172)), (ke P (s "__cached__") 174 .none), (ke P (s "_sre") 275 (.ref 12)), (ke P (s "_wall") 288 (.ref 38)), (ke P (s "_name_disallowed_re") 316 (.ref 43)), (ke P (s "_value_disallowed_re") 350 (.ref 48)), (ke P (s "Headers") 506 (.ref 171)), (ke P (s "_twin_re_1") 524 (.ref 180)), (ke P (s "_twin_re_2") 566 (.ref 185)), (ke P (s "CRLF") 568 (.str (s "\x0d\n") 567)), (ke P (s "quotedata") 575 (.ref 192)), (ke P (s "b1_set") 637 (.ref 200)), (ke P (s "in_table_b1") 644 (.ref 210))]) 20, (List.toArray [])⟩
noncomputable def o29_4 (P : Params) : Obj := ⟨.none, none, .fields (List.toArray [(.int 2 0), (.int 0 0), (.ref 37), (.int 8 0), (.int 0 0), (.ref 54), (.int 82 0), (.int 0 0), (.ref 191), (.int 86 0), (.int 0 0), (.ref 209)]), (List.toArray [])⟩
noncomputable def o204_0 (P : Params) : Obj := ⟨(.type "tuple"), none, .seq (List.toArray []) 0, (List.toArray [])⟩
noncomputable def o205_0 (P : Params) : Obj := ⟨.none, none, .fields (List.toArray []), (List.toArray [])⟩
noncomputable def o206_0 (P : Params) : Obj := ⟨(.type "tuple"), none, .seq (List.toArray [(.str (s "code") 641)]) 0, (List.toArray [])⟩
noncomputable def o207_0 (P : Params) : Obj := ⟨(.type "tuple"), none, .seq (List.toArray []) 0, (List.toArray [])⟩
noncomputable def o208_0 (P : Params) : Obj := ⟨.none, none, .func ⟨(s "in_table_b1"), (s "in_table_b1"), fArgs (bd 13), .stmts (fBody (bd 13)), fScope (bd 13), 0, [], .none, .none, .none, .none, none, .none, .none, 0⟩, (List.toArray [])⟩
noncomputable def o209_0 (P : Params) : Obj := ⟨(.type "code"), none, .fields (List.toArray [(.str (s "in_table_b1") 638), (.str (s "in_table_b1") 639), (.str (s "/claim/cut.py") 640), (.int 86 0), (.int 1 0), (.int 0 0), (.int 0 0), (.int 3 0), (.ref 204), (.bool true), (.int 276 0), (.ref 205), .none, (.ref 206), (.ref 207), (.ref 208), (.int 642 0), (.int 86 0), (.str (s "/claim/cut.py") 643)]), (List.toArray [])⟩
noncomputable def o210_0 (P : Params) : Obj := ⟨(.type "function"), none, .func ⟨(s "in_table_b1"), (s "in_table_b1"), fArgs (bd 13), .stmts (fBody (bd 13)), fScope (bd 13), 3, [], .none, .none, .none, (.str (s "cpy313.stringprep") 576), none, (.ref 209), .none, 0⟩, (List.toArray [])⟩
noncomputable def T12 (P : Params) : BT := (.node (o0_0 P) (.node (o1_0 P) (.node (o3_13 P) (.node (o7_0 P) (.node (o15_0 P) (.node (o31_0 P) (.node (o63_0 P) (.node (o127_0 P) .nil .nil) (.node (o191_0 P) .nil .nil)) (.node (o95_0 P) (.node (o159_0 P) .nil .nil) .nil)) (.node (o47_0 P) (.node (o79_0 P) (.node (o143_0 P) .nil .nil) (.node (o207_0 P) .nil .nil)) (.node (o111_0 P) (.node (o175_0 P) .nil .nil) .nil))) (.node (o23_0 P) (.node (o39_0 P) (.node (o71_0 P) (.node (o135_0 P) .nil .nil) (.node (o199_0 P) .nil .nil)) (.node (o103_0 P) (.node (o167_0 P) .nil .nil) .nil)) (.node (o55_0 P) (.node (o87_0 P) (.node (o151_0 P) .nil .nil) .nil) (.node (o119_0 P) (.node (o183_0 P) .nil .nil) .nil)))) (.node (o11_0 P) (.node (o19_0 P) (.node (o35_0 P) (.node (o67_0 P) (.node (o131_0 P) .nil .nil) (.node (o195_0 P) .nil .nil)) (.node (o99_0 P) (.node (o163_0 P) .nil .nil) .nil)) (.node (o51_0 P) (.node (o83_0 P) (.node (o147_0 P) .nil .nil) .nil) (.node (o115_0 P) (.node (o179_0 P) .nil .nil) .nil))) (.node (o27_0 P) (.node (o43_0 P) (.node (o75_0 P) (.node (o139_0 P) .nil .nil) (.node (o203_0 P) .nil .nil)) (.node (o107_0 P) (.node (o171_0 P) .nil .nil) .nil)) (.node (o59_0 P) (.node (o91_0 P) (.node (o155_0 P) .nil .nil) .nil) (.node (o123_0 P) (.node (o187_0 P) .nil .nil) .nil))))) (.node (o5_0 P) (.node (o9_0 P) (.node (o17_0 P) (.node (o33_0 P) (.node (o65_0 P) (.node (o129_0 P) .nil .nil) (.node (o193_0 P) .nil .nil)) (.node (o97_0 P) (.node (o161_0 P) .nil .nil) .nil)) (.node (o49_0 P) (.node (o81_0 P) (.node (o145_0 P) .nil .nil) (.node (o209_0 P) .nil .nil)) (.node (o113_0 P) (.node (o177_0 P) .nil .nil) .nil))) (.node (o25_0 P) (.node (o41_0 P) (.node (o73_0 P) (.node (o137_0 P) .nil .nil) (.node (o201_0 P) .nil .nil)) (.node (o105_0 P) (.node (o169_0 P) .nil .nil) .nil)) (.node (o57_0 P) (.node (o89_0 P) (.node (o153_0 P) .nil .nil) .nil) (.node (o121_0 P) (.node (o185_0 P) .nil .nil) .nil)))) (.node (o13_0 P) (.node (o21_0 P) (.node (o37_0 P) (.node (o69_0 P) (.node (o133_0 P) .nil .nil) (.node (o197_0 P) .nil .nil)) (.node (o101_0 P) (.node (o165_0 P) .nil .nil) .nil)) (.node (o53_0 P) (.node (o85_0 P) (.node (o149_0 P) .nil .nil) .nil) (.node (o117_0 P) (.node (o181_0 P) .nil .nil) .nil))) (.node (o29_4 P) (.node (o45_0 P) (.node (o77_0 P) (.node (o141_0 P) .nil .nil) (.node (o205_0 P) .nil .nil)) (.node (o109_0 P) (.node (o173_0 P) .nil .nil) .nil)) (.node (o61_0 P) (.node (o93_0 P) (.node (o157_0 P) .nil .nil) .nil) (.node (o125_0 P) (.node (o189_0 P) .nil .nil) .nil)))))) (.node (o2_0 P) (.node (o4_0 P) (.node (o8_0 P) (.node (o16_0 P) (.node (o32_0 P) (.node (o64_0 P) (.node (o128_0 P) .nil .nil) (.node (o192_0 P) .nil .nil)) (.node (o96_0 P) (.node (o160_0 P) .nil .nil) .nil)) (.node (o48_0 P) (.node (o80_0 P) (.node (o144_0 P) .nil .nil) (.node (o208_0 P) .nil .nil)) (.node (o112_0 P) (.node (o176_0 P) .nil .nil) .nil))) (.node (o24_0 P) (.node (o40_0 P) (.node (o72_0 P) (.node (o136_0 P) .nil .nil) (.node (o200_0 P) .nil .nil)) (.node (o104_0 P) (.node (o168_0 P) .nil .nil) .nil)) (.node (o56_0 P) (.node (o88_0 P) (.node (o152_0 P) .nil .nil) .nil) (.node (o120_0 P) (.node (o184_0 P) .nil .nil) .nil)))) (.node (o12_0 P) (.node (o20_0 P) (.node (o36_0 P) (.node (o68_0 P) (.node (o132_0 P) .nil .nil) (.node (o196_0 P) .nil .nil)) (.node (o100_0 P) (.node (o164_0 P) .nil .nil) .nil)) (.node (o52_0 P) (.node (o84_0 P) (.node (o148_0 P) .nil .nil) .nil) (.node (o116_0 P) (.node (o180_0 P) .nil .nil) .nil))) (.node (o28_0 P) (.node (o44_0 P) (.node (o76_0 P) (.node (o140_0 P) .nil .nil) (.node (o204_0 P) .nil .nil)) (.node (o108_0 P) (.node (o172_0 P) .nil .nil) .nil)) (.node (o60_0 P) (.node (o92_0 P) (.node (o156_0 P) .nil .nil) .nil) (.node (o124_0 P) (.node (o188_0 P) .nil .nil) .nil))))) (.node (o6_0 P) (.node (o10_0 P) (.node (o18_0 P) (.node (o34_0 P) (.node (o66_0 P) (.node (o130_0 P) .nil .nil) (.node (o194_0 P) .nil .nil)) (.node (o98_0 P) (.node (o162_0 P) .nil .nil) .nil)) (.node (o50_0 P) (.node (o82_0 P) (.node (o146_0 P) .nil .nil) (.node (o210_0 P) .nil .nil)) (.node (o114_0 P) (.node (o178_0 P) .nil .nil) .nil))) (.node (o26_0 P) (.node (o42_0 P) (.node (o74_0 P) (.node (o138_0 P) .nil .nil) (.node (o202_0 P) .nil .nil)) (.node (o106_0 P) (.node (o170_0 P) .nil .nil) .nil)) (.node (o58_0 P) (.node (o90_0 P) (.node (o154_0 P) .nil .nil) .nil) (.node (o122_0 P) (.node (o186_0 P) .nil .nil) .nil)))) (.node (o14_0 P) (.node (o22_0 P) (.node (o38_0 P) (.node (o70_0 P) (.node (o134_0 P) .nil .nil) (.node (o198_0 P) .nil .nil)) (.node (o102_0 P) (.node (o166_0 P) .nil .nil) .nil)) (.node (o54_0 P) (.node (o86_0 P) (.node (o150_0 P) .nil .nil) .nil) (.node (o118_0 P) (.node (o182_0 P) .nil .nil) .nil))) (.node (o30_0 P) (.node (o46_0 P) (.node (o78_0 P) (.node (o142_0 P) .nil .nil) (.node (o206_0 P) .nil .nil)) (.node (o110_0 P) (.node (o174_0 P) .nil .nil) .nil)) (.node (o62_0 P) (.node (o94_0 P) (.node (o158_0 P) .nil .nil) .nil) (.node (o126_0 P) (.node (o190_0 P) .nil .nil) .nil)))))))
def n12 : Nat := 211
def k12 : Nat := 645
def st12 : Nat := 29
def p12 : PySem.Pos := ⟨86, 0, 87, 30⟩
noncomputable def TX (P : Params) (G : Nat → Obj) : BT := (.node (o0_0 P) (.node (o1_0 P) (.node (o3_13 P) (.node (o7_0 P) (.node (o15_0 P) (.node (o31_0 P) (.node (o63_0 P) (.node (o127_0 P) .nil .nil) (.node (o191_0 P) .nil .nil)) (.node (o95_0 P) (.node (o159_0 P) .nil .nil) (.node (G 12) .nil .nil))) (.node (o47_0 P) (.node (o79_0 P) (.node (o143_0 P) .nil .nil) (.node (o207_0 P) .nil .nil)) (.node (o111_0 P) (.node (o175_0 P) .nil .nil) (.node (G 28) .nil .nil)))) (.node (o23_0 P) (.node (o39_0 P) (.node (o71_0 P) (.node (o135_0 P) .nil .nil) (.node (o199_0 P) .nil .nil)) (.node (o103_0 P) (.node (o167_0 P) .nil .nil) (.node (G 20) .nil .nil))) (.node (o55_0 P) (.node (o87_0 P) (.node (o151_0 P) .nil .nil) (.node (G 4) .nil .nil)) (.node (o119_0 P) (.node (o183_0 P) .nil .nil) (.node (G 36) .nil .nil))))) (.node (o11_0 P) (.node (o19_0 P) (.node (o35_0 P) (.node (o67_0 P) (.node (o131_0 P) .nil .nil) (.node (o195_0 P) .nil .nil)) (.node (o99_0 P) (.node (o163_0 P) .nil .nil) (.node (G 16) .nil .nil))) (.node (o51_0 P) (.node (o83_0 P) (.node (o147_0 P) .nil .nil) (.node (G 0) .nil .nil)) (.node (o115_0 P) (.node (o179_0 P) .nil .nil) (.node (G 32) .nil .nil)))) (.node (o27_0 P) (.node (o43_0 P) (.node (o75_0 P) (.node (o139_0 P) .nil .nil) (.node (o203_0 P) .nil .nil)) (.node (o107_0 P) (.node (o171_0 P) .nil .nil) (.node (G 24) .nil .nil))) (.node (o59_0 P) (.node (o91_0 P) (.node (o155_0 P) .nil .nil) (.node (G 8) .nil .nil)) (.node (o123_0 P) (.node (o187_0 P) .nil .nil) .nil))))) (.node (o5_0 P) (.node (o9_0 P) (.node (o17_0 P) (.node (o33_0 P) (.node (o65_0 P) (.node (o129_0 P) .nil .nil) (.node (o193_0 P) .nil .nil)) (.node (o97_0 P) (.node (o161_0 P) .nil .nil) (.node (G 14) .nil .nil))) (.node (o49_0 P) (.node (o81_0 P) (.node (o145_0 P) .nil .nil) (.node (o209_0 P) .nil .nil)) (.node (o113_0 P) (.node (o177_0 P) .nil .nil) (.node (G 30) .nil .nil)))) (.node (o25_0 P) (.node (o41_0 P) (.node (o73_0 P) (.node (o137_0 P) .nil .nil) (.node (o201_0 P) .nil .nil)) (.node (o105_0 P) (.node (o169_0 P) .nil .nil) (.node (G 22) .nil .nil))) (.node (o57_0 P) (.node (o89_0 P) (.node (o153_0 P) .nil .nil) (.node (G 6) .nil .nil)) (.node (o121_0 P) (.node (o185_0 P) .nil .nil) (.node (G 38) .nil .nil))))) (.node (o13_0 P) (.node (o21_0 P) (.node (o37_0 P) (.node (o69_0 P) (.node (o133_0 P) .nil .nil) (.node (o197_0 P) .nil .nil)) (.node (o101_0 P) (.node (o165_0 P) .nil .nil) (.node (G 18) .nil .nil))) (.node (o53_0 P) (.node (o85_0 P) (.node (o149_0 P) .nil .nil) (.node (G 2) .nil .nil)) (.node (o117_0 P) (.node (o181_0 P) .nil .nil) (.node (G 34) .nil .nil)))) (.node (o29_4 P) (.node (o45_0 P) (.node (o77_0 P) (.node (o141_0 P) .nil .nil) (.node (o205_0 P) .nil .nil)) (.node (o109_0 P) (.node (o173_0 P) .nil .nil) (.node (G 26) .nil .nil))) (.node (o61_0 P) (.node (o93_0 P) (.node (o157_0 P) .nil .nil) (.node (G 10) .nil .nil)) (.node (o125_0 P) (.node (o189_0 P) .nil .nil) .nil)))))) (.node (o2_0 P) (.node (o4_0 P) (.node (o8_0 P) (.node (o16_0 P) (.node (o32_0 P) (.node (o64_0 P) (.node (o128_0 P) .nil .nil) (.node (o192_0 P) .nil .nil)) (.node (o96_0 P) (.node (o160_0 P) .nil .nil) (.node (G 13) .nil .nil))) (.node (o48_0 P) (.node (o80_0 P) (.node (o144_0 P) .nil .nil) (.node (o208_0 P) .nil .nil)) (.node (o112_0 P) (.node (o176_0 P) .nil .nil) (.node (G 29) .nil .nil)))) (.node (o24_0 P) (.node (o40_0 P) (.node (o72_0 P) (.node (o136_0 P) .nil .nil) (.node (o200_0 P) .nil .nil)) (.node (o104_0 P) (.node (o168_0 P) .nil .nil) (.node (G 21) .nil .nil))) (.node (o56_0 P) (.node (o88_0 P) (.node (o152_0 P) .nil .nil) (.node (G 5) .nil .nil)) (.node (o120_0 P) (.node (o184_0 P) .nil .nil) (.node (G 37) .nil .nil))))) (.node (o12_0 P) (.node (o20_0 P) (.node (o36_0 P) (.node (o68_0 P) (.node (o132_0 P) .nil .nil) (.node (o196_0 P) .nil .nil)) (.node (o100_0 P) (.node (o164_0 P) .nil .nil) (.node (G 17) .nil .nil))) (.node (o52_0 P) (.node (o84_0 P) (.node (o148_0 P) .nil .nil) (.node (G 1) .nil .nil)) (.node (o116_0 P) (.node (o180_0 P) .nil .nil) (.node (G 33) .nil .nil)))) (.node (o28_0 P) (.node (o44_0 P) (.node (o76_0 P) (.node (o140_0 P) .nil .nil) (.node (o204_0 P) .nil .nil)) (.node (o108_0 P) (.node (o172_0 P) .nil .nil) (.node (G 25) .nil .nil))) (.node (o60_0 P) (.node (o92_0 P) (.node (o156_0 P) .nil .nil) (.node (G 9) .nil .nil)) (.node (o124_0 P) (.node (o188_0 P) .nil .nil) .nil))))) (.node (o6_0 P) (.node (o10_0 P) (.node (o18_0 P) (.node (o34_0 P) (.node (o66_0 P) (.node (o130_0 P) .nil .nil) (.node (o194_0 P) .nil .nil)) (.node (o98_0 P) (.node (o162_0 P) .nil .nil) (.node (G 15) .nil .nil))) (.node (o50_0 P) (.node (o82_0 P) (.node (o146_0 P) .nil .nil) (.node (o210_0 P) .nil .nil)) (.node (o114_0 P) (.node (o178_0 P) .nil .nil) (.node (G 31) .nil .nil)))) (.node (o26_0 P) (.node (o42_0 P) (.node (o74_0 P) (.node (o138_0 P) .nil .nil) (.node (o202_0 P) .nil .nil)) (.node (o106_0 P) (.node (o170_0 P) .nil .nil) (.node (G 23) .nil .nil))) (.node (o58_0 P) (.node (o90_0 P) (.node (o154_0 P) .nil .nil) (.node (G 7) .nil .nil)) (.node (o122_0 P) (.node (o186_0 P) .nil .nil) .nil)))) (.node (o14_0 P) (.node (o22_0 P) (.node (o38_0 P) (.node (o70_0 P) (.node (o134_0 P) .nil .nil) (.node (o198_0 P) .nil .nil)) (.node (o102_0 P) (.node (o166_0 P) .nil .nil) (.node (G 19) .nil .nil))) (.node (o54_0 P) (.node (o86_0 P) (.node (o150_0 P) .nil .nil) (.node (G 3) .nil .nil)) (.node (o118_0 P) (.node (o182_0 P) .nil .nil) (.node (G 35) .nil .nil)))) (.node (o30_0 P) (.node (o46_0 P) (.node (o78_0 P) (.node (o142_0 P) .nil .nil) (.node (o206_0 P) .nil .nil)) (.node (o110_0 P) (.node (o174_0 P) .nil .nil) (.node (G 27) .nil .nil))) (.node (o62_0 P) (.node (o94_0 P) (.node (o158_0 P) .nil .nil) (.node (G 11) .nil .nil)) (.node (o126_0 P) (.node (o190_0 P) .nil .nil) .nil)))))))
def nX : Nat := 250
def kX : Nat := 2595
def lo0 : Nat := 211
noncomputable def o3_14 (P : Params) : Obj := ⟨(.type "dict"), none, .dict (List.toArray [(ke P (s "__name__") 165 (.str (s "cpy313.stringprep") 576)), (ke P (s "__doc__") 166 .none), (ke P (s "__package__") 167 .none), (ke P (s "__loader__") 168 (.builtin "__main__.__loader__#opaque")), (ke P (s "__spec__") 169 .none), (ke P (s "__annotations__") 170 (.ref 6)), (ke P (s "__builtins__") 171 (.ref 4)), (ke P (s "__file__") 173 (.str (s "/claim/cut.py") 172)), (ke P (s "__cached__") 174 .none), (ke P (s "_sre") 275 (.ref 12)), (ke P (s "_wall") 288 (.ref 38)), (ke P (s "_name_disallowed_re") 316 (.ref 43)), (ke P (s "_value_disallowed_re") 350 (.ref 48)), (ke P (s "Headers") 506 (.ref 171)), (ke P (s "_twin_re_1") 524 (.ref 180)), (ke P (s "_twin_re_2") 566 (.ref 185)), (ke P (s "CRLF") 568 (.str (s "\x0d\n") 567)), (ke P (s "quotedata") 575 (.ref 192)), (ke P (s "b1_set") 637 (.ref 200)), (ke P (s "in_table_b1") 644 (.ref 210)), (ke P (s "b3_exceptions") 2595 (.ref 211))]) 21, (List.toArray [])⟩
noncomputable def T13 (P : Params) (G : Nat → Obj) : BT := (.node (o0_0 P) (.node (o1_0 P) (.node (o3_14 P) (.node (o7_0 P) (.node (o15_0 P) (.node (o31_0 P) (.node (o63_0 P) (.node (o127_0 P) .nil .nil) (.node (o191_0 P) .nil .nil)) (.node (o95_0 P) (.node (o159_0 P) .nil .nil) (.node (G 12) .nil .nil))) (.node (o47_0 P) (.node (o79_0 P) (.node (o143_0 P) .nil .nil) (.node (o207_0 P) .nil .nil)) (.node (o111_0 P) (.node (o175_0 P) .nil .nil) (.node (G 28) .nil .nil)))) (.node (o23_0 P) (.node (o39_0 P) (.node (o71_0 P) (.node (o135_0 P) .nil .nil) (.node (o199_0 P) .nil .nil)) (.node (o103_0 P) (.node (o167_0 P) .nil .nil) (.node (G 20) .nil .nil))) (.node (o55_0 P) (.node (o87_0 P) (.node (o151_0 P) .nil .nil) (.node (G 4) .nil .nil)) (.node (o119_0 P) (.node (o183_0 P) .nil .nil) (.node (G 36) .nil .nil))))) (.node (o11_0 P) (.node (o19_0 P) (.node (o35_0 P) (.node (o67_0 P) (.node (o131_0 P) .nil .nil) (.node (o195_0 P) .nil .nil)) (.node (o99_0 P) (.node (o163_0 P) .nil .nil) (.node (G 16) .nil .nil))) (.node (o51_0 P) (.node (o83_0 P) (.node (o147_0 P) .nil .nil) (.node (G 0) .nil .nil)) (.node (o115_0 P) (.node (o179_0 P) .nil .nil) (.node (G 32) .nil .nil)))) (.node (o27_0 P) (.node (o43_0 P) (.node (o75_0 P) (.node (o139_0 P) .nil .nil) (.node (o203_0 P) .nil .nil)) (.node (o107_0 P) (.node (o171_0 P) .nil .nil) (.node (G 24) .nil .nil))) (.node (o59_0 P) (.node (o91_0 P) (.node (o155_0 P) .nil .nil) (.node (G 8) .nil .nil)) (.node (o123_0 P) (.node (o187_0 P) .nil .nil) .nil))))) (.node (o5_0 P) (.node (o9_0 P) (.node (o17_0 P) (.node (o33_0 P) (.node (o65_0 P) (.node (o129_0 P) .nil .nil) (.node (o193_0 P) .nil .nil)) (.node (o97_0 P) (.node (o161_0 P) .nil .nil) (.node (G 14) .nil .nil))) (.node (o49_0 P) (.node (o81_0 P) (.node (o145_0 P) .nil .nil) (.node (o209_0 P) .nil .nil)) (.node (o113_0 P) (.node (o177_0 P) .nil .nil) (.node (G 30) .nil .nil)))) (.node (o25_0 P) (.node (o41_0 P) (.node (o73_0 P) (.node (o137_0 P) .nil .nil) (.node (o201_0 P) .nil .nil)) (.node (o105_0 P) (.node (o169_0 P) .nil .nil) (.node (G 22) .nil .nil))) (.node (o57_0 P) (.node (o89_0 P) (.node (o153_0 P) .nil .nil) (.node (G 6) .nil .nil)) (.node (o121_0 P) (.node (o185_0 P) .nil .nil) (.node (G 38) .nil .nil))))) (.node (o13_0 P) (.node (o21_0 P) (.node (o37_0 P) (.node (o69_0 P) (.node (o133_0 P) .nil .nil) (.node (o197_0 P) .nil .nil)) (.node (o101_0 P) (.node (o165_0 P) .nil .nil) (.node (G 18) .nil .nil))) (.node (o53_0 P) (.node (o85_0 P) (.node (o149_0 P) .nil .nil) (.node (G 2) .nil .nil)) (.node (o117_0 P) (.node (o181_0 P) .nil .nil) (.node (G 34) .nil .nil)))) (.node (o29_4 P) (.node (o45_0 P) (.node (o77_0 P) (.node (o141_0 P) .nil .nil) (.node (o205_0 P) .nil .nil)) (.node (o109_0 P) (.node (o173_0 P) .nil .nil) (.node (G 26) .nil .nil))) (.node (o61_0 P) (.node (o93_0 P) (.node (o157_0 P) .nil .nil) (.node (G 10) .nil .nil)) (.node (o125_0 P) (.node (o189_0 P) .nil .nil) .nil)))))) (.node (o2_0 P) (.node (o4_0 P) (.node (o8_0 P) (.node (o16_0 P) (.node (o32_0 P) (.node (o64_0 P) (.node (o128_0 P) .nil .nil) (.node (o192_0 P) .nil .nil)) (.node (o96_0 P) (.node (o160_0 P) .nil .nil) (.node (G 13) .nil .nil))) (.node (o48_0 P) (.node (o80_0 P) (.node (o144_0 P) .nil .nil) (.node (o208_0 P) .nil .nil)) (.node (o112_0 P) (.node (o176_0 P) .nil .nil) (.node (G 29) .nil .nil)))) (.node (o24_0 P) (.node (o40_0 P) (.node (o72_0 P) (.node (o136_0 P) .nil .nil) (.node (o200_0 P) .nil .nil)) (.node (o104_0 P) (.node (o168_0 P) .nil .nil) (.node (G 21) .nil .nil))) (.node (o56_0 P) (.node (o88_0 P) (.node (o152_0 P) .nil .nil) (.node (G 5) .nil .nil)) (.node (o120_0 P) (.node (o184_0 P) .nil .nil) (.node (G 37) .nil .nil))))) (.node (o12_0 P) (.node (o20_0 P) (.node (o36_0 P) (.node (o68_0 P) (.node (o132_0 P) .nil .nil) (.node (o196_0 P) .nil .nil)) (.node (o100_0 P) (.node (o164_0 P) .nil .nil) (.node (G 17) .nil .nil))) (.node (o52_0 P) (.node (o84_0 P) (.node (o148_0 P) .nil .nil) (.node (G 1) .nil .nil)) (.node (o116_0 P) (.node (o180_0 P) .nil .nil) (.node (G 33) .nil .nil)))) (.node (o28_0 P) (.node (o44_0 P) (.node (o76_0 P) (.node (o140_0 P) .nil .nil) (.node (o204_0 P) .nil .nil)) (.node (o108_0 P) (.node (o172_0 P) .nil .nil) (.node (G 25) .nil .nil))) (.node (o60_0 P) (.node (o92_0 P) (.node (o156_0 P) .nil .nil) (.node (G 9) .nil .nil)) (.node (o124_0 P) (.node (o188_0 P) .nil .nil) .nil))))) (.node (o6_0 P) (.node (o10_0 P) (.node (o18_0 P) (.node (o34_0 P) (.node (o66_0 P) (.node (o130_0 P) .nil .nil) (.node (o194_0 P) .nil .nil)) (.node (o98_0 P) (.node (o162_0 P) .nil .nil) (.node (G 15) .nil .nil))) (.node (o50_0 P) (.node (o82_0 P) (.node (o146_0 P) .nil .nil) (.node (o210_0 P) .nil .nil)) (.node (o114_0 P) (.node (o178_0 P) .nil .nil) (.node (G 31) .nil .nil)))) (.node (o26_0 P) (.node (o42_0 P) (.node (o74_0 P) (.node (o138_0 P) .nil .nil) (.node (o202_0 P) .nil .nil)) (.node (o106_0 P) (.node (o170_0 P) .nil .nil) (.node (G 23) .nil .nil))) (.node (o58_0 P) (.node (o90_0 P) (.node (o154_0 P) .nil .nil) (.node (G 7) .nil .nil)) (.node (o122_0 P) (.node (o186_0 P) .nil .nil) .nil)))) (.node (o14_0 P) (.node (o22_0 P) (.node (o38_0 P) (.node (o70_0 P) (.node (o134_0 P) .nil .nil) (.node (o198_0 P) .nil .nil)) (.node (o102_0 P) (.node (o166_0 P) .nil .nil) (.node (G 19) .nil .nil))) (.node (o54_0 P) (.node (o86_0 P) (.node (o150_0 P) .nil .nil) (.node (G 3) .nil .nil)) (.node (o118_0 P) (.node (o182_0 P) .nil .nil) (.node (G 35) .nil .nil)))) (.node (o30_0 P) (.node (o46_0 P) (.node (o78_0 P) (.node (o142_0 P) .nil .nil) (.node (o206_0 P) .nil .nil)) (.node (o110_0 P) (.node (o174_0 P) .nil .nil) (.node (G 27) .nil .nil))) (.node (o62_0 P) (.node (o94_0 P) (.node (o158_0 P) .nil .nil) (.node (G 11) .nil .nil)) (.node (o126_0 P) (.node (o190_0 P) .nil .nil) .nil)))))))
def n13 : Nat := 250
def k13 : Nat := 2596
def st13 : Nat := 12524
def p13 : PySem.Pos := ⟨88, 0, 88, 13⟩
noncomputable def o3_15 (P : Params) : Obj := ⟨(.type "dict"), none, .dict (List.toArray [(ke P (s "__name__") 165 (.str (s "cpy313.stringprep") 576)), (ke P (s "__doc__") 166 .none), (ke P (s "__package__") 167 .none), (ke P (s "__loader__") 168 (.builtin "__main__.__loader__#opaque")), (ke P (s "__spec__") 169 .none), (ke P (s "__annotations__") 170 (.ref 6)), (ke P (s "__builtins__") 171 (.ref 4)), (ke P (s "__file__") 173 (.str (s "/claim/cut.py") 172)), (ke P (s "__cached__") 174 .none), (ke P (s "_sre") 275 (.ref 12)), (ke P (s "_wall") 288 (.ref 38)), (ke P (s "_name_disallowed_re") 316 (.ref 43)), (ke P (s "_value_disallowed_re") 350 (.ref 48)), (ke P (s "Headers") 506 (.ref 171)), (ke P (s "_twin_re_1") 524 (.ref 180)), (ke P (s "_twin_re_2") 566 (.ref 185)), (ke P (s "CRLF") 568 (.str (s "\x0d\n") 567)), (ke P (s "quotedata") 575 (.ref 192)), (ke P (s "b1_set") 637 (.ref 200)), (ke P (s "in_table_b1") 644 (.ref 210)), (ke P (s "b3_exceptions") 2595 (.ref 211)), (ke P (s "map_table_b3") 2603 (.ref 256))]) 22, (List.toArray [])⟩
noncomputable def o29_5 (P : Params) : Obj := ⟨.none, none, .fields (List.toArray [(.int 2 0), (.int 0 0), (.ref 37), (.int 8 0), (.int 0 0), (.ref 54), (.int 82 0), (.int 0 0), (.ref 191), (.int 86 0), (.int 0 0), (.ref 209), (.int 89 0), (.int 0 0), (.ref 255)]), (List.toArray [])⟩
noncomputable def o250_0 (P : Params) : Obj := ⟨(.type "tuple"), none, .seq (List.toArray []) 0, (List.toArray [])⟩
noncomputable def o251_0 (P : Params) : Obj := ⟨.none, none, .fields (List.toArray []), (List.toArray [])⟩
noncomputable def o252_0 (P : Params) : Obj := ⟨(.type "tuple"), none, .seq (List.toArray [(.str (s "code") 2599), (.str (s "r") 2600)]) 0, (List.toArray [])⟩
noncomputable def o253_0 (P : Params) : Obj := ⟨(.type "tuple"), none, .seq (List.toArray []) 0, (List.toArray [])⟩
noncomputable def o254_0 (P : Params) : Obj := ⟨.none, none, .func ⟨(s "map_table_b3"), (s "map_table_b3"), fArgs (bd 15), .stmts (fBody (bd 15)), fScope (bd 15), 0, [], .none, .none, .none, .none, none, .none, .none, 0⟩, (List.toArray [])⟩
noncomputable def o255_0 (P : Params) : Obj := ⟨(.type "code"), none, .fields (List.toArray [(.str (s "map_table_b3") 2596), (.str (s "map_table_b3") 2597), (.str (s "/claim/cut.py") 2598), (.int 89 0), (.int 1 0), (.int 0 0), (.int 0 0), (.int 3 0), (.ref 250), (.bool true), (.int 276 0), (.ref 251), .none, (.ref 252), (.ref 253), (.ref 254), (.int 2601 0), (.int 89 0), (.str (s "/claim/cut.py") 2602)]), (List.toArray [])⟩
noncomputable def o256_0 (P : Params) : Obj := ⟨(.type "function"), none, .func ⟨(s "map_table_b3"), (s "map_table_b3"), fArgs (bd 15), .stmts (fBody (bd 15)), fScope (bd 15), 3, [], .none, .none, .none, (.str (s "cpy313.stringprep") 576), none, (.ref 255), .none, 0⟩, (List.toArray [])⟩
noncomputable def T14 (P : Params) (G : Nat → Obj) : BT := (.node (o0_0 P) (.node (o1_0 P) (.node (o3_15 P) (.node (o7_0 P) (.node (o15_0 P) (.node (o31_0 P) (.node (o63_0 P) (.node (o127_0 P) (.node (o255_0 P) .nil .nil) .nil) (.node (o191_0 P) .nil .nil)) (.node (o95_0 P) (.node (o159_0 P) .nil .nil) (.node (G 12) .nil .nil))) (.node (o47_0 P) (.node (o79_0 P) (.node (o143_0 P) .nil .nil) (.node (o207_0 P) .nil .nil)) (.node (o111_0 P) (.node (o175_0 P) .nil .nil) (.node (G 28) .nil .nil)))) (.node (o23_0 P) (.node (o39_0 P) (.node (o71_0 P) (.node (o135_0 P) .nil .nil) (.node (o199_0 P) .nil .nil)) (.node (o103_0 P) (.node (o167_0 P) .nil .nil) (.node (G 20) .nil .nil))) (.node (o55_0 P) (.node (o87_0 P) (.node (o151_0 P) .nil .nil) (.node (G 4) .nil .nil)) (.node (o119_0 P) (.node (o183_0 P) .nil .nil) (.node (G 36) .nil .nil))))) (.node (o11_0 P) (.node (o19_0 P) (.node (o35_0 P) (.node (o67_0 P) (.node (o131_0 P) .nil .nil) (.node (o195_0 P) .nil .nil)) (.node (o99_0 P) (.node (o163_0 P) .nil .nil) (.node (G 16) .nil .nil))) (.node (o51_0 P) (.node (o83_0 P) (.node (o147_0 P) .nil .nil) (.node (G 0) .nil .nil)) (.node (o115_0 P) (.node (o179_0 P) .nil .nil) (.node (G 32) .nil .nil)))) (.node (o27_0 P) (.node (o43_0 P) (.node (o75_0 P) (.node (o139_0 P) .nil .nil) (.node (o203_0 P) .nil .nil)) (.node (o107_0 P) (.node (o171_0 P) .nil .nil) (.node (G 24) .nil .nil))) (.node (o59_0 P) (.node (o91_0 P) (.node (o155_0 P) .nil .nil) (.node (G 8) .nil .nil)) (.node (o123_0 P) (.node (o187_0 P) .nil .nil) (.node (o251_0 P) .nil .nil)))))) (.node (o5_0 P) (.node (o9_0 P) (.node (o17_0 P) (.node (o33_0 P) (.node (o65_0 P) (.node (o129_0 P) .nil .nil) (.node (o193_0 P) .nil .nil)) (.node (o97_0 P) (.node (o161_0 P) .nil .nil) (.node (G 14) .nil .nil))) (.node (o49_0 P) (.node (o81_0 P) (.node (o145_0 P) .nil .nil) (.node (o209_0 P) .nil .nil)) (.node (o113_0 P) (.node (o177_0 P) .nil .nil) (.node (G 30) .nil .nil)))) (.node (o25_0 P) (.node (o41_0 P) (.node (o73_0 P) (.node (o137_0 P) .nil .nil) (.node (o201_0 P) .nil .nil)) (.node (o105_0 P) (.node (o169_0 P) .nil .nil) (.node (G 22) .nil .nil))) (.node (o57_0 P) (.node (o89_0 P) (.node (o153_0 P) .nil .nil) (.node (G 6) .nil .nil)) (.node (o121_0 P) (.node (o185_0 P) .nil .nil) (.node (G 38) .nil .nil))))) (.node (o13_0 P) (.node (o21_0 P) (.node (o37_0 P) (.node (o69_0 P) (.node (o133_0 P) .nil .nil) (.node (o197_0 P) .nil .nil)) (.node (o101_0 P) (.node (o165_0 P) .nil .nil) (.node (G 18) .nil .nil))) (.node (o53_0 P) (.node (o85_0 P) (.node (o149_0 P) .nil .nil) (.node (G 2) .nil .nil)) (.node (o117_0 P) (.node (o181_0 P) .nil .nil) (.node (G 34) .nil .nil)))) (.node (o29_5 P) (.node (o45_0 P) (.node (o77_0 P) (.node (o141_0 P) .nil .nil) (.node (o205_0 P) .nil .nil)) (.node (o109_0 P) (.node (o173_0 P) .nil .nil) (.node (G 26) .nil .nil))) (.node (o61_0 P) (.node (o93_0 P) (.node (o157_0 P) .nil .nil) (.node (G 10) .nil .nil)) (.node (o125_0 P) (.node (o189_0 P) .nil .nil) (.node (o253_0 P) .nil .nil))))))) (.node (o2_0 P) (.node (o4_0 P) (.node (o8_0 P) (.node (o16_0 P) (.node (o32_0 P) (.node (o64_0 P) (.node (o128_0 P) (.node (o256_0 P) .nil .nil) .nil) (.node (o192_0 P) .nil .nil)) (.node (o96_0 P) (.node (o160_0 P) .nil .nil) (.node (G 13) .nil .nil))) (.node (o48_0 P) (.node (o80_0 P) (.node (o144_0 P) .nil .nil) (.node (o208_0 P) .nil .nil)) (.node (o112_0 P) (.node (o176_0 P) .nil .nil) (.node (G 29) .nil .nil)))) (.node (o24_0 P) (.node (o40_0 P) (.node (o72_0 P) (.node (o136_0 P) .nil .nil) (.node (o200_0 P) .nil .nil)) (.node (o104_0 P) (.node (o168_0 P) .nil .nil) (.node (G 21) .nil .nil))) (.node (o56_0 P) (.node (o88_0 P) (.node (o152_0 P) .nil .nil) (.node (G 5) .nil .nil)) (.node (o120_0 P) (.node (o184_0 P) .nil .nil) (.node (G 37) .nil .nil))))) (.node (o12_0 P) (.node (o20_0 P) (.node (o36_0 P) (.node (o68_0 P) (.node (o132_0 P) .nil .nil) (.node (o196_0 P) .nil .nil)) (.node (o100_0 P) (.node (o164_0 P) .nil .nil) (.node (G 17) .nil .nil))) (.node (o52_0 P) (.node (o84_0 P) (.node (o148_0 P) .nil .nil) (.node (G 1) .nil .nil)) (.node (o116_0 P) (.node (o180_0 P) .nil .nil) (.node (G 33) .nil .nil)))) (.node (o28_0 P) (.node (o44_0 P) (.node (o76_0 P) (.node (o140_0 P) .nil .nil) (.node (o204_0 P) .nil .nil)) (.node (o108_0 P) (.node (o172_0 P) .nil .nil) (.node (G 25) .nil .nil))) (.node (o60_0 P) (.node (o92_0 P) (.node (o156_0 P) .nil .nil) (.node (G 9) .nil .nil)) (.node (o124_0 P) (.node (o188_0 P) .nil .nil) (.node (o252_0 P) .nil .nil)))))) (.node (o6_0 P) (.node (o10_0 P) (.node (o18_0 P) (.node (o34_0 P) (.node (o66_0 P) (.node (o130_0 P) .nil .nil) (.node (o194_0 P) .nil .nil)) (.node (o98_0 P) (.node (o162_0 P) .nil .nil) (.node (G 15) .nil .nil))) (.node (o50_0 P) (.node (o82_0 P) (.node (o146_0 P) .nil .nil) (.node (o210_0 P) .nil .nil)) (.node (o114_0 P) (.node (o178_0 P) .nil .nil) (.node (G 31) .nil .nil)))) (.node (o26_0 P) (.node (o42_0 P) (.node (o74_0 P) (.node (o138_0 P) .nil .nil) (.node (o202_0 P) .nil .nil)) (.node (o106_0 P) (.node (o170_0 P) .nil .nil) (.node (G 23) .nil .nil))) (.node (o58_0 P) (.node (o90_0 P) (.node (o154_0 P) .nil .nil) (.node (G 7) .nil .nil)) (.node (o122_0 P) (.node (o186_0 P) .nil .nil) (.node (o250_0 P) .nil .nil))))) (.node (o14_0 P) (.node (o22_0 P) (.node (o38_0 P) (.node (o70_0 P) (.node (o134_0 P) .nil .nil) (.node (o198_0 P) .nil .nil)) (.node (o102_0 P) (.node (o166_0 P) .nil .nil) (.node (G 19) .nil .nil))) (.node (o54_0 P) (.node (o86_0 P) (.node (o150_0 P) .nil .nil) (.node (G 3) .nil .nil)) (.node (o118_0 P) (.node (o182_0 P) .nil .nil) (.node (G 35) .nil .nil)))) (.node (o30_0 P) (.node (o46_0 P) (.node (o78_0 P) (.node (o142_0 P) .nil .nil) (.node (o206_0 P) .nil .nil)) (.node (o110_0 P) (.node (o174_0 P) .nil .nil) (.node (G 27) .nil .nil))) (.node (o62_0 P) (.node (o94_0 P) (.node (o158_0 P) .nil .nil) (.node (G 11) .nil .nil)) (.node (o126_0 P) (.node (o190_0 P) .nil .nil) (.node (o254_0 P) .nil .nil))))))))
def n14 : Nat := 257
def k14 : Nat := 2604
def st14 : Nat := 30
def p14 : PySem.Pos := ⟨89, 0, 93, 23⟩
noncomputable def o3_16 (P : Params) : Obj := ⟨(.type "dict"), none, .dict (List.toArray [(ke P (s "__name__") 165 (.str (s "law_re0177_02") 2604)), (ke P (s "__doc__") 166 .none), (ke P (s "__package__") 167 .none), (ke P (s "__loader__") 168 (.builtin "__main__.__loader__#opaque")), (ke P (s "__spec__") 169 .none), (ke P (s "__annotations__") 170 (.ref 6)), (ke P (s "__builtins__") 171 (.ref 4)), (ke P (s "__file__") 173 (.str (s "/claim/cut.py") 172)), (ke P (s "__cached__") 174 .none), (ke P (s "_sre") 275 (.ref 12)), (ke P (s "_wall") 288 (.ref 38)), (ke P (s "_name_disallowed_re") 316 (.ref 43)), (ke P (s "_value_disallowed_re") 350 (.ref 48)), (ke P (s "Headers") 506 (.ref 171)), (ke P (s "_twin_re_1") 524 (.ref 180)), (ke P (s "_twin_re_2") 566 (.ref 185)), (ke P (s "CRLF") 568 (.str (s "\x0d\n") 567)), (ke P (s "quotedata") 575 (.ref 192)), (ke P (s "b1_set") 637 (.ref 200)), (ke P (s "in_table_b1") 644 (.ref 210)), (ke P (s "b3_exceptions") 2595 (.ref 211)), (ke P (s "map_table_b3") 2603 (.ref 256))]) 22, (List.toArray [])⟩
noncomputable def T15 (P : Params) (G : Nat → Obj) : BT := (.node (o0_0 P) (.node (o1_0 P) (.node (o3_16 P) (.node (o7_0 P) (.node (o15_0 P) (.node (o31_0 P) (.node (o63_0 P) (.node (o127_0 P) (.node (o255_0 P) .nil .nil) .nil) (.node (o191_0 P) .nil .nil)) (.node (o95_0 P) (.node (o159_0 P) .nil .nil) (.node (G 12) .nil .nil))) (.node (o47_0 P) (.node (o79_0 P) (.node (o143_0 P) .nil .nil) (.node (o207_0 P) .nil .nil)) (.node (o111_0 P) (.node (o175_0 P) .nil .nil) (.node (G 28) .nil .nil)))) (.node (o23_0 P) (.node (o39_0 P) (.node (o71_0 P) (.node (o135_0 P) .nil .nil) (.node (o199_0 P) .nil .nil)) (.node (o103_0 P) (.node (o167_0 P) .nil .nil) (.node (G 20) .nil .nil))) (.node (o55_0 P) (.node (o87_0 P) (.node (o151_0 P) .nil .nil) (.node (G 4) .nil .nil)) (.node (o119_0 P) (.node (o183_0 P) .nil .nil) (.node (G 36) .nil .nil))))) (.node (o11_0 P) (.node (o19_0 P) (.node (o35_0 P) (.node (o67_0 P) (.node (o131_0 P) .nil .nil) (.node (o195_0 P) .nil .nil)) (.node (o99_0 P) (.node (o163_0 P) .nil .nil) (.node (G 16) .nil .nil))) (.node (o51_0 P) (.node (o83_0 P) (.node (o147_0 P) .nil .nil) (.node (G 0) .nil .nil)) (.node (o115_0 P) (.node (o179_0 P) .nil .nil) (.node (G 32) .nil .nil)))) (.node (o27_0 P) (.node (o43_0 P) (.node (o75_0 P) (.node (o139_0 P) .nil .nil) (.node (o203_0 P) .nil .nil)) (.node (o107_0 P) (.node (o171_0 P) .nil .nil) (.node (G 24) .nil .nil))) (.node (o59_0 P) (.node (o91_0 P) (.node (o155_0 P) .nil .nil) (.node (G 8) .nil .nil)) (.node (o123_0 P) (.node (o187_0 P) .nil .nil) (.node (o251_0 P) .nil .nil)))))) (.node (o5_0 P) (.node (o9_0 P) (.node (o17_0 P) (.node (o33_0 P) (.node (o65_0 P) (.node (o129_0 P) .nil .nil) (.node (o193_0 P) .nil .nil)) (.node (o97_0 P) (.node (o161_0 P) .nil .nil) (.node (G 14) .nil .nil))) (.node (o49_0 P) (.node (o81_0 P) (.node (o145_0 P) .nil .nil) (.node (o209_0 P) .nil .nil)) (.node (o113_0 P) (.node (o177_0 P) .nil .nil) (.node (G 30) .nil .nil)))) (.node (o25_0 P) (.node (o41_0 P) (.node (o73_0 P) (.node (o137_0 P) .nil .nil) (.node (o201_0 P) .nil .nil)) (.node (o105_0 P) (.node (o169_0 P) .nil .nil) (.node (G 22) .nil .nil))) (.node (o57_0 P) (.node (o89_0 P) (.node (o153_0 P) .nil .nil) (.node (G 6) .nil .nil)) (.node (o121_0 P) (.node (o185_0 P) .nil .nil) (.node (G 38) .nil .nil))))) (.node (o13_0 P) (.node (o21_0 P) (.node (o37_0 P) (.node (o69_0 P) (.node (o133_0 P) .nil .nil) (.node (o197_0 P) .nil .nil)) (.node (o101_0 P) (.node (o165_0 P) .nil .nil) (.node (G 18) .nil .nil))) (.node (o53_0 P) (.node (o85_0 P) (.node (o149_0 P) .nil .nil) (.node (G 2) .nil .nil)) (.node (o117_0 P) (.node (o181_0 P) .nil .nil) (.node (G 34) .nil .nil)))) (.node (o29_5 P) (.node (o45_0 P) (.node (o77_0 P) (.node (o141_0 P) .nil .nil) (.node (o205_0 P) .nil .nil)) (.node (o109_0 P) (.node (o173_0 P) .nil .nil) (.node (G 26) .nil .nil))) (.node (o61_0 P) (.node (o93_0 P) (.node (o157_0 P) .nil .nil) (.node (G 10) .nil .nil)) (.node (o125_0 P) (.node (o189_0 P) .nil .nil) (.node (o253_0 P) .nil .nil))))))) (.node (o2_0 P) (.node (o4_0 P) (.node (o8_0 P) (.node (o16_0 P) (.node (o32_0 P) (.node (o64_0 P) (.node (o128_0 P) (.node (o256_0 P) .nil .nil) .nil) (.node (o192_0 P) .nil .nil)) (.node (o96_0 P) (.node (o160_0 P) .nil .nil) (.node (G 13) .nil .nil))) (.node (o48_0 P) (.node (o80_0 P) (.node (o144_0 P) .nil .nil) (.node (o208_0 P) .nil .nil)) (.node (o112_0 P) (.node (o176_0 P) .nil .nil) (.node (G 29) .nil .nil)))) (.node (o24_0 P) (.node (o40_0 P) (.node (o72_0 P) (.node (o136_0 P) .nil .nil) (.node (o200_0 P) .nil .nil)) (.node (o104_0 P) (.node (o168_0 P) .nil .nil) (.node (G 21) .nil .nil))) (.node (o56_0 P) (.node (o88_0 P) (.node (o152_0 P) .nil .nil) (.node (G 5) .nil .nil)) (.node (o120_0 P) (.node (o184_0 P) .nil .nil) (.node (G 37) .nil .nil))))) (.node (o12_0 P) (.node (o20_0 P) (.node (o36_0 P) (.node (o68_0 P) (.node (o132_0 P) .nil .nil) (.node (o196_0 P) .nil .nil)) (.node (o100_0 P) (.node (o164_0 P) .nil .nil) (.node (G 17) .nil .nil))) (.node (o52_0 P) (.node (o84_0 P) (.node (o148_0 P) .nil .nil) (.node (G 1) .nil .nil)) (.node (o116_0 P) (.node (o180_0 P) .nil .nil) (.node (G 33) .nil .nil)))) (.node (o28_0 P) (.node (o44_0 P) (.node (o76_0 P) (.node (o140_0 P) .nil .nil) (.node (o204_0 P) .nil .nil)) (.node (o108_0 P) (.node (o172_0 P) .nil .nil) (.node (G 25) .nil .nil))) (.node (o60_0 P) (.node (o92_0 P) (.node (o156_0 P) .nil .nil) (.node (G 9) .nil .nil)) (.node (o124_0 P) (.node (o188_0 P) .nil .nil) (.node (o252_0 P) .nil .nil)))))) (.node (o6_0 P) (.node (o10_0 P) (.node (o18_0 P) (.node (o34_0 P) (.node (o66_0 P) (.node (o130_0 P) .nil .nil) (.node (o194_0 P) .nil .nil)) (.node (o98_0 P) (.node (o162_0 P) .nil .nil) (.node (G 15) .nil .nil))) (.node (o50_0 P) (.node (o82_0 P) (.node (o146_0 P) .nil .nil) (.node (o210_0 P) .nil .nil)) (.node (o114_0 P) (.node (o178_0 P) .nil .nil) (.node (G 31) .nil .nil)))) (.node (o26_0 P) (.node (o42_0 P) (.node (o74_0 P) (.node (o138_0 P) .nil .nil) (.node (o202_0 P) .nil .nil)) (.node (o106_0 P) (.node (o170_0 P) .nil .nil) (.node (G 23) .nil .nil))) (.node (o58_0 P) (.node (o90_0 P) (.node (o154_0 P) .nil .nil) (.node (G 7) .nil .nil)) (.node (o122_0 P) (.node (o186_0 P) .nil .nil) (.node (o250_0 P) .nil .nil))))) (.node (o14_0 P) (.node (o22_0 P) (.node (o38_0 P) (.node (o70_0 P) (.node (o134_0 P) .nil .nil) (.node (o198_0 P) .nil .nil)) (.node (o102_0 P) (.node (o166_0 P) .nil .nil) (.node (G 19) .nil .nil))) (.node (o54_0 P) (.node (o86_0 P) (.node (o150_0 P) .nil .nil) (.node (G 3) .nil .nil)) (.node (o118_0 P) (.node (o182_0 P) .nil .nil) (.node (G 35) .nil .nil)))) (.node (o30_0 P) (.node (o46_0 P) (.node (o78_0 P) (.node (o142_0 P) .nil .nil) (.node (o206_0 P) .nil .nil)) (.node (o110_0 P) (.node (o174_0 P) .nil .nil) (.node (G 27) .nil .nil))) (.node (o62_0 P) (.node (o94_0 P) (.node (o158_0 P) .nil .nil) (.node (G 11) .nil .nil)) (.node (o126_0 P) (.node (o190_0 P) .nil .nil) (.node (o254_0 P) .nil .nil))))))))
def n15 : Nat := 257
def k15 : Nat := 2606
def st15 : Nat := 9
def p15 : PySem.Pos := ⟨94, 0, 94, 8⟩
noncomputable def o3_17 (P : Params) : Obj := ⟨(.type "dict"), none, .dict (List.toArray [(ke P (s "__name__") 165 (.str (s "law_re0177_02") 2604)), (ke P (s "__doc__") 166 .none), (ke P (s "__package__") 167 .none), (ke P (s "__loader__") 168 (.builtin "__main__.__loader__#opaque")), (ke P (s "__spec__") 169 .none), (ke P (s "__annotations__") 170 (.ref 6)), (ke P (s "__builtins__") 171 (.ref 4)), (ke P (s "__file__") 173 (.str (s "/claim/cut.py") 172)), (ke P (s "__cached__") 174 .none), (ke P (s "_sre") 275 (.ref 12)), (ke P (s "_wall") 288 (.ref 38)), (ke P (s "_name_disallowed_re") 316 (.ref 43)), (ke P (s "_value_disallowed_re") 350 (.ref 48)), (ke P (s "Headers") 506 (.ref 171)), (ke P (s "_twin_re_1") 524 (.ref 180)), (ke P (s "_twin_re_2") 566 (.ref 185)), (ke P (s "CRLF") 568 (.str (s "\x0d\n") 567)), (ke P (s "quotedata") 575 (.ref 192)), (ke P (s "b1_set") 637 (.ref 200)), (ke P (s "in_table_b1") 644 (.ref 210)), (ke P (s "b3_exceptions") 2595 (.ref 211)), (ke P (s "map_table_b3") 2603 (.ref 256)), (ke P (s "_law_read") 2615 (.ref 263))]) 23, (List.toArray [])⟩
noncomputable def o29_6 (P : Params) : Obj := ⟨.none, none, .fields (List.toArray [(.int 2 0), (.int 0 0), (.ref 37), (.int 8 0), (.int 0 0), (.ref 54), (.int 82 0), (.int 0 0), (.ref 191), (.int 86 0), (.int 0 0), (.ref 209), (.int 89 0), (.int 0 0), (.ref 255), (.int 95 0), (.int 0 0), (.ref 262)]), (List.toArray [])⟩
noncomputable def o257_0 (P : Params) : Obj := ⟨(.type "tuple"), none, .seq (List.toArray []) 0, (List.toArray [])⟩
noncomputable def o258_0 (P : Params) : Obj := ⟨.none, none, .fields (List.toArray []), (List.toArray [])⟩
noncomputable def o259_0 (P : Params) : Obj := ⟨(.type "tuple"), none, .seq (List.toArray [(.str (s "text") 2609), (.str (s "clause") 2610), (.str (s "sign") 2611), (.str (s "letter") 2612)]) 0, (List.toArray [])⟩
noncomputable def o260_0 (P : Params) : Obj := ⟨(.type "tuple"), none, .seq (List.toArray []) 0, (List.toArray [])⟩
noncomputable def o261_0 (P : Params) : Obj := ⟨.none, none, .func ⟨(s "_law_read"), (s "_law_read"), fArgs (bd 17), .stmts (fBody (bd 17)), fScope (bd 17), 0, [], .none, .none, .none, .none, none, .none, .none, 0⟩, (List.toArray [])⟩
noncomputable def o262_0 (P : Params) : Obj := ⟨(.type "code"), none, .fields (List.toArray [(.str (s "_law_read") 2606), (.str (s "_law_read") 2607), (.str (s "/claim/cut.py") 2608), (.int 95 0), (.int 1 0), (.int 0 0), (.int 0 0), (.int 3 0), (.ref 257), (.bool true), (.int 276 0), (.ref 258), .none, (.ref 259), (.ref 260), (.ref 261), (.int 2613 0), (.int 95 0), (.str (s "/claim/cut.py") 2614)]), (List.toArray [])⟩
noncomputable def o263_0 (P : Params) : Obj := ⟨(.type "function"), none, .func ⟨(s "_law_read"), (s "_law_read"), fArgs (bd 17), .stmts (fBody (bd 17)), fScope (bd 17), 3, [], .none, .none, .none, (.str (s "law_re0177_02") 2604), none, (.ref 262), .none, 0⟩, (List.toArray [])⟩
noncomputable def T16 (P : Params) (G : Nat → Obj) : BT := (.node (o0_0 P) (.node (o1_0 P) (.node (o3_17 P) (.node (o7_0 P) (.node (o15_0 P) (.node (o31_0 P) (.node (o63_0 P) (.node (o127_0 P) (.node (o255_0 P) .nil .nil) .nil) (.node (o191_0 P) .nil .nil)) (.node (o95_0 P) (.node (o159_0 P) .nil .nil) (.node (G 12) .nil .nil))) (.node (o47_0 P) (.node (o79_0 P) (.node (o143_0 P) .nil .nil) (.node (o207_0 P) .nil .nil)) (.node (o111_0 P) (.node (o175_0 P) .nil .nil) (.node (G 28) .nil .nil)))) (.node (o23_0 P) (.node (o39_0 P) (.node (o71_0 P) (.node (o135_0 P) (.node (o263_0 P) .nil .nil) .nil) (.node (o199_0 P) .nil .nil)) (.node (o103_0 P) (.node (o167_0 P) .nil .nil) (.node (G 20) .nil .nil))) (.node (o55_0 P) (.node (o87_0 P) (.node (o151_0 P) .nil .nil) (.node (G 4) .nil .nil)) (.node (o119_0 P) (.node (o183_0 P) .nil .nil) (.node (G 36) .nil .nil))))) (.node (o11_0 P) (.node (o19_0 P) (.node (o35_0 P) (.node (o67_0 P) (.node (o131_0 P) (.node (o259_0 P) .nil .nil) .nil) (.node (o195_0 P) .nil .nil)) (.node (o99_0 P) (.node (o163_0 P) .nil .nil) (.node (G 16) .nil .nil))) (.node (o51_0 P) (.node (o83_0 P) (.node (o147_0 P) .nil .nil) (.node (G 0) .nil .nil)) (.node (o115_0 P) (.node (o179_0 P) .nil .nil) (.node (G 32) .nil .nil)))) (.node (o27_0 P) (.node (o43_0 P) (.node (o75_0 P) (.node (o139_0 P) .nil .nil) (.node (o203_0 P) .nil .nil)) (.node (o107_0 P) (.node (o171_0 P) .nil .nil) (.node (G 24) .nil .nil))) (.node (o59_0 P) (.node (o91_0 P) (.node (o155_0 P) .nil .nil) (.node (G 8) .nil .nil)) (.node (o123_0 P) (.node (o187_0 P) .nil .nil) (.node (o251_0 P) .nil .nil)))))) (.node (o5_0 P) (.node (o9_0 P) (.node (o17_0 P) (.node (o33_0 P) (.node (o65_0 P) (.node (o129_0 P) (.node (o257_0 P) .nil .nil) .nil) (.node (o193_0 P) .nil .nil)) (.node (o97_0 P) (.node (o161_0 P) .nil .nil) (.node (G 14) .nil .nil))) (.node (o49_0 P) (.node (o81_0 P) (.node (o145_0 P) .nil .nil) (.node (o209_0 P) .nil .nil)) (.node (o113_0 P) (.node (o177_0 P) .nil .nil) (.node (G 30) .nil .nil)))) (.node (o25_0 P) (.node (o41_0 P) (.node (o73_0 P) (.node (o137_0 P) .nil .nil) (.node (o201_0 P) .nil .nil)) (.node (o105_0 P) (.node (o169_0 P) .nil .nil) (.node (G 22) .nil .nil))) (.node (o57_0 P) (.node (o89_0 P) (.node (o153_0 P) .nil .nil) (.node (G 6) .nil .nil)) (.node (o121_0 P) (.node (o185_0 P) .nil .nil) (.node (G 38) .nil .nil))))) (.node (o13_0 P) (.node (o21_0 P) (.node (o37_0 P) (.node (o69_0 P) (.node (o133_0 P) (.node (o261_0 P) .nil .nil) .nil) (.node (o197_0 P) .nil .nil)) (.node (o101_0 P) (.node (o165_0 P) .nil .nil) (.node (G 18) .nil .nil))) (.node (o53_0 P) (.node (o85_0 P) (.node (o149_0 P) .nil .nil) (.node (G 2) .nil .nil)) (.node (o117_0 P) (.node (o181_0 P) .nil .nil) (.node (G 34) .nil .nil)))) (.node (o29_6 P) (.node (o45_0 P) (.node (o77_0 P) (.node (o141_0 P) .nil .nil) (.node (o205_0 P) .nil .nil)) (.node (o109_0 P) (.node (o173_0 P) .nil .nil) (.node (G 26) .nil .nil))) (.node (o61_0 P) (.node (o93_0 P) (.node (o157_0 P) .nil .nil) (.node (G 10) .nil .nil)) (.node (o125_0 P) (.node (o189_0 P) .nil .nil) (.node (o253_0 P) .nil .nil))))))) (.node (o2_0 P) (.node (o4_0 P) (.node (o8_0 P) (.node (o16_0 P) (.node (o32_0 P) (.node (o64_0 P) (.node (o128_0 P) (.node (o256_0 P) .nil .nil) .nil) (.node (o192_0 P) .nil .nil)) (.node (o96_0 P) (.node (o160_0 P) .nil .nil) (.node (G 13) .nil .nil))) (.node (o48_0 P) (.node (o80_0 P) (.node (o144_0 P) .nil .nil) (.node (o208_0 P) .nil .nil)) (.node (o112_0 P) (.node (o176_0 P) .nil .nil) (.node (G 29) .nil .nil)))) (.node (o24_0 P) (.node (o40_0 P) (.node (o72_0 P) (.node (o136_0 P) .nil .nil) (.node (o200_0 P) .nil .nil)) (.node (o104_0 P) (.node (o168_0 P) .nil .nil) (.node (G 21) .nil .nil))) (.node (o56_0 P) (.node (o88_0 P) (.node (o152_0 P) .nil .nil) (.node (G 5) .nil .nil)) (.node (o120_0 P) (.node (o184_0 P) .nil .nil) (.node (G 37) .nil .nil))))) (.node (o12_0 P) (.node (o20_0 P) (.node (o36_0 P) (.node (o68_0 P) (.node (o132_0 P) (.node (o260_0 P) .nil .nil) .nil) (.node (o196_0 P) .nil .nil)) (.node (o100_0 P) (.node (o164_0 P) .nil .nil) (.node (G 17) .nil .nil))) (.node (o52_0 P) (.node (o84_0 P) (.node (o148_0 P) .nil .nil) (.node (G 1) .nil .nil)) (.node (o116_0 P) (.node (o180_0 P) .nil .nil) (.node (G 33) .nil .nil)))) (.node (o28_0 P) (.node (o44_0 P) (.node (o76_0 P) (.node (o140_0 P) .nil .nil) (.node (o204_0 P) .nil .nil)) (.node (o108_0 P) (.node (o172_0 P) .nil .nil) (.node (G 25) .nil .nil))) (.node (o60_0 P) (.node (o92_0 P) (.node (o156_0 P) .nil .nil) (.node (G 9) .nil .nil)) (.node (o124_0 P) (.node (o188_0 P) .nil .nil) (.node (o252_0 P) .nil .nil)))))) (.node (o6_0 P) (.node (o10_0 P) (.node (o18_0 P) (.node (o34_0 P) (.node (o66_0 P) (.node (o130_0 P) (.node (o258_0 P) .nil .nil) .nil) (.node (o194_0 P) .nil .nil)) (.node (o98_0 P) (.node (o162_0 P) .nil .nil) (.node (G 15) .nil .nil))) (.node (o50_0 P) (.node (o82_0 P) (.node (o146_0 P) .nil .nil) (.node (o210_0 P) .nil .nil)) (.node (o114_0 P) (.node (o178_0 P) .nil .nil) (.node (G 31) .nil .nil)))) (.node (o26_0 P) (.node (o42_0 P) (.node (o74_0 P) (.node (o138_0 P) .nil .nil) (.node (o202_0 P) .nil .nil)) (.node (o106_0 P) (.node (o170_0 P) .nil .nil) (.node (G 23) .nil .nil))) (.node (o58_0 P) (.node (o90_0 P) (.node (o154_0 P) .nil .nil) (.node (G 7) .nil .nil)) (.node (o122_0 P) (.node (o186_0 P) .nil .nil) (.node (o250_0 P) .nil .nil))))) (.node (o14_0 P) (.node (o22_0 P) (.node (o38_0 P) (.node (o70_0 P) (.node (o134_0 P) (.node (o262_0 P) .nil .nil) .nil) (.node (o198_0 P) .nil .nil)) (.node (o102_0 P) (.node (o166_0 P) .nil .nil) (.node (G 19) .nil .nil))) (.node (o54_0 P) (.node (o86_0 P) (.node (o150_0 P) .nil .nil) (.node (G 3) .nil .nil)) (.node (o118_0 P) (.node (o182_0 P) .nil .nil) (.node (G 35) .nil .nil)))) (.node (o30_0 P) (.node (o46_0 P) (.node (o78_0 P) (.node (o142_0 P) .nil .nil) (.node (o206_0 P) .nil .nil)) (.node (o110_0 P) (.node (o174_0 P) .nil .nil) (.node (G 27) .nil .nil))) (.node (o62_0 P) (.node (o94_0 P) (.node (o158_0 P) .nil .nil) (.node (G 11) .nil .nil)) (.node (o126_0 P) (.node (o190_0 P) .nil .nil) (.node (o254_0 P) .nil .nil))))))))
def n16 : Nat := 264
def k16 : Nat := 2616
def st16 : Nat := 32
def p16 : PySem.Pos := ⟨95, 0, 101, 17⟩
noncomputable def o3_18 (P : Params) : Obj := ⟨(.type "dict"), none, .dict (List.toArray [(ke P (s "__name__") 165 (.str (s "law_re0177_02") 2604)), (ke P (s "__doc__") 166 .none), (ke P (s "__package__") 167 .none), (ke P (s "__loader__") 168 (.builtin "__main__.__loader__#opaque")), (ke P (s "__spec__") 169 .none), (ke P (s "__annotations__") 170 (.ref 6)), (ke P (s "__builtins__") 171 (.ref 4)), (ke P (s "__file__") 173 (.str (s "/claim/cut.py") 172)), (ke P (s "__cached__") 174 .none), (ke P (s "_sre") 275 (.ref 12)), (ke P (s "_wall") 288 (.ref 38)), (ke P (s "_name_disallowed_re") 316 (.ref 43)), (ke P (s "_value_disallowed_re") 350 (.ref 48)), (ke P (s "Headers") 506 (.ref 171)), (ke P (s "_twin_re_1") 524 (.ref 180)), (ke P (s "_twin_re_2") 566 (.ref 185)), (ke P (s "CRLF") 568 (.str (s "\x0d\n") 567)), (ke P (s "quotedata") 575 (.ref 192)), (ke P (s "b1_set") 637 (.ref 200)), (ke P (s "in_table_b1") 644 (.ref 210)), (ke P (s "b3_exceptions") 2595 (.ref 211)), (ke P (s "map_table_b3") 2603 (.ref 256)), (ke P (s "_law_read") 2615 (.ref 263)), (ke P (s "_law_joined") 2621 (.ref 268))]) 24, (List.toArray [])⟩
noncomputable def o29_7 (P : Params) : Obj := ⟨.none, none, .fields (List.toArray [(.int 2 0), (.int 0 0), (.ref 37), (.int 8 0), (.int 0 0), (.ref 54), (.int 82 0), (.int 0 0), (.ref 191), (.int 86 0), (.int 0 0), (.ref 209), (.int 89 0), (.int 0 0), (.ref 255), (.int 95 0), (.int 0 0), (.ref 262), (.int 102 0), (.int 0 0), (.ref 267)]), (List.toArray [])⟩
noncomputable def o264_0 (P : Params) : Obj := ⟨(.type "tuple"), none, .seq (List.toArray []) 0, (List.toArray [])⟩
noncomputable def o265_0 (P : Params) : Obj := ⟨.none, none, .fields (List.toArray []), (List.toArray [])⟩
noncomputable def o266_0 (P : Params) : Obj := ⟨.none, none, .func ⟨(s "_law_joined"), (s "_law_joined"), fArgs (bd 18), .stmts (fBody (bd 18)), fScope (bd 18), 0, [], .none, .none, .none, .none, none, .none, .none, 0⟩, (List.toArray [])⟩
noncomputable def o267_0 (P : Params) : Obj := ⟨(.type "code"), none, .fields (List.toArray [(.str (s "_law_joined") 2616), (.str (s "_law_joined") 2617), (.str (s "/claim/cut.py") 2618), (.int 102 0), (.int 3 0), (.int 0 0), (.int 0 0), (.int 3 0), (.ref 264), (.bool true), (.int 276 0), (.ref 265), .none, .none, .none, (.ref 266), (.int 2619 0), (.int 102 0), (.str (s "/claim/cut.py") 2620)]), (List.toArray [])⟩
noncomputable def o268_0 (P : Params) : Obj := ⟨(.type "function"), none, .func ⟨(s "_law_joined"), (s "_law_joined"), fArgs (bd 18), .stmts (fBody (bd 18)), fScope (bd 18), 3, [], .none, .none, .none, (.str (s "law_re0177_02") 2604), none, (.ref 267), .none, 0⟩, (List.toArray [])⟩
noncomputable def T17 (P : Params) (G : Nat → Obj) : BT := (.node (o0_0 P) (.node (o1_0 P) (.node (o3_18 P) (.node (o7_0 P) (.node (o15_0 P) (.node (o31_0 P) (.node (o63_0 P) (.node (o127_0 P) (.node (o255_0 P) .nil .nil) .nil) (.node (o191_0 P) .nil .nil)) (.node (o95_0 P) (.node (o159_0 P) .nil .nil) (.node (G 12) .nil .nil))) (.node (o47_0 P) (.node (o79_0 P) (.node (o143_0 P) .nil .nil) (.node (o207_0 P) .nil .nil)) (.node (o111_0 P) (.node (o175_0 P) .nil .nil) (.node (G 28) .nil .nil)))) (.node (o23_0 P) (.node (o39_0 P) (.node (o71_0 P) (.node (o135_0 P) (.node (o263_0 P) .nil .nil) .nil) (.node (o199_0 P) .nil .nil)) (.node (o103_0 P) (.node (o167_0 P) .nil .nil) (.node (G 20) .nil .nil))) (.node (o55_0 P) (.node (o87_0 P) (.node (o151_0 P) .nil .nil) (.node (G 4) .nil .nil)) (.node (o119_0 P) (.node (o183_0 P) .nil .nil) (.node (G 36) .nil .nil))))) (.node (o11_0 P) (.node (o19_0 P) (.node (o35_0 P) (.node (o67_0 P) (.node (o131_0 P) (.node (o259_0 P) .nil .nil) .nil) (.node (o195_0 P) .nil .nil)) (.node (o99_0 P) (.node (o163_0 P) .nil .nil) (.node (G 16) .nil .nil))) (.node (o51_0 P) (.node (o83_0 P) (.node (o147_0 P) .nil .nil) (.node (G 0) .nil .nil)) (.node (o115_0 P) (.node (o179_0 P) .nil .nil) (.node (G 32) .nil .nil)))) (.node (o27_0 P) (.node (o43_0 P) (.node (o75_0 P) (.node (o139_0 P) (.node (o267_0 P) .nil .nil) .nil) (.node (o203_0 P) .nil .nil)) (.node (o107_0 P) (.node (o171_0 P) .nil .nil) (.node (G 24) .nil .nil))) (.node (o59_0 P) (.node (o91_0 P) (.node (o155_0 P) .nil .nil) (.node (G 8) .nil .nil)) (.node (o123_0 P) (.node (o187_0 P) .nil .nil) (.node (o251_0 P) .nil .nil)))))) (.node (o5_0 P) (.node (o9_0 P) (.node (o17_0 P) (.node (o33_0 P) (.node (o65_0 P) (.node (o129_0 P) (.node (o257_0 P) .nil .nil) .nil) (.node (o193_0 P) .nil .nil)) (.node (o97_0 P) (.node (o161_0 P) .nil .nil) (.node (G 14) .nil .nil))) (.node (o49_0 P) (.node (o81_0 P) (.node (o145_0 P) .nil .nil) (.node (o209_0 P) .nil .nil)) (.node (o113_0 P) (.node (o177_0 P) .nil .nil) (.node (G 30) .nil .nil)))) (.node (o25_0 P) (.node (o41_0 P) (.node (o73_0 P) (.node (o137_0 P) (.node (o265_0 P) .nil .nil) .nil) (.node (o201_0 P) .nil .nil)) (.node (o105_0 P) (.node (o169_0 P) .nil .nil) (.node (G 22) .nil .nil))) (.node (o57_0 P) (.node (o89_0 P) (.node (o153_0 P) .nil .nil) (.node (G 6) .nil .nil)) (.node (o121_0 P) (.node (o185_0 P) .nil .nil) (.node (G 38) .nil .nil))))) (.node (o13_0 P) (.node (o21_0 P) (.node (o37_0 P) (.node (o69_0 P) (.node (o133_0 P) (.node (o261_0 P) .nil .nil) .nil) (.node (o197_0 P) .nil .nil)) (.node (o101_0 P) (.node (o165_0 P) .nil .nil) (.node (G 18) .nil .nil))) (.node (o53_0 P) (.node (o85_0 P) (.node (o149_0 P) .nil .nil) (.node (G 2) .nil .nil)) (.node (o117_0 P) (.node (o181_0 P) .nil .nil) (.node (G 34) .nil .nil)))) (.node (o29_7 P) (.node (o45_0 P) (.node (o77_0 P) (.node (o141_0 P) .nil .nil) (.node (o205_0 P) .nil .nil)) (.node (o109_0 P) (.node (o173_0 P) .nil .nil) (.node (G 26) .nil .nil))) (.node (o61_0 P) (.node (o93_0 P) (.node (o157_0 P) .nil .nil) (.node (G 10) .nil .nil)) (.node (o125_0 P) (.node (o189_0 P) .nil .nil) (.node (o253_0 P) .nil .nil))))))) (.node (o2_0 P) (.node (o4_0 P) (.node (o8_0 P) (.node (o16_0 P) (.node (o32_0 P) (.node (o64_0 P) (.node (o128_0 P) (.node (o256_0 P) .nil .nil) .nil) (.node (o192_0 P) .nil .nil)) (.node (o96_0 P) (.node (o160_0 P) .nil .nil) (.node (G 13) .nil .nil))) (.node (o48_0 P) (.node (o80_0 P) (.node (o144_0 P) .nil .nil) (.node (o208_0 P) .nil .nil)) (.node (o112_0 P) (.node (o176_0 P) .nil .nil) (.node (G 29) .nil .nil)))) (.node (o24_0 P) (.node (o40_0 P) (.node (o72_0 P) (.node (o136_0 P) (.node (o264_0 P) .nil .nil) .nil) (.node (o200_0 P) .nil .nil)) (.node (o104_0 P) (.node (o168_0 P) .nil .nil) (.node (G 21) .nil .nil))) (.node (o56_0 P) (.node (o88_0 P) (.node (o152_0 P) .nil .nil) (.node (G 5) .nil .nil)) (.node (o120_0 P) (.node (o184_0 P) .nil .nil) (.node (G 37) .nil .nil))))) (.node (o12_0 P) (.node (o20_0 P) (.node (o36_0 P) (.node (o68_0 P) (.node (o132_0 P) (.node (o260_0 P) .nil .nil) .nil) (.node (o196_0 P) .nil .nil)) (.node (o100_0 P) (.node (o164_0 P) .nil .nil) (.node (G 17) .nil .nil))) (.node (o52_0 P) (.node (o84_0 P) (.node (o148_0 P) .nil .nil) (.node (G 1) .nil .nil)) (.node (o116_0 P) (.node (o180_0 P) .nil .nil) (.node (G 33) .nil .nil)))) (.node (o28_0 P) (.node (o44_0 P) (.node (o76_0 P) (.node (o140_0 P) (.node (o268_0 P) .nil .nil) .nil) (.node (o204_0 P) .nil .nil)) (.node (o108_0 P) (.node (o172_0 P) .nil .nil) (.node (G 25) .nil .nil))) (.node (o60_0 P) (.node (o92_0 P) (.node (o156_0 P) .nil .nil) (.node (G 9) .nil .nil)) (.node (o124_0 P) (.node (o188_0 P) .nil .nil) (.node (o252_0 P) .nil .nil)))))) (.node (o6_0 P) (.node (o10_0 P) (.node (o18_0 P) (.node (o34_0 P) (.node (o66_0 P) (.node (o130_0 P) (.node (o258_0 P) .nil .nil) .nil) (.node (o194_0 P) .nil .nil)) (.node (o98_0 P) (.node (o162_0 P) .nil .nil) (.node (G 15) .nil .nil))) (.node (o50_0 P) (.node (o82_0 P) (.node (o146_0 P) .nil .nil) (.node (o210_0 P) .nil .nil)) (.node (o114_0 P) (.node (o178_0 P) .nil .nil) (.node (G 31) .nil .nil)))) (.node (o26_0 P) (.node (o42_0 P) (.node (o74_0 P) (.node (o138_0 P) (.node (o266_0 P) .nil .nil) .nil) (.node (o202_0 P) .nil .nil)) (.node (o106_0 P) (.node (o170_0 P) .nil .nil) (.node (G 23) .nil .nil))) (.node (o58_0 P) (.node (o90_0 P) (.node (o154_0 P) .nil .nil) (.node (G 7) .nil .nil)) (.node (o122_0 P) (.node (o186_0 P) .nil .nil) (.node (o250_0 P) .nil .nil))))) (.node (o14_0 P) (.node (o22_0 P) (.node (o38_0 P) (.node (o70_0 P) (.node (o134_0 P) (.node (o262_0 P) .nil .nil) .nil) (.node (o198_0 P) .nil .nil)) (.node (o102_0 P) (.node (o166_0 P) .nil .nil) (.node (G 19) .nil .nil))) (.node (o54_0 P) (.node (o86_0 P) (.node (o150_0 P) .nil .nil) (.node (G 3) .nil .nil)) (.node (o118_0 P) (.node (o182_0 P) .nil .nil) (.node (G 35) .nil .nil)))) (.node (o30_0 P) (.node (o46_0 P) (.node (o78_0 P) (.node (o142_0 P) .nil .nil) (.node (o206_0 P) .nil .nil)) (.node (o110_0 P) (.node (o174_0 P) .nil .nil) (.node (G 27) .nil .nil))) (.node (o62_0 P) (.node (o94_0 P) (.node (o158_0 P) .nil .nil) (.node (G 11) .nil .nil)) (.node (o126_0 P) (.node (o190_0 P) .nil .nil) (.node (o254_0 P) .nil .nil))))))))
def n17 : Nat := 269
def k17 : Nat := 2622
def st17 : Nat := 26
def p17 : PySem.Pos := ⟨102, 0, 108, 64⟩
noncomputable def o3_19 (P : Params) : Obj := ⟨(.type "dict"), none, .dict (List.toArray [(ke P (s "__name__") 165 (.str (s "law_re0177_02") 2604)), (ke P (s "__doc__") 166 .none), (ke P (s "__package__") 167 .none), (ke P (s "__loader__") 168 (.builtin "__main__.__loader__#opaque")), (ke P (s "__spec__") 169 .none), (ke P (s "__annotations__") 170 (.ref 6)), (ke P (s "__builtins__") 171 (.ref 4)), (ke P (s "__file__") 173 (.str (s "/claim/cut.py") 172)), (ke P (s "__cached__") 174 .none), (ke P (s "_sre") 275 (.ref 12)), (ke P (s "_wall") 288 (.ref 38)), (ke P (s "_name_disallowed_re") 316 (.ref 43)), (ke P (s "_value_disallowed_re") 350 (.ref 48)), (ke P (s "Headers") 506 (.ref 171)), (ke P (s "_twin_re_1") 524 (.ref 180)), (ke P (s "_twin_re_2") 566 (.ref 185)), (ke P (s "CRLF") 568 (.str (s "\x0d\n") 567)), (ke P (s "quotedata") 575 (.ref 192)), (ke P (s "b1_set") 637 (.ref 200)), (ke P (s "in_table_b1") 644 (.ref 210)), (ke P (s "b3_exceptions") 2595 (.ref 211)), (ke P (s "map_table_b3") 2603 (.ref 256)), (ke P (s "_law_read") 2615 (.ref 263)), (ke P (s "_law_joined") 2621 (.ref 268)), (ke P (s "_law_holds") 2627 (.ref 273))]) 25, (List.toArray [])⟩
noncomputable def o29_8 (P : Params) : Obj := ⟨.none, none, .fields (List.toArray [(.int 2 0), (.int 0 0), (.ref 37), (.int 8 0), (.int 0 0), (.ref 54), (.int 82 0), (.int 0 0), (.ref 191), (.int 86 0), (.int 0 0), (.ref 209), (.int 89 0), (.int 0 0), (.ref 255), (.int 95 0), (.int 0 0), (.ref 262), (.int 102 0), (.int 0 0), (.ref 267), (.int 109 0), (.int 0 0), (.ref 272)]), (List.toArray [])⟩
noncomputable def o269_0 (P : Params) : Obj := ⟨(.type "tuple"), none, .seq (List.toArray []) 0, (List.toArray [])⟩
noncomputable def o270_0 (P : Params) : Obj := ⟨.none, none, .fields (List.toArray []), (List.toArray [])⟩
noncomputable def o271_0 (P : Params) : Obj := ⟨.none, none, .func ⟨(s "_law_holds"), (s "_law_holds"), fArgs (bd 19), .stmts (fBody (bd 19)), fScope (bd 19), 0, [], .none, .none, .none, .none, none, .none, .none, 0⟩, (List.toArray [])⟩
noncomputable def o272_0 (P : Params) : Obj := ⟨(.type "code"), none, .fields (List.toArray [(.str (s "_law_holds") 2622), (.str (s "_law_holds") 2623), (.str (s "/claim/cut.py") 2624), (.int 109 0), (.int 2 0), (.int 0 0), (.int 0 0), (.int 3 0), (.ref 269), (.bool true), (.int 276 0), (.ref 270), .none, .none, .none, (.ref 271), (.int 2625 0), (.int 109 0), (.str (s "/claim/cut.py") 2626)]), (List.toArray [])⟩
noncomputable def o273_0 (P : Params) : Obj := ⟨(.type "function"), none, .func ⟨(s "_law_holds"), (s "_law_holds"), fArgs (bd 19), .stmts (fBody (bd 19)), fScope (bd 19), 3, [], .none, .none, .none, (.str (s "law_re0177_02") 2604), none, (.ref 272), .none, 0⟩, (List.toArray [])⟩
noncomputable def T18 (P : Params) (G : Nat → Obj) : BT := (.node (o0_0 P) (.node (o1_0 P) (.node (o3_19 P) (.node (o7_0 P) (.node (o15_0 P) (.node (o31_0 P) (.node (o63_0 P) (.node (o127_0 P) (.node (o255_0 P) .nil .nil) .nil) (.node (o191_0 P) .nil .nil)) (.node (o95_0 P) (.node (o159_0 P) .nil .nil) (.node (G 12) .nil .nil))) (.node (o47_0 P) (.node (o79_0 P) (.node (o143_0 P) (.node (o271_0 P) .nil .nil) .nil) (.node (o207_0 P) .nil .nil)) (.node (o111_0 P) (.node (o175_0 P) .nil .nil) (.node (G 28) .nil .nil)))) (.node (o23_0 P) (.node (o39_0 P) (.node (o71_0 P) (.node (o135_0 P) (.node (o263_0 P) .nil .nil) .nil) (.node (o199_0 P) .nil .nil)) (.node (o103_0 P) (.node (o167_0 P) .nil .nil) (.node (G 20) .nil .nil))) (.node (o55_0 P) (.node (o87_0 P) (.node (o151_0 P) .nil .nil) (.node (G 4) .nil .nil)) (.node (o119_0 P) (.node (o183_0 P) .nil .nil) (.node (G 36) .nil .nil))))) (.node (o11_0 P) (.node (o19_0 P) (.node (o35_0 P) (.node (o67_0 P) (.node (o131_0 P) (.node (o259_0 P) .nil .nil) .nil) (.node (o195_0 P) .nil .nil)) (.node (o99_0 P) (.node (o163_0 P) .nil .nil) (.node (G 16) .nil .nil))) (.node (o51_0 P) (.node (o83_0 P) (.node (o147_0 P) .nil .nil) (.node (G 0) .nil .nil)) (.node (o115_0 P) (.node (o179_0 P) .nil .nil) (.node (G 32) .nil .nil)))) (.node (o27_0 P) (.node (o43_0 P) (.node (o75_0 P) (.node (o139_0 P) (.node (o267_0 P) .nil .nil) .nil) (.node (o203_0 P) .nil .nil)) (.node (o107_0 P) (.node (o171_0 P) .nil .nil) (.node (G 24) .nil .nil))) (.node (o59_0 P) (.node (o91_0 P) (.node (o155_0 P) .nil .nil) (.node (G 8) .nil .nil)) (.node (o123_0 P) (.node (o187_0 P) .nil .nil) (.node (o251_0 P) .nil .nil)))))) (.node (o5_0 P) (.node (o9_0 P) (.node (o17_0 P) (.node (o33_0 P) (.node (o65_0 P) (.node (o129_0 P) (.node (o257_0 P) .nil .nil) .nil) (.node (o193_0 P) .nil .nil)) (.node (o97_0 P) (.node (o161_0 P) .nil .nil) (.node (G 14) .nil .nil))) (.node (o49_0 P) (.node (o81_0 P) (.node (o145_0 P) (.node (o273_0 P) .nil .nil) .nil) (.node (o209_0 P) .nil .nil)) (.node (o113_0 P) (.node (o177_0 P) .nil .nil) (.node (G 30) .nil .nil)))) (.node (o25_0 P) (.node (o41_0 P) (.node (o73_0 P) (.node (o137_0 P) (.node (o265_0 P) .nil .nil) .nil) (.node (o201_0 P) .nil .nil)) (.node (o105_0 P) (.node (o169_0 P) .nil .nil) (.node (G 22) .nil .nil))) (.node (o57_0 P) (.node (o89_0 P) (.node (o153_0 P) .nil .nil) (.node (G 6) .nil .nil)) (.node (o121_0 P) (.node (o185_0 P) .nil .nil) (.node (G 38) .nil .nil))))) (.node (o13_0 P) (.node (o21_0 P) (.node (o37_0 P) (.node (o69_0 P) (.node (o133_0 P) (.node (o261_0 P) .nil .nil) .nil) (.node (o197_0 P) .nil .nil)) (.node (o101_0 P) (.node (o165_0 P) .nil .nil) (.node (G 18) .nil .nil))) (.node (o53_0 P) (.node (o85_0 P) (.node (o149_0 P) .nil .nil) (.node (G 2) .nil .nil)) (.node (o117_0 P) (.node (o181_0 P) .nil .nil) (.node (G 34) .nil .nil)))) (.node (o29_8 P) (.node (o45_0 P) (.node (o77_0 P) (.node (o141_0 P) (.node (o269_0 P) .nil .nil) .nil) (.node (o205_0 P) .nil .nil)) (.node (o109_0 P) (.node (o173_0 P) .nil .nil) (.node (G 26) .nil .nil))) (.node (o61_0 P) (.node (o93_0 P) (.node (o157_0 P) .nil .nil) (.node (G 10) .nil .nil)) (.node (o125_0 P) (.node (o189_0 P) .nil .nil) (.node (o253_0 P) .nil .nil))))))) (.node (o2_0 P) (.node (o4_0 P) (.node (o8_0 P) (.node (o16_0 P) (.node (o32_0 P) (.node (o64_0 P) (.node (o128_0 P) (.node (o256_0 P) .nil .nil) .nil) (.node (o192_0 P) .nil .nil)) (.node (o96_0 P) (.node (o160_0 P) .nil .nil) (.node (G 13) .nil .nil))) (.node (o48_0 P) (.node (o80_0 P) (.node (o144_0 P) (.node (o272_0 P) .nil .nil) .nil) (.node (o208_0 P) .nil .nil)) (.node (o112_0 P) (.node (o176_0 P) .nil .nil) (.node (G 29) .nil .nil)))) (.node (o24_0 P) (.node (o40_0 P) (.node (o72_0 P) (.node (o136_0 P) (.node (o264_0 P) .nil .nil) .nil) (.node (o200_0 P) .nil .nil)) (.node (o104_0 P) (.node (o168_0 P) .nil .nil) (.node (G 21) .nil .nil))) (.node (o56_0 P) (.node (o88_0 P) (.node (o152_0 P) .nil .nil) (.node (G 5) .nil .nil)) (.node (o120_0 P) (.node (o184_0 P) .nil .nil) (.node (G 37) .nil .nil))))) (.node (o12_0 P) (.node (o20_0 P) (.node (o36_0 P) (.node (o68_0 P) (.node (o132_0 P) (.node (o260_0 P) .nil .nil) .nil) (.node (o196_0 P) .nil .nil)) (.node (o100_0 P) (.node (o164_0 P) .nil .nil) (.node (G 17) .nil .nil))) (.node (o52_0 P) (.node (o84_0 P) (.node (o148_0 P) .nil .nil) (.node (G 1) .nil .nil)) (.node (o116_0 P) (.node (o180_0 P) .nil .nil) (.node (G 33) .nil .nil)))) (.node (o28_0 P) (.node (o44_0 P) (.node (o76_0 P) (.node (o140_0 P) (.node (o268_0 P) .nil .nil) .nil) (.node (o204_0 P) .nil .nil)) (.node (o108_0 P) (.node (o172_0 P) .nil .nil) (.node (G 25) .nil .nil))) (.node (o60_0 P) (.node (o92_0 P) (.node (o156_0 P) .nil .nil) (.node (G 9) .nil .nil)) (.node (o124_0 P) (.node (o188_0 P) .nil .nil) (.node (o252_0 P) .nil .nil)))))) (.node (o6_0 P) (.node (o10_0 P) (.node (o18_0 P) (.node (o34_0 P) (.node (o66_0 P) (.node (o130_0 P) (.node (o258_0 P) .nil .nil) .nil) (.node (o194_0 P) .nil .nil)) (.node (o98_0 P) (.node (o162_0 P) .nil .nil) (.node (G 15) .nil .nil))) (.node (o50_0 P) (.node (o82_0 P) (.node (o146_0 P) .nil .nil) (.node (o210_0 P) .nil .nil)) (.node (o114_0 P) (.node (o178_0 P) .nil .nil) (.node (G 31) .nil .nil)))) (.node (o26_0 P) (.node (o42_0 P) (.node (o74_0 P) (.node (o138_0 P) (.node (o266_0 P) .nil .nil) .nil) (.node (o202_0 P) .nil .nil)) (.node (o106_0 P) (.node (o170_0 P) .nil .nil) (.node (G 23) .nil .nil))) (.node (o58_0 P) (.node (o90_0 P) (.node (o154_0 P) .nil .nil) (.node (G 7) .nil .nil)) (.node (o122_0 P) (.node (o186_0 P) .nil .nil) (.node (o250_0 P) .nil .nil))))) (.node (o14_0 P) (.node (o22_0 P) (.node (o38_0 P) (.node (o70_0 P) (.node (o134_0 P) (.node (o262_0 P) .nil .nil) .nil) (.node (o198_0 P) .nil .nil)) (.node (o102_0 P) (.node (o166_0 P) .nil .nil) (.node (G 19) .nil .nil))) (.node (o54_0 P) (.node (o86_0 P) (.node (o150_0 P) .nil .nil) (.node (G 3) .nil .nil)) (.node (o118_0 P) (.node (o182_0 P) .nil .nil) (.node (G 35) .nil .nil)))) (.node (o30_0 P) (.node (o46_0 P) (.node (o78_0 P) (.node (o142_0 P) (.node (o270_0 P) .nil .nil) .nil) (.node (o206_0 P) .nil .nil)) (.node (o110_0 P) (.node (o174_0 P) .nil .nil) (.node (G 27) .nil .nil))) (.node (o62_0 P) (.node (o94_0 P) (.node (o158_0 P) .nil .nil) (.node (G 11) .nil .nil)) (.node (o126_0 P) (.node (o190_0 P) .nil .nil) (.node (o254_0 P) .nil .nil))))))))
def n18 : Nat := 274
def k18 : Nat := 2628
def st18 : Nat := 26
def p18 : PySem.Pos := ⟨109, 0, 110, 50⟩
noncomputable def o3_20 (P : Params) : Obj := ⟨(.type "dict"), none, .dict (List.toArray [(ke P (s "__name__") 165 (.str (s "law_re0177_02") 2604)), (ke P (s "__doc__") 166 .none), (ke P (s "__package__") 167 .none), (ke P (s "__loader__") 168 (.builtin "__main__.__loader__#opaque")), (ke P (s "__spec__") 169 .none), (ke P (s "__annotations__") 170 (.ref 6)), (ke P (s "__builtins__") 171 (.ref 4)), (ke P (s "__file__") 173 (.str (s "/claim/cut.py") 172)), (ke P (s "__cached__") 174 .none), (ke P (s "_sre") 275 (.ref 12)), (ke P (s "_wall") 288 (.ref 38)), (ke P (s "_name_disallowed_re") 316 (.ref 43)), (ke P (s "_value_disallowed_re") 350 (.ref 48)), (ke P (s "Headers") 506 (.ref 171)), (ke P (s "_twin_re_1") 524 (.ref 180)), (ke P (s "_twin_re_2") 566 (.ref 185)), (ke P (s "CRLF") 568 (.str (s "\x0d\n") 567)), (ke P (s "quotedata") 575 (.ref 192)), (ke P (s "b1_set") 637 (.ref 200)), (ke P (s "in_table_b1") 644 (.ref 210)), (ke P (s "b3_exceptions") 2595 (.ref 211)), (ke P (s "map_table_b3") 2603 (.ref 256)), (ke P (s "_law_read") 2615 (.ref 263)), (ke P (s "_law_joined") 2621 (.ref 268)), (ke P (s "_law_holds") 2627 (.ref 273)), (ke P (s "_law_within") 2633 (.ref 278))]) 26, (List.toArray [])⟩
noncomputable def o29_9 (P : Params) : Obj := ⟨.none, none, .fields (List.toArray [(.int 2 0), (.int 0 0), (.ref 37), (.int 8 0), (.int 0 0), (.ref 54), (.int 82 0), (.int 0 0), (.ref 191), (.int 86 0), (.int 0 0), (.ref 209), (.int 89 0), (.int 0 0), (.ref 255), (.int 95 0), (.int 0 0), (.ref 262), (.int 102 0), (.int 0 0), (.ref 267), (.int 109 0), (.int 0 0), (.ref 272), (.int 111 0), (.int 0 0), (.ref 277)]), (List.toArray [])⟩
noncomputable def o274_0 (P : Params) : Obj := ⟨(.type "tuple"), none, .seq (List.toArray []) 0, (List.toArray [])⟩
noncomputable def o275_0 (P : Params) : Obj := ⟨.none, none, .fields (List.toArray []), (List.toArray [])⟩
noncomputable def o276_0 (P : Params) : Obj := ⟨.none, none, .func ⟨(s "_law_within"), (s "_law_within"), fArgs (bd 20), .stmts (fBody (bd 20)), fScope (bd 20), 0, [], .none, .none, .none, .none, none, .none, .none, 0⟩, (List.toArray [])⟩
noncomputable def o277_0 (P : Params) : Obj := ⟨(.type "code"), none, .fields (List.toArray [(.str (s "_law_within") 2628), (.str (s "_law_within") 2629), (.str (s "/claim/cut.py") 2630), (.int 111 0), (.int 2 0), (.int 0 0), (.int 0 0), (.int 3 0), (.ref 274), (.bool true), (.int 276 0), (.ref 275), .none, .none, .none, (.ref 276), (.int 2631 0), (.int 111 0), (.str (s "/claim/cut.py") 2632)]), (List.toArray [])⟩
noncomputable def o278_0 (P : Params) : Obj := ⟨(.type "function"), none, .func ⟨(s "_law_within"), (s "_law_within"), fArgs (bd 20), .stmts (fBody (bd 20)), fScope (bd 20), 3, [], .none, .none, .none, (.str (s "law_re0177_02") 2604), none, (.ref 277), .none, 0⟩, (List.toArray [])⟩
noncomputable def T19 (P : Params) (G : Nat → Obj) : BT := (.node (o0_0 P) (.node (o1_0 P) (.node (o3_20 P) (.node (o7_0 P) (.node (o15_0 P) (.node (o31_0 P) (.node (o63_0 P) (.node (o127_0 P) (.node (o255_0 P) .nil .nil) .nil) (.node (o191_0 P) .nil .nil)) (.node (o95_0 P) (.node (o159_0 P) .nil .nil) (.node (G 12) .nil .nil))) (.node (o47_0 P) (.node (o79_0 P) (.node (o143_0 P) (.node (o271_0 P) .nil .nil) .nil) (.node (o207_0 P) .nil .nil)) (.node (o111_0 P) (.node (o175_0 P) .nil .nil) (.node (G 28) .nil .nil)))) (.node (o23_0 P) (.node (o39_0 P) (.node (o71_0 P) (.node (o135_0 P) (.node (o263_0 P) .nil .nil) .nil) (.node (o199_0 P) .nil .nil)) (.node (o103_0 P) (.node (o167_0 P) .nil .nil) (.node (G 20) .nil .nil))) (.node (o55_0 P) (.node (o87_0 P) (.node (o151_0 P) .nil .nil) (.node (G 4) .nil .nil)) (.node (o119_0 P) (.node (o183_0 P) .nil .nil) (.node (G 36) .nil .nil))))) (.node (o11_0 P) (.node (o19_0 P) (.node (o35_0 P) (.node (o67_0 P) (.node (o131_0 P) (.node (o259_0 P) .nil .nil) .nil) (.node (o195_0 P) .nil .nil)) (.node (o99_0 P) (.node (o163_0 P) .nil .nil) (.node (G 16) .nil .nil))) (.node (o51_0 P) (.node (o83_0 P) (.node (o147_0 P) (.node (o275_0 P) .nil .nil) .nil) (.node (G 0) .nil .nil)) (.node (o115_0 P) (.node (o179_0 P) .nil .nil) (.node (G 32) .nil .nil)))) (.node (o27_0 P) (.node (o43_0 P) (.node (o75_0 P) (.node (o139_0 P) (.node (o267_0 P) .nil .nil) .nil) (.node (o203_0 P) .nil .nil)) (.node (o107_0 P) (.node (o171_0 P) .nil .nil) (.node (G 24) .nil .nil))) (.node (o59_0 P) (.node (o91_0 P) (.node (o155_0 P) .nil .nil) (.node (G 8) .nil .nil)) (.node (o123_0 P) (.node (o187_0 P) .nil .nil) (.node (o251_0 P) .nil .nil)))))) (.node (o5_0 P) (.node (o9_0 P) (.node (o17_0 P) (.node (o33_0 P) (.node (o65_0 P) (.node (o129_0 P) (.node (o257_0 P) .nil .nil) .nil) (.node (o193_0 P) .nil .nil)) (.node (o97_0 P) (.node (o161_0 P) .nil .nil) (.node (G 14) .nil .nil))) (.node (o49_0 P) (.node (o81_0 P) (.node (o145_0 P) (.node (o273_0 P) .nil .nil) .nil) (.node (o209_0 P) .nil .nil)) (.node (o113_0 P) (.node (o177_0 P) .nil .nil) (.node (G 30) .nil .nil)))) (.node (o25_0 P) (.node (o41_0 P) (.node (o73_0 P) (.node (o137_0 P) (.node (o265_0 P) .nil .nil) .nil) (.node (o201_0 P) .nil .nil)) (.node (o105_0 P) (.node (o169_0 P) .nil .nil) (.node (G 22) .nil .nil))) (.node (o57_0 P) (.node (o89_0 P) (.node (o153_0 P) .nil .nil) (.node (G 6) .nil .nil)) (.node (o121_0 P) (.node (o185_0 P) .nil .nil) (.node (G 38) .nil .nil))))) (.node (o13_0 P) (.node (o21_0 P) (.node (o37_0 P) (.node (o69_0 P) (.node (o133_0 P) (.node (o261_0 P) .nil .nil) .nil) (.node (o197_0 P) .nil .nil)) (.node (o101_0 P) (.node (o165_0 P) .nil .nil) (.node (G 18) .nil .nil))) (.node (o53_0 P) (.node (o85_0 P) (.node (o149_0 P) (.node (o277_0 P) .nil .nil) .nil) (.node (G 2) .nil .nil)) (.node (o117_0 P) (.node (o181_0 P) .nil .nil) (.node (G 34) .nil .nil)))) (.node (o29_9 P) (.node (o45_0 P) (.node (o77_0 P) (.node (o141_0 P) (.node (o269_0 P) .nil .nil) .nil) (.node (o205_0 P) .nil .nil)) (.node (o109_0 P) (.node (o173_0 P) .nil .nil) (.node (G 26) .nil .nil))) (.node (o61_0 P) (.node (o93_0 P) (.node (o157_0 P) .nil .nil) (.node (G 10) .nil .nil)) (.node (o125_0 P) (.node (o189_0 P) .nil .nil) (.node (o253_0 P) .nil .nil))))))) (.node (o2_0 P) (.node (o4_0 P) (.node (o8_0 P) (.node (o16_0 P) (.node (o32_0 P) (.node (o64_0 P) (.node (o128_0 P) (.node (o256_0 P) .nil .nil) .nil) (.node (o192_0 P) .nil .nil)) (.node (o96_0 P) (.node (o160_0 P) .nil .nil) (.node (G 13) .nil .nil))) (.node (o48_0 P) (.node (o80_0 P) (.node (o144_0 P) (.node (o272_0 P) .nil .nil) .nil) (.node (o208_0 P) .nil .nil)) (.node (o112_0 P) (.node (o176_0 P) .nil .nil) (.node (G 29) .nil .nil)))) (.node (o24_0 P) (.node (o40_0 P) (.node (o72_0 P) (.node (o136_0 P) (.node (o264_0 P) .nil .nil) .nil) (.node (o200_0 P) .nil .nil)) (.node (o104_0 P) (.node (o168_0 P) .nil .nil) (.node (G 21) .nil .nil))) (.node (o56_0 P) (.node (o88_0 P) (.node (o152_0 P) .nil .nil) (.node (G 5) .nil .nil)) (.node (o120_0 P) (.node (o184_0 P) .nil .nil) (.node (G 37) .nil .nil))))) (.node (o12_0 P) (.node (o20_0 P) (.node (o36_0 P) (.node (o68_0 P) (.node (o132_0 P) (.node (o260_0 P) .nil .nil) .nil) (.node (o196_0 P) .nil .nil)) (.node (o100_0 P) (.node (o164_0 P) .nil .nil) (.node (G 17) .nil .nil))) (.node (o52_0 P) (.node (o84_0 P) (.node (o148_0 P) (.node (o276_0 P) .nil .nil) .nil) (.node (G 1) .nil .nil)) (.node (o116_0 P) (.node (o180_0 P) .nil .nil) (.node (G 33) .nil .nil)))) (.node (o28_0 P) (.node (o44_0 P) (.node (o76_0 P) (.node (o140_0 P) (.node (o268_0 P) .nil .nil) .nil) (.node (o204_0 P) .nil .nil)) (.node (o108_0 P) (.node (o172_0 P) .nil .nil) (.node (G 25) .nil .nil))) (.node (o60_0 P) (.node (o92_0 P) (.node (o156_0 P) .nil .nil) (.node (G 9) .nil .nil)) (.node (o124_0 P) (.node (o188_0 P) .nil .nil) (.node (o252_0 P) .nil .nil)))))) (.node (o6_0 P) (.node (o10_0 P) (.node (o18_0 P) (.node (o34_0 P) (.node (o66_0 P) (.node (o130_0 P) (.node (o258_0 P) .nil .nil) .nil) (.node (o194_0 P) .nil .nil)) (.node (o98_0 P) (.node (o162_0 P) .nil .nil) (.node (G 15) .nil .nil))) (.node (o50_0 P) (.node (o82_0 P) (.node (o146_0 P) (.node (o274_0 P) .nil .nil) .nil) (.node (o210_0 P) .nil .nil)) (.node (o114_0 P) (.node (o178_0 P) .nil .nil) (.node (G 31) .nil .nil)))) (.node (o26_0 P) (.node (o42_0 P) (.node (o74_0 P) (.node (o138_0 P) (.node (o266_0 P) .nil .nil) .nil) (.node (o202_0 P) .nil .nil)) (.node (o106_0 P) (.node (o170_0 P) .nil .nil) (.node (G 23) .nil .nil))) (.node (o58_0 P) (.node (o90_0 P) (.node (o154_0 P) .nil .nil) (.node (G 7) .nil .nil)) (.node (o122_0 P) (.node (o186_0 P) .nil .nil) (.node (o250_0 P) .nil .nil))))) (.node (o14_0 P) (.node (o22_0 P) (.node (o38_0 P) (.node (o70_0 P) (.node (o134_0 P) (.node (o262_0 P) .nil .nil) .nil) (.node (o198_0 P) .nil .nil)) (.node (o102_0 P) (.node (o166_0 P) .nil .nil) (.node (G 19) .nil .nil))) (.node (o54_0 P) (.node (o86_0 P) (.node (o150_0 P) (.node (o278_0 P) .nil .nil) .nil) (.node (G 3) .nil .nil)) (.node (o118_0 P) (.node (o182_0 P) .nil .nil) (.node (G 35) .nil .nil)))) (.node (o30_0 P) (.node (o46_0 P) (.node (o78_0 P) (.node (o142_0 P) (.node (o270_0 P) .nil .nil) .nil) (.node (o206_0 P) .nil .nil)) (.node (o110_0 P) (.node (o174_0 P) .nil .nil) (.node (G 27) .nil .nil))) (.node (o62_0 P) (.node (o94_0 P) (.node (o158_0 P) .nil .nil) (.node (G 11) .nil .nil)) (.node (o126_0 P) (.node (o190_0 P) .nil .nil) (.node (o254_0 P) .nil .nil))))))))
def n19 : Nat := 279
def k19 : Nat := 2634
def st19 : Nat := 26
def p19 : PySem.Pos := ⟨111, 0, 112, 50⟩
noncomputable def o3_21 (P : Params) : Obj := ⟨(.type "dict"), none, .dict (List.toArray [(ke P (s "__name__") 165 (.str (s "law_re0177_02") 2604)), (ke P (s "__doc__") 166 .none), (ke P (s "__package__") 167 .none), (ke P (s "__loader__") 168 (.builtin "__main__.__loader__#opaque")), (ke P (s "__spec__") 169 .none), (ke P (s "__annotations__") 170 (.ref 6)), (ke P (s "__builtins__") 171 (.ref 4)), (ke P (s "__file__") 173 (.str (s "/claim/cut.py") 172)), (ke P (s "__cached__") 174 .none), (ke P (s "_sre") 275 (.ref 12)), (ke P (s "_wall") 288 (.ref 38)), (ke P (s "_name_disallowed_re") 316 (.ref 43)), (ke P (s "_value_disallowed_re") 350 (.ref 48)), (ke P (s "Headers") 506 (.ref 171)), (ke P (s "_twin_re_1") 524 (.ref 180)), (ke P (s "_twin_re_2") 566 (.ref 185)), (ke P (s "CRLF") 568 (.str (s "\x0d\n") 567)), (ke P (s "quotedata") 575 (.ref 192)), (ke P (s "b1_set") 637 (.ref 200)), (ke P (s "in_table_b1") 644 (.ref 210)), (ke P (s "b3_exceptions") 2595 (.ref 211)), (ke P (s "map_table_b3") 2603 (.ref 256)), (ke P (s "_law_read") 2615 (.ref 263)), (ke P (s "_law_joined") 2621 (.ref 268)), (ke P (s "_law_holds") 2627 (.ref 273)), (ke P (s "_law_within") 2633 (.ref 278)), (ke P (s "law") 2639 (.ref 283))]) 27, (List.toArray [])⟩
noncomputable def o29_10 (P : Params) : Obj := ⟨.none, none, .fields (List.toArray [(.int 2 0), (.int 0 0), (.ref 37), (.int 8 0), (.int 0 0), (.ref 54), (.int 82 0), (.int 0 0), (.ref 191), (.int 86 0), (.int 0 0), (.ref 209), (.int 89 0), (.int 0 0), (.ref 255), (.int 95 0), (.int 0 0), (.ref 262), (.int 102 0), (.int 0 0), (.ref 267), (.int 109 0), (.int 0 0), (.ref 272), (.int 111 0), (.int 0 0), (.ref 277), (.int 113 0), (.int 0 0), (.ref 282)]), (List.toArray [])⟩
noncomputable def o279_0 (P : Params) : Obj := ⟨(.type "tuple"), none, .seq (List.toArray []) 0, (List.toArray [])⟩
noncomputable def o280_0 (P : Params) : Obj := ⟨.none, none, .fields (List.toArray []), (List.toArray [])⟩
noncomputable def o281_0 (P : Params) : Obj := ⟨.none, none, .func ⟨(s "law"), (s "law"), fArgs (bd 21), .stmts (fBody (bd 21)), fScope (bd 21), 0, [], .none, .none, .none, .none, none, .none, .none, 0⟩, (List.toArray [])⟩
noncomputable def o282_0 (P : Params) : Obj := ⟨(.type "code"), none, .fields (List.toArray [(.str (s "law") 2634), (.str (s "law") 2635), (.str (s "/claim/cut.py") 2636), (.int 113 0), (.int 1 0), (.int 0 0), (.int 0 0), (.int 3 0), (.ref 279), (.bool true), (.int 276 0), (.ref 280), .none, .none, .none, (.ref 281), (.int 2637 0), (.int 113 0), (.str (s "/claim/cut.py") 2638)]), (List.toArray [])⟩
noncomputable def o283_0 (P : Params) : Obj := ⟨(.type "function"), none, .func ⟨(s "law"), (s "law"), fArgs (bd 21), .stmts (fBody (bd 21)), fScope (bd 21), 3, [], .none, .none, .none, (.str (s "law_re0177_02") 2604), none, (.ref 282), .none, 0⟩, (List.toArray [])⟩
noncomputable def T20 (P : Params) (G : Nat → Obj) : BT := (.node (o0_0 P) (.node (o1_0 P) (.node (o3_21 P) (.node (o7_0 P) (.node (o15_0 P) (.node (o31_0 P) (.node (o63_0 P) (.node (o127_0 P) (.node (o255_0 P) .nil .nil) .nil) (.node (o191_0 P) .nil .nil)) (.node (o95_0 P) (.node (o159_0 P) .nil .nil) (.node (G 12) .nil .nil))) (.node (o47_0 P) (.node (o79_0 P) (.node (o143_0 P) (.node (o271_0 P) .nil .nil) .nil) (.node (o207_0 P) .nil .nil)) (.node (o111_0 P) (.node (o175_0 P) .nil .nil) (.node (G 28) .nil .nil)))) (.node (o23_0 P) (.node (o39_0 P) (.node (o71_0 P) (.node (o135_0 P) (.node (o263_0 P) .nil .nil) .nil) (.node (o199_0 P) .nil .nil)) (.node (o103_0 P) (.node (o167_0 P) .nil .nil) (.node (G 20) .nil .nil))) (.node (o55_0 P) (.node (o87_0 P) (.node (o151_0 P) (.node (o279_0 P) .nil .nil) .nil) (.node (G 4) .nil .nil)) (.node (o119_0 P) (.node (o183_0 P) .nil .nil) (.node (G 36) .nil .nil))))) (.node (o11_0 P) (.node (o19_0 P) (.node (o35_0 P) (.node (o67_0 P) (.node (o131_0 P) (.node (o259_0 P) .nil .nil) .nil) (.node (o195_0 P) .nil .nil)) (.node (o99_0 P) (.node (o163_0 P) .nil .nil) (.node (G 16) .nil .nil))) (.node (o51_0 P) (.node (o83_0 P) (.node (o147_0 P) (.node (o275_0 P) .nil .nil) .nil) (.node (G 0) .nil .nil)) (.node (o115_0 P) (.node (o179_0 P) .nil .nil) (.node (G 32) .nil .nil)))) (.node (o27_0 P) (.node (o43_0 P) (.node (o75_0 P) (.node (o139_0 P) (.node (o267_0 P) .nil .nil) .nil) (.node (o203_0 P) .nil .nil)) (.node (o107_0 P) (.node (o171_0 P) .nil .nil) (.node (G 24) .nil .nil))) (.node (o59_0 P) (.node (o91_0 P) (.node (o155_0 P) (.node (o283_0 P) .nil .nil) .nil) (.node (G 8) .nil .nil)) (.node (o123_0 P) (.node (o187_0 P) .nil .nil) (.node (o251_0 P) .nil .nil)))))) (.node (o5_0 P) (.node (o9_0 P) (.node (o17_0 P) (.node (o33_0 P) (.node (o65_0 P) (.node (o129_0 P) (.node (o257_0 P) .nil .nil) .nil) (.node (o193_0 P) .nil .nil)) (.node (o97_0 P) (.node (o161_0 P) .nil .nil) (.node (G 14) .nil .nil))) (.node (o49_0 P) (.node (o81_0 P) (.node (o145_0 P) (.node (o273_0 P) .nil .nil) .nil) (.node (o209_0 P) .nil .nil)) (.node (o113_0 P) (.node (o177_0 P) .nil .nil) (.node (G 30) .nil .nil)))) (.node (o25_0 P) (.node (o41_0 P) (.node (o73_0 P) (.node (o137_0 P) (.node (o265_0 P) .nil .nil) .nil) (.node (o201_0 P) .nil .nil)) (.node (o105_0 P) (.node (o169_0 P) .nil .nil) (.node (G 22) .nil .nil))) (.node (o57_0 P) (.node (o89_0 P) (.node (o153_0 P) (.node (o281_0 P) .nil .nil) .nil) (.node (G 6) .nil .nil)) (.node (o121_0 P) (.node (o185_0 P) .nil .nil) (.node (G 38) .nil .nil))))) (.node (o13_0 P) (.node (o21_0 P) (.node (o37_0 P) (.node (o69_0 P) (.node (o133_0 P) (.node (o261_0 P) .nil .nil) .nil) (.node (o197_0 P) .nil .nil)) (.node (o101_0 P) (.node (o165_0 P) .nil .nil) (.node (G 18) .nil .nil))) (.node (o53_0 P) (.node (o85_0 P) (.node (o149_0 P) (.node (o277_0 P) .nil .nil) .nil) (.node (G 2) .nil .nil)) (.node (o117_0 P) (.node (o181_0 P) .nil .nil) (.node (G 34) .nil .nil)))) (.node (o29_10 P) (.node (o45_0 P) (.node (o77_0 P) (.node (o141_0 P) (.node (o269_0 P) .nil .nil) .nil) (.node (o205_0 P) .nil .nil)) (.node (o109_0 P) (.node (o173_0 P) .nil .nil) (.node (G 26) .nil .nil))) (.node (o61_0 P) (.node (o93_0 P) (.node (o157_0 P) .nil .nil) (.node (G 10) .nil .nil)) (.node (o125_0 P) (.node (o189_0 P) .nil .nil) (.node (o253_0 P) .nil .nil))))))) (.node (o2_0 P) (.node (o4_0 P) (.node (o8_0 P) (.node (o16_0 P) (.node (o32_0 P) (.node (o64_0 P) (.node (o128_0 P) (.node (o256_0 P) .nil .nil) .nil) (.node (o192_0 P) .nil .nil)) (.node (o96_0 P) (.node (o160_0 P) .nil .nil) (.node (G 13) .nil .nil))) (.node (o48_0 P) (.node (o80_0 P) (.node (o144_0 P) (.node (o272_0 P) .nil .nil) .nil) (.node (o208_0 P) .nil .nil)) (.node (o112_0 P) (.node (o176_0 P) .nil .nil) (.node (G 29) .nil .nil)))) (.node (o24_0 P) (.node (o40_0 P) (.node (o72_0 P) (.node (o136_0 P) (.node (o264_0 P) .nil .nil) .nil) (.node (o200_0 P) .nil .nil)) (.node (o104_0 P) (.node (o168_0 P) .nil .nil) (.node (G 21) .nil .nil))) (.node (o56_0 P) (.node (o88_0 P) (.node (o152_0 P) (.node (o280_0 P) .nil .nil) .nil) (.node (G 5) .nil .nil)) (.node (o120_0 P) (.node (o184_0 P) .nil .nil) (.node (G 37) .nil .nil))))) (.node (o12_0 P) (.node (o20_0 P) (.node (o36_0 P) (.node (o68_0 P) (.node (o132_0 P) (.node (o260_0 P) .nil .nil) .nil) (.node (o196_0 P) .nil .nil)) (.node (o100_0 P) (.node (o164_0 P) .nil .nil) (.node (G 17) .nil .nil))) (.node (o52_0 P) (.node (o84_0 P) (.node (o148_0 P) (.node (o276_0 P) .nil .nil) .nil) (.node (G 1) .nil .nil)) (.node (o116_0 P) (.node (o180_0 P) .nil .nil) (.node (G 33) .nil .nil)))) (.node (o28_0 P) (.node (o44_0 P) (.node (o76_0 P) (.node (o140_0 P) (.node (o268_0 P) .nil .nil) .nil) (.node (o204_0 P) .nil .nil)) (.node (o108_0 P) (.node (o172_0 P) .nil .nil) (.node (G 25) .nil .nil))) (.node (o60_0 P) (.node (o92_0 P) (.node (o156_0 P) .nil .nil) (.node (G 9) .nil .nil)) (.node (o124_0 P) (.node (o188_0 P) .nil .nil) (.node (o252_0 P) .nil .nil)))))) (.node (o6_0 P) (.node (o10_0 P) (.node (o18_0 P) (.node (o34_0 P) (.node (o66_0 P) (.node (o130_0 P) (.node (o258_0 P) .nil .nil) .nil) (.node (o194_0 P) .nil .nil)) (.node (o98_0 P) (.node (o162_0 P) .nil .nil) (.node (G 15) .nil .nil))) (.node (o50_0 P) (.node (o82_0 P) (.node (o146_0 P) (.node (o274_0 P) .nil .nil) .nil) (.node (o210_0 P) .nil .nil)) (.node (o114_0 P) (.node (o178_0 P) .nil .nil) (.node (G 31) .nil .nil)))) (.node (o26_0 P) (.node (o42_0 P) (.node (o74_0 P) (.node (o138_0 P) (.node (o266_0 P) .nil .nil) .nil) (.node (o202_0 P) .nil .nil)) (.node (o106_0 P) (.node (o170_0 P) .nil .nil) (.node (G 23) .nil .nil))) (.node (o58_0 P) (.node (o90_0 P) (.node (o154_0 P) (.node (o282_0 P) .nil .nil) .nil) (.node (G 7) .nil .nil)) (.node (o122_0 P) (.node (o186_0 P) .nil .nil) (.node (o250_0 P) .nil .nil))))) (.node (o14_0 P) (.node (o22_0 P) (.node (o38_0 P) (.node (o70_0 P) (.node (o134_0 P) (.node (o262_0 P) .nil .nil) .nil) (.node (o198_0 P) .nil .nil)) (.node (o102_0 P) (.node (o166_0 P) .nil .nil) (.node (G 19) .nil .nil))) (.node (o54_0 P) (.node (o86_0 P) (.node (o150_0 P) (.node (o278_0 P) .nil .nil) .nil) (.node (G 3) .nil .nil)) (.node (o118_0 P) (.node (o182_0 P) .nil .nil) (.node (G 35) .nil .nil)))) (.node (o30_0 P) (.node (o46_0 P) (.node (o78_0 P) (.node (o142_0 P) (.node (o270_0 P) .nil .nil) .nil) (.node (o206_0 P) .nil .nil)) (.node (o110_0 P) (.node (o174_0 P) .nil .nil) (.node (G 27) .nil .nil))) (.node (o62_0 P) (.node (o94_0 P) (.node (o158_0 P) .nil .nil) (.node (G 11) .nil .nil)) (.node (o126_0 P) (.node (o190_0 P) .nil .nil) (.node (o254_0 P) .nil .nil))))))))
def n20 : Nat := 284
def k20 : Nat := 2640
def st20 : Nat := 26
def p20 : PySem.Pos := ⟨113, 0, 156, 55⟩
noncomputable def Tf (P : Params) (G : Nat → Obj) : BT := (.node (o0_0 P) (.node (o1_0 P) (.node (o3_21 P) (.node (o7_0 P) (.node (o15_0 P) (.node (o31_0 P) (.node (o63_0 P) (.node (o127_0 P) (.node (o255_0 P) .nil .nil) .nil) (.node (o191_0 P) .nil .nil)) (.node (o95_0 P) (.node (o159_0 P) .nil .nil) (.node (G 12) .nil .nil))) (.node (o47_0 P) (.node (o79_0 P) (.node (o143_0 P) (.node (o271_0 P) .nil .nil) .nil) (.node (o207_0 P) .nil .nil)) (.node (o111_0 P) (.node (o175_0 P) .nil .nil) (.node (G 28) .nil .nil)))) (.node (o23_0 P) (.node (o39_0 P) (.node (o71_0 P) (.node (o135_0 P) (.node (o263_0 P) .nil .nil) .nil) (.node (o199_0 P) .nil .nil)) (.node (o103_0 P) (.node (o167_0 P) .nil .nil) (.node (G 20) .nil .nil))) (.node (o55_0 P) (.node (o87_0 P) (.node (o151_0 P) (.node (o279_0 P) .nil .nil) .nil) (.node (G 4) .nil .nil)) (.node (o119_0 P) (.node (o183_0 P) .nil .nil) (.node (G 36) .nil .nil))))) (.node (o11_0 P) (.node (o19_0 P) (.node (o35_0 P) (.node (o67_0 P) (.node (o131_0 P) (.node (o259_0 P) .nil .nil) .nil) (.node (o195_0 P) .nil .nil)) (.node (o99_0 P) (.node (o163_0 P) .nil .nil) (.node (G 16) .nil .nil))) (.node (o51_0 P) (.node (o83_0 P) (.node (o147_0 P) (.node (o275_0 P) .nil .nil) .nil) (.node (G 0) .nil .nil)) (.node (o115_0 P) (.node (o179_0 P) .nil .nil) (.node (G 32) .nil .nil)))) (.node (o27_0 P) (.node (o43_0 P) (.node (o75_0 P) (.node (o139_0 P) (.node (o267_0 P) .nil .nil) .nil) (.node (o203_0 P) .nil .nil)) (.node (o107_0 P) (.node (o171_0 P) .nil .nil) (.node (G 24) .nil .nil))) (.node (o59_0 P) (.node (o91_0 P) (.node (o155_0 P) (.node (o283_0 P) .nil .nil) .nil) (.node (G 8) .nil .nil)) (.node (o123_0 P) (.node (o187_0 P) .nil .nil) (.node (o251_0 P) .nil .nil)))))) (.node (o5_0 P) (.node (o9_0 P) (.node (o17_0 P) (.node (o33_0 P) (.node (o65_0 P) (.node (o129_0 P) (.node (o257_0 P) .nil .nil) .nil) (.node (o193_0 P) .nil .nil)) (.node (o97_0 P) (.node (o161_0 P) .nil .nil) (.node (G 14) .nil .nil))) (.node (o49_0 P) (.node (o81_0 P) (.node (o145_0 P) (.node (o273_0 P) .nil .nil) .nil) (.node (o209_0 P) .nil .nil)) (.node (o113_0 P) (.node (o177_0 P) .nil .nil) (.node (G 30) .nil .nil)))) (.node (o25_0 P) (.node (o41_0 P) (.node (o73_0 P) (.node (o137_0 P) (.node (o265_0 P) .nil .nil) .nil) (.node (o201_0 P) .nil .nil)) (.node (o105_0 P) (.node (o169_0 P) .nil .nil) (.node (G 22) .nil .nil))) (.node (o57_0 P) (.node (o89_0 P) (.node (o153_0 P) (.node (o281_0 P) .nil .nil) .nil) (.node (G 6) .nil .nil)) (.node (o121_0 P) (.node (o185_0 P) .nil .nil) (.node (G 38) .nil .nil))))) (.node (o13_0 P) (.node (o21_0 P) (.node (o37_0 P) (.node (o69_0 P) (.node (o133_0 P) (.node (o261_0 P) .nil .nil) .nil) (.node (o197_0 P) .nil .nil)) (.node (o101_0 P) (.node (o165_0 P) .nil .nil) (.node (G 18) .nil .nil))) (.node (o53_0 P) (.node (o85_0 P) (.node (o149_0 P) (.node (o277_0 P) .nil .nil) .nil) (.node (G 2) .nil .nil)) (.node (o117_0 P) (.node (o181_0 P) .nil .nil) (.node (G 34) .nil .nil)))) (.node (o29_10 P) (.node (o45_0 P) (.node (o77_0 P) (.node (o141_0 P) (.node (o269_0 P) .nil .nil) .nil) (.node (o205_0 P) .nil .nil)) (.node (o109_0 P) (.node (o173_0 P) .nil .nil) (.node (G 26) .nil .nil))) (.node (o61_0 P) (.node (o93_0 P) (.node (o157_0 P) .nil .nil) (.node (G 10) .nil .nil)) (.node (o125_0 P) (.node (o189_0 P) .nil .nil) (.node (o253_0 P) .nil .nil))))))) (.node (o2_0 P) (.node (o4_0 P) (.node (o8_0 P) (.node (o16_0 P) (.node (o32_0 P) (.node (o64_0 P) (.node (o128_0 P) (.node (o256_0 P) .nil .nil) .nil) (.node (o192_0 P) .nil .nil)) (.node (o96_0 P) (.node (o160_0 P) .nil .nil) (.node (G 13) .nil .nil))) (.node (o48_0 P) (.node (o80_0 P) (.node (o144_0 P) (.node (o272_0 P) .nil .nil) .nil) (.node (o208_0 P) .nil .nil)) (.node (o112_0 P) (.node (o176_0 P) .nil .nil) (.node (G 29) .nil .nil)))) (.node (o24_0 P) (.node (o40_0 P) (.node (o72_0 P) (.node (o136_0 P) (.node (o264_0 P) .nil .nil) .nil) (.node (o200_0 P) .nil .nil)) (.node (o104_0 P) (.node (o168_0 P) .nil .nil) (.node (G 21) .nil .nil))) (.node (o56_0 P) (.node (o88_0 P) (.node (o152_0 P) (.node (o280_0 P) .nil .nil) .nil) (.node (G 5) .nil .nil)) (.node (o120_0 P) (.node (o184_0 P) .nil .nil) (.node (G 37) .nil .nil))))) (.node (o12_0 P) (.node (o20_0 P) (.node (o36_0 P) (.node (o68_0 P) (.node (o132_0 P) (.node (o260_0 P) .nil .nil) .nil) (.node (o196_0 P) .nil .nil)) (.node (o100_0 P) (.node (o164_0 P) .nil .nil) (.node (G 17) .nil .nil))) (.node (o52_0 P) (.node (o84_0 P) (.node (o148_0 P) (.node (o276_0 P) .nil .nil) .nil) (.node (G 1) .nil .nil)) (.node (o116_0 P) (.node (o180_0 P) .nil .nil) (.node (G 33) .nil .nil)))) (.node (o28_0 P) (.node (o44_0 P) (.node (o76_0 P) (.node (o140_0 P) (.node (o268_0 P) .nil .nil) .nil) (.node (o204_0 P) .nil .nil)) (.node (o108_0 P) (.node (o172_0 P) .nil .nil) (.node (G 25) .nil .nil))) (.node (o60_0 P) (.node (o92_0 P) (.node (o156_0 P) .nil .nil) (.node (G 9) .nil .nil)) (.node (o124_0 P) (.node (o188_0 P) .nil .nil) (.node (o252_0 P) .nil .nil)))))) (.node (o6_0 P) (.node (o10_0 P) (.node (o18_0 P) (.node (o34_0 P) (.node (o66_0 P) (.node (o130_0 P) (.node (o258_0 P) .nil .nil) .nil) (.node (o194_0 P) .nil .nil)) (.node (o98_0 P) (.node (o162_0 P) .nil .nil) (.node (G 15) .nil .nil))) (.node (o50_0 P) (.node (o82_0 P) (.node (o146_0 P) (.node (o274_0 P) .nil .nil) .nil) (.node (o210_0 P) .nil .nil)) (.node (o114_0 P) (.node (o178_0 P) .nil .nil) (.node (G 31) .nil .nil)))) (.node (o26_0 P) (.node (o42_0 P) (.node (o74_0 P) (.node (o138_0 P) (.node (o266_0 P) .nil .nil) .nil) (.node (o202_0 P) .nil .nil)) (.node (o106_0 P) (.node (o170_0 P) .nil .nil) (.node (G 23) .nil .nil))) (.node (o58_0 P) (.node (o90_0 P) (.node (o154_0 P) (.node (o282_0 P) .nil .nil) .nil) (.node (G 7) .nil .nil)) (.node (o122_0 P) (.node (o186_0 P) .nil .nil) (.node (o250_0 P) .nil .nil))))) (.node (o14_0 P) (.node (o22_0 P) (.node (o38_0 P) (.node (o70_0 P) (.node (o134_0 P) (.node (o262_0 P) .nil .nil) .nil) (.node (o198_0 P) .nil .nil)) (.node (o102_0 P) (.node (o166_0 P) .nil .nil) (.node (G 19) .nil .nil))) (.node (o54_0 P) (.node (o86_0 P) (.node (o150_0 P) (.node (o278_0 P) .nil .nil) .nil) (.node (G 3) .nil .nil)) (.node (o118_0 P) (.node (o182_0 P) .nil .nil) (.node (G 35) .nil .nil)))) (.node (o30_0 P) (.node (o46_0 P) (.node (o78_0 P) (.node (o142_0 P) (.node (o270_0 P) .nil .nil) .nil) (.node (o206_0 P) .nil .nil)) (.node (o110_0 P) (.node (o174_0 P) .nil .nil) (.node (G 27) .nil .nil))) (.node (o62_0 P) (.node (o94_0 P) (.node (o158_0 P) .nil .nil) (.node (G 11) .nil .nil)) (.node (o126_0 P) (.node (o190_0 P) .nil .nil) (.node (o254_0 P) .nil .nil))))))))
def nf : Nat := 284
def kf : Nat := 2640
def stf : Nat := 1
def pf : PySem.Pos := ⟨113, 0, 156, 55⟩
noncomputable def KK (P : Params) : Frag := [(0, (o0_0 P)), (1, (o1_0 P)), (2, (o2_0 P)), (3, (o3_21 P)), (4, (o4_0 P)), (5, (o5_0 P)), (6, (o6_0 P)), (7, (o7_0 P)), (8, (o8_0 P)), (9, (o9_0 P)), (10, (o10_0 P)), (11, (o11_0 P)), (12, (o12_0 P)), (13, (o13_0 P)), (14, (o14_0 P)), (15, (o15_0 P)), (16, (o16_0 P)), (17, (o17_0 P)), (18, (o18_0 P)), (19, (o19_0 P)), (20, (o20_0 P)), (21, (o21_0 P)), (22, (o22_0 P)), (23, (o23_0 P)), (24, (o24_0 P)), (25, (o25_0 P)), (26, (o26_0 P)), (27, (o27_0 P)), (28, (o28_0 P)), (29, (o29_10 P)), (30, (o30_0 P)), (31, (o31_0 P)), (32, (o32_0 P)), (33, (o33_0 P)), (34, (o34_0 P)), (35, (o35_0 P)), (36, (o36_0 P)), (37, (o37_0 P)), (38, (o38_0 P)), (39, (o39_0 P)), (40, (o40_0 P)), (41, (o41_0 P)), (42, (o42_0 P)), (43, (o43_0 P)), (44, (o44_0 P)), (45, (o45_0 P)), (46, (o46_0 P)), (47, (o47_0 P)), (48, (o48_0 P)), (49, (o49_0 P)), (50, (o50_0 P)), (51, (o51_0 P)), (52, (o52_0 P)), (53, (o53_0 P)), (54, (o54_0 P)), (55, (o55_0 P)), (56, (o56_0 P)), (57, (o57_0 P)), (58, (o58_0 P)), (59, (o59_0 P)), (60, (o60_0 P)), (61, (o61_0 P)), (62, (o62_0 P)), (63, (o63_0 P)), (64, (o64_0 P)), (65, (o65_0 P)), (66, (o66_0 P)), (67, (o67_0 P)), (68, (o68_0 P)), (69, (o69_0 P)), (70, (o70_0 P)), (71, (o71_0 P)), (72, (o72_0 P)), (73, (o73_0 P)), (74, (o74_0 P)), (75, (o75_0 P)), (76, (o76_0 P)), (77, (o77_0 P)), (78, (o78_0 P)), (79, (o79_0 P)), (80, (o80_0 P)), (81, (o81_0 P)), (82, (o82_0 P)), (83, (o83_0 P)), (84, (o84_0 P)), (85, (o85_0 P)), (86, (o86_0 P)), (87, (o87_0 P)), (88, (o88_0 P)), (89, (o89_0 P)), (90, (o90_0 P)), (91, (o91_0 P)), (92, (o92_0 P)), (93, (o93_0 P)), (94, (o94_0 P)), (95, (o95_0 P)), (96, (o96_0 P)), (97, (o97_0 P)), (98, (o98_0 P)), (99, (o99_0 P)), (100, (o100_0 P)), (101, (o101_0 P)), (102, (o102_0 P)), (103, (o103_0 P)), (104, (o104_0 P)), (105, (o105_0 P)), (106, (o106_0 P)), (107, (o107_0 P)), (108, (o108_0 P)), (109, (o109_0 P)), (110, (o110_0 P)), (111, (o111_0 P)), (112, (o112_0 P)), (113, (o113_0 P)), (114, (o114_0 P)), (115, (o115_0 P)), (116, (o116_0 P)), (117, (o117_0 P)), (118, (o118_0 P)), (119, (o119_0 P)), (120, (o120_0 P)), (121, (o121_0 P)), (122, (o122_0 P)), (123, (o123_0 P)), (124, (o124_0 P)), (125, (o125_0 P)), (126, (o126_0 P)), (127, (o127_0 P)), (128, (o128_0 P)), (129, (o129_0 P)), (130, (o130_0 P)), (131, (o131_0 P)), (132, (o132_0 P)), (133, (o133_0 P)), (134, (o134_0 P)), (135, (o135_0 P)), (136, (o136_0 P)), (137, (o137_0 P)), (138, (o138_0 P)), (139, (o139_0 P)), (140, (o140_0 P)), (141, (o141_0 P)), (142, (o142_0 P)), (143, (o143_0 P)), (144, (o144_0 P)), (145, (o145_0 P)), (146, (o146_0 P)), (147, (o147_0 P)), (148, (o148_0 P)), (149, (o149_0 P)), (150, (o150_0 P)), (151, (o151_0 P)), (152, (o152_0 P)), (153, (o153_0 P)), (154, (o154_0 P)), (155, (o155_0 P)), (156, (o156_0 P)), (157, (o157_0 P)), (158, (o158_0 P)), (159, (o159_0 P)), (160, (o160_0 P)), (161, (o161_0 P)), (162, (o162_0 P)), (163, (o163_0 P)), (164, (o164_0 P)), (165, (o165_0 P)), (166, (o166_0 P)), (167, (o167_0 P)), (168, (o168_0 P)), (169, (o169_0 P)), (170, (o170_0 P)), (171, (o171_0 P)), (172, (o172_0 P)), (173, (o173_0 P)), (174, (o174_0 P)), (175, (o175_0 P)), (176, (o176_0 P)), (177, (o177_0 P)), (178, (o178_0 P)), (179, (o179_0 P)), (180, (o180_0 P)), (181, (o181_0 P)), (182, (o182_0 P)), (183, (o183_0 P)), (184, (o184_0 P)), (185, (o185_0 P)), (186, (o186_0 P)), (187, (o187_0 P)), (188, (o188_0 P)), (189, (o189_0 P)), (190, (o190_0 P)), (191, (o191_0 P)), (192, (o192_0 P)), (193, (o193_0 P)), (194, (o194_0 P)), (195, (o195_0 P)), (196, (o196_0 P)), (197, (o197_0 P)), (198, (o198_0 P)), (199, (o199_0 P)), (200, (o200_0 P)), (201, (o201_0 P)), (202, (o202_0 P)), (203, (o203_0 P)), (204, (o204_0 P)), (205, (o205_0 P)), (206, (o206_0 P)), (207, (o207_0 P)), (208, (o208_0 P)), (209, (o209_0 P)), (210, (o210_0 P)), (250, (o250_0 P)), (251, (o251_0 P)), (252, (o252_0 P)), (253, (o253_0 P)), (254, (o254_0 P)), (255, (o255_0 P)), (256, (o256_0 P)), (257, (o257_0 P)), (258, (o258_0 P)), (259, (o259_0 P)), (260, (o260_0 P)), (261, (o261_0 P)), (262, (o262_0 P)), (263, (o263_0 P)), (264, (o264_0 P)), (265, (o265_0 P)), (266, (o266_0 P)), (267, (o267_0 P)), (268, (o268_0 P)), (269, (o269_0 P)), (270, (o270_0 P)), (271, (o271_0 P)), (272, (o272_0 P)), (273, (o273_0 P)), (274, (o274_0 P)), (275, (o275_0 P)), (276, (o276_0 P)), (277, (o277_0 P)), (278, (o278_0 P)), (279, (o279_0 P)), (280, (o280_0 P)), (281, (o281_0 P)), (282, (o282_0 P)), (283, (o283_0 P))]
-- frame 31 code (.ref 30) framePos ⟨0, 0, 0, 0⟩ life 0 0

def benv : Env := { scope := pw.main.scope, locals := mainNs, globals := mainNs, cells := [], code := .ref 30, frame := some 31 }
def bbody : List Stmt := behindTheImports pw
def bcode : Code := .body bbody benv
abbrev q0 : PySem.Pos := ⟨0, 0, 0, 0⟩
abbrev stT (T : Params → BT) (n k : Nat) (w : World) (os : OsState) : SharedT := ⟨T w.params, n, life0, Array.mk [], {}, k, os⟩
abbrev stG (T : Params → (Nat → Obj) → BT) (G : Nat → Obj) (n k : Nat) (w : World) (os : OsState) : SharedT := ⟨T w.params G, n, life0, Array.mk [], {}, k, os⟩
theorem open_ok : ∀ w : World, (fencedOpening treeTable pw w 40000).map (fun s => (s.heap, s.gens, s.drawn, s.toks)) = some (H0 w.params, Array.mk [], {}, kI) := by
  have key : ∀ w : World, (fencedOpening treeTable pw w 1000).map (fun s => (s.heap, s.gens, s.drawn, s.toks)) = some (H0 w.params, Array.mk [], {}, kI) := by
    intro w
    unfold fencedOpening
    rw [PySem.W.Fast.te10274390034422433532, PySem.W.Fast.te1435165496053646825, PySem.W.Fast.te14289696077712309145, PySem.W.Fast.te14364793385576792824]
    kernel_rfl
  intro w
  obtain ⟨s, hs, e⟩ := Option.map_eq_some_iff.mp (key w)
  obtain ⟨s1, h1, h2⟩ := Option.bind_eq_some_iff.mp hs
  have h3 := importEnds_mono 39000 _ _ _ _ h1
  unfold fencedOpening
  rw [show (40000 : Nat) = 1000 + 39000 from rfl, h3]
  show ((fenceModules? pw s1).map _) = _
  rw [h2]
  exact congrArg some e
theorem size_ok : ∀ w : World, ((H0 w.params).isNs mainGlobals && (Array.mk ([] : List GenState)).size == 0, (H0 w.params).objs.size, (H0 w.params).nsMap mainGlobals "__annotations__") = (true, m0, ann0) := by
  intro w; kernel_rfl
theorem pre_ok : ∀ (w : World) (os : OsState), topGo treeTable pw w m0 ann0 12 ⟨H0 w.params, Array.mk [], {}, kI, os⟩ (topStub pw) = some ((stT Ta na ka w os).abs, ⟨denote treeTable bcode, bcode, pa, [topFrame q0]⟩) := by
  intro w os
  rw [PySem.W.Fast.te15667345088766844465, PySem.W.Fast.te14364793385576792824, PySem.W.Fast.te11892475500146522536]
  kernel_rfl
theorem block_ok : ∀ (w : World) (os : OsState), segRunT treeTable pw w m0 ann0 1 1 (stT Ta na ka w os) (blockOf bbody benv bcode pa [topFrame q0]) = some (.next, stT Tb nb kb w os, bcode, pb) := by
  intro w os
  rw [PySem.W.Fast.te10110043849684766642, PySem.W.Fast.te14364793385576792824]
  kernel_rfl

theorem seg0 : ∀ (w : World) (os : OsState), segRunT treeTable pw w m0 ann0 1 (st0 + 1) (stT Tb nb kb w os) (pieceOf (bd 1) benv bcode pb [topFrame q0]) = some (.next, stT T0 n0 k0 w os, bcode, p0) := by
  intro w os
  rw [PySem.W.Fast.te10110043849684766642, PySem.W.Fast.te14364793385576792824]
  kernel_rfl

theorem seg1 : ∀ (w : World) (os : OsState), segRunT treeTable pw w m0 ann0 1 (st1 + 1) (stT T0 n0 k0 w os) (pieceOf (bd 2) benv bcode p0 [topFrame q0]) = some (.next, stT T1 n1 k1 w os, bcode, p1) := by
  intro w os
  rw [PySem.W.Fast.te10110043849684766642, PySem.W.Fast.te14364793385576792824]
  kernel_rfl

theorem seg2 : ∀ (w : World) (os : OsState), segRunT treeTable pw w m0 ann0 1 (st2 + 1) (stT T1 n1 k1 w os) (pieceOf (bd 3) benv bcode p1 [topFrame q0]) = some (.next, stT T2 n2 k2 w os, bcode, p2) := by
  intro w os
  rw [PySem.W.Fast.te10110043849684766642, PySem.W.Fast.te14364793385576792824]
  kernel_rfl

theorem seg3 : ∀ (w : World) (os : OsState), segRunT treeTable pw w m0 ann0 1 (st3 + 1) (stT T2 n2 k2 w os) (pieceOf (bd 4) benv bcode p2 [topFrame q0]) = some (.next, stT T3 n3 k3 w os, bcode, p3) := by
  intro w os
  rw [PySem.W.Fast.te10110043849684766642, PySem.W.Fast.te14364793385576792824]
  kernel_rfl

theorem seg4 : ∀ (w : World) (os : OsState), segRunT treeTable pw w m0 ann0 1 (st4 + 1) (stT T3 n3 k3 w os) (pieceOf (bd 5) benv bcode p3 [topFrame q0]) = some (.next, stT T4 n4 k4 w os, bcode, p4) := by
  intro w os
  rw [PySem.W.Fast.te10110043849684766642, PySem.W.Fast.te14364793385576792824]
  kernel_rfl

theorem seg5 : ∀ (w : World) (os : OsState), segRunT treeTable pw w m0 ann0 1 (st5 + 1) (stT T4 n4 k4 w os) (pieceOf (bd 6) benv bcode p4 [topFrame q0]) = some (.next, stT T5 n5 k5 w os, bcode, p5) := by
  intro w os
  rw [PySem.W.Fast.te10110043849684766642, PySem.W.Fast.te14364793385576792824]
  kernel_rfl

theorem seg6 : ∀ (w : World) (os : OsState), segRunT treeTable pw w m0 ann0 1 (st6 + 1) (stT T5 n5 k5 w os) (pieceOf (bd 7) benv bcode p5 [topFrame q0]) = some (.next, stT T6 n6 k6 w os, bcode, p6) := by
  intro w os
  rw [PySem.W.Fast.te10110043849684766642, PySem.W.Fast.te14364793385576792824]
  kernel_rfl

theorem seg7 : ∀ (w : World) (os : OsState), segRunT treeTable pw w m0 ann0 1 (st7 + 1) (stT T6 n6 k6 w os) (pieceOf (bd 8) benv bcode p6 [topFrame q0]) = some (.next, stT T7 n7 k7 w os, bcode, p7) := by
  intro w os
  rw [PySem.W.Fast.te10110043849684766642, PySem.W.Fast.te14364793385576792824]
  kernel_rfl

theorem seg8 : ∀ (w : World) (os : OsState), segRunT treeTable pw w m0 ann0 1 (st8 + 1) (stT T7 n7 k7 w os) (pieceOf (bd 9) benv bcode p7 [topFrame q0]) = some (.next, stT T8 n8 k8 w os, bcode, p8) := by
  intro w os
  rw [PySem.W.Fast.te10110043849684766642, PySem.W.Fast.te14364793385576792824]
  kernel_rfl

theorem seg9 : ∀ (w : World) (os : OsState), segRunT treeTable pw w m0 ann0 1 (st9 + 1) (stT T8 n8 k8 w os) (pieceOf (bd 10) benv bcode p8 [topFrame q0]) = some (.next, stT T9 n9 k9 w os, bcode, p9) := by
  intro w os
  rw [PySem.W.Fast.te10110043849684766642, PySem.W.Fast.te14364793385576792824]
  kernel_rfl

theorem seg10 : ∀ (w : World) (os : OsState), segRunT treeTable pw w m0 ann0 1 (st10 + 1) (stT T9 n9 k9 w os) (pieceOf (bd 11) benv bcode p9 [topFrame q0]) = some (.next, stT T10 n10 k10 w os, bcode, p10) := by
  intro w os
  rw [PySem.W.Fast.te10110043849684766642, PySem.W.Fast.te14364793385576792824]
  kernel_rfl

def Seg11 (w : World) : Prop := ∀ (os : OsState), segRunT treeTable pw w m0 ann0 1 (st11 + 1) (stT T10 n10 k10 w os) (pieceOf (bd 12) benv bcode p10 [topFrame q0]) = some (.next, stT T11 n11 k11 w os, bcode, p11)
theorem seg11' : ∀ (w : World), Seg11 w := by
  have key : ∀ (b c : Bool) (w : World), Seg11 ((w.withFollow "special-get-raises" c).withFollow "set-order" b) := by
    intro b c w os
    rw [PySem.W.Fast.te10110043849684766642, PySem.W.Fast.te14364793385576792824]
    cases b <;> cases c <;> kernel_rfl
  intro w
  have h := key (w.params.followText "set-order") (w.params.followText "special-get-raises") w
  rwa [World.withFollow_self, World.withFollow_self] at h
theorem seg11 : ∀ (w : World) (os : OsState), segRunT treeTable pw w m0 ann0 1 (st11 + 1) (stT T10 n10 k10 w os) (pieceOf (bd 12) benv bcode p10 [topFrame q0]) = some (.next, stT T11 n11 k11 w os, bcode, p11) := fun w os => seg11' w os

theorem seg12 : ∀ (w : World) (os : OsState), segRunT treeTable pw w m0 ann0 1 (st12 + 1) (stT T11 n11 k11 w os) (pieceOf (bd 13) benv bcode p11 [topFrame q0]) = some (.next, stT T12 n12 k12 w os, bcode, p12) := by
  intro w os
  rw [PySem.W.Fast.te10110043849684766642, PySem.W.Fast.te14364793385576792824]
  kernel_rfl

theorem seg14 : ∀ (w : World) (os : OsState) (G : Nat → Obj), segRunT treeTable pw w m0 ann0 1 (st14 + 1) (stG T13 G n13 k13 w os) (pieceOf (bd 15) benv bcode p13 [topFrame q0]) = some (.next, stG T14 G n14 k14 w os, bcode, p14) := by
  intro w os G
  rw [PySem.W.Fast.te10110043849684766642, PySem.W.Fast.te14364793385576792824]
  kernel_rfl

theorem seg15 : ∀ (w : World) (os : OsState) (G : Nat → Obj), segRunT treeTable pw w m0 ann0 1 (st15 + 1) (stG T14 G n14 k14 w os) (pieceOf (bd 16) benv bcode p14 [topFrame q0]) = some (.next, stG T15 G n15 k15 w os, bcode, p15) := by
  intro w os G
  rw [PySem.W.Fast.te10110043849684766642, PySem.W.Fast.te14364793385576792824]
  kernel_rfl

theorem seg16 : ∀ (w : World) (os : OsState) (G : Nat → Obj), segRunT treeTable pw w m0 ann0 1 (st16 + 1) (stG T15 G n15 k15 w os) (pieceOf (bd 17) benv bcode p15 [topFrame q0]) = some (.next, stG T16 G n16 k16 w os, bcode, p16) := by
  intro w os G
  rw [PySem.W.Fast.te10110043849684766642, PySem.W.Fast.te14364793385576792824]
  kernel_rfl

theorem seg17 : ∀ (w : World) (os : OsState) (G : Nat → Obj), segRunT treeTable pw w m0 ann0 1 (st17 + 1) (stG T16 G n16 k16 w os) (pieceOf (bd 18) benv bcode p16 [topFrame q0]) = some (.next, stG T17 G n17 k17 w os, bcode, p17) := by
  intro w os G
  rw [PySem.W.Fast.te10110043849684766642, PySem.W.Fast.te14364793385576792824]
  kernel_rfl

theorem seg18 : ∀ (w : World) (os : OsState) (G : Nat → Obj), segRunT treeTable pw w m0 ann0 1 (st18 + 1) (stG T17 G n17 k17 w os) (pieceOf (bd 19) benv bcode p17 [topFrame q0]) = some (.next, stG T18 G n18 k18 w os, bcode, p18) := by
  intro w os G
  rw [PySem.W.Fast.te10110043849684766642, PySem.W.Fast.te14364793385576792824]
  kernel_rfl

theorem seg19 : ∀ (w : World) (os : OsState) (G : Nat → Obj), segRunT treeTable pw w m0 ann0 1 (st19 + 1) (stG T18 G n18 k18 w os) (pieceOf (bd 20) benv bcode p18 [topFrame q0]) = some (.next, stG T19 G n19 k19 w os, bcode, p19) := by
  intro w os G
  rw [PySem.W.Fast.te10110043849684766642, PySem.W.Fast.te14364793385576792824]
  kernel_rfl

theorem seg20 : ∀ (w : World) (os : OsState) (G : Nat → Obj), segRunT treeTable pw w m0 ann0 1 (st20 + 1) (stG T19 G n19 k19 w os) (pieceOf (bd 21) benv bcode p19 [topFrame q0]) = some (.next, stG T20 G n20 k20 w os, bcode, p20) := by
  intro w os G
  rw [PySem.W.Fast.te10110043849684766642, PySem.W.Fast.te14364793385576792824]
  kernel_rfl

end
end Hd2
namespace Hd2
noncomputable section

theorem seg_mono {tb : String → Option Builtin} {p : Program} {w : World} {n₀ : Nat} {ann : Option Value} {b : Nat} (k : Nat) : ∀ {n : Nat} {s : Shared} {t : Thread} {r : Flow × Shared × Code × PySem.Pos}, segRun tb p w n₀ ann b n s t = some r → segRun tb p w n₀ ann b (n + k) s t = some r
  | 0, s, t, r, h => by simp [segRun] at h
  | n + 1, s, t, r, h => by
    rw [show n + 1 + k = n + k + 1 by omega]
    unfold segRun at h ⊢
    cases he : endAt b t with
    | some f => rw [he] at h; exact h
    | none =>
      rw [he] at h
      cases hk : stepOk n₀ ann t with
      | false => rw [hk] at h; cases h
      | true =>
        rw [hk] at h
        cases hs : step (denote tb) p w s t with
        | halt o s₂ => rw [hs] at h; cases h
        | go s₂ t₂ => rw [hs] at h; exact seg_mono k h

def dKeys : Stmt → List (Option PySem.Expr) | .Assign _ (.Dict ks _ _) _ => ks | _ => []
def dVals : Stmt → List PySem.Expr | .Assign _ (.Dict _ vs _) _ => vs | _ => []
def b3ks : List (Option PySem.Expr) := dKeys (bd 14)
def b3vs : List PySem.Expr := dVals (bd 14)
def b3l : List (Int × Str) := (Hs.litPairs b3ks b3vs).getD []
abbrev b3tgt : PySem.Expr := .Name (s "b3_exceptions") ⟨88, 0, 88, 13⟩
abbrev b3dct : PySem.Expr := .Dict b3ks b3vs ⟨88, 16, 88, 8704⟩
theorem b3_stmt : bd 14 = .Assign [b3tgt] b3dct ⟨88, 0, 88, 8704⟩ := by kernel_rfl
theorem b3_some : Hs.litPairs b3ks b3vs = some b3l := by
  have h : (Hs.litPairs b3ks b3vs).isSome = true := by kernel_rfl
  unfold b3l
  cases e : Hs.litPairs b3ks b3vs with
  | none => rw [e] at h; cases h
  | some l => rfl
theorem b3_len : b3l.length = 650 := by kernel_rfl
theorem b3_rising : Hs.rising (-1) b3l = true := by kernel_rfl
def b3post (v : Value) : Sem Flow := do assignStores benv v (← swappedStores [b3tgt] b3dct benv) ((assignEach [b3tgt] benv).map (·.2))
theorem b3_exec : exec (bd 14) benv = (do standAt ⟨88, 0, 88, 8704⟩; let v ← eval b3dct benv; b3post v) := by
  rw [b3_stmt]; rfl
theorem b3_last : ∀ (w : World) (os : OsState) (G : Nat → Obj) (p : PySem.Pos), segRunT treeTable pw w m0 ann0 1 20 (stG TX G nX kX w os) ⟨(b3post (.ref 211)).wrap doneF deadEnd id id, bcode, p, [topFrame q0]⟩ = some (.next, stG T13 G n13 k13 w os, bcode, p13) := by
  intro w os G p
  rw [PySem.W.Fast.te10110043849684766642, PySem.W.Fast.te14364793385576792824]
  kernel_rfl
theorem txLow (P : Params) (G : Nat → Obj) : ∀ i, i < 211 → (TX P G).get i = (T12 P).get i
  | 0, _ => rfl
  | 1, _ => rfl
  | 2, _ => rfl
  | 3, _ => rfl
  | 4, _ => rfl
  | 5, _ => rfl
  | 6, _ => rfl
  | 7, _ => rfl
  | 8, _ => rfl
  | 9, _ => rfl
  | 10, _ => rfl
  | 11, _ => rfl
  | 12, _ => rfl
  | 13, _ => rfl
  | 14, _ => rfl
  | 15, _ => rfl
  | 16, _ => rfl
  | 17, _ => rfl
  | 18, _ => rfl
  | 19, _ => rfl
  | 20, _ => rfl
  | 21, _ => rfl
  | 22, _ => rfl
  | 23, _ => rfl
  | 24, _ => rfl
  | 25, _ => rfl
  | 26, _ => rfl
  | 27, _ => rfl
  | 28, _ => rfl
  | 29, _ => rfl
  | 30, _ => rfl
  | 31, _ => rfl
  | 32, _ => rfl
  | 33, _ => rfl
  | 34, _ => rfl
  | 35, _ => rfl
  | 36, _ => rfl
  | 37, _ => rfl
  | 38, _ => rfl
  | 39, _ => rfl
  | 40, _ => rfl
  | 41, _ => rfl
  | 42, _ => rfl
  | 43, _ => rfl
  | 44, _ => rfl
  | 45, _ => rfl
  | 46, _ => rfl
  | 47, _ => rfl
  | 48, _ => rfl
  | 49, _ => rfl
  | 50, _ => rfl
  | 51, _ => rfl
  | 52, _ => rfl
  | 53, _ => rfl
  | 54, _ => rfl
  | 55, _ => rfl
  | 56, _ => rfl
  | 57, _ => rfl
  | 58, _ => rfl
  | 59, _ => rfl
  | 60, _ => rfl
  | 61, _ => rfl
  | 62, _ => rfl
  | 63, _ => rfl
  | 64, _ => rfl
  | 65, _ => rfl
  | 66, _ => rfl
  | 67, _ => rfl
  | 68, _ => rfl
  | 69, _ => rfl
  | 70, _ => rfl
  | 71, _ => rfl
  | 72, _ => rfl
  | 73, _ => rfl
  | 74, _ => rfl
  | 75, _ => rfl
  | 76, _ => rfl
  | 77, _ => rfl
  | 78, _ => rfl
  | 79, _ => rfl
  | 80, _ => rfl
  | 81, _ => rfl
  | 82, _ => rfl
  | 83, _ => rfl
  | 84, _ => rfl
  | 85, _ => rfl
  | 86, _ => rfl
  | 87, _ => rfl
  | 88, _ => rfl
  | 89, _ => rfl
  | 90, _ => rfl
  | 91, _ => rfl
  | 92, _ => rfl
  | 93, _ => rfl
  | 94, _ => rfl
  | 95, _ => rfl
  | 96, _ => rfl
  | 97, _ => rfl
  | 98, _ => rfl
  | 99, _ => rfl
  | 100, _ => rfl
  | 101, _ => rfl
  | 102, _ => rfl
  | 103, _ => rfl
  | 104, _ => rfl
  | 105, _ => rfl
  | 106, _ => rfl
  | 107, _ => rfl
  | 108, _ => rfl
  | 109, _ => rfl
  | 110, _ => rfl
  | 111, _ => rfl
  | 112, _ => rfl
  | 113, _ => rfl
  | 114, _ => rfl
  | 115, _ => rfl
  | 116, _ => rfl
  | 117, _ => rfl
  | 118, _ => rfl
  | 119, _ => rfl
  | 120, _ => rfl
  | 121, _ => rfl
  | 122, _ => rfl
  | 123, _ => rfl
  | 124, _ => rfl
  | 125, _ => rfl
  | 126, _ => rfl
  | 127, _ => rfl
  | 128, _ => rfl
  | 129, _ => rfl
  | 130, _ => rfl
  | 131, _ => rfl
  | 132, _ => rfl
  | 133, _ => rfl
  | 134, _ => rfl
  | 135, _ => rfl
  | 136, _ => rfl
  | 137, _ => rfl
  | 138, _ => rfl
  | 139, _ => rfl
  | 140, _ => rfl
  | 141, _ => rfl
  | 142, _ => rfl
  | 143, _ => rfl
  | 144, _ => rfl
  | 145, _ => rfl
  | 146, _ => rfl
  | 147, _ => rfl
  | 148, _ => rfl
  | 149, _ => rfl
  | 150, _ => rfl
  | 151, _ => rfl
  | 152, _ => rfl
  | 153, _ => rfl
  | 154, _ => rfl
  | 155, _ => rfl
  | 156, _ => rfl
  | 157, _ => rfl
  | 158, _ => rfl
  | 159, _ => rfl
  | 160, _ => rfl
  | 161, _ => rfl
  | 162, _ => rfl
  | 163, _ => rfl
  | 164, _ => rfl
  | 165, _ => rfl
  | 166, _ => rfl
  | 167, _ => rfl
  | 168, _ => rfl
  | 169, _ => rfl
  | 170, _ => rfl
  | 171, _ => rfl
  | 172, _ => rfl
  | 173, _ => rfl
  | 174, _ => rfl
  | 175, _ => rfl
  | 176, _ => rfl
  | 177, _ => rfl
  | 178, _ => rfl
  | 179, _ => rfl
  | 180, _ => rfl
  | 181, _ => rfl
  | 182, _ => rfl
  | 183, _ => rfl
  | 184, _ => rfl
  | 185, _ => rfl
  | 186, _ => rfl
  | 187, _ => rfl
  | 188, _ => rfl
  | 189, _ => rfl
  | 190, _ => rfl
  | 191, _ => rfl
  | 192, _ => rfl
  | 193, _ => rfl
  | 194, _ => rfl
  | 195, _ => rfl
  | 196, _ => rfl
  | 197, _ => rfl
  | 198, _ => rfl
  | 199, _ => rfl
  | 200, _ => rfl
  | 201, _ => rfl
  | 202, _ => rfl
  | 203, _ => rfl
  | 204, _ => rfl
  | 205, _ => rfl
  | 206, _ => rfl
  | 207, _ => rfl
  | 208, _ => rfl
  | 209, _ => rfl
  | 210, _ => rfl
  | n + 211, h => absurd h (by omega)
theorem txHigh (P : Params) (G : Nat → Obj) : ∀ i, i < 39 → (TX P G).get (211 + i) = some (G i)
  | 0, _ => rfl
  | 1, _ => rfl
  | 2, _ => rfl
  | 3, _ => rfl
  | 4, _ => rfl
  | 5, _ => rfl
  | 6, _ => rfl
  | 7, _ => rfl
  | 8, _ => rfl
  | 9, _ => rfl
  | 10, _ => rfl
  | 11, _ => rfl
  | 12, _ => rfl
  | 13, _ => rfl
  | 14, _ => rfl
  | 15, _ => rfl
  | 16, _ => rfl
  | 17, _ => rfl
  | 18, _ => rfl
  | 19, _ => rfl
  | 20, _ => rfl
  | 21, _ => rfl
  | 22, _ => rfl
  | 23, _ => rfl
  | 24, _ => rfl
  | 25, _ => rfl
  | 26, _ => rfl
  | 27, _ => rfl
  | 28, _ => rfl
  | 29, _ => rfl
  | 30, _ => rfl
  | 31, _ => rfl
  | 32, _ => rfl
  | 33, _ => rfl
  | 34, _ => rfl
  | 35, _ => rfl
  | 36, _ => rfl
  | 37, _ => rfl
  | 38, _ => rfl
  | n + 39, h => absurd h (by omega)
theorem segBig (w : World) (os : OsState) : ∃ (G : Nat → Obj), Hs.Bears (absHeap (TX w.params G) 250 life0) 211 b3l ∧
    segRun treeTable pw w m0 ann0 1 13000 (stT T12 n12 k12 w os).abs (pieceOf (bd 14) benv bcode p12 [topFrame q0]) = some (.next, (stG T13 G n13 k13 w os).abs, bcode, p13) := by
  have hsz : (stT T12 n12 k12 w os).abs.heap.objs.size = 211 := absHeap_size _ _ _
  obtain ⟨h', a, M⟩ := Hs.st_Dict (X := ⟨pw, w, m0, ann0, bbody, benv, q0⟩) (s := (stT T12 n12 k12 w os).abs) (env := benv) (pos := ⟨88, 16, 88, 8704⟩) 37 b3_some (by rw [b3_len]; decide) (by rw [b3_len]; decide) (by rw [hsz]; exact Nat.le_of_ble_eq_true rfl) (by rw [hsz]; exact Nat.le_of_ble_eq_true rfl) (Hs.apart_of_rising _ _ (by decide) b3_rising) (by rw [b3_len]; decide)
  rw [hsz] at a
  have hs' := M.size
  rw [hsz] at hs'
  have hh : h' = absHeap (TX w.params fun i => (h'.objs[211 + i]?).getD default) 250 life0 := by
    have e : h'.objs = (absHeap (TX w.params fun i => (h'.objs[211 + i]?).getD default) 250 life0).objs := by
      apply Array.ext_getElem?
      intro i
      rw [absHeap_at]
      by_cases h1 : i < 211
      · rw [if_pos (by omega), txLow _ _ i h1, M.same i (by rw [hsz]; exact h1)]
        show (absHeap (T12 w.params) 211 life0).objs[i]? = _
        rw [absHeap_at, if_pos h1]
      · by_cases h2 : i < 250
        · obtain ⟨j, rfl⟩ : ∃ j, i = 211 + j := ⟨i - 211, by omega⟩
          rw [if_pos h2, txHigh _ _ j (by omega), Array.getElem?_eq_getElem (by omega)]
          rfl
        · rw [if_neg h2, Array.getElem?_eq_none (by omega)]
    have l : h'.life = life0 := M.life
    show h' = ⟨(absHeap (TX w.params fun i => (h'.objs[211 + i]?).getD default) 250 life0).objs, life0⟩
    rw [← e, ← l]
  have hk : (stT T12 n12 k12 w os).abs.toks + 3 * b3l.length = kX := by rw [b3_len]; rfl
  rw [hk] at a
  obtain ⟨n1, p1, l1, e1⟩ := Hs.st_bind (f := fun _ => eval b3dct benv) (Hs.st_at ⟨88, 0, 88, 8704⟩) a p12 (fun v => (b3post v).wrap doneF deadEnd id id) deadEnd id id
  have hw : (exec (bd 14) benv).wrap doneF deadEnd id id = ((standAt ⟨88, 0, 88, 8704⟩ >>= fun _ => eval b3dct benv).wrap (fun v => (b3post v).wrap doneF deadEnd id id) deadEnd id id : Sem Fin) := by
    rw [b3_exec]
    show ((standAt ⟨88, 0, 88, 8704⟩ >>= fun _ => (eval b3dct benv >>= b3post)) : Sem Flow).wrap doneF deadEnd id id = _
    rw [← bind_assoc, Sem.bind_eq_wrap' (standAt ⟨88, 0, 88, 8704⟩ >>= fun _ => eval b3dct benv) b3post, Sem.wrap_wrap]
    rfl
  obtain ⟨G, hG⟩ : ∃ G : Nat → Obj, h' = absHeap (TX w.params G) 250 life0 := ⟨_, hh⟩
  have B := M.bears
  rw [hsz, hG] at B
  refine ⟨G, B, ?_⟩
  subst hG
  have last := segRun_of (b3_last w os G p1)
  have e2 := seg_go (N := 20) e1 last
  have e3 := seg_mono (13000 - (n1 + 20)) e2
  rw [show n1 + 20 + (13000 - (n1 + 20)) = 13000 by omega, ← hw] at e3
  exact e3

end
end Hd2
namespace Hd2
noncomputable section

theorem bbody_eq : bbody = [bd 1, bd 2, bd 3, bd 4, bd 5, bd 6, bd 7, bd 8, bd 9, bd 10, bd 11, bd 12, bd 13, bd 14, bd 15, bd 16, bd 17, bd 18, bd 19, bd 20, bd 21] := by kernel_rfl
theorem fin_ok (w : World) (os : OsState) (G : Nat → Obj) : topRun treeTable pw w m0 ann0 3 (stG T20 G n20 k20 w os).abs ⟨doneF .next, bcode, p20, [topFrame q0]⟩ = some (stG Tf G nf kf w os).abs := by
  kernel_rfl
abbrev Hf (P : Params) (G : Nat → Obj) : Heap := absHeap (Tf P G) nf life0
theorem run_le {tb : String → Option Builtin} {p : Program} {w : World} {n₀ : Nat} {ann : Option Value} {n N : Nat} {s r : Shared} {t : Thread} (h : topRun tb p w n₀ ann n s t = some r) (l : n ≤ N) : topRun tb p w n₀ ann N s t = some r := by
  have := topRun_mono (N - n) _ _ _ _ h
  rwa [show n + (N - n) = N by omega] at this
theorem run_ok (w : World) (os : OsState) : ∃ G : Nat → Obj, Hs.Bears (absHeap (TX w.params G) 250 life0) 211 b3l ∧
    topRun treeTable pw w m0 ann0 39000 ⟨H0 w.params, Array.mk [], {}, kI, os⟩ (topStub pw) = some (stG Tf G nf kf w os).abs := by
  obtain ⟨G, B, hb⟩ := segBig w os
  have fin := fin_ok w os G
  refine ⟨G, B, ?_⟩
  have c := piece_cons (segRun_of (seg0 w os)) (piece_cons (segRun_of (seg1 w os)) (piece_cons (segRun_of (seg2 w os)) (piece_cons (segRun_of (seg3 w os)) (piece_cons (segRun_of (seg4 w os)) (piece_cons (segRun_of (seg5 w os)) (piece_cons (segRun_of (seg6 w os)) (piece_cons (segRun_of (seg7 w os)) (piece_cons (segRun_of (seg8 w os)) (piece_cons (segRun_of (seg9 w os)) (piece_cons (segRun_of (seg10 w os)) (piece_cons (segRun_of (seg11 w os)) (piece_cons (segRun_of (seg12 w os)) (piece_cons hb (piece_cons (segRun_of (seg14 w os G)) (piece_cons (segRun_of (seg15 w os G)) (piece_cons (segRun_of (seg16 w os G)) (piece_cons (segRun_of (seg17 w os G)) (piece_cons (segRun_of (seg18 w os G)) (piece_cons (segRun_of (seg19 w os G)) (piece_cons (segRun_of (seg20 w os G)) (piece_nil fin)))))))))))))))))))))
  have e : restOf bbody benv bcode pb [topFrame q0] = restOf [bd 1, bd 2, bd 3, bd 4, bd 5, bd 6, bd 7, bd 8, bd 9, bd 10, bd 11, bd 12, bd 13, bd 14, bd 15, bd 16, bd 17, bd 18, bd 19, bd 20, bd 21] benv bcode pb [topFrame q0] := congrArg (fun l => restOf l benv bcode pb [topFrame q0]) bbody_eq
  rw [← e] at c
  have c2 := go_top (pre_ok w os) (piece_block (segRun_of (block_ok w os)) c)
  exact run_le c2 (Nat.le_of_ble_eq_true rfl)
theorem kin_ok (w : World) (G : Nat → Obj) : (KK w.params).In (Hf w.params G) := by
  refine Frag.in_of (as := (KK w.params).map (·.1)) rfl ?_
  kernel_rfl
theorem b3_at (w : World) (G : Nat → Obj) (B : Hs.Bears (absHeap (TX w.params G) 250 life0) 211 b3l) : ∃ es n, (Hf w.params G).get? 211 = some (Hs.dObj es n) ∧ Hs.Ents b3l es.toList := by
  obtain ⟨es, n, h, e⟩ := B.at_
  refine ⟨es, n, Hs.get_of_objs ?_, e⟩
  rw [absHeap_at] at h ⊢
  exact h
def lawS : Stmt := bd 21
def qv : Program := { pw with main := { pw.main with body := [bd 0, bd 21] } }
def loose : List Str := [s "_wall", s "_name_disallowed_re", s "_value_disallowed_re", s "Headers", s "_twin_re_1", s "_twin_re_2", s "CRLF", s "quotedata", s "b1_set", s "in_table_b1", s "b3_exceptions", s "map_table_b3", s "_law_read", s "_law_joined", s "_law_holds", s "_law_within"]
theorem statics_ok (w : World) (os : OsState) (G : Nat → Obj) : (staticsOk (importedModules pw.main.body) (H0 w.params) (Hf w.params G) && namesBound pw (Hf w.params G) && gensDone (stG Tf G nf kf w os).abs && laidKept (H0 w.params) (Hf w.params G)) = true := by
  kernel_rfl
theorem seen_ok (w : World) (os : OsState) (G : Nat → Obj) : openSeen qv loose (importedModules pw.main.body) (fun _ => true) true (stG Tf G nf kf w os).abs = openGood qv loose := by
  rw [PySem.W.Fast.te4187177175401517315]
  kernel_rfl

end
end Hd2
namespace Hd2
noncomputable section

noncomputable abbrev oMain (P : Params) : Obj := (o3_21 P)
def nsOf (o : Obj) (x : Str) : Option Value := match o.data with | .dict es _ => nsFind es x | _ => none
def YP (w : World) (h : Heap) : Prop := (KK w.params).In h ∧ ∃ es n, h.get? 211 = some (Hs.dObj es n) ∧ Hs.Ents b3l es.toList
def Yf (w : World) (s : Shared) : Prop := YP w s.heap
theorem behind (w : World) :
    ∃ s, openEnds treeTable pw w 40000 = some s ∧ openSeen qv loose (importedModules pw.main.body) (fun _ => true) true s = openGood qv loose ∧ YP w s.heap := by
  obtain ⟨⟨h, gs, d, k, os⟩, e, e'⟩ := Option.map_eq_some_iff.mp (open_ok w)
  obtain ⟨rfl, rfl, rfl, rfl⟩ : h = H0 w.params ∧ gs = Array.mk [] ∧ d = {} ∧ k = kI := by simpa using e'
  obtain ⟨z1, z2, z3⟩ : _ ∧ _ ∧ _ := by simpa only [Prod.mk.injEq] using size_ok w
  obtain ⟨G, B, r⟩ := run_ok w os
  have r := run_le (N := 40000) r (by decide)
  refine ⟨(stG Tf G nf kf w os).abs, ?_, seen_ok w os G, kin_ok w G, b3_at w G B⟩
  have t : topFrom treeTable pw w 40000 ⟨H0 w.params, Array.mk [], {}, kI, os⟩ = some (stG Tf G nf kf w os).abs := by
    unfold topFrom
    dsimp only
    rw [z1, z2, z3, r]
    show (match (staticsOk (importedModules pw.main.body) (H0 w.params) (Hf w.params G) && namesBound pw (Hf w.params G) && gensDone (stG Tf G nf kf w os).abs && laidKept (H0 w.params) (Hf w.params G)) with | true => _ | false => _) = _
    rw [statics_ok w os G]
  unfold openEnds
  rw [e]
  exact t
open Classical in
theorem leftO : LeftO pw qv loose (fun _ => true) (fun s => fun w : World => YP w s.heap) (fun w => fun v => YP v (Classical.choose (behind w)).heap) 40000 := by
  intro w
  obtain ⟨a, b, c⟩ := Classical.choose_spec (behind w)
  rw [a]
  show some (openSeen qv loose (importedModules pw.main.body) (fun _ => true) true (Classical.choose (behind w)), _) = _
  rw [b]
theorem YP_keeps (w : World) (h h' : Heap) (y : YP w h) (k : ∀ b o, h.get? b = some o → h'.get? b = some o) : YP w h' := by
  obtain ⟨y1, es, n, y2, y3⟩ := y
  exact ⟨y1.keeps k, es, n, k _ _ y2, y3⟩
abbrev rw_ : OpenLaw := PySem.Challenge.rw_re0177_02

end
end Hd2
namespace Wk

inductive At where
  | none | bool (b : Bool) | int (i : Int) | str (x : Str) | val (v : Value)
def At.of : At → Value → Prop
  | .none, v => v = .none
  | .bool b, v => v = .bool b
  | .int i, v => ∃ t, v = .int i t
  | .str x, v => ∃ t, v = .str x t
  | .val u, v => v = u
def Ats : List At → List Value → Prop
  | [], [] => True
  | a :: l, v :: vs => a.of v ∧ Ats l vs
  | _, _ => False
inductive IV where
  | at (a : At) | tup (l : List At)
def IV.of (h : Heap) : IV → Value → Prop
  | .at a, v => a.of v
  | .tup l, v => ∃ a vs, v = .ref a ∧ IsTup h a vs.toArray ∧ Ats l vs
def IVs (h : Heap) : List IV → List Value → Prop
  | [], [] => True
  | x :: l, v :: vs => x.of h v ∧ IVs h l vs
  | _, _ => False
def KVs : List (Str × At) → List (Str × Value) → Prop
  | [], [] => True
  | p :: l, q :: r => p.1 = q.1 ∧ p.2.of q.2 ∧ KVs l r
  | _, _ => False
inductive PV where
  | any | iv (x : IV) | list (l : List IV) | dict (l : List (Str × At)) | obj (C : Addr) (l : List IV)
abbrev PV.str (x : Str) : PV := .iv (.at (.str x))
abbrev PV.int (i : Int) : PV := .iv (.at (.int i))
abbrev PV.bool (b : Bool) : PV := .iv (.at (.bool b))
abbrev PV.none : PV := .iv (.at .none)
abbrev PV.tup (l : List At) : PV := .iv (.tup l)

abbrev Keep (h h' : Heap) : Prop := ∀ b o, h.get? b = some o → h'.get? b = some o
theorem IV.of_keep {h h' : Heap} (k : Keep h h') : ∀ {x : IV} {v : Value}, x.of h v → x.of h' v
  | .at _, _, e => e
  | .tup l, v, ⟨a, vs, e, t, r⟩ => ⟨a, vs, e, t.keeps k, r⟩
theorem IVs.keep {h h' : Heap} (k : Keep h h') : ∀ {l : List IV} {vs : List Value}, IVs h l vs → IVs h' l vs
  | [], [], _ => trivial
  | _ :: _, _ :: _, ⟨a, b⟩ => ⟨IV.of_keep k a, IVs.keep k b⟩
  | [], _ :: _, e => e.elim
  | _ :: _, [], e => e.elim
theorem IVs.length {h : Heap} : ∀ {l : List IV} {vs : List Value}, IVs h l vs → vs.length = l.length
  | [], [], _ => rfl
  | _ :: _, _ :: _, ⟨_, b⟩ => congrArg (· + 1) (IVs.length b)
  | [], _ :: _, e => e.elim
  | _ :: _, [], e => e.elim
theorem IVs.append {h : Heap} : ∀ {l : List IV} {vs : List Value} {l' : List IV} {vs' : List Value}, IVs h l vs → IVs h l' vs' → IVs h (l ++ l') (vs ++ vs')
  | [], [], _, _, _, b => b
  | _ :: _, _ :: _, _, _, ⟨a, b⟩, c => ⟨a, IVs.append b c⟩
  | [], _ :: _, _, _, e, _ => e.elim
  | _ :: _, [], _, _, e, _ => e.elim
theorem IVs.get {h : Heap} : ∀ {l : List IV} {vs : List Value} {i : Nat} {x : IV}, IVs h l vs → l[i]? = some x → ∃ v, vs[i]? = some v ∧ x.of h v
  | _ :: _, v :: _, 0, x, ⟨a, _⟩, e => ⟨v, rfl, by simp at e; exact e ▸ a⟩
  | _ :: _, _ :: _, i + 1, x, ⟨_, b⟩, e => by
    obtain ⟨v, e1, e2⟩ := IVs.get (i := i) b (by simpa using e)
    exact ⟨v, by simpa using e1, e2⟩
  | [], [], i, x, _, e => by simp at e
  | [], _ :: _, _, _, e, _ => e.elim
  | _ :: _, [], _, _, e, _ => e.elim
theorem Ats.length : ∀ {l : List At} {vs : List Value}, Ats l vs → vs.length = l.length
  | [], [], _ => rfl
  | _ :: _, _ :: _, ⟨_, b⟩ => congrArg (· + 1) (Ats.length b)
  | [], _ :: _, e => e.elim
  | _ :: _, [], e => e.elim
theorem Ats.get : ∀ {l : List At} {vs : List Value} {i : Nat} {x : At}, Ats l vs → l[i]? = some x → ∃ v, vs[i]? = some v ∧ x.of v
  | _ :: _, v :: _, 0, x, ⟨a, _⟩, e => ⟨v, rfl, by simp at e; exact e ▸ a⟩
  | _ :: _, _ :: _, i + 1, x, ⟨_, b⟩, e => by
    obtain ⟨v, e1, e2⟩ := Ats.get (i := i) b (by simpa using e)
    exact ⟨v, by simpa using e1, e2⟩
  | [], [], i, x, _, e => by simp at e
  | [], _ :: _, _, _, e, _ => e.elim
  | _ :: _, [], _, _, e, _ => e.elim

/-- the names of a Headers object -/
def hdM (L : Addr) : Str → Option Value := fun y => if y = ("_headers" : Str) then some (.ref L) else none
section
variable (prog : Program) (w : World)
/-- how a value of the machine bears a value of ours; fp: the containers that it owns -/
def Rep (h : Heap) : PV → Value → List Addr → Prop
  | .any, _, fp => fp = []
  | .iv x, v, fp => x.of h v ∧ fp = []
  | .list l, v, fp => ∃ a vs, v = .ref a ∧ PlainL h a vs.toArray ∧ IVs h l vs ∧ fp = [a]
  | .dict l, v, fp => ∃ a kvs, v = .ref a ∧ h.DictOf (PySem.strKind prog w) a kvs ∧ KVs l kvs ∧ fp = [a] ∧ (a == sysModules) = false
  | .obj C l, v, fp => ∃ x d L vs od m, v = .ref x ∧ h.get? x = some od ∧ ((od.cls = .ref C ∧ od.dict = some d ∧ ∀ c, od.data ≠ .cls c) ∧ d ≠ x) ∧ h.Ns1 d m ∧ m = hdM L ∧ PlainL h L vs.toArray ∧ IVs h l vs ∧ fp = [x, d, L]
def RepO (h : Heap) : PV → Option Value → List Addr → Prop
  | .any, _, fp => fp = []
  | p, some v, fp => Rep prog w h p v fp
  | _, none, _ => False
end
section
variable {prog : Program} {w : World}
theorem Rep.keep {h h' : Heap} (k : Keep h h') : ∀ {p : PV} {v : Value} {fp : List Addr}, Rep prog w h p v fp → Rep prog w h' p v fp
  | .any, _, _, e => e
  | .iv _, _, _, ⟨a, b⟩ => ⟨IV.of_keep k a, b⟩
  | .list _, _, _, ⟨a, vs, e, l, i, f⟩ => ⟨a, vs, e, l.keeps k, i.keep k, f⟩
  | .dict _, _, _, ⟨a, kvs, e, l, i, f, g⟩ => ⟨a, kvs, e, l.keep k, i, f, g⟩
  | .obj _ _, _, _, ⟨x, d, L, vs, od, m, e, a1, a2, a3, a4, a5, a6, f⟩ => ⟨x, d, L, vs, od, m, e, k _ _ a1, a2, a3.keeps k, a4, a5.keeps k, a6.keep k, f⟩
theorem RepO.keep {h h' : Heap} (k : Keep h h') {p : PV} {ov : Option Value} {fp : List Addr} (r : RepO prog w h p ov fp) : RepO prog w h' p ov fp := by
  cases p with
  | any => exact r
  | iv x => cases ov with
    | none => exact r.elim
    | some v => exact Rep.keep (prog := prog) (w := w) (p := .iv x) k r
  | list x => cases ov with
    | none => exact r.elim
    | some v => exact Rep.keep (prog := prog) (w := w) (p := .list x) k r
  | dict x => cases ov with
    | none => exact r.elim
    | some v => exact Rep.keep (prog := prog) (w := w) (p := .dict x) k r
  | obj C x => cases ov with
    | none => exact r.elim
    | some v => exact Rep.keep (prog := prog) (w := w) (p := .obj C x) k r
/-- every container of a rep stands in the heap -/
theorem Rep.stands {h : Heap} : ∀ {p : PV} {v : Value} {fp : List Addr}, Rep prog w h p v fp → ∀ a ∈ fp, ∃ o, h.get? a = some o
  | .any, _, _, e, a, ha => by rw [show _ = [] from e] at ha; cases ha
  | .iv _, _, _, ⟨_, b⟩, a, ha => by rw [b] at ha; cases ha
  | .list _, _, _, ⟨a, vs, e, ⟨o, _, ho, _⟩, i, f⟩, b, hb => by rw [f] at hb; rw [List.mem_singleton.mp hb]; exact ⟨o, ho⟩
  | .dict _, _, _, ⟨a, kvs, e, ⟨o, es, ep, ho, _⟩, i, f, _⟩, b, hb => by rw [f] at hb; rw [List.mem_singleton.mp hb]; exact ⟨o, ho⟩
  | .obj _ _, _, _, ⟨x, d, L, vs, od, m, e, a1, a2, a3, a4, ⟨o, _, ho, _⟩, a6, f⟩, b, hb => by
    rw [f] at hb
    simp only [List.mem_cons, List.not_mem_nil, or_false] at hb
    rcases hb with rfl | rfl | rfl
    · exact ⟨_, a1⟩
    · obtain ⟨o, es, ep, e, _⟩ := a3; exact ⟨o, e⟩
    · exact ⟨o, ho⟩
end

/-- nothing but new objects and tokens -/
def Ext (s s' : Shared) : Prop := (s'.gens = s.gens ∧ s'.os = s.os) ∧ Keep s.heap s'.heap
theorem Ext.refl (s : Shared) : Ext s s := ⟨⟨rfl, rfl⟩, fun _ _ e => e⟩
theorem Ext.trans {s s' s'' : Shared} (x : Ext s s') (y : Ext s' s'') : Ext s s'' := ⟨⟨y.1.1.trans x.1.1, y.1.2.trans x.1.2⟩, fun b o e => y.2 b o (x.2 b o e)⟩
theorem Ext.tok (s : Shared) (t : Nat) : Ext s { s with toks := t } := ⟨⟨rfl, rfl⟩, fun _ _ e => e⟩
theorem Ext.push (s : Shared) (o : Obj) (t : Nat) : Ext s { s with heap := s.heap.push o, toks := t } := ⟨⟨rfl, rfl⟩, fun _ _ e => Heap.get?_push_of_some _ e⟩
theorem Ext.gens {s s' : Shared} (x : Ext s s') : s'.gens = s.gens := x.1.1
theorem Ext.os {s s' : Shared} (x : Ext s s') : s'.os = s.os := x.1.2
theorem Ext.none {s s' : Shared} (x : Ext s s') {a : Addr} (e : s'.heap.get? a = Option.none) : s.heap.get? a = Option.none := by
  cases q : s.heap.get? a with
  | none => rfl
  | some o => rw [x.2 a o q] at e; cases e

structure Fm where
  env : Env
  slots : List (Str × Option Addr)
  base : Addr → Option Obj
  os : OsState
  res : Addr → Prop
  mine : Addr → Prop
  acc : Addr → Prop
abbrev Fm.up (F : Fm) (b : Addr → Option Obj) (r : Addr → Prop) : Fm := { F with base := b, res := r }
structure Fm.Le (F : Fm) (b : Addr → Option Obj) (r : Addr → Prop) : Prop where
  base : ∀ a o, F.base a = some o → b a = some o
  res : ∀ a, F.res a → r a
theorem Fm.Le.refl (F : Fm) : F.Le F.base F.res := ⟨fun _ _ e => e, fun _ e => e⟩
theorem Fm.Le.trans {F : Fm} {b b' : Addr → Option Obj} {r r' : Addr → Prop} (x : F.Le b r) (y : (F.up b r).Le b' r') : F.Le b' r' := ⟨fun a o e => y.base a o (x.base a o e), fun a e => y.res a (x.res a e)⟩
abbrev Rho := List (PV × Bool)

def NT (h : Heap) (a : Addr) : Prop := ∀ o, h.get? a = some o → ∀ xs n, o.cls = .type "tuple" → o.data ≠ .seq xs n
theorem NT.keep {h h' : Heap} (k : Keep h h') {a : Addr} (hs : ∃ o, h.get? a = some o) (n : NT h a) : NT h' a := fun o ho => by
  obtain ⟨o', ho'⟩ := hs
  have := k a o' ho'
  rw [ho] at this; cases this
  exact n o ho'
structure FmOk (F : Fm) : Prop where
  kind : F.env.scope.kind = .function
  loc : ∀ (i : Nat) (x : Str), F.slots[i]? = some (x, none) → F.env.kindOf x = some .local
  cel : ∀ (i : Nat) (x : Str) (c : Addr), F.slots[i]? = some (x, some c) → (F.env.kindOf x = some .cell ∨ F.env.kindOf x = some .free) ∧ F.env.cells.lookup x = some c ∧ c ≠ F.env.locals
  names : ∀ (i j : Nat) (x : Str) (a b : Option Addr), F.slots[i]? = some (x, a) → F.slots[j]? = some (x, b) → i = j
  cells : ∀ (i j : Nat) (x y : Str) (c : Addr), F.slots[i]? = some (x, some c) → F.slots[j]? = some (y, some c) → i = j
  baseL : F.base F.env.locals = none
  resL : ¬ F.res F.env.locals
  resC : ∀ (i : Nat) (x : Str) (c : Addr), F.slots[i]? = some (x, some c) → ¬ F.res c
  mine : ∀ c, F.mine c → F.base c = none
  acc : ∀ d, F.acc d → F.base d = none ∧ ¬ F.res d ∧ d ≠ F.env.locals ∧ ∀ (i : Nat) (x : Str), F.slots[i]? ≠ some (x, some d)
  mineC : ∀ c, F.mine c → ∃ (i : Nat) (x : Str), F.slots[i]? = some (x, some c)

section
variable (prog : Program) (w : World)
structure Inv (F : Fm) (ρ : Rho) (s : Shared) : Prop where
  keep : ∀ a o, F.base a = some o → s.heap.get? a = some o
  gens : s.gens = #[]
  os : s.os = F.os
  len : ρ.length = F.slots.length
  res : ∀ a, F.res a → ∃ o, s.heap.get? a = some o
  acc : ∀ d, F.acc d → (∃ o, s.heap.get? d = some o) ∧ NT s.heap d
  sl : ∃ m, s.heap.Ns F.env.locals m ∧ ∃ fp : Nat → List Addr,
    (∀ (i : Nat) (x : Str) (acc : Option Addr) (p : PV) (own : Bool), F.slots[i]? = some (x, acc) → ρ[i]? = some (p, own) →
      ∃ ov, (match acc with | none => ov = m x | some c => s.heap.IsCell c ov) ∧ RepO prog w s.heap p ov (fp i) ∧ ∀ a ∈ fp i, (a ≠ F.env.locals ∧ ¬ (F.res a ∨ F.acc a)) ∧ ∀ (j : Nat) (x : Str) (c : Addr), F.slots[j]? = some (x, some c) → a ≠ c) ∧
    (∀ (i : Nat) (p : PV), ρ[i]? = some (p, true) → ∀ a ∈ fp i, F.base a = none ∧ ∀ (j : Nat) (q : PV × Bool), j ≠ i → ρ[j]? = some q → a ∉ fp j)
end
variable {prog : Program} {w : World}
theorem Inv.ext {F : Fm} {ρ : Rho} {s s' : Shared} (I : Inv prog w F ρ s) (x : Ext s s') : Inv prog w F ρ s' := by
  obtain ⟨k, g, o, ln, rs, ac, m, hm, fp, a, b⟩ := I
  refine ⟨fun b o e => x.2 _ _ (k b o e), x.gens.trans g, x.os.trans o, ln, fun a ha => let ⟨o, ho⟩ := rs a ha; ⟨o, x.2 _ _ ho⟩, fun d hd => ⟨let ⟨o, ho⟩ := (ac d hd).1; ⟨o, x.2 _ _ ho⟩, (ac d hd).2.keep x.2 (ac d hd).1⟩, m, hm.keeps x.2, fp, fun i y acc p own h1 h2 => ?_, b⟩
  obtain ⟨ov, h3, h4, h5⟩ := a i y acc p own h1 h2
  refine ⟨ov, ?_, h4.keep x.2, h5⟩
  cases acc with
  | none => exact h3
  | some c => exact h3.keeps x.2

def Room (k : Nat) (A : Around) : Prop := A.depth + k < recursionLimit ∧ A.units + 10 * k + 20 < cLine ∧ A.handled = none
theorem Room.units {k : Nat} {A : Around} (r : Room k A) : A.units < cLine := by have := r.2.1; omega
theorem Room.handled {k : Nat} {A : Around} (r : Room k A) : A.handled = none := r.2.2
theorem Room.depth {k : Nat} {A : Around} (r : Room k A) : A.depth < recursionLimit := by have := r.1; omega

theorem Inv.down {F : Fm} {ρ : Rho} {s : Shared} {b : Addr → Option Obj} {r : Addr → Prop} (I : Inv prog w (F.up b r) ρ s) (l : F.Le b r) : Inv prog w F ρ s := by
  obtain ⟨k, g, o, ln, rs, ac, m, hm, fp, a, c⟩ := I
  refine ⟨fun b o e => k b o (l.base b o e), g, o, ln, fun a ha => rs a (l.res a ha), ac, m, hm, fp, fun i y acc p own h1 h2 => ?_, fun i p h1 y hy => ?_⟩
  · obtain ⟨ov, h3, h4, h5⟩ := a i y acc p own h1 h2
    exact ⟨ov, h3, h4, fun z hz => ⟨⟨(h5 z hz).1.1, fun q => (h5 z hz).1.2 (q.imp (l.res z) id)⟩, (h5 z hz).2⟩⟩
  · obtain ⟨h2, h3⟩ := c i p h1 y hy
    refine ⟨?_, h3⟩
    cases e : F.base y with
    | none => rfl
    | some o => have h4 := l.base y o e; rw [show b y = none from h2] at h4; cases h4

abbrev No : Value → Shared → Prop := fun _ _ => False
def Fresh (s : Shared) (fp : List Addr) : Prop := ∀ a ∈ fp, s.heap.get? a = none
section
variable (prog : Program) (w : World)
/-- what an expression, a call hands back: pv, and whether its containers are new -/
def Gives' (pv : PV) (fr : Bool) (s : Shared) (v : Value) (s' : Shared) : Prop := Ext s s' ∧ ∃ fp, Rep prog w s'.heap pv v fp ∧ (fr = true → Fresh s fp)
def EvJ (F : Fm) (ρ : Rho) (k : Nat) (e : PySem.Expr) (pv : PV) (fr : Bool) : Prop :=
  ∀ A s, Room k A → Inv prog w F ρ s → wpAny (model prog w) A (eval e F.env) (Gives' prog w pv fr s) No s
def Reps (h : Heap) : List PV → List Value → Prop
  | [], [] => True
  | p :: ps, v :: vs => (∃ fp, Rep prog w h p v fp) ∧ Reps h ps vs
  | _, _ => False
inductive EvL (F : Fm) (ρ : Rho) (k : Nat) : List PySem.Expr → List PV → Prop
  | nil : EvL F ρ k [] []
  | cons {e es p ps fr} : EvJ prog w F ρ k e p fr → EvL F ρ k es ps → EvL F ρ k (e :: es) (p :: ps)
end
section
variable {F : Fm} {ρ : Rho} {k : Nat}
theorem EvJ.weaken {e : PySem.Expr} {pv : PV} {fr : Bool} (h : EvJ prog w F ρ k e pv fr) : EvJ prog w F ρ k e pv false := fun A s r I =>
  wpAny_mono (h A s r I) (fun v s' ⟨x, fp, a, _⟩ => ⟨x, fp, a, fun e => nomatch e⟩) fun _ _ e => e
/-- a name of the frame -/
theorem ev_local {x : Str} {pos : PySem.Pos} {p : PV} {own : Bool} (i : Nat) (ok : FmOk F) (hs : F.slots[i]? = some (x, none)) (hr : ρ[i]? = some (p, own)) (hp : p ≠ .any) (hd : (x == ("__debug__" : Str)) = false := by decide) :
    EvJ prog w F ρ k (.Name x pos) p false := fun A s r I => by
  obtain ⟨m, hm, fp, a, b⟩ := I.sl
  obtain ⟨ov, h3, h4, _⟩ := a i x none p own hs hr
  have h3 : ov = m x := h3
  subst h3
  cases hv : m x with
  | none => rw [hv] at h4; cases p <;> first | exact absurd rfl hp | exact h4.elim
  | some v =>
    rw [hv] at h4
    have h5 : Rep prog w s.heap p v (fp i) := by cases p <;> first | exact absurd rfl hp | exact h4
    exact wpAny_Name (wpAny_loadName_local ok.kind (ok.loc i x hs) hm hv ⟨Ext.refl s, fp i, h5, fun e => nomatch e⟩) hd
theorem ev_cell {x : Str} {pos : PySem.Pos} {p : PV} {own : Bool} {c : Addr} (i : Nat) (ok : FmOk F) (hs : F.slots[i]? = some (x, some c)) (hr : ρ[i]? = some (p, own)) (hp : p ≠ .any) (hd : (x == ("__debug__" : Str)) = false := by decide)
    (hn : (x == ("__classdict__" : Str)) = false := by decide) : EvJ prog w F ρ k (.Name x pos) p false := fun A s r I => by
  obtain ⟨m, hm, fp, a, b⟩ := I.sl
  obtain ⟨ov, h3, h4, _⟩ := a i x (some c) p own hs hr
  have h3 : s.heap.IsCell c ov := h3
  obtain ⟨hk, hl, _⟩ := ok.cel i x c hs
  cases ov with
  | none => cases p <;> first | exact absurd rfl hp | exact h4.elim
  | some v =>
    have h5 : Rep prog w s.heap p v (fp i) := by cases p <;> first | exact absurd rfl hp | exact h4
    have q : Gives' prog w p false s v s := ⟨Ext.refl s, fp i, h5, fun e => nomatch e⟩
    rcases hk with hk | hk
    · exact wpAny_Name (wpAny_loadName_cell ok.kind hk hl h3 q) hd
    · exact wpAny_Name (wpAny_loadName_free ok.kind hk hl h3 q hn) hd
theorem ev_int {i : Int} {kd : Nat} {pos : PySem.Pos} : EvJ prog w F ρ k (.Constant (.int i) kd pos) (.int i) true := fun A s r I =>
  wpAny_Constant_int ⟨Ext.tok s _, [], ⟨⟨_, rfl⟩, rfl⟩, fun _ _ h => nomatch h⟩
theorem ev_str {x : Str} {kd : Nat} {pos : PySem.Pos} : EvJ prog w F ρ k (.Constant (.str x) kd pos) (.str x) true := fun A s r I =>
  wpAny_Constant_str ⟨Ext.tok s _, [], ⟨⟨_, rfl⟩, rfl⟩, fun _ _ h => nomatch h⟩
theorem ev_none {kd : Nat} {pos : PySem.Pos} : EvJ prog w F ρ k (.Constant .none kd pos) .none true := fun A s r I =>
  wpAny_Constant_none ⟨Ext.refl s, [], ⟨rfl, rfl⟩, fun _ _ h => nomatch h⟩
theorem ev_bool {b : Bool} {kd : Nat} {pos : PySem.Pos} : EvJ prog w F ρ k (.Constant (.bool b) kd pos) (.bool b) true := fun A s r I =>
  wpAny_Constant_bool ⟨Ext.refl s, [], ⟨rfl, rfl⟩, fun _ _ h => nomatch h⟩

/-- an operation on two values -/
def Op2 (k : Nat) (t : Value → Value → Sem Value) (p q : PV) (r : PV) (fr : Bool) : Prop :=
  ∀ A s a b fa fb, Room k A → s.gens = #[] → Rep prog w s.heap p a fa → Rep prog w s.heap q b fb → wpAny (model prog w) A (t a b) (Gives' prog w r fr s) No s
theorem ev_bin {op : Operator} {l r : PySem.Expr} {pos : PySem.Pos} {p q v : PV} {f1 f2 fr : Bool} (hl : EvJ prog w F ρ k l p f1) (hr : EvJ prog w F ρ k r q f2) (h : Op2 (prog := prog) (w := w) k (binaryOp op) p q v fr) :
    EvJ prog w F ρ k (.BinOp l op r pos) v fr := fun A s rm I => by
  refine wpAny_BinOp (wpAny_mono (hl A s rm I) (fun a s₁ ⟨x1, fp1, r1, _⟩ => ?_) fun _ _ e => e)
  refine wpAny_mono (hr A s₁ rm (I.ext x1)) (fun b s₂ ⟨x2, fp2, r2, _⟩ => ?_) fun _ _ e => e
  refine wpAny_mono (h A s₂ a b fp1 fp2 rm ((I.ext x1).ext x2).gens (r1.keep x2.2) r2) (fun v s₃ ⟨x3, fp3, r3, f3⟩ => ?_) fun _ _ e => e
  exact ⟨(x1.trans x2).trans x3, fp3, r3, fun e a ha => (x1.trans x2).none (f3 e a ha)⟩
theorem ev_cmp {op : CmpOp} {l r : PySem.Expr} {pos : PySem.Pos} {p q v : PV} {f1 f2 fr : Bool} (hm : behindInMarks op r = false) (hl : EvJ prog w F ρ k l p f1) (hr : EvJ prog w F ρ k r q f2) (h : Op2 (prog := prog) (w := w) k (compareOp op) p q v fr) :
    EvJ prog w F ρ k (.Compare l [op] [r] pos) v fr := fun A s rm I => by
  refine wpAny_Compare1 (hm := hm) (wpAny_mono (hl A s rm I) (fun a s₁ ⟨x1, fp1, r1, _⟩ => ?_) fun _ _ e => e)
  refine wpAny_mono (hr A s₁ rm (I.ext x1)) (fun b s₂ ⟨x2, fp2, r2, _⟩ => ?_) fun _ _ e => e
  refine wpAny_mono (h A s₂ a b fp1 fp2 rm ((I.ext x1).ext x2).gens (r1.keep x2.2) r2) (fun v s₃ ⟨x3, fp3, r3, f3⟩ => ?_) fun _ _ e => e
  exact ⟨(x1.trans x2).trans x3, fp3, r3, fun e a ha => (x1.trans x2).none (f3 e a ha)⟩
end
variable {prog : Program} {w : World}

/-- all but what stands at X is kept -/
def Chg (X : List Addr) (h h' : Heap) : Prop := ∀ b o, b ∉ X → h.get? b = some o → h'.get? b = some o
theorem Chg.of_sameBut {a : Addr} {h h' : Heap} (x : Heap.SameBut a h h') : Chg [a] h h' := fun b o hb e => (x.2 b (by simpa using hb)).trans e
theorem NT.ns {h : Heap} {a : Addr} {m} (x : h.Ns a m) : NT h a := fun o ho xs n _ hd => by
  obtain ⟨o', es, ep, h1, h2, _⟩ := x
  rw [h1] at ho; cases ho
  rw [h2] at hd; cases hd
theorem NT.cell {h : Heap} {a : Addr} {v} (x : h.IsCell a v) : NT h a := fun o ho xs n _ hd => by
  obtain ⟨o', h1, h2⟩ := x
  rw [h1] at ho; cases ho
  rw [h2] at hd; cases hd
theorem NT.list {h : Heap} {a : Addr} {l} (x : PlainL h a l) : NT h a := fun o ho xs n hc hd => by
  obtain ⟨o', _, h1, h2, _⟩ := x
  rw [h1] at ho; cases ho
  rw [h2] at hc; exact absurd (Value.type.inj hc) (by decide)
def IV.flat : IV → Bool | .at _ => true | .tup _ => false
def PV.flat : PV → Bool | .any => true | .iv x => x.flat | .list l => l.all IV.flat | .dict _ => true | .obj _ l => l.all IV.flat
theorem IV.chg {X : List Addr} {h h' : Heap} (k : Chg X h h') : ∀ {x : IV} {v : Value}, ((∀ a ∈ X, NT h a) ∨ x.flat = true) → x.of h v → x.of h' v
  | .at _, _, _, e => e
  | .tup l, v, nt, ⟨a, vs, e, ⟨o, ho, hc, n, hd⟩, r⟩ => ⟨a, vs, e, ⟨o, k a o (fun hX => (nt.elim (fun nt => nt a hX o ho _ _ hc hd) (fun q => nomatch q) : False)) ho, hc, n, hd⟩, r⟩
theorem IVs.chg {X : List Addr} {h h' : Heap} (k : Chg X h h') : ∀ {l : List IV} {vs : List Value}, ((∀ a ∈ X, NT h a) ∨ l.all IV.flat = true) → IVs h l vs → IVs h' l vs
  | [], [], _, _ => trivial
  | x :: l, _ :: _, nt, ⟨a, b⟩ => ⟨IV.chg k (nt.imp id fun q => by simp at q; exact q.1) a, IVs.chg k (nt.imp id fun q => by simp only [List.all_cons, Bool.and_eq_true] at q; exact q.2) b⟩
  | [], _ :: _, _, e => e.elim
  | _ :: _, [], _, e => e.elim
theorem isList_chg {X : List Addr} {h h' : Heap} (k : Chg X h h') {a : Addr} (ha : a ∉ X) {l} (x : PlainL h a l) : PlainL h' a l := let ⟨o, n, e, r⟩ := x; ⟨o, n, k a o ha e, r⟩
theorem Rep.chg {X : List Addr} {h h' : Heap} (k : Chg X h h') : ∀ {p : PV} {v : Value} {fp : List Addr}, ((∀ a ∈ X, NT h a) ∨ p.flat = true) → (∀ a ∈ fp, a ∉ X) → Rep prog w h p v fp → Rep prog w h' p v fp
  | .any, _, _, _, _, e => e
  | .iv _, _, _, nt, _, ⟨a, b⟩ => ⟨IV.chg k nt a, b⟩
  | .list _, _, _, nt, d, ⟨a, vs, e, l, i, f⟩ => ⟨a, vs, e, isList_chg k (d a (by rw [f]; exact List.mem_singleton_self a)) l, i.chg k nt, f⟩
  | .dict _, _, _, nt, d, ⟨a, kvs, e, ⟨o, es, ep, ho, r⟩, i, f, g⟩ => ⟨a, kvs, e, ⟨o, es, ep, k a o (d a (by rw [f]; exact List.mem_singleton_self a)) ho, r⟩, i, f, g⟩
  | .obj _ _, _, _, nt, dd, ⟨x, d, L, vs, od, m, e, a1, a2, ⟨o3, es, ep, b1, b2⟩, a4, a5, a6, f⟩ =>
    ⟨x, d, L, vs, od, m, e, k _ _ (dd x (by rw [f]; simp)) a1, a2, ⟨o3, es, ep, k _ _ (dd d (by rw [f]; simp)) b1, b2⟩, a4, isList_chg k (dd L (by rw [f]; simp)) a5, a6.chg k nt, f⟩
theorem RepO.chg {X : List Addr} {h h' : Heap} (k : Chg X h h') {p : PV} {ov : Option Value} {fp : List Addr} (nt : (∀ a ∈ X, NT h a) ∨ p.flat = true) (d : ∀ a ∈ fp, a ∉ X) (r : RepO prog w h p ov fp) : RepO prog w h' p ov fp := by
  cases p with
  | any => exact r
  | iv x => cases ov with
    | none => exact r.elim
    | some v => exact Rep.chg (prog := prog) (w := w) (p := .iv x) k nt d r
  | list x => cases ov with
    | none => exact r.elim
    | some v => exact Rep.chg (prog := prog) (w := w) (p := .list x) k nt d r
  | dict x => cases ov with
    | none => exact r.elim
    | some v => exact Rep.chg (prog := prog) (w := w) (p := .dict x) k nt d r
  | obj C x => cases ov with
    | none => exact r.elim
    | some v => exact Rep.chg (prog := prog) (w := w) (p := .obj C x) k nt d r
theorem RepO.of {h : Heap} {p : PV} {v : Value} {fp : List Addr} (r : Rep prog w h p v fp) : RepO prog w h p (some v) fp := by cases p <;> exact r
theorem RepO.stands {h : Heap} {p : PV} {ov : Option Value} {fp : List Addr} (r : RepO prog w h p ov fp) : ∀ a ∈ fp, ∃ o, h.get? a = some o := by
  cases p with
  | any => intro a ha; rw [show fp = [] from r] at ha; cases ha
  | iv x => cases ov with
    | none => exact r.elim
    | some v => exact Rep.stands (prog := prog) (w := w) (p := .iv x) (v := v) r
  | list x => cases ov with
    | none => exact r.elim
    | some v => exact Rep.stands (prog := prog) (w := w) (p := .list x) (v := v) r
  | dict x => cases ov with
    | none => exact r.elim
    | some v => exact Rep.stands (prog := prog) (w := w) (p := .dict x) (v := v) r
  | obj C x => cases ov with
    | none => exact r.elim
    | some v => exact Rep.stands (prog := prog) (w := w) (p := .obj C x) (v := v) r
/-- the objects of a rep's containers are no tuples -/
theorem Rep.nt {h : Heap} : ∀ {p : PV} {v : Value} {fp : List Addr}, Rep prog w h p v fp → ∀ a ∈ fp, NT h a
  | .any, _, _, e, a, ha => by rw [show _ = [] from e] at ha; cases ha
  | .iv _, _, _, ⟨_, b⟩, a, ha => by rw [b] at ha; cases ha
  | .list _, _, _, ⟨a, vs, e, l, i, f⟩, b, hb => by rw [f] at hb; rw [List.mem_singleton.mp hb]; exact NT.list l
  | .dict _, _, _, ⟨a, kvs, e, ⟨o, es, ep, ho, hx, _⟩, i, f, _⟩, b, hb => by
    rw [f] at hb; rw [List.mem_singleton.mp hb]
    intro o' ho' xs n hc _
    rw [ho] at ho'; cases ho'
    rw [hx.1] at hc; exact absurd (Value.type.inj hc) (by decide)
  | .obj _ _, _, _, ⟨x, d, L, vs, od, m, e, a1, a2, a3, a4, a5, a6, f⟩, b, hb => by
    rw [f] at hb
    simp only [List.mem_cons, List.not_mem_nil, or_false] at hb
    rcases hb with rfl | rfl | rfl
    · intro o' ho' xs n hc _
      rw [a1] at ho'; cases ho'
      rw [a2.1.1] at hc
      cases hc
    · exact NT.ns a3.ns
    · exact NT.list a5

theorem set_at {ρ : Rho} {i : Nat} {x q : PV × Bool} (h : (ρ.set i x)[i]? = some q) : q = x := by
  rw [List.getElem?_set_self'] at h
  cases e : ρ[i]? with
  | none => rw [e] at h; cases h
  | some y => rw [e] at h; exact (Option.some.inj h).symm
theorem set_ne {ρ : Rho} {i j : Nat} {x : PV × Bool} (h : j ≠ i) : (ρ.set i x)[j]? = ρ[j]? := List.getElem?_set_ne (Ne.symm h)

theorem ns_uniq {h : Heap} {a : Addr} {m m'} (x : h.Ns a m) (y : h.Ns a m') : ∀ n, m n = m' n := fun n => by
  obtain ⟨o, es, ep, h1, h2, _, h3⟩ := x
  obtain ⟨o', es', ep', g1, g2, _, g3⟩ := y
  rw [h1] at g1; cases g1
  rw [h2] at g2; cases g2
  rw [← h3, ← g3]

section
variable {F : Fm} {ρ : Rho}
theorem Inv.cellAt {s : Shared} (I : Inv prog w F ρ s) {i : Nat} {x : Str} {c : Addr} (hs : F.slots[i]? = some (x, some c)) : ∃ ov, s.heap.IsCell c ov := by
  obtain ⟨m, hm, fp, a, b⟩ := I.sl
  have hlt : i < ρ.length := by rw [I.len]; exact (List.getElem?_eq_some_iff.mp hs).1
  obtain ⟨ov, h3, _⟩ := a i x (some c) (ρ[i]).1 (ρ[i]).2 hs (List.getElem?_eq_getElem hlt)
  exact ⟨ov, h3⟩
theorem Inv.slotAt {s : Shared} (I : Inv prog w F ρ s) {i : Nat} {q : PV × Bool} (h : ρ[i]? = some q) : ∃ x acc, F.slots[i]? = some (x, acc) := by
  have hlt : i < F.slots.length := by rw [← I.len]; exact (List.getElem?_eq_some_iff.mp h).1
  exact ⟨_, _, List.getElem?_eq_getElem hlt⟩
/-- where a store falls; Z: new objects that go on changing -/
inductive StAtZ (F : Fm) (Z : List Addr) (s : Shared) (h' : Heap) (v : Value) (x : Str) : Option Addr → Prop
  | loc {m'} : h'.Ns F.env.locals m' → Chg (F.env.locals :: Z) s.heap h' → m' x = some v → (∀ m, s.heap.Ns F.env.locals m → ∀ y, y ≠ x → m' y = m y) → StAtZ F Z s h' v x none
  | cel {c} : h'.IsCell c (some v) → Chg (c :: Z) s.heap h' → F.base c = none → StAtZ F Z s h' v x (some c)
/-- what the frame's locals or one of its cells comes to bear: a value whose containers are new -/
theorem Inv.storeZ {Z : List Addr} {s₀ s : Shared} {i : Nat} {x : Str} {acc : Option Addr} {p : PV} {own : Bool} {v : Value} {fpn : List Addr} (ok : FmOk F) (hs : F.slots[i]? = some (x, acc)) (I : Inv prog w F ρ s₀) (e : Ext s₀ s) (r : Rep prog w s.heap p v fpn) (fr : Fresh s₀ fpn)
    (hZ : Fresh s₀ Z) (ntZ : ∀ z ∈ Z, NT s.heap z) (hfZ : ∀ a ∈ fpn, a ∉ Z) (t : Nat) (h' : Heap) (st : StAtZ F Z s h' v x acc) : Inv prog w F (ρ.set i (p, own)) { s with heap := h', toks := t } := by
  have I' := I.ext e
  have I0 := I
  obtain ⟨kb, _, _, _, rs, acs, m₀, hm₀, fp, a, b⟩ := I
  have hm := hm₀.keeps e.2
  obtain ⟨oL, _, _, hoL, _⟩ := id hm₀
  obtain ⟨X, ch, nt, hXb, hXs, hXf⟩ : ∃ X : Addr, Chg (X :: Z) s.heap h' ∧ NT s.heap X ∧ F.base X = none ∧ (∃ o, s₀.heap.get? X = some o) ∧ (X = F.env.locals ∨ acc = some X) := by
    cases st with
    | loc a1 a2 a3 a4 => exact ⟨_, a2, NT.ns hm, ok.baseL, ⟨_, hoL⟩, .inl rfl⟩
    | cel a1 a2 a3 =>
      obtain ⟨ov, o, h1, h2⟩ := I0.cellAt hs
      exact ⟨_, a2, NT.cell (Heap.IsCell.keeps ⟨o, h1, h2⟩ e.2), a3, ⟨o, h1⟩, .inr rfl⟩
  have oldZ : ∀ y, (∃ o, s₀.heap.get? y = some o) → y ∉ Z := fun y ⟨o, ho⟩ q => by rw [hZ y q] at ho; cases ho
  have nin : ∀ y, y ≠ X → y ∉ Z → y ∉ X :: Z := fun y h1 h2 q => by
    rcases List.mem_cons.mp q with q | q
    · exact h1 q
    · exact h2 q
  have hXo : ∀ y o, y ≠ X → s₀.heap.get? y = some o → h'.get? y = some o := fun y o hne ho => ch y o (nin y hne (oldZ y ⟨o, ho⟩)) (e.2 _ _ ho)
  have nt' : ∀ a ∈ X :: Z, NT s.heap a := fun a ha => by
    rcases List.mem_cons.mp ha with rfl | ha
    · exact nt
    · exact ntZ a ha
  have frne : ∀ a ∈ fpn, ∀ y, (∃ o, s₀.heap.get? y = some o) → a ≠ y := fun a ha y ⟨o, ho⟩ ea => by rw [ea] at ha; rw [fr y ha] at ho; cases ho
  have old : ∀ (j : Nat) (q : PV × Bool), ρ[j]? = some q → ∀ a ∈ fp j, ∃ o, s₀.heap.get? a = some o := fun j q hq => by
    obtain ⟨y, ac, hy⟩ := I0.slotAt hq
    obtain ⟨ov, _, h4, _⟩ := a j y ac q.1 q.2 hy hq
    exact h4.stands
  have hm2 : ∃ m', h'.Ns F.env.locals m' ∧ (acc = none → m' x = some v) ∧ ∀ y, (acc = none → y ≠ x) → m' y = m₀ y := by
    cases st with
    | loc a1 a2 a3 a4 => exact ⟨_, a1, fun _ => a3, fun y hy => a4 _ hm y (hy rfl)⟩
    | cel a1 a2 a3 => exact ⟨m₀, hm.at' fun o ho => a2 _ o (fun q => by
        rcases List.mem_cons.mp q with q | q
        · exact (ok.cel i x _ hs).2.2 q.symm
        · exact oldZ _ ⟨_, hoL⟩ q) ho, fun q => absurd q (by simp), fun y _ => rfl⟩
  obtain ⟨m', n1, n2, n3⟩ := hm2
  obtain ⟨fp', f1, f2⟩ : ∃ fp' : Nat → List Addr, fp' i = fpn ∧ ∀ j, j ≠ i → fp' j = fp j := ⟨fun j => if j = i then fpn else fp j, if_pos rfl, fun j hj => if_neg hj⟩
  refine ⟨fun y o ho => hXo y o (fun q => by rw [q, hXb] at ho; cases ho) (kb y o ho), I'.gens, I'.os, by rw [List.length_set]; exact I'.len, fun a ha => ?_, fun d hd => ?_, m', n1, fp', fun j y ac p' own' h1 h2 => ?_, fun j p' h1 y hy => ?_⟩
  · obtain ⟨o, ho⟩ := rs a ha
    refine ⟨o, hXo a o (fun q => ?_) ho⟩
    rcases hXf with q3 | q3
    · exact ok.resL (by rw [← q3, ← q]; exact ha)
    · exact ok.resC i x X (by rw [← q3]; exact hs) (q ▸ ha)
  · have hdX : d ≠ X := fun q => by
      obtain ⟨_, _, h3, h4⟩ := ok.acc d hd
      rcases hXf with q3 | q3
      · exact h3 (q.trans q3)
      · exact h4 i x (by rw [hs, q3, q])
    obtain ⟨⟨o, ho⟩, hn⟩ := acs d hd
    have hd' := hXo d o hdX ho
    exact ⟨⟨o, hd'⟩, fun o' ho' => by rw [hd'] at ho'; cases ho'; exact hn o ho⟩
  · by_cases hj : j = i
    · subst hj
      obtain ⟨rfl, rfl⟩ : p' = p ∧ own' = own := by have := set_at h2; exact ⟨congrArg Prod.fst this, congrArg Prod.snd this⟩
      rw [hs] at h1
      obtain ⟨rfl, rfl⟩ : x = y ∧ acc = ac := by cases h1; exact ⟨rfl, rfl⟩
      rw [f1]
      refine ⟨some v, ?_, RepO.of (r.chg ch (.inl nt') fun a ha => nin a (frne a ha X hXs) (hfZ a ha)), fun a ha => ⟨⟨frne a ha _ ⟨_, hoL⟩, fun q => q.elim (fun q => frne a ha a (rs a q) rfl) fun q => frne a ha a (acs a q).1 rfl⟩, fun j' x' c' hc' => ?_⟩⟩
      · cases st with
        | loc a1 a2 a3 a4 => exact (n2 rfl).symm
        | cel a1 a2 a3 => exact a1
      · obtain ⟨ov, o, q1, _⟩ := I0.cellAt hc'
        exact frne a ha _ ⟨o, q1⟩
    · rw [set_ne hj] at h2
      rw [f2 j hj]
      obtain ⟨ov, h3, h4, h5⟩ := a j y ac p' own' h1 h2
      refine ⟨ov, ?_, (h4.keep e.2).chg ch (.inl nt') fun z hz => nin z (fun hX' => ?_) (oldZ z (h4.stands z hz)), h5⟩
      · cases ac with
        | none =>
          have h3 : ov = m₀ y := h3
          show ov = m' y
          rw [h3, n3 y fun q => fun q2 => hj (ok.names j i y none none h1 (by rw [q2, ← q]; exact hs))]
        | some c =>
          have h3 : s₀.heap.IsCell c ov := h3
          obtain ⟨o, ho, hd⟩ := h3
          refine ⟨o, hXo c o (fun q => ?_) ho, hd⟩
          subst q
          rcases hXf with q | q
          · exact (ok.cel j y c h1).2.2 q
          · exact hj (ok.cells j i y x c h1 (by rw [← q]; exact hs))
      · rw [hX'] at hz
        rcases hXf with q | q
        · exact (h5 X hz).1.1 q
        · exact (h5 X hz).2 i x X (by rw [← q]; exact hs) rfl
  · by_cases hj : j = i
    · subst hj
      rw [f1] at hy
      refine ⟨?_, fun k q hk hq => ?_⟩
      · cases hb : F.base y with
        | none => rfl
        | some o => exact absurd rfl (frne y hy y ⟨o, kb y o hb⟩)
      · rw [f2 k hk]
        rw [set_ne hk] at hq
        exact fun hin => absurd rfl (frne y hy y (old k q hq y hin))
    · rw [f2 j hj] at hy
      rw [set_ne hj] at h1
      obtain ⟨c1, c2⟩ := b j p' h1 y hy
      refine ⟨c1, fun k q hk hq => ?_⟩
      by_cases hki : k = i
      · subst hki
        rw [f1]
        exact fun hin => absurd rfl (frne y hin y (old j (p', true) h1 y hy))
      · rw [f2 k hki]
        rw [set_ne hki] at hq
        exact c2 k q hk hq
/-- where a store falls -/
inductive StAt (F : Fm) (s : Shared) (h' : Heap) (v : Value) (x : Str) : Option Addr → Prop
  | loc {m'} : h'.Ns F.env.locals m' → Heap.SameBut F.env.locals s.heap h' → m' x = some v → (∀ m, s.heap.Ns F.env.locals m → ∀ y, y ≠ x → m' y = m y) → StAt F s h' v x none
  | cel {c} : h'.IsCell c (some v) → Heap.SameBut c s.heap h' → F.base c = none → StAt F s h' v x (some c)
theorem StAt.z {s : Shared} {h' : Heap} {v : Value} {x : Str} {acc : Option Addr} (h : StAt F s h' v x acc) : StAtZ F [] s h' v x acc := by
  cases h with
  | loc a b c d => exact .loc a (Chg.of_sameBut b) c d
  | cel a b c => exact .cel a (Chg.of_sameBut b) c
theorem Inv.store {s₀ s : Shared} {i : Nat} {x : Str} {acc : Option Addr} {p : PV} {own : Bool} {v : Value} {fpn : List Addr} (ok : FmOk F) (hs : F.slots[i]? = some (x, acc)) (I : Inv prog w F ρ s₀) (e : Ext s₀ s) (r : Rep prog w s.heap p v fpn) (fr : Fresh s₀ fpn)
    (t : Nat) (h' : Heap) (st : StAt F s h' v x acc) : Inv prog w F (ρ.set i (p, own)) { s with heap := h', toks := t } :=
  Inv.storeZ ok hs I e r fr (fun a ha => by cases ha) (fun a ha => by cases ha) (fun a _ q => by cases q) t h' st.z
end
variable {prog : Program} {w : World}

inductive Fl where
  | next | brk | cont | ret (p : PV)
section
variable (prog : Program) (w : World)
def FlRep (F : Fm) (s' : Shared) : Flow → Fl → Prop
  | .next, .next => True
  | .brk, .brk => True
  | .cont, .cont => True
  | .ret v, .ret p => ∃ fp, Rep prog w s'.heap p v fp ∧ ∀ a ∈ fp, F.base a = none
  | _, _ => False
/-- a piece of code run in a frame -/
def ExS (F : Fm) (ρ : Rho) (k : Nat) (t : Sem Flow) (P : Fl → Rho → Prop) : Prop :=
  ∀ b r, F.Le b r → FmOk (F.up b r) → ∀ A s, Room k A → Inv prog w (F.up b r) ρ s → wpAny (model prog w) A t (fun f s' => ∃ fl ρ', P fl ρ' ∧ Inv prog w (F.up b r) ρ' s' ∧ FlRep prog w F s' f fl) No s
/-- a test -/
def EvB (F : Fm) (ρ : Rho) (k : Nat) (e : PySem.Expr) (b : Bool) : Prop :=
  ∀ A s, Room k A → Inv prog w F ρ s → wpAny (model prog w) A (isTrue e F.env (eval e F.env)) (fun c s' => c = b ∧ Ext s s') No s
end
abbrev Only (ρ₁ : Rho) : Fl → Rho → Prop := fun fl ρ' => fl = .next ∧ ρ' = ρ₁

section
variable {F : Fm} {ρ ρ₁ : Rho} {k : Nat} {P P₁ : Fl → Rho → Prop}
theorem ex_mono {t : Sem Flow} (h : ExS prog w F ρ k t P₁) (hP : ∀ fl ρ', P₁ fl ρ' → P fl ρ') : ExS prog w F ρ k t P := fun b r' l ok A s r I =>
  wpAny_mono (h b r' l ok A s r I) (fun f s' ⟨fl, ρ', a, b⟩ => ⟨fl, ρ', hP _ _ a, b⟩) fun _ _ e => e
theorem ex_nil (h : P .next ρ) : ExS prog w F ρ k (execs [] F.env) P := fun b r' l ok A s r I => wpAny_execs_nil ⟨.next, ρ, h, I, trivial⟩
theorem ex_cons {st : Stmt} {rest : List Stmt} (h : ExS prog w F ρ k (exec st F.env) P₁) (hn : ∀ ρ', P₁ .next ρ' → ExS prog w F ρ' k (execs rest F.env) P) (hx : ∀ fl ρ', fl ≠ .next → P₁ fl ρ' → P fl ρ') :
    ExS prog w F ρ k (execs (st :: rest) F.env) P := fun b r' l ok A s r I => by
  refine wpAny_execs_cons (wpAny_mono (h b r' l ok A s r I) (fun f s' ⟨fl, ρ', a, b, c⟩ => ?_) fun _ _ e => e)
  cases f with
  | next => cases fl <;> first | exact hn ρ' a _ r' l ok A s' r b | exact c.elim
  | brk => cases fl <;> first | exact ⟨.brk, ρ', hx .brk ρ' (by intro q; cases q) a, b, c⟩ | exact c.elim
  | cont => cases fl <;> first | exact ⟨.cont, ρ', hx .cont ρ' (by intro q; cases q) a, b, c⟩ | exact c.elim
  | ret v => cases fl <;> first | exact ⟨.ret _, ρ', hx (.ret _) ρ' (by intro q; cases q) a, b, c⟩ | exact c.elim
/-- the usual statement: it goes on, with one frame -/
theorem ex_then {st : Stmt} {rest : List Stmt} (h : ExS prog w F ρ k (exec st F.env) (Only ρ₁)) (hn : ExS prog w F ρ₁ k (execs rest F.env) P) : ExS prog w F ρ k (execs (st :: rest) F.env) P :=
  ex_cons h (fun ρ' ⟨_, e⟩ => e ▸ hn) fun fl ρ' hne ⟨e, _⟩ => absurd e hne
theorem ex_one {st : Stmt} (h : ExS prog w F ρ k (exec st F.env) P) : ExS prog w F ρ k (execs [st] F.env) P :=
  ex_cons h (fun ρ' a => ex_nil a) fun _ _ _ a => a
theorem ex_if {test : PySem.Expr} {body orelse : List Stmt} {pos : PySem.Pos} {b : Bool} (ht : EvB prog w F ρ k test b) (h : if b then ExS prog w F ρ k (execs body F.env) P else ExS prog w F ρ k (execs orelse F.env) P) :
    ExS prog w F ρ k (exec (.If test body orelse pos) F.env) P := fun b' r' l ok A s r I => by
  refine wpAny_If (wpAny_mono (ht A s r (I.down l)) (fun c s' ⟨e, x⟩ => ?_) fun _ _ e => e)
  subst e
  cases c with
  | true => exact h b' r' l ok A s' r (I.ext x)
  | false => exact h b' r' l ok A s' r (I.ext x)
theorem ex_return {e : PySem.Expr} {pos : PySem.Pos} {p : PV} {fr : Bool} (h : EvJ prog w F ρ k e p fr) (hf : fr = true) (hP : P (.ret p) ρ) : ExS prog w F ρ k (exec (.Return (some e) pos) F.env) P := fun b' r' l ok A s r I =>
  wpAny_Return_some (wpAny_mono (h A s r (I.down l)) (fun v s' ⟨x, fp, a, b⟩ => ⟨.ret p, ρ, hP, I.ext x, fp, a, fun y hy => by
    cases hb : F.base y with
    | none => rfl
    | some o => have := b hf y hy; rw [I.keep y o (l.base y o hb)] at this; cases this⟩) fun _ _ e => e)
theorem ex_return_iv {e : PySem.Expr} {pos : PySem.Pos} {p : IV} {fr : Bool} (h : EvJ prog w F ρ k e (.iv p) fr) (hP : P (.ret (.iv p)) ρ) : ExS prog w F ρ k (exec (.Return (some e) pos) F.env) P := fun b' r' l ok A s r I =>
  wpAny_Return_some (wpAny_mono (h A s r (I.down l)) (fun v s' ⟨x, fp, a, b⟩ => ⟨.ret (.iv p), ρ, hP, I.ext x, fp, a, fun y hy => by rw [a.2] at hy; cases hy⟩) fun _ _ e => e)
theorem ex_break {pos : PySem.Pos} (hP : P .brk ρ) : ExS prog w F ρ k (exec (.Break pos) F.env) P := fun b' r' l ok A s r I => wpAny_Break ⟨.brk, ρ, hP, I, trivial⟩
/-- where a name may be stored: a local, or a cell of the frame's own -/
def Own (F : Fm) (x : Str) (acc : Option Addr) : Prop := ∀ c, acc = some c → F.env.kindOf x = some .cell ∧ F.mine c
theorem own_none {x : Str} : Own F x none := fun c e => nomatch e
theorem store_wp {A : Around} {s₀ s : Shared} {i : Nat} {x : Str} {acc : Option Addr} {p : PV} {own : Bool} {v : Value} {fpn : List Addr} {Q : Unit → Shared → Prop} {E : Value → Shared → Prop} (ok : FmOk F) (hs : F.slots[i]? = some (x, acc)) (ho : Own F x acc) (I : Inv prog w F ρ s₀) (e : Ext s₀ s)
    (r : Rep prog w s.heap p v fpn) (fr : Fresh s₀ fpn) (hQ : ∀ s', Inv prog w F (ρ.set i (p, own)) s' → Q () s') : wpAny (model prog w) A (storeName F.env x v) Q E s := by
  cases acc with
  | none =>
    obtain ⟨m, hm, _⟩ := (I.ext e).sl
    refine wpAny_storeName_local (ok.loc i x hs) hm (fun h' hn hsb => hQ _ ?_) (by
      show (F.env.scope.kind == .class || (F.env.scope.kind == .module && F.env.locals != F.env.globals)) = false
      rw [ok.kind]; rfl)
    exact Inv.store ok hs I e r fr _ h' (.loc hn hsb (if_pos rfl) fun m' hm' y hy => (if_neg hy).trans (ns_uniq hm hm' y))
  | some c =>
    obtain ⟨hk, hb⟩ := ho c rfl
    obtain ⟨ov, hc⟩ := (I.ext e).cellAt hs
    refine wpAny_storeName_cell ok.kind hk (ok.cel i x c hs).2.1 hc fun h' hc' hsb => hQ _ ?_
    exact Inv.store ok hs I e r fr s.toks h' (.cel hc' hsb (ok.mine c hb))
theorem ex_assign {x : Str} {np pos : PySem.Pos} {e : PySem.Expr} {p : PV} {fr own : Bool} (i : Nat) {acc : Option Addr} (hs : F.slots[i]? = some (x, acc)) (ho : Own F x acc) (h : EvJ prog w F ρ k e p fr) (hf : fr = true)
    (hsw : swapsWith e (some (.Name x np)) pos.line F.env = pure false) : ExS prog w F ρ k (exec (.Assign [.Name x np] e pos) F.env) (Only (ρ.set i (p, own))) := fun b' r' l ok A s r I => by
  refine wpAny_Assign_Name (wpAny_mono (h A s r (I.down l)) (fun v s' ⟨x, fp, a, b⟩ => ?_) fun _ _ e => e) hsw
  exact store_wp (F := F.up b' r') ok hs ho I x a (b hf) fun s'' I' => ⟨.next, _, ⟨rfl, rfl⟩, I', trivial⟩
theorem ex_assign_iv {x : Str} {np pos : PySem.Pos} {e : PySem.Expr} {p : IV} {fr own : Bool} (i : Nat) {acc : Option Addr} (hs : F.slots[i]? = some (x, acc)) (ho : Own F x acc) (h : EvJ prog w F ρ k e (.iv p) fr)
    (hsw : swapsWith e (some (.Name x np)) pos.line F.env = pure false) : ExS prog w F ρ k (exec (.Assign [.Name x np] e pos) F.env) (Only (ρ.set i (.iv p, own))) := fun b' r' l ok A s r I => by
  refine wpAny_Assign_Name (wpAny_mono (h A s r (I.down l)) (fun v s' ⟨x, fp, a, b⟩ => ?_) fun _ _ e => e) hsw
  exact store_wp (F := F.up b' r') ok hs ho I x a (fun y hy => by rw [a.2] at hy; cases hy) fun s'' I' => ⟨.next, _, ⟨rfl, rfl⟩, I', trivial⟩

/-- tests -/
theorem eb_val {e : PySem.Expr} {p : IV} {fr b : Bool} (h : EvJ prog w F ρ k e (.iv p) fr) (ht : ∀ A s v, Room k A → p.of s.heap v → wpAny (model prog w) A (truthy v) (fun c s' => c = b ∧ Ext s s') No s)
    (hi : ∀ Q s A E, wpAny (model prog w) A (eval e F.env) (fun v s₁ => wpAny (model prog w) A (truthy v) Q E s₁) E s → wpAny (model prog w) A (isTrue e F.env (eval e F.env)) Q E s) : EvB prog w F ρ k e b := fun A s r I =>
  hi _ _ _ _ (wpAny_mono (h A s r I) (fun v s' ⟨x, fp, a, _⟩ => wpAny_mono (ht A s' v r a.1) (fun c s'' ⟨e1, x'⟩ => ⟨e1, x.trans x'⟩) fun _ _ e => e) fun _ _ e => e)
theorem eb_bool {e : PySem.Expr} {b fr : Bool} (h : EvJ prog w F ρ k e (.bool b) fr) 
    (hi : ∀ Q s A E, wpAny (model prog w) A (eval e F.env) (fun v s₁ => wpAny (model prog w) A (truthy v) Q E s₁) E s → wpAny (model prog w) A (isTrue e F.env (eval e F.env)) Q E s) : EvB prog w F ρ k e b :=
  eb_val h (fun A s v _ (hv : v = .bool b) => by subst hv; exact wpAny_truthy_bool ⟨rfl, Ext.refl s⟩) hi
theorem eb_call {f : PySem.Expr} {as : List PySem.Expr} {kw : List Keyword} {pos : PySem.Pos} {b fr : Bool} (h : EvJ prog w F ρ k (.Call f as kw pos) (.bool b) fr) : EvB prog w F ρ k (.Call f as kw pos) b :=
  eb_bool h fun Q s A E h => wpAny_isTrue_value h
theorem eb_cmp {op : CmpOp} {l r : PySem.Expr} {pos : PySem.Pos} {p q : PV} {f1 f2 fr b : Bool} (hm : behindInMarks op r = false) (hl : EvJ prog w F ρ k l p f1) (hr : EvJ prog w F ρ k r q f2) (h : Op2 (prog := prog) (w := w) k (compareOp op) p q (.bool b) fr) :
    EvB prog w F ρ k (.Compare l [op] [r] pos) b := fun A s rm I => by
  refine wpAny_isTrue_Compare1 (hm := hm) (wpAny_mono (hl A s rm I) (fun a s₁ ⟨x1, fp1, r1, _⟩ => ?_) fun _ _ e => e)
  refine wpAny_mono (hr A s₁ rm (I.ext x1)) (fun c s₂ ⟨x2, fp2, r2, _⟩ => ?_) fun _ _ e => e
  refine wpAny_mono (h A s₂ a c fp1 fp2 rm ((I.ext x1).ext x2).gens (r1.keep x2.2) r2) (fun v s₃ ⟨x3, fp3, r3, f3⟩ => ?_) fun _ _ e => e
  have hv : v = .bool b := r3.1
  subst hv
  exact wpAny_truthy_bool ⟨rfl, (x1.trans x2).trans x3⟩
theorem eb_not {e : PySem.Expr} {pos : PySem.Pos} {b : Bool} (h : EvB prog w F ρ k e b) : EvB prog w F ρ k (.UnaryOp .Not e pos) (!b) := fun A s r I =>
  wpAny_isTrue_Not (wpAny_mono (h A s r I) (fun c s' ⟨e, x⟩ => ⟨by rw [e], x⟩) fun _ _ e => e)
/-- and, or: a list of tests; the tail is asked only where it is met -/
inductive EvAll (F : Fm) (ρ : Rho) (k : Nat) : BoolOp → List PySem.Expr → Bool → Prop
  | andNil : EvAll F ρ k .And [] true
  | orNil : EvAll F ρ k .Or [] false
  | andCons {x rest b c} : EvB prog w F ρ k x b → (b = true → EvAll F ρ k .And rest c) → EvAll F ρ k .And (x :: rest) (b && c)
  | orCons {x rest b c} : EvB prog w F ρ k x b → (b = false → EvAll F ρ k .Or rest c) → EvAll F ρ k .Or (x :: rest) (b || c)
theorem evAll_wp {op : BoolOp} {es : List PySem.Expr} {b : Bool} (h : EvAll (prog := prog) (w := w) F ρ k op es b) : ∀ A s, Room k A → Inv prog w F ρ s → wpAny (model prog w) A (allTrue op es F.env) (fun c s' => c = b ∧ Ext s s') No s := by
  induction h with
  | andNil => exact fun A s r I => wpAny_allTrue_And_nil ⟨rfl, Ext.refl s⟩
  | orNil => exact fun A s r I => wpAny_allTrue_Or_nil ⟨rfl, Ext.refl s⟩
  | @andCons x rest b c hx hr ih =>
    intro A s r I
    refine wpAny_allTrue_And_cons (wpAny_mono (hx A s r I) (fun d s' ⟨e, y⟩ => ?_) fun _ _ e => e)
    subst e
    cases d with
    | false => exact ⟨rfl, y⟩
    | true => exact wpAny_mono (ih rfl A s' r (I.ext y)) (fun d s'' ⟨e, z⟩ => ⟨by rw [e]; rfl, y.trans z⟩) fun _ _ e => e
  | @orCons x rest b c hx hr ih =>
    intro A s r I
    refine wpAny_allTrue_Or_cons (wpAny_mono (hx A s r I) (fun d s' ⟨e, y⟩ => ?_) fun _ _ e => e)
    subst e
    cases d with
    | true => exact ⟨rfl, y⟩
    | false => exact wpAny_mono (ih rfl A s' r (I.ext y)) (fun d s'' ⟨e, z⟩ => ⟨by rw [e]; rfl, y.trans z⟩) fun _ _ e => e
theorem eb_op {op : BoolOp} {es : List PySem.Expr} {pos : PySem.Pos} {b : Bool} (h : EvAll (prog := prog) (w := w) F ρ k op es b) : EvB prog w F ρ k (.BoolOp op es pos) b := fun A s r I =>
  wpAny_isTrue_BoolOp (evAll_wp h A s r I)
theorem ev_ifexp {test a b : PySem.Expr} {pos : PySem.Pos} {c : Bool} {p : PV} {fr : Bool} (ht : EvB prog w F ρ k test c) (h : if c then EvJ prog w F ρ k a p fr else EvJ prog w F ρ k b p fr) : EvJ prog w F ρ k (.IfExp test a b pos) p fr := fun A s r I => by
  refine wpAny_IfExp (wpAny_mono (ht A s r I) (fun d s' ⟨e, x⟩ => ?_) fun _ _ e => e)
  subst e
  have fin : ∀ v s'', Gives' prog w p fr s' v s'' → Gives' prog w p fr s v s'' := fun v s'' ⟨y, fp, q, f⟩ => ⟨x.trans y, fp, q, fun e a ha => x.none (f e a ha)⟩
  cases d with
  | true => exact wpAny_mono (h A s' r (I.ext x)) fin fun _ _ e => e
  | false => exact wpAny_mono (h A s' r (I.ext x)) fin fun _ _ e => e
end
variable {prog : Program} {w : World}

abbrev Bk (base : Addr → Option Obj) (s : Shared) : Prop := ∀ a o, base a = some o → s.heap.get? a = some o
section
variable (prog : Program) (w : World)
/-- a global or built-in name's value -/
def Glob (F : Fm) (x : Str) (v : Value) : Prop := ∀ (A : Around) (s : Shared) (pos : PySem.Pos) (Q E : Value → Shared → Prop), Bk F.base s → Q v s → wpAny (model prog w) A (eval (.Name x pos) F.env) Q E s
/-- a call of v -/
def CallP (base : Addr → Option Obj) (k : Nat) (v : Value) (ps : List PV) (p : PV) (fr : Bool) : Prop :=
  ∀ A s vals, Room k A → s.gens = #[] → Bk base s → Reps prog w s.heap ps vals → wpAny (model prog w) A (PySem.call v vals) (Gives' prog w p fr s) No s
end
theorem glob_of {F : Fm} {x : Str} {v : Value} {mg : Str → Option Value} (hk : F.env.scope.kind = .function) (hx : F.env.kindOf x = some .globalImplicit) (hg : ∀ s : Shared, Bk F.base s → s.heap.Ns F.env.globals mg) (hv : mg x = some v) (hd : (x == ("__debug__" : Str)) = false := by decide) : Glob prog w F x v :=
  fun A s pos Q E b h => Calls.Name_function_global hk hx (Calls.loadGlobal_global (hg s b) hv h) hd
theorem glob_bi {F : Fm} {x : Str} {v : Value} {mg mb : Str → Option Value} (hk : F.env.scope.kind = .function) (hx : F.env.kindOf x = some .globalImplicit) (hg : ∀ s : Shared, Bk F.base s → s.heap.Ns F.env.globals mg) (hn : mg x = none)
    (hb : ∀ s : Shared, Bk F.base s → s.heap.Ns F.env.builtins mb) (hv : mb x = some v) (hd : (x == ("__debug__" : Str)) = false := by decide) : Glob prog w F x v :=
  fun A s pos Q E b h => Calls.Name_function_global hk hx (Calls.loadGlobal_builtin (hg s b) hn (hb s b) hv h) hd

section
variable {F : Fm} {ρ : Rho} {k : Nat} {M : Model} {A : Around} {E : Value → Shared → Prop} {s : Shared}
theorem ev_glob {x : Str} {pos : PySem.Pos} {v : Value} {p : IV} (g : Glob prog w F x v) (hp : ∀ h, p.of h v) : EvJ prog w F ρ k (.Name x pos) (.iv p) true := fun A s r I =>
  g A s pos _ _ I.keep ⟨Ext.refl s, [], ⟨hp _, rfl⟩, fun _ _ h => nomatch h⟩
theorem evalArgs_any {f : Value} {args : List (Bool × Sem Value)} {Q : Args → Shared → Prop} (hp : args.any (·.1) = false) (h : wpAny M A (spliced args) (fun vs s' => Q ⟨vs, []⟩ s') E s) : wpAny M A (evalArgs f true args []) Q E s := by
  cases args with
  | nil =>
    unfold evalArgs
    show wpAny M A (spliced [] >>= _) Q E s
    refine wpAny_bind (wpAny_mono h (fun vs s' h' => ?_) fun _ _ x => x)
    refine wpAny_holding ?_
    exact wpAny_bind (wpAny_pure (wpAny_bind (wpAny_pure (wpAny_pure h'))))
  | cons x rest =>
    obtain ⟨b, t⟩ := x
    have hb : b = false := by
      cases b with
      | false => rfl
      | true => simp at hp
    subst hb
    exact Calls.evalArgs_plain h
theorem callWith_val {pos : PySem.Pos} {v : Value} {first : List Value} {args : List (Bool × Sem Value)} {Q : Value → Shared → Prop} (hp : args.any (·.1) = false) (hv : ∀ a, v ≠ .ref a)
    (h : wpAny M A (spliced args) (fun vs s₁ => wpAny M A (PySem.call v (first ++ vs) []) Q E s₁) E s) : wpAny M A (callWith pos v first args []) Q E s := by
  unfold callWith
  refine wpAny_bind (wpAny_holding (evalArgs_any hp (wpAny_mono h (fun vs s₁ h₁ => wpAny_bind (wpAny_standAt ?_)) fun _ _ x => x)))
  simp only [hp, List.any_nil, Bool.or_false]
  have hk : keeperOf v = pure .machine := by
    unfold keeperOf
    cases v <;> first | rfl | exact absurd rfl (hv _)
  rw [hk]
  refine wpAny_bind (wpAny_pure ?_)
  exact wpAny_bind (wpAny_mono h₁ (fun r s₂ hr => wpAny_bind (wpAny_holding (wpAny_point (wpAny_pure hr)))) fun _ _ x => x)
theorem callWith_fn {pos : PySem.Pos} {a : Addr} {o : Obj} {fd : FuncData} {first : List Value} {args : List (Bool × Sem Value)} {Q : Value → Shared → Prop} (hp : args.any (·.1) = false) (hd : o.data = .func fd)
    (h : wpAny M A (spliced args) (fun vs s₁ => s₁.heap.get? a = some o ∧ wpAny M A (PySem.call (.ref a) (first ++ vs) []) Q E s₁) E s) : wpAny M A (callWith pos (.ref a) first args []) Q E s :=
  Calls.callWith_function (evalArgs_any hp (wpAny_mono h (fun vs s₁ ⟨h1, h2⟩ => ⟨⟨h1, hd⟩, h2⟩) fun _ _ x => x))
abbrev plainArgs (es : List PySem.Expr) (env : Env) : List (Bool × Sem Value) := es.map fun e => (false, eval e env)
theorem plainArgs_any (es : List PySem.Expr) (env : Env) : (plainArgs es env).any (·.1) = false := by induction es with
  | nil => rfl
  | cons e es ih => exact ih
theorem backTo_plain (pos : PySem.Pos) (es : List PySem.Expr) (env : Env) : backTo pos (plainArgs es env) = plainArgs es env := by
  unfold backTo plainArgs
  rw [List.map_map]
  exact List.map_congr_left fun e _ => rfl
theorem args_wp {es : List PySem.Expr} {ps : List PV} (h : EvL prog w F ρ k es ps) : ∀ A s, Room k A → Inv prog w F ρ s → wpAny (model prog w) A (spliced (plainArgs es F.env)) (fun vs s' => Ext s s' ∧ Reps prog w s'.heap ps vs) No s := by
  induction h with
  | nil => exact fun A s r I => Calls.spliced_nil ⟨Ext.refl s, trivial⟩
  | @cons e es p ps fr he hl ih =>
    intro A s r I
    refine Calls.spliced_cons (wpAny_mono (he A s r I) (fun v s₁ ⟨x, fp, a, _⟩ => ?_) fun _ _ e => e)
    exact wpAny_mono (ih A s₁ r (I.ext x)) (fun vs s₂ ⟨y, b⟩ => ⟨x.trans y, ⟨fp, a.keep y.2⟩, b⟩) fun _ _ e => e
theorem give_trans {p : PV} {fr : Bool} {s s₁ s₂ : Shared} {v : Value} (x : Ext s s₁) (h : Gives' prog w p fr s₁ v s₂) : Gives' prog w p fr s v s₂ :=
  let ⟨y, fp, a, f⟩ := h
  ⟨x.trans y, fp, a, fun e b hb => x.none (f e b hb)⟩
/-- a call by a global name -/
theorem ev_call {f : Str} {np pos : PySem.Pos} {es : List PySem.Expr} {ps : List PV} {v : Value} {p : PV} {fr : Bool} (hs : starEach es F.env = plainArgs es F.env) (g : Glob prog w F f v) (ha : EvL prog w F ρ k es ps) (c : CallP prog w F.base k v ps p fr)
    (hv : ∀ a, v = .ref a → ∃ o fd, F.base a = some o ∧ o.data = .func fd) : EvJ prog w F ρ k (.Call (.Name f np) es [] pos) p fr := fun A s r I => by
  show wpAny (model prog w) A (eval (.Name f np) F.env >>= fun fv => callWith pos fv [] (backTo pos (starEach es F.env)) []) _ _ s
  rw [hs, backTo_plain]
  refine wpAny_bind (g A s np _ _ I.keep ?_)
  by_cases hr : ∃ a, v = .ref a
  · obtain ⟨a, rfl⟩ := hr
    obtain ⟨o, fd, h1, h2⟩ := hv a rfl
    refine callWith_fn (plainArgs_any _ _) h2 (wpAny_mono (args_wp ha A s r I) (fun vs s₁ ⟨x, b⟩ => ⟨(I.ext x).keep a o h1, ?_⟩) fun _ _ e => e)
    exact wpAny_mono (c A s₁ vs r (I.ext x).gens (I.ext x).keep b) (fun v s₂ q => give_trans x q) fun _ _ e => e
  · refine callWith_val (plainArgs_any _ _) (fun a e => hr ⟨a, e⟩) (wpAny_mono (args_wp ha A s r I) (fun vs s₁ ⟨x, b⟩ => ?_) fun _ _ e => e)
    exact wpAny_mono (c A s₁ vs r (I.ext x).gens (I.ext x).keep b) (fun v s₂ q => give_trans x q) fun _ _ e => e

/-- the type of a value of ours -/
inductive TyOf : PV → String → Prop
  | str {x} : TyOf (.str x) "str"
  | int {x} : TyOf (.int x) "int"
  | tup {l} : TyOf (.tup l) "tuple"
  | list {l} : TyOf (.list l) "list"
  | dict {l} : TyOf (.dict l) "dict"
theorem TyOf.is {p : PV} {T : String} (t : TyOf p T) {s : Shared} {v : Value} {fp : List Addr} (r : Rep prog w s.heap p v fp) : s.TypeIs v T := by
  cases t with
  | str => obtain ⟨⟨t, rfl⟩, _⟩ := r; exact typeIs_str _ _ _
  | int => obtain ⟨⟨t, rfl⟩, _⟩ := r; exact typeIs_int _ _ _
  | tup => obtain ⟨⟨a, vs, rfl, h, _⟩, _⟩ := r; exact h.typeIs
  | list => obtain ⟨a, vs, rfl, h, _⟩ := r; exact h.isList.typeIs
  | dict => obtain ⟨a, kvs, rfl, ⟨o, es, ep, h1, h2, _⟩, _⟩ := r; exact ⟨o, h1, h2.1⟩
theorem TyOf.noDict {p : PV} {T : String} (t : TyOf p T) (ht : T ≠ "tuple") {s : Shared} {v : Value} {fp : List Addr} (r : Rep prog w s.heap p v fp) : ∀ a, v = .ref a → ∃ ob, s.heap.get? a = some ob ∧ ob.dict = none := by
  cases t with
  | str => obtain ⟨⟨t, rfl⟩, _⟩ := r; intro a e; cases e
  | int => obtain ⟨⟨t, rfl⟩, _⟩ := r; intro a e; cases e
  | tup => exact absurd rfl ht
  | list => obtain ⟨a, vs, rfl, ⟨o, n, h1, h2, h3, h4⟩, _⟩ := r; intro b e; cases e; exact ⟨o, h1, h3⟩
  | dict => obtain ⟨a, kvs, rfl, ⟨o, es, ep, h1, h2, _⟩, _⟩ := r; intro b e; cases e; exact ⟨o, h1, h2.2.1⟩
/-- a built-in type's method -/
structure MethOk (T : String) (name : Str) (id : String) : Prop where
  pa : PlainAttrs T
  slot : Slot T name id
  ty : typeOf (.builtin id) = pure (.type "method_descriptor")
  nt : T ≠ "tuple"
theorem ev_meth {o : PySem.Expr} {name : Str} {apos pos : PySem.Pos} {es : List PySem.Expr} {p0 : PV} {ps : List PV} {T id : String} {p : PV} {f0 fr : Bool} (hb : attributeBase o name F.env (eval o F.env) = eval o F.env) (hs : starEach es F.env = plainArgs es F.env) (hl : (apos.endLine == pos.line) = true) (hlen : es.length < 30)
    (h0 : EvJ prog w F ρ k o p0 f0) (ha : EvL prog w F ρ k es ps) (ty : TyOf p0 T) (m : MethOk T name id) (c : CallP prog w F.base k (.builtin id) (p0 :: ps) p fr) : EvJ prog w F ρ k (.Call (.Attribute o name apos) es [] pos) p fr := fun A s r I => by
  refine wpAny_Call_method_lateS hb ?_ hl ?_
  · rw [hs, backTo_plain]
    have e1 : ∀ es : List PySem.Expr, (plainArgs es F.env).all (fun x => !x.1) = true := fun es => by induction es with
      | nil => rfl
      | cons e es ih => exact ih
    rw [e1]
    simp [backToKw, keywordEach, hlen]
  · rw [hs, backTo_plain]
    refine wpAny_mono (h0 A s r I) (fun ov s₁ ⟨x, fp, a, _⟩ => ?_) fun _ _ e => e
    refine ⟨T, id, m.pa, m.slot, m.ty, ty.is a, ty.noDict m.nt a, ?_⟩
    refine callWith_val (plainArgs_any _ _) (fun b e => nomatch e) (wpAny_mono (args_wp ha A s₁ r (I.ext x)) (fun vs s₂ ⟨y, b⟩ => ?_) fun _ _ e => e)
    exact wpAny_mono (c A s₂ (ov :: vs) r ((I.ext x).ext y).gens ((I.ext x).ext y).keep ⟨⟨fp, a.keep y.2⟩, b⟩) (fun v s₃ q => give_trans (x.trans y) q) fun _ _ e => e
end
variable {prog : Program} {w : World}

/-- a frame known less well -/
inductive Weaker : Rho → Rho → Prop
  | nil : Weaker [] []
  | same {l l' q} : Weaker l l' → Weaker (q :: l) (q :: l')
  | any {l l' q} : Weaker l l' → Weaker (q :: l) ((.any, false) :: l')
  | dis {l l' p o} : Weaker l l' → Weaker ((p, o) :: l) ((p, false) :: l')
theorem Weaker.refl : ∀ (l : Rho), Weaker l l
  | [] => .nil
  | _ :: l => .same (Weaker.refl l)
theorem Weaker.length {l l' : Rho} (h : Weaker l l') : l'.length = l.length := by induction h <;> simp_all
theorem Weaker.at {l l' : Rho} (h : Weaker l l') : ∀ {i : Nat} {q : PV × Bool}, l'[i]? = some q → ∃ q0, l[i]? = some q0 ∧ (q = q0 ∨ q = (.any, false) ∨ q = (q0.1, false)) := by
  induction h with
  | nil => intro i q h; simp at h
  | @same l l' x _ ih => intro i q h; cases i with
    | zero => simp at h; exact ⟨x, by simp, .inl h.symm⟩
    | succ i => exact ih (by simpa using h)
  | @any l l' x _ ih => intro i q h; cases i with
    | zero => simp at h; exact ⟨x, by simp, .inr (.inl h.symm)⟩
    | succ i => exact ih (by simpa using h)
  | @dis l l' p o _ ih => intro i q h; cases i with
    | zero => simp at h; exact ⟨(p, o), by simp, .inr (.inr h.symm)⟩
    | succ i => exact ih (by simpa using h)
theorem Inv.weak {F : Fm} {ρ ρ' : Rho} {s : Shared} (I : Inv prog w F ρ s) (h : Weaker ρ ρ') : Inv prog w F ρ' s := by
  have I0 := I
  obtain ⟨k, g, o, ln, rs, ac, m, hm, fp, a, c⟩ := I
  obtain ⟨fp', f1⟩ : ∃ fp' : Nat → List Addr, ∀ i q, ρ'[i]? = some q → (q = (.any, false) ∧ fp' i = []) ∨ (q ≠ (.any, false) ∧ fp' i = fp i) := by
    refine ⟨fun i => match ρ'[i]? with | some (.any, false) => [] | _ => fp i, fun i q hq => ?_⟩
    dsimp only
    rw [hq]
    obtain ⟨p, b⟩ := q
    cases p <;> cases b <;> simp
  refine ⟨k, g, o, h.length.trans ln, rs, ac, m, hm, fp', fun i y acc p own h1 h2 => ?_, fun i p h1 y hy => ?_⟩
  · obtain ⟨q0, h3, h4⟩ := h.at h2
    obtain ⟨ov, h5, h6, h7⟩ := a i y acc q0.1 q0.2 h1 h3
    rcases f1 i _ h2 with ⟨e1, e2⟩ | ⟨e1, e2⟩
    · cases e1
      exact ⟨ov, h5, e2, fun z hz => by rw [e2] at hz; cases hz⟩
    · rw [e2]
      refine ⟨ov, h5, ?_, h7⟩
      rcases h4 with h4 | h4 | h4
      · rw [← h4] at h6; exact h6
      · exact absurd h4 e1
      · cases h4; exact h6
  · obtain ⟨q0, h3, h4⟩ := h.at h1
    rcases f1 i _ h1 with ⟨e1, e2⟩ | ⟨e1, e2⟩
    · cases e1
    · rw [e2] at hy
      have h5 : ρ[i]? = some (p, true) := by
        rcases h4 with h4 | h4 | h4
        · rw [h3, h4]
        · cases h4
        · cases h4
      obtain ⟨c1, c2⟩ := c i p h5 y hy
      refine ⟨c1, fun j q hj hq => ?_⟩
      obtain ⟨q1, h6, _⟩ := h.at hq
      rcases f1 j _ hq with ⟨d1, d2⟩ | ⟨d1, d2⟩
      · rw [d2]; simp
      · rw [d2]; exact c2 j q1 hj h6
theorem acc_chg {X : List Addr} {h h' : Heap} (ch : Chg X h h') {d : Addr} (hd : d ∉ X) (x : (∃ o, h.get? d = some o) ∧ NT h d) : (∃ o, h'.get? d = some o) ∧ NT h' d := by
  obtain ⟨⟨o, ho⟩, n⟩ := x
  have h2 := ch d o hd ho
  exact ⟨⟨o, h2⟩, fun o' ho' => by rw [h2] at ho'; cases ho'; exact n o ho⟩
/-- only reserved objects change -/
theorem Inv.swap {G : Fm} {ρ : Rho} {s : Shared} (ok : FmOk G) (I : Inv prog w G ρ s) {X : List Addr} {h' : Heap} {b : Addr → Option Obj} (t : Nat) (hX : ∀ a ∈ X, G.res a) (ch : Chg X s.heap h') (nt : (∀ a ∈ X, NT s.heap a) ∨ ∀ (i : Nat) (q : PV × Bool), ρ[i]? = some q → q.1.flat = true)
    (hb : ∀ a o, b a = some o → h'.get? a = some o) (hn : ∀ a, G.base a = none → b a = none) (hs : ∀ a ∈ X, ∃ o, h'.get? a = some o) : Inv prog w (G.up b G.res) ρ { s with heap := h', toks := t } := by
  obtain ⟨k, g, o, ln, rs, ac, m, hm, fp, a, c⟩ := I
  have hL : G.env.locals ∉ X := fun q => ok.resL (hX _ q)
  refine ⟨hb, g, o, ln, fun z hz => ?_, fun d hd => acc_chg ch (fun q => (ok.acc d hd).2.1 (hX d q)) (ac d hd), m, hm.at' fun o e => ch _ o hL e, fp, fun i y acc p own h1 h2 => ?_, fun i p h1 y hy => ⟨hn y (c i p h1 y hy).1, (c i p h1 y hy).2⟩⟩
  · by_cases q : z ∈ X
    · exact hs z q
    · obtain ⟨o, ho⟩ := rs z hz
      exact ⟨o, ch z o q ho⟩
  · obtain ⟨ov, h5, h6, h7⟩ := a i y acc p own h1 h2
    refine ⟨ov, ?_, h6.chg ch (nt.imp id fun q => q i _ h2) fun z hz q => (h7 z hz).1.2 (.inl (hX z q)), h7⟩
    cases acc with
    | none => exact h5
    | some cc => exact let ⟨o, ho, hd⟩ := h5; ⟨o, ch _ o (fun q => ok.resC i y cc h1 (hX _ q)) ho, hd⟩

theorem Inv.drop {G : Fm} {ρ : Rho} {s : Shared} (ok : FmOk G) (I : Inv prog w G ρ s) {X : List Addr} {h' : Heap} {b : Addr → Option Obj} {r : Addr → Prop} (t : Nat) (hX : ∀ a ∈ X, G.res a) (ch : Chg X s.heap h')
    (nt : (∀ a ∈ X, NT s.heap a) ∨ ∀ (i : Nat) (q : PV × Bool), ρ[i]? = some q → q.1.flat = true) (hb : ∀ a o, b a = some o → G.base a = some o) (hbX : ∀ a ∈ X, b a = none) (hr : ∀ a, r a → G.res a) (hrX : ∀ a ∈ X, ¬ r a) : Inv prog w (G.up b r) ρ { s with heap := h', toks := t } := by
  obtain ⟨k, g, o, ln, rs, ac, m, hm, fp, a, c⟩ := I
  have hL : G.env.locals ∉ X := fun q => ok.resL (hX _ q)
  refine ⟨fun z o (e : b z = some o) => ch z o (fun q => by rw [hbX z q] at e; cases e) (k z o (hb z o e)), g, o, ln, fun z hz => ?_, fun d hd => acc_chg ch (fun q => (ok.acc d hd).2.1 (hX d q)) (ac d hd), m, hm.at' fun o e => ch _ o hL e, fp, fun i y acc p own h1 h2 => ?_, fun i p h1 y hy => ⟨?_, (c i p h1 y hy).2⟩⟩
  · obtain ⟨o, ho⟩ := rs z (hr z hz)
    exact ⟨o, ch z o (fun q => hrX z q hz) ho⟩
  · obtain ⟨ov, h5, h6, h7⟩ := a i y acc p own h1 h2
    refine ⟨ov, ?_, h6.chg ch (nt.imp id fun q => q i _ h2) fun z hz q => (h7 z hz).1.2 (.inl (hX z q)), fun z hz => ⟨⟨(h7 z hz).1.1, fun q => (h7 z hz).1.2 (q.imp (hr z) id)⟩, (h7 z hz).2⟩⟩
    cases acc with
    | none => exact h5
    | some cc => exact let ⟨o, ho, hd⟩ := h5; ⟨o, ch _ o (fun q => ok.resC i y cc h1 (hX _ q)) ho, hd⟩
  · show b y = none
    cases e : b y with
    | none => rfl
    | some o => have h4 := hb y o e; rw [(c i p h1 y hy).1] at h4; cases h4
def plus (b : Addr → Option Obj) (X : List Addr) (h : Heap) : Addr → Option Obj := fun a => if a ∈ X then h.get? a else b a
theorem plus_in {b : Addr → Option Obj} {X : List Addr} {h : Heap} {a : Addr} (e : a ∈ X) : plus b X h a = h.get? a := if_pos e
theorem plus_out {b : Addr → Option Obj} {X : List Addr} {h : Heap} {a : Addr} (e : a ∉ X) : plus b X h a = b a := if_neg e
theorem NT.fields {h : Heap} {a : Addr} (x : ∃ o vs, h.get? a = some o ∧ o.data = .fields vs) : NT h a := fun o ho xs n _ hd => by
  obtain ⟨o', vs, h1, h2⟩ := x
  rw [h1] at ho; cases ho
  rw [h2] at hd; cases hd

/-- an iterator: the objects X are its own -/
structure Iter (prog : Program) (w : World) (A : Around) (tgt : PySem.Expr) (z : Bool) (B : Addr → Option Obj) (I : Addr) (X : List Addr) (St : List IV → Heap → Prop) : Prop where
  std : ∀ l h, St l h → ∀ a ∈ X, ∃ o, h.get? a = some o
  nt : z = false → ∀ l h, St l h → ∀ a ∈ X, NT h a
  frm : ∀ l h h', St l h → (∀ a ∈ X, ∀ o, h.get? a = some o → h'.get? a = some o) → (∀ a o, B a = some o → h'.get? a = some o) → St l h'
  item : ∀ x l s (Q : Value → Shared → Prop) (E : Value → Shared → Prop), St (x :: l) s.heap → Bk B s → (∀ v h' tk, Chg X s.heap h' → x.of h' v → St l h' → Q v { s with heap := h', toks := tk }) →
    wpAny (model prog w) A (pyNext (.ref I)) (fun r s₁ => ∃ v, r = some v ∧ wpAny (model prog w) A (letOwnedTupleGo tgt (.ref I) v) (fun _ s₂ => Q v s₂) E s₁) E s
  done : ∀ s (Q : Option Value → Shared → Prop) (E : Value → Shared → Prop), St [] s.heap → Bk B s → (∀ h' tk, Chg X s.heap h' → Q none { s with heap := h', toks := tk }) → wpAny (model prog w) A (pyNext (.ref I)) Q E s
  self : ∀ l s (Q : Value → Shared → Prop) (E : Value → Shared → Prop), St l s.heap → Q (.ref I) s → wpAny (model prog w) A (pyIter (.ref I)) Q E s
abbrev rX (r : Addr → Prop) (X : List Addr) : Addr → Prop := fun a => r a ∨ a ∈ X
section
variable (prog : Program) (w : World)
/-- what is walked over -/
def ItJ (F : Fm) (ρ : Rho) (k : Nat) (z : Bool) (tgt e : PySem.Expr) (l : List IV) : Prop :=
  ∀ b r, F.Le b r → FmOk (F.up b r) → ∀ A s, Room k A → Inv prog w (F.up b r) ρ s → wpAny (model prog w) A (eval e F.env) (fun x s₁ => wpAny (model prog w) A (pyIter x) (fun it s₂ => Ext s s₂ ∧ ∃ I X b₂ St, it = .ref I ∧ (F.up b r).Le b₂ r ∧
    (∀ a ∈ X, b₂ a = none) ∧ FmOk (F.up (plus b₂ X s₂.heap) (rX r X)) ∧ Inv prog w (F.up (plus b₂ X s₂.heap) (rX r X)) ρ s₂ ∧ Fresh s X ∧ St l s₂.heap ∧ Iter prog w A tgt z b₂ I X St) No s₁) No s
/-- what is walked over, known less well -/
def ItE (F : Fm) (ρ : Rho) (k : Nat) (z : Bool) (tgt e : PySem.Expr) (Pl : List IV → Prop) : Prop :=
  ∀ b r, F.Le b r → FmOk (F.up b r) → ∀ A s, Room k A → Inv prog w (F.up b r) ρ s → wpAny (model prog w) A (eval e F.env) (fun x s₁ => wpAny (model prog w) A (pyIter x) (fun it s₂ => ∃ l, Pl l ∧ Ext s s₂ ∧ ∃ I X b₂ St, it = .ref I ∧ (F.up b r).Le b₂ r ∧
    (∀ a ∈ X, b₂ a = none) ∧ FmOk (F.up (plus b₂ X s₂.heap) (rX r X)) ∧ Inv prog w (F.up (plus b₂ X s₂.heap) (rX r X)) ρ s₂ ∧ Fresh s X ∧ St l s₂.heap ∧ Iter prog w A tgt z b₂ I X St) No s₁) No s
/-- a target is given a value -/
def AsgJ (F : Fm) (k : Nat) (tgt : PySem.Expr) (x : IV) (ρ ρ₁ : Rho) : Prop :=
  ∀ b r, F.Le b r → FmOk (F.up b r) → ∀ A s v, Room k A → x.of s.heap v → Inv prog w (F.up b r) ρ s → wpAny (model prog w) A (assign tgt F.env v) (fun _ s' => Inv prog w (F.up b r) ρ₁ s' ∧ ∃ X, Chg X s.heap s'.heap ∧ ∀ a ∈ X, NT s.heap a ∧ ¬ (r a ∨ F.acc a)) No s
end
def Turn (J : List IV → Rho → Prop) (P : Fl → Rho → Prop) (rest : List IV) : Fl → Rho → Prop
  | .next, ρ => J rest ρ
  | .cont, ρ => J rest ρ
  | .brk, ρ => P .next ρ
  | .ret p, ρ => P (.ret p) ρ
section
variable {F : Fm} {ρ : Rho} {b : Addr → Option Obj} {r : Addr → Prop} {X : List Addr}
theorem FmOk.replus {h h' : Heap} (ok : FmOk (F.up (plus b X h) (rX r X))) : FmOk (F.up (plus b X h') (rX r X)) := by
  have hL : F.env.locals ∉ X := fun q => ok.resL (.inr q)
  have hC : ∀ (i : Nat) (x : Str) (c : Addr), F.slots[i]? = some (x, some c) → c ∉ X := fun i x c h q => ok.resC i x c h (.inr q)
  refine ⟨ok.kind, ok.loc, ok.cel, ok.names, ok.cells, (plus_out hL).trans ((plus_out (h := h) hL).symm.trans ok.baseL), ok.resL, ok.resC, fun c hc => ?_, fun d hd => ⟨?_, (ok.acc d hd).2⟩, ok.mineC⟩
  rotate_left
  · have hdX : d ∉ X := fun q => (ok.acc d hd).2.1 (.inr q)
    exact (plus_out hdX).trans ((plus_out (h := h) hdX).symm.trans (ok.acc d hd).1)
  obtain ⟨i, x, hx⟩ := ok.mineC c hc
  exact (plus_out (hC i x c hx)).trans ((plus_out (h := h) (hC i x c hx)).symm.trans (ok.mine c hc))
theorem Inv.replus {s : Shared} (ok : FmOk (F.up (plus b X s.heap) (rX r X))) (I : Inv prog w (F.up (plus b X s.heap) (rX r X)) ρ s) {h' : Heap} (t : Nat) (ch : Chg X s.heap h') (nt : (∀ a ∈ X, NT s.heap a) ∨ ∀ (i : Nat) (q : PV × Bool), ρ[i]? = some q → q.1.flat = true) (hs : ∀ a ∈ X, ∃ o, h'.get? a = some o) :
    Inv prog w (F.up (plus b X h') (rX r X)) ρ { s with heap := h', toks := t } := by
  refine Inv.swap ok I t (fun a ha => .inr ha) ch nt (fun a o e => ?_) (fun a e => ?_) hs
  · by_cases q : a ∈ X
    · rw [plus_in q] at e; exact e
    · rw [plus_out q] at e
      exact ch a o q (I.keep a o ((plus_out q).trans e))
  · by_cases q : a ∈ X
    · obtain ⟨o, ho⟩ := I.res a (.inr q)
      rw [show (F.up (plus b X s.heap) (rX r X)).base a = _ from plus_in q, ho] at e; cases e
    · rw [plus_out q]; rw [show (F.up (plus b X s.heap) (rX r X)).base a = _ from plus_out q] at e; exact e
theorem plus_same {s s' : Shared} (I : Inv prog w (F.up (plus b X s.heap) (rX r X)) ρ s') (hs : ∀ a ∈ X, ∃ o, s.heap.get? a = some o) : plus b X s.heap = plus b X s'.heap := by
  funext a
  by_cases q : a ∈ X
  · obtain ⟨o, ho⟩ := hs a q
    rw [plus_in q, plus_in q, ho]
    exact (I.keep a o ((plus_in q).trans ho)).symm
  · rw [plus_out q, plus_out q]
end
section
variable {F : Fm} {ρ : Rho} {k : Nat} {P : Fl → Rho → Prop}
theorem ex_forE {target iter : PySem.Expr} {body : List Stmt} {pos : PySem.Pos} {Pl : List IV → Prop} {z : Bool} (hI : ItE prog w F ρ k z target iter Pl) (J : List IV → Rho → Prop) (h0 : ∀ l, Pl l → J l ρ) (hend : ∀ ρ', J [] ρ' → P .next ρ')
    (hstep : ∀ x rest ρ', J (x :: rest) ρ' → ∃ ρ₁, AsgJ prog w F k target x ρ' ρ₁ ∧ ExS prog w F ρ₁ k (execs body F.env) (Turn J P rest))
    (hz : z = true → ∀ l ρ', J l ρ' → ∀ (i : Nat) (q : PV × Bool), ρ'[i]? = some q → q.1.flat = true := by intro h; cases h) (hs : ∀ x, foldedSetIterable iter F.env x = pure x := by intro _; rfl) :
    ExS prog w F ρ k (exec (.For target iter body [] pos) F.env) P := fun b r l₀ ok A s rm I => by
  refine wpAny_For (wpAny_mono (hI b r l₀ ok A s rm I) (fun x s₁ h₁ => wpAny_mono h₁ (fun it s₂ h₂ => ?_) fun _ _ e => e) fun _ _ e => e) hs
  obtain ⟨l, hPl, x₂, Ia, X, b₂, St, rfl, l₂, bX, ok₂, I₂, fX, st, W⟩ := h₂
  have le : ∀ h : Heap, (F.up b r).Le (plus b₂ X h) (rX r X) := fun h => ⟨fun a o e => by
    have e2 := l₂.base a o e
    exact (plus_out fun q => by rw [bX a q] at e2; cases e2).trans e2, fun a q => .inl q⟩
  have bk : ∀ (s' : Shared) ρ', Inv prog w (F.up (plus b₂ X s'.heap) (rX r X)) ρ' s' → Bk b₂ s' := fun s' ρ' I' a o e => I'.keep a o ((plus_out fun q => by rw [bX a q] at e; cases e).trans e)
  refine codeAny_forLoop_any (fun n s' => ∃ l ρ', n = l.length ∧ J l ρ' ∧ Inv prog w (F.up (plus b₂ X s'.heap) (rX r X)) ρ' s' ∧ St l s'.heap) ?_ l.length ⟨l, ρ, rfl, h0 l hPl, I₂, st⟩
  rintro n s' ⟨l', ρ', rfl, hJ, I', st'⟩
  have nt : (∀ a ∈ X, NT s'.heap a) ∨ ∀ (i : Nat) (q : PV × Bool), ρ'[i]? = some q → q.1.flat = true := by
    cases z with
    | false => exact .inl fun a ha => W.nt rfl _ _ st' a ha
    | true => exact .inr (hz rfl _ _ hJ)
  cases l' with
  | nil =>
    refine W.done s' _ _ st' (bk s' ρ' I') fun h' tk ch => wpAny_execs_nil ?_
    exact ⟨.next, ρ', hend ρ' hJ, Inv.drop (ok₂.replus) I' tk (fun a ha => .inr ha) ch nt (le s'.heap).base (fun a ha => by
      cases e : b a with
      | none => rfl
      | some o => have := l₂.base a o e; rw [bX a ha] at this; cases this) (fun a q => .inl q) (fun a ha q => by obtain ⟨o, ho⟩ := I.res a q; rw [fX a ha] at ho; cases ho), trivial⟩
  | cons x rest =>
    obtain ⟨ρ₁, ha, hb⟩ := hstep x rest ρ' hJ
    refine wpAny_mono (W.item x rest s' (fun v s₂ => wpAny (model prog w) A (assign target F.env v) (fun _ s₃ => wpAny (model prog w) A (execs body F.env) (fun f s₄ => match f with
            | .next | .cont => ∃ m, m < rest.length + 1 ∧ ∃ l ρ', m = l.length ∧ J l ρ' ∧ Inv prog w (F.up (plus b₂ X s₄.heap) (rX r X)) ρ' s₄ ∧ St l s₄.heap
            | .brk => ∃ fl ρ', P fl ρ' ∧ Inv prog w (F.up b r) ρ' s₄ ∧ FlRep prog w F s₄ .next fl
            | .ret v => ∃ fl ρ', P fl ρ' ∧ Inv prog w (F.up b r) ρ' s₄ ∧ FlRep prog w F s₄ (.ret v) fl) No s₃) No s₂) No st' (bk s' ρ' I') fun v h' tk ch hx st₁ => ?_) (fun r' s₃ h => ?_) fun _ _ e => e.elim
    · have I₁ := I'.replus ok₂.replus tk ch nt (W.std _ _ st₁)
      have X₁ : ∀ a ∈ X, ∃ o, h'.get? a = some o := W.std _ _ st₁
      have l₁ : F.Le (plus b₂ X h') (rX r X) := l₀.trans (le h')
      refine wpAny_mono (ha _ _ l₁ ok₂.replus A _ v rm hx I₁) (fun _ s₃ ⟨I₃, _⟩ => ?_) fun _ _ e => e
      have I₃ : Inv prog w (F.up (plus b₂ X h') (rX r X)) ρ₁ s₃ := I₃
      refine wpAny_mono (hb _ _ l₁ ok₂.replus A s₃ rm I₃) (fun f s₄ ⟨fl, ρ₄, h4, I₄, h5⟩ => ?_) fun _ _ e => e
      have I₄ : Inv prog w (F.up (plus b₂ X h') (rX r X)) ρ₄ s₄ := I₄
      have es : plus b₂ X h' = plus b₂ X s₄.heap := plus_same (s := { s' with heap := h', toks := tk }) I₄ X₁
      have I₅ : Inv prog w (F.up (plus b₂ X s₄.heap) (rX r X)) ρ₄ s₄ := es ▸ I₄
      have st₄ : St rest s₄.heap := W.frm _ _ _ st₁ (fun a ha o ho => I₄.keep a o ((plus_in ha).trans ho)) (bk s₄ ρ₄ I₅)
      cases f with
      | next => cases fl <;> first | exact ⟨rest.length, Nat.lt_succ_self _, rest, ρ₄, rfl, h4, I₅, st₄⟩ | exact h5.elim
      | cont => cases fl <;> first | exact ⟨rest.length, Nat.lt_succ_self _, rest, ρ₄, rfl, h4, I₅, st₄⟩ | exact h5.elim
      | brk => cases fl <;> first | exact ⟨.next, ρ₄, h4, Inv.down (F := F.up b r) I₅ (le _), trivial⟩ | exact h5.elim
      | ret v => cases fl <;> first | exact ⟨.ret _, ρ₄, h4, Inv.down (F := F.up b r) I₅ (le _), h5⟩ | exact h5.elim
    · obtain ⟨v, rfl, h⟩ := h
      refine wpAny_mono h (fun _ s₃ h => ?_) fun _ _ e => e.elim
      refine wpAny_mono h (fun _ s₃ h => ?_) fun _ _ e => e.elim
      exact wpAny_mono h (fun _ s₃ h => h) fun _ _ e => e.elim
theorem ItJ.e {target iter : PySem.Expr} {l : List IV} {z : Bool} (hI : ItJ prog w F ρ k z target iter l) : ItE prog w F ρ k z target iter (· = l) := fun b r lf ok A s rm I =>
  wpAny_mono (hI b r lf ok A s rm I) (fun x s₁ h => wpAny_mono h (fun it s₂ h₂ => ⟨l, rfl, h₂⟩) fun _ _ e => e) fun _ _ e => e
theorem ex_for {target iter : PySem.Expr} {body : List Stmt} {pos : PySem.Pos} {l : List IV} {z : Bool} (hI : ItJ prog w F ρ k z target iter l) (J : List IV → Rho → Prop) (h0 : J l ρ) (hend : ∀ ρ', J [] ρ' → P .next ρ')
    (hstep : ∀ x rest ρ', J (x :: rest) ρ' → ∃ ρ₁, AsgJ prog w F k target x ρ' ρ₁ ∧ ExS prog w F ρ₁ k (execs body F.env) (Turn J P rest))
    (hz : z = true → ∀ l ρ', J l ρ' → ∀ (i : Nat) (q : PV × Bool), ρ'[i]? = some q → q.1.flat = true := by intro h; cases h) (hs : ∀ x, foldedSetIterable iter F.env x = pure x := by intro _; rfl) :
    ExS prog w F ρ k (exec (.For target iter body [] pos) F.env) P := ex_forE hI.e J (fun l' e => e ▸ h0) hend hstep hz hs
end
variable {prog : Program} {w : World}

/-- all that nobody may write is frozen -/
structure Frozen (prog : Program) (w : World) (G : Fm) (ρ : Rho) (s s' : Shared) (X : List Addr) (b₂ : Addr → Option Obj) : Prop where
  le : G.Le b₂ G.res
  out : ∀ a ∈ X, b₂ a = none
  ok : FmOk (G.up (plus b₂ X s'.heap) (rX G.res X))
  inv : Inv prog w (G.up (plus b₂ X s'.heap) (rX G.res X)) ρ s'
  new : ∀ a o, s'.heap.get? a = some o → a ∉ X → s.heap.get? a = none → b₂ a = some o
  tup : ∀ a o xs n, s'.heap.get? a = some o → a ∉ X → o.cls = .type "tuple" → o.data = .seq xs n → b₂ a = some o
  slot : ∀ (i : Nat) (x : Str) (acc : Option Addr) (p : PV), G.slots[i]? = some (x, acc) → ρ[i]? = some (p, false) → ∃ ov fp, (match acc with | none => ∃ m, s.heap.Ns G.env.locals m ∧ ov = m x | some c => s.heap.IsCell c ov) ∧ RepO prog w s.heap p ov fp ∧
    ∀ a ∈ fp, ∀ o, s'.heap.get? a = some o → b₂ a = some o
open Classical in
theorem Inv.freeze {G : Fm} {ρ : Rho} {s s' : Shared} (ok : FmOk G) (I : Inv prog w G ρ s) (x : Ext s s') {X : List Addr} (hX : Fresh s X) (hs : ∀ a ∈ X, ∃ o, s'.heap.get? a = some o) : ∃ b₂, Frozen prog w G ρ s s' X b₂ := by
  have I0 := I
  have I' := I.ext x
  obtain ⟨k, g, o, ln, rs, ac, m, hm, fp, a, c⟩ := I
  have st : ∀ (i : Nat) (q : PV × Bool), ρ[i]? = some q → ∀ z ∈ fp i, ∃ o, s.heap.get? z = some o := fun i q h z hz => by
    obtain ⟨y, acc, hy⟩ := I0.slotAt h
    obtain ⟨ov, _, h6, _⟩ := a i y acc q.1 q.2 hy h
    exact h6.stands z hz
  obtain ⟨o₁, es, ep, hL, hLd, hLk⟩ := id hm
  have hLX : G.env.locals ∉ X := fun q => by rw [hX _ q] at hL; cases hL
  have hC : ∀ (i : Nat) (y : Str) (c : Addr), G.slots[i]? = some (y, some c) → ∃ ov, s.heap.IsCell c ov := fun i y c h => I0.cellAt h
  have hCX : ∀ (i : Nat) (y : Str) (c : Addr), G.slots[i]? = some (y, some c) → c ∉ X := fun i y c h q => by obtain ⟨ov, o, ho, _⟩ := hC i y c h; rw [hX _ q] at ho; cases ho
  obtain ⟨b₂, hb1, hb2⟩ : ∃ b₂ : Addr → Option Obj, (∀ z, (z = G.env.locals ∨ (G.mine z ∨ G.acc z) ∨ z ∈ X ∨ ∃ i p, ρ[i]? = some (p, true) ∧ z ∈ fp i) → b₂ z = none) ∧ ∀ z, ¬ (z = G.env.locals ∨ (G.mine z ∨ G.acc z) ∨ z ∈ X ∨ ∃ i p, ρ[i]? = some (p, true) ∧ z ∈ fp i) → b₂ z = s'.heap.get? z :=
    ⟨fun z => if z = G.env.locals ∨ (G.mine z ∨ G.acc z) ∨ z ∈ X ∨ ∃ i p, ρ[i]? = some (p, true) ∧ z ∈ fp i then none else s'.heap.get? z, fun z hz => if_pos hz, fun z hz => if_neg hz⟩
  refine ⟨b₂, ⟨fun z o e => ?_, fun z q => q⟩, fun z hz => hb1 z (.inr (.inr (.inl hz))), ?_, ?_, fun z o e hzX hn => ?_, fun z o xs n e hzX hc hd => ?_, fun i y acc p h1 h2 => ?_⟩
  · rw [hb2 z ?_]
    · exact x.2 _ _ (k z o e)
    · rintro (q | q | q | ⟨i, p, h1, h2⟩)
      · rw [q, ok.baseL] at e; cases e
      · rcases q with q | q
        · rw [ok.mine z q] at e; cases e
        · rw [(ok.acc z q).1] at e; cases e
      · have := k z o e; rw [hX z q] at this; cases this
      · rw [(c i p h1 z h2).1] at e; cases e
  · refine ⟨ok.kind, ok.loc, ok.cel, ok.names, ok.cells, (plus_out hLX).trans (hb1 _ (.inl rfl)), fun q => q.elim ok.resL hLX, fun i y c h q => q.elim (ok.resC i y c h) (hCX i y c h), fun c hc => ?_, fun d hd => ?_, ok.mineC⟩
    · obtain ⟨i, y, h⟩ := ok.mineC c hc
      exact (plus_out (hCX i y c h)).trans (hb1 _ (.inr (.inl (.inl hc))))
    · have hdX : d ∉ X := fun q => by obtain ⟨o, ho⟩ := (ac d hd).1; rw [hX d q] at ho; cases ho
      exact ⟨(plus_out hdX).trans (hb1 _ (.inr (.inl (.inr hd)))), fun q => q.elim (ok.acc d hd).2.1 hdX, (ok.acc d hd).2.2⟩
  · refine ⟨fun z o e => ?_, I'.gens, I'.os, ln, fun z hz => hz.elim (fun q => I'.res z q) (hs z), I'.acc, m, hm.keeps x.2, fp, fun i y acc p own h1 h2 => ?_, fun i p h1 y hy => ?_⟩
    · by_cases q : z ∈ X
      · exact (plus_in q).symm.trans e
      · have e : b₂ z = some o := (plus_out q).symm.trans e
        by_cases q2 : (z = G.env.locals ∨ (G.mine z ∨ G.acc z) ∨ z ∈ X ∨ ∃ i p, ρ[i]? = some (p, true) ∧ z ∈ fp i)
        · rw [hb1 z q2] at e; cases e
        · rw [hb2 z q2] at e; exact e
    · obtain ⟨ov, h5, h6, h7⟩ := a i y acc p own h1 h2
      refine ⟨ov, ?_, h6.keep x.2, fun z hz => ⟨⟨(h7 z hz).1.1, fun q => by
        rcases q with (q | q) | q
        · exact (h7 z hz).1.2 (.inl q)
        · obtain ⟨o, ho⟩ := st i _ h2 z hz
          rw [hX z q] at ho; cases ho
        · exact (h7 z hz).1.2 (.inr q)⟩, (h7 z hz).2⟩⟩
      cases acc with
      | none => exact h5
      | some cc => exact h5.keeps x.2
    · refine ⟨?_, (c i p h1 y hy).2⟩
      have : y ∉ X := fun q => by obtain ⟨o, ho⟩ := st i _ h1 y hy; rw [hX y q] at ho; cases ho
      exact (plus_out this).trans (hb1 _ (.inr (.inr (.inr ⟨i, p, h1, hy⟩))))
  · rw [hb2 z ?_]
    · exact e
    · rintro (q | q | q | ⟨i, p, h1, h2⟩)
      · rw [q, hL] at hn; cases hn
      · rcases q with q | q
        · obtain ⟨i, y, h⟩ := ok.mineC z q
          obtain ⟨ov, o, ho, _⟩ := hC i y z h
          rw [ho] at hn; cases hn
        · obtain ⟨o, ho⟩ := (ac z q).1
          rw [ho] at hn; cases hn
      · exact hzX q
      · obtain ⟨o, ho⟩ := st i _ h1 z h2
        rw [ho] at hn; cases hn
  · rw [hb2 z ?_]
    · exact e
    · rintro (q | q | q | ⟨i, p, h1, h2⟩)
      · exact NT.ns (hm.keeps x.2) o (q ▸ e) xs n hc hd
      · rcases q with q | q
        · obtain ⟨i, y, h⟩ := ok.mineC z q
          obtain ⟨ov, ho⟩ := hC i y z h
          exact NT.cell (ho.keeps x.2) o e xs n hc hd
        · exact (I'.acc z q).2 o e xs n hc hd
      · exact hzX q
      · obtain ⟨y, acc, hy⟩ := I0.slotAt h1
        obtain ⟨ov, _, h6, _⟩ := a i y acc p true hy h1
        have h6 := h6.keep x.2
        cases ov with
        | none => cases p <;> first | exact h6.elim | (rw [show fp i = [] from h6] at h2; cases h2)
        | some v =>
          have h8 : Rep prog w s'.heap p v (fp i) := by cases p <;> exact h6
          exact h8.nt z h2 o e xs n hc hd
  · obtain ⟨ov, h5, h6, h7⟩ := a i y acc p false h1 h2
    refine ⟨ov, fp i, ?_, h6, fun z hz o e => ?_⟩
    · cases acc with
      | none => exact ⟨m, hm, h5⟩
      | some cc => exact h5
    · rw [hb2 z ?_]
      · exact e
      · rintro (q | q | q | ⟨j, p', h8, h9⟩)
        · exact (h7 z hz).1.1 q
        · rcases q with q | q
          · obtain ⟨j, y', h⟩ := ok.mineC z q
            exact (h7 z hz).2 j y' z h rfl
          · exact (h7 z hz).1.2 (.inr q)
        · obtain ⟨o, ho⟩ := st i _ h2 z hz
          rw [hX z q] at ho; cases ho
        · by_cases hj : i = j
          · subst hj; rw [h2] at h8; cases h8
          · exact (c j p' h8 z h9).2 i _ hj h2 hz
variable {prog : Program} {w : World}
abbrev Bh (B : Addr → Option Obj) (h : Heap) : Prop := ∀ a o, B a = some o → h.get? a = some o

theorem NT.back {X : List Addr} {h h' : Heap} {a : Addr} (c : Chg X h h') (ha : a ∉ X) (n : NT h' a) : NT h a := fun o ho => n o (c a o ha ho)
theorem store_wp2 {F : Fm} {ρ : Rho} {A : Around} {s : Shared} {i : Nat} {x : Str} {acc : Option Addr} {p : IV} {own : Bool} {v : Value} {Q : Unit → Shared → Prop} {E : Value → Shared → Prop} (ok : FmOk F) (hs : F.slots[i]? = some (x, acc)) (ho : Own F x acc) (I : Inv prog w F ρ s)
    (r : p.of s.heap v) (hQ : ∀ s', Inv prog w F (ρ.set i (.iv p, own)) s' → (∃ X, Chg X s.heap s'.heap ∧ ∀ a ∈ X, NT s.heap a ∧ ¬ (F.res a ∨ F.acc a)) → Q () s') : wpAny (model prog w) A (storeName F.env x v) Q E s := by
  have r' : Rep prog w s.heap (.iv p) v [] := ⟨r, rfl⟩
  have fr : Fresh s [] := fun a ha => nomatch ha
  cases acc with
  | none =>
    obtain ⟨m, hm, _⟩ := I.sl
    refine wpAny_storeName_local (ok.loc i x hs) hm (fun h' hn hsb => hQ _ ?_ ⟨[F.env.locals], Chg.of_sameBut hsb, fun a ha => by rw [List.mem_singleton.mp ha]; exact ⟨NT.ns hm, fun q => q.elim ok.resL fun q => (ok.acc _ q).2.2.1 rfl⟩⟩) (by
      show (F.env.scope.kind == .class || (F.env.scope.kind == .module && F.env.locals != F.env.globals)) = false
      rw [ok.kind]; rfl)
    exact Inv.store ok hs I (Ext.refl s) r' fr _ h' (.loc hn hsb (if_pos rfl) fun m' hm' y hy => (if_neg hy).trans (ns_uniq hm hm' y))
  | some c =>
    obtain ⟨hk, hb⟩ := ho c rfl
    obtain ⟨ov, hc⟩ := I.cellAt hs
    refine wpAny_storeName_cell ok.kind hk (ok.cel i x c hs).2.1 hc fun h' hc' hsb => hQ _ ?_ ⟨[c], Chg.of_sameBut hsb, fun a ha => by rw [List.mem_singleton.mp ha]; exact ⟨NT.cell hc, fun q => q.elim (ok.resC i x c hs) fun q => (ok.acc _ q).2.2.2 i x hs⟩⟩
    exact Inv.store ok hs I (Ext.refl s) r' fr s.toks h' (.cel hc' hsb (ok.mine c hb))
section
variable {F : Fm} {ρ : Rho} {k : Nat}
theorem asg_name {x : Str} {pos : PySem.Pos} {v : IV} (i : Nat) {acc : Option Addr} (hs : F.slots[i]? = some (x, acc)) (ho : Own F x acc) : AsgJ prog w F k (.Name x pos) v ρ (ρ.set i (.iv v, false)) :=
  fun b r l ok A s vv rm hv I => wpAny_assign_Name (store_wp2 (F := F.up b r) ok hs ho I hv fun s' I' h => ⟨I', h⟩)
/-- names of a tuple, one by one -/
inductive Asgs (F : Fm) : List PySem.Expr → List At → Rho → Rho → Prop
  | nil {ρ1} : Asgs F [] [] ρ1 ρ1
  | cons {x pos es a l ρ1 ρ2} (i : Nat) {acc : Option Addr} (hs : F.slots[i]? = some (x, acc)) (ho : Own F x acc) (h : Asgs F es l (ρ1.set i (.iv (.at a), false)) ρ2) : Asgs F (.Name x pos :: es) (a :: l) ρ1 ρ2
theorem Asgs.each {es : List PySem.Expr} {as : List At} {ρ ρ' : Rho} (h : Asgs F es as ρ ρ') : assignEach es F.env = es.map (fun e => (false, assign e F.env)) ∧ es.length = as.length := by
  induction h with
  | nil => exact ⟨rfl, rfl⟩
  | cons i hs ho h ih => exact ⟨by rw [List.map_cons, ← ih.1]; rfl, by simp [ih.2]⟩
theorem asgs_wp {es : List PySem.Expr} {as : List At} {ρ ρ' : Rho} (h : Asgs F es as ρ ρ') : ∀ {b : Addr → Option Obj} {r : Addr → Prop} (ok : FmOk (F.up b r)) (A : Around) (s : Shared) (vs : List Value), Ats as vs → Inv prog w (F.up b r) ρ s →
    wpAny (model prog w) A (assignInOrder (es.map fun e => assign e F.env) vs) (fun _ s' => Inv prog w (F.up b r) ρ' s' ∧ ∃ X, Chg X s.heap s'.heap ∧ ∀ a ∈ X, NT s.heap a ∧ ¬ (r a ∨ F.acc a)) No s := by
  induction h with
  | nil =>
    intro b r ok A s vs hv I
    cases vs with
    | nil => exact wpAny_pure ⟨I, [], fun b o _ e => e, fun a ha => nomatch ha⟩
    | cons v vs => exact hv.elim
  | @cons x pos es a as ρ ρ' i acc hs ho h ih =>
    intro b r ok A s vs hv I
    cases vs with
    | nil => exact hv.elim
    | cons v vs =>
      show wpAny _ A (do holding vs (assign (.Name x pos) F.env v); assignInOrder (es.map fun e => assign e F.env) vs) _ _ _
      refine wpAny_bind (wpAny_holding (wpAny_assign_Name (store_wp2 (F := F.up b r) (p := .at a) (own := false) ok hs ho I hv.1 fun s' I' ⟨X, h1, h2⟩ => ?_)))
      refine wpAny_mono (ih ok A s' vs hv.2 I') (fun _ s'' ⟨I'', Y, h3, h4⟩ => ⟨I'', ?_⟩) fun _ _ e => e
      refine ⟨X ++ Y, fun z o hz e => h3 z o (fun q => hz (List.mem_append_right _ q)) (h1 z o (fun q => hz (List.mem_append_left _ q)) e), fun z hz => ?_⟩
      by_cases q : z ∈ X
      · exact h2 z q
      · have hy := (List.mem_append.mp hz).resolve_left q
        exact ⟨NT.back h1 q (h4 z hy).1, (h4 z hy).2⟩
theorem asg_tup {es : List PySem.Expr} {k' : Nat} {pos : PySem.Pos} {as : List At} {ρ₁ : Rho} (h : Asgs F es as ρ ρ₁) (hst : (assignEach es F.env).findIdx? (·.1) = none := by rfl) : AsgJ prog w F k (.Tuple es k' pos) (.tup as) ρ ρ₁ :=
  fun b r l ok A s vv rm hv I => by
    obtain ⟨a, vs, rfl, ht, hvs⟩ := hv
    obtain ⟨e1, e2⟩ := h.each
    refine wpAny_assign_Tuple (elts := es) rm.handled ht (by rw [e1]; simp [e2, hvs.length]) hst fun h' hx => ?_
    rw [e1, List.map_map]
    have hx : Keep s.heap h' := fun z o e => hx z o (Nat.ne_of_lt (Heap.lt_size e)) e
    refine wpAny_mono (asgs_wp h ok A { s with heap := h' } vs hvs (I.ext ⟨⟨rfl, rfl⟩, hx⟩)) (fun _ s' ⟨I', X, h1, h2⟩ => ⟨I', X, fun z o hz e => h1 z o hz (hx z o e), fun z hz => ⟨fun o ho => (h2 z hz).1 o (hx z o ho), (h2 z hz).2⟩⟩) fun _ _ e => e
end

/-- iterators of the library -/
theorem go_plain {A : Around} {tgt : PySem.Expr} {I : Addr} {v : Value} {o : Obj} {T : String} {s : Shared} {Q : Unit → Shared → Prop} {E : Value → Shared → Prop} (ho : s.heap.get? I = some o) (hc : o.cls = .type T)
    (hT : (["enumerate", "zip", "dict_itemiterator", "dict_reverseitemiterator", "odict_iterator", "itertools.zip_longest", "itertools.pairwise"].contains T) = false) (hQ : Q () s) : wpAny (model prog w) A (letOwnedTupleGo tgt (.ref I) v) Q E s := by
  have key : ∀ a : Addr, wpAny (model prog w) A (do
      let o ← load I
      match o.cls, o.data with
      | .type n, .fields vs =>
        if ["enumerate", "zip", "dict_itemiterator", "dict_reverseitemiterator", "odict_iterator", "itertools.zip_longest", "itertools.pairwise"].contains n && vs[0]? == some (rawInt a) then
          rule "for.unpacks-the-owned-tuple"
          updateField I 0 .none
      | _, _ => pure ()) Q E s := fun a => by
    refine wpAny_bind (wpAny_load ho ?_)
    rw [hc]
    cases o.data <;> first | exact wpAny_pure hQ | skip
    dsimp only
    rw [hT, Bool.false_and]
    exact wpAny_pure hQ
  unfold letOwnedTupleGo
  cases tgt <;> first | exact wpAny_pure hQ | (cases v <;> first | exact wpAny_pure hQ | exact key _)
theorem IV.bh {h h' : Heap} {B : Addr → Option Obj} (ht : ∀ a o xs n, h.get? a = some o → o.cls = .type "tuple" → o.data = .seq xs n → B a = some o) (hb : Bh B h') : ∀ {x : IV} {v : Value}, x.of h v → x.of h' v
  | .at _, _, e => e
  | .tup l, v, ⟨a, vs, e, ⟨o, ho, hc, n, hd⟩, r⟩ => ⟨a, vs, e, ⟨o, hb a o (ht a o _ n ho hc hd), hc, n, hd⟩, r⟩
theorem Iter.ofWalks {A : Around} {tgt : PySem.Expr} {B : Addr → Option Obj} {I : Addr} {fp wr : List Addr} {n : Nat} {P : Nat → Value → Prop} {St : Nat → Heap → Prop} (W : Walks prog w A I fp wr n P St) (l : List IV) (hn : n = l.length)
    (hB : ∀ a ∈ fp, a ∉ wr → ∃ o, B a = some o) (hst : ∀ i h, St i h → ∀ a ∈ wr, ∃ o vs, h.get? a = some o ∧ o.data = .fields vs) (hval : ∀ i x v h', l[i]? = some x → P i v → Bh B h' → x.of h' v) (hout : ∀ a ∈ wr, B a = none)
    (hgo : ∀ i (s : Shared) v (Q : Unit → Shared → Prop) (E : Value → Shared → Prop), St i s.heap → Q () s → wpAny (model prog w) A (letOwnedTupleGo tgt (.ref I) v) Q E s) :
    Iter prog w A tgt false B I wr (fun rest h => Bh B h ∧ ∃ i, i ≤ n ∧ rest = l.drop i ∧ St i h) where
  std := fun _ h ⟨_, i, _, _, st⟩ a ha => let ⟨o, _, ho, _⟩ := hst i h st a ha; ⟨o, ho⟩
  nt := fun _ _ h ⟨_, i, _, _, st⟩ a ha => NT.fields (hst i h st a ha)
  frm := fun rest h h' ⟨hb, i, hi, e, st⟩ k1 k2 => ⟨k2, i, hi, e, W.frame i h h' st fun a ha o ho => by
    by_cases q : a ∈ wr
    · exact k1 a q o ho
    · obtain ⟨o', ho'⟩ := hB a ha q
      have := hb a o' ho'
      rw [ho] at this; cases this
      exact k2 a o ho'⟩
  item := fun x rest s Q E ⟨hb, i, hi, e, st⟩ _ hQ => by
    have hlt : i < n := by
      rcases Nat.lt_or_ge i n with h | h
      · exact h
      · rw [List.drop_eq_nil_of_le (by omega)] at e; cases e
    have hx : l[i]? = some x := by
      have := congrArg (fun l => l[0]?) e
      simpa using this.symm
    refine W.item i s _ _ hlt st fun v h' tk hP st' hk => ⟨v, rfl, hgo _ _ v _ _ st' ?_⟩
    have hb' : Bh B h' := fun a o ho => hk a o (fun q => by rw [hout a q] at ho; cases ho) (hb a o ho)
    refine hQ v h' tk (fun a o ha ho => hk a o ha ho) (hval i x v h' hx hP hb') ⟨hb', i + 1, hlt, ?_, st'⟩
    have := congrArg List.tail e
    simpa using this
  done := fun s Q E ⟨hb, i, hi, e, st⟩ _ hQ => by
    have hin : i = n := by
      rcases Nat.lt_or_ge i n with h | h
      · have : (l.drop i).length = 0 := by rw [← e]; rfl
        rw [List.length_drop] at this; omega
      · omega
    subst hin
    exact W.done s Q E st fun h' tk hk => hQ h' tk fun a o ha ho => hk a o ha ho
  self := fun rest s Q E ⟨hb, i, hi, e, st⟩ hQ => W.self i s Q E st hQ
variable {prog : Program} {w : World}

theorem bi_call {F : Fm} {A : Around} {s : Shared} {f : Str} {np pos : PySem.Pos} {es : List PySem.Expr} {v : Value} {Q E : Value → Shared → Prop} (hs : starEach es F.env = plainArgs es F.env) (g : Glob prog w F f v) (hv : ∀ a, v ≠ .ref a) (hb : Bk F.base s)
    (h : wpAny (model prog w) A (spliced (plainArgs es F.env)) (fun vs s₁ => wpAny (model prog w) A (PySem.call v vs) Q E s₁) E s) : wpAny (model prog w) A (eval (.Call (.Name f np) es [] pos) F.env) Q E s := by
  show wpAny (model prog w) A (eval (.Name f np) F.env >>= fun fv => callWith pos fv [] (backTo pos (starEach es F.env)) []) _ _ s
  rw [hs, backTo_plain]
  exact wpAny_bind (g A s np _ _ hb (callWith_val (plainArgs_any _ _) hv h))

section
variable (prog : Program) (w : World)
/-- an expression whose list stays as it is while it is walked over -/
def SrcL (F : Fm) (ρ : Rho) (k : Nat) (e : PySem.Expr) (l : List IV) : Prop :=
  ∀ b r, F.Le b r → FmOk (F.up b r) → ∀ A s s₀, Room k A → Ext s₀ s → Inv prog w (F.up b r) ρ s₀ → wpAny (model prog w) A (eval e F.env) (fun v s₁ => Ext s s₁ ∧ ∃ L vs, v = .ref L ∧ PlainL s₁.heap L vs.toArray ∧ IVs s₁.heap l vs ∧
    ∀ s₂ X b₂, Ext s₁ s₂ → Frozen prog w (F.up b r) ρ s₀ s₂ X b₂ → L ∉ X → ∃ o, b₂ L = some o) No s
end
section
variable {F : Fm} {ρ : Rho} {k : Nat}
theorem src_fresh {e : PySem.Expr} {l : List IV} {fr : Bool} (h : EvJ prog w F ρ k e (.list l) fr) (hf : fr = true) : SrcL prog w F ρ k e l := fun b r lf ok A s s₀ rm x₀ I =>
  wpAny_mono (h A s rm ((I.ext x₀).down lf)) (fun v s₁ ⟨x, fp, ⟨L, vs, e1, hl, hi, hfp⟩, f⟩ => ⟨x, L, vs, e1, hl, hi, fun s₂ X b₂ x₂ fz hX => by
    obtain ⟨o, _, ho, _⟩ := hl
    refine ⟨o, fz.new L o (x₂.2 _ _ ho) hX ?_⟩
    have := f hf L (by rw [hfp]; exact List.mem_singleton_self L)
    exact x₀.none this⟩) fun _ _ e => e
theorem src_slot {x : Str} {pos : PySem.Pos} {l : List IV} {acc : Option Addr} (i : Nat) (hs : F.slots[i]? = some (x, acc)) (hr : ρ[i]? = some (.list l, false)) (hd : (x == ("__debug__" : Str)) = false := by decide)
    (hn : (x == ("__classdict__" : Str)) = false := by decide) : SrcL prog w F ρ k (.Name x pos) l := fun b r lf ok A s s₀ rm x₀ I => by
  have key : ∀ L vs, PlainL s₀.heap L vs.toArray → IVs s₀.heap l vs → (∀ s₂ X b₂, Ext s₀ s₂ → Frozen prog w (F.up b r) ρ s₀ s₂ X b₂ → L ∉ X → ∃ o, b₂ L = some o) →
      (fun (v : Value) (s₁ : Shared) => Ext s s₁ ∧ ∃ L vs, v = .ref L ∧ PlainL s₁.heap L vs.toArray ∧ IVs s₁.heap l vs ∧ ∀ s₂ X b₂, Ext s₁ s₂ → Frozen prog w (F.up b r) ρ s₀ s₂ X b₂ → L ∉ X → ∃ o, b₂ L = some o) (.ref L) s :=
    fun L vs h1 h2 h3 => ⟨Ext.refl s, L, vs, rfl, h1.keeps x₀.2, h2.keep x₀.2, fun s₂ X b₂ x₂ fz hX => h3 s₂ X b₂ (x₀.trans x₂) fz hX⟩
  obtain ⟨m, hm, fp, a, c⟩ := I.sl
  obtain ⟨ov, h3, h4, _⟩ := a i x acc _ false hs hr
  cases ov with
  | none => exact h4.elim
  | some v =>
    obtain ⟨L, vs, rfl, hl, hi, hfp⟩ := h4
    have fz : ∀ s₂ X b₂, Ext s₀ s₂ → Frozen prog w (F.up b r) ρ s₀ s₂ X b₂ → L ∉ X → ∃ o, b₂ L = some o := fun s₂ X b₂ x₂ fz hX => by
      obtain ⟨ov, fp', h5, h6, h7⟩ := fz.slot i x acc _ hs hr
      have e : ov = some (.ref L) := by
        cases acc with
        | none =>
          obtain ⟨m', hm', e⟩ := h5
          have h3 : some (Value.ref L) = m x := h3
          rw [e, ← ns_uniq hm hm', ← h3]
        | some cc =>
          obtain ⟨o, ho, hd⟩ := h5
          obtain ⟨o', ho', hd'⟩ := (show s₀.heap.IsCell cc (some (.ref L)) from h3)
          rw [ho] at ho'; cases ho'
          rw [hd] at hd'; cases hd'; rfl
      subst e
      obtain ⟨L', vs', e1, _, _, hfp'⟩ := h6
      cases e1
      obtain ⟨o, _, ho, _⟩ := hl
      exact ⟨o, h7 L (by rw [hfp']; exact List.mem_singleton_self L) o (x₂.2 _ _ ho)⟩
    cases acc with
    | none =>
      have h3 : some (Value.ref L) = m x := h3
      exact wpAny_Name (wpAny_loadName_local ok.kind (ok.loc i x hs) (hm.keeps x₀.2) h3.symm (key L vs hl hi fz)) hd
    | some cc =>
      have h3 : s₀.heap.IsCell cc (some (.ref L)) := h3
      obtain ⟨hk, hc, _⟩ := ok.cel i x cc hs
      rcases hk with hk | hk
      · exact wpAny_Name (wpAny_loadName_cell ok.kind hk hc (h3.keeps x₀.2) (key L vs hl hi fz)) hd
      · exact wpAny_Name (wpAny_loadName_free ok.kind hk hc (h3.keeps x₀.2) (key L vs hl hi fz) hn) hd
theorem fresh_size {s s₁ : Shared} (x : Ext s s₁) {a : Addr} (h : s₁.heap.objs.size ≤ a) : s.heap.get? a = none := by
  cases e : s.heap.get? a with
  | none => rfl
  | some o => exact absurd (Heap.lt_size (x.2 _ _ e)) (Nat.not_lt.mpr h)
theorem iter_core {tgt : PySem.Expr} {l : List IV} {b : Addr → Option Obj} {r : Addr → Prop} (ok : FmOk (F.up b r)) {A : Around} {s s₁ : Shared} (rm : Room k A) (I : Inv prog w (F.up b r) ρ s) (x : Ext s s₁) {L : Addr} {vs : List Value} (hl : PlainL s₁.heap L vs.toArray) (hi : IVs s₁.heap l vs) (hb : ∀ s₂ X b₂, Ext s₁ s₂ → Frozen prog w (F.up b r) ρ s s₂ X b₂ → L ∉ X → ∃ o, b₂ L = some o) :
    wpAny (model prog w) A (pyIter (.ref L)) (fun it s₂ => Ext s s₂ ∧ ∃ I X b₂ St, it = .ref I ∧ (F.up b r).Le b₂ r ∧
    (∀ a ∈ X, b₂ a = none) ∧ FmOk (F.up (plus b₂ X s₂.heap) (rX r X)) ∧ Inv prog w (F.up (plus b₂ X s₂.heap) (rX r X)) ρ s₂ ∧ Fresh s X ∧ St l s₂.heap ∧ Iter prog w A tgt false b₂ I X St) No s₁ := by
  refine wpAny_pyIter_list hl.isList ?_
  have x₂ : Ext s₁ { s₁ with heap := s₁.heap.push { cls := .type "list_iterator", data := .fields #[.ref L, .int 0 0] } } := Ext.push s₁ _ _
  have hI : (s₁.heap.push { cls := .type "list_iterator", data := .fields #[.ref L, .int 0 0] }).get? s₁.heap.objs.size = some { cls := .type "list_iterator", data := .fields #[.ref L, .int 0 0] } := Heap.get?_push_size _ rfl
  have fX : Fresh s [s₁.heap.objs.size] := fun a ha => by rw [List.mem_singleton.mp ha]; exact fresh_size x (Nat.le_refl _)
  have hL : L ≠ s₁.heap.objs.size := by obtain ⟨o, _, ho, _⟩ := hl; exact Nat.ne_of_lt (Heap.lt_size ho)
  obtain ⟨b₂, fz⟩ := Inv.freeze ok I (x.trans x₂) fX fun a ha => by rw [List.mem_singleton.mp ha]; exact ⟨_, hI⟩
  obtain ⟨oL, hoL⟩ := hb _ _ b₂ x₂ fz (by simp [hL])
  have bk : Bh b₂ (s₁.heap.push { cls := .type "list_iterator", data := .fields #[.ref L, .int 0 0] }) := fun a o e => fz.inv.keep a o ((plus_out fun q => by rw [fz.out a q] at e; cases e).trans e)
  refine ⟨x.trans x₂, s₁.heap.objs.size, [s₁.heap.objs.size], b₂, _, rfl, fz.le, fz.out, fz.ok, fz.inv, fX, ⟨bk, 0, Nat.zero_le _, rfl, ⟨⟨_, hI, rfl, rfl⟩, hl.isList.at fun o e => x₂.2 _ _ e⟩⟩,
    Iter.ofWalks (Walks.list rm.handled _ _ hL vs.toArray) l (by rw [List.size_toArray]; exact hi.length) (fun a ha ha' => ?_) (fun i h' st a ha => ?_) (fun i y v h' hy hP hb' => ?_) fz.out fun i s' v Q E st hQ => ?_⟩
  · simp at ha ha'
    rcases ha with rfl | rfl
    · exact absurd rfl ha'
    · exact ⟨oL, hoL⟩
  · rw [List.mem_singleton.mp ha]
    obtain ⟨o, ho, _, hd⟩ := st.1
    exact ⟨o, _, ho, hd⟩
  · obtain ⟨v', h1, h2⟩ := (hi.keep x₂.2).get hy
    have : v' = v := by simp at hP; rw [h1] at hP; exact Option.some.inj hP
    subst this
    refine IV.bh (fun a o xs n ho hc hd => fz.tup a o xs n ho (fun q => ?_) hc hd) hb' h2
    rw [List.mem_singleton.mp q] at ho
    have ho : (s₁.heap.push { cls := .type "list_iterator", data := .fields #[.ref L, .int 0 0] }).get? s₁.heap.objs.size = some o := ho
    rw [hI] at ho; cases ho; cases hd
  · obtain ⟨o, ho, hc, _⟩ := st.1
    exact go_plain ho hc (by decide) hQ
theorem itj_list {e tgt : PySem.Expr} {l : List IV} (h : SrcL prog w F ρ k e l) : ItJ prog w F ρ k false tgt e l := fun b r lf ok A s rm I => by
  refine wpAny_mono (h b r lf ok A s s rm (Ext.refl s) I) (fun v s₁ ⟨x, L, vs, e1, hl, hi, hb⟩ => ?_) fun _ _ e => e
  subst e1
  exact iter_core ok rm I x hl hi hb
/-- a new list, known less well -/
theorem ite_fresh {e tgt : PySem.Expr} {Pl : List IV → Prop} (h : ∀ A s, Room k A → Inv prog w F ρ s → wpAny (model prog w) A (eval e F.env) (fun v s' => ∃ l, Pl l ∧ Gives' prog w (.list l) true s v s') No s) : ItE prog w F ρ k false tgt e Pl := fun b r lf ok A s rm I => by
  refine wpAny_mono (h A s rm (I.down lf)) (fun v s₁ ⟨l, hPl, x, fp, ⟨L, vs, e1, hl, hi, e2⟩, fr⟩ => ?_) fun _ _ e => e
  subst e1 e2
  have hf := fr rfl L (List.mem_singleton_self L)
  refine wpAny_mono (iter_core ok rm I x hl hi fun s₂ X b₂ x₂ fz hX => ?_) (fun it s₂ h₂ => ⟨l, hPl, h₂⟩) fun _ _ e => e
  obtain ⟨o, _, ho, _⟩ := hl
  exact ⟨o, fz.new L o (x₂.2 _ _ ho) hX hf⟩
end
variable {prog : Program} {w : World}
def chars (x : Str) : List IV := x.cps.toList.map fun c => .at (.str ⟨#[c]⟩)
def intsFrom (a : Int) (n : Nat) : List IV := (List.range n).map fun (i : Nat) => IV.at (.int (a + (i : Int)))
section
variable {F : Fm} {ρ : Rho} {k : Nat}
theorem itj_new {b : Addr → Option Obj} {r : Addr → Prop} {A : Around} {tgt : PySem.Expr} {s s₁ : Shared} {l : List IV} (ok : FmOk (F.up b r)) (I : Inv prog w (F.up b r) ρ s) (x : Ext s s₁) (ob : Obj) (hf : ob.isFreed = false) (n : Nat) (P : Nat → Value → Prop) (St : Nat → Heap → Prop)
    (W : Walks prog w A s₁.heap.objs.size [s₁.heap.objs.size] [s₁.heap.objs.size] n P St) (hn : n = l.length) (st : St 0 (s₁.heap.push ob)) {T : String} (hst : ∀ i h, St i h → ∃ o vs, h.get? s₁.heap.objs.size = some o ∧ o.data = .fields vs ∧ o.cls = .type T)
    (hT : (["enumerate", "zip", "dict_itemiterator", "dict_reverseitemiterator", "odict_iterator", "itertools.zip_longest", "itertools.pairwise"].contains T) = false) (hv : ∀ i y v (h' : Heap), l[i]? = some y → P i v → y.of h' v) :
    Ext s { s₁ with heap := s₁.heap.push ob } ∧ ∃ Ia X b₂ St, Value.ref s₁.heap.objs.size = .ref Ia ∧ (F.up b r).Le b₂ r ∧
    (∀ a ∈ X, b₂ a = none) ∧ FmOk (F.up (plus b₂ X ({ s₁ with heap := s₁.heap.push ob } : Shared).heap) (rX r X)) ∧ Inv prog w (F.up (plus b₂ X ({ s₁ with heap := s₁.heap.push ob } : Shared).heap) (rX r X)) ρ { s₁ with heap := s₁.heap.push ob } ∧ Fresh s X ∧ St l ({ s₁ with heap := s₁.heap.push ob } : Shared).heap ∧ Iter prog w A tgt false b₂ Ia X St := by
  have x₂ : Ext s₁ { s₁ with heap := s₁.heap.push ob } := Ext.push s₁ _ _
  have hI : (s₁.heap.push ob).get? s₁.heap.objs.size = some ob := Heap.get?_push_size _ hf
  have fX : Fresh s [s₁.heap.objs.size] := fun a ha => by rw [List.mem_singleton.mp ha]; exact fresh_size x (Nat.le_refl _)
  obtain ⟨b₂, fz⟩ := Inv.freeze ok I (x.trans x₂) fX fun a ha => by rw [List.mem_singleton.mp ha]; exact ⟨_, hI⟩
  have bk : Bh b₂ (s₁.heap.push ob) := fun a o e => fz.inv.keep a o ((plus_out fun q => by rw [fz.out a q] at e; cases e).trans e)
  refine ⟨x.trans x₂, s₁.heap.objs.size, [s₁.heap.objs.size], b₂, _, rfl, fz.le, fz.out, fz.ok, fz.inv, fX, ⟨bk, 0, Nat.zero_le _, rfl, st⟩, Iter.ofWalks W l hn (fun a ha ha' => absurd ha ha') (fun i h' st a ha => ?_) (fun i y v h' hy hP _ => hv i y v h' hy hP) fz.out fun i s' v Q E st hQ => ?_⟩
  · rw [List.mem_singleton.mp ha]
    obtain ⟨o, vs, h1, h2, _⟩ := hst _ _ st
    exact ⟨o, vs, h1, h2⟩
  · obtain ⟨o, vs, h1, _, h3⟩ := hst _ _ st
    exact go_plain h1 h3 hT hQ
theorem chars_val {x : Str} : ∀ i y v (h' : Heap), (chars x)[i]? = some y → SignAt x i v → y.of h' v := fun i y v h' hy ⟨c, u, hc, hv⟩ => by
  simp [chars, hc] at hy
  rw [← hy, hv]; exact ⟨u, rfl⟩
theorem itj_str {e tgt : PySem.Expr} {x : Str} {fr : Bool} (h : EvJ prog w F ρ k e (.str x) fr) : ItJ prog w F ρ k false tgt e (chars x) := fun b r lf ok A s rm I => by
  refine wpAny_mono (h A s rm (I.down lf)) (fun v s₁ ⟨y, fp, ⟨⟨t, e1⟩, _⟩, _⟩ => ?_) fun _ _ e => e
  subst e1
  cases ha : x.cps.all (· < 128)
  · exact wpAny_pyIter_wide ha (itj_new (T := "str_iterator") ok I y _ rfl _ _ _ (Walks.strWide rm.handled _ x t) (by simp [chars]) ⟨_, Heap.get?_push_size _ rfl, rfl, rfl⟩ (fun i h' ⟨o, ho, hc, hd⟩ => ⟨o, _, ho, hd, hc⟩) (by decide) chars_val)
  · exact wpAny_pyIter_ascii ha (itj_new (T := "str_ascii_iterator") ok I y _ rfl _ _ _ (Walks.strAscii rm.handled _ x t) (by simp [chars]) ⟨_, Heap.get?_push_size _ rfl, rfl, rfl⟩ (fun i h' ⟨o, ho, hc, hd⟩ => ⟨o, _, ho, hd, hc⟩) (by decide) chars_val)
theorem itj_range {np pos : PySem.Pos} {tgt a : PySem.Expr} {n : Nat} {fr : Bool} (hs : starEach [a] F.env = plainArgs [a] F.env) (g : Glob prog w F ("range" : Str) (.type "range")) (h : EvJ prog w F ρ k a (.int n) fr) (hn : n < 2 ^ 62) :
    ItJ prog w F ρ k false tgt (.Call (.Name "range" np) [a] [] pos) (intsFrom 0 n) := fun b r lf ok A s rm I => by
  refine bi_call hs g (fun a e => nomatch e) (I.down lf).keep ?_
  refine Calls.spliced_cons (wpAny_mono (h A s rm (I.down lf)) (fun v s₁ ⟨y, fp, ⟨⟨t, e1⟩, _⟩, _⟩ => Calls.spliced_nil ?_) fun _ _ e => e)
  subst e1
  refine call_range_1 ?_
  have y2 : Ext s₁ { s₁ with heap := s₁.heap.push { cls := .type "range", data := .fields #[.int 0 s₁.toks, .int n t, .int 1 (s₁.toks + 1)] }, toks := s₁.toks + 1 + 1 } := Ext.push s₁ _ _
  refine wpAny_pyIter_range (IsRange.new _ _ _ _ _ _ _) (small_one (by omega) (by omega) (by omega) (by omega)) ?_
  rw [rangeSize_one]
  have hz : (if (0 : Int) < (n : Int) then (n : Int) - 0 else 0) = (n : Int) := by split <;> omega
  rw [hz]
  refine itj_new (T := "range_iterator") ok I (y.trans y2) _ rfl n _ _ (Walks.range rm.handled _ 0 1 n) (by simp [intsFrom]) (by have := Heap.get?_push_size ({ s₁ with heap := s₁.heap.push { cls := .type "range", data := .fields #[.int 0 s₁.toks, .int n t, .int 1 (s₁.toks + 1)] }, toks := s₁.toks + 1 + 1 } : Shared).heap (o := { cls := .type "range_iterator", data := .fields #[rawInt 0, rawInt (n : Int), rawInt 1] }) rfl; simpa using this) (fun i h' st => ⟨_, _, st, rfl, rfl⟩) (by decide) fun i yy v h' hy ⟨t', hv⟩ => ?_
  by_cases hi : i < n
  · simp [intsFrom, hi] at hy
    rw [← hy, hv]
    exact ⟨t', by simp⟩
  · rw [List.getElem?_eq_none (by simp [intsFrom]; omega)] at hy; cases hy
end
variable {prog : Program} {w : World}

theorem compTurn_any (elt target iter : PySem.Expr) (ifs : List PySem.Expr) (gens : List Comprehension) (scope : Scope) (pos : PySem.Pos) (d : Nat) (it acc : Value) (env : Env) (hg : gens[d]? = some ⟨target, iter, ifs, 0⟩) :
    compTurn (.ListComp elt gens scope pos) d it acc env = (do
      standAt iter.pos
      match ← pyNext it with
      | none => pure (.done .next)
      | some v =>
        letOwnedTupleGo target it v
        assign target env v
        let ok ← (forIn ifs true fun c r => if r = true then do let ok ← isTrue c env (eval c env); pure (ForInStep.yield ok) else pure (ForInStep.yield r))
        if ok then
          match gens[d + 1]? with
          | some g' =>
            let x ← eval g'.iter env
            standAt g'.iter.pos
            let x ← if g'.is_async != 0 then foldedIterable g'.iter x else foldedSetIterable g'.iter env x
            let _ ← runOwn (.compStart (.ListComp elt gens scope pos) (d + 1) (← holding [x] (if g'.is_async != 0 then asyncIter x else pyIter x)) acc env) env
          | none => (do let x ← eval elt env; let _ ← call (.builtin "list.append") [acc, x]; pure () : Sem Unit)
        again (.compLoop (.ListComp elt gens scope pos) d it acc env)) := by
  unfold compTurn
  simp only [hg]
  rfl
section
variable {A : Around} {R : Result → Shared → Prop} {s : Shared}
theorem codeAny_compLoop_any {elt target iter : PySem.Expr} {ifs : List PySem.Expr} {gens : List Comprehension} {scope : Scope} {pos : PySem.Pos} {d : Nat} {it acc : Value} {env : Env} (hg : gens[d]? = some ⟨target, iter, ifs, 0⟩) (I : Nat → Shared → Prop)
    (turn : ∀ n s, I n s → wpAny (model prog w) A (pyNext it) (fun r s₁ => match r with
      | none => R (.ok .next) s₁
      | some v => wpAny (model prog w) A (letOwnedTupleGo target it v) (fun _ s₁' => wpAny (model prog w) A (assign target env v) (fun _ s₂ =>
          wpAny (model prog w) A (forIn ifs true fun c r => if r = true then do let ok ← isTrue c env (eval c env); pure (ForInStep.yield ok) else pure (ForInStep.yield r)) (fun ok s₃ =>
            if ok = true then (match gens[d + 1]? with
              | some g' => g'.is_async = 0 ∧ (∀ x, foldedSetIterable g'.iter env x = pure x) ∧ wpAny (model prog w) A (eval g'.iter env) (fun x s₄ => wpAny (model prog w) A (pyIter x) (fun it' s₅ =>
                  codeAny (model prog w) A (.compStart (.ListComp elt gens scope pos) (d + 1) it' acc env) (fun r s₆ => r = .ok .next ∧ ∃ m, m < n ∧ I m s₆) s₅) No s₄) No s₃
              | none => wpAny (model prog w) A (eval elt env) (fun x s₄ => wpAny (model prog w) A (call (.builtin "list.append") [acc, x]) (fun _ s₅ => ∃ m, m < n ∧ I m s₅) No s₄) No s₃)
            else ∃ m, m < n ∧ I m s₃) No s₂) No s₁') No s₁) No s)
    (n : Nat) (h : I n s) : codeAny (model prog w) A (.compLoop (.ListComp elt gens scope pos) d it acc env) R s := by
  refine codeAny_loop rfl I (fun n s hI => ?_) n h
  show wpAny _ A ((compTurn (.ListComp elt gens scope pos) d it acc env).onRaise (fun x => do noteFrame x env; theTreesLotGoes x)) _ _ s
  refine wpAny_noted ?_
  rw [compTurn_any _ _ _ _ _ _ _ _ _ _ _ hg]
  refine wpAny_bind (wpAny_standAt (wpAny_bind (wpAny_mono (turn n s hI) (fun r s₁ h₁ => ?_) fun _ _ h' => h'.elim)))
  cases r with
  | none => exact wpAny_pure h₁
  | some v =>
    refine wpAny_bind (wpAny_mono h₁ (fun _ s₁' h₁' => ?_) fun _ _ h' => h'.elim)
    refine wpAny_bind (wpAny_mono h₁' (fun _ s₂ h₂ => wpAny_bind (wpAny_mono h₂ (fun ok s₃ h₃ => ?_) fun _ _ h' => h'.elim)) fun _ _ h' => h'.elim)
    cases ok with
    | false => exact wpAny_pure ⟨rfl, h₃⟩
    | true =>
      rw [if_pos rfl] at h₃
      rw [if_pos rfl]
      cases hn : gens[d + 1]? with
      | none =>
        rw [hn] at h₃
        exact wpAny_bind (wpAny_bind (wpAny_mono h₃ (fun x s₄ h₄ => wpAny_bind (wpAny_mono h₄ (fun _ s₅ h₅ => wpAny_pure (wpAny_pure ⟨rfl, h₅⟩)) fun _ _ h' => h'.elim)) fun _ _ h' => h'.elim))
      | some g' =>
        rw [hn] at h₃
        obtain ⟨ha, hf, h₃⟩ := h₃
        obtain ⟨t', i', f', a'⟩ := g'
        cases ha
        refine wpAny_bind (wpAny_mono h₃ (fun x s₄ h₄ => wpAny_bind (wpAny_standAt ?_)) fun _ _ h' => h'.elim)
        dsimp only at hf h₄ ⊢
        rw [if_neg (by decide)]
        refine wpAny_bind (wpAny_of_eq (a := x) (hf x) ?_)
        rw [if_neg (by decide)]
        refine wpAny_bind (wpAny_holding (wpAny_mono h₄ (fun it' s₅ h₅ => ?_) fun _ _ h' => h'.elim))
        refine wpAny_bind (wpAny_runOwn (codeAny_mono h₅ fun r s₆ hr => ?_))
        obtain ⟨rfl, h₆⟩ := hr
        exact wpAny_pure ⟨rfl, h₆⟩
theorem codeAny_compStart_any {elt target iter : PySem.Expr} {ifs : List PySem.Expr} {gens : List Comprehension} {scope : Scope} {pos : PySem.Pos} {d : Nat} {it acc : Value} {env : Env} (hg : gens[d]? = some ⟨target, iter, ifs, 0⟩)
    (h0 : codeAny (model prog w) A (.compLoop (.ListComp elt gens scope pos) d it acc env) R s)
    (h : wpAny (model prog w) A (pyIter it) (fun it' s' => it' = it ∧ s' = s) No s) :
    codeAny (model prog w) A (.compStart (.ListComp elt gens scope pos) d it acc env) R s := by
  refine codeAny_of_tree ?_
  show wpAny _ _ ((compStart (.ListComp elt gens scope pos) d it acc env).onRaise (fun x => do noteFrame x env; standAt theWindowsPlace)) _ _ s
  refine wpAny_notedAt ?_
  have hc : (clausesOf (.ListComp elt gens scope pos))[d]? = some ⟨target, iter, ifs, 0⟩ := hg
  unfold compStart
  rw [hc]
  show wpAny _ _ (ask >>= _) _ _ s
  refine wpAny_bind (wpAny_askSetting (wpAny_ite ?_))
  have h2 : wpAny (model prog w) A (pyIter it) (fun it' s' => codeAny (model prog w) A (.compLoop (.ListComp elt gens scope pos) d it' acc env) R s') (notedBy (model prog w) A env fun x s' => R (.error x) s') s :=
    wpAny_mono h (fun it' s' ⟨e1, e2⟩ => by subst e1 e2; exact h0) fun _ _ e => e.elim
  split
  · first
      | exact wpAny_bind (wpAny_pure (wpAny_pure (And.intro rfl h0)))
      | exact wpAny_pure (And.intro rfl h0)
  · first
      | exact wpAny_bind (wpAny_rule (wpAny_bind (wpAny_standAt (wpAny_bind (wpAny_mono h2 (fun it' s' h' => wpAny_pure (And.intro rfl h')) fun _ _ x => x)))))
      | (refine wpAny_bind (wpAny_rule ?_); show wpAny _ _ (standAt iter.pos >>= _) _ _ s; exact wpAny_bind (wpAny_standAt (wpAny_bind (wpAny_mono h2 (fun it' s' h' => wpAny_pure (And.intro rfl h')) fun _ _ x => x))))
end
variable {prog : Program} {w : World}

theorem wp_append {A : Around} {s : Shared} {l : Addr} {items : Array Value} {x : Value} {Q E : Value → Shared → Prop} (hl : PlainL s.heap l items) (hsz : items.size ≤ sizeLine)
    (hQ : ∀ h', PlainL h' l (items.push x) → Heap.SameBut l s.heap h' → Q .none { s with heap := h' }) : wpAny (model prog w) A (PySem.call (.builtin "list.append") [.ref l, x]) Q E s := by
  obtain ⟨o, n, ho, hc, hdict, hd⟩ := id hl
  obtain ⟨n', hd'⟩ := Obj.data_mapSeq hd (·.push x)
  refine wpAny_call_entry slot_list_append hl.isList.typeIs entry_list_append ?_ (args_list_append _ _)
  show wpAny _ _ (updateSeq l (·.push x) >>= fun _ => ret .none) _ _ s
  refine wpAny_bind ?_
  refine wpAny_updateSeq ho hd (wpAny_pure ⟨.none, rfl, hQ _ ?_ (Heap.SameBut.update ..)⟩)
  refine ⟨_, n', Heap.get?_update_self _ ho (Obj.isFreed_of_seq hd'), (Obj.cls_mapSeq ..).trans hc, ?_, hd'⟩
  obtain ⟨c, d, dt, sl⟩ := o
  cases dt <;> exact hdict

theorem Inv.accChg {G : Fm} {ρ : Rho} {s : Shared} {D : Addr} {h' : Heap} (ok : FmOk G) (hD : G.acc D) (I : Inv prog w G ρ s) (hs : Heap.SameBut D s.heap h') (hn : ∃ o, h'.get? D = some o) (nt : NT h' D) (ha : ∀ d, G.acc d → d = D) : Inv prog w G ρ { s with heap := h' } := by
  obtain ⟨k, g, o, ln, rs, ac, m, hm, fp, a, c⟩ := I
  obtain ⟨d1, d2, d3, d4⟩ := ok.acc D hD
  have ch : Chg [D] s.heap h' := Chg.of_sameBut hs
  have ntD : ∀ a ∈ [D], NT s.heap a := fun a ha => by rw [List.mem_singleton.mp ha]; exact (ac D hD).2
  refine ⟨fun z o e => (hs.2 z fun q => by rw [q, d1] at e; cases e).trans (k z o e), g, o, ln, fun z hz => ?_, fun d hd => by rw [ha d hd]; exact ⟨hn, nt⟩, m, hm.sameBut hs (Ne.symm d3), fp, fun i y acc p own h1 h2 => ?_, c⟩
  · obtain ⟨o, ho⟩ := rs z hz
    exact ⟨o, (hs.2 z fun q => d2 (q ▸ hz)).trans ho⟩
  · obtain ⟨ov, h5, h6, h7⟩ := a i y acc p own h1 h2
    refine ⟨ov, ?_, h6.chg ch (.inl ntD) fun z hz q => (h7 z hz).1.2 (.inr (by rw [List.mem_singleton.mp q]; exact hD)), h7⟩
    cases acc with
    | none => exact h5
    | some cc => exact h5.sameBut hs fun q => d4 i y (by rw [h1, ← q])

def TestsJ (prog : Program) (w : World) (Fc : Fm) (ρ : Rho) (k : Nat) (ifs : List PySem.Expr) (b : Bool) : Prop := (ifs = [] ∧ b = true) ∨ ∃ c, ifs = [c] ∧ EvB prog w Fc ρ k c b
/-- what the clauses of a comprehension hand on -/
def CB (prog : Program) (w : World) (Fc : Fm) (k : Nat) (elt : PySem.Expr) : List Comprehension → Rho → List IV → Prop
  | [], ρ, out => ∃ y fr, out = [y] ∧ EvJ prog w Fc ρ k elt (.iv y) fr
  | g :: gs, ρ, out => ∃ l f, g.is_async = 0 ∧ (∀ x, foldedSetIterable g.iter Fc.env x = pure x) ∧ ItJ prog w Fc ρ k false g.target g.iter l ∧ out = l.flatMap f ∧
      ∀ x ∈ l, ∃ ρ₁ b, AsgJ prog w Fc k g.target x ρ ρ₁ ∧ TestsJ prog w Fc ρ₁ k g.ifs b ∧ (if b then CB prog w Fc k elt gs ρ₁ (f x) else f x = []) ∧ Weaker ρ₁ ρ
def DL (D : Addr) (s : Shared) (done : List IV) : Prop := ∃ vs, PlainL s.heap D vs.toArray ∧ IVs s.heap done vs
theorem DL.ext {D : Addr} {s s' : Shared} {l : List IV} (x : Ext s s') (h : DL D s l) : DL D s' l := let ⟨vs, a, b⟩ := h; ⟨vs, a.keeps x.2, b.keep x.2⟩
theorem DL.chg {D : Addr} {s s' : Shared} {l : List IV} {X : List Addr} (c : Chg X s.heap s'.heap) (nt : ∀ a ∈ X, NT s.heap a) (hD : D ∉ X) (h : DL D s l) : DL D s' l := let ⟨vs, a, b⟩ := h; ⟨vs, isList_chg c hD a, b.chg c (.inl nt)⟩
def InnerWp (prog : Program) (w : World) (A : Around) (elt : PySem.Expr) (gens : List Comprehension) (scope : Scope) (pos : PySem.Pos) (d : Nat) (D : Addr) (env : Env) (Q : Shared → Prop) (s : Shared) : Prop :=
  match gens[d + 1]? with
  | some g' => g'.is_async = 0 ∧ (∀ x, foldedSetIterable g'.iter env x = pure x) ∧ wpAny (model prog w) A (eval g'.iter env) (fun x s₄ => wpAny (model prog w) A (pyIter x) (fun it' s₅ =>
      codeAny (model prog w) A (.compStart (.ListComp elt gens scope pos) (d + 1) it' (.ref D) env) (fun r s₆ => r = .ok .next ∧ Q s₆) s₅) No s₄) No s
  | none => wpAny (model prog w) A (eval elt env) (fun x s₄ => wpAny (model prog w) A (PySem.call (.builtin "list.append") [.ref D, x]) (fun _ s₅ => Q s₅) No s₄) No s
theorem comp_turns {Fc : Fm} {k : Nat} {elt : PySem.Expr} {gens : List Comprehension} {scope : Scope} {pos : PySem.Pos} {D : Addr} (hD : Fc.acc D) {gs : List Comprehension} {d : Nat} {target iter : PySem.Expr} {ifs : List PySem.Expr} {ρ : Rho} {l : List IV} {f : IV → List IV} (hg : gens[d]? = some ⟨target, iter, ifs, 0⟩)
    (hturn : ∀ x ∈ l, ∃ ρ₁ b, AsgJ prog w Fc k target x ρ ρ₁ ∧ TestsJ prog w Fc ρ₁ k ifs b ∧ (if b then CB prog w Fc k elt gs ρ₁ (f x) else f x = []) ∧ Weaker ρ₁ ρ) {A : Around} (rm : Room k A) {b : Addr → Option Obj} {r : Addr → Prop} (l₀ : Fc.Le b r) {I : Addr} {X : List Addr} {b₂ : Addr → Option Obj} {St : List IV → Heap → Prop} (l₂ : (Fc.up b r).Le b₂ r)
    (bX : ∀ a ∈ X, b₂ a = none) (hXr : ∀ a ∈ X, ¬ r a) (ok : ∀ h, FmOk (Fc.up (plus b₂ X h) (rX r X))) (W : Iter prog w A target false b₂ I X St)
    (hinner : ∀ x ρ₁, CB prog w Fc k elt gs ρ₁ (f x) → ∀ b' r', Fc.Le b' r' → FmOk (Fc.up b' r') → ∀ s done, Inv prog w (Fc.up b' r') ρ₁ s → DL D s done → (done ++ f x).length ≤ sizeLine → ∀ (Q : Shared → Prop), (∀ s', Inv prog w (Fc.up b' r') ρ₁ s' → DL D s' (done ++ f x) → Q s') →
      InnerWp prog w A elt gens scope pos d D Fc.env Q s)
    (s : Shared) (done : List IV) (hI : Inv prog w (Fc.up (plus b₂ X s.heap) (rX r X)) ρ s) (hst : St l s.heap) (hdl : DL D s done) (hsz : (done ++ l.flatMap f).length ≤ sizeLine) :
    codeAny (model prog w) A (.compLoop (.ListComp elt gens scope pos) d (.ref I) (.ref D) Fc.env) (fun res s' => res = .ok .next ∧ Inv prog w (Fc.up b r) ρ s' ∧ DL D s' (done ++ l.flatMap f)) s := by
  have le : ∀ h : Heap, (Fc.up b r).Le (plus b₂ X h) (rX r X) := fun h => ⟨fun a o e => by
    have e2 := l₂.base a o e
    exact (plus_out fun q => by rw [bX a q] at e2; cases e2).trans e2, fun a q => .inl q⟩
  have bk : ∀ (s' : Shared) ρ', Inv prog w (Fc.up (plus b₂ X s'.heap) (rX r X)) ρ' s' → Bk b₂ s' := fun s' ρ' I' a o e => I'.keep a o ((plus_out fun q => by rw [bX a q] at e; cases e).trans e)
  have hDX : D ∉ X := fun q => ((ok s.heap).acc D hD).2.1 (.inr q)
  refine codeAny_compLoop_any hg (fun n s' => ∃ pre rest done', n = rest.length ∧ l = pre ++ rest ∧ done' ++ rest.flatMap f = done ++ l.flatMap f ∧ Inv prog w (Fc.up (plus b₂ X s'.heap) (rX r X)) ρ s' ∧ St rest s'.heap ∧ DL D s' done') ?_ l.length
    ⟨[], l, done, rfl, rfl, rfl, hI, hst, hdl⟩
  rintro n s' ⟨pre, rest, done', rfl, hl, hdone, I', st', dl'⟩
  have nt := W.nt rfl _ _ st'
  cases rest with
  | nil =>
    refine W.done s' _ _ st' (bk s' ρ I') fun h' tk ch => ?_
    refine ⟨rfl, Inv.drop (ok _) I' tk (fun a ha => .inr ha) ch (.inl nt) (le s'.heap).base (fun a ha => ?_) (fun a q => .inl q) hXr, ?_⟩
    · cases e : b a with
      | none => rfl
      | some o => have := l₂.base a o e; rw [bX a ha] at this; cases this
    · have : done' = done ++ l.flatMap f := by simpa using hdone
      rw [← this]
      exact DL.chg (s' := { s' with heap := h', toks := tk }) ch nt hDX dl'
  | cons x rest =>
    have hxl : x ∈ l := by rw [hl]; simp
    obtain ⟨ρ₁, c, ha, ht, hc, hw⟩ := hturn x hxl
    refine wpAny_mono (W.item x rest s' (fun v s₂ => wpAny (model prog w) A (assign target Fc.env v) (fun _ s₃ =>
      wpAny (model prog w) A (forIn ifs true fun c r => if r = true then do let ok ← isTrue c Fc.env (eval c Fc.env); pure (ForInStep.yield ok) else pure (ForInStep.yield r)) (fun ok s₄ =>
        if ok = true then InnerWp prog w A elt gens scope pos d D Fc.env (fun s' => ∃ m, m < rest.length + 1 ∧ ∃ pre rest done', m = rest.length ∧ l = pre ++ rest ∧ done' ++ rest.flatMap f = done ++ l.flatMap f ∧ Inv prog w (Fc.up (plus b₂ X s'.heap) (rX r X)) ρ s' ∧ St rest s'.heap ∧ DL D s' done') s₄
        else ∃ m, m < rest.length + 1 ∧ ∃ pre rest done', m = rest.length ∧ l = pre ++ rest ∧ done' ++ rest.flatMap f = done ++ l.flatMap f ∧ Inv prog w (Fc.up (plus b₂ X s₄.heap) (rX r X)) ρ s₄ ∧ St rest s₄.heap ∧ DL D s₄ done') No s₃) No s₂) No st' (bk s' ρ I') fun v h' tk ch hx st₁ => ?_) (fun r' s₃ h => ?_) fun _ _ e => e.elim
    · have I₁ := I'.replus (ok _) tk ch (.inl nt) (W.std _ _ st₁)
      have X₁ : ∀ a ∈ X, ∃ o, h'.get? a = some o := W.std _ _ st₁
      have l₁ : Fc.Le (plus b₂ X h') (rX r X) := l₀.trans (le h')
      have dl₁ : DL D { s' with heap := h', toks := tk } done' := DL.chg (s' := { s' with heap := h', toks := tk }) ch nt hDX dl'
      refine wpAny_mono (ha _ _ l₁ (ok _) A _ v rm hx I₁) (fun _ s₃ ⟨I₃, Y, hY1, hY2⟩ => ?_) fun _ _ e => e
      have I₃ : Inv prog w (Fc.up (plus b₂ X h') (rX r X)) ρ₁ s₃ := I₃
      have dl₃ : DL D s₃ done' := DL.chg hY1 (fun a ha => (hY2 a ha).1) (fun q => (hY2 D q).2 (.inr hD)) dl₁
      have fin : ∀ (s₄ : Shared) (ρ' : Rho) (dn : List IV), Inv prog w (Fc.up (plus b₂ X h') (rX r X)) ρ' s₄ → Weaker ρ' ρ → DL D s₄ dn → dn = done' ++ f x →
          ∃ m, m < rest.length + 1 ∧ ∃ pre rest done', m = rest.length ∧ l = pre ++ rest ∧ done' ++ rest.flatMap f = done ++ l.flatMap f ∧ Inv prog w (Fc.up (plus b₂ X s₄.heap) (rX r X)) ρ s₄ ∧ St rest s₄.heap ∧ DL D s₄ done' := fun s₄ ρ' dn I₄ hw dl₄ e => by
        have es : plus b₂ X h' = plus b₂ X s₄.heap := plus_same (s := { s' with heap := h', toks := tk }) I₄ X₁
        have I₅ : Inv prog w (Fc.up (plus b₂ X s₄.heap) (rX r X)) ρ' s₄ := es ▸ I₄
        refine ⟨rest.length, Nat.lt_succ_self _, pre ++ [x], rest, dn, rfl, by rw [hl]; simp, ?_, I₅.weak hw, W.frm _ _ _ st₁ (fun a ha o ho => I₄.keep a o ((plus_in ha).trans ho)) (bk s₄ ρ' I₅), dl₄⟩
        rw [e, ← hdone]; simp
      have tst : wpAny (model prog w) A (forIn ifs true fun c r => if r = true then do let ok ← isTrue c Fc.env (eval c Fc.env); pure (ForInStep.yield ok) else pure (ForInStep.yield r)) (fun ok s₄ => ok = c ∧ Ext s₃ s₄) No s₃ := by
        rcases ht with ⟨rfl, rfl⟩ | ⟨t, rfl, ht⟩
        · exact wpAny_tests_nil ⟨rfl, Ext.refl _⟩
        · exact wpAny_tests_one (ht A s₃ rm (I₃.down l₁))
      refine wpAny_mono tst (fun o s₄ ⟨e, x₄⟩ => ?_) fun _ _ e => e
      subst e
      have I₄ := I₃.ext x₄
      have dl₄ := dl₃.ext x₄
      cases o with
      | false => exact fin s₄ ρ₁ done' I₄ hw dl₄ (by rw [show f x = [] from hc]; simp)
      | true =>
        refine hinner x ρ₁ hc _ _ l₁ (ok _) s₄ done' I₄ dl₄ ?_ _ fun s₅ I₅ dl₅ => fin s₅ ρ₁ _ I₅ hw dl₅ rfl
        refine Nat.le_trans ?_ hsz
        rw [← hdone]; simp
    · obtain ⟨v, rfl, h⟩ := h
      refine wpAny_mono h (fun _ s₃ h => ?_) fun _ _ e => e.elim
      refine wpAny_mono h (fun _ s₃ h => ?_) fun _ _ e => e.elim
      exact wpAny_mono h (fun o s₃ h => h) fun _ _ e => e.elim
theorem comp_loop {Fc : Fm} {k : Nat} {elt : PySem.Expr} {gens : List Comprehension} {scope : Scope} {pos : PySem.Pos} {D : Addr} (hD : Fc.acc D) (haD : ∀ d, Fc.acc d → d = D) : ∀ (gs : List Comprehension) (d : Nat) (g : Comprehension) (ρ : Rho) (l : List IV) (f : IV → List IV), gens.drop d = g :: gs → g.is_async = 0 →
    (∀ x ∈ l, ∃ ρ₁ b, AsgJ prog w Fc k g.target x ρ ρ₁ ∧ TestsJ prog w Fc ρ₁ k g.ifs b ∧ (if b then CB prog w Fc k elt gs ρ₁ (f x) else f x = []) ∧ Weaker ρ₁ ρ) → ∀ (A : Around), Room k A → ∀ (b : Addr → Option Obj) (r : Addr → Prop), Fc.Le b r → ∀ (I : Addr) (X : List Addr) (b₂ : Addr → Option Obj) (St : List IV → Heap → Prop), (Fc.up b r).Le b₂ r →
    (∀ a ∈ X, b₂ a = none) → (∀ a ∈ X, ¬ r a) → (∀ h, FmOk (Fc.up (plus b₂ X h) (rX r X))) → Iter prog w A g.target false b₂ I X St → ∀ (s : Shared) (done : List IV), Inv prog w (Fc.up (plus b₂ X s.heap) (rX r X)) ρ s → St l s.heap → DL D s done → (done ++ l.flatMap f).length ≤ sizeLine →
    codeAny (model prog w) A (.compLoop (.ListComp elt gens scope pos) d (.ref I) (.ref D) Fc.env) (fun res s' => res = .ok .next ∧ Inv prog w (Fc.up b r) ρ s' ∧ DL D s' (done ++ l.flatMap f)) s := by
  have hget : ∀ (d : Nat) (g : Comprehension) (gs : List Comprehension), gens.drop d = g :: gs → gens[d]? = some g ∧ gens.drop (d + 1) = gs := fun d g gs h => by
    constructor
    · have := congrArg (fun l => l[0]?) h; simpa using this
    · have := congrArg List.tail h; simpa using this
  intro gs
  induction gs with
  | nil =>
    intro d g ρ l f hdrop ha hturn A rm b r l₀ I X b₂ St l₂ bX hXr ok W s done hI hst hdl hsz
    obtain ⟨hg, hnext⟩ := hget d g [] hdrop
    obtain ⟨target, iter, ifs, asy⟩ := g
    cases ha
    refine comp_turns hD hg hturn rm l₀ l₂ bX hXr ok W (fun x ρ₁ hc b' r' l' ok' s done I' dl hlen Q hQ => ?_) s done hI hst hdl hsz
    obtain ⟨y, fr, e, hy⟩ := hc
    have hn : gens[d + 1]? = none := by
      have : (gens.drop (d + 1))[0]? = none := by rw [hnext]; rfl
      simpa using this
    unfold InnerWp
    rw [hn]
    refine wpAny_mono (hy A s rm (I'.down l')) (fun v s₁ ⟨x₁, fp, r₁, _⟩ => ?_) fun _ _ e => e
    obtain ⟨vs, hl, hvs⟩ := dl.ext x₁
    refine wp_append hl (by rw [List.size_toArray, hvs.length]; rw [e] at hlen; simp at hlen; omega) fun h' hl' hs' => hQ _ ?_ ?_
    · exact (I'.ext x₁).accChg ok' hD hs' (let ⟨o, _, ho, _⟩ := hl'; ⟨o, ho⟩) (NT.list hl') haD
    · refine ⟨vs ++ [v], by rw [← List.push_toArray]; exact hl', ?_⟩
      rw [e]
      have ch : Chg [D] s₁.heap h' := Chg.of_sameBut hs'
      have nt : ∀ a ∈ [D], NT s₁.heap a := fun a ha => by rw [List.mem_singleton.mp ha]; exact NT.list hl
      exact IVs.append (hvs.chg ch (.inl nt)) ⟨IV.chg ch (.inl nt) r₁.1, trivial⟩
  | cons g' gs ih =>
    intro d g ρ l f hdrop ha hturn A rm b r l₀ I X b₂ St l₂ bX hXr ok W s done hI hst hdl hsz
    obtain ⟨hg, hnext⟩ := hget d g (g' :: gs) hdrop
    obtain ⟨target, iter, ifs, asy⟩ := g
    cases ha
    refine comp_turns hD hg hturn rm l₀ l₂ bX hXr ok W (fun x ρ₁ hc b' r' l' ok' s done I' dl hlen Q hQ => ?_) s done hI hst hdl hsz
    obtain ⟨l₁, f₁, a1, a2, a3, a4, a5⟩ := hc
    obtain ⟨hg', _⟩ := hget (d + 1) g' gs hnext
    unfold InnerWp
    rw [hg']
    refine ⟨a1, a2, wpAny_mono (a3 b' r' l' ok' A s rm I') (fun v s₁ h₁ => wpAny_mono h₁ (fun it s₂ h₂ => ?_) fun _ _ e => e) fun _ _ e => e⟩
    obtain ⟨x₂, I₂, X₂, b₃, St₂, rfl, l₃, bX₂, ok₂, i₂, fX, st₂, W₂⟩ := h₂
    obtain ⟨target', iter', ifs', asy'⟩ := g'
    cases a1
    refine codeAny_compStart_any hg' ?_ (W₂.self _ _ _ _ st₂ ⟨rfl, rfl⟩)
    refine codeAny_mono (ih (d + 1) _ ρ₁ l₁ f₁ hnext rfl a5 A rm b' r' l' I₂ X₂ b₃ St₂ l₃ bX₂ (fun a ha q => by obtain ⟨o, ho⟩ := I'.res a q; rw [fX a ha] at ho; cases ho) (fun h => ok₂.replus) W₂ s₂ done i₂ st₂ (dl.ext x₂) (by rw [← a4]; exact hlen)) fun res s' ⟨e, i', dl'⟩ => ⟨e, hQ s' i' (by rw [a4]; exact dl')⟩
variable {prog : Program} {w : World}

/-- a comprehension's names: its own, its own in a cell, its frame's i-th slot -/
inductive CSlot where
  | loc | own | cap (i : Nat)
def CSlot.acc (F : Fm) (cs : List (Str × Addr)) (x : Str) : CSlot → Option Addr
  | .loc => none
  | .own => cs.lookup x
  | .cap i => (F.slots[i]?).bind (·.2)
def CSlot.pv (ρ : Rho) : CSlot → PV × Bool
  | .cap i => (((ρ[i]?).map (·.1)).getD .any, false)
  | _ => (.any, false)
abbrev compCells (scope : Scope) (cl : List (Str × Addr)) (C : Addr) : List (Str × Addr) := cellsFrom (C + 1) scope.names cl
def compFm (F : Fm) (scope : Scope) (cl : List (Str × Addr)) (sp : List (Str × CSlot)) (C D : Addr) (base : Addr → Option Obj) : Fm where
  env := compEnvC scope (compCells scope cl C) C F.env
  slots := sp.map fun p => (p.1, p.2.acc F (compCells scope cl C) p.1)
  base := base
  os := F.os
  res := fun _ => False
  mine := fun a => ∃ x, (x, CSlot.own) ∈ sp ∧ (compCells scope cl C).lookup x = some a
  acc := fun a => a = D
def compRho (ρ : Rho) (sp : List (Str × CSlot)) : Rho := sp.map fun p => p.2.pv ρ
def SpOk (F : Fm) (scope : Scope) (cl : List (Str × Addr)) : List (Str × CSlot) → Prop
  | [] => True
  | (x, .loc) :: r => scope.names.lookup x = some .local ∧ SpOk F scope cl r
  | (x, .own) :: r => scope.names.lookup x = some .cell ∧ SpOk F scope cl r
  | (x, .cap i) :: r => (scope.names.lookup x = some .free ∧ (scope.names.any fun p => p.1 == x && p.2 == .cell) = false ∧ ∃ c, F.slots[i]? = some (x, some c) ∧ cl.lookup x = some c) ∧ SpOk F scope cl r
theorem SpOk.at {F : Fm} {scope : Scope} {cl : List (Str × Addr)} : ∀ {sp : List (Str × CSlot)}, SpOk F scope cl sp → ∀ p ∈ sp, SpOk F scope cl [p]
  | (x, .loc) :: r, h, p, hp => by
    rcases List.mem_cons.mp hp with rfl | hp
    · exact ⟨h.1, trivial⟩
    · exact SpOk.at h.2 p hp
  | (x, .own) :: r, h, p, hp => by
    rcases List.mem_cons.mp hp with rfl | hp
    · exact ⟨h.1, trivial⟩
    · exact SpOk.at h.2 p hp
  | (x, .cap i) :: r, h, p, hp => by
    rcases List.mem_cons.mp hp with rfl | hp
    · exact ⟨h.1, trivial⟩
    · exact SpOk.at h.2 p hp
theorem cellsFrom_app : ∀ (names : List (Str × NameKind)) (n : Nat) (acc : List (Str × Addr)), cellsFrom n names acc = cellsFrom n names [] ++ acc
  | [], _, _ => rfl
  | (x, kd) :: r, n, acc => by
    unfold cellsFrom
    split
    · rw [cellsFrom_app r (n + 1) ((x, n) :: acc), cellsFrom_app r (n + 1) [(x, n)]]; simp
    · exact cellsFrom_app r n acc
theorem cellsFrom_mem : ∀ (names : List (Str × NameKind)) (n : Nat) (x : Str) (c : Addr), (x, c) ∈ cellsFrom n names [] → (x, NameKind.cell) ∈ names
  | [], _, _, _, h => by cases h
  | (y, kd) :: r, n, x, c, h => by
    unfold cellsFrom at h
    split at h
    · rename_i hk
      rw [cellsFrom_app] at h
      rcases List.mem_append.mp h with h | h
      · exact List.mem_cons_of_mem _ (cellsFrom_mem r _ x c h)
      · simp at h
        rw [h.1, show kd = .cell from by simpa using hk]; exact List.mem_cons_self ..
    · exact List.mem_cons_of_mem _ (cellsFrom_mem r _ x c h)
theorem cellsFrom_has : ∀ (names : List (Str × NameKind)) (n : Nat) (x : Str), (x, NameKind.cell) ∈ names → ∃ c, (x, c) ∈ cellsFrom n names []
  | (y, kd) :: r, n, x, h => by
    unfold cellsFrom
    rcases List.mem_cons.mp h with e | h
    · cases e
      rw [if_pos (by rfl), cellsFrom_app]
      exact ⟨n, List.mem_append_right _ (List.mem_singleton_self _)⟩
    · split
      · obtain ⟨c, hc⟩ := cellsFrom_has r (n + 1) x h
        rw [cellsFrom_app]
        exact ⟨c, List.mem_append_left _ hc⟩
      · exact cellsFrom_has r n x h
theorem lookup_of_mem {α : Type} : ∀ {l : List (Str × α)} {x : Str} {c : α}, (x, c) ∈ l → ∃ c', l.lookup x = some c'
  | (y, d) :: r, x, c, h => by
    rw [List.lookup_cons]
    cases hb : x == y with
    | true => exact ⟨d, rfl⟩
    | false =>
      rcases List.mem_cons.mp h with e | h
      · cases e; simp at hb
      · exact lookup_of_mem h
theorem lookup_none {α : Type} : ∀ {l : List (Str × α)} {x : Str}, (∀ c, (x, c) ∉ l) → l.lookup x = none
  | [], _, _ => rfl
  | (y, d) :: r, x, h => by
    rw [List.lookup_cons]
    cases hb : x == y with
    | true => exact absurd (by rw [beq_iff_eq.mp hb]; exact List.mem_cons_self ..) (h d)
    | false => exact lookup_none fun c hc => h c (List.mem_cons_of_mem _ hc)
theorem lookup_app {α : Type} : ∀ {l l' : List (Str × α)} {x : Str}, (l ++ l').lookup x = (l.lookup x).or (l'.lookup x)
  | [], _, _ => by simp
  | (y, d) :: r, l', x => by
    rw [List.cons_append, List.lookup_cons, List.lookup_cons]
    cases x == y with
    | true => rfl
    | false => exact lookup_app
theorem lookup_relabel {env : Env} {kd : NameKind} : ∀ {names : List (Str × NameKind)} {x : Str}, names.lookup x = some kd →
    (names.map fun (n, k) => if (k == NameKind.free && env.scope.kind == .function && env.kindOf n == some .cell) then (n, NameKind.cell) else (n, k)).lookup x = some (if (kd == NameKind.free && env.scope.kind == .function && env.kindOf x == some .cell) then .cell else kd)
  | [], _, h => by simp at h
  | (n, k) :: r, x, h => by
    rw [List.map_cons]
    rw [List.lookup_cons] at h
    cases hx : x == n with
    | true =>
      rw [hx] at h
      cases h
      rw [beq_iff_eq.mp hx]
      dsimp only
      split <;> simp [List.lookup_cons]
    | false =>
      rw [hx] at h
      have ih := lookup_relabel (env := env) (kd := kd) (names := r) (x := x) h
      dsimp only
      split <;> (rw [List.lookup_cons, hx]; exact ih)
/-- the own cells of a comprehension -/
structure OwnCells (h : Heap) (C : Addr) (scope : Scope) (cl : List (Str × Addr)) : Prop where
  own : ∀ x, scope.names.lookup x = some .cell → ∃ c, (compCells scope cl C).lookup x = some c ∧ h.IsCell c none ∧ C < c
  apart : ∀ x y c, scope.names.lookup x = some .cell → scope.names.lookup y = some .cell → (compCells scope cl C).lookup x = some c → (compCells scope cl C).lookup y = some c → x = y
  cap : ∀ x, (scope.names.any fun p => p.1 == x && p.2 == .cell) = false → (compCells scope cl C).lookup x = cl.lookup x
theorem ownCells (h : Heap) (scope : Scope) (cl : List (Str × Addr)) (C : Addr) (hC : h.objs.size = C + 1) : OwnCells (pushCells h scope.names) C scope cl := by
  have ok := cellsFrom_ok scope.names h (C + 1) [] ⟨fun _ _ hm => (nomatch hm), List.Pairwise.nil⟩ (by rw [hC]; exact Nat.le_refl _)
  rw [hC] at ok
  have e : compCells scope cl C = cellsFrom (C + 1) scope.names [] ++ cl := cellsFrom_app ..
  have own : ∀ x, scope.names.lookup x = some .cell → ∃ c, (x, c) ∈ cellsFrom (C + 1) scope.names [] ∧ (compCells scope cl C).lookup x = some c := fun x hx => by
    obtain ⟨c, hc⟩ := cellsFrom_has scope.names (C + 1) x (mem_of_lookup hx)
    obtain ⟨c', hc'⟩ := lookup_of_mem hc
    exact ⟨c', mem_of_lookup hc', by rw [e, lookup_app, hc']; rfl⟩
  refine ⟨fun x hx => ?_, fun x y c hx hy h1 h2 => ?_, fun x hx => ?_⟩
  · obtain ⟨c, h1, h2⟩ := own x hx
    exact ⟨c, h2, (ok.empty x c h1).1, (ok.empty x c h1).2⟩
  · obtain ⟨c1, h3, h4⟩ := own x hx
    obtain ⟨c2, h5, h6⟩ := own y hy
    rw [h1] at h4; cases h4
    rw [h2] at h6; cases h6
    exact name_of_addr ok.apart h3 h5
  · rw [e, lookup_app, lookup_none fun c hc => ?_]; · rfl
    have := cellsFrom_mem _ _ _ _ hc
    have h3 : (scope.names.any fun p => p.1 == x && p.2 == .cell) = true := List.any_eq_true.mpr ⟨_, this, by simp⟩
    rw [hx] at h3; cases h3
variable {prog : Program} {w : World}

theorem FmOk.plusX {G : Fm} (ok : FmOk G) {X : List Addr} {h : Heap} (hL : G.env.locals ∉ X) (hC : ∀ (i : Nat) (x : Str) (c : Addr), G.slots[i]? = some (x, some c) → c ∉ X) (hA : ∀ d, G.acc d → d ∉ X) : FmOk (G.up (plus G.base X h) (rX G.res X)) := by
  refine ⟨ok.kind, ok.loc, ok.cel, ok.names, ok.cells, (plus_out hL).trans ok.baseL, fun q => q.elim ok.resL hL, fun i x c h q => q.elim (ok.resC i x c h) (hC i x c h), fun c hc => ?_, fun d hd => ?_, ok.mineC⟩
  · obtain ⟨i, x, hx⟩ := ok.mineC c hc
    exact (plus_out (hC i x c hx)).trans (ok.mine c hc)
  · obtain ⟨h1, h2, h3⟩ := ok.acc d hd
    exact ⟨(plus_out (hA d hd)).trans h1, fun q => q.elim h2 (hA d hd), h3⟩
section
variable {F : Fm} {scope : Scope} {cl : List (Str × Addr)} {sp : List (Str × CSlot)} {C D : Addr} {base : Addr → Option Obj} {h : Heap}
theorem comp_slot {i : Nat} {x : Str} {acc : Option Addr} (hs : (compFm F scope cl sp C D base).slots[i]? = some (x, acc)) : ∃ c, sp[i]? = some (x, c) ∧ acc = c.acc F (compCells scope cl C) x := by
  have : (sp.map fun p => (p.1, p.2.acc F (compCells scope cl C) p.1))[i]? = some (x, acc) := hs
  rw [List.getElem?_map] at this
  cases e : sp[i]? with
  | none => rw [e] at this; cases this
  | some p =>
    rw [e] at this
    obtain ⟨y, c⟩ := p
    cases this
    exact ⟨c, rfl, rfl⟩
/-- what is behind a slot of a comprehension's frame -/
inductive CKind (F : Fm) (scope : Scope) (cl : List (Str × Addr)) (C : Addr) (h : Heap) (x : Str) : CSlot → Option Addr → Prop
  | loc : scope.names.lookup x = some .local → CKind F scope cl C h x .loc none
  | own {c} : scope.names.lookup x = some .cell → (compCells scope cl C).lookup x = some c → h.IsCell c none → C < c → CKind F scope cl C h x .own (some c)
  | cap {i c} : scope.names.lookup x = some .free → F.slots[i]? = some (x, some c) → (compCells scope cl C).lookup x = some c → CKind F scope cl C h x (.cap i) (some c)
theorem comp_kind (oc : OwnCells h C scope cl) (so : SpOk F scope cl sp) {i : Nat} {x : Str} {acc : Option Addr} (hs : (compFm F scope cl sp C D base).slots[i]? = some (x, acc)) : ∃ c, sp[i]? = some (x, c) ∧ CKind F scope cl C h x c acc := by
  obtain ⟨c, h1, h2⟩ := comp_slot hs
  have h3 := so.at _ (List.mem_of_getElem? h1)
  refine ⟨c, h1, ?_⟩
  subst h2
  cases c with
  | loc => exact .loc h3.1
  | own =>
    obtain ⟨c, h4, h5, h6⟩ := oc.own x h3.1
    show CKind F scope cl C h x .own ((compCells scope cl C).lookup x)
    rw [h4]
    exact .own h3.1 h4 h5 h6
  | cap j =>
    obtain ⟨⟨h4, h5, c, h6, h7⟩, _⟩ := h3
    show CKind F scope cl C h x (.cap j) ((F.slots[j]?).bind (·.2))
    rw [h6]
    exact .cap h4 h6 ((oc.cap x h5).trans h7)
theorem comp_ok (ok : FmOk F) (oc : OwnCells h C scope cl) (so : SpOk F scope cl sp) (hk : scope.kind = .function) (nd : (sp.map (·.1)).Nodup) (hF : ∀ (i : Nat) (x : Str) (c : Addr), F.slots[i]? = some (x, some c) → c < C) (hDC : D < C)
    (hb : ∀ a, C ≤ a → base a = none) (hbD : base D = none) (hFD : ∀ (i : Nat) (x : Str) (c : Addr), F.slots[i]? = some (x, some c) → c ≠ D) : FmOk (compFm F scope cl sp C D base) := by
  have uniq : ∀ (i j : Nat) (x : Str) (c c' : CSlot), sp[i]? = some (x, c) → sp[j]? = some (x, c') → i = j := fun i j x c c' h1 h2 => by
    have hi : i < sp.length := (List.getElem?_eq_some_iff.mp h1).1
    have hj : j < sp.length := (List.getElem?_eq_some_iff.mp h2).1
    have e1 : (sp.map (·.1))[i]'(by simpa using hi) = x := by simp [(List.getElem?_eq_some_iff.mp h1).2]
    have e2 : (sp.map (·.1))[j]'(by simpa using hj) = x := by simp [(List.getElem?_eq_some_iff.mp h2).2]
    have pw := List.pairwise_iff_getElem.mp nd
    rcases Nat.lt_trichotomy i j with h | h | h
    · exact absurd (e1.trans e2.symm) (pw i j (by simpa using hi) (by simpa using hj) h)
    · exact h
    · exact absurd (e2.trans e1.symm) (pw j i (by simpa using hj) (by simpa using hi) h)
  refine ⟨hk, fun i x hs => ?_, fun i x c hs => ?_, fun i j x a b h1 h2 => ?_, fun i j x y c h1 h2 => ?_, hb C (Nat.le_refl _), id, fun _ _ _ _ => id, fun c ⟨x, h1, h2⟩ => ?_, fun d hd => ?_, fun c ⟨x, h1, h2⟩ => ?_⟩
  · obtain ⟨c, _, ck⟩ := comp_kind oc so hs
    cases ck with
    | loc h1 => exact lookup_relabel (env := F.env) h1
  · obtain ⟨c, _, ck⟩ := comp_kind oc so hs
    cases ck with
    | own h1 h2 h3 h4 => exact ⟨.inl (lookup_relabel (env := F.env) h1), h2, Nat.ne_of_gt h4⟩
    | cap h1 h2 h3 =>
      refine ⟨?_, h3, Nat.ne_of_lt (hF _ _ _ h2)⟩
      have := lookup_relabel (env := F.env) h1
      split at this
      · exact .inl this
      · exact .inr this
  · obtain ⟨c, h3, _⟩ := comp_slot h1
    obtain ⟨c', h4, _⟩ := comp_slot h2
    exact uniq i j x c c' h3 h4
  · obtain ⟨k1, h3, c1⟩ := comp_kind oc so h1
    obtain ⟨k2, h4, c2⟩ := comp_kind oc so h2
    cases c1 with
    | own a1 a2 a3 a4 =>
      cases c2 with
      | own b1 b2 b3 b4 =>
        have := oc.apart x y c a1 b1 a2 b2
        subst this
        exact uniq i j x _ _ h3 h4
      | cap b1 b2 b3 => exact absurd (hF _ _ _ b2) (Nat.not_lt.mpr (Nat.le_of_lt a4))
    | cap a1 a2 a3 =>
      cases c2 with
      | own b1 b2 b3 b4 => exact absurd (hF _ _ _ a2) (Nat.not_lt.mpr (Nat.le_of_lt b4))
      | cap b1 b2 b3 =>
        have e := ok.cells _ _ _ _ c a2 b2
        subst e
        rw [a2] at b2; cases b2
        exact uniq i j x _ _ h3 h4
  · obtain ⟨i, hi⟩ := List.mem_iff_getElem?.mp h1
    have hs : (compFm F scope cl sp C D base).slots[i]? = some (x, some c) := by
      show (sp.map _)[i]? = _
      rw [List.getElem?_map, hi]
      show some (x, (compCells scope cl C).lookup x) = _
      rw [h2]
    obtain ⟨k1, h3, ck⟩ := comp_kind oc so hs
    rw [hi] at h3; cases h3
    cases ck with
    | own a1 a2 a3 a4 => exact hb c (Nat.le_of_lt a4)
  · have hd : d = D := hd
    subst hd
    refine ⟨hbD, id, Nat.ne_of_lt hDC, fun i x hs => ?_⟩
    obtain ⟨c, _, ck⟩ := comp_kind oc so hs
    cases ck with
    | own a1 a2 a3 a4 => exact absurd hDC (Nat.not_lt.mpr (Nat.le_of_lt a4))
    | cap a1 a2 a3 => exact hFD _ _ _ a2 rfl
  · obtain ⟨i, hi⟩ := List.mem_iff_getElem?.mp h1
    refine ⟨i, x, ?_⟩
    show (sp.map _)[i]? = _
    rw [List.getElem?_map, hi]
    show some (x, (compCells scope cl C).lookup x) = _
    rw [h2]
end
variable {prog : Program} {w : World}

theorem Iter.mono {A : Around} {tgt : PySem.Expr} {z : Bool} {B B' : Addr → Option Obj} {I : Addr} {X : List Addr} {St : List IV → Heap → Prop} (W : Iter prog w A tgt z B I X St) (h : ∀ a o, B a = some o → B' a = some o) : Iter prog w A tgt z B' I X St where
  std := W.std
  nt := W.nt
  frm := fun l h₁ h' st k1 k2 => W.frm l h₁ h' st k1 fun a o e => k2 a o (h a o e)
  item := fun x l s Q E st bk hQ => W.item x l s Q E st (fun a o e => bk a o (h a o e)) hQ
  done := fun s Q E st bk hQ => W.done s Q E st (fun a o e => bk a o (h a o e)) hQ
  self := W.self
theorem FmOk.down {F : Fm} {b : Addr → Option Obj} {r : Addr → Prop} (ok : FmOk (F.up b r)) (l : F.Le b r) : FmOk F := by
  have key : ∀ a, b a = none → F.base a = none := fun a h => by
    cases e : F.base a with
    | none => rfl
    | some o => have h4 := l.base a o e; rw [h] at h4; cases h4
  exact ⟨ok.kind, ok.loc, ok.cel, ok.names, ok.cells, key _ ok.baseL, fun q => ok.resL (l.res _ q), fun i x c h q => ok.resC i x c h (l.res _ q), fun c hc => key c (ok.mine c hc), fun d hd => ⟨key d (ok.acc d hd).1, fun q => (ok.acc d hd).2.1 (l.res _ q), (ok.acc d hd).2.2⟩, ok.mineC⟩
theorem newEnv_around {M : Model} {A : Around} {E : Value → Shared → Prop} {s : Shared} {scope : Scope} {globals : Addr} {cl : List (Str × Addr)} {qual : Str} {outer : Env} {Q : Env → Shared → Prop}
    (h : Q { scope := scope, locals := s.heap.objs.size, globals := globals, cells := cellsFrom (s.heap.objs.size + 1) scope.names cl, qual := qual, func := none, code := outer.code, frame := outer.frame, builtins := outer.builtins }
      { s with heap := pushCells (s.heap.push { cls := .type "dict", data := .dict #[] }) scope.names }) : wpAny M A (newFunctionEnv scope globals cl [] qual none .none (some outer)) Q E s := by
  simp only [newFunctionEnv, Option.isSome_some, if_true]
  refine wpAny_bind (wpAny_alloc ?_)
  refine wpAny_bind (wpAny_layCells _ (fun name kind cells => by cases hkc : kind == NameKind.cell <;> simp [hkc]) _ _ _ _ ?_)
  rw [show ({ s with heap := s.heap.push { cls := .type "dict", data := .dict #[] } } : Shared).heap.objs.size = s.heap.objs.size + 1 from Heap.size_push ..]
  refine wpAny_bind (wpAny_pure ?_)
  exact wpAny_pure h
theorem pushCells_lt : ∀ (names : List (Str × NameKind)) (h : Heap) (b : Addr), b < h.objs.size → (pushCells h names).get? b = h.get? b
  | [], _, _, _ => rfl
  | (_, kind) :: r, h, b, e => by
    unfold pushCells
    split
    · rw [pushCells_lt r _ b (by rw [Heap.size_push]; exact Nat.lt_succ_of_lt e)]
      exact Heap.get?_push_ne _ _ _ (Nat.ne_of_lt e)
    · exact pushCells_lt r h b e
section
variable {F : Fm} {ρ : Rho} {k : Nat}
theorem comp_core {elt : PySem.Expr} {g : Comprehension} {gs : List Comprehension} {scope : Scope} {pos p2 : PySem.Pos} {cl : List (Str × Addr)} {sp : List (Str × CSlot)} {l : List IV} {f : IV → List IV}
    (hclos : closureFor scope F.env = pure cl) (so : SpOk F scope cl sp) (hk : scope.kind = .function) (nd : (sp.map (·.1)).Nodup) (hnames : ∀ x ∈ scope.names, x.2 = .local → scope.names.lookup x.1 = some .local)
    (hs : ∀ x, foldedSetIterable g.iter F.env x = pure x) (ha : g.is_async = 0) (hI : ItJ prog w F ρ k false g.target g.iter l)
    (hc : ∀ C D base, (∀ a o, F.base a = some o → base a = some o) → FmOk (compFm F scope cl sp C D base) → ∀ x ∈ l, ∃ ρ₁ b, AsgJ prog w (compFm F scope cl sp C D base) k g.target x (compRho ρ sp) ρ₁ ∧ TestsJ prog w (compFm F scope cl sp C D base) ρ₁ k g.ifs b ∧
      (if b then CB prog w (compFm F scope cl sp C D base) k elt gs ρ₁ (f x) else f x = []) ∧ Weaker ρ₁ (compRho ρ sp))
    (hlen : (l.flatMap f).length ≤ sizeLine) {b : Addr → Option Obj} {r : Addr → Prop} (lf : F.Le b r) (ok : FmOk (F.up b r)) {A : Around} {s : Shared} (rm : Room k A) (Iv : Inv prog w (F.up b r) ρ s) {use : Option (Value → Sem Unit)} {Q : Value → Shared → Prop}
    (hQ : ∀ D C s' m, Ext s s' → s.heap.get? D = none → s.heap.get? C = none → D ≠ C → DL D s' (l.flatMap f) → s'.heap.Ns C m → compPost (model prog w) A No use Q (.ref D) C (.ok .next) s') :
    wpAny (model prog w) A (comprehension (.ListComp elt (g :: gs) scope pos) scope F.env p2 (newList []) false (eval g.iter F.env) use) Q No s := by
  refine wpAny_comprehension_free (cl := cl) rfl hs hclos hk hnames ?_
  refine wpAny_mono (hI b r lf ok A s rm Iv) (fun x s₁ h₁ => wpAny_mono h₁ (fun it s₂ h₂ => ?_) fun _ _ e => e) fun _ _ e => e
  obtain ⟨x₂, I, X, b₂, St, rfl, l₂, bX, ok₂, I₂, fX, st, W⟩ := h₂
  refine wpAny_newObj_type ?_ (by size_fits)
  have hD : s₂.heap.get? s₂.heap.objs.size = none := fresh_size (Ext.refl s₂) (Nat.le_refl _)
  have z3 : (s₂.heap.push { cls := .type "list", dict := none, data := .seq ([] : List Value).toArray }).objs.size = s₂.heap.objs.size + 1 := Heap.size_push ..
  refine newEnv_around ?_
  dsimp only
  have z3' : ({ s₂ with heap := s₂.heap.push { cls := .type "list", dict := none, data := .seq ([] : List Value).toArray } } : Shared).heap.objs.size = s₂.heap.objs.size + 1 := z3
  simp only [z3]
  generalize hD' : s₂.heap.objs.size = D at *
  generalize hh3 : s₂.heap.push { cls := .type "list", dict := none, data := .seq ([] : List Value).toArray } = h3 at *
  generalize hh4 : h3.push { cls := .type "dict", data := .dict #[] } = h4
  have z4 : h4.objs.size = (D + 1) + 1 := by rw [← hh4, Heap.size_push, z3]
  have oc := ownCells h4 scope cl (D + 1) z4
  generalize hh5 : pushCells h4 scope.names = h5 at *
  have up : Keep s₂.heap h5 := fun a o e => by
    have hlt : a < D := hD' ▸ Heap.lt_size e
    rw [← hh5, pushCells_lt _ _ _ (by rw [z4]; exact Nat.lt_succ_of_lt (Nat.lt_succ_of_lt hlt)), ← hh4]
    exact Heap.get?_push_of_some _ (by rw [← hh3]; exact Heap.get?_push_of_some _ e)
  have hD5 : h5.get? D = some { cls := .type "list", dict := none, data := .seq ([] : List Value).toArray } := by
    rw [← hh5, pushCells_lt _ _ _ (by rw [z4]; exact Nat.lt_succ_of_lt (Nat.lt_succ_self _)), ← hh4]
    exact Heap.get?_push_of_some _ (by rw [← hh3, ← hD']; exact Heap.get?_push_size _ rfl)
  have hC5 : h5.Ns (D + 1) (fun _ => none) := by
    have := Heap.Ns.new h3 (.type "dict")
    rw [z3] at this
    rw [hh4] at this
    exact this.keeps fun a o e => by rw [← hh5, pushCells_lt _ _ _ (Heap.lt_size e)]; exact e
  have x5 : Ext s { s₂ with heap := h5 } := x₂.trans ⟨⟨rfl, rfl⟩, up⟩
  have slt : ∀ {a o}, s₂.heap.get? a = some o → a < D := fun e => hD' ▸ Heap.lt_size e
  have Xlt : ∀ a ∈ X, a < D := fun a ha => let ⟨o, ho⟩ := W.std _ _ st a ha; slt ho
  have cel : ∀ (i : Nat) (x : Str) (c : Addr), F.slots[i]? = some (x, some c) → ∃ ov, s.heap.IsCell c ov := fun i x c h => Iv.cellAt h
  have celt : ∀ (i : Nat) (x : Str) (c : Addr), F.slots[i]? = some (x, some c) → c < D := fun i x c h => let ⟨ov, o, ho, _⟩ := cel i x c h; slt (x₂.2 _ _ ho)
  generalize hbase : (fun a => if a ∈ X then none else s₂.heap.get? a : Addr → Option Obj) = base
  have base_out : ∀ a, a ∉ X → base a = s₂.heap.get? a := fun a q => by rw [← hbase]; exact if_neg q
  have base_in : ∀ a ∈ X, base a = none := fun a q => by rw [← hbase]; exact if_pos q
  have none_ge : ∀ a, D ≤ a → s₂.heap.get? a = none := fun a q => fresh_size (Ext.refl s₂) (by rw [hD']; exact q)
  have okc : FmOk (compFm F scope cl sp (D + 1) D base) := comp_ok (FmOk.down ok lf) oc so hk nd
    (fun i x c h => Nat.lt_succ_of_lt (celt i x c h)) (Nat.lt_succ_self _) (fun a q => by
      by_cases hX : a ∈ X
      · exact base_in a hX
      · rw [base_out a hX]; exact none_ge a (Nat.le_of_succ_le q)) (by
      by_cases hX : D ∈ X
      · exact base_in D hX
      · rw [base_out D hX]; exact none_ge D (Nat.le_refl _)) fun i x c h => Nat.ne_of_lt (celt i x c h)
  have fb : ∀ a o, F.base a = some o → base a = some o := fun a o e => by
    have e1 := lf.base a o e
    have hX : a ∉ X := fun q => by have := Iv.keep a o e1; rw [fX a q] at this; cases this
    rw [base_out a hX]
    exact x₂.2 _ _ (Iv.keep a o e1)
  have okX : ∀ h, FmOk ((compFm F scope cl sp (D + 1) D base).up (plus base X h) (rX (fun _ => False) X)) := fun h => FmOk.plusX okc (fun q => absurd (Xlt _ q) (Nat.not_lt.mpr (Nat.le_succ _))) (fun i x c hs q => by
      obtain ⟨k1, _, ck⟩ := comp_kind (D := D) (base := base) oc so hs
      cases ck with
      | own a1 a2 a3 a4 => exact absurd (Xlt _ q) (Nat.not_lt.mpr (Nat.le_of_lt (Nat.lt_of_succ_lt a4)))
      | cap a1 a2 a3 => obtain ⟨ov, o, ho, _⟩ := cel _ _ _ a2; rw [fX c q] at ho; cases ho) fun d hd q => absurd (Xlt d q) (by have : d = D := hd; rw [this]; exact Nat.lt_irrefl _)
  have b2b : ∀ a o, b₂ a = some o → base a = some o := fun a o e => by
    have hX : a ∉ X := fun q => by rw [bX a q] at e; cases e
    rw [base_out a hX]
    exact I₂.keep a o ((plus_out hX).trans e)
  have Ic : Inv prog w ((compFm F scope cl sp (D + 1) D base).up (plus base X h5) (rX (fun _ => False) X)) (compRho ρ sp) { s₂ with heap := h5 } := by
    obtain ⟨kk, gg, oo, ln, rs, ac, m, hm, fp, a, c⟩ := I₂
    refine ⟨fun z o e => ?_, gg, oo, by simp [compRho, compFm], fun z hz => ?_, fun d hd => ?_, _, hC5, fun i => match sp[i]? with | some (_, .cap j) => fp j | _ => [], fun i x acc p own h1 h2 => ?_, fun i p h1 => ?_⟩
    · by_cases q : z ∈ X
      · exact (plus_in q).symm.trans e
      · have e : base z = some o := (plus_out q).symm.trans e
        rw [base_out z q] at e
        exact up z o e
    · rcases hz with hz | hz
      · exact hz.elim
      · obtain ⟨o, ho⟩ := W.std _ _ st z hz
        exact ⟨o, up z o ho⟩
    · have hd : d = D := hd
      subst hd
      exact ⟨⟨_, hD5⟩, fun o ho xs n hc _ => by rw [hD5] at ho; cases ho; exact absurd (Value.type.inj hc) (by decide)⟩
    · obtain ⟨cs, h3, ck⟩ := comp_kind (D := D) (base := base) oc so h1
      have h2 : (sp.map fun p => p.2.pv ρ)[i]? = some (p, own) := h2
      rw [List.getElem?_map, h3] at h2
      dsimp only
      rw [h3]
      cases ck with
      | loc a1 =>
        cases h2
        exact ⟨none, rfl, rfl, fun z hz => nomatch hz⟩
      | own a1 a2 a3 a4 =>
        cases h2
        exact ⟨none, a3, rfl, fun z hz => nomatch hz⟩
      | @cap j cc a1 a2 a3 =>
        have hj : j < ρ.length := by rw [ln]; exact (List.getElem?_eq_some_iff.mp a2).1
        have hp : p = (ρ[j]).1 := by
          have h2 : some (((ρ[j]?).map (·.1)).getD PV.any, false) = some (p, own) := h2
          rw [List.getElem?_eq_getElem hj] at h2
          cases h2; rfl
        obtain ⟨ov, h5', h6, h7⟩ := a j x (some cc) (ρ[j]).1 (ρ[j]).2 a2 (List.getElem?_eq_getElem hj)
        subst hp
        refine ⟨ov, Heap.IsCell.keeps h5' up, h6.keep up, fun z hz => ?_⟩
        obtain ⟨oz, hoz⟩ := h6.stands z hz
        have hzD := slt hoz
        refine ⟨⟨Nat.ne_of_lt (Nat.lt_succ_of_lt hzD), fun q => ?_⟩, fun j' x' c' hs' => ?_⟩
        · rcases q with (q | q) | q
          · exact q.elim
          · exact (h7 z hz).1.2 (.inl (.inr q))
          · have q : z = D := q
            exact absurd hzD (by rw [q]; exact Nat.lt_irrefl _)
        · obtain ⟨k1, _, ck'⟩ := comp_kind (D := D) (base := base) oc so hs'
          cases ck' with
          | own a1 a2 a3 a4 => exact Nat.ne_of_lt (Nat.lt_trans (Nat.lt_succ_of_lt hzD) a4)
          | cap b1 b2 b3 => exact (h7 z hz).2 _ _ _ b2
    · have h1 : (sp.map fun p => p.2.pv ρ)[i]? = some (p, true) := h1
      rw [List.getElem?_map] at h1
      cases e : sp[i]? with
      | none => rw [e] at h1; cases h1
      | some q => obtain ⟨y, cs⟩ := q; rw [e] at h1; cases cs <;> cases h1
  obtain ⟨target, iter, ifs, asy⟩ := g
  cases ha
  have dl : DL D { s₂ with heap := h5 } [] := ⟨[], ⟨_, _, hD5, rfl, rfl, rfl⟩, trivial⟩
  refine codeAny_compStart_any (gens := ⟨target, iter, ifs, 0⟩ :: gs) rfl ?_ (W.self _ _ _ _ (W.frm _ _ _ st (fun a ha o ho => up a o ho) fun a o e => up a o (by
    have hX : a ∉ X := fun q => by rw [bX a q] at e; cases e
    rw [← base_out a hX]; exact b2b a o e)) ⟨rfl, rfl⟩)
  refine codeAny_mono (comp_loop (Fc := compFm F scope cl sp (D + 1) D base) (D := D) rfl (fun d hd => hd) gs 0 ⟨target, iter, ifs, 0⟩ (compRho ρ sp) l f rfl rfl (hc (D + 1) D base fb okc) A rm base (fun _ => False) ⟨fun _ _ e => e, fun _ e => e⟩ I X base St ⟨fun _ _ e => e, fun _ e => e⟩ base_in (fun _ _ e => e) okX (W.mono b2b)
    { s₂ with heap := h5 } [] Ic (W.frm _ _ _ st (fun a ha o ho => up a o ho) fun a o e => up a o (by
    have hX : a ∉ X := fun q => by rw [bX a q] at e; cases e
    rw [← base_out a hX]; exact b2b a o e)) dl (by simpa using hlen)) fun res s' ⟨e, I', dl'⟩ => ?_
  subst e
  obtain ⟨m', hm', _⟩ := id I'.sl
  have ks : Keep s.heap s'.heap := fun a o e => I'.keep a o (by
    have hX : a ∉ X := fun q => by rw [fX a q] at e; cases e
    show base a = _
    rw [base_out a hX]
    exact x₂.2 _ _ e)
  refine hQ D (D + 1) s' m' ⟨⟨I'.gens.trans (Iv.gens.symm), I'.os.trans (Iv.os.symm)⟩, ks⟩ (fresh_size x₂ (by rw [hD']; exact Nat.le_refl _)) (fresh_size x₂ (by rw [hD']; exact Nat.le_succ _)) (Nat.ne_of_lt (Nat.lt_succ_self _)) (by simpa using dl') hm'
end
variable {prog : Program} {w : World}
section
variable {F : Fm} {ρ : Rho} {k : Nat}
theorem DL.after {D C : Addr} {s s' : Shared} {m} {l : List IV} (dl : DL D s l) (hDC : D ≠ C) (hm : s.heap.Ns C m) (hs : Heap.SameBut C s.heap s'.heap) : DL D s' l :=
  DL.chg (Chg.of_sameBut hs) (fun a ha => by rw [List.mem_singleton.mp ha]; exact NT.ns hm) (by simp [hDC]) dl
/-- what a comprehension's proof needs -/
structure CompJ (prog : Program) (w : World) (F : Fm) (ρ : Rho) (k : Nat) (elt : PySem.Expr) (g : Comprehension) (gs : List Comprehension) (scope : Scope) (cl : List (Str × Addr)) (sp : List (Str × CSlot)) (l : List IV) (f : IV → List IV) : Prop where
  hclos : closureFor scope F.env = pure cl
  so : SpOk F scope cl sp
  hk : scope.kind = .function
  nd : (sp.map (·.1)).Nodup
  hnames : ∀ x ∈ scope.names, x.2 = .local → scope.names.lookup x.1 = some .local
  hs : ∀ x, foldedSetIterable g.iter F.env x = pure x
  ha : g.is_async = 0
  hI : ItJ prog w F ρ k false g.target g.iter l
  hc : ∀ C D base, (∀ a o, F.base a = some o → base a = some o) → FmOk (compFm F scope cl sp C D base) → ∀ x ∈ l, ∃ ρ₁ b, AsgJ prog w (compFm F scope cl sp C D base) k g.target x (compRho ρ sp) ρ₁ ∧ TestsJ prog w (compFm F scope cl sp C D base) ρ₁ k g.ifs b ∧
      (if b then CB prog w (compFm F scope cl sp C D base) k elt gs ρ₁ (f x) else f x = []) ∧ Weaker ρ₁ (compRho ρ sp)
  hlen : (l.flatMap f).length ≤ sizeLine
theorem ev_comp {elt : PySem.Expr} {target iter : PySem.Expr} {ifs : List PySem.Expr} {gs : List Comprehension} {scope : Scope} {pos : PySem.Pos} {cl : List (Str × Addr)} {sp : List (Str × CSlot)} {l : List IV} {f : IV → List IV} (ok : FmOk F) (J : CompJ prog w F ρ k elt ⟨target, iter, ifs, 0⟩ gs scope cl sp l f) :
    EvJ prog w F ρ k (.ListComp elt (⟨target, iter, ifs, 0⟩ :: gs) scope pos) (.list (l.flatMap f)) true := fun A s rm I => by
  refine comp_core (use := none) (b := F.base) (r := F.res) J.hclos J.so J.hk J.nd J.hnames J.hs J.ha J.hI J.hc J.hlen (Fm.Le.refl F) ok rm I fun D C s' m x hD hC hDC dl hm => ?_
  refine ⟨m, hm, fun h' hs' => ?_⟩
  obtain ⟨vs, h1, h2⟩ := DL.after (s' := { s' with heap := h' }) dl hDC hm hs'
  exact ⟨⟨x.1, fun a o e => (hs'.2 a fun q => by rw [q, hC] at e; cases e).trans (x.2 a o e)⟩, [D], ⟨D, vs, rfl, h1, h2, rfl⟩, fun _ a ha => by rw [List.mem_singleton.mp ha]; exact hD⟩
theorem ev_comp_eq {elt : PySem.Expr} {target iter : PySem.Expr} {ifs : List PySem.Expr} {gs : List Comprehension} {scope : Scope} {pos : PySem.Pos} {out : List IV} (cl : List (Str × Addr)) (sp : List (Str × CSlot)) (l : List IV) (f : IV → List IV) (ok : FmOk F) (e : l.flatMap f = out) (J : CompJ prog w F ρ k elt ⟨target, iter, ifs, 0⟩ gs scope cl sp l f) :
    EvJ prog w F ρ k (.ListComp elt (⟨target, iter, ifs, 0⟩ :: gs) scope pos) (.list out) true := e ▸ ev_comp ok J
/-- x = [..] on one row: the name is set before the comprehension's names go -/
theorem ex_assign_compW {ρ' : Rho} (hw : Weaker ρ ρ') {y : Str} {np spos : PySem.Pos} {elt : PySem.Expr} {target iter : PySem.Expr} {ifs : List PySem.Expr} {gs : List Comprehension} {scope : Scope} {pos : PySem.Pos} {cl : List (Str × Addr)} {sp : List (Str × CSlot)} {l : List IV} {f : IV → List IV} {own : Bool} (i : Nat) {acc : Option Addr}
    (hy : F.slots[i]? = some (y, acc)) (ho : Own F y acc) (hsw : swapsWith (.ListComp elt (⟨target, iter, ifs, 0⟩ :: gs) scope pos) (some (.Name y np)) spos.line F.env = pure true) (J : CompJ prog w F ρ' k elt ⟨target, iter, ifs, 0⟩ gs scope cl sp l f) :
    ExS prog w F ρ k (exec (.Assign [.Name y np] (.ListComp elt (⟨target, iter, ifs, 0⟩ :: gs) scope pos) spos) F.env) (Only (ρ.set i (.list (l.flatMap f), own))) := fun b r lf ok A s rm I => by
  rw [exec_Assign_Name_used _ _ _ _ hsw]
  refine wpAny_bind (wpAny_standAt (wpAny_bind ?_))
  show wpAny _ A (do let _ ← comprehension (.ListComp elt (⟨target, iter, ifs, 0⟩ :: gs) scope pos) scope F.env _ (newList []) false (eval iter F.env) (some (assign (.Name y np) F.env))) _ _ s
  refine wpAny_bind (wpAny_mono (comp_core (g := ⟨target, iter, ifs, 0⟩) (use := some (assign (.Name y np) F.env)) (Q := fun _ s' => Inv prog w (F.up b r) (ρ.set i (.list (l.flatMap f), own)) s') (b := b) (r := r) J.hclos J.so J.hk J.nd J.hnames J.hs J.ha J.hI J.hc J.hlen lf ok rm (I.weak hw) fun D C s' m x hD hC hDC dl hm => ?_)
    (fun _ s' hq => wpAny_pure (wpAny_pure ⟨.next, _, ⟨rfl, rfl⟩, hq, trivial⟩)) fun _ _ e => e)
  show wpAny _ A (assign (.Name y np) F.env (.ref D)) _ _ s'
  have hLC : C ≠ F.env.locals := fun q => by obtain ⟨m1, ⟨o, _, _, ho, _⟩, _⟩ := I.sl; rw [q] at hC; rw [show s.heap.get? F.env.locals = some o from ho] at hC; cases hC
  have fin : ∀ (h₁ h₂ : Heap) (t : Nat) (Y : Addr), Heap.SameBut Y s'.heap h₁ → Heap.SameBut C h₁ h₂ → Chg [Y, C] s'.heap h₂ := fun h₁ h₂ t Y a b z o hz ho => by
    simp at hz
    exact (b.2 z hz.2).trans ((a.2 z hz.1).trans ho)
  have r' : ∃ vs, PlainL s'.heap D vs.toArray ∧ IVs s'.heap (l.flatMap f) vs := dl
  obtain ⟨vs, h1, h2⟩ := r'
  have rp : Rep prog w s'.heap (.list (l.flatMap f)) (.ref D) [D] := ⟨D, vs, rfl, h1, h2, rfl⟩
  have fD : Fresh s [D] := fun a ha => by rw [List.mem_singleton.mp ha]; exact hD
  have fC : Fresh s [C] := fun a ha => by rw [List.mem_singleton.mp ha]; exact hC
  have nC : ∀ z ∈ [C], NT s'.heap z := fun a ha => by rw [List.mem_singleton.mp ha]; exact NT.ns hm
  have dC : ∀ a ∈ [D], a ∉ [C] := fun a ha => by rw [List.mem_singleton.mp ha]; simpa using hDC
  cases acc with
  | none =>
    obtain ⟨m₁, hm₁, _⟩ := (I.ext x).sl
    refine wpAny_assign_Name (wpAny_storeName_local (ok.loc i y hy) hm₁ (fun h' hn hsb => ?_) (by
      show (F.env.scope.kind == .class || (F.env.scope.kind == .module && F.env.locals != F.env.globals)) = false
      rw [show F.env.scope.kind = .function from ok.kind]; rfl))
    have hsb : Heap.SameBut F.env.locals s'.heap h' := hsb
    refine ⟨m, hm.sameBut hsb hLC, fun h₂ hs₂ => ?_⟩
    exact Inv.storeZ (F := F.up b r) (Z := [C]) ok hy I x rp fD fC nC dC _ h₂ (.loc (hn.sameBut hs₂ (Ne.symm hLC)) (fin _ _ 0 _ hsb hs₂) (if_pos rfl) fun m' hm' z hz => (if_neg hz).trans (ns_uniq hm₁ hm' z))
  | some c =>
    obtain ⟨hk, hb⟩ := ho c rfl
    obtain ⟨ov, hc⟩ := I.cellAt hy
    have hcC : C ≠ c := fun q => by obtain ⟨o, ho, _⟩ := hc; rw [q, ho] at hC; cases hC
    refine wpAny_assign_Name (wpAny_storeName_cell ok.kind hk (ok.cel i y c hy).2.1 (hc.keeps x.2) fun h' hc' hsb => ?_)
    refine ⟨m, hm.sameBut hsb hcC, fun h₂ hs₂ => ?_⟩
    exact Inv.storeZ (F := F.up b r) (Z := [C]) ok hy I x rp fD fC nC dC s'.toks h₂ (.cel (hc'.sameBut hs₂ (Ne.symm hcC)) (fin _ _ 0 _ hsb hs₂) (ok.mine c hb))
theorem ex_assign_comp {y : Str} {np spos : PySem.Pos} {elt : PySem.Expr} {target iter : PySem.Expr} {ifs : List PySem.Expr} {gs : List Comprehension} {scope : Scope} {pos : PySem.Pos} {cl : List (Str × Addr)} {sp : List (Str × CSlot)} {l : List IV} {f : IV → List IV} {own : Bool} (i : Nat) {acc : Option Addr}
    (hy : F.slots[i]? = some (y, acc)) (ho : Own F y acc) (hsw : swapsWith (.ListComp elt (⟨target, iter, ifs, 0⟩ :: gs) scope pos) (some (.Name y np)) spos.line F.env = pure true) (J : CompJ prog w F ρ k elt ⟨target, iter, ifs, 0⟩ gs scope cl sp l f) :
    ExS prog w F ρ k (exec (.Assign [.Name y np] (.ListComp elt (⟨target, iter, ifs, 0⟩ :: gs) scope pos) spos) F.env) (Only (ρ.set i (.list (l.flatMap f), own))) := ex_assign_compW (Weaker.refl _) i hy ho hsw J
end
variable {prog : Program} {w : World}
section
variable {F : Fm} {ρ : Rho} {k : Nat} {P : Fl → Rho → Prop}

/-- the value at a slot -/
def At' (F : Fm) (s : Shared) (x : Str) (acc : Option Addr) (ov : Option Value) : Prop := match acc with | none => ∃ m, s.heap.Ns F.env.locals m ∧ ov = m x | some c => s.heap.IsCell c ov
theorem name_wp {A : Around} {s : Shared} {x : Str} {pos : PySem.Pos} {acc : Option Addr} {v : Value} {i : Nat} {Q E : Value → Shared → Prop} (ok : FmOk F) (hs : F.slots[i]? = some (x, acc)) (h : At' F s x acc (some v)) (hQ : Q v s) (hd : (x == ("__debug__" : Str)) = false)
    (hn : (x == ("__classdict__" : Str)) = false) : wpAny (model prog w) A (eval (.Name x pos) F.env) Q E s := by
  cases acc with
  | none =>
    obtain ⟨m, hm, e1⟩ := h
    exact wpAny_Name (wpAny_loadName_local ok.kind (ok.loc i x hs) hm e1.symm hQ) hd
  | some c =>
    obtain ⟨hk, hc, _⟩ := ok.cel i x c hs
    rcases hk with hk | hk
    · exact wpAny_Name (wpAny_loadName_cell ok.kind hk hc h hQ) hd
    · exact wpAny_Name (wpAny_loadName_free ok.kind hk hc h hQ hn) hd
/-- a change of what an owned slot bears -/
theorem Inv.mut {G : Fm} {s : Shared} {i : Nat} {x : Str} {acc : Option Addr} {p : PV} (ok : FmOk G) (I : Inv prog w G ρ s) (hs : G.slots[i]? = some (x, acc)) (hr : ρ[i]? = some (p, true)) : ∃ ov fp, At' G s x acc ov ∧ RepO prog w s.heap p ov fp ∧
    ∀ (s₁ : Shared) (h' : Heap) (t : Nat) (p' : PV), Ext s s₁ → Chg fp s₁.heap h' → RepO prog w h' p' ov fp → Inv prog w G (ρ.set i (p', true)) { s₁ with heap := h', toks := t } := by
  have I0 := I
  obtain ⟨kk, gg, oo, ln, rs, ac, m, hm, fp, a, c⟩ := I
  obtain ⟨ov, h3, h4, h5⟩ := a i x acc p true hs hr
  have hat : At' G s x acc ov := by
    cases acc with
    | none => exact ⟨m, hm, h3⟩
    | some cc => exact h3
  refine ⟨ov, fp i, hat, h4, fun s₁ h' t p' e ch rp => ?_⟩
  have old : ∀ (j : Nat) (q : PV × Bool), ρ[j]? = some q → ∀ z ∈ fp j, ∃ o, s.heap.get? z = some o := fun j q hq => by
    obtain ⟨y, ac, hy⟩ := I0.slotAt hq
    obtain ⟨ov, _, h4, _⟩ := a j y ac q.1 q.2 hy hq
    exact h4.stands
  have nt : ∀ z ∈ fp i, NT s₁.heap z := by
    have h4 := h4.keep e.2
    cases ov with
    | none => intro z hz; cases p <;> first | exact h4.elim | (rw [show fp i = [] from h4] at hz; cases hz)
    | some v =>
      have : Rep prog w s₁.heap p v (fp i) := by cases p <;> exact h4
      exact this.nt
  have hself := c i p hr
  have hLn : G.env.locals ∉ fp i := fun q => (h5 _ q).1.1 rfl
  refine ⟨fun z o ho => ch z o (fun q => by rw [(hself z q).1] at ho; cases ho) (e.2 _ _ (kk z o ho)), e.gens.trans gg, e.os.trans oo, by rw [List.length_set]; exact ln, fun z hz => ?_, fun d hd => acc_chg ch (fun q => (h5 d q).1.2 (.inr hd)) ⟨let ⟨o, ho⟩ := (ac d hd).1; ⟨o, e.2 _ _ ho⟩, (ac d hd).2.keep e.2 (ac d hd).1⟩, m,
    hm.at' fun o ho => ch _ o hLn (e.2 _ _ ho), fp, fun j y acc' q own h1 h2 => ?_, fun j q h1 z hz => ?_⟩
  · obtain ⟨o, ho⟩ := rs z hz
    exact ⟨o, ch z o (fun q => (h5 z q).1.2 (.inl hz)) (e.2 _ _ ho)⟩
  · by_cases hj : j = i
    · subst hj
      obtain ⟨rfl, rfl⟩ : q = p' ∧ own = true := by have := set_at h2; exact ⟨congrArg Prod.fst this, congrArg Prod.snd this⟩
      rw [hs] at h1
      cases h1
      refine ⟨ov, ?_, rp, h5⟩
      cases acc with
      | none => exact h3
      | some cc => exact let ⟨o, ho, hd⟩ := h3; ⟨o, ch _ o (fun q => (h5 _ q).2 j x cc hs rfl) (e.2 _ _ ho), hd⟩
    · rw [set_ne hj] at h2
      obtain ⟨ov', h6, h7, h8⟩ := a j y acc' q own h1 h2
      refine ⟨ov', ?_, (h7.keep e.2).chg ch (.inl nt) fun z hz q' => (hself z q').2 j _ hj h2 hz, h8⟩
      cases acc' with
      | none => exact h6
      | some cc => exact let ⟨o, ho, hd⟩ := h6; ⟨o, ch _ o (fun q => (h5 _ q).2 j y cc h1 rfl) (e.2 _ _ ho), hd⟩
  · by_cases hj : j = i
    · subst hj
      refine ⟨(hself z hz).1, fun l q' hl hq' => ?_⟩
      rw [set_ne hl] at hq'
      exact (hself z hz).2 l q' hl hq'
    · rw [set_ne hj] at h1
      obtain ⟨c1, c2⟩ := c j q h1 z hz
      refine ⟨c1, fun l q' hl hq' => ?_⟩
      by_cases hli : l = i
      · subst hli
        exact c2 l (p, true) hl hr
      · rw [set_ne hli] at hq'
        exact c2 l q' hl hq'

/-- a method call of a built-in type -/
theorem meth_wp {A : Around} {s : Shared} {o : PySem.Expr} {name : Str} {apos pos : PySem.Pos} {es : List PySem.Expr} {T id : String} {Q E : Value → Shared → Prop} (hb : attributeBase o name F.env (eval o F.env) = eval o F.env) (hs : starEach es F.env = plainArgs es F.env) (hl : (apos.endLine == pos.line) = true) (hlen : es.length < 30)
    (m : MethOk T name id) (h : wpAny (model prog w) A (eval o F.env) (fun ov s₁ => s₁.TypeIs ov T ∧ (∀ a, ov = .ref a → ∃ ob, s₁.heap.get? a = some ob ∧ ob.dict = none) ∧
      wpAny (model prog w) A (spliced (plainArgs es F.env)) (fun vs s₂ => wpAny (model prog w) A (PySem.call (.builtin id) (ov :: vs)) Q E s₂) E s₁) E s) : wpAny (model prog w) A (eval (.Call (.Attribute o name apos) es [] pos) F.env) Q E s := by
  refine wpAny_Call_method_lateS hb ?_ hl ?_
  · rw [hs, backTo_plain]
    have e1 : ∀ es : List PySem.Expr, (plainArgs es F.env).all (fun x => !x.1) = true := fun es => by induction es with
      | nil => rfl
      | cons e es ih => exact ih
    rw [e1]
    simp [backToKw, keywordEach, hlen]
  · rw [hs, backTo_plain]
    refine wpAny_mono h (fun ov s₁ ⟨t, nd, h⟩ => ?_) fun _ _ e => e
    exact ⟨T, id, m.pa, m.slot, m.ty, t, nd, callWith_val (plainArgs_any _ _) (fun b e => nomatch e) h⟩
abbrev m_append : MethOk "list" "append" "list.append" := ⟨PySem.F.plainAttrs_list, PySem.F.slot_list_append, type_list_append, by decide⟩
theorem ex_append {x : Str} {np apos pos spos : PySem.Pos} {e : PySem.Expr} {l : List IV} {y : IV} {fr : Bool} (i : Nat) {acc : Option Addr} (hs : F.slots[i]? = some (x, acc)) (hr : ρ[i]? = some (.list l, true)) (hy : EvJ prog w F ρ k e (.iv y) fr) (hsz : l.length ≤ sizeLine)
    (hse : starEach [e] F.env = plainArgs [e] F.env) (hl : (apos.endLine == pos.line) = true) (hat : attributeBase (.Name x np) "append" F.env (eval (.Name x np) F.env) = eval (.Name x np) F.env) (hi : interactive F.env = false := by rfl) (hd : (x == ("__debug__" : Str)) = false := by decide)
    (hn : (x == ("__classdict__" : Str)) = false := by decide) : ExS prog w F ρ k (exec (.Expr (.Call (.Attribute (.Name x np) "append" apos) [e] [] pos) spos) F.env) (Only (ρ.set i (.list (l ++ [y]), true))) := fun b r lf ok A s rm I => by
  obtain ⟨ov, fp, hat', hrep, hmut⟩ := I.mut ok hs hr
  cases ov with
  | none => exact hrep.elim
  | some v =>
    obtain ⟨L, vs, rfl, hL, hvs, rfl⟩ := hrep
    refine wpAny_Expr_any (meth_wp hat hse hl (by simp) m_append (name_wp (F := F.up b r) ok hs hat' ?_ hd hn)) hi
    refine ⟨hL.isList.typeIs, fun a ea => ?_, ?_⟩
    · cases ea
      obtain ⟨o, n, ho, _, hdn, _⟩ := hL
      exact ⟨o, ho, hdn⟩
    · refine Calls.spliced_cons (wpAny_mono (hy A s rm (I.down lf)) (fun v s₁ ⟨x₁, fp, r₁, _⟩ => Calls.spliced_nil ?_) fun _ _ e => e)
      refine wp_append (hL.keeps x₁.2) (by rw [List.size_toArray, hvs.length]; exact hsz) fun h' hl' hs' => ?_
      have ch : Chg [L] s₁.heap h' := Chg.of_sameBut hs'
      have nt : ∀ a ∈ [L], NT s₁.heap a := fun a ha => by rw [List.mem_singleton.mp ha]; exact NT.list (hL.keeps x₁.2)
      refine ⟨.next, _, ⟨rfl, rfl⟩, hmut s₁ h' s₁.toks _ x₁ ch ⟨L, vs ++ [v], rfl, by rw [← List.push_toArray]; exact hl', ?_, rfl⟩, trivial⟩
      exact IVs.append ((hvs.keep x₁.2).chg ch (.inl nt)) ⟨IV.chg ch (.inl nt) r₁.1, trivial⟩
end
variable {prog : Program} {w : World}
section
variable {F : Fm} {ρ ρ₁ : Rho} {k : Nat} {P : Fl → Rho → Prop}
theorem ex_weak {t : Sem Flow} (hw : Weaker ρ ρ₁) (h : ExS prog w F ρ₁ k t P) : ExS prog w F ρ k t P := fun b r lf ok A s rm I => h b r lf ok A s rm (I.weak hw)
/-- x += e, on strs -/
theorem ex_aug_str {x : Str} {np pos : PySem.Pos} {e : PySem.Expr} {a c : Str} {own own' fr : Bool} (i : Nat) (hs : F.slots[i]? = some (x, none)) (hr : ρ[i]? = some (.str a, own)) (he : EvJ prog w F ρ k e (.str c) fr) (hsz : a.length + c.length ≤ sizeLine) :
    ExS prog w F ρ k (exec (.AugAssign (.Name x np) .Add e pos) F.env) (Only (ρ.set i (.str (a ++ c), own'))) := fun b r lf ok A s rm I => by
  obtain ⟨m, hm, fp, aa, cc⟩ := I.sl
  obtain ⟨ov, h3, h4, _⟩ := aa i x none _ own hs hr
  have h3 : ov = m x := h3
  subst h3
  cases hv : m x with
  | none => rw [hv] at h4; exact h4.elim
  | some v =>
    rw [hv] at h4
    obtain ⟨⟨t, rfl⟩, _⟩ := h4
    refine wpAny_AugAssign_Name (wpAny_loadName_local ok.kind (ok.loc i x hs) hm hv ?_)
    refine wpAny_mono (he A s rm (I.down lf)) (fun v s₁ ⟨x₁, fp, ⟨⟨u, e1⟩, _⟩, _⟩ => ?_) fun _ _ e => e
    subst e1
    refine SB.iadd (fun t' k' => ?_) hsz
    exact store_wp (F := F.up b r) (s₀ := s₁) (p := .str (a ++ c)) (fpn := []) ok hs own_none (I.ext x₁) (Ext.tok s₁ k') ⟨⟨t', rfl⟩, rfl⟩ (fun z hz => nomatch hz) fun s' I' => ⟨.next, _, ⟨rfl, rfl⟩, I', trivial⟩
end
variable {prog : Program} {w : World}
section
variable {k : Nat} {base : Addr → Option Obj} {B : Addr → Option Obj}
theorem giv_str {s : Shared} {x : Str} {t : Tok} {n : Nat} {fr : Bool} : Gives' prog w (.str x) fr s (.str x t) { s with toks := n } := ⟨Ext.tok s n, [], ⟨⟨t, rfl⟩, rfl⟩, fun _ a ha => nomatch ha⟩
theorem giv_int {s : Shared} {x : Int} {t : Tok} {n : Nat} {fr : Bool} : Gives' prog w (.int x) fr s (.int x t) { s with toks := n } := ⟨Ext.tok s n, [], ⟨⟨t, rfl⟩, rfl⟩, fun _ a ha => nomatch ha⟩
theorem giv_bool {s : Shared} {x : Bool} {fr : Bool} : Gives' prog w (.bool x) fr s (.bool x) s := ⟨Ext.refl s, [], ⟨rfl, rfl⟩, fun _ a ha => nomatch ha⟩
theorem giv_none {s : Shared} {fr : Bool} : Gives' prog w .none fr s .none s := ⟨Ext.refl s, [], ⟨rfl, rfl⟩, fun _ a ha => nomatch ha⟩
theorem op_add_str {x y : Str} (h : x.length + y.length ≤ sizeLine) : Op2 (prog := prog) (w := w) k (binaryOp .Add) (.str x) (.str y) (.str (x ++ y)) true := fun A s a b fa fb rm g ⟨⟨t, e1⟩, _⟩ ⟨⟨u, e2⟩, _⟩ => by
  subst e1 e2; exact SB.add (fun t' n => giv_str) h
theorem op_mul_str {x : Str} {n : Int} (h : MulOk x n) : Op2 (prog := prog) (w := w) k (binaryOp .Mult) (.str x) (.int n) (.str (Txt.mul x n)) true := fun A s a b fa fb rm g ⟨⟨t, e1⟩, _⟩ ⟨⟨u, e2⟩, _⟩ => by
  subst e1 e2; exact SB.mul h (fun t' n => giv_str)
theorem op_add_int {x y : Int} : Op2 (prog := prog) (w := w) k (binaryOp .Add) (.int x) (.int y) (.int (x + y)) true := fun A s a b fa fb rm g ⟨⟨t, e1⟩, _⟩ ⟨⟨u, e2⟩, _⟩ => by
  subst e1 e2; exact P.add_int giv_int
theorem op_sub_int {x y : Int} : Op2 (prog := prog) (w := w) k (binaryOp .Sub) (.int x) (.int y) (.int (x - y)) true := fun A s a b fa fb rm g ⟨⟨t, e1⟩, _⟩ ⟨⟨u, e2⟩, _⟩ => by
  subst e1 e2; exact P.sub_int giv_int
theorem op_mod_int {x y : Int} (h : y ≠ 0) : Op2 (prog := prog) (w := w) k (binaryOp .Mod) (.int x) (.int y) (.int (x.fmod y)) true := fun A s a b fa fb rm g ⟨⟨t, e1⟩, _⟩ ⟨⟨u, e2⟩, _⟩ => by
  subst e1 e2; exact mod_int h giv_int
theorem op_eq_str {x y : Str} : Op2 (prog := prog) (w := w) k (compareOp .Eq) (.str x) (.str y) (.bool (x == y)) true := fun A s a b fa fb rm g ⟨⟨t, e1⟩, _⟩ ⟨⟨u, e2⟩, _⟩ => by
  subst e1 e2
  have e : (x.cps.toList == y.cps.toList) = (x == y) := by
    rw [Bool.eq_iff_iff, beq_iff_eq, beq_iff_eq]
    exact ⟨fun h => by obtain ⟨a⟩ := x; obtain ⟨b⟩ := y; simpa using congrArg List.toArray h, fun h => by rw [h]⟩
  exact P.eq_str (e ▸ giv_bool)
theorem op_ne_str {x y : Str} : Op2 (prog := prog) (w := w) k (compareOp .NotEq) (.str x) (.str y) (.bool (x != y)) true := fun A s a b fa fb rm g ⟨⟨t, e1⟩, _⟩ ⟨⟨u, e2⟩, _⟩ => by
  subst e1 e2
  have e : (x.cps.toList == y.cps.toList) = (x == y) := by
    rw [Bool.eq_iff_iff, beq_iff_eq, beq_iff_eq]
    exact ⟨fun h => by obtain ⟨a⟩ := x; obtain ⟨b⟩ := y; simpa using congrArg List.toArray h, fun h => by rw [h]⟩
  have e' : (x.cps.toList != y.cps.toList) = (x != y) := congrArg (!·) e
  exact P.ne_str (e' ▸ giv_bool)
theorem op_in_str {x y : Str} : Op2 (prog := prog) (w := w) k (compareOp .In) (.str y) (.str x) (.bool (Txt.contains x y)) true := fun A s a b fa fb rm g ⟨⟨t, e1⟩, _⟩ ⟨⟨u, e2⟩, _⟩ => by
  subst e1 e2; exact SB.contains giv_bool
/-- methods of strs -/
abbrev m_lower : MethOk "str" "lower" "str.lower" := ⟨PySem.F.plainAttrs_str, PySem.F.slot_str_lower, PySem.F.type_str_lower, by decide⟩
abbrev m_upper : MethOk "str" "upper" "str.upper" := ⟨PySem.F.plainAttrs_str, PySem.F.slot_str_upper, PySem.F.type_str_upper, by decide⟩
abbrev m_lstrip : MethOk "str" "lstrip" "str.lstrip" := ⟨PySem.F.plainAttrs_str, PySem.F.slot_str_lstrip, PySem.F.type_str_lstrip, by decide⟩
abbrev m_startswith : MethOk "str" "startswith" "str.startswith" := ⟨PySem.F.plainAttrs_str, PySem.F.slot_str_startswith, PySem.F.type_str_startswith, by decide⟩
abbrev m_split : MethOk "str" "split" "str.split" := ⟨PySem.F.plainAttrs_str, PySem.F.slot_str_split, PySem.F.type_str_split, by decide⟩
abbrev m_join : MethOk "str" "join" "str.join" := ⟨PySem.F.plainAttrs_str, PySem.F.slot_str_join, PySem.F.type_str_join, by decide⟩
theorem reps1 {h : Heap} {p : PV} {vs : List Value} (r : Reps prog w h [p] vs) : ∃ v, vs = [v] ∧ ∃ fp, Rep prog w h p v fp := by
  match vs, r with
  | [v], ⟨⟨fp, a⟩, _⟩ => exact ⟨v, rfl, fp, a⟩
  | [], r => exact r.elim
  | _ :: _ :: _, ⟨_, r⟩ => exact r.elim
theorem reps2 {h : Heap} {p q : PV} {vs : List Value} (r : Reps prog w h [p, q] vs) : ∃ v u, vs = [v, u] ∧ (∃ fp, Rep prog w h p v fp) ∧ ∃ fp, Rep prog w h q u fp := by
  match vs, r with
  | [v, u], ⟨a, b, _⟩ => exact ⟨v, u, rfl, a, b⟩
  | [], r => exact r.elim
  | [_], ⟨_, r⟩ => exact r.elim
  | _ :: _ :: _ :: _, ⟨_, _, r⟩ => exact r.elim
abbrev strsIV (l : List Str) : List IV := l.map fun x => .at (.str x)
abbrev intsIV (l : List Int) : List IV := l.map fun x => .at (.int x)
abbrev boolsIV (l : List Bool) : List IV := l.map fun x => .at (.bool x)
theorem ivs_strs {h : Heap} : ∀ {l : List Str} {vs : List Value}, IVs h (strsIV l) vs → StrsAre vs l
  | [], [], _ => .nil
  | x :: l, v :: vs, ⟨⟨t, e⟩, b⟩ => by subst e; exact .cons x t (ivs_strs b)
  | [], _ :: _, e => e.elim
  | _ :: _, [], e => e.elim
theorem strs_ivs {h : Heap} : ∀ {l : List Str} {vs : List Value}, StrsAre vs l → IVs h (strsIV l) vs
  | _, _, .nil => trivial
  | _, _, .cons x t r => ⟨⟨t, rfl⟩, strs_ivs r⟩
theorem strs_vals : ∀ {l : List Str} {vs : List Value}, StrsAre vs l → ∃ tl : List (Str × Tok), vs = strValues tl ∧ tl.map (·.1) = l
  | _, _, .nil => ⟨[], rfl, rfl⟩
  | _, _, .cons x t r => let ⟨tl, h1, h2⟩ := strs_vals r; ⟨(x, t) :: tl, by rw [h1]; rfl, by rw [← h2]; rfl⟩
theorem vals_strs {h : Heap} : ∀ (tl : List (Str × Tok)), IVs h (strsIV (tl.map (·.1))) (strValues tl)
  | [] => trivial
  | (x, t) :: tl => ⟨⟨t, rfl⟩, vals_strs tl⟩
theorem ints_vals {h : Heap} : ∀ {l : List Int} {vs : List Value}, IVs h (intsIV l) vs → ∃ tl : List (Int × Tok), vs.toArray = intItems tl.toArray ∧ tl.map (·.1) = l
  | [], [], _ => ⟨[], by simp [intItems], rfl⟩
  | x :: l, v :: vs, ⟨⟨t, e⟩, b⟩ => by
    obtain ⟨tl, h1, h2⟩ := ints_vals b
    refine ⟨(x, t) :: tl, ?_, by rw [← h2]; rfl⟩
    subst e
    have h3 : vs = (intItems tl.toArray).toList := by rw [← h1]
    rw [h3]; simp [intItems]
  | [], _ :: _, e => e.elim
  | _ :: _, [], e => e.elim
theorem giv_list {s : Shared} {l : List IV} {vs : List Value} {n : Nat} {o : Obj} (hc : o.cls = .type "list") (hd : o.dict = none) (hs : ∃ k, o.data = .seq vs.toArray k) (hv : IVs s.heap l vs) : Gives' prog w (.list l) true s (.ref s.heap.objs.size) { s with heap := s.heap.push o, toks := n } := by
  obtain ⟨k, hk⟩ := hs
  have hf : o.isFreed = false := Obj.isFreed_of_seq hk
  exact ⟨Ext.push s o n, [s.heap.objs.size], ⟨_, vs, rfl, ⟨o, k, Heap.get?_push_size _ hf, hc, hd, hk⟩, hv.keep (Ext.push s o n).2, rfl⟩, fun _ a ha => by rw [List.mem_singleton.mp ha]; exact fresh_size (Ext.refl s) (Nat.le_refl _)⟩
theorem c_lower {x : Str} (h : Builtin.Str.tooLong (Txt.lower x).length = false) : CallP prog w base k (.builtin "str.lower") [.str x] (.str (Txt.lower x)) true := fun A s vs rm g bk r => by
  obtain ⟨v, rfl, fp, ⟨t, rfl⟩, _⟩ := reps1 r
  exact SC.lower h giv_str
theorem c_upper {x : Str} (h : Builtin.Str.tooLong (Txt.upper x).length = false) : CallP prog w base k (.builtin "str.upper") [.str x] (.str (Txt.upper x)) true := fun A s vs rm g bk r => by
  obtain ⟨v, rfl, fp, ⟨t, rfl⟩, _⟩ := reps1 r
  exact SC.upper h giv_str
theorem c_lstrip {x y : Str} (hsz : x.length ≤ sizeLine) : CallP prog w base k (.builtin "str.lstrip") [.str x, .str y] (.str (Txt.lstripChars x y)) true := fun A s vs rm g bk r => by
  obtain ⟨v, u, rfl, ⟨fp, ⟨t, rfl⟩, _⟩, ⟨fp', ⟨t', rfl⟩, _⟩⟩ := reps2 r
  exact SC.lstripChars (fun t' n => giv_str) hsz
theorem c_join {x : Str} {l : List Str} (h : JoinOk x l = true) : CallP prog w base k (.builtin "str.join") [.str x, .list (strsIV l)] (.str (Txt.join x l)) true := fun A s vs rm g bk r => by
  obtain ⟨v, u, rfl, ⟨fp, ⟨t, rfl⟩, _⟩, ⟨fp', L, us, rfl, hl, hi, _⟩⟩ := reps2 r
  obtain ⟨tl, e1, e2⟩ := strs_vals (ivs_strs hi)
  exact SC.join (l := tl) (by rw [← e1]; exact hl.isList) e2 h (fun t' n => giv_str)
open Builtin.Str in
theorem c_split {x y : Str} (hy : (y.length == 0) = false) (hsz : x.length ≤ sizeLine) (hsz2 : (partsBetween x (occurrences x y 0 x.length (x.length + 1)) y.length).length ≤ sizeLine) :
    CallP prog w base k (.builtin "str.split") [.str x, .str y] (.list (strsIV (Txt.split x y))) true := fun A s vs rm g bk r => by
  obtain ⟨v, u, rfl, ⟨fp, ⟨t, rfl⟩, _⟩, ⟨fp', ⟨u, rfl⟩, _⟩⟩ := reps2 r
  cases h1 : (decide (x.length < y.length) || decide (Builtin.Str.strKind x < Builtin.Str.strKind y))
  · cases hf : (occurrences x y 0 x.length (x.length + 1)).isEmpty
    · refine call_meets PySem.F.slot_str_split (typeIs_str _ _ _) PySem.F.entry_str_split (PySem.F.args_str_split_2 _ _) (meets_str_split_sep x y t u h1 hy hf hsz hsz2) ?_
      have e : Txt.split x y = (numbered s.toks (partsBetween x (occurrences x y 0 x.length (x.length + 1)) y.length)).map (·.1) := ((numbered_texts _ _).trans ((if_neg (ne_true_of_eq_false h1)).trans (if_neg (ne_true_of_eq_false hf))).symm).symm
      rw [e]
      show wants _ No _ { s with toks := _, heap := s.heap.push { cls := .type "list", data := .seq (strsFrom s.toks (partsBetween x (occurrences x y 0 x.length (x.length + 1)) y.length)).toArray } }
      rw [strsFrom_eq]
      exact giv_list rfl rfl ⟨_, rfl⟩ (vals_strs _)
    · have e : Txt.split x y = [x] := (if_neg (ne_true_of_eq_false h1)).trans (if_pos hf)
      rw [e]
      exact call_meets PySem.F.slot_str_split (typeIs_str _ _ _) PySem.F.entry_str_split (PySem.F.args_str_split_2 _ _) (meets_str_split_not_found x y t u h1 hy hf) (giv_list (n := s.toks) (vs := [.str x t]) rfl rfl ⟨_, rfl⟩ ⟨⟨t, rfl⟩, trivial⟩)
  · have e : Txt.split x y = [x] := if_pos h1
    rw [e]
    exact call_meets PySem.F.slot_str_split (typeIs_str _ _ _) PySem.F.entry_str_split (PySem.F.args_str_split_2 _ _) (meets_str_split_cannot_occur x y t u h1) (giv_list (n := s.toks) (vs := [.str x t]) rfl rfl ⟨_, rfl⟩ ⟨⟨t, rfl⟩, trivial⟩)
theorem c_ord {c : Nat} : CallP prog w base k (.builtin "ord") [.str ⟨#[c]⟩] (.int c) true := fun A s vs rm g bk r => by
  obtain ⟨v, rfl, fp, ⟨t, rfl⟩, _⟩ := reps1 r
  exact P.ord_of_char giv_int
theorem c_sum {l : List Int} : CallP prog w base k (.builtin "sum") [.list (intsIV l)] (.int l.sum) true := fun A s vs rm g bk r => by
  obtain ⟨v, rfl, fp, L, us, rfl, hl, hi, _⟩ := reps1 r
  obtain ⟨tl, e1, e2⟩ := ints_vals hi
  refine sum_intListG rm.handled (xs := tl.toArray) (by rw [← e1]; exact hl.isList) fun h' tk t' hk => ?_
  have e3 : preSum (numAt tl.toArray) tl.toArray.size = l.sum := by
    rw [preSum_eq, List.take_of_length_le (by simp), ← e2]
  rw [e3]
  exact ⟨⟨⟨rfl, rfl⟩, hk⟩, [], ⟨⟨t', rfl⟩, rfl⟩, fun _ a ha => nomatch ha⟩
theorem bools_val {h : Heap} {l : List Bool} {vs : List Value} (hi : IVs h (boolsIV l) vs) {i : Nat} {v : Value} (hv : vs.toArray[i]? = some v) : v = .bool (l.getD i false) := by
  have hlen := hi.length
  have hlt : i < l.length := by
    have := (Array.getElem?_eq_some_iff.mp hv).1
    rw [List.size_toArray, hlen] at this
    simpa using this
  obtain ⟨v', h1, h2⟩ := hi.get (i := i) (x := .at (.bool l[i])) (by simp [hlt])
  have : v' = v := by simp at hv; rw [h1] at hv; exact Option.some.inj hv
  subst this
  have h2 : v' = .bool l[i] := h2
  rw [h2]; simp [hlt]
theorem range_any {l : List Bool} : (List.range l.length).any (fun i => l.getD i false) = l.any id := by
  rw [Bool.eq_iff_iff, List.any_eq_true, List.any_eq_true]
  constructor
  · rintro ⟨i, hi, h⟩
    have hi : i < l.length := List.mem_range.mp hi
    exact ⟨l[i], List.getElem_mem hi, by simpa [hi] using h⟩
  · rintro ⟨x, hx, h⟩
    obtain ⟨i, hi, rfl⟩ := List.mem_iff_getElem.mp hx
    exact ⟨i, List.mem_range.mpr hi, by simpa [hi] using h⟩
theorem range_all {l : List Bool} : (List.range l.length).all (fun i => l.getD i false) = l.all id := by
  rw [Bool.eq_iff_iff, List.all_eq_true, List.all_eq_true]
  constructor
  · intro h x hx
    obtain ⟨i, hi, rfl⟩ := List.mem_iff_getElem.mp hx
    have := h i (List.mem_range.mpr hi)
    simpa [hi] using this
  · intro h i hi
    have hi : i < l.length := List.mem_range.mp hi
    have := h l[i] (List.getElem_mem hi)
    simpa [hi] using this
theorem c_any {l : List Bool} : CallP prog w base k (.builtin "any") [.list (boolsIV l)] (.bool (l.any id)) true := fun A s vs rm g bk r => by
  obtain ⟨v, rfl, fp, L, us, rfl, hl, hi, _⟩ := reps1 r
  refine call_any_walk (wpAny_pyIter_list hl.isList ?_)
  have hL : L ≠ s.heap.objs.size := by obtain ⟨o, _, ho, _⟩ := hl; exact Nat.ne_of_lt (Heap.lt_size ho)
  refine ⟨_, _, _, _, _, _, fun i => l.getD i false, rfl, Walks.list (A := A.in1) (by exact rm.handled) _ L hL us.toArray, ⟨⟨_, Heap.get?_push_size _ rfl, rfl, rfl⟩, hl.isList.push _⟩, fun i v s' Q E hv hq => ?_, fun h' tk hk => ?_⟩
  · rw [bools_val hi hv]; exact wpAny_truthy_bool hq
  · rw [List.size_toArray, hi.length, List.length_map, range_any]
    refine ⟨⟨⟨rfl, rfl⟩, fun b o e => hk b o (by simp; exact Nat.ne_of_lt (Heap.lt_size e)) (Heap.get?_push_of_some _ e)⟩, [], ⟨rfl, rfl⟩, fun _ a ha => nomatch ha⟩
theorem c_all {l : List Bool} : CallP prog w base k (.builtin "all") [.list (boolsIV l)] (.bool (l.all id)) true := fun A s vs rm g bk r => by
  obtain ⟨v, rfl, fp, L, us, rfl, hl, hi, _⟩ := reps1 r
  refine call_all_walk (wpAny_pyIter_list hl.isList ?_)
  have hL : L ≠ s.heap.objs.size := by obtain ⟨o, _, ho, _⟩ := hl; exact Nat.ne_of_lt (Heap.lt_size ho)
  refine ⟨_, _, _, _, _, _, fun i => l.getD i false, rfl, Walks.list (A := A.in1) (by exact rm.handled) _ L hL us.toArray, ⟨⟨_, Heap.get?_push_size _ rfl, rfl, rfl⟩, hl.isList.push _⟩, fun i v s' Q E hv hq => ?_, fun h' tk hk => ?_⟩
  · rw [bools_val hi hv]; exact wpAny_truthy_bool hq
  · rw [List.size_toArray, hi.length, List.length_map, range_all]
    refine ⟨⟨⟨rfl, rfl⟩, fun b o e => hk b o (by simp; exact Nat.ne_of_lt (Heap.lt_size e)) (Heap.get?_push_of_some _ e)⟩, [], ⟨rfl, rfl⟩, fun _ a ha => nomatch ha⟩
end
variable {prog : Program} {w : World}
section
variable {F : Fm} {ρ : Rho} {k : Nat}
theorem sub_wp {A : Around} {s : Shared} {value slice : PySem.Expr} {pos : PySem.Pos} {Q E : Value → Shared → Prop} {env : Env}
    (h : wpAny (model prog w) A (eval value env) (fun o s₁ => wpAny (model prog w) A (eval slice env) (fun i s₂ => ∃ T id, typeLookup (.type T) "__getitem__" = pure (some (.builtin id)) ∧ s₂.TypeIs o T ∧ wpAny (model prog w) A (getItem o i) Q E s₂) E s₁) E s) :
    wpAny (model prog w) A (eval (.Subscript value slice pos) env) Q E s := by
  rw [eval_Subscript]
  refine wpAny_bind (wpAny_mono h (fun o s₁ h₁ => wpAny_bind (wpAny_holding (wpAny_mono h₁ (fun i s₂ h₂ => wpAny_bind (wpAny_standAt ?_)) fun _ _ x => x))) fun _ _ x => x)
  obtain ⟨T, id, hl, hT, hg⟩ := h₂
  refine wpAny_bind ?_
  rw [getitemInPython_of_ne hT.not_modules]
  refine wpAny_bind (wpAny_specialOf hT hl (wpAny_pure ?_))
  have fin : ∀ l, wpAny (model prog w) A (operate l (getItem o i)) (fun r s₃ => wpAny (model prog w) A (letTemporaryGo value o r >>= fun _ => pure r) Q E s₃) E s₂ := fun l =>
    wpAny_operating (wpAny_mono hg (fun r s₃ h₃ => wpAny_bind (wpAny_letTemporaryGo (wpAny_pure h₃))) fun _ _ x => x)
  refine wpAny_bind ?_
  unfold subscripted
  split
  · exact fin _
  · rename_i hb; cases hb
  · exact fin _
theorem seqIx {n m : Nat} (h : n < m) : seqIndex? (n : Int) m = some n := by
  unfold seqIndex?; simp; omega
theorem ev_sub_list {e i : PySem.Expr} {pos : PySem.Pos} {l : List IV} {n : Nat} {x : IV} {f1 f2 fr : Bool} (he : EvJ prog w F ρ k e (.list l) f1) (hi : EvJ prog w F ρ k i (.int n) f2) (hx : l[n]? = some x) (hn : n < 2 ^ 62) : EvJ prog w F ρ k (.Subscript e i pos) (.iv x) fr := fun A s rm I => by
  refine sub_wp (wpAny_mono (he A s rm I) (fun o s₁ ⟨x₁, fp, ⟨L, vs, e1, hl, hv, _⟩, _⟩ => ?_) fun _ _ e => e)
  subst e1
  refine wpAny_mono (hi A s₁ rm (I.ext x₁)) (fun j s₂ ⟨x₂, fp₂, ⟨⟨t, e2⟩, _⟩, _⟩ => ?_) fun _ _ e => e
  subst e2
  have hl₂ := (hl.keeps x₂.2).isList
  obtain ⟨v, h1, h2⟩ := (hv.keep x₂.2).get hx
  refine ⟨"list", _, list_getitem_lookup, hl₂.typeIs, wpAny_getItem_list hl₂ (Int.natCast_nonneg n) (by omega) (x := v) (by simpa using h1) ?_⟩
  exact ⟨x₁.trans x₂, [], ⟨h2, rfl⟩, fun _ a ha => nomatch ha⟩
theorem ev_sub_tup {e i : PySem.Expr} {pos : PySem.Pos} {l : List At} {n : Nat} {x : At} {f1 f2 fr : Bool} (he : EvJ prog w F ρ k e (.tup l) f1) (hi : EvJ prog w F ρ k i (.int n) f2) (hx : l[n]? = some x) (hn : n < 2 ^ 62) : EvJ prog w F ρ k (.Subscript e i pos) (.iv (.at x)) fr := fun A s rm I => by
  refine sub_wp (wpAny_mono (he A s rm I) (fun o s₁ ⟨x₁, fp, ⟨⟨L, vs, e1, hl, hv⟩, _⟩, _⟩ => ?_) fun _ _ e => e)
  subst e1
  refine wpAny_mono (hi A s₁ rm (I.ext x₁)) (fun j s₂ ⟨x₂, fp₂, ⟨⟨t, e2⟩, _⟩, _⟩ => ?_) fun _ _ e => e
  subst e2
  have hl₂ := hl.keeps x₂.2
  obtain ⟨v, h1, h2⟩ := hv.get hx
  have hlt : n < vs.toArray.size := by rw [List.size_toArray]; exact (List.getElem?_eq_some_iff.mp h1).1
  refine ⟨"tuple", _, slot_tuple_getitem.lookup, hl₂.typeIs, getItem_tuple hl₂ (by omega) (by omega) (j := n) (x := v) (seqIx hlt) (by simpa using h1) ?_⟩
  exact ⟨x₁.trans x₂, [], ⟨h2, rfl⟩, fun _ a ha => nomatch ha⟩
theorem ev_sub_str {e i : PySem.Expr} {pos : PySem.Pos} {y : Str} {n c : Nat} {f1 f2 fr : Bool} (he : EvJ prog w F ρ k e (.str y) f1) (hi : EvJ prog w F ρ k i (.int n) f2) (hx : y.cps[n]? = some c) (hn : n < 2 ^ 62) : EvJ prog w F ρ k (.Subscript e i pos) (.str ⟨#[c]⟩) fr := fun A s rm I => by
  refine sub_wp (wpAny_mono (he A s rm I) (fun o s₁ ⟨x₁, fp, ⟨⟨u, e1⟩, _⟩, _⟩ => ?_) fun _ _ e => e)
  subst e1
  refine wpAny_mono (hi A s₁ rm (I.ext x₁)) (fun j s₂ ⟨x₂, fp₂, ⟨⟨t, e2⟩, _⟩, _⟩ => ?_) fun _ _ e => e
  subst e2
  have hlt : n < y.length := (Array.getElem?_eq_some_iff.mp hx).1
  refine ⟨"str", _, PySem.F.slot_str_getitem.lookup, typeIs_str _ _ _, P.getItem_str (c := c) ?_ ?_ ?_⟩
  · rw [decide_eq_false (by omega), decide_eq_false (by omega)]; rfl
  · have : seqIndex? (n : Int) y.length = some n := by unfold seqIndex?; simp; omega
    rw [this]; exact hx
  · exact give_trans (x₁.trans x₂) giv_str
/-- a part of a slice -/
inductive PartJ (prog : Program) (w : World) (F : Fm) (ρ : Rho) (k : Nat) : Option PySem.Expr → Option Int → Prop
  | none : PartJ prog w F ρ k none none
  | some {e i fr} : EvJ prog w F ρ k e (.int i) fr → PartJ prog w F ρ k (some e) (some i)
def IsPt (v : Value) : Option Int → Prop
  | none => v = .none
  | some i => ∃ t, v = .int i t
theorem part_wp {e : Option PySem.Expr} {i : Option Int} (h : PartJ prog w F ρ k e i) : ∀ A s, Room k A → Inv prog w F ρ s → wpAny (model prog w) A (evalPart e F.env) (fun v s' => Ext s s' ∧ IsPt v i) No s := fun A s rm I => by
  cases h with
  | none => exact wpAny_pure ⟨Ext.refl s, rfl⟩
  | some h => exact wpAny_mono (h A s rm I) (fun v s' ⟨x, fp, ⟨t, _⟩, _⟩ => ⟨x, t⟩) fun _ _ e => e
theorem IsPt.part {v : Value} {i : Option Int} (h : IsPt v i) : IsPart v i := by
  cases i with
  | none => cases h; exact .none
  | some i => obtain ⟨t, rfl⟩ := h; exact .int i t
theorem IsPt.val {v : Value} {i : Option Int} (h : IsPt v i) : ∃ l : Option (Int × Tok), v = partValue l ∧ l.map (·.1) = i := by
  cases i with
  | none => cases h; exact ⟨none, rfl, rfl⟩
  | some i => obtain ⟨t, rfl⟩ := h; exact ⟨some (i, t), rfl, rfl⟩
theorem ev_slice_list {e : PySem.Expr} {lo hi st : Option PySem.Expr} {p pos : PySem.Pos} {l : List IV} {a b c : Option Int} {f1 : Bool} (he : EvJ prog w F ρ k e (.list l) f1) (h1 : PartJ prog w F ρ k lo a) (h2 : PartJ prog w F ρ k hi b) (h3 : PartJ prog w F ρ k st c) (hc : c ≠ some 0)
    (hsz : l.length ≤ sizeLine) : EvJ prog w F ρ k (.Subscript e (.Slice lo hi st p) pos) (.list ((sliceRange (sliceBounds a b c l.length).1 (sliceBounds a b c l.length).2.1 (sliceBounds a b c l.length).2.2).filterMap (l[·]?))) true := fun A s rm I => by
  refine sub_wp (wpAny_mono (he A s rm I) (fun o s₁ ⟨x₁, fp, ⟨L, vs, e1, hl, hv, _⟩, _⟩ => ?_) fun _ _ e => e)
  subst e1
  refine wpAny_Slice (wpAny_mono (part_wp h1 A s₁ rm (I.ext x₁)) (fun v1 s₂ ⟨x₂, p1⟩ => ?_) fun _ _ e => e)
  refine wpAny_mono (part_wp h2 A s₂ rm ((I.ext x₁).ext x₂)) (fun v2 s₃ ⟨x₃, p2⟩ => ?_) fun _ _ e => e
  refine wpAny_mono (part_wp h3 A s₃ rm (((I.ext x₁).ext x₂).ext x₃)) (fun v3 s₄ ⟨x₄, p3⟩ => ?_) fun _ _ e => e
  have x₅ : Ext s₄ { s₄ with heap := s₄.heap.push { cls := .type "slice", data := .fields #[v1, v2, v3] } } := Ext.push s₄ _ _
  have x15 := ((x₂.trans x₃).trans x₄).trans x₅
  have hl₅ := (hl.keeps x15.2).isList
  have ev : vs.toArray.size = l.length := by rw [List.size_toArray]; exact hv.length
  refine ⟨"list", _, list_getitem_lookup, hl₅.typeIs, wpAny_getItem_list_slice (lo := a) (hi := b) (st := c) hl₅ (Heap.IsSliceOf.new ..) p1.part p2.part p3.part hc ?_ (by rw [ev]; exact hsz)⟩
  refine give_trans (x₁.trans x15) ?_
  refine giv_list (vs := (slicePick vs.toArray a b c).toList) rfl rfl ⟨0, by rw [Array.toArray_toList]⟩ ?_
  have hv5 := hv.keep x15.2
  unfold slicePick
  rw [ev]
  show IVs _ _ ((List.filterMap _ _).toArray.toList)
  generalize sliceRange (sliceBounds a b c l.length).1 (sliceBounds a b c l.length).2.1 (sliceBounds a b c l.length).2.2 = idx
  have key : ∀ idx : List Nat, IVs (s₄.heap.push { cls := .type "slice", data := .fields #[v1, v2, v3] }) (idx.filterMap (l[·]?)) (idx.filterMap (vs.toArray[·]?)) := fun idx => by
    induction idx with
    | nil => trivial
    | cons n idx ih =>
      rw [List.filterMap_cons, List.filterMap_cons]
      cases hn : l[n]? with
      | none =>
        have : vs.toArray[n]? = none := by
          rw [List.getElem?_toArray]
          exact List.getElem?_eq_none (by rw [hv.length]; exact List.getElem?_eq_none_iff.mp hn)
        rw [this]; exact ih
      | some y =>
        obtain ⟨v, q1, q2⟩ := hv5.get hn
        rw [List.getElem?_toArray, q1]
        exact ⟨q2, ih⟩
  exact key idx
theorem ev_slice_str {e : PySem.Expr} {lo hi : Option PySem.Expr} {p pos : PySem.Pos} {y : Str} {a b : Option Int} {f1 fr : Bool} (he : EvJ prog w F ρ k e (.str y) f1) (h1 : PartJ prog w F ρ k lo a) (h2 : PartJ prog w F ρ k hi b)
    (hsz : y.length ≤ sizeLine) : EvJ prog w F ρ k (.Subscript e (.Slice lo hi none p) pos) (.str (Txt.slice y a b)) fr := fun A s rm I => by
  refine sub_wp (wpAny_mono (he A s rm I) (fun o s₁ ⟨x₁, fp, ⟨⟨u, e1⟩, _⟩, _⟩ => ?_) fun _ _ e => e)
  subst e1
  refine wpAny_Slice (wpAny_mono (part_wp h1 A s₁ rm (I.ext x₁)) (fun v1 s₂ ⟨x₂, p1⟩ => ?_) fun _ _ e => e)
  refine wpAny_mono (part_wp h2 A s₂ rm ((I.ext x₁).ext x₂)) (fun v2 s₃ ⟨x₃, p2⟩ => ?_) fun _ _ e => e
  refine wpAny_pure ?_
  have x₅ : Ext s₃ { s₃ with heap := s₃.heap.push { cls := .type "slice", data := .fields #[v1, v2, .none] } } := Ext.push s₃ _ _
  obtain ⟨l1, rfl, e2⟩ := p1.val
  obtain ⟨l2, rfl, e3⟩ := p2.val
  refine ⟨"str", _, PySem.F.slot_str_getitem.lookup, typeIs_str _ _ _, wpAny_getItem_str_slice (l := l1) (u := l2) (st := none) ⟨_, Heap.get?_push_size _ rfl, rfl, rfl⟩ rfl (post_val_or_str ?_)⟩
  subst e2 e3
  exact ⟨Nat.le_trans (Txt.slice_le y _ _) hsz, fun t' n => give_trans ((x₁.trans (x₂.trans x₃)).trans x₅) giv_str⟩
end
variable {prog : Program} {w : World}
section
variable {k : Nat} {base : Addr → Option Obj}
theorem of_ne' {A : Around} {s : Shared} {a b : Value} {kk : Bool} {Q E : Value → Shared → Prop} (h : SeqAt.RcNeAt A s a b kk) (hq : Q (.bool kk) s) : wpAny (model prog w) A (compareOp .NotEq a b) Q E s := h prog w E Q hq
def isS (x : Str) : Value → Bool | .str y _ => y == x | _ => false
theorem any_strs {x : Str} : ∀ {l : List Str} {vs : List Value}, StrsAre vs l → vs.any (isS x) = l.contains x
  | _, _, .nil => rfl
  | y :: l, _, .cons _ t r => by
    rw [List.any_cons, any_strs r, List.contains_cons]
    show (y == x || _) = _
    have : (y == x) = (x == y) := by rw [Bool.eq_iff_iff, beq_iff_eq, beq_iff_eq]; exact eq_comm
    rw [this]
theorem mem_strs : ∀ {l : List Str} {vs : List Value}, StrsAre vs l → ∀ v ∈ vs, ∃ y t, v = .str y t
  | _, _, .nil, _, h => by cases h
  | _, _, .cons y t r, v, h => by
    rcases List.mem_cons.mp h with rfl | h
    · exact ⟨y, t, rfl⟩
    · exact mem_strs r v h
theorem op_in_strs {x : Str} {l : List Str} : Op2 (prog := prog) (w := w) k (compareOp .In) (.str x) (.list (strsIV l)) (.bool (l.contains x)) true := fun A s a b fa fb rm g ⟨⟨t, e1⟩, _⟩ ⟨L, vs, e2, hl, hi, _⟩ => by
  subst e1 e2
  have hs := ivs_strs hi
  refine SeqAt.in_listAt (isS x) hl.isList (fun y hy => ?_) ?_
  · obtain ⟨z, u, rfl⟩ := mem_strs hs y (by simpa using hy)
    exact SeqAt.EqAt.str_str _ _ _ _
  · have : (vs.toArray.any (isS x)) = l.contains x := by rw [← any_strs hs]; simp
    rw [this]; exact giv_bool
theorem op_notin_strs {x : Str} {l : List Str} : Op2 (prog := prog) (w := w) k (compareOp .NotIn) (.str x) (.list (strsIV l)) (.bool (!l.contains x)) true := fun A s a b fa fb rm g ⟨⟨t, e1⟩, _⟩ ⟨L, vs, e2, hl, hi, _⟩ => by
  subst e1 e2
  have hs := ivs_strs hi
  refine SeqAt.notIn_listAt (isS x) hl.isList (fun y hy => ?_) ?_
  · obtain ⟨z, u, rfl⟩ := mem_strs hs y (by simpa using hy)
    exact SeqAt.EqAt.str_str _ _ _ _
  · have : (vs.toArray.any (isS x)) = l.contains x := by rw [← any_strs hs]; simp
    rw [this]; exact giv_bool
theorem strs_at : ∀ {l : List Str} {vs : List Value} {i : Nat}, StrsAre vs l → ∀ (h : i < vs.length), ∃ t, vs[i] = .str (l.getD i Str.empty) t
  | _, _, 0, .cons y t r, h => ⟨t, rfl⟩
  | _, _, i + 1, .cons y t r, h => by
    obtain ⟨u, e⟩ := strs_at (i := i) r (by simpa using h)
    exact ⟨u, by simpa using e⟩
theorem strs_eq_aux {l l' : List Str} (h : l.length = l'.length) : (List.range l.length).all (fun i => l.getD i Str.empty == l'.getD i Str.empty) = (l == l') := by
  rw [Bool.eq_iff_iff, List.all_eq_true, beq_iff_eq]
  constructor
  · intro q
    apply List.ext_getElem h
    intro i h1 h2
    have := q i (List.mem_range.mpr h1)
    rw [beq_iff_eq] at this
    simpa [h1, h2] using this
  · rintro rfl i hi
    simp
theorem list_size {l : List IV} {vs : List Value} {h : Heap} (hi : IVs h l vs) : vs.toArray.size = l.length := by rw [List.size_toArray]; exact hi.length
theorem op_eq_strs {l l' : List Str} : Op2 (prog := prog) (w := w) k (compareOp .Eq) (.list (strsIV l)) (.list (strsIV l')) (.bool (l == l')) true := fun A s a b fa fb rm g ⟨L, vs, e1, hl, hi, _⟩ ⟨L', vs', e2, hl', hi', _⟩ => by
  subst e1 e2
  have s1 : vs.toArray.size = l.length := by rw [list_size hi, List.length_map]
  have s2 : vs'.toArray.size = l'.length := by rw [list_size hi', List.length_map]
  by_cases hlen : l.length = l'.length
  · refine SeqAt.eq_listAt (e := fun i => l.getD i Str.empty == l'.getD i Str.empty) hl.isList hl'.isList (by rw [s1, s2, hlen]) rm.units (fun j h1 h2 => ?_) ?_
    · obtain ⟨t, q1⟩ := strs_at (ivs_strs hi) (i := j) (by simpa using h1)
      obtain ⟨u, q2⟩ := strs_at (ivs_strs hi') (i := j) (by simpa using h2)
      rw [List.getElem_toArray, List.getElem_toArray, q1, q2]
      exact SeqAt.EqAt.str_str _ _ _ _
    · rw [s1, strs_eq_aux hlen]; exact giv_bool
  · refine SeqAt.eq_list_lengthsAt hl.isList hl'.isList (by rw [s1, s2]; simpa using hlen) rm.units ?_
    have : (l == l') = false := by rw [beq_eq_false_iff_ne]; exact fun q => hlen (by rw [q])
    rw [this]; exact giv_bool
theorem op_ne_strs {l l' : List Str} : Op2 (prog := prog) (w := w) k (compareOp .NotEq) (.list (strsIV l)) (.list (strsIV l')) (.bool (l != l')) true := fun A s a b fa fb rm g ⟨L, vs, e1, hl, hi, _⟩ ⟨L', vs', e2, hl', hi', _⟩ => by
  subst e1 e2
  have s1 : vs.toArray.size = l.length := by rw [list_size hi, List.length_map]
  have s2 : vs'.toArray.size = l'.length := by rw [list_size hi', List.length_map]
  by_cases hlen : l.length = l'.length
  · refine of_ne' (SeqAt.RcNeAt.lists (e := fun i => l.getD i Str.empty == l'.getD i Str.empty) hl.isList hl'.isList (by rw [s1, s2, hlen]) rm.units (fun j h1 h2 => ?_)) ?_
    · obtain ⟨t, q1⟩ := strs_at (ivs_strs hi) (i := j) (by simpa using h1)
      obtain ⟨u, q2⟩ := strs_at (ivs_strs hi') (i := j) (by simpa using h2)
      rw [List.getElem_toArray, List.getElem_toArray, q1, q2]
      exact SeqAt.EqAt.str_str _ _ _ _
    · rw [s1, strs_eq_aux hlen]; exact giv_bool
  · refine of_ne' (SeqAt.RcNeAt.lists_lengths hl.isList hl'.isList (by rw [s1, s2]; simpa using hlen) rm.units) ?_
    have : (l != l') = true := by show (!(l == l')) = true; rw [beq_eq_false_iff_ne.mpr fun q => hlen (by rw [q])]; rfl
    rw [this]; exact giv_bool
/-- x == [], x != [] -/
theorem op_eq_nil {l : List IV} : Op2 (prog := prog) (w := w) k (compareOp .Eq) (.list l) (.list []) (.bool l.isEmpty) true := fun A s a b fa fb rm g ⟨L, vs, e1, hl, hi, _⟩ ⟨L', vs', e2, hl', hi', _⟩ => by
  subst e1 e2
  have s1 := list_size hi
  have s2 := list_size hi'
  cases l with
  | nil => exact SeqAt.eq_listAt (e := fun _ => true) hl.isList hl'.isList (by rw [s1, s2]) rm.units (fun j h1 h2 => absurd h1 (by rw [s1]; simp)) (by rw [s1]; exact giv_bool)
  | cons x l => exact SeqAt.eq_list_lengthsAt hl.isList hl'.isList (by rw [s1, s2]; simp) rm.units giv_bool
/-- is None -/
def At.isNone : At → Bool | .none => true | _ => false
theorem op_isnot_none {a : At} (h : ∀ b, a ≠ .bool b) (hu : ∀ u, a ≠ .val u := by intro u q; cases q) : Op2 (prog := prog) (w := w) k (compareOp .IsNot) (.iv (.at a)) .none (.bool (!a.isNone)) true := fun A s x y fa fb rm g ⟨h1, _⟩ ⟨h2, _⟩ => by
  have h2 : y = .none := h2
  subst h2
  cases a with
  | none => have h1 : x = .none := h1; subst h1; exact wpAny_isNot_self rfl giv_bool
  | bool b => exact absurd rfl (h b)
  | val u => exact absurd rfl (hu u)
  | int i => obtain ⟨t, rfl⟩ := h1; exact wpAny_isNot_other rfl (by intro q; cases q) giv_bool
  | str z => obtain ⟨t, rfl⟩ := h1; exact wpAny_isNot_other rfl (by intro q; cases q) giv_bool
theorem c_sorted {l : List Str} (h : l.length < 64) : ∀ A s vals, Room k A → s.gens = #[] → Bk base s → Reps prog w s.heap [.list (strsIV l)] vals → wpAny (model prog w) A (PySem.call (.builtin "sorted") vals) (fun v s' => ∃ l' : List Str, l'.Perm l ∧ sortedS l' = true ∧ Gives' prog w (.list (strsIV l')) true s v s') No s := fun A s vs rm g bk r => by
  obtain ⟨v, rfl, fp, L, us, rfl, hl, hi, _⟩ := reps1 r
  refine sorted_strs hl.isList (ivs_strs hi) (by rw [hi.length, List.length_map]; exact h) fun out ss' h1 h2 h3 => ⟨ss', h2, h3, ?_⟩
  obtain ⟨e, he⟩ := sortedAll_at s.heap us out
  refine ⟨⟨⟨rfl, rfl⟩, fun b o ho => sortedAll_old ho⟩, [s.heap.objs.size + 1], ⟨_, out.toList, rfl, ⟨_, e, he, rfl, rfl, by rw [Array.toArray_toList]⟩, strs_ivs h1, rfl⟩, fun _ a ha => by rw [List.mem_singleton.mp ha]; exact fresh_size (Ext.refl s) (Nat.le_succ _)⟩
end
section
variable {F : Fm} {ρ : Rho} {k : Nat}
/-- displays -/
inductive EvIVs (prog : Program) (w : World) (F : Fm) (ρ : Rho) (k : Nat) : List PySem.Expr → List IV → Prop
  | nil : EvIVs prog w F ρ k [] []
  | cons {e es x l fr} : EvJ prog w F ρ k e (.iv x) fr → EvIVs prog w F ρ k es l → EvIVs prog w F ρ k (e :: es) (x :: l)
theorem ivs_wp {es : List PySem.Expr} {l : List IV} (h : EvIVs prog w F ρ k es l) : ∀ A s, Room k A → Inv prog w F ρ s → wpAny (model prog w) A (spliced (plainArgs es F.env)) (fun vs s' => Ext s s' ∧ IVs s'.heap l vs) No s := by
  induction h with
  | nil => exact fun A s r I => Calls.spliced_nil ⟨Ext.refl s, trivial⟩
  | @cons e es x l fr he hl ih =>
    intro A s r I
    refine Calls.spliced_cons (wpAny_mono (he A s r I) (fun v s₁ ⟨y, fp, a, _⟩ => ?_) fun _ _ e => e)
    exact wpAny_mono (ih A s₁ r (I.ext y)) (fun vs s₂ ⟨z, b⟩ => ⟨y.trans z, IV.of_keep z.2 a.1, b⟩) fun _ _ e => e
theorem ev_list {es : List PySem.Expr} {pos : PySem.Pos} {l : List IV} (hs : starEach es F.env = plainArgs es F.env) (h : EvIVs prog w F ρ k es l) (hlen : l.length ≤ sizeLine) : EvJ prog w F ρ k (.List es pos) (.list l) true := fun A s rm I => by
  refine wpAny_List_spliced ?_
  rw [hs, backTo_plain]
  exact wpAny_mono (ivs_wp h A s rm I) (fun vs s₁ ⟨x, b⟩ => ⟨by rw [b.length]; exact hlen, give_trans x (giv_list rfl rfl ⟨_, rfl⟩ b)⟩) fun _ _ e => e
theorem ats_of {h : Heap} : ∀ {l : List At} {vs : List Value}, IVs h (l.map .at) vs → Ats l vs
  | [], [], _ => trivial
  | _ :: _, _ :: _, ⟨a, b⟩ => ⟨a, ats_of b⟩
  | [], _ :: _, e => e.elim
  | _ :: _, [], e => e.elim
theorem ev_tuple {es : List PySem.Expr} {k' : Nat} {pos : PySem.Pos} {l : List At} {fr : Bool} (hs : starEach es F.env = plainArgs es F.env) (h : EvIVs prog w F ρ k es (l.map .at)) (hlen : l.length ≤ sizeLine) : EvJ prog w F ρ k (.Tuple es k' pos) (.tup l) fr := fun A s rm I => by
  refine wpAny_Tuple_spliced ?_
  rw [hs, backTo_plain]
  refine wpAny_mono (ivs_wp h A s rm I) (fun vs s₁ ⟨x, b⟩ => ⟨by rw [b.length, List.length_map]; exact hlen, ?_⟩) fun _ _ e => e
  exact ⟨x.trans (Ext.push s₁ _ _), [], ⟨⟨_, vs, rfl, ⟨_, Heap.get?_push_size _ rfl, rfl, _, rfl⟩, ats_of b⟩, rfl⟩, fun _ a ha => nomatch ha⟩
end
variable {prog : Program} {w : World}

/-- the last value bound to a name -/
def bval : List (Str × Value) → Str → Option Value → Option Value
  | [], _, d => d
  | (n, v) :: r, x, d => bval r x (if x = n then some v else d)
theorem bindL_val {kd : Str → Option NameKind} : ∀ (b : List (Str × Value)) (m : Str → Option Value) (x : Str), kd x = some .local → bindL kd b m x = bval b x (m x)
  | [], _, _, _ => rfl
  | (n, v) :: r, m, x, h => by
    rw [bindL, bindL_val r _ x h, bval]
    by_cases hn : kd n = some .local
    · rw [if_pos hn]
    · rw [if_neg hn, if_neg (fun e : x = n => hn (by rw [← e]; exact h))]
theorem bindC_val {kd : Str → Option NameKind} : ∀ (b : List (Str × Value)) (m : Str → Option Value) (x : Str), kd x ≠ some .local → bindC kd b m x = bval b x (m x)
  | [], _, _, _ => rfl
  | (n, v) :: r, m, x, h => by
    rw [bindC, bindC_val r _ x h, bval]
    by_cases hn : kd n = some .local
    · rw [if_pos hn, if_neg (fun e : x = n => h (by rw [e]; exact hn))]
    · rw [if_neg hn]
def CSlot.acc0 (cs : List (Str × Addr)) (x : Str) : CSlot → Option Addr
  | .own => cs.lookup x
  | _ => none
def fnFm (fd : FuncData) (a L : Addr) (sp : List (Str × CSlot)) (base : Addr → Option Obj) (os : OsState) : Fm where
  env := callEnvC fd L a
  slots := sp.map fun p => (p.1, p.2.acc0 (compCells fd.scope [] L) p.1)
  base := base
  os := os
  res := fun _ => False
  mine := fun c => ∃ x, (x, CSlot.own) ∈ sp ∧ (compCells fd.scope [] L).lookup x = some c
  acc := fun _ => False
def SpOk0 (scope : Scope) : List (Str × CSlot) → Prop
  | [] => True
  | (x, .loc) :: r => scope.names.lookup x = some .local ∧ SpOk0 scope r
  | (x, .own) :: r => scope.names.lookup x = some .cell ∧ SpOk0 scope r
  | (x, .cap i) :: r => False
theorem SpOk0.at {scope : Scope} : ∀ {sp : List (Str × CSlot)}, SpOk0 scope sp → ∀ p ∈ sp, (p.2 = .loc ∧ scope.names.lookup p.1 = some .local) ∨ (p.2 = .own ∧ scope.names.lookup p.1 = some .cell)
  | (x, .loc) :: r, h, p, hp => by
    rcases List.mem_cons.mp hp with rfl | hp
    · exact .inl ⟨rfl, h.1⟩
    · exact SpOk0.at h.2 p hp
  | (x, .own) :: r, h, p, hp => by
    rcases List.mem_cons.mp hp with rfl | hp
    · exact .inr ⟨rfl, h.1⟩
    · exact SpOk0.at h.2 p hp
  | (x, .cap i) :: r, h, p, hp => h.elim
section
variable {fd : FuncData} {a L : Addr} {sp : List (Str × CSlot)} {base : Addr → Option Obj} {os : OsState}
theorem fn_slot (so : SpOk0 fd.scope sp) {i : Nat} {x : Str} {acc : Option Addr} (hs : (fnFm fd a L sp base os).slots[i]? = some (x, acc)) :
    (sp[i]? = some (x, .loc) ∧ acc = none ∧ fd.scope.names.lookup x = some .local) ∨ ∃ c, sp[i]? = some (x, .own) ∧ acc = some c ∧ fd.scope.names.lookup x = some .cell ∧ (compCells fd.scope [] L).lookup x = some c := by
  have : (sp.map fun p => (p.1, p.2.acc0 (compCells fd.scope [] L) p.1))[i]? = some (x, acc) := hs
  rw [List.getElem?_map] at this
  cases e : sp[i]? with
  | none => rw [e] at this; cases this
  | some p =>
    rw [e] at this
    obtain ⟨y, c⟩ := p
    cases this
    rcases so.at _ (List.mem_of_getElem? e) with ⟨h1, h2⟩ | ⟨h1, h2⟩
    · have h1 : c = .loc := h1
      subst h1
      exact .inl ⟨rfl, rfl, h2⟩
    · have h1 : c = .own := h1
      subst h1
      obtain ⟨c, hc⟩ := cellsFrom_has fd.scope.names (L + 1) y (mem_of_lookup h2)
      obtain ⟨c', hc'⟩ := lookup_of_mem hc
      exact .inr ⟨c', rfl, hc', h2, hc'⟩
theorem fn_ok (so : SpOk0 fd.scope sp) (hk : fd.scope.kind = .function) (nd : (sp.map (·.1)).Nodup) (ap : (compCells fd.scope [] L).Pairwise fun x y => x.2 ≠ y.2) (ab : ∀ n c, (n, c) ∈ compCells fd.scope [] L → L < c) (hb : ∀ a, L ≤ a → base a = none) : FmOk (fnFm fd a L sp base os) := by
  have uniq : ∀ (i j : Nat) (x : Str) (c c' : CSlot), sp[i]? = some (x, c) → sp[j]? = some (x, c') → i = j := fun i j x c c' h1 h2 => by
    have hi : i < sp.length := (List.getElem?_eq_some_iff.mp h1).1
    have hj : j < sp.length := (List.getElem?_eq_some_iff.mp h2).1
    have e1 : (sp.map (·.1))[i]'(by simpa using hi) = x := by simp [(List.getElem?_eq_some_iff.mp h1).2]
    have e2 : (sp.map (·.1))[j]'(by simpa using hj) = x := by simp [(List.getElem?_eq_some_iff.mp h2).2]
    have pw := List.pairwise_iff_getElem.mp nd
    rcases Nat.lt_trichotomy i j with h | h | h
    · exact absurd (e1.trans e2.symm) (pw i j (by simpa using hi) (by simpa using hj) h)
    · exact h
    · exact absurd (e2.trans e1.symm) (pw j i (by simpa using hj) (by simpa using hi) h)
  refine ⟨hk, fun i x hs => ?_, fun i x c hs => ?_, fun i j x a b h1 h2 => ?_, fun i j x y c h1 h2 => ?_, hb L (Nat.le_refl _), id, fun _ _ _ _ => id, fun c ⟨x, h1, h2⟩ => ?_, fun d hd => hd.elim, fun c ⟨x, h1, h2⟩ => ?_⟩
  · rcases fn_slot so hs with ⟨_, _, h⟩ | ⟨c, _, h, _⟩
    · exact h
    · cases h
  · rcases fn_slot so hs with ⟨_, h, _⟩ | ⟨c', _, h, h2, h3⟩
    · cases h
    · cases h
      exact ⟨.inl h2, h3, Nat.ne_of_gt (ab x c (mem_of_lookup h3))⟩
  · rcases fn_slot so h1 with ⟨q1, _⟩ | ⟨c, q1, _⟩ <;> rcases fn_slot so h2 with ⟨q2, _⟩ | ⟨c', q2, _⟩ <;> exact uniq i j x _ _ q1 q2
  · rcases fn_slot so h1 with ⟨_, h, _⟩ | ⟨c1, q1, e1, _, l1⟩
    · cases h
    · rcases fn_slot so h2 with ⟨_, h, _⟩ | ⟨c2, q2, e2, _, l2⟩
      · cases h
      · cases e1
        cases e2
        have := name_of_addr ap (mem_of_lookup l1) (mem_of_lookup l2)
        subst this
        exact uniq i j x _ _ q1 q2
  · exact hb c (Nat.le_of_lt (ab x c (mem_of_lookup h2)))
  · obtain ⟨i, hi⟩ := List.mem_iff_getElem?.mp h1
    refine ⟨i, x, ?_⟩
    show (sp.map _)[i]? = _
    rw [List.getElem?_map, hi]
    show some (x, (compCells fd.scope [] L).lookup x) = _
    rw [h2]
/-- what a call lays into the slots -/
def Bound (prog : Program) (w : World) (h : Heap) (X : List Addr) (binds : List (Str × Value)) (sp : List (Str × CSlot)) (ρ : Rho) : Prop :=
  ρ.length = sp.length ∧ ∃ fp : Nat → List Addr, (∀ (i : Nat) (x : Str) (c : CSlot) (p : PV) (own : Bool), sp[i]? = some (x, c) → ρ[i]? = some (p, own) → RepO prog w h p (bval binds x none) (fp i) ∧ ∀ a ∈ fp i, ∃ o, h.get? a = some o) ∧
    ∀ (i : Nat) (p : PV), ρ[i]? = some (p, true) → ∀ a ∈ fp i, a ∈ X ∧ ∀ (j : Nat) (q : PV × Bool), j ≠ i → ρ[j]? = some q → a ∉ fp j
open Classical in
theorem fn_run {A : Around} {s : Shared} {args : Args} {o : Obj} {body : List Stmt} {binds : List (Str × Value)} {X : List Addr} {ρ : Rho} {k : Nat} {P : PV → Rho → Prop} {R : Result → Shared → Prop} (rm : Room (k + 1) A) (g : s.gens = #[]) (ho : s.heap.get? a = some o) (hd : o.data = .func fd) (hlim : s.heap.NoLimit)
    (hcd : s.heap.CodeRec fd.code fd.qualname) (hbody : fd.body = .stmts body) (hclo : fd.closure = []) (hbind : wpAny (model prog w) A.in1 (bindArgs fd args) (fun b s' => b = binds ∧ s' = s) No s)
    (hkind : ∀ x ∈ binds, ∃ c, (x.1, c) ∈ sp) (so : SpOk0 fd.scope sp) (nd : (sp.map (·.1)).Nodup) (hb : Bound prog w s.heap X binds sp ρ)
    (hx : ∀ (base : Addr → Option Obj), (∀ a o, a ∉ X → s.heap.get? a = some o → base a = some o) → FmOk (fnFm fd a s.heap.objs.size sp base s.os) → ExS prog w (fnFm fd a s.heap.objs.size sp base s.os) ρ k (execs body (callEnvC fd s.heap.objs.size a)) (fun fl ρ' => ∃ p, (fl = .ret p ∨ (fl = .next ∧ p = .none)) ∧ P p ρ'))
    (hR : ∀ (base : Addr → Option Obj) v p ρ' s', (∀ a, base a = if a ∈ X then none else s.heap.get? a) → P p ρ' → Inv prog w (fnFm fd a s.heap.objs.size sp base s.os) ρ' s' → (∃ fp, Rep prog w s'.heap p v fp ∧ ∀ a ∈ fp, base a = none) → R (.ok (.ret v)) s')
    (hco : fd.scope.isCoroutine = false := by rfl) (hgen : fd.scope.isGenerator = false := by rfl) (hk : fd.scope.kind = .function := by rfl) : codeAny (model prog w) A (.call (.ref a) args) R s := by
  have e0 : ∀ x ∈ binds, fd.scope.names.lookup x.1 = some .local ∨ (fd.scope.names.lookup x.1 = some .cell ∧ ((cellsFrom (s.heap.objs.size + 1) fd.scope.names []).lookup x.1).isSome = true) := fun x hx => by
    obtain ⟨c, hc⟩ := hkind x hx
    rcases so.at _ hc with ⟨_, h⟩ | ⟨_, h⟩
    · exact .inl h
    · obtain ⟨c, hc⟩ := cellsFrom_has fd.scope.names (s.heap.objs.size + 1) x.1 (mem_of_lookup h)
      obtain ⟨c', hc'⟩ := lookup_of_mem hc
      exact .inr ⟨h, by rw [hc']; rfl⟩
  refine codeAny_call_function rm.depth ho hd hco hgen hbody hcd (wpAny_mono hbind (fun b s' ⟨e1, e2⟩ => ?_) fun _ _ e => e.elim)
  subst e1 e2
  rw [hclo]
  refine wpAny_newFunctionEnv_cells hk e0 fun env he s₁ x => ?_
  subst he
  refine ⟨hlim.keeps x.toInCall.keep, codeAny_func ?_⟩
  obtain ⟨ic, hcell, ap, ab⟩ := x
  have hL : (callEnvC fd s'.heap.objs.size a).locals = s'.heap.objs.size := rfl
  obtain ⟨base, hbase⟩ : ∃ base : Addr → Option Obj, ∀ a, base a = if a ∈ X then none else s'.heap.get? a := ⟨_, fun _ => rfl⟩
  have okF : FmOk (fnFm fd a s'.heap.objs.size sp base s'.os) := fn_ok so hk nd ap ab fun z hz => by
    rw [hbase]; split
    · rfl
    · exact fresh_size (Ext.refl s') hz
  have gens₁ : s₁.gens = s'.gens := by obtain ⟨h, t, e⟩ := ic.same; rw [e]
  have os₁ : s₁.os = s'.os := by obtain ⟨h, t, e⟩ := ic.same; rw [e]
  have I : Inv prog w (fnFm fd a s'.heap.objs.size sp base s'.os) ρ s₁ := by
    obtain ⟨hlen, fp, b1, b2⟩ := hb
    refine ⟨fun z oz e => ?_, gens₁.trans g, os₁, by rw [hlen]; simp [fnFm], fun z hz => hz.elim, fun z hz => hz.elim, _, ic.ns, fp, fun i y acc p own h1 h2 => ?_, fun i p h1 y hy => ?_⟩
    · have e : base z = some oz := e
      rw [hbase] at e
      split at e
      · cases e
      · exact ic.keep z oz e
    · have nocell : ∀ z ∈ fp i, (∃ o, s'.heap.get? z = some o) → (z ≠ s'.heap.objs.size ∧ ¬ (False ∨ False)) ∧ ∀ (j : Nat) (x : Str) (c : Addr), (fnFm fd a s'.heap.objs.size sp base s'.os).slots[j]? = some (x, some c) → z ≠ c := fun z hz ⟨o, ho⟩ => by
        have hlt := Heap.lt_size ho
        refine ⟨⟨Nat.ne_of_lt hlt, by simp⟩, fun j x c hs => ?_⟩
        rcases fn_slot so hs with ⟨_, h, _⟩ | ⟨c', _, h, _, l1⟩
        · cases h
        · cases h
          exact Nat.ne_of_lt (Nat.lt_trans hlt (ab x c (mem_of_lookup l1)))
      rcases fn_slot so h1 with ⟨q1, rfl, q3⟩ | ⟨c, q1, rfl, q3, q4⟩
      · obtain ⟨r1, r2⟩ := b1 i y _ p own q1 h2
        refine ⟨bval b y none, ?_, r1.keep ic.keep, fun z hz => nocell z hz (r2 z hz)⟩
        show bval b y none = bindL (callEnvC fd s'.heap.objs.size a).kindOf b (fun _ => none) y
        exact (bindL_val b (fun _ => none) y (by exact q3)).symm
      · obtain ⟨r1, r2⟩ := b1 i y _ p own q1 h2
        refine ⟨bval b y none, ?_, r1.keep ic.keep, fun z hz => nocell z hz (r2 z hz)⟩
        have h9 : s₁.heap.IsCell c (bindC (callEnvC fd s'.heap.objs.size a).kindOf b (fun _ => none) y) := hcell y c q4
        have h8 : (callEnvC fd s'.heap.objs.size a).kindOf y ≠ some .local := by show fd.scope.names.lookup y ≠ _; rw [q3]; simp
        rw [bindC_val b (fun _ => none) y h8] at h9
        exact h9
    · obtain ⟨c1, c2⟩ := b2 i p h1 y hy
      refine ⟨?_, c2⟩
      show base y = none
      rw [hbase, if_pos c1]
  have rm' : Room k (A.deeper (callEnvC fd s'.heap.objs.size a)) := ⟨by have := rm.1; show A.depth + 1 + k < _; omega, by have := rm.2.1; show A.units + 3 + 10 * k + 20 < _; omega, rm.handled⟩
  refine wpAny_mono (hx base (fun z oz hz e => by rw [hbase, if_neg hz]; exact e) okF base (fun _ => False) (Fm.Le.refl _) okF _ s₁ rm' I) (fun f s₂ ⟨fl, ρ', ⟨p, e1, hP⟩, I₂, hf⟩ => ?_) fun _ _ e => e.elim
  rcases e1 with rfl | ⟨rfl, rfl⟩
  · cases f with
    | ret v => exact hR base v p ρ' s₂ hbase hP I₂ hf
    | next => exact hf.elim
    | brk => exact hf.elim
    | cont => exact hf.elim
  · cases f with
    | next => exact hR base .none _ ρ' s₂ hbase hP I₂ ⟨[], ⟨rfl, rfl⟩, fun z hz => nomatch hz⟩
    | ret v => exact hf.elim
    | brk => exact hf.elim
    | cont => exact hf.elim
theorem bval_zip : ∀ {names : List Str} {vals : List Value} {i : Nat} {x : Str} {v : Value} {d : Option Value}, names.Nodup → names[i]? = some x → vals[i]? = some v → bval (names.zip vals) x d = some v
  | n :: ns, u :: us, 0, x, v, d, nd, h1, h2 => by
    simp at h1 h2
    subst h1 h2
    show bval (ns.zip us) n (if n = n then some u else d) = _
    rw [if_pos rfl]
    have : ∀ (ns : List Str) (us : List Value) (d : Option Value), n ∉ ns → bval (ns.zip us) n d = d := by
      intro ns
      induction ns with
      | nil => intro us d _; rfl
      | cons y ys ih =>
        intro us d hn
        cases us with
        | nil => rfl
        | cons z zs =>
          show bval (ys.zip zs) n (if n = y then some z else d) = d
          rw [if_neg (fun e => hn (by rw [e]; exact List.mem_cons_self ..))]
          exact ih zs d fun q => hn (List.mem_cons_of_mem _ q)
    exact this ns us _ (List.nodup_cons.mp nd).1
  | n :: ns, u :: us, i + 1, x, v, d, nd, h1, h2 => by
    show bval (ns.zip us) x _ = _
    exact bval_zip (List.nodup_cons.mp nd).2 (by simpa using h1) (by simpa using h2)
  | [], _, i, _, _, _, _, h1, _ => by simp at h1
  | _ :: _, [], i, _, _, _, _, _, h2 => by simp at h2
theorem reps_at {h : Heap} : ∀ {ps : List PV} {vs : List Value} {i : Nat} {p : PV}, Reps prog w h ps vs → ps[i]? = some p → ∃ v fp, vs[i]? = some v ∧ Rep prog w h p v fp
  | _ :: _, v :: _, 0, p, ⟨⟨fp, a⟩, _⟩, e => ⟨v, fp, rfl, by simp at e; exact e ▸ a⟩
  | _ :: _, _ :: _, i + 1, p, ⟨_, b⟩, e => by
    obtain ⟨v, fp, e1, e2⟩ := reps_at (i := i) b (by simpa using e)
    exact ⟨v, fp, by simpa using e1, e2⟩
  | [], [], _, _, _, e => by simp at e
  | [], _ :: _, _, _, e, _ => e.elim
  | _ :: _, [], _, _, e, _ => e.elim
theorem reps_len {h : Heap} : ∀ {ps : List PV} {vs : List Value}, Reps prog w h ps vs → vs.length = ps.length
  | [], [], _ => rfl
  | _ :: _, _ :: _, ⟨_, b⟩ => congrArg (· + 1) (reps_len b)
  | [], _ :: _, e => e.elim
  | _ :: _, [], e => e.elim
/-- the slots after a call by place -/
def rhoOf (ps : List PV) (n : Nat) : Rho := ps.map (·, false) ++ List.replicate n (.any, false)
open Classical in
theorem bound_pos {h : Heap} {names : List Str} {ps : List PV} {vals : List Value} {n : Nat} (nd : names.Nodup) (hl : names.length = ps.length) (r : Reps prog w h ps vals) (hsp : (sp.map (·.1)).take ps.length = names) (hn : sp.length = ps.length + n) :
    Bound prog w h [] (names.zip vals) sp (rhoOf ps n) := by
  have hr : ∀ (i : Nat) (p : PV) (own : Bool), (rhoOf ps n)[i]? = some (p, own) → own = false ∧ ((∃ q, ps[i]? = some q ∧ p = q) ∨ (ps.length ≤ i ∧ p = .any)) := fun i p own e => by
    unfold rhoOf at e
    rcases Nat.lt_or_ge i ps.length with hi | hi
    · rw [List.getElem?_append_left (by simpa using hi), List.getElem?_map, List.getElem?_eq_getElem hi] at e
      cases e
      exact ⟨rfl, .inl ⟨_, List.getElem?_eq_getElem hi, rfl⟩⟩
    · rw [List.getElem?_append_right (by simpa using hi)] at e
      have := List.mem_of_getElem? e
      have := List.eq_of_mem_replicate this
      cases this
      exact ⟨rfl, .inr ⟨hi, rfl⟩⟩
  have key : ∀ i : Nat, ∃ f : List Addr, ∀ (p : PV), ps[i]? = some p → ∃ v, vals[i]? = some v ∧ Rep prog w h p v f := fun i => by
    cases e : ps[i]? with
    | none => exact ⟨[], fun p q => by cases q⟩
    | some p =>
      obtain ⟨v, fp, h1, h2⟩ := reps_at r e
      exact ⟨fp, fun q hq => by cases hq; exact ⟨v, h1, h2⟩⟩
  refine ⟨by unfold rhoOf; simp [hn], fun i => if i < ps.length then Classical.choose (key i) else [], fun i x c p own h1 h2 => ?_, fun i p h1 => ?_⟩
  · obtain ⟨rfl, h3⟩ := hr i p own h2
    rcases h3 with ⟨q, h3, rfl⟩ | ⟨h3, rfl⟩
    · have hi : i < ps.length := (List.getElem?_eq_some_iff.mp h3).1
      dsimp only
      rw [if_pos hi]
      obtain ⟨v, h4, h5⟩ := Classical.choose_spec (key i) p h3
      have hx : names[i]? = some x := by
        rw [← hsp, List.getElem?_take_of_lt hi, List.getElem?_map, h1]; rfl
      rw [bval_zip nd hx h4]
      exact ⟨RepO.of h5, fun z hz => h5.stands z hz⟩
    · dsimp only
      rw [if_neg (Nat.not_lt.mpr h3)]
      exact ⟨rfl, fun z hz => nomatch hz⟩
  · obtain ⟨h2, _⟩ := hr i p true h1
    cases h2
end
/-- a call, by place, of a function whose body computes p -/
theorem call_own {fd : FuncData} {a : Addr} {sp : List (Str × CSlot)} {names : List Str} {ps : List PV} {p : PV} {body : List Stmt} {base : Addr → Option Obj} {k n : Nat} (ho : ∀ s : Shared, Bk base s → (∃ o, s.heap.get? a = some o ∧ o.data = .func fd) ∧ s.heap.NoLimit ∧ s.heap.CodeRec fd.code fd.qualname)
    (hbody : fd.body = .stmts body) (hclo : fd.closure = []) (hbind : ∀ vals : List Value, vals.length = names.length → bindArgs fd ⟨vals, []⟩ = pure (names.zip vals)) (so : SpOk0 fd.scope sp) (nd : (sp.map (·.1)).Nodup) (hsp : (sp.map (·.1)).take ps.length = names) (hl : names.length = ps.length) (hn : sp.length = ps.length + n)
    (hx : ∀ (L : Addr) (base' : Addr → Option Obj) (os : OsState), (∀ a o, base a = some o → base' a = some o) → FmOk (fnFm fd a L sp base' os) → ExS prog w (fnFm fd a L sp base' os) (rhoOf ps n) k (execs body (callEnvC fd L a)) (fun fl ρ' => fl = .ret p))
    (hco : fd.scope.isCoroutine = false := by rfl) (hgen : fd.scope.isGenerator = false := by rfl) (hk : fd.scope.kind = .function := by rfl) : CallP prog w base (k + 1) (.ref a) ps p true := fun A s vals rm g bk r => by
  obtain ⟨⟨o, ho1, ho2⟩, hlim, hcd⟩ := ho s bk
  have nd' : names.Nodup := by rw [← hsp]; exact nd.sublist (List.take_sublist _ _)
  refine wpAny_call (fn_run (X := []) (P := fun q _ => q = p) rm g ho1 ho2 hlim hcd hbody hclo (by rw [hbind vals (by rw [hl]; exact reps_len r)]; exact wpAny_pure ⟨rfl, rfl⟩) (fun x hx => ?_) so nd (bound_pos nd' hl r hsp hn) (fun base' hb' okF => ?_) (fun base' v q ρ' s' hb' hq I hv => ?_) hco hgen hk)
  · have h1 : x.1 ∈ names := (List.of_mem_zip hx).1
    rw [← hsp] at h1
    have h2 := List.mem_of_mem_take h1
    obtain ⟨⟨y, c⟩, h3, h4⟩ := List.mem_map.mp h2
    exact ⟨c, by rw [← h4]; exact h3⟩
  · exact ex_mono (hx _ base' _ (fun a o e => hb' a o (by simp) (bk a o e)) okF) fun fl ρ' e => ⟨p, .inl e, rfl⟩
  · subst hq
    obtain ⟨fp, h1, h2⟩ := hv
    have hb2 : ∀ a, base' a = s.heap.get? a := fun a => by rw [hb']; simp
    exact ⟨⟨⟨I.gens.trans g.symm, I.os⟩, fun b o e => I.keep b o ((hb2 b).trans e)⟩, fp, h1, fun _ z hz => (hb2 z).symm.trans (h2 z hz)⟩
end Wk
namespace L2
open Wk Hd2

def isDictS (o : Obj) : Bool := match o.data with | .dict es _ => es.all (fun e => match e.key with | .str .. => true | _ => false) | _ => false
theorem ns_of {h : Heap} {a : Addr} {o : Obj} (e : h.get? a = some o) (hk : isDictS o = true) : h.Ns a (nsOf o) := by
  unfold isDictS at hk
  unfold nsOf
  split at hk
  · rename_i es ep hd
    refine ⟨o, es, ep, e, hd, fun x hx => ?_, fun name => by first | rfl | rw [hd]⟩
    have := (Array.all_eq_true_iff_forall_mem.mp hk) x hx
    split at this
    · rename_i n t hkey; exact ⟨n, t, hkey⟩
    · cases this
  · cases hk
theorem main_s (P : Params) : isDictS (oMain P) = true := by kernel_rfl
theorem bi_s (P : Params) : isDictS (o0_0 P) = true := by kernel_rfl
def Top (w : World) (base : Addr → Option Obj) : Prop := (∀ a o, (KK w.params).lookup a = some o → base a = some o) ∧ ∃ es n, base 211 = some (Hs.dObj es n) ∧ Hs.Ents b3l es.toList
theorem Top.yp {w : World} {base : Addr → Option Obj} {h : Heap} (t : Top w base) (b : Bh base h) : YP w h := ⟨fun a o e => b a o (t.1 a o e), let ⟨es, n, e, r⟩ := t.2; ⟨es, n, b _ _ e, r⟩⟩
theorem Top.of {w : World} {h : Heap} (y : YP w h) : Top w h.get? := ⟨fun a o e => y.1 a o e, y.2⟩
theorem Top.up {w : World} {base base' : Addr → Option Obj} (t : Top w base) (h : ∀ a o, base a = some o → base' a = some o) : Top w base' := ⟨fun a o e => h a o (t.1 a o e), let ⟨es, n, e, r⟩ := t.2; ⟨es, n, h _ _ e, r⟩⟩
/-- a frame of this program -/
structure Fr2 (w : World) (F : Fm) : Prop where
  top : Top w F.base
  gl : F.env.globals = 3
  bi : F.env.builtins = 0
  kd : F.env.scope.kind = .function
section
variable {w : World} {F : Fm}
theorem gl (f : Fr2 w F) {x : Str} {v : Value} (hx : F.env.kindOf x = some .globalImplicit) (hv : nsOf (oMain w.params) x = some v) (hd : (x == ("__debug__" : Str)) = false := by decide) : Glob pw w F x v :=
  glob_of (mg := nsOf (oMain w.params)) f.kd hx (fun s b => by rw [f.gl]; exact ns_of ((f.top.yp b).1 3 _ (by kernel_rfl)) (main_s _)) hv hd
theorem bi (f : Fr2 w F) {x : Str} {v : Value} (hx : F.env.kindOf x = some .globalImplicit) (hn : nsOf (oMain w.params) x = none) (hv : nsOf (o0_0 w.params) x = some v) (hd : (x == ("__debug__" : Str)) = false := by decide) : Glob pw w F x v :=
  glob_bi (mg := nsOf (oMain w.params)) (mb := nsOf (o0_0 w.params)) f.kd hx (fun s b => by rw [f.gl]; exact ns_of ((f.top.yp b).1 3 _ (by kernel_rfl)) (main_s _)) hn (fun s b => by rw [f.bi]; exact ns_of ((f.top.yp b).1 0 _ (by kernel_rfl)) (bi_s _)) hv hd
end
def fdOf (o : Obj) : FuncData := match o.data with | .func fd => fd | _ => default
theorem st_s (P : Params) : isDictS (o2_0 P) = true := by kernel_rfl
theorem nolim {w : World} {h : Heap} (y : YP w h) : h.NoLimit := ⟨nsOf (o2_0 w.params), ns_of (y.1 2 (o2_0 w.params) (by kernel_rfl)) (st_s _), by kernel_rfl⟩
theorem fnAt {w : World} {base : Addr → Option Obj} (t : Top w base) {a c : Addr} {o oc : Obj} {fd : FuncData} {vs : Array Value} {u : Tok} (h1 : (KK w.params).lookup a = some o) (h2 : o.data = .func fd) (h3 : fd.code = .ref c) (h4 : (KK w.params).lookup c = some oc) (h5 : oc.data = .fields vs) (h6 : vs[1]? = some (.str fd.qualname u)) :
    ∀ s : Shared, Bk base s → (∃ o, s.heap.get? a = some o ∧ o.data = .func fd) ∧ s.heap.NoLimit ∧ s.heap.CodeRec fd.code fd.qualname := fun s b => by
  have y := t.yp b
  exact ⟨⟨o, y.1 a o h1, h2⟩, nolim y, c, oc, vs, u, h3, y.1 c oc h4, h5, h6⟩
def holdsV (c world : Str) : Bool := (c.cps.toList.map fun s => Txt.contains world ⟨#[s]⟩).any id
def withinV (c other : Str) : Bool := (c.cps.toList.map fun s => Txt.contains other ⟨#[s]⟩).all id
theorem len_one {α β : Type} (l : List α) (f : α → β) {n : Nat} (h : l.length ≤ n) : (l.flatMap fun x => [f x]).length ≤ n := by
  have : (l.flatMap fun x => [f x]).length = l.length := by
    induction l with
    | nil => rfl
    | cons x l ih => simp only [List.flatMap_cons, List.length_append, List.length_cons, List.length_nil]; rw [ih (by simp at h; omega)]; omega
  omega
theorem chars_len {x : Str} : (chars x).length = x.length := by simp [chars, Str.length]
theorem fr2_fn {w : World} {base : Addr → Option Obj} {fd : FuncData} {a L : Addr} {sp : List (Str × CSlot)} {os : OsState} (t : Top w base) (h1 : fd.globals = 3) (h2 : fd.builtins = 0) (h3 : fd.scope.kind = .function) : Fr2 w (fnFm fd a L sp base os) := ⟨t, h1, h2, h3⟩
def memF (other : Str) (x : IV) : List IV := [.at (.bool (match x with | .at (.str y) => Txt.contains other y | _ => false))]
theorem memF_eq (c other : Str) : (chars c).flatMap (memF other) = boolsIV (c.cps.toList.map fun s => Txt.contains other ⟨#[s]⟩) := by
  unfold chars boolsIV
  induction c.cps.toList with
  | nil => rfl
  | cons y l ih => rw [List.map_cons, List.flatMap_cons, ih]; rfl
set_option maxHeartbeats 2000000 in
theorem law_holds {w : World} {base : Addr → Option Obj} {k : Nat} (t : Top w base) {c world : Str} (hc : c.length ≤ sizeLine) : CallP pw w base (k + 1) (.ref 273) [.str c, .str world] (.bool (holdsV c world)) true := by
  refine call_own (fd := fdOf (o273_0 w.params)) (sp := [("clause", .loc), ("world", .own)]) (names := ["clause", "world"]) (n := 0) (body := fBody (bd 19)) (fnAt t (o := o273_0 w.params) (oc := o272_0 w.params) (by kernel_rfl) rfl rfl (by kernel_rfl) rfl rfl) rfl rfl ?_ ⟨by kernel_rfl, by kernel_rfl, trivial⟩ (by decide) rfl rfl rfl ?_ (by kernel_rfl) (by kernel_rfl) (by kernel_rfl)
  · intro vals hv
    match vals, hv with
    | [v, u], _ => rfl
  · intro L base' os hb ok
    have f := fr2_fn (fd := fdOf (o273_0 w.params)) (a := 273) (L := L) (sp := [("clause", .loc), ("world", .own)]) (os := os) (t.up hb) rfl rfl (by kernel_rfl)
    have ha := bi (x := "any") f (by kernel_rfl) (by kernel_rfl) (v := .builtin "any") (by kernel_rfl)
    refine ex_one (ex_return_iv (fr := true) (ev_call (by rfl) ha (.cons (ev_comp_eq [("world", L + 1)] [("sign", .loc), ("world", .cap 1)] (chars c) (memF world) ok (memF_eq c world) ?_) .nil) c_any (fun a e => nomatch e)) rfl)
    refine ⟨by rfl, ⟨by kernel_rfl, ⟨by kernel_rfl, by kernel_rfl, _, rfl, rfl⟩, trivial⟩, by kernel_rfl, by decide, by decide +kernel, by intro _; rfl, rfl, itj_str (ev_local 0 ok rfl rfl (by intro q; cases q)), ?_, len_one _ _ (by rw [chars_len]; exact hc)⟩
    intro C D base hbase okc x hx
    obtain ⟨y, hy, rfl⟩ := List.mem_map.mp hx
    refine ⟨[(.str ⟨#[y]⟩, false), (.str world, false)], true, asg_name 0 (acc := none) rfl own_none, .inl ⟨rfl, rfl⟩, ⟨_, true, rfl, ?_⟩, .any (.same .nil)⟩
    exact ev_cmp (by rfl) (ev_local 0 okc rfl rfl (by intro q; cases q)) (ev_cell 1 okc rfl rfl (by intro q; cases q)) op_in_str
set_option maxHeartbeats 2000000 in
theorem law_within {w : World} {base : Addr → Option Obj} {k : Nat} (t : Top w base) {c other : Str} (hc : c.length ≤ sizeLine) : CallP pw w base (k + 1) (.ref 278) [.str c, .str other] (.bool (withinV c other)) true := by
  refine call_own (fd := fdOf (o278_0 w.params)) (sp := [("clause", .loc), ("other", .own)]) (names := ["clause", "other"]) (n := 0) (body := fBody (bd 20)) (fnAt t (o := o278_0 w.params) (oc := o277_0 w.params) (by kernel_rfl) rfl rfl (by kernel_rfl) rfl rfl) rfl rfl ?_ ⟨by kernel_rfl, by kernel_rfl, trivial⟩ (by decide) rfl rfl rfl ?_ (by kernel_rfl) (by kernel_rfl) (by kernel_rfl)
  · intro vals hv
    match vals, hv with
    | [v, u], _ => rfl
  · intro L base' os hb ok
    have f := fr2_fn (fd := fdOf (o278_0 w.params)) (a := 278) (L := L) (sp := [("clause", .loc), ("other", .own)]) (os := os) (t.up hb) rfl rfl (by kernel_rfl)
    have ha := bi (x := "all") f (by kernel_rfl) (by kernel_rfl) (v := .builtin "all") (by kernel_rfl)
    refine ex_one (ex_return_iv (fr := true) (ev_call (by rfl) ha (.cons (ev_comp_eq [("other", L + 1)] [("sign", .loc), ("other", .cap 1)] (chars c) (memF other) ok (memF_eq c other) ?_) .nil) c_all (fun a e => nomatch e)) rfl)
    refine ⟨by rfl, ⟨by kernel_rfl, ⟨by kernel_rfl, by kernel_rfl, _, rfl, rfl⟩, trivial⟩, by kernel_rfl, by decide, by decide +kernel, by intro _; rfl, rfl, itj_str (ev_local 0 ok rfl rfl (by intro q; cases q)), ?_, len_one _ _ (by rw [chars_len]; exact hc)⟩
    intro C D base hbase okc x hx
    obtain ⟨y, hy, rfl⟩ := List.mem_map.mp hx
    refine ⟨[(.str ⟨#[y]⟩, false), (.str other, false)], true, asg_name 0 (acc := none) rfl own_none, .inl ⟨rfl, rfl⟩, ⟨_, true, rfl, ?_⟩, .any (.same .nil)⟩
    exact ev_cmp (by rfl) (ev_local 0 okc rfl rfl (by intro q; cases q)) (ev_cell 1 okc rfl rfl (by intro q; cases q)) op_in_str
open Wk Hd2
/-- b1_set -/
def setOk (o : Obj) : Bool := match o.cls, o.dict, o.data with
  | .type n, none, .set es _ t => n == "set" && es.all (fun e => match e.2 with | .int i _ => e.1 == hashInt i | _ => false) && t.fits es.size && decide (es.size < 1000) && decide (o.slots.size = 0)
  | _, _, _ => false
def setHas (o : Obj) (k : Int) : Bool := match o.data with | .set es _ _ => es.toList.any fun e => Value.isInt k e.2 | _ => false
theorem set_s (P : Params) : setOk (o200_0 P) = true := by kernel_rfl
theorem set_of {prog : Program} {w : World} {h : Heap} {a : Addr} {o : Obj} (e : h.get? a = some o) (hk : setOk o = true) : ∃ n, h.SetOf (intKind prog w) a (setHas o) n := by
  unfold setOk at hk
  unfold setHas
  obtain ⟨c, d, dt, sl⟩ := o
  dsimp only at hk ⊢
  split at hk
  · rename_i n es ep t
    simp only [Bool.and_eq_true, beq_iff_eq, decide_eq_true_eq, Array.all_eq_true_iff_forall_mem] at hk
    obtain ⟨⟨⟨⟨h1, h2⟩, h3⟩, h4⟩, h5⟩ := hk
    refine ⟨es.size, _, es, ep, t, e, ⟨by rw [h1], rfl, Array.eq_empty_of_size_eq_zero h5⟩, rfl, fun x hx => ?_, fun k => ?_, by unfold scanBound; omega, h3, rfl⟩
    · have := h2 x (Array.mem_toList_iff.mp hx)
      obtain ⟨hh, v⟩ := x
      dsimp only at this ⊢
      split at this
      · rename_i i t2
        exact ⟨⟨i, by show (i == i) = true; simp, (by have h9 : hh = hashInt i := by simpa using this
                                                      exact h9)⟩, rfl⟩
      · cases this
    · rw [List.any_eq_true]
      exact Iff.rfl
  · cases hk
/-- b3_exceptions -/
theorem ents_find {k : Int} : ∀ {l : List (Int × Str)} {es : List DictEntry}, Hs.Ents l es → match (l.find? fun p => p.1 == k) with | none => (es.find? fun e => Value.isInt k e.key) = none | some p => ∃ t, (es.find? fun e => Value.isInt k e.key).map (·.val) = some (.str p.2 t)
  | [], [], _ => rfl
  | p :: l, e :: es, ⟨⟨t, t', h⟩, r⟩ => by
    subst h
    have hb : Value.isInt k (.int p.1 t) = (p.1 == k) := rfl
    simp only [List.find?_cons, hb]
    cases hk : p.1 == k with
    | true => exact ⟨t', rfl⟩
    | false => exact ents_find r
  | [], _ :: _, h => h.elim
  | _ :: _, [], h => h.elim
theorem ents_keys : ∀ {l : List (Int × Str)} {es : List DictEntry}, Hs.Ents l es → ∀ e ∈ es, ∃ k : Int, Value.isInt k e.key = true ∧ e.hash = hashInt k
  | [], [], _, e, h => by cases h
  | p :: l, e :: es, ⟨⟨t, t', h⟩, r⟩, e', h' => by
    subst h
    rcases List.mem_cons.mp h' with rfl | h'
    · exact ⟨p.1, by show (p.1 == p.1) = true; simp, rfl⟩
    · exact ents_keys r e' h'
  | [], _ :: _, h, _, _ => h.elim
  | _ :: _, [], h, _, _ => h.elim
def b3v (k : Int) : At := match (b3l.find? fun p => p.1 == k) with | none => .none | some p => .str p.2
theorem b3_of {prog : Program} {w : World} {h : Heap} (y : YP w h) : ∃ f, h.MapOf (intKind prog w) 211 f ∧ ∀ k, (b3v k).of ((f k).getD .none) := by
  obtain ⟨_, es, n, ho, he⟩ := y
  refine ⟨fun k => findBy (intKind prog w).is es k, ⟨_, es, n, ho, ⟨rfl, rfl, rfl⟩, rfl, fun e hh => ents_keys he e (Array.mem_toList_iff.mpr hh), fun _ => rfl⟩, fun k => ?_⟩
  have h2 := ents_find (k := k) he
  have e1 : findBy (intKind prog w).is es k = (es.toList.find? fun e => Value.isInt k e.key).map (·.val) := by
    show (es.find? _).map _ = _
    rw [← Array.find?_toList]; rfl
  show (b3v k).of ((findBy (intKind prog w).is es k).getD .none)
  rw [e1]
  unfold b3v
  split at h2
  · rename_i hq; rw [h2]; rfl
  · rename_i p hq
    obtain ⟨t, h3⟩ := h2
    rw [h3]
    exact ⟨t, rfl⟩
open Wk Hd2
section
variable {w : World} {F : Fm} {ρ : Rho} {k : Nat}
theorem ev_in_set {l : PySem.Expr} {x : Str} {np pos : PySem.Pos} {i : Int} {f1 fr : Bool} (f : Fr2 w F) (hm : behindInMarks .In (.Name x np) = false) (hl : EvJ pw w F ρ k l (.int i) f1) (g : Glob pw w F x (.ref 200)) : EvJ pw w F ρ k (.Compare l [.In] [.Name x np] pos) (.bool (setHas (o200_0 w.params) i)) fr := fun A s rm I => by
  refine wpAny_Compare1 (hm := hm) (wpAny_mono (hl A s rm I) (fun a s₁ ⟨x1, fp1, ⟨⟨t, e1⟩, _⟩, _⟩ => ?_) fun _ _ e => e)
  subst e1
  have b := (I.ext x1).keep
  obtain ⟨n, hS⟩ := set_of (prog := pw) (w := w) ((f.top.yp b).1 200 (o200_0 w.params) (by kernel_rfl)) (set_s _)
  refine g A s₁ _ _ _ b (wpAny_inSet_of (k := i) (by show (i == i) = true; simp) rfl hS ?_)
  exact give_trans (x1.trans (Ext.tok s₁ _)) giv_bool
theorem ev_b3_get {x : Str} {np apos pos : PySem.Pos} {e : PySem.Expr} {i : Int} {f1 fr : Bool} (f : Fr2 w F) (hb : attributeBase (.Name x np) "get" F.env (eval (.Name x np) F.env) = eval (.Name x np) F.env) (hs : starEach [e] F.env = plainArgs [e] F.env) (hl : (apos.endLine == pos.line) = true) (g : Glob pw w F x (.ref 211)) (he : EvJ pw w F ρ k e (.int i) f1) :
    EvJ pw w F ρ k (.Call (.Attribute (.Name x np) "get" apos) [e] [] pos) (.iv (.at (b3v i))) fr := fun A s rm I => by
  refine meth_wp hb hs hl (by simp) (T := "dict") (id := "dict.get") ⟨PySem.F.plainAttrs_dict, PySem.F.slot_dict_get, PySem.F.type_dict_get, by decide⟩ (g A s _ _ _ I.keep ?_)
  obtain ⟨es, n, ho, _⟩ := (f.top.yp I.keep).2
  refine ⟨⟨_, ho, rfl⟩, fun a ea => by cases ea; exact ⟨_, ho, rfl⟩, ?_⟩
  refine Calls.spliced_cons (wpAny_mono (he A s rm I) (fun a s₁ ⟨x1, fp1, ⟨⟨t, e1⟩, _⟩, _⟩ => Calls.spliced_nil ?_) fun _ _ e => e)
  subst e1
  obtain ⟨ff, hM, hv⟩ := b3_of (prog := pw) (w := w) (f.top.yp (I.ext x1).keep)
  refine call_meetsIn PySem.F.slot_dict_get hM.typeIs PySem.F.entry_dict_get (PySem.F.args_dict_get_2 _ _) (meets_dict_get (intKind pw w) 211 (k := i) (by show (i == i) = true; simp) (by rfl)) ⟨ff, hM, ?_⟩
  exact give_trans (x1.trans (Ext.tok s₁ _)) ⟨Ext.refl _, [], ⟨hv i, rfl⟩, fun _ a ha => nomatch ha⟩
end
set_option maxHeartbeats 2000000 in
theorem in_table {w : World} {base : Addr → Option Obj} {k : Nat} (t : Top w base) {c : Nat} : CallP pw w base (k + 1) (.ref 210) [.str ⟨#[c]⟩] (.bool (setHas (o200_0 w.params) c)) true := by
  refine call_own (fd := fdOf (o210_0 w.params)) (sp := [("code", .loc)]) (names := ["code"]) (n := 0) (body := fBody (bd 13)) (fnAt t (o := o210_0 w.params) (oc := o209_0 w.params) (by kernel_rfl) rfl rfl (by kernel_rfl) rfl rfl) rfl rfl ?_ ⟨by kernel_rfl, trivial⟩ (by decide) rfl rfl rfl ?_ (by kernel_rfl) (by kernel_rfl) (by kernel_rfl)
  · intro vals hv
    match vals, hv with
    | [v], _ => rfl
  · intro L base' os hb ok
    have f := fr2_fn (fd := fdOf (o210_0 w.params)) (a := 210) (L := L) (sp := [("code", .loc)]) (os := os) (t.up hb) rfl rfl (by kernel_rfl)
    have hord := bi (x := "ord") f (by kernel_rfl) (by kernel_rfl) (v := .builtin "ord") (by kernel_rfl)
    have hset := gl (x := "b1_set") f (by kernel_rfl) (v := .ref 200) (by kernel_rfl)
    exact ex_one (ex_return_iv (fr := true) (ev_in_set f (by rfl) (ev_call (by rfl) hord (.cons (ev_local 0 ok rfl rfl (by intro q; cases q)) .nil) (c_ord (c := c)) (fun a e => nomatch e)) hset) rfl)
def mapV (c : Nat) : Str := match b3v c with | .str x => x | _ => Txt.lower ⟨#[c]⟩
theorem b3v_cases (k : Int) : b3v k = .none ∨ ∃ x, b3v k = .str x := by
  unfold b3v
  split
  · exact .inl rfl
  · exact .inr ⟨_, rfl⟩
set_option maxHeartbeats 2000000 in
theorem map_table {w : World} {base : Addr → Option Obj} {k : Nat} (t : Top w base) {c : Nat} (hc : Builtin.Str.tooLong (Txt.lower ⟨#[c]⟩).length = false) : CallP pw w base (k + 1) (.ref 256) [.str ⟨#[c]⟩] (.str (mapV c)) true := by
  refine call_own (fd := fdOf (o256_0 w.params)) (sp := [("code", .loc), ("r", .loc)]) (names := ["code"]) (n := 1) (body := fBody (bd 15)) (fnAt t (o := o256_0 w.params) (oc := o255_0 w.params) (by kernel_rfl) rfl rfl (by kernel_rfl) rfl rfl) rfl rfl ?_ ⟨by kernel_rfl, by kernel_rfl, trivial⟩ (by decide) rfl rfl rfl ?_ (by kernel_rfl) (by kernel_rfl) (by kernel_rfl)
  · intro vals hv
    match vals, hv with
    | [v], _ => rfl
  · intro L base' os hb ok
    have f := fr2_fn (fd := fdOf (o256_0 w.params)) (a := 256) (L := L) (sp := [("code", .loc), ("r", .loc)]) (os := os) (t.up hb) rfl rfl (by kernel_rfl)
    have hord := bi (x := "ord") f (by kernel_rfl) (by kernel_rfl) (v := .builtin "ord") (by kernel_rfl)
    have hb3 := gl (x := "b3_exceptions") f (by kernel_rfl) (v := .ref 211) (by kernel_rfl)
    refine ex_then (ex_assign_iv (own := false) 1 (acc := none) rfl own_none (ev_b3_get (fr := true) f (by rfl) (by rfl) (by rfl) hb3 (ev_call (by rfl) hord (.cons (ev_local 0 ok rfl rfl (by intro q; cases q)) .nil) (c_ord (c := c)) (fun a e => nomatch e))) (by rfl)) ?_
    rcases b3v_cases c with h | ⟨x, h⟩
    · rw [h]
      refine ex_then (ρ₁ := [(.str ⟨#[c]⟩, false), (.none, false)]) (ex_if (b := false) (eb_cmp (by rfl) (ev_local 1 ok rfl rfl (by intro q; cases q)) ev_none (op_isnot_none (a := .none) (by intro b q; cases q))) ?_) ?_
      · exact ex_nil ⟨rfl, rfl⟩
      · refine ex_one (ex_return_iv (fr := true) (ev_meth (by rfl) (by rfl) (by rfl) (by decide) (ev_local 0 ok rfl rfl (by intro q; cases q)) .nil .str m_lower (c_lower hc)) ?_)
        unfold mapV; rw [h]
    · rw [h]
      refine ex_cons (P₁ := fun fl _ => fl = .ret (.str (mapV c))) (ex_if (b := true) (eb_cmp (by rfl) (ev_local 1 ok rfl rfl (by intro q; cases q)) ev_none (op_isnot_none (a := .str x) (by intro b q; cases q))) ?_) (fun ρ' e => by cases e) (fun fl ρ' _ e => e)
      refine ex_one (ex_return_iv (ev_local 1 ok rfl rfl (by intro q; cases q)) ?_)
      unfold mapV; rw [h]
end L2
namespace Wk
variable {prog : Program} {w : World}
section
variable {F : Fm} {ρ : Rho} {k : Nat} {P : Fl → Rho → Prop}
/-- after a turn -/
def TurnM {α : Type} (J : List α → Rho → Prop) (P : Fl → Rho → Prop) (done : List α) : Fl → Rho → Prop
  | .next, ρ => J done ρ
  | .cont, ρ => J done ρ
  | .brk, ρ => P .next ρ
  | .ret p, ρ => P (.ret p) ρ
theorem ex_forM {α : Type} {target iter : PySem.Expr} {body : List Stmt} {pos : PySem.Pos} {z : Bool} (xs : List α) (g : α → IV) (J : List α → Rho → Prop) (hI : ItJ prog w F ρ k z target iter (xs.map g)) (h0 : J [] ρ) (hend : ∀ ρ', J xs ρ' → P .next ρ')
    (hstep : ∀ done x rest ρ', xs = done ++ x :: rest → J done ρ' → ∃ ρ₁, AsgJ prog w F k target (g x) ρ' ρ₁ ∧ ExS prog w F ρ₁ k (execs body F.env) (TurnM J P (done ++ [x])))
    (hz : z = true → ∀ l ρ', J l ρ' → ∀ (i : Nat) (q : PV × Bool), ρ'[i]? = some q → q.1.flat = true := by intro h; cases h) (hs : ∀ x, foldedSetIterable iter F.env x = pure x := by intro _; rfl) :
    ExS prog w F ρ k (exec (.For target iter body [] pos) F.env) P := by
  refine ex_for hI (fun l ρ' => ∃ done rest, xs = done ++ rest ∧ l = rest.map g ∧ J done ρ') ⟨[], xs, rfl, rfl, h0⟩ (fun ρ' ⟨done, rest, h1, h2, h3⟩ => ?_) (fun x rest' ρ' ⟨done, rest, h1, h2, h3⟩ => ?_) (fun e l ρ' ⟨done, rest, _, _, h3⟩ => hz e done ρ' h3) hs
  · cases rest with
    | nil => exact hend ρ' (by rw [h1]; simpa using h3)
    | cons y rest => cases h2
  · cases rest with
    | nil => cases h2
    | cons y rest =>
      rw [List.map_cons] at h2
      obtain ⟨rfl, rfl⟩ := List.cons.inj h2
      obtain ⟨ρ₁, h4, h5⟩ := hstep done y rest ρ' h1 h3
      refine ⟨ρ₁, h4, ex_mono h5 fun fl ρ₂ h => ?_⟩
      cases fl with
      | next => exact ⟨done ++ [y], rest, by rw [h1]; simp, rfl, h⟩
      | cont => exact ⟨done ++ [y], rest, by rw [h1]; simp, rfl, h⟩
      | brk => exact h
      | ret p => exact h
theorem ev_cast {e : PySem.Expr} {p q : PV} {fr : Bool} (h : EvJ prog w F ρ k e p fr) (hq : p = q) : EvJ prog w F ρ k e q fr := hq ▸ h
end
end Wk
namespace L2
open Wk Hd2
/-- what _law_read makes of a sign -/
def readP (P : Params) (c : Nat) : Str := if setHas (o200_0 P) c then Str.empty else if (⟨#[c]⟩ : Str) == mapV c then mapV c else Txt.upper (mapV c)
def readV (P : Params) (l : List Nat) : Str := l.foldl (fun a (c : Nat) => if setHas (o200_0 P) c then a else a ++ readP P c) Str.empty
def SignOk (P : Params) (c : Nat) : Prop := Builtin.Str.tooLong (Txt.lower ⟨#[c]⟩).length = false ∧ Builtin.Str.tooLong (Txt.upper (mapV c)).length = false ∧ (readP P c).length ≤ 1000
theorem str_len_app (x y : Str) : (x ++ y).length = x.length + y.length := by
  obtain ⟨a⟩ := x; obtain ⟨b⟩ := y
  show (a ++ b).size = a.size + b.size
  exact Array.size_append
theorem readV_len {P : Params} : ∀ {l : List Nat}, (∀ c ∈ l, SignOk P c) → (readV P l).length ≤ 1000 * l.length := by
  have key : ∀ (l : List Nat) (a : Str) (n : Nat), (∀ c ∈ l, SignOk P c) → a.length ≤ n → (l.foldl (fun a (c : Nat) => if setHas (o200_0 P) c then a else a ++ readP P c) a).length ≤ n + 1000 * l.length := by
    intro l
    induction l with
    | nil => intro a n _ h; simpa using h
    | cons c l ih =>
      intro a n h ha
      rw [List.foldl_cons]
      refine Nat.le_trans (ih _ (n + 1000) (fun c hc => h c (List.mem_cons_of_mem _ hc)) ?_) (by simp; omega)
      split
      · omega
      · rw [str_len_app]; have := (h c (List.mem_cons_self ..)).2.2; omega
  intro l h
  have := key l Str.empty 0 h (Nat.zero_le _)
  simpa [readV] using this
theorem readV_snoc {P : Params} (l : List Nat) (c : Nat) : readV P (l ++ [c]) = if setHas (o200_0 P) c then readV P l else readV P l ++ readP P c := by
  unfold readV; rw [List.foldl_append]; rfl
set_option maxHeartbeats 4000000 in
theorem law_read {w : World} {base : Addr → Option Obj} {k : Nat} (t : Top w base) {x : Str} (hx : ∀ c ∈ x.cps.toList, SignOk w.params c) (hlen : x.length ≤ 100) : CallP pw w base (k + 2) (.ref 263) [.str x] (.str (readV w.params x.cps.toList)) true := by
  refine call_own (fd := fdOf (o263_0 w.params)) (sp := [("text", .loc), ("clause", .loc), ("sign", .loc), ("letter", .loc)]) (names := ["text"]) (n := 3) (body := fBody (bd 17)) (fnAt t (o := o263_0 w.params) (oc := o262_0 w.params) (by kernel_rfl) rfl rfl (by kernel_rfl) rfl rfl) rfl rfl ?_ ⟨by kernel_rfl, by kernel_rfl, by kernel_rfl, by kernel_rfl, trivial⟩ (by decide) rfl rfl rfl ?_ (by kernel_rfl) (by kernel_rfl) (by kernel_rfl)
  · intro vals hv
    match vals, hv with
    | [v], _ => rfl
  · intro L base' os hb ok
    have t' := t.up hb
    have f := fr2_fn (fd := fdOf (o263_0 w.params)) (a := 263) (L := L) (sp := [("text", .loc), ("clause", .loc), ("sign", .loc), ("letter", .loc)]) (os := os) t' rfl rfl (by kernel_rfl)
    have hin := gl (x := "in_table_b1") f (by kernel_rfl) (v := .ref 210) (by kernel_rfl)
    have hmap := gl (x := "map_table_b3") f (by kernel_rfl) (v := .ref 256) (by kernel_rfl)
    have fnv : ∀ (b : Addr) (o : Obj) (fd : FuncData), (KK w.params).lookup b = some o → o.data = .func fd → ∀ a, Value.ref b = .ref a → ∃ o fd, base' a = some o ∧ o.data = .func fd := fun b o fd h1 h2 a e => by cases e; exact ⟨o, fd, t'.1 b o h1, h2⟩
    refine ex_then (ex_assign_iv (own := false) 1 (acc := none) rfl own_none ev_str (by rfl)) ?_
    refine ex_cons (P₁ := fun fl ρ' => fl = .next ∧ ∃ p q, ρ' = [(.str x, false), (.str (readV w.params x.cps.toList), false), p, q]) (ex_forM x.cps.toList (fun c => .at (.str ⟨#[c]⟩)) (fun done ρ' => ∃ p q, ρ' = [(.str x, false), (.str (readV w.params done), false), p, q]) (itj_str (ev_local 0 ok rfl rfl (by intro q; cases q))) ⟨_, _, rfl⟩ (fun ρ' h => ⟨rfl, h⟩) ?_) ?_ (fun fl ρ' h1 h2 => absurd h2.1 h1)
    · rintro done c rest ρ' hxs ⟨p, q, rfl⟩
      have hc := hx c (by rw [hxs]; simp)
      have hd := readV_len (P := w.params) (l := done) fun c hc => hx c (by rw [hxs]; simp [hc])
      have hdl : done.length ≤ 100 := by
        have : x.cps.toList.length ≤ 100 := by simpa [Str.length] using hlen
        rw [hxs] at this; simp at this; omega
      refine ⟨_, asg_name 2 (acc := none) rfl own_none, ?_⟩
      have e := readV_snoc (P := w.params) done c
      refine ex_one (ex_if (b := !setHas (o200_0 w.params) c) (eb_not (eb_call (ev_call (fr := true) (by rfl) hin (.cons (ev_local 2 ok rfl rfl (by intro q; cases q)) .nil) (in_table t') (fnv _ (o210_0 w.params) _ (by kernel_rfl) rfl)))) ?_)
      cases hs : setHas (o200_0 w.params) c with
      | true =>
        rw [hs, if_pos rfl] at e
        exact ex_nil ⟨_, _, by rw [e]; rfl⟩
      | false =>
        rw [hs] at e
        have e : readV w.params (done ++ [c]) = readV w.params done ++ readP w.params c := e
        refine ex_then (ex_assign_iv (own := false) 3 (acc := none) rfl own_none (ev_call (fr := true) (by rfl) hmap (.cons (ev_local 2 ok rfl rfl (by intro q; cases q)) .nil) (map_table t' hc.1) (fnv _ (o256_0 w.params) _ (by kernel_rfl) rfl)) (by rfl)) ?_
        refine ex_one (ex_mono (ex_aug_str (c := readP w.params c) (fr := false) (own' := false) 1 rfl rfl (ev_ifexp (c := (⟨#[c]⟩ : Str) == mapV c) (eb_cmp (by rfl) (ev_local 2 ok rfl rfl (by intro q; cases q)) (ev_local 3 ok rfl rfl (by intro q; cases q)) op_eq_str) ?_) ?_) fun fl ρ' ⟨h1, h2⟩ => ?_)
        · have er : readP w.params c = if (⟨#[c]⟩ : Str) == mapV c then mapV c else Txt.upper (mapV c) := by unfold readP; rw [hs]; rfl
          rw [er]
          cases hq : (⟨#[c]⟩ : Str) == mapV c with
          | true => exact EvJ.weaken (ev_local 3 ok rfl rfl (by intro q; cases q))
          | false => exact EvJ.weaken (ev_meth (by rfl) (by rfl) (by rfl) (by decide) (ev_local 3 ok rfl rfl (by intro q; cases q)) .nil .str m_upper (c_upper hc.2.1))
        · have := hc.2.2; have : (2:Nat)^24 = 16777216 := by decide
          show _ ≤ 2 ^ 24
          omega
        · subst h1 h2
          exact ⟨_, _, by rw [e]; rfl⟩
    · rintro ρ' ⟨_, p, q, rfl⟩
      exact ex_one (ex_return_iv (ev_local 1 ok rfl rfl (by intro q; cases q)) rfl)
end L2
namespace Wk
variable {prog : Program} {w : World}
/-- iterators that hand out tuples -/
theorem Iter.ofWalksT {A : Around} {es : List PySem.Expr} {kk : Nat} {tp : PySem.Pos} {B : Addr → Option Obj} {I : Addr} {fp wr : List Addr} {n : Nat} {Pt : Nat → Array Value → Prop} {St : Nat → Heap → Prop} {Mid : Nat → Addr → Heap → Prop} (W : WalksT prog w A I fp wr n Pt St Mid) (z : Bool) (l : List IV) (hn : n = l.length)
    (hB : ∀ a ∈ fp, a ∉ wr → ∃ o, B a = some o) (hstd : ∀ i h, St i h → ∀ a ∈ wr, ∃ o, h.get? a = some o) (hnt : z = false → ∀ i h, St i h → ∀ a ∈ wr, NT h a) (hval : ∀ i x T vals h', l[i]? = some x → Pt i vals → h'.IsTuple T vals → x.of h' (.ref T)) (hout : ∀ a ∈ wr, B a = none) :
    Iter prog w A (.Tuple es kk tp) z B I wr (fun rest h => Bh B h ∧ ∃ i, i ≤ n ∧ rest = l.drop i ∧ St i h) where
  std := fun _ h ⟨_, i, _, _, st⟩ a ha => hstd i h st a ha
  nt := fun hz _ h ⟨_, i, _, _, st⟩ a ha => hnt hz i h st a ha
  frm := fun rest h h' ⟨hb, i, hi, e, st⟩ k1 k2 => ⟨k2, i, hi, e, W.frame i h h' st fun a ha o ho => by
    by_cases q : a ∈ wr
    · exact k1 a q o ho
    · obtain ⟨o', ho'⟩ := hB a ha q
      have := hb a o' ho'
      rw [ho] at this; cases this
      exact k2 a o ho'⟩
  item := fun x rest s Q E ⟨hb, i, hi, e, st⟩ _ hQ => by
    have hlt : i < n := by
      rcases Nat.lt_or_ge i n with h | h
      · exact h
      · rw [List.drop_eq_nil_of_le (by omega)] at e; cases e
    have hx : l[i]? = some x := by
      have := congrArg (fun l => l[0]?) e
      simpa using this.symm
    refine W.item i s _ _ hlt st fun T vals h' tk hP hT hTup hMid hk => ⟨.ref T, rfl, W.go es kk tp i T _ _ _ hMid fun h'' st' hk' => ?_⟩
    have hk' : ∀ b o, b ∉ wr → h'.get? b = some o → h''.get? b = some o := hk'
    have hb' : Bh B h'' := fun a o ho => hk' a o (fun q => by rw [hout a q] at ho; cases ho) (hk a o (fun q => by rw [hout a q] at ho; cases ho) (hb a o ho))
    have hTup' : h''.IsTuple T vals := by
      obtain ⟨o, ho, r⟩ := hTup
      exact ⟨o, hk' T o (W.apart i T h' hMid) ho, r⟩
    refine hQ (.ref T) h'' tk (fun a o ha ho => hk' a o ha (hk a o ha ho)) (hval i x T vals h'' hx hP hTup') ⟨hb', i + 1, hlt, ?_, st'⟩
    have := congrArg List.tail e
    simpa using this
  done := fun s Q E ⟨hb, i, hi, e, st⟩ _ hQ => by
    have hin : i = n := by
      rcases Nat.lt_or_ge i n with h | h
      · have : (l.drop i).length = 0 := by rw [← e]; rfl
        rw [List.length_drop] at this; omega
      · omega
    subst hin
    exact W.done s Q E st fun h' tk hk => hQ h' tk fun a o ha ho => hk a o ha ho
  self := fun rest s Q E ⟨hb, i, hi, e, st⟩ hQ => W.self i s Q E st hQ
section
variable {F : Fm} {ρ : Rho} {k : Nat}
def enumIV (l : List At) : List IV := l.zipIdx.map fun p => .tup [.int (p.2 : Int), p.1]
theorem listIter_fields {h : Heap} {a l : Addr} {i : Nat} (x : h.IsListIter a l i) : ∃ o vs, h.get? a = some o ∧ o.data = .fields vs := by
  obtain ⟨o, ho, _, hd⟩ := x
  exact ⟨o, _, ho, hd⟩
theorem ivs_at {h : Heap} {l : List At} {vs : List Value} {i : Nat} {a : At} {v : Value} (hi : IVs h (l.map .at) vs) (ha : l[i]? = some a) (hv : vs[i]? = some v) : a.of v := by
  obtain ⟨v', h1, h2⟩ := hi.get (i := i) (x := .at a) (by simp [ha])
  rw [hv] at h1; cases h1
  exact h2
theorem itj_enum {np pos tp : PySem.Pos} {es : List PySem.Expr} {kk : Nat} {e : PySem.Expr} {l : List At} (hs : starEach [e] F.env = plainArgs [e] F.env) (g : Glob prog w F ("enumerate" : Str) (.type "enumerate")) (h : SrcL prog w F ρ k e (l.map .at)) :
    ItJ prog w F ρ k false (.Tuple es kk tp) (.Call (.Name "enumerate" np) [e] [] pos) (enumIV l) := fun b r lf ok A s rm I => by
  refine bi_call hs g (fun a e => nomatch e) (I.down lf).keep ?_
  refine Calls.spliced_cons (wpAny_mono (h b r lf ok A s s rm (Ext.refl s) I) (fun v s₁ ⟨x, L, vs, e1, hl, hi, hb⟩ => Calls.spliced_nil ?_) fun _ _ e => e)
  subst e1
  refine call_enumerate_list hl.isList fun h' he hit hsz hk => ?_
  have x₂ : Ext s₁ { s₁ with heap := h' } := ⟨⟨rfl, rfl⟩, hk⟩
  have fX : Fresh s [s₁.heap.objs.size + 1, s₁.heap.objs.size] := fun a ha => by
    rcases List.mem_cons.mp ha with rfl | ha
    · exact fresh_size x (Nat.le_succ _)
    · rw [List.mem_singleton.mp ha]; exact fresh_size x (Nat.le_refl _)
  have hLs : L < s₁.heap.objs.size := by obtain ⟨o, _, ho, _⟩ := hl; exact Heap.lt_size ho
  have hstd : ∀ {i : Nat} {hp : Heap}, ((∃ old, IsEnum hp (s₁.heap.objs.size + 1) s₁.heap.objs.size i old) ∧ hp.IsListIter s₁.heap.objs.size L i ∧ hp.IsList L vs.toArray) → ∀ a ∈ [s₁.heap.objs.size + 1, s₁.heap.objs.size], ∃ o vs, hp.get? a = some o ∧ o.data = .fields vs := fun {i hp} st a ha => by
    rcases List.mem_cons.mp ha with rfl | ha
    · obtain ⟨⟨old, he⟩, _⟩ := st; exact ⟨_, _, he, rfl⟩
    · rw [List.mem_singleton.mp ha]; exact listIter_fields st.2.1
  have st0 : (∃ old, IsEnum h' (s₁.heap.objs.size + 1) s₁.heap.objs.size ((0 : Nat) : Int) old) ∧ h'.IsListIter s₁.heap.objs.size L 0 ∧ h'.IsList L vs.toArray := ⟨⟨_, he⟩, hit, hl.isList.at fun o e => hk _ _ e⟩
  obtain ⟨b₂, fz⟩ := Inv.freeze ok I (x.trans x₂) fX fun a ha => let ⟨o, _, ho, _⟩ := hstd (i := 0) st0 a ha; ⟨o, ho⟩
  obtain ⟨oL, hoL⟩ := hb _ _ b₂ x₂ fz (by simp; exact ⟨Nat.ne_of_lt (Nat.lt_succ_of_lt hLs), Nat.ne_of_lt hLs⟩)
  have bk : Bh b₂ h' := fun a o e => fz.inv.keep a o ((plus_out fun q => by rw [fz.out a q] at e; cases e).trans e)
  refine wpAny_pyIter_enum he ⟨x.trans x₂, s₁.heap.objs.size + 1, [s₁.heap.objs.size + 1, s₁.heap.objs.size], b₂, _, rfl, fz.le, fz.out, fz.ok, fz.inv, fX, ⟨bk, 0, Nat.zero_le _, rfl, st0⟩,
    Iter.ofWalksT (WalksT.enumerate rm.handled _ _ L (Nat.succ_ne_self _) (Nat.ne_of_lt (Nat.lt_succ_of_lt hLs)) (Nat.ne_of_lt hLs) vs.toArray) false (enumIV l) (by rw [List.size_toArray, hi.length]; simp [enumIV]) (fun a ha ha' => ?_) (fun i hp st a ha => let ⟨o, _, ho, _⟩ := hstd st a ha; ⟨o, ho⟩) (fun _ i hp st a ha => NT.fields (hstd st a ha)) (fun i y T vals hp hy ⟨t, v, hP, e2⟩ hT => ?_) fz.out⟩
  · simp at ha ha'
    rcases ha with rfl | rfl | rfl
    · exact absurd rfl ha'.1
    · exact absurd rfl ha'.2
    · exact ⟨oL, hoL⟩
  · subst e2
    unfold enumIV at hy
    rw [List.getElem?_map, List.getElem?_zipIdx] at hy
    cases hq : l[i]? with
    | none => rw [hq] at hy; cases hy
    | some a =>
      rw [hq] at hy
      have hy : IV.tup [.int ((0 + i : Nat) : Int), a] = y := by simpa using hy
      subst hy
      refine ⟨T, [.int i t, v], rfl, hT, ⟨t, by simp⟩, ?_, trivial⟩
      exact ivs_at hi hq (by simpa using hP)
def zipIV (l l' : List At) : List IV := (l.zip l').map fun p => .tup [p.1, p.2]
theorem itj_zip {np pos tp : PySem.Pos} {es : List PySem.Expr} {kk : Nat} {e e' : PySem.Expr} {l l' : List At} (hs : starEach [e, e'] F.env = plainArgs [e, e'] F.env) (g : Glob prog w F ("zip" : Str) (.type "zip")) (h : SrcL prog w F ρ k e (l.map .at)) (h' : SrcL prog w F ρ k e' (l'.map .at)) :
    ItJ prog w F ρ k true (.Tuple es kk tp) (.Call (.Name "zip" np) [e, e'] [] pos) (zipIV l l') := fun b r lf ok A s rm I => by
  refine bi_call hs g (fun a e => nomatch e) (I.down lf).keep ?_
  refine Calls.spliced_cons (wpAny_mono (h b r lf ok A s s rm (Ext.refl s) I) (fun v s₁ ⟨x, L, vs, e1, hl, hi, hb⟩ => ?_) fun _ _ e => e)
  subst e1
  refine Calls.spliced_cons (wpAny_mono (h' b r lf ok A s₁ s rm x I) (fun v s₂ ⟨x', L', vs', e1', hl', hi', hb'⟩ => Calls.spliced_nil ?_) fun _ _ e => e)
  subst e1'
  have hl := hl.keeps x'.2
  have hi := hi.keep x'.2
  refine call_zip_2 hl.isList hl'.isList fun hp hz hTI hTO h1 h2 hsz hk => ?_
  have x₂ : Ext s₂ { s₂ with heap := hp } := ⟨⟨rfl, rfl⟩, hk⟩
  have x₀ : Ext s s₂ := x.trans x'
  have fX : Fresh s [s₂.heap.objs.size + 4, s₂.heap.objs.size + 3, s₂.heap.objs.size, s₂.heap.objs.size + 1] := fun a ha => by
    simp at ha
    rcases ha with rfl | rfl | rfl | rfl <;> exact fresh_size x₀ (by omega)
  have hLs : L < s₂.heap.objs.size := by obtain ⟨o, _, ho, _⟩ := hl; exact Heap.lt_size ho
  have hLs' : L' < s₂.heap.objs.size := by obtain ⟨o, _, ho, _⟩ := hl'; exact Heap.lt_size ho
  have D := zipApart_new hLs hLs'
  have nl : ∀ (j : Nat) {a : Addr}, a < s₂.heap.objs.size → a ≠ s₂.heap.objs.size + j := fun j a h => Nat.ne_of_lt (Nat.lt_of_lt_of_le h (Nat.le_add_right _ j))
  have W := WalksT.zip2 (prog := prog) (w := w) rm.handled _ _ _ _ _ L L' D vs.toArray vs'.toArray
  have hstd : ∀ {i : Nat} {hq : Heap}, (IsZip hq (s₂.heap.objs.size + 4) (s₂.heap.objs.size + 2) (s₂.heap.objs.size + 3) .none ∧ IsPair hq (s₂.heap.objs.size + 2) (.ref s₂.heap.objs.size) (.ref (s₂.heap.objs.size + 1)) ∧ (∃ a b, IsPair hq (s₂.heap.objs.size + 3) a b) ∧ hq.IsListIter s₂.heap.objs.size L i ∧ hq.IsListIter (s₂.heap.objs.size + 1) L' i ∧ hq.IsList L vs.toArray ∧ hq.IsList L' vs'.toArray) →
      ∀ a ∈ [s₂.heap.objs.size + 4, s₂.heap.objs.size + 3, s₂.heap.objs.size, s₂.heap.objs.size + 1], ∃ o, hq.get? a = some o := fun {i hq} st a ha => by
    simp at ha
    rcases ha with rfl | rfl | rfl | rfl
    · exact ⟨_, st.1⟩
    · obtain ⟨a, b, q⟩ := st.2.2.1; exact ⟨_, q⟩
    · obtain ⟨o, _, ho, _⟩ := listIter_fields st.2.2.2.1; exact ⟨o, ho⟩
    · obtain ⟨o, _, ho, _⟩ := listIter_fields st.2.2.2.2.1; exact ⟨o, ho⟩
  have st0 := (⟨hz, hTI, ⟨_, _, hTO⟩, h1, h2, hl.isList.at fun o e => hk _ _ e, hl'.isList.at fun o e => hk _ _ e⟩ : IsZip hp (s₂.heap.objs.size + 4) (s₂.heap.objs.size + 2) (s₂.heap.objs.size + 3) .none ∧ IsPair hp (s₂.heap.objs.size + 2) (.ref s₂.heap.objs.size) (.ref (s₂.heap.objs.size + 1)) ∧ (∃ a b, IsPair hp (s₂.heap.objs.size + 3) a b) ∧ hp.IsListIter s₂.heap.objs.size L 0 ∧ hp.IsListIter (s₂.heap.objs.size + 1) L' 0 ∧ hp.IsList L vs.toArray ∧ hp.IsList L' vs'.toArray)
  obtain ⟨b₂, fz⟩ := Inv.freeze ok I (x₀.trans x₂) fX fun a ha => hstd (i := 0) st0 a ha
  obtain ⟨oL, hoL⟩ := hb _ _ b₂ (x'.trans x₂) fz (by simp; exact ⟨nl 4 hLs, nl 3 hLs, Nat.ne_of_lt hLs, nl 1 hLs⟩)
  obtain ⟨oL', hoL'⟩ := hb' _ _ b₂ x₂ fz (by simp; exact ⟨nl 4 hLs', nl 3 hLs', Nat.ne_of_lt hLs', nl 1 hLs'⟩)
  have bk : Bh b₂ hp := fun a o e => fz.inv.keep a o ((plus_out fun q => by rw [fz.out a q] at e; cases e).trans e)
  refine wpAny_pyIter_zip hz ⟨x₀.trans x₂, s₂.heap.objs.size + 4, [s₂.heap.objs.size + 4, s₂.heap.objs.size + 3, s₂.heap.objs.size, s₂.heap.objs.size + 1], b₂, _, rfl, fz.le, fz.out, fz.ok, fz.inv, fX, ⟨bk, 0, Nat.zero_le _, rfl, st0⟩,
    Iter.ofWalksT W true (zipIV l l') (by rw [List.size_toArray, List.size_toArray, hi.length, hi'.length]; simp [zipIV]) (fun a ha ha' => ?_) (fun i hq st a ha => hstd st a ha) (fun q => nomatch q) (fun i y T vals hq hy ⟨v, v', hP, hP', e2⟩ hT => ?_) fz.out⟩
  · simp at ha ha'
    rcases ha with rfl | rfl | rfl | rfl | rfl | rfl | rfl
    · exact absurd rfl ha'.1
    · exact ⟨_, fz.new _ _ hTI (by simp) (fresh_size x₀ (by omega))⟩
    · exact absurd rfl ha'.2.1
    · exact absurd rfl ha'.2.2.1
    · exact absurd rfl ha'.2.2.2
    · exact ⟨oL, hoL⟩
    · exact ⟨oL', hoL'⟩
  · subst e2
    unfold zipIV at hy
    rw [List.getElem?_map] at hy
    cases hq : (l.zip l')[i]? with
    | none => rw [hq] at hy; cases hy
    | some p =>
      rw [hq] at hy
      have hy : IV.tup [p.1, p.2] = y := by simpa using hy
      subst hy
      obtain ⟨q1, q2⟩ := List.getElem?_zip_eq_some.mp hq
      exact ⟨T, [v, v'], rfl, hT, ivs_at hi q1 (by simpa using hP), ivs_at hi' q2 (by simpa using hP'), trivial⟩
end
section
variable {k : Nat} {F : Fm} {ρ : Rho}
theorem op_floordiv_int {x y : Int} (h : y ≠ 0) (hy : y.natAbs < 1073741824) : Op2 (prog := prog) (w := w) k (binaryOp .FloorDiv) (.int x) (.int y) (.int (x.fdiv y)) true := fun A s a b fa fb _ _ ⟨⟨t, ha⟩, _⟩ ⟨⟨u, hb⟩, _⟩ => by
  subst ha hb; exact floordiv_int h giv_int
theorem op_pow_int {x : Int} {n : Int} (hn : 0 ≤ n) (hn2 : n ≤ 1000) (ha : x.natAbs < 2 ^ 64) : Op2 (prog := prog) (w := w) k (binaryOp .Pow) (.int x) (.int n) (.int (x ^ n.toNat)) true := fun A s a b fa fb _ _ ⟨⟨t, ha'⟩, _⟩ ⟨⟨u, hb⟩, _⟩ => by
  subst ha' hb; exact pow_int_small hn (by omega) ha giv_int
theorem ev_neg {e : PySem.Expr} {pos : PySem.Pos} {i : Int} {f fr : Bool} (h : EvJ prog w F ρ k e (.int i) f) : EvJ prog w F ρ k (.UnaryOp .USub e pos) (.int (-i)) fr := fun A s rm I => by
  refine wpAny_UnaryOp (wpAny_mono (h A s rm I) (fun v s₁ ⟨x, fp, ⟨⟨t, e1⟩, _⟩, _⟩ => ?_) fun _ _ e => e)
  subst e1
  exact neg_int (give_trans x giv_int)
end
open PySem.Sre PySem.Builtin.Re
theorem runFor_done : ∀ (n : Nat) (m : Sre.M), m.outcome.isSome = true → m.runFor n = m
  | 0, _, _ => rfl
  | n + 1, m, h => by
    unfold M.runFor
    rw [if_pos h]
theorem runFor_add : ∀ (a b : Nat) (m : Sre.M), m.runFor (a + b) = (m.runFor a).runFor b
  | 0, b, m => by rw [Nat.zero_add]; rfl
  | a + 1, b, m => by
    have e : ∀ n (m : Sre.M), m.runFor (n + 1) = if m.outcome.isSome = true then m else m.step.runFor n := fun n m => rfl
    rw [Nat.succ_add, e, e]
    by_cases h : m.outcome.isSome = true
    · rw [if_pos h, if_pos h]
      exact (runFor_done b m h).symm
    · rw [if_neg h, if_neg h]
      exact runFor_add a b m.step
section
variable {prog : Program} {w : World} {A : Around} {s : Shared}
theorem drive_wp {E : Value → Shared → Prop} {Q : Sre.M → Shared → Prop} : ∀ (turns N : Nat) (m m' : Sre.M), m.runFor N = m' → m'.outcome.isSome = true → N < 4 * turns → Q m' s → wpAny (model prog w) A (reDrive turns m) Q E s
  | 0, N, m, m', h1, h2, h3, hq => absurd h3 (by omega)
  | t + 1, N, m, m', h1, h2, h3, hq => by
    unfold reDrive
    show wpAny _ _ (if (m.runFor 4).outcome.isSome = true then pure (m.runFor 4) else do rule "sre.turn"; reDrive t (m.runFor 4)) _ _ _
    rcases Nat.le_total N 4 with h | h
    · have e : m.runFor 4 = m' := by
        obtain ⟨d, hd⟩ := Nat.exists_eq_add_of_le h
        rw [hd, runFor_add, h1]
        exact runFor_done _ _ h2
      rw [e, if_pos h2]
      exact wpAny_pure hq
    · obtain ⟨d, rfl⟩ := Nat.exists_eq_add_of_le h
      rw [runFor_add] at h1
      by_cases h4 : (m.runFor 4).outcome.isSome = true
      · rw [if_pos h4]
        rw [runFor_done d _ h4] at h1
        rw [h1]
        exact wpAny_pure hq
      · rw [if_neg h4]
        exact wpAny_bind (wpAny_rule (drive_wp t d _ m' h1 h2 (by omega) hq))
theorem toEnd_wp {E : Value → Shared → Prop} {Q : Option Sre.M → Shared → Prop} {m m' : Sre.M} {N : Nat} (h : m.runFor N = m') (hN : N ≤ 2 ^ 60) (hq : (m'.outcome = some .matched ∧ Q (some m') s) ∨ (m'.outcome = some .failed ∧ Q none s)) : wpAny (model prog w) A (reRunToEnd m) Q E s := by
  have ho : m'.outcome.isSome = true := by rcases hq with ⟨h, _⟩ | ⟨h, _⟩ <;> rw [h] <;> rfl
  unfold reRunToEnd
  refine wpAny_bind (drive_wp (2 ^ 64) N m m' h ho (by omega) ?_)
  refine wpAny_bind ?_
  refine wpAny_forIn_list _ (fun _ _ s' => s' = s) _ ?_ ?_ _ _ rfl
  · rintro i rest _ s' rfl
    by_cases hi : m'.seen.has i = true
    · rw [if_pos hi]
      exact wpAny_bind (wpAny_rule (wpAny_pure rfl))
    · rw [if_neg hi]
      exact wpAny_pure rfl
  · rintro _ s' rfl
    rcases hq with ⟨h, hq⟩ | ⟨h, hq⟩ <;> rw [h] <;> exact wpAny_pure hq
end
open PySem.Sre PySem.Builtin.Re
def C2 : Array Nat := #[14, 9, 4, 1, 2, 16, 10, 16, 13, 0, 7, 7, 16, 13, 16, 10, 15, 18, 5, 16, 10, 15, 13, 11, 16, 13, 5, 5, 0, 16, 10, 1, 15, 2, 0, 1]
def C1 : Array Nat := #[14, 4, 0, 1, 1, 6, 1, 16, 46, 1]
/-- a machine on a pattern without groups -/
abbrev mk (code text : Array Nat) (lim start last pc pos handed : Nat) (om : Bool) (frames : List Sre.Frame) (weight : Nat) (ans : Option Bool) (seen : Sre.Seen) : Sre.M :=
  { code, text, lim, start, lastStart := last, pc, pos, handed, outermost := om, marks := #[], frames, weight, answer := ans, seen }
theorem op_lit : ops[16]? = some .LITERAL := rfl
theorem lit_step {code text : Array Nat} {lim start last pc pos handed : Nat} {om : Bool} {frames : List Sre.Frame} {weight : Nat} {seen : Sre.Seen} (hpc : pc < code.size) (hw : code.getD pc 0 = 16) :
    (mk code text lim start last pc pos handed om frames weight none seen).step = if pos ≥ lim then mk code text lim start last pc pos handed om frames weight (some false) (seen.add 16) else
      if text.getD pos 0 = code.getD (pc + 1) 0 then mk code text lim start last (pc + 2) (pos + 1) handed om frames weight none (seen.add 16) else mk code text lim start last pc pos handed om frames weight (some false) (seen.add 16) := by
  unfold M.step
  show (if pc < code.size then _ else _) = _
  rw [if_pos hpc]
  unfold M.exec
  have e : M.word (mk code text lim start last pc pos handed om frames weight none seen) 0 = 16 := hw
  rw [e, op_lit]
  dsimp only
  by_cases h : pos ≥ lim
  · rw [if_pos h, if_pos h]; rfl
  · rw [if_neg h, if_neg h]
    have ea : accepts code pc (text.getD pos 0) (seen.add 16) = .ok (text.getD pos 0 == code.getD (pc + 1) 0, seen.add 16) := by
      unfold accepts
      rw [hw, op_lit]
    rw [ea]
    by_cases hc : text.getD pos 0 = code.getD (pc + 1) 0
    · rw [if_pos hc, beq_iff_eq.mpr hc]
      have ei : itemWidth code pc = 2 := by unfold itemWidth; rw [hw, op_lit]
      show { mk code text lim start last pc pos handed om frames weight none (seen.add 16) with pc := pc + itemWidth code pc, pos := pos + 1 } = _
      rw [ei]
    · rw [if_neg hc, beq_eq_false_iff_ne.mpr hc]; rfl
open PySem.Sre PySem.Builtin.Re
theorem run_step (n : Nat) (m : Sre.M) (h : m.outcome = none) : m.runFor (n + 1) = m.step.runFor n := by
  show (if m.outcome.isSome = true then m else m.step.runFor n) = _
  rw [h]; rfl
def bol (text : Array Nat) (s : Nat) : Bool := s == 0 || text.getD (s - 1) 0 == 10
theorem at_step1 {text : Array Nat} {lim start last pos handed : Nat} {om : Bool} {frames : List Sre.Frame} {weight : Nat} {seen : Sre.Seen} : ∃ seen',
    (mk C1 text lim start last 5 pos handed om frames weight none seen).step = if bol text pos = true then mk C1 text lim start last 7 pos handed om frames weight none seen' else mk C1 text lim start last 5 pos handed om frames weight (some false) seen' := by
  refine ⟨(seen.add 6).add 44, ?_⟩
  have e : (mk C1 text lim start last 5 pos handed om frames weight none seen).step = (let m : Sre.M := { mk C1 text lim start last 5 pos handed om frames weight none seen with seen := seen.add 6 }
      match m.isAt 1 with
      | .error why => m.stick why
      | .ok yes => let m := { m with seen := m.seen.add 44 }; if yes then { m with pc := m.pc + 2 } else m.say false) := rfl
  rw [e]
  have e2 : ∀ m : Sre.M, m.isAt 1 = .ok (m.pos == 0 || m.text.getD (m.pos - 1) 0 == 10) := fun m => rfl
  dsimp only
  rw [e2]
  show (if bol text pos = true then _ else _) = _
  by_cases h : bol text pos = true
  · rw [if_pos h, if_pos h]
  · rw [if_neg h, if_neg h]; rfl
/-- one try at s -/
abbrev nsFrame (pc s : Nat) (om : Bool) : Sre.Frame := { wait := .nextStart, pc, pos := s, outermost := om }
theorem no_step1 {text : Array Nat} {lim s pc pos handed : Nat} {om o2 : Bool} {seen : Sre.Seen} : (mk C1 text lim s lim pc pos handed o2 [nsFrame 5 s om] 1 (some false) seen).step =
    if s < lim then mk C1 text lim (s + 1) lim 5 (s + 1) (s + 1) false [nsFrame 5 (s + 1) false] 1 none seen else mk C1 text lim s lim 5 s handed om [] 0 (some false) seen := by
  have e : (mk C1 text lim s lim pc pos handed o2 [nsFrame 5 s om] 1 (some false) seen).step = if s < lim then (mk C1 text lim s lim 5 s handed om [] 0 none seen).attemptFrom (s + 1) false else (mk C1 text lim s lim 5 s handed om [] 0 none seen).say false := rfl
  rw [e]
  by_cases h : s < lim
  · rw [if_pos h, if_pos h]; rfl
  · rw [if_neg h, if_neg h]; rfl
theorem yes_step {code text : Array Nat} {lim s last pc pc0 pos handed : Nat} {om o2 : Bool} {seen : Sre.Seen} : (mk code text lim s last pc pos handed o2 [nsFrame pc0 s om] 1 (some true) seen).step = mk code text lim s last pc0 s handed om [] 0 (some true) seen := rfl
theorem fin_step {code text : Array Nat} {lim s last pc pos handed : Nat} {om : Bool} {wt : Nat} {seen : Sre.Seen} {b : Bool} : (mk code text lim s last pc pos handed om [] wt (some b) seen).step = { mk code text lim s last pc pos handed om [] wt (some b) seen with outcome := some (if b then .matched else .failed) } := rfl
theorem succ_step1 {text : Array Nat} {lim s pos handed : Nat} {om : Bool} {fr : List Sre.Frame} {wt : Nat} {seen : Sre.Seen} : (mk C1 text lim s lim 9 pos handed om fr wt none seen).step = mk C1 text lim s lim 9 pos pos om fr wt (some true) (seen.add 1) := by
  have e : (mk C1 text lim s lim 9 pos handed om fr wt none seen).step = if (om && ((false && pos != lim) || (false && pos == s))) = true then (mk C1 text lim s lim 9 pos handed om fr wt none (seen.add 1)).say false else (mk C1 text lim s lim 9 pos pos om fr wt none (seen.add 1)).say true := rfl
  rw [e, if_neg (by cases om <;> simp)]
  rfl
abbrev Done (b : Bool) (m : Sre.M) : Sre.M := { m with outcome := some (if b then .matched else .failed) }
theorem try1 {text : Array Nat} {lim s : Nat} {om : Bool} {seen : Sre.Seen} : ∃ n seen' om', n ≤ 8 ∧
    ∀ k, (mk C1 text lim s lim 5 s s om [nsFrame 5 s om] 1 none seen).runFor (n + k) = if bol text s = true ∧ s < lim ∧ text.getD s 0 = 46 then Done true (mk C1 text lim s lim 5 s (s + 1) om' [] 0 (some true) seen')
      else if s < lim then (mk C1 text lim (s + 1) lim 5 (s + 1) (s + 1) false [nsFrame 5 (s + 1) false] 1 none seen').runFor k
      else Done false (mk C1 text lim s lim 5 s s om' [] 0 (some false) seen') := by
  obtain ⟨seen1, h1⟩ := at_step1 (text := text) (lim := lim) (start := s) (last := lim) (pos := s) (handed := s) (om := om) (frames := [nsFrame 5 s om]) (weight := 1) (seen := seen)
  have no : ∀ pc seen', bol text s = false ∨ ¬ s < lim ∨ text.getD s 0 ≠ 46 → ∀ k, (mk C1 text lim s lim pc s s om [nsFrame 5 s om] 1 (some false) seen').runFor (2 + k) = if bol text s = true ∧ s < lim ∧ text.getD s 0 = 46 then Done true (mk C1 text lim s lim 5 s (s + 1) om [] 0 (some true) seen')
      else if s < lim then (mk C1 text lim (s + 1) lim 5 (s + 1) (s + 1) false [nsFrame 5 (s + 1) false] 1 none seen').runFor (k + 1)
      else Done false (mk C1 text lim s lim 5 s s om [] 0 (some false) seen') := fun pc seen' hn k => by
    rw [if_neg (by
      rintro ⟨a, b, c⟩
      rcases hn with h | h | h
      · rw [a] at h; cases h
      · exact h b
      · exact h c)]
    rw [show 2 + k = (k + 1) + 1 by omega, run_step _ _ rfl, no_step1]
    by_cases h : s < lim
    · rw [if_pos h, if_pos h]
    · rw [if_neg h, if_neg h, run_step _ _ rfl, fin_step]
      exact runFor_done _ _ rfl
  by_cases hb : bol text s = true
  · rw [if_pos hb] at h1
    have h2 := lit_step (code := C1) (text := text) (lim := lim) (start := s) (last := lim) (pc := 7) (pos := s) (handed := s) (om := om) (frames := [nsFrame 5 s om]) (weight := 1) (seen := seen1) (by decide) rfl
    by_cases hl : s < lim
    · rw [if_neg (by omega)] at h2
      by_cases hc : text.getD s 0 = 46
      · rw [if_pos (show text.getD s 0 = C1.getD (7 + 1) 0 from hc)] at h2
        refine ⟨5, (seen1.add 16).add 1, om, by omega, fun k => ?_⟩
        rw [if_pos ⟨hb, hl, hc⟩, show 5 + k = k + 1 + 1 + 1 + 1 + 1 by omega, run_step _ _ rfl, h1, run_step _ _ rfl, h2, run_step _ _ rfl, succ_step1, run_step _ _ rfl, yes_step, run_step _ _ rfl, fin_step]
        exact runFor_done _ _ rfl
      · rw [if_neg (show ¬ text.getD s 0 = C1.getD (7 + 1) 0 from hc)] at h2
        refine ⟨3, seen1.add 16, om, by omega, fun k => ?_⟩
        have := no 7 (seen1.add 16) (.inr (.inr hc)) k
        rw [if_neg (fun q => hc q.2.2), if_pos hl] at this ⊢
        rw [show 3 + k = k + 1 + 1 + 1 by omega, run_step _ _ rfl, h1, run_step _ _ rfl, h2, run_step _ _ rfl, no_step1, if_pos hl]
    · rw [if_pos (by omega)] at h2
      refine ⟨4, seen1.add 16, om, by omega, fun k => ?_⟩
      rw [if_neg (fun q => hl q.2.1), if_neg hl, show 4 + k = k + 1 + 1 + 1 + 1 by omega, run_step _ _ rfl, h1, run_step _ _ rfl, h2, run_step _ _ rfl, no_step1, if_neg hl, run_step _ _ rfl, fin_step]
      exact runFor_done _ _ rfl
  · rw [if_neg hb] at h1
    by_cases hl : s < lim
    · refine ⟨2, seen1, om, by omega, fun k => ?_⟩
      rw [if_neg (fun q => hb q.1), if_pos hl, show 2 + k = k + 1 + 1 by omega, run_step _ _ rfl, h1, run_step _ _ rfl, no_step1, if_pos hl]
    · refine ⟨3, seen1, om, by omega, fun k => ?_⟩
      rw [if_neg (fun q => hb q.1), if_neg hl, show 3 + k = k + 1 + 1 + 1 by omega, run_step _ _ rfl, h1, run_step _ _ rfl, no_step1, if_neg hl, run_step _ _ rfl, fin_step]
      exact runFor_done _ _ rfl
/-- the next place from s on -/
def nextP (P : Nat → Bool) (lim : Nat) : Nat → Nat → Option Nat
  | 0, _ => none
  | f + 1, s => if s < lim then (if P s then some s else nextP P lim f (s + 1)) else none
def dotAt (text : Array Nat) (s : Nat) : Bool := bol text s && text.getD s 0 == 46
theorem scan1 {text : Array Nat} {lim : Nat} : ∀ (f s : Nat) (om : Bool) (seen : Sre.Seen), lim < s + f → s ≤ lim → ∃ n m', n ≤ 8 * f ∧ (mk C1 text lim s lim 5 s s om [nsFrame 5 s om] 1 none seen).runFor n = m' ∧
    match nextP (dotAt text) lim f s with
    | some i => m'.outcome = some .matched ∧ m'.start = i ∧ m'.handed = i + 1
    | none => m'.outcome = some .failed
  | 0, s, om, seen, h, hs => absurd h (by omega)
  | f + 1, s, om, seen, h, hs => by
    obtain ⟨n, seen', om', h1, h2⟩ := try1 (text := text) (lim := lim) (s := s) (om := om) (seen := seen)
    by_cases hl : s < lim
    · by_cases hd : dotAt text s = true
      · have hd2 : bol text s = true ∧ text.getD s 0 = 46 := by
          have : (bol text s && text.getD s 0 == 46) = true := hd
          rw [Bool.and_eq_true, beq_iff_eq] at this; exact this
        have h9 := h2 0
        rw [if_pos ⟨hd2.1, hl, hd2.2⟩, Nat.add_zero] at h9
        refine ⟨n, _, by omega, h9, ?_⟩
        unfold nextP
        rw [if_pos hl, if_pos hd]
        exact ⟨rfl, rfl, rfl⟩
      · have h8 : lim < s + 1 + f := by omega
        obtain ⟨n2, m', h3, h4, h5⟩ := scan1 f (s + 1) false seen' h8 hl
        refine ⟨n + n2, m', by omega, ?_, ?_⟩
        · rw [h2 n2, if_neg (fun q => hd (by show (bol text s && text.getD s 0 == 46) = true; rw [q.1, q.2.2]; rfl)), if_pos hl]; exact h4
        · unfold nextP
          rw [if_pos hl, if_neg hd]
          exact h5
    · have h9 := h2 0
      rw [if_neg (fun q => hl q.2.1), if_neg hl, Nat.add_zero] at h9
      refine ⟨n, _, by omega, h9, ?_⟩
      unfold nextP
      rw [if_neg hl]
      rfl
open PySem.Sre PySem.Builtin.Re
def Found (P : Nat → Bool) (lim s : Nat) (m' : Sre.M) : Prop := match nextP P lim (lim + 1 - s) s with
  | some i => m'.outcome = some .matched ∧ m'.start = i ∧ m'.handed = i + 1
  | none => m'.outcome = some .failed
theorem nextP_end {P : Nat → Bool} {lim : Nat} : ∀ f, nextP P lim f lim = none
  | 0 => rfl
  | f + 1 => by unfold nextP; rw [if_neg (Nat.lt_irrefl _)]
theorem search1 {text : Array Nat} {lim s : Nat} (hs : s ≤ lim) : ∃ n m', n ≤ 8 * (lim + 2) ∧ (forSearch C1 text 0 s lim false).runFor n = m' ∧ Found (dotAt text) lim s m' := by
  have e : forSearch C1 text 0 s lim false = if (decide (s > lim) || decide (lim - s < 1)) = true then mk C1 text lim s 0 5 s s true [] 0 (some false) (({} : Sre.Seen).add 14) else mk C1 text lim s lim 5 s s true [nsFrame 5 s true] 1 none (({} : Sre.Seen).add 14) := rfl
  by_cases hl : s < lim
  · rw [e, if_neg (by simp; omega)]
    obtain ⟨n, m', h1, h2, h3⟩ := scan1 (text := text) (lim := lim) (lim + 1 - s) s true (({} : Sre.Seen).add 14) (by omega) hs
    exact ⟨n, m', by omega, h2, h3⟩
  · have : s = lim := by omega
    subst this
    rw [e, if_pos (by simp)]
    refine ⟨1, _, by omega, by rw [run_step _ _ rfl, fin_step], ?_⟩
    unfold Found
    rw [nextP_end]; rfl
theorem inSet2 (c : Nat) (seen : Sre.Seen) : ∃ seen', inSet C2 c C2.size 5 true seen = .ok (c == 10 || c == 13, seen') := by
  have e : inSet C2 c C2.size 5 true seen = if (c == 10) = true then .ok (true, seen.add 16) else if (c == 13) = true then .ok (true, (seen.add 16).add 16) else .ok (false, ((seen.add 16).add 16).add 0) := rfl
  rw [e]
  by_cases h1 : (c == 10) = true
  · rw [if_pos h1, h1]; exact ⟨_, rfl⟩
  · rw [if_neg h1]
    have h1 : (c == 10) = false := by simpa using h1
    rw [h1]
    by_cases h2 : (c == 13) = true
    · rw [if_pos h2, h2]; exact ⟨_, rfl⟩
    · rw [if_neg h2]
      have h2 : (c == 13) = false := by simpa using h2
      rw [h2]; exact ⟨_, rfl⟩
def nlAt (text : Array Nat) (s : Nat) : Bool := text.getD s 0 == 10
theorem adm2 {m : Sre.M} (hc : m.code = C2) (h13 : ∀ i, m.text.getD i 0 ≠ 13) : ∀ (f s : Nat) (seen : Sre.Seen), ∃ seen', M.admitted m f s seen = .ok (nextP (nlAt m.text) m.lim f s, seen')
  | 0, s, seen => ⟨seen, rfl⟩
  | f + 1, s, seen => by
    unfold M.admitted nextP
    by_cases hl : s < m.lim
    · rw [if_neg (by omega), if_pos hl, hc]
      obtain ⟨seen1, h1⟩ := inSet2 (m.text.getD s 0) seen
      rw [h1]
      have e : (m.text.getD s 0 == 10 || m.text.getD s 0 == 13) = nlAt m.text s := by
        unfold nlAt
        rw [beq_eq_false_iff_ne.mpr (h13 s), Bool.or_false]
      rw [e]
      cases hn : nlAt m.text s with
      | true => exact ⟨seen1, rfl⟩
      | false =>
        obtain ⟨seen2, h2⟩ := adm2 hc h13 f (s + 1) seen1
        exact ⟨seen2, h2⟩
    · rw [if_pos (by omega), if_neg hl]
      exact ⟨seen, rfl⟩
abbrev kp : Sre.Kept := { lastmark := -1, lastindex := -1, whole := false, marks := #[] }
abbrev nbFrame (pc s : Nat) (om : Bool) : Sre.Frame := { wait := .nextBranch, pc, pos := s, outermost := om, kept := kp }
theorem match2 {text : Array Nat} {lim s : Nat} {om : Bool} {seen : Sre.Seen} (hl : s < lim) (hc : text.getD s 0 = 10) : ∃ m', (mk C2 text lim s lim 10 s s om [nsFrame 10 s om] 1 none seen).runFor 9 = m' ∧ m'.outcome = some .matched ∧ m'.start = s ∧ m'.handed = s + 1 := by
  have s1 : (mk C2 text lim s lim 10 s s om [nsFrame 10 s om] 1 none seen).step = mk C2 text lim s lim 12 s s om [nbFrame 11 s om, nsFrame 10 s om] 2 none (seen.add 7) := rfl
  have s2 := lit_step (code := C2) (text := text) (lim := lim) (start := s) (last := lim) (pc := 12) (pos := s) (handed := s) (om := om) (frames := [nbFrame 11 s om, nsFrame 10 s om]) (weight := 2) (seen := seen.add 7) (by decide) rfl
  rw [if_neg (by omega), if_neg (by rw [hc]; decide)] at s2
  have s3 : ∀ seen, (mk C2 text lim s lim 12 s s om [nbFrame 11 s om, nsFrame 10 s om] 2 (some false) seen).step = mk C2 text lim s lim 19 s s om [nbFrame 18 s om, nsFrame 10 s om] 2 none seen := fun seen => rfl
  have s4 := fun seen => lit_step (code := C2) (text := text) (lim := lim) (start := s) (last := lim) (pc := 19) (pos := s) (handed := s) (om := om) (frames := [nbFrame 18 s om, nsFrame 10 s om]) (weight := 2) (seen := seen) (by decide) rfl
  have s4' : ∀ seen, (mk C2 text lim s lim 19 s s om [nbFrame 18 s om, nsFrame 10 s om] 2 none seen).step = mk C2 text lim s lim 21 (s + 1) s om [nbFrame 18 s om, nsFrame 10 s om] 2 none (seen.add 16) := fun seen => by
    rw [s4 seen, if_neg (by omega), if_pos (by rw [hc]; rfl)]
  have s5 : ∀ seen, (mk C2 text lim s lim 21 (s + 1) s om [nbFrame 18 s om, nsFrame 10 s om] 2 none seen).step = mk C2 text lim s lim 35 (s + 1) s om [nbFrame 18 s om, nsFrame 10 s om] 2 none (seen.add 15) := fun seen => rfl
  have s6 : ∀ seen, (mk C2 text lim s lim 35 (s + 1) s om [nbFrame 18 s om, nsFrame 10 s om] 2 none seen).step = mk C2 text lim s lim 35 (s + 1) (s + 1) om [nbFrame 18 s om, nsFrame 10 s om] 2 (some true) (seen.add 1) := fun seen => by
    have e : (mk C2 text lim s lim 35 (s + 1) s om [nbFrame 18 s om, nsFrame 10 s om] 2 none seen).step = if (om && ((false && s + 1 != lim) || (false && s + 1 == s))) = true then (mk C2 text lim s lim 35 (s + 1) s om [nbFrame 18 s om, nsFrame 10 s om] 2 none (seen.add 1)).say false else (mk C2 text lim s lim 35 (s + 1) (s + 1) om [nbFrame 18 s om, nsFrame 10 s om] 2 none (seen.add 1)).say true := rfl
    rw [e, if_neg (by cases om <;> simp)]
    rfl
  have s7 : ∀ seen, (mk C2 text lim s lim 35 (s + 1) (s + 1) om [nbFrame 18 s om, nsFrame 10 s om] 2 (some true) seen).step = mk C2 text lim s lim 18 s (s + 1) om [nsFrame 10 s om] 1 (some true) seen := fun seen => rfl
  refine ⟨_, rfl, ?_⟩
  rw [run_step _ _ rfl, s1, run_step _ _ rfl, s2, run_step _ _ rfl, s3, run_step _ _ rfl, s4', run_step _ _ rfl, s5, run_step _ _ rfl, s6, run_step _ _ rfl, s7, run_step _ _ rfl, yes_step, run_step _ _ rfl, fin_step]
  exact ⟨rfl, rfl, rfl⟩
theorem search2 {text : Array Nat} {lim s : Nat} (h13 : ∀ i, text.getD i 0 ≠ 13) (hs : s ≤ lim) : ∃ n m', n ≤ 8 * (lim + 2) ∧ (forSearch C2 text 0 s lim false).runFor n = m' ∧ Found (nlAt text) lim s m' := by
  have e : forSearch C2 text 0 s lim false = if (decide (s > lim) || decide (lim - s < 1)) = true then mk C2 text lim s 0 10 s s true [] 0 (some false) (({} : Sre.Seen).add 14) else
      match M.admitted (mk C2 text lim s lim 10 s s true [] 0 none (({} : Sre.Seen).add 14)) (lim + 1 - s) s (({} : Sre.Seen).add 14) with
      | .ok (some i, seen) => mk C2 text lim i lim 10 i i true [nsFrame 10 i true] 1 none seen
      | .ok (none, seen) => mk C2 text lim s lim 10 s s true [] 0 (some false) seen
      | .error why => (mk C2 text lim s lim 10 s s true [] 0 none (({} : Sre.Seen).add 14)).stick why := rfl
  by_cases hl : s < lim
  · rw [e, if_neg (by simp; omega)]
    obtain ⟨seen', h1⟩ := adm2 (m := mk C2 text lim s lim 10 s s true [] 0 none (({} : Sre.Seen).add 14)) rfl h13 (lim + 1 - s) s (({} : Sre.Seen).add 14)
    rw [h1]
    unfold Found
    have key : ∀ f s i, nextP (nlAt text) lim f s = some i → i < lim ∧ text.getD i 0 = 10 := by
      intro f
      induction f with
      | zero => intro s i h; cases h
      | succ f ih =>
        intro s i h
        unfold nextP at h
        split at h
        · rename_i hlt
          split at h
          · rename_i hp
            cases h
            exact ⟨hlt, by simpa [nlAt] using hp⟩
          · exact ih _ _ h
        · cases h
    show ∃ n m', _ ∧ (match (Except.ok (nextP (nlAt text) lim (lim + 1 - s) s, seen') : Except String (Option Nat × Sre.Seen)) with | .ok (some i, seen) => _ | .ok (none, seen) => _ | .error why => _ : Sre.M).runFor n = m' ∧ _
    cases hn : nextP (nlAt text) lim (lim + 1 - s) s with
    | none => exact ⟨1, _, by omega, by rw [run_step _ _ rfl, fin_step], rfl⟩
    | some i =>
      obtain ⟨h2, h3⟩ := key _ _ _ hn
      obtain ⟨m', h4, h5⟩ := match2 (text := text) (lim := lim) (s := i) (om := true) (seen := seen') h2 h3
      exact ⟨9, m', by omega, h4, h5⟩
  · have : s = lim := by omega
    subst this
    rw [e, if_pos (by simp)]
    refine ⟨1, _, by omega, by rw [run_step _ _ rfl, fin_step], ?_⟩
    unfold Found
    rw [nextP_end]; rfl
open PySem.Builtin.Re PySem.Builtin
theorem plainAttrs_pat : PlainAttrs "re.Pattern" :=
  ⟨⟨"object.__getattribute__", by rw [typeLookup_type, builtinLookup_eq_fast]; kernel_rfl, by decide +kernel⟩, by rw [typeLookup_type, builtinLookup_eq_fast]; kernel_rfl⟩
theorem owner_pat : Manifest.owners.lookup (String.ofList ['n', 'r', 'e', 't', 't', 'a', 'P', '.', 'e', 'r'].reverse) = some Manifest.sig_re_Pattern := by kernel_rfl
theorem slot_sub : Slot "re.Pattern" "sub" "re.Pattern.sub" :=
  .of (owner := "re.Pattern") (n := "sub") (by rw [typeLookup_type, builtinLookup_eq_fast]; kernel_rfl) (by decide +kernel) (by decide +kernel) (by decide +kernel)
    (by first | exact .inl (by decide +kernel) | exact .inr (by decide +kernel)) (by rw [isSubtype_type]; kernel_rfl)
theorem type_sub : typeOf (.builtin "re.Pattern.sub") = pure (.type "method_descriptor") := by show builtinType _ = _; rw [builtinType_eq_fast]; kernel_rfl
theorem entry_sub : entryFor table "re.Pattern.sub" = some Builtin.«re.Pattern.sub» := entryFor_of_tree (by kernel_rfl)
theorem args_sub_3 (a b c : Value) : argsOk "re.Pattern.sub" ⟨[a, b, c], []⟩ := by
  unfold argsOk; rw [signature?_of (id := "re.Pattern.sub") (n := ['b', 'u', 's']) (o := ['n', 'r', 'e', 't', 't', 'a', 'P', '.', 'e', 'r']) (by kernel_rfl) owner_pat]; kernel_rfl
theorem slot_search : Slot "re.Pattern" "search" "re.Pattern.search" :=
  .of (owner := "re.Pattern") (n := "search") (by rw [typeLookup_type, builtinLookup_eq_fast]; kernel_rfl) (by decide +kernel) (by decide +kernel) (by decide +kernel)
    (by first | exact .inl (by decide +kernel) | exact .inr (by decide +kernel)) (by rw [isSubtype_type]; kernel_rfl)
theorem type_search : typeOf (.builtin "re.Pattern.search") = pure (.type "method_descriptor") := by show builtinType _ = _; rw [builtinType_eq_fast]; kernel_rfl
theorem entry_search : entryFor table "re.Pattern.search" = some Builtin.«re.Pattern.search» := entryFor_of_tree (by kernel_rfl)
theorem args_search_2 (a b : Value) : argsOk "re.Pattern.search" ⟨[a, b], []⟩ := by
  unfold argsOk; rw [signature?_of (id := "re.Pattern.search") (n := ['h', 'c', 'r', 'a', 'e', 's']) (o := ['n', 'r', 'e', 't', 't', 'a', 'P', '.', 'e', 'r']) (by kernel_rfl) owner_pat]; kernel_rfl
theorem plain_subloop : plainId "re.Pattern.sub.loop" = true := by decide +kernel
theorem entry_subloop : entryFor table "re.Pattern.sub.loop" = some Builtin.«re.Pattern.sub.loop» := entryFor_of_fast (by kernel_rfl)
/-- a pattern of strs, without groups, of code C -/
def PatOk (h : Heap) (p : Addr) (C : Array Nat) : Prop := ∃ o vs T ot items n, h.get? p = some o ∧ o.cls = .type "re.Pattern" ∧ o.dict = none ∧ o.data = .fields vs ∧ vs.getD 5 .none = .ref T ∧ reRawNat (vs.getD 6 .none) = 0 ∧ reRawNat (vs.getD 2 .none) = 0 ∧ h.get? T = some ot ∧
  ot.cls = .type "tuple" ∧ ot.data = .seq items n ∧ (items.map reRawOf).map Int.toNat = C
theorem PatOk.keeps {h h' : Heap} (k : Keep h h') {p : Addr} {C : Array Nat} (x : PatOk h p C) : PatOk h' p C := let ⟨o, vs, T, ot, items, n, a, b, c, d, e, f, g, i, r⟩ := x; ⟨o, vs, T, ot, items, n, k _ _ a, b, c, d, e, f, g, k _ _ i, r⟩
section
variable {prog : Program} {w : World} {A : Around} {s : Shared} {E : Value → Shared → Prop}
abbrev tgtOf (p : Addr) (x : Str) (t : Tok) (C : Array Nat) : ReTarget := { pattern := .ref p, string := .str x t, code := C, text := x.cps, kind := 0, groups := 0, pos := 0, lim := x.cps.size }
theorem whole_wp {p : Addr} {x : Str} {t : Tok} {C : Array Nat} {Q : ReTarget → Shared → Prop} (hp : PatOk s.heap p C) (hq : Q (tgtOf p x t C) s) : wpAny (model prog w) A (reWholeTarget (.ref p) (.str x t)) Q E s := by
  obtain ⟨o, vs, T, ot, items, n, a1, a2, a3, a4, a5, a6, a7, a8, _, a9, a10⟩ := hp
  unfold reWholeTarget
  refine wpAny_bind (m := fieldsOf (.ref p)) ?_
  unfold fieldsOf
  refine wpAny_bind (wpAny_load a1 ?_)
  rw [a4]
  refine wpAny_pure ?_
  refine wpAny_bind (m := reTextOf (.str x t)) (wpAny_pure ?_)
  dsimp only
  rw [a6]
  rw [if_neg (by decide), if_neg (by decide)]
  refine wpAny_bind (m := reNoCollectionInside (.str x t) 0) (wpAny_pure ?_)
  rw [a5]
  refine wpAny_bind (m := reRawItems (.ref T)) ?_
  unfold reRawItems
  refine wpAny_bind (wpAny_seqItems a8 a9 (wpAny_pure (wpAny_pure ?_)))
  dsimp only [Option.getD]
  rw [a10, a7]
  exact hq
end
open PySem.Builtin.Re PySem.Builtin
def outL (P : Nat → Bool) (x : Array Nat) (r : Str) (d : Nat) : List Nat := (List.range d).flatMap fun i => if P i then r.cps.toList else [x.getD i 0]
theorem nextP_spec {P : Nat → Bool} {lim : Nat} : ∀ (f s : Nat), lim < s + f → match nextP P lim f s with
    | some i => s ≤ i ∧ i < lim ∧ P i = true ∧ ∀ j, s ≤ j → j < i → P j = false
    | none => ∀ j, s ≤ j → j < lim → P j = false
  | 0, s, h => fun j h1 h2 => absurd h2 (by omega)
  | f + 1, s, h => by
    unfold nextP
    by_cases hl : s < lim
    · rw [if_pos hl]
      cases hp : P s with
      | true => rw [if_pos rfl]; exact ⟨Nat.le_refl _, hl, hp, fun j h1 h2 => absurd h2 (by omega)⟩
      | false =>
        rw [if_neg (by simp)]
        have ih := nextP_spec (P := P) (lim := lim) f (s + 1) (by omega)
        cases hn : nextP P lim f (s + 1) with
        | none =>
          rw [hn] at ih
          intro j h1 h2
          rcases Nat.lt_or_ge s j with h3 | h3
          · exact ih j h3 h2
          · rw [show j = s by omega]; exact hp
        | some i =>
          rw [hn] at ih
          obtain ⟨a, b, c, d⟩ := ih
          refine ⟨by omega, b, c, fun j h1 h2 => ?_⟩
          rcases Nat.lt_or_ge s j with h3 | h3
          · exact d j h3 h2
          · rw [show j = s by omega]; exact hp
    · rw [if_neg hl]
      exact fun j h1 h2 => absurd h2 (by omega)
theorem outL_run {P : Nat → Bool} {x : Array Nat} {r : Str} : ∀ (n d : Nat), d + n ≤ x.size → (∀ j, d ≤ j → j < d + n → P j = false) → outL P x r (d + n) = outL P x r d ++ (x.extract d (d + n)).toList
  | 0, d, h, hp => by simp [outL]
  | n + 1, d, h, hp => by
    have ih := outL_run (P := P) (x := x) (r := r) n d (by omega) fun j h1 h2 => hp j h1 (by omega)
    have e : outL P x r (d + (n + 1)) = outL P x r (d + n) ++ [x.getD (d + n) 0] := by
      unfold outL
      rw [show d + (n + 1) = (d + n) + 1 by omega, List.range_succ, List.flatMap_append]
      simp [hp (d + n) (by omega) (by omega)]
    rw [e, ih, List.append_assoc]
    congr 1
    have h1 : d + n < x.size := by omega
    rw [Array.toList_extract, Array.toList_extract]
    show _ = (x.toList.extract d (d + (n + 1)))
    rw [List.extract_eq_take_drop, List.extract_eq_take_drop, show d + n - d = n by omega, show d + (n + 1) - d = n + 1 by omega, List.take_add_one]
    congr 1
    simp [h1]
theorem outL_at {P : Nat → Bool} {x : Array Nat} {r : Str} {i : Nat} (h : P i = true) : outL P x r (i + 1) = outL P x r i ++ r.cps.toList := by
  unfold outL
  rw [List.range_succ, List.flatMap_append]
  simp [h]
open PySem.Builtin.Re PySem.Builtin
section
variable {prog : Program} {w : World}
def cat (l : List Str) : List Nat := l.flatMap fun x => x.cps.toList
theorem cat_snoc (l : List Str) (x : Str) : cat (l ++ [x]) = cat l ++ x.cps.toList := by simp [cat]
/-- list, with strs -/
def PStrs (h : Heap) (L : Addr) (ss : List Str) : Prop := ∃ vs, PlainL h L vs.toArray ∧ StrsAre vs ss
theorem strsAre_snoc : ∀ {vs : List Value} {ss : List Str} {x : Str} {t : Tok}, StrsAre vs ss → StrsAre (vs ++ [.str x t]) (ss ++ [x])
  | _, _, x, t, .nil => .cons x t .nil
  | _, _, x, t, .cons y u r => .cons y u (strsAre_snoc r)
theorem strsAre_len : ∀ {vs : List Value} {ss : List Str}, StrsAre vs ss → vs.length = ss.length
  | _, _, .nil => rfl
  | _, _, .cons y u r => congrArg (· + 1) (strsAre_len r)
theorem push_wp {A : Around} {s : Shared} {L : Addr} {ss : List Str} {x : Str} {t : Tok} {Q : Unit → Shared → Prop} {E : Value → Shared → Prop} (hl : PStrs s.heap L ss) (hsz : ss.length ≤ sizeLine) (hQ : ∀ h', PStrs h' L (ss ++ [x]) → Heap.SameBut L s.heap h' → Q () { s with heap := h' }) :
    wpAny (model prog w) A (updateSeq L (·.push (.str x t))) Q E s := by
  obtain ⟨vs, ⟨o, n, ho, hc, hdict, hd⟩, hs⟩ := hl
  obtain ⟨n', hd'⟩ := Obj.data_mapSeq hd (·.push (Value.str x t))
  have hz : vs.toArray.size ≤ sizeLine := by rw [List.size_toArray, strsAre_len hs]; exact hsz
  refine wpAny_updateSeq ho hd (hQ _ ⟨vs ++ [.str x t], ⟨_, n', Heap.get?_update_self _ ho (Obj.isFreed_of_seq hd'), (Obj.cls_mapSeq ..).trans hc, ?_, ?_⟩, strsAre_snoc hs⟩ (Heap.SameBut.update ..)) hz (by simp; rw [List.size_toArray] at hz; omega)
  · obtain ⟨c, d, dt, sl⟩ := o
    cases dt <;> exact hdict
  · rw [hd', List.push_toArray]
theorem glue_fold : ∀ (rest : List Str) (acc : Array Nat), (rest.foldl (fun acc p => acc ++ Str.empty.cps ++ p.cps) acc).toList = acc.toList ++ cat rest
  | [], acc => by simp [cat]
  | x :: rest, acc => by
    rw [List.foldl_cons, glue_fold rest]
    simp [cat, Str.empty]
theorem join_cat (l : List Str) : (Txt.join Str.empty l).cps.toList = cat l := by
  show ((l.drop 1).foldl (fun acc p => acc ++ Str.empty.cps ++ p.cps) (l.headD Str.empty).cps).toList = _
  rw [glue_fold]
  cases l with
  | nil => simp [cat, Str.empty]
  | cons x l => simp [cat]
theorem joinOk_cat {l : List Str} (h : (cat l).length ≤ sizeLine) : JoinOk Str.empty l = true := by
  have key : ∀ (l : List Str) (n : Nat), l.foldl (fun a (x : Str) => a + x.length + Str.empty.length) n = n + (cat l).length := by
    intro l
    induction l with
    | nil => intro n; simp [cat]
    | cons x l ih =>
      intro n
      rw [List.foldl_cons, ih]
      simp [cat, Str.length, Str.empty]
      omega
  unfold JoinOk
  rw [List.foldl_toArray', key, Nat.zero_add]
  · unfold Builtin.Str.tooLong
    rw [decide_eq_false (by omega)]; rfl
  · rfl
theorem str_eta {x : Str} {l : List Nat} (h : x.cps.toList = l) : x = ⟨l.toArray⟩ := by
  obtain ⟨a⟩ := x
  have h : a.toList = l := h
  rw [← h]
def patStr (l : List Nat) : Str := ⟨l.toArray⟩
/-- the pattern C finds P, one sign at a time, in the text x -/
def FindsP (C : Array Nat) (x : Array Nat) (P : Nat → Bool) : Prop := ∀ s, s ≤ x.size → ∃ n m', n ≤ 8 * (x.size + 2) ∧ (Sre.forSearch C x 0 s x.size false).runFor n = m' ∧ Found P x.size s m'
theorem outL_len {P : Nat → Bool} {x : Array Nat} {r : Str} (hr : r.length ≤ 10) : ∀ d, (outL P x r d).length ≤ 10 * d
  | 0 => by simp [outL]
  | d + 1 => by
    have ih := outL_len (P := P) (x := x) hr d
    have e : outL P x r (d + 1) = outL P x r d ++ (if P d then r.cps.toList else [x.getD d 0]) := by
      unfold outL; rw [List.range_succ, List.flatMap_append]; simp
    rw [e, List.length_append]
    have : (if P d then r.cps.toList else [x.getD d 0]).length ≤ 10 := by
      split
      · simpa [Str.length] using hr
      · simp
    omega
def tailS (L : Addr) (x : Array Nat) (n : Int) : Sem Fin := do
  let joiner ← reSlice x 0 0 0
  let text ← if ((← seqItems? (.ref L)).getD #[]).isEmpty then pure joiner
    else call (.builtin (if (0 : Nat) == 0 then "str.join" else "bytes.join")) [joiner, .ref L]
  if false then ret (← holding [text] do newTuple [text, ← mkInt n]) else ret text
theorem tail_wp {A : Around} {s : Shared} {E : Value → Shared → Prop} {Q : Fin → Shared → Prop} {L : Addr} {x : Array Nat} {n : Int} {ss : List Str} (hl : PStrs s.heap L ss) (hsz : (cat ss).length ≤ sizeLine) (hQ : ∀ t' k', Q (.done (.ret (.str (patStr (cat ss)) t'))) { s with toks := k' }) :
    wpAny (model prog w) A (tailS L x n) Q E s := by
  obtain ⟨vs, ⟨o, m, ho, hc, hdict, hd⟩, hs⟩ := hl
  unfold tailS
  have ex : (⟨x.extract 0 0⟩ : Str) = Str.empty := by
    show Str.mk _ = Str.mk #[]
    congr 1
    simp
  refine wpAny_bind (m := reSlice x 0 0 0) (wpAny_mkStr ?_ (by show (x.extract 0 0).size ≤ _; simp))
  rw [ex]
  refine wpAny_bind (wpAny_seqItems (s := { s with toks := s.toks + 1 }) ho hd ?_)
  show wpAny _ _ (if vs.toArray.isEmpty = true then _ else _) _ _ _
  cases vs with
  | nil =>
    rw [if_pos (by simp)]
    cases hs
    exact wpAny_bind (wpAny_pure (wpAny_pure (hQ _ _)))
  | cons v vs =>
    rw [if_neg (by simp)]
    obtain ⟨tl, e1, e2⟩ := strs_vals hs
    refine wpAny_bind ?_
    show wpAny _ _ (call (.builtin "str.join") [.str Str.empty s.toks, .ref L]) _ _ _
    refine SC.join (s := { s with toks := s.toks + 1 }) (l := tl) ⟨o, ho, hc, m, by rw [← e1]; exact hd⟩ e2 (joinOk_cat hsz) fun t' k' => ?_
    rw [str_eta (join_cat ss)]
    exact wpAny_pure (hQ _ _)
set_option maxHeartbeats 1000000 in
theorem sub_loop {C : Array Nat} {p : Addr} {x r : Str} {t u : Tok} {P : Nat → Bool} (hf : FindsP C x.cps P) (hx : x.length ≤ 100000) (hr : r.length ≤ 10) : ∀ (k d : Nat) (A : Around) (s : Shared) (L : Addr) (ss : List Str) (n : Int) (Q : Value → Shared → Prop), x.length < d + k → d ≤ x.length → PatOk s.heap p C → (∃ o, s.heap.get? L = some o) → PStrs s.heap L ss → cat ss = outL P x.cps r d → ss.length ≤ 2 * d →
    (∀ t' s', (∀ b o, b ≠ L → s.heap.get? b = some o → s'.heap.get? b = some o) → s'.gens = s.gens → s'.os = s.os → Q (.str (patStr (outL P x.cps r x.length)) t') s') →
    codeAny (model prog w) A (.builtin "re.Pattern.sub.loop" ⟨[.ref p, .str x t, .str r u, rawInt 0, rawInt 0, rawInt n, rawInt d, rawInt d, .bool false, .ref L, .bool false], []⟩) (wants Q No) s := by
  intro k
  induction k with
  | zero => intro d A s L ss n Q h1 h2; exact absurd h1 (by omega)
  | succ k ih =>
    intro d A s L ss n Q h1 h2 hp hL hl hcat hlen hQ
    refine codeAny_builtin entry_subloop ?_
    rw [Around.under_plainId plain_subloop _]
    show wpAny _ A.in1 (reWholeTarget (.ref p) (.str x t) >>= _) _ _ s
    refine wpAny_bind (whole_wp hp ?_)
    dsimp only
    rw [if_pos (by rfl)]
    refine wpAny_bind (m := reLiteralCannotBeTurned (.str r u)) (wpAny_pure ?_)
    refine wpAny_bind ?_
    rw [if_neg (by simp), Int.toNat_natCast]
    obtain ⟨N, m', g1, g2, g3⟩ := hf d h2
    have hsz : x.cps.size = x.length := rfl
    have sp := nextP_spec (P := P) (lim := x.cps.size) (x.cps.size + 1 - d) d (by omega)
    unfold Found at g3
    show wpAny _ _ (reRunToEnd (Sre.forSearch C x.cps 0 d x.cps.size false)) _ _ _
    have ntL : ∀ h', Heap.SameBut L s.heap h' → ∀ b o, b ≠ L → s.heap.get? b = some o → h'.get? b = some o := fun h' hs b o hb e => (hs.2 b hb).trans e
    cases hn : nextP P x.cps.size (x.cps.size + 1 - d) d with
    | none =>
      rw [hn] at g3 sp
      refine toEnd_wp g2 (by omega) (.inr ⟨g3, ?_⟩)
      dsimp only
      have houtd : outL P x.cps r x.length = cat ss ++ (x.cps.extract d x.cps.size).toList := by
        have := outL_run (P := P) (x := x.cps) (r := r) (x.length - d) d (by omega) fun j q1 q2 => sp j q1 (by omega)
        rw [show d + (x.length - d) = x.length by omega] at this
        rw [this, hcat]
        rfl
      have hout : (outL P x.cps r x.length).length ≤ 1000000 := Nat.le_trans (outL_len hr _) (by omega)
      by_cases hd : d < x.cps.size
      · rw [if_pos hd]
        refine wpAny_bind (m := reSlice x.cps 0 d x.cps.size) (wpAny_mkStr ?_ (by show (x.cps.extract d x.cps.size).size ≤ _; simp; unfold sizeLine; omega))
        refine wpAny_bind (push_wp hl (by unfold sizeLine; omega) fun h' hl' hs' => ?_)
        have hc : cat (ss ++ [(⟨x.cps.extract d x.cps.size⟩ : Str)]) = outL P x.cps r x.length := by rw [cat_snoc, houtd]
        show wpAny _ _ (tailS L x.cps n) _ _ _
        refine tail_wp hl' (by rw [hc]; unfold sizeLine; omega) fun t' k' => ?_
        rw [hc]
        exact hQ t' _ (ntL h' hs') rfl rfl
      · rw [if_neg hd]
        have hc : cat ss = outL P x.cps r x.length := by rw [hcat, show d = x.length by omega]
        show wpAny _ _ (tailS L x.cps n) _ _ _
        refine tail_wp hl (by rw [hc]; unfold sizeLine; omega) fun t' k' => ?_
        rw [hc]
        exact hQ t' _ (fun b o _ e => e) rfl rfl
    | some i =>
      rw [hn] at g3 sp
      refine toEnd_wp g2 (by omega) (.inl ⟨g3.1, ?_⟩)
      dsimp only
      rw [g3.2.1, g3.2.2]
      obtain ⟨p1, p2, p3, p4⟩ := sp
      have hrun : outL P x.cps r i = cat ss ++ (x.cps.extract d i).toList := by
        have := outL_run (P := P) (x := x.cps) (r := r) (i - d) d (by omega) fun j q1 q2 => p4 j q1 (by omega)
        rw [show d + (i - d) = i by omega] at this
        rw [this, hcat]
      have hnx : ∀ (s₁ : Shared) (ss₁ : List Str), PStrs s₁.heap L ss₁ → ss₁.length ≤ 2 * i + 1 → cat ss₁ = outL P x.cps r i → (∀ b o, b ≠ L → s.heap.get? b = some o → s₁.heap.get? b = some o) → s₁.gens = s.gens → s₁.os = s.os →
          wpAny (model prog w) A.in1 (updateSeq L (·.push (.str r u)) >>= fun _ => again (.builtin "re.Pattern.sub.loop" ⟨[.ref p, .str x t, .str r u, rawInt 0, rawInt 0, rawInt (n + 1), rawInt ((i + 1 : Nat) : Int), rawInt ((i + 1 : Nat) : Int), .bool (i + 1 == i), .ref L, .bool false], []⟩))
            (fun fin s' => match fin with | .done f => wants Q No (.ok f) s' | .again c' => c'.quiet = true ∧ codeAny (model prog w) A c' (wants Q No) s') (fun e s' => wants Q No (.error e) s') s₁ := fun s₁ ss₁ hl₁ hn₁ hc₁ hk₁ hg₁ ho₁ => by
        refine wpAny_bind (push_wp hl₁ (by unfold sizeLine; omega) fun h' hl' hs' => wpAny_pure ⟨plainId_quiet plain_subloop _, ?_⟩)
        rw [show (i + 1 == i) = false by simp]
        have hpL : p ≠ L := by
          obtain ⟨oo, vs, T, ot, items, nn, a1, a2, _⟩ := hp
          obtain ⟨vs', ⟨oL, nL, b1, b2, _⟩, _⟩ := hl
          intro q
          rw [q, b1] at a1; cases a1
          rw [a2] at b2; exact absurd (Value.type.inj b2) (by decide)
        have kk : ∀ b o, b ≠ L → s.heap.get? b = some o → h'.get? b = some o := fun b o hb e => (hs'.2 b hb).trans (hk₁ b o hb e)
        have hp' : PatOk h' p C := by
          obtain ⟨oo, vs, T, ot, items, nn, a1, a2, a3, a4, a5, a6, a7, a8, a9, a10⟩ := hp
          have hTL : T ≠ L := by
            obtain ⟨vs', ⟨oL, nL, b1, b2, _⟩, _⟩ := hl
            intro q
            rw [q, b1] at a8; cases a8
            rw [b2] at a9; exact absurd (Value.type.inj a9) (by decide)
          exact ⟨oo, vs, T, ot, items, nn, kk _ _ hpL a1, a2, a3, a4, a5, a6, a7, kk _ _ hTL a8, a9, a10⟩
        refine ih (i + 1) A { s₁ with heap := h' } L (ss₁ ++ [r]) (n + 1) Q (by omega) (by omega) hp' ?_ hl' (by rw [cat_snoc, hc₁, outL_at p3]) (by simp; omega) ?_
        · obtain ⟨vs, ⟨o, _, ho, _⟩, _⟩ := hl'
          exact ⟨o, ho⟩
        · intro t' s' kb gg oo
          exact hQ t' s' (fun b o hb e => kb b o hb (kk b o hb e)) (gg.trans hg₁) (oo.trans ho₁)
      by_cases hd : d < i
      · rw [if_pos hd]
        refine wpAny_bind (m := reSlice x.cps 0 d i) (wpAny_mkStr ?_ (by show (x.cps.extract d i).size ≤ _; simp; unfold sizeLine; omega))
        refine wpAny_bind (push_wp hl (by unfold sizeLine; omega) fun h' hl' hs' => ?_)
        rw [if_pos (by rfl)]
        refine wpAny_bind (wpAny_pure ?_)
        rw [if_pos (by rfl)]
        exact hnx { s with heap := h', toks := s.toks + 1 } _ hl' (by simp; omega) (by rw [cat_snoc, hrun]) (ntL h' hs') rfl rfl
      · rw [if_neg hd]
        rw [if_pos (by rfl)]
        refine wpAny_bind (wpAny_pure ?_)
        rw [if_pos (by rfl)]
        exact hnx s ss hl (by omega) (by rw [hcat, show d = i by omega]) (fun b o _ e => e) rfl rfl
end
open PySem.Builtin.Re PySem.Builtin
theorem str_no_call : typeLookup (.type "str") "__call__" = pure none := by rw [typeLookup_type, builtinLookup_eq_fast]; kernel_rfl
section
variable {prog : Program} {w : World}
set_option maxHeartbeats 1000000 in
theorem c_sub {C : Array Nat} {p : Addr} {x r : Str} {t u : Tok} {P : Nat → Bool} {A : Around} {s : Shared} (hf : FindsP C x.cps P) (hx : x.length ≤ 100000) (hr : r.length ≤ 10) (hlit : r.cps.contains 92 = false) (hp : PatOk s.heap p C) :
    wpAny (model prog w) A (PySem.call (.builtin "re.Pattern.sub") [.ref p, .str r u, .str x t]) (Gives' prog w (.str (patStr (outL P x.cps r x.length))) true s) No s := by
  have hT : s.TypeIs (.ref p) "re.Pattern" := by obtain ⟨o, vs, T, ot, items, n, a1, a2, _⟩ := hp; exact ⟨o, a1, a2⟩
  refine wpAny_call (codeAny_call_builtin slot_sub.plain entry_sub (slot_sub.check _ _ _ _ _ _ _ _ hT (args_sub_3 _ _ _) ?_))
  show wpAny _ A.in1 (reNamed "re.Pattern.sub" "sub" ["repl", "string", "count"] 2 [.str r u, .str x t] [] >>= _) _ _ s
  refine wpAny_bind (wpAny_of_eq (a := [some (.str r u), some (.str x t), none]) rfl ?_)
  dsimp only
  refine wpAny_bind (wpAny_pure ?_)
  refine wpAny_bind (wpAny_specialOf (typeIs_str s r u) str_no_call ?_)
  dsimp only [Option.isSome]
  refine wpAny_bind (wpAny_pure ?_)
  dsimp only
  refine wpAny_bind (wpAny_pure ?_)
  rw [hlit]
  rw [if_neg (by simp), if_pos (by rfl)]
  refine wpAny_bind (wpAny_pure ?_)
  dsimp only
  refine wpAny_bind (wpAny_holding (whole_wp hp ?_))
  rw [if_neg (by decide)]
  refine wpAny_bind (m := newList []) (wpAny_newObj_type ?_ (by size_fits))
  refine wpAny_pure ⟨plainId_quiet plain_subloop _, ?_⟩
  have hL : (s.heap.push { cls := .type "list", dict := none, data := .seq ([] : List Value).toArray }).get? s.heap.objs.size = some { cls := .type "list", dict := none, data := .seq ([] : List Value).toArray } := Heap.get?_push_size _ rfl
  have x₁ := Ext.push s { cls := .type "list", dict := none, data := .seq ([] : List Value).toArray } s.toks
  refine sub_loop (Q := Gives' prog w (.str (patStr (outL P x.cps r x.length))) true s) hf hx hr (x.length + 1) 0 A _ s.heap.objs.size [] 0 (by omega) (Nat.zero_le _) (hp.keeps x₁.2) ⟨_, hL⟩ ⟨[], ⟨_, _, hL, rfl, rfl, rfl⟩, .nil⟩ rfl (Nat.zero_le _) fun t' s' k1 k2 k3 => ?_
  exact ⟨⟨⟨k2, k3⟩, fun b o e => k1 b o (Nat.ne_of_lt (Heap.lt_size e)) (x₁.2 b o e)⟩, [], ⟨⟨t', rfl⟩, rfl⟩, fun _ a ha => nomatch ha⟩
end
variable {prog : Program} {w : World}
abbrev m_sub : MethOk "re.Pattern" "sub" "re.Pattern.sub" := ⟨plainAttrs_pat, slot_sub, type_sub, by decide⟩
abbrev m_search : MethOk "re.Pattern" "search" "re.Pattern.search" := ⟨plainAttrs_pat, slot_search, type_search, by decide⟩
section
variable {F : Fm} {ρ : Rho} {k : Nat}
theorem ev_re_sub {C : Array Nat} {p : Addr} {P : Nat → Bool} {f : Str} {np apos pos : PySem.Pos} {e1 e2 : PySem.Expr} {x r : Str} {f1 f2 : Bool} (hb : attributeBase (.Name f np) "sub" F.env (eval (.Name f np) F.env) = eval (.Name f np) F.env) (hs : starEach [e1, e2] F.env = plainArgs [e1, e2] F.env) (hl : (apos.endLine == pos.line) = true)
    (g : Glob prog w F f (.ref p)) (hp : ∀ s : Shared, Bk F.base s → PatOk s.heap p C) (h1 : EvJ prog w F ρ k e1 (.str r) f1) (h2 : EvJ prog w F ρ k e2 (.str x) f2) (hf : FindsP C x.cps P) (hx : x.length ≤ 100000) (hr : r.length ≤ 10) (hlit : r.cps.contains 92 = false) :
    EvJ prog w F ρ k (.Call (.Attribute (.Name f np) "sub" apos) [e1, e2] [] pos) (.str (patStr (outL P x.cps r x.length))) true := fun A s rm I => by
  refine meth_wp hb hs hl (by simp) m_sub (g A s _ _ _ I.keep ?_)
  obtain ⟨o, vs, T, ot, items, n, ho, hc, hd, _⟩ := hp s I.keep
  refine ⟨⟨o, ho, hc⟩, fun a ea => by cases ea; exact ⟨o, ho, hd⟩, ?_⟩
  refine Calls.spliced_cons (wpAny_mono (h1 A s rm I) (fun a s₁ ⟨x1, fp1, ⟨⟨t1, q1⟩, _⟩, _⟩ => ?_) fun _ _ e => e)
  subst q1
  refine Calls.spliced_cons (wpAny_mono (h2 A s₁ rm (I.ext x1)) (fun a s₂ ⟨x2, fp2, ⟨⟨t2, q2⟩, _⟩, _⟩ => Calls.spliced_nil ?_) fun _ _ e => e)
  subst q2
  refine wpAny_mono (c_sub hf hx hr hlit (hp s₂ ((I.ext x1).ext x2).keep)) (fun v s₃ h => give_trans (x1.trans x2) h) fun _ _ e => e
end
theorem findsP1 (x : Array Nat) : FindsP C1 x (dotAt x) := fun s hs => search1 hs
theorem findsP2 (x : Array Nat) (h : ∀ i, x.getD i 0 ≠ 13) : FindsP C2 x (nlAt x) := fun s hs => search2 h hs
def crlfV (x : Str) : Str := patStr (outL (nlAt x.cps) x.cps "\r\n" x.length)
def dotsV (x : Str) : Str := patStr (outL (dotAt x.cps) x.cps ".." x.length)
def quoteV (x : Str) : Str := dotsV (crlfV x)
theorem crlfV_len (x : Str) : (crlfV x).length ≤ 10 * x.length := by
  have := outL_len (P := nlAt x.cps) (x := x.cps) (r := "\r\n") (by decide) x.length
  simpa [crlfV, patStr, Str.length] using this
end Wk
open PySem PySem.W PyProof.Rows PySem.Builtin.Re
namespace L2
open Wk Hd2
theorem pat_of {base : Addr → Option Obj} {w : World} (t : Top w base) {p T : Addr} {o ot : Obj} {vs items : Array Value} {n : Nat} {C : Array Nat} (h1 : (KK w.params).lookup p = some o) (h2 : (KK w.params).lookup T = some ot) (hc : o.cls = .type "re.Pattern") (hd : o.dict = none) (hf : o.data = .fields vs)
    (h5 : vs.getD 5 .none = .ref T) (h6 : reRawNat (vs.getD 6 .none) = 0) (h7 : reRawNat (vs.getD 2 .none) = 0) (hct : ot.cls = .type "tuple") (hdt : ot.data = .seq items n) (hC : (items.map reRawOf).map Int.toNat = C) : ∀ s : Shared, Bk base s → PatOk s.heap p C := fun s b =>
  ⟨o, vs, T, ot, items, n, (t.yp b).1 p o h1, hc, hd, hf, h5, h6, h7, (t.yp b).1 T ot h2, hct, hdt, hC⟩
def tokOf : Option Value → Tok | some (.str _ u) => u | _ => 0
set_option maxHeartbeats 2000000 in
theorem c_quotedata {w : World} {base : Addr → Option Obj} {k : Nat} (t : Top w base) {x : Str} (hx : x.length ≤ 5000) (h13 : ∀ i, x.cps.getD i 0 ≠ 13) : CallP pw w base (k + 1) (.ref 192) [.str x] (.str (quoteV x)) true := by
  refine call_own (fd := fdOf (o192_0 w.params)) (sp := [("data", .loc)]) (names := ["data"]) (n := 0) (body := fBody (bd 10)) (fnAt t (o := o192_0 w.params) (oc := o191_0 w.params) (by kernel_rfl) rfl rfl (by kernel_rfl) rfl rfl) rfl rfl ?_ ⟨by kernel_rfl, trivial⟩ (by decide) rfl rfl rfl ?_ (by kernel_rfl) (by kernel_rfl) (by kernel_rfl)
  · intro vals hv
    match vals, hv with
    | [v], _ => rfl
  · intro L base' os hb ok
    have t' := t.up hb
    have f := fr2_fn (fd := fdOf (o192_0 w.params)) (a := 192) (L := L) (sp := [("data", .loc)]) (os := os) t' rfl rfl (by kernel_rfl)
    have g1 := gl (x := "_twin_re_1") f (by kernel_rfl) (v := .ref 180) (by kernel_rfl)
    have g2 := gl (x := "_twin_re_2") f (by kernel_rfl) (v := .ref 185) (by kernel_rfl)
    have hu : nsOf (oMain w.params) "CRLF" = some (.str "\r\n" (tokOf (nsOf (oMain w.params) "CRLF"))) := by kernel_rfl
    have g3 := gl (x := "CRLF") f (by kernel_rfl) hu
    have p1 := pat_of t' (p := 180) (T := 179) (o := o180_0 w.params) (ot := o179_0 w.params) (C := C1) (by kernel_rfl) (by kernel_rfl) rfl rfl rfl (by kernel_rfl) (by kernel_rfl) (by kernel_rfl) rfl rfl (by kernel_rfl)
    have p2 := pat_of t' (p := 185) (T := 184) (o := o185_0 w.params) (ot := o184_0 w.params) (C := C2) (by kernel_rfl) (by kernel_rfl) rfl rfl rfl (by kernel_rfl) (by kernel_rfl) (by kernel_rfl) rfl rfl (by kernel_rfl)
    have hcl := crlfV_len x
    exact ex_one (ex_return_iv (fr := true) (ev_re_sub (by rfl) (by rfl) (by rfl) g1 p1 ev_str (ev_re_sub (by rfl) (by rfl) (by rfl) g2 p2 (ev_glob (p := .at (.str "\r\n")) g3 fun h => ⟨_, rfl⟩) (ev_local 0 ok rfl rfl (by intro q; cases q)) (findsP2 _ h13) (by omega) (by decide) (by kernel_rfl)) (findsP1 _) (show (crlfV x).length ≤ 100000 by omega) (by decide) (by kernel_rfl)) rfl)
end L2
namespace Wk
variable {prog : Program} {w : World}
theorem rep_inst {h : Heap} {C : Addr} {l : List IV} {v : Value} {fp : List Addr} (r : Rep prog w h (.obj C l) v fp) : ∃ x d L vs, v = .ref x ∧ h.Inst x C (hdM L) ∧ PlainL h L vs.toArray ∧ IVs h l vs ∧ fp = [x, d, L] := by
  obtain ⟨x, d, L, vs, od, m, e, a1, a2, a3, a4, a5, a6, f⟩ := r
  subst a4
  exact ⟨x, d, L, vs, e, ⟨od, a1, a2.1.1, a2.1.2.2, .inr ⟨d, a2.1.2.1, a2.2, a3⟩⟩, a5, a6, f⟩
/-- what is known of the class -/
structure ClsB (base : Addr → Option Obj) (C N : Addr) (mN : Str → Option Value) : Prop where
  at_ : ∀ s : Shared, Bk base s → ClsAt s.heap C N mN
  ga : mN "__getattribute__" = none
  gt : mN "__getattr__" = none
  hd : mN "_headers" = none
theorem lk_headers : typeLookup (.type "object") "_headers" = pure none := by rw [typeLookup_type, builtinLookup_eq_fast]; kernel_rfl
theorem hdr_wp {base : Addr → Option Obj} {A : Around} {s : Shared} {x C N L : Addr} {mN : Str → Option Value} {Q E : Value → Shared → Prop} (c : ClsB base C N mN) (b : Bk base s) (I : s.heap.Inst x C (hdM L)) (hQ : Q (.ref L) { s with toks := s.toks + 1 }) : wpAny (model prog w) A (getAttr (.ref x) "_headers" true) Q E s := by
  obtain ⟨hp, g, d, t, os⟩ := s
  obtain ⟨nm, q, bs, sn, sub, col, dd, k0, k1, k2, k3, k5, hC⟩ := (c.at_ _ b).obj
  exact load_attr hC (c.at_ _ b).ns c.ga c.hd lk_headers I (by unfold hdM; rw [if_pos rfl]) rfl hQ
section
variable {F : Fm} {ρ : Rho} {k : Nat}
theorem src_hdr {x : Str} {np pos : PySem.Pos} {C N : Addr} {mN : Str → Option Value} {l : List IV} (i : Nat) (c : ClsB F.base C N mN) (hs : F.slots[i]? = some (x, none)) (hr : ρ[i]? = some (.obj C l, false)) (hd : (x == ("__debug__" : Str)) = false := by decide) : SrcL prog w F ρ k (.Attribute (.Name x np) "_headers" pos) l := fun b r lf ok A s s₀ rm x₀ I => by
  obtain ⟨m, hm, fp, a, _⟩ := I.sl
  obtain ⟨ov, h3, h4, _⟩ := a i x none (.obj C l) false hs hr
  have h3 : ov = m x := h3
  subst h3
  cases hv : m x with
  | none => rw [hv] at h4; exact h4.elim
  | some v =>
    rw [hv] at h4
    have h4 : Rep prog w s₀.heap (.obj C l) v (fp i) := h4
    obtain ⟨xo, d, L, vs, od, mm, rfl, a1, a2, a3, a4, a5, a6, f⟩ := id h4
    obtain ⟨xo', d', L', vs', e0, hi, hl, hvs, _⟩ := rep_inst (h4.keep x₀.2)
    obtain ⟨_, hiM, hlM, _⟩ : xo' = xo ∧ s.heap.Inst xo C (hdM L) ∧ PlainL s.heap L vs.toArray ∧ True := by
      cases e0
      subst a4
      exact ⟨rfl, ⟨od, x₀.2 _ _ a1, a2.1.1, a2.1.2.2, .inr ⟨d, a2.1.2.1, a2.2, a3.keeps x₀.2⟩⟩, a5.keeps x₀.2, trivial⟩
    refine Attribute_name (wpAny_Name (wpAny_loadName_local ok.kind (ok.loc i x hs) (hm.keeps x₀.2) hv ?_) hd)
    have cb : ClsB F.base C N mN := c
    refine hdr_wp cb (fun a o e => x₀.2 _ _ (I.keep a o (lf.base a o e))) hiM ⟨Ext.tok _ _, L, vs, rfl, hlM, a6.keep x₀.2, fun s₂ X b₂ x₂ fz hLX => ?_⟩
    obtain ⟨ov, fp', h5, h6, h7⟩ := fz.slot i x none (.obj C l) hs hr
    obtain ⟨m', hm', e⟩ := h5
    have e : ov = some (.ref xo) := by rw [e, ← ns_uniq hm hm', hv]
    subst e
    obtain ⟨y, dy, Ly, vy, oy, my, ey, b1, b2, b3, b4, b5, b6, bf⟩ := (show Rep prog w s₀.heap (.obj C l) (.ref xo) fp' from h6)
    cases ey
    rw [a1] at b1; cases b1
    have : d = dy := Option.some.inj (a2.1.2.1.symm.trans b2.1.2.1)
    subst this
    subst a4 b4
    have := ns_uniq a3.ns b3.ns "_headers"
    unfold hdM at this
    rw [if_pos rfl, if_pos rfl] at this
    have := Value.ref.inj (Option.some.inj this)
    subst this
    obtain ⟨o, _, ho, _⟩ := a5
    exact ⟨o, h7 L (by rw [bf]; simp) o (x₂.2 _ _ (x₀.2 _ _ ho))⟩
/-- a call by keywords -/
def CallX (prog : Program) (w : World) (base : Addr → Option Obj) (k : Nat) (v : Value) (ks : List (Str × Value)) (ps : List PV) (p : PV) (fr : Bool) : Prop :=
  ∀ A s vals, Room k A → s.gens = #[] → Bk base s → Reps prog w s.heap ps vals → wpAny (model prog w) A (PySem.call v vals ks) (Gives' prog w p fr s) No s
/-- a method of the class -/
structure MethB (base : Addr → Option Obj) (mN : Str → Option Value) (name : Str) (f : Addr) : Prop where
  at_ : mN name = some (.ref f)
  fn : ∃ o fd, base f = some o ∧ o.cls = .type "function" ∧ o.data = .func fd
  sh : name ≠ "_headers"
  lk : ∃ y, typeLookup (.type "object") name = pure y
theorem meth_of {base : Addr → Option Obj} {A : Around} {s : Shared} {x C N L f : Addr} {mN : Str → Option Value} {name : Str} {pl : Sem Bool} {Q : Value × List Value → Shared → Prop} {E : Value → Shared → Prop} (c : ClsB base C N mN) (mb : MethB base mN name f) (b : Bk base s) (I : s.heap.Inst x C (hdM L)) (hQ : Q (.ref f, [.ref x]) s) : wpAny (model prog w) A (getMethod (.ref x) name pl) Q E s := by
  obtain ⟨hp, g, d, t, os⟩ := s
  obtain ⟨nm, q, bs, sn, sub, col, dd, k0, k1, k2, k3, k5, hC⟩ := (c.at_ _ b).obj
  obtain ⟨o, fd, h1, h2, h3⟩ := mb.fn
  obtain ⟨y, hy⟩ := mb.lk
  exact method_of hC (c.at_ _ b).ns c.ga c.gt mb.at_ (b _ _ h1) h2 hy I (by unfold hdM; rw [if_neg mb.sh]) hQ
theorem few_plain (es : List PySem.Expr) (pos : PySem.Pos) (kws : List (Option Str × Sem Value)) (hk : kws.all (·.1.isSome) = true) (hl : es.length + kws.length < 29) (hs : starEach es F.env = plainArgs es F.env) : methodCallForm (es.length + kws.length) (backTo pos (starEach es F.env)) kws = true := by
  unfold methodCallForm
  rw [hs, backTo_plain, hk]
  have e1 : ∀ es : List PySem.Expr, (plainArgs es F.env).all (fun x => !x.1) = true := fun es => by induction es with
    | nil => rfl
    | cons e es ih => exact ih
  rw [e1]
  simp only [Bool.true_and, decide_eq_true_eq]
  split <;> omega
theorem reps_cons {h : Heap} {p : PV} {v : Value} {fp : List Addr} {ps : List PV} {vs : List Value} (r : Rep prog w h p v fp) (rs : Reps prog w h ps vs) : Reps prog w h (p :: ps) (v :: vs) := ⟨⟨fp, r⟩, rs⟩
theorem ev_inst {o : PySem.Expr} {name : Str} {apos pos : PySem.Pos} {es : List PySem.Expr} {C N f : Addr} {mN : Str → Option Value} {l : List IV} {ps : List PV} {p : PV} {f0 fr : Bool} (hb : attributeBase o name F.env (eval o F.env) = eval o F.env) (hs : starEach es F.env = plainArgs es F.env) (hl : (apos.endLine == pos.line) = true) (hlen : es.length < 20)
    (c : ClsB F.base C N mN) (mb : MethB F.base mN name f) (h0 : EvJ prog w F ρ k o (.obj C l) f0) (ha : EvL prog w F ρ k es ps) (cl : CallP prog w F.base k (.ref f) (.obj C l :: ps) p fr) : EvJ prog w F ρ k (.Call (.Attribute o name apos) es [] pos) p fr := fun A s rm I => by
  rw [arm_eval_Call, hb]
  refine wpAny_bind (wpAny_mono (h0 A s rm I) (fun ov s₁ ⟨x1, fp, r, _⟩ => ?_) fun _ _ e => e)
  have b1 := (I.ext x1).keep
  obtain ⟨xo, d, L, vs, rfl, hi, hpl, hv, rfl⟩ := rep_inst r
  refine wpAny_bind (wpAny_standAt ?_)
  have hform := few_plain (F := F) es pos (backToKw pos (keywordEach [] F.env)) rfl (by show es.length + 0 < 29; omega) hs
  have hform : methodCallForm (es.length + ([] : List Keyword).length) (backTo pos (starEach es F.env)) (backToKw pos (keywordEach [] F.env)) = true := hform
  have hpos : methodCallPos true o F.env apos pos = pure pos := by unfold methodCallPos; simp [hl]
  unfold methodCall
  rw [hform]
  refine wpAny_bind (wpAny_holding (meth_of c mb b1 hi ?_))
  refine wpAny_bind (wpAny_of_eq hpos ?_)
  obtain ⟨of, fd, h1, h2, h3⟩ := mb.fn
  rw [hs, backTo_plain]
  refine callWith_fn (plainArgs_any _ _) h3 (wpAny_mono (args_wp ha A s₁ rm (I.ext x1)) (fun vs s₂ ⟨x2, rs⟩ => ⟨((I.ext x1).ext x2).keep _ _ h1, ?_⟩) fun _ _ e => e)
  refine wpAny_mono (cl A s₂ _ rm ((I.ext x1).ext x2).gens ((I.ext x1).ext x2).keep (reps_cons (r.keep x2.2) rs)) (fun v s₃ h => give_trans (x1.trans x2) h) fun _ _ e => e
/-- one argument, one keyword -/
theorem ev_inst_kw {o : PySem.Expr} {name kn : Str} {apos pos kp cp : PySem.Pos} {e : PySem.Expr} {b : Bool} {kd : Nat} {C N f : Addr} {mN : Str → Option Value} {l : List IV} {q p : PV} {f0 f1 fr : Bool} (hb : attributeBase o name F.env (eval o F.env) = eval o F.env) (hs : starEach [e] F.env = plainArgs [e] F.env) (hl : (apos.endLine == pos.line) = true)
    (c : ClsB F.base C N mN) (mb : MethB F.base mN name f) (h0 : EvJ prog w F ρ k o (.obj C l) f0) (ha : EvJ prog w F ρ k e q f1) (cl : CallX prog w F.base k (.ref f) [(kn, .bool b)] [.obj C l, q] p fr) : EvJ prog w F ρ k (.Call (.Attribute o name apos) [e] [⟨some kn, .Constant (.bool b) kd cp, kp⟩] pos) p fr := fun A s rm I => by
  rw [arm_eval_Call, hb]
  refine wpAny_bind (wpAny_mono (h0 A s rm I) (fun ov s₁ ⟨x1, fp, r, _⟩ => ?_) fun _ _ e => e)
  have b1 := (I.ext x1).keep
  obtain ⟨xo, d, L, vs, rfl, hi, hpl, hv, rfl⟩ := rep_inst r
  refine wpAny_bind (wpAny_standAt ?_)
  have hform : methodCallForm ([e].length + [(⟨some kn, .Constant (.bool b) kd cp, kp⟩ : Keyword)].length) (backTo pos (starEach [e] F.env)) (backToKw pos (keywordEach [(⟨some kn, .Constant (.bool b) kd cp, kp⟩ : Keyword)] F.env)) = true :=
    few_plain (F := F) [e] pos (backToKw pos (keywordEach [(⟨some kn, .Constant (.bool b) kd cp, kp⟩ : Keyword)] F.env)) rfl (by show 1 + 1 < 29; omega) hs
  have hpos : methodCallPos true o F.env apos pos = pure pos := by unfold methodCallPos; simp [hl]
  unfold methodCall
  rw [hform]
  refine wpAny_bind (wpAny_holding (meth_of c mb b1 hi ?_))
  refine wpAny_bind (wpAny_of_eq hpos ?_)
  obtain ⟨of, fd, h1, h2, h3⟩ := mb.fn
  rw [hs, backTo_plain]
  refine callWith_function_kw (o := of) (fd := fd) (evalArgs_kw rfl (Calls.spliced_cons (wpAny_mono (ha A s₁ rm (I.ext x1)) (fun v s₂ ⟨x2, fp2, r2, _⟩ => Calls.spliced_nil ?_) fun _ _ e => e)))
  refine kws_cons (wpAny_mono (ev_bool (b := b) A s₂ rm ((I.ext x1).ext x2)) (fun u s₃ ⟨x3, fp3, r3, _⟩ => kws_nil ?_) fun _ _ e => e)
  have r3 : u = .bool b := r3.1
  subst r3
  refine ⟨⟨(((I.ext x1).ext x2).ext x3).keep _ _ h1, h3⟩, ?_⟩
  refine wpAny_mono (cl A s₃ [.ref xo, v] rm (((I.ext x1).ext x2).ext x3).gens (((I.ext x1).ext x2).ext x3).keep ⟨⟨_, r.keep (x2.trans x3).2⟩, ⟨fp2, r2.keep x3.2⟩, trivial⟩) (fun v s₃ h => give_trans ((x1.trans x2).trans x3) h) fun _ _ e => e
end
/-- a call of a program's function, its arguments bound as they are -/
theorem call_ownX {fd : FuncData} {a : Addr} {sp : List (Str × CSlot)} {names : List Str} {ps ps' : List PV} {p : PV} {body : List Stmt} {base : Addr → Option Obj} {k n : Nat} {ks : List (Str × Value)} (ho : ∀ s : Shared, Bk base s → (∃ o, s.heap.get? a = some o ∧ o.data = .func fd) ∧ s.heap.NoLimit ∧ s.heap.CodeRec fd.code fd.qualname)
    (hbody : fd.body = .stmts body) (hclo : fd.closure = []) (hbind : ∀ A s vals, Bk base s → Reps prog w s.heap ps' vals → ∃ vals', Reps prog w s.heap ps vals' ∧ wpAny (model prog w) A (bindArgs fd ⟨vals, ks⟩) (fun b s' => b = names.zip vals' ∧ s' = s) No s) (so : SpOk0 fd.scope sp) (nd : (sp.map (·.1)).Nodup) (hsp : (sp.map (·.1)).take ps.length = names) (hl : names.length = ps.length) (hn : sp.length = ps.length + n)
    (hx : ∀ (L : Addr) (base' : Addr → Option Obj) (os : OsState), (∀ a o, base a = some o → base' a = some o) → FmOk (fnFm fd a L sp base' os) → ExS prog w (fnFm fd a L sp base' os) (rhoOf ps n) k (execs body (callEnvC fd L a)) (fun fl ρ' => fl = .ret p))
    (hco : fd.scope.isCoroutine = false := by rfl) (hgen : fd.scope.isGenerator = false := by rfl) (hk : fd.scope.kind = .function := by rfl) : CallX prog w base (k + 1) (.ref a) ks ps' p true := fun A s vals rm g bk r => by
  obtain ⟨⟨o, ho1, ho2⟩, hlim, hcd⟩ := ho s bk
  have nd' : names.Nodup := by rw [← hsp]; exact nd.sublist (List.take_sublist _ _)
  obtain ⟨vals', r', hb⟩ := hbind A.in1 s vals bk r
  refine wpAny_call (fn_run (X := []) (P := fun q _ => q = p) rm g ho1 ho2 hlim hcd hbody hclo hb (fun x hx => ?_) so nd (bound_pos nd' hl r' hsp hn) (fun base' hb' okF => ?_) (fun base' v q ρ' s' hb' hq I hv => ?_) hco hgen hk)
  · have h1 : x.1 ∈ names := (List.of_mem_zip hx).1
    rw [← hsp] at h1
    have h2 := List.mem_of_mem_take h1
    obtain ⟨⟨y, c⟩, h3, h4⟩ := List.mem_map.mp h2
    exact ⟨c, by rw [← h4]; exact h3⟩
  · exact ex_mono (hx _ base' _ (fun a o e => hb' a o (by simp) (bk a o e)) okF) fun fl ρ' e => ⟨p, .inl e, rfl⟩
  · subst hq
    obtain ⟨fp, h1, h2⟩ := hv
    have hb2 : ∀ a, base' a = s.heap.get? a := fun a => by rw [hb']; simp
    exact ⟨⟨⟨I.gens.trans g.symm, I.os⟩, fun b o e => I.keep b o ((hb2 b).trans e)⟩, fp, h1, fun _ z hz => (hb2 z).symm.trans (h2 z hz)⟩
open PySem.Builtin.Re PySem.Builtin PySem.Sre
def C3 : Array Nat := #[14, 10, 4, 1, 1, 22, 0, 31, 16, 127, 0, 13, 7, 22, 0, 31, 16, 127, 0, 1]
def C4 : Array Nat := #[14, 14, 4, 1, 1, 9, 4294966783, 0, 0, 2147483648, 0, 0, 0, 0, 0, 13, 11, 9, 4294966783, 0, 0, 2147483648, 0, 0, 0, 0, 0, 1]
/-- no sign that the patterns find -/
def okC (c : Nat) : Prop := 32 ≤ c ∧ c ≠ 127
def SetMiss (C : Array Nat) : Prop := ∀ c seen, okC c → ∃ seen', inSet C c C.size 5 true seen = .ok (false, seen')
theorem miss3 : SetMiss C3 := fun c seen ⟨h1, h2⟩ => by
  have e : inSet C3 c C3.size 5 true seen = if (decide (0 ≤ c) && decide (c ≤ 31)) = true then .ok (true, seen.add 22) else if (c == 127) = true then .ok (true, (seen.add 22).add 16) else .ok (false, ((seen.add 22).add 16).add 0) := rfl
  rw [e, if_neg (by simp; omega), if_neg (by simpa using h2)]
  exact ⟨_, rfl⟩
theorem bits4 : ∀ c : Fin 256, 32 ≤ c.val → c.val ≠ 127 → (C4.getD (5 + (1 + c.val / 32)) 0).testBit (c.val % 32) = false := by decide +kernel
theorem miss4 : SetMiss C4 := fun c seen ⟨h1, h2⟩ => by
  have e : inSet C4 c C4.size 5 true seen = if (decide (c < 256) && (C4.getD (5 + (1 + c / 32)) 0).testBit (c % 32)) = true then .ok (true, seen.add 9) else .ok (false, (seen.add 9).add 0) := rfl
  have hn : (decide (c < 256) && (C4.getD (5 + (1 + c / 32)) 0).testBit (c % 32)) = false := by
    by_cases hc : c < 256
    · rw [bits4 ⟨c, hc⟩ h1 h2]; simp
    · simp [hc]
  rw [e, hn, if_neg (by simp)]
  exact ⟨_, rfl⟩
theorem admN {C : Array Nat} (hm : SetMiss C) {m : Sre.M} (hc : m.code = C) (hk : ∀ i, i < m.lim → okC (m.text.getD i 0)) : ∀ (f s : Nat) (seen : Sre.Seen), ∃ seen', M.admitted m f s seen = .ok (none, seen')
  | 0, s, seen => ⟨seen, rfl⟩
  | f + 1, s, seen => by
    unfold M.admitted
    by_cases hl : s < m.lim
    · rw [if_neg (by omega), hc]
      obtain ⟨seen1, h1⟩ := hm (m.text.getD s 0) seen (hk s hl)
      rw [h1]
      obtain ⟨seen2, h2⟩ := admN hm hc hk f (s + 1) seen1
      exact ⟨seen2, h2⟩
    · rw [if_pos (by omega)]
      exact ⟨seen, rfl⟩
def Misses (C : Array Nat) (x : Array Nat) : Prop := ∃ n m', n ≤ 2 ∧ (Sre.forSearch C x 0 0 x.size false).runFor n = m' ∧ m'.outcome = some .failed
theorem search3 {text : Array Nat} (hk : ∀ i, i < text.size → okC (text.getD i 0)) : Misses C3 text := by
  have e : ∀ lim, forSearch C3 text 0 0 lim false = if (decide (0 > lim) || decide (lim - 0 < 1)) = true then mk C3 text lim 0 0 11 0 0 true [] 0 (some false) (({} : Sre.Seen).add 14) else
      match M.admitted (mk C3 text lim 0 lim 11 0 0 true [] 0 none (({} : Sre.Seen).add 14)) (lim + 1 - 0) 0 (({} : Sre.Seen).add 14) with
      | .ok (some i, seen) => mk C3 text lim i lim 11 i i true [nsFrame 11 i true] 1 none seen
      | .ok (none, seen) => mk C3 text lim 0 lim 11 0 0 true [] 0 (some false) seen
      | .error why => (mk C3 text lim 0 lim 11 0 0 true [] 0 none (({} : Sre.Seen).add 14)).stick why := fun lim => rfl
  unfold Misses
  rw [e]
  split
  · exact ⟨1, _, by omega, by rw [run_step _ _ rfl, fin_step], rfl⟩
  · obtain ⟨seen', h1⟩ := admN miss3 (m := mk C3 text text.size 0 text.size 11 0 0 true [] 0 none (({} : Sre.Seen).add 14)) rfl hk (text.size + 1 - 0) 0 (({} : Sre.Seen).add 14)
    rw [h1]
    exact ⟨1, _, by omega, by rw [run_step _ _ rfl, fin_step], rfl⟩
theorem search4 {text : Array Nat} (hk : ∀ i, i < text.size → okC (text.getD i 0)) : Misses C4 text := by
  have e : ∀ lim, forSearch C4 text 0 0 lim false = if (decide (0 > lim) || decide (lim - 0 < 1)) = true then mk C4 text lim 0 0 15 0 0 true [] 0 (some false) (({} : Sre.Seen).add 14) else
      match M.admitted (mk C4 text lim 0 lim 15 0 0 true [] 0 none (({} : Sre.Seen).add 14)) (lim + 1 - 0) 0 (({} : Sre.Seen).add 14) with
      | .ok (some i, seen) => mk C4 text lim i lim 15 i i true [nsFrame 15 i true] 1 none seen
      | .ok (none, seen) => mk C4 text lim 0 lim 15 0 0 true [] 0 (some false) seen
      | .error why => (mk C4 text lim 0 lim 15 0 0 true [] 0 none (({} : Sre.Seen).add 14)).stick why := fun lim => rfl
  unfold Misses
  rw [e]
  split
  · exact ⟨1, _, by omega, by rw [run_step _ _ rfl, fin_step], rfl⟩
  · obtain ⟨seen', h1⟩ := admN miss4 (m := mk C4 text text.size 0 text.size 15 0 0 true [] 0 none (({} : Sre.Seen).add 14)) rfl hk (text.size + 1 - 0) 0 (({} : Sre.Seen).add 14)
    rw [h1]
    exact ⟨1, _, by omega, by rw [run_step _ _ rfl, fin_step], rfl⟩
section
variable {prog : Program} {w : World}
theorem target_wp {p : Addr} {x : Str} {t : Tok} {C : Array Nat} {A : Around} {s : Shared} {E : Value → Shared → Prop} {Q : ReTarget → Shared → Prop} (hx : x.length ≤ 100000) (hp : PatOk s.heap p C) (hq : Q (tgtOf p x t C) s) : wpAny (model prog w) A (reTarget "re.Pattern.search" "search" ⟨[.ref p, .str x t], []⟩) Q E s := by
  obtain ⟨o, vs, T, ot, items, n, a1, a2, a3, a4, a5, a6, a7, a8, _, a9, a10⟩ := hp
  unfold reTarget
  dsimp only
  refine wpAny_bind (wpAny_of_eq (a := [some (.str x t), none, none]) rfl ?_)
  dsimp only
  refine wpAny_bind (wpAny_pure ?_)
  refine wpAny_bind (wpAny_pure ?_)
  refine wpAny_bind (m := fieldsOf (.ref p)) ?_
  unfold fieldsOf
  refine wpAny_bind (wpAny_load a1 ?_)
  rw [a4]
  refine wpAny_pure ?_
  refine wpAny_bind (m := reTextOf (.str x t)) (wpAny_pure ?_)
  dsimp only
  rw [a6]
  rw [if_neg (by decide), if_neg (by decide)]
  refine wpAny_bind (m := reNoCollectionInside (.str x t) 0) (wpAny_pure ?_)
  rw [a5]
  refine wpAny_bind (m := reRawItems (.ref T)) ?_
  unfold reRawItems
  refine wpAny_bind (wpAny_seqItems a8 a9 (wpAny_pure (wpAny_pure ?_)))
  dsimp only [Option.getD]
  rw [a10, a7]
  have e : min (2 ^ 63 - 1 : Int).toNat x.cps.size = x.cps.size := by
    have : x.cps.size ≤ 100000 := hx
    exact Nat.min_eq_right (by have : (2 ^ 63 - 1 : Int).toNat = 9223372036854775807 := by decide
                               omega)
  rw [e]
  have e0 : min (0 : Int).toNat x.cps.size = 0 := Nat.zero_min _
  rw [e0]
  exact hq
theorem c_search {C : Array Nat} {p : Addr} {x : Str} {t : Tok} {A : Around} {s : Shared} {Q E : Value → Shared → Prop} (hm : Misses C x.cps) (hx : x.length ≤ 100000) (hp : PatOk s.heap p C) (hQ : Q .none s) :
    wpAny (model prog w) A (PySem.call (.builtin "re.Pattern.search") [.ref p, .str x t]) Q E s := by
  have hT : s.TypeIs (.ref p) "re.Pattern" := by obtain ⟨o, vs, T, ot, items, n, a1, a2, _⟩ := hp; exact ⟨o, a1, a2⟩
  obtain ⟨n, m', h1, h2, h3⟩ := hm
  refine wpAny_call (codeAny_call_builtin slot_search.plain entry_search (slot_search.check _ _ _ _ _ _ _ _ hT (args_search_2 _ _) ?_))
  refine wpAny_bind (target_wp hx hp ?_)
  unfold reAnswer
  refine wpAny_bind (toEnd_wp h2 (by omega) (.inr ⟨h3, ?_⟩))
  exact wpAny_pure hQ
end
section
variable {prog : Program} {w : World} {F : Fm} {ρ : Rho} {k : Nat}
/-- re.search finds nothing -/
theorem ev_re_search {C : Array Nat} {p : Addr} {f : PySem.Expr} {apos pos : PySem.Pos} {e2 : PySem.Expr} {x : Str} {f0 f2 : Bool} (hb : attributeBase f "search" F.env (eval f F.env) = eval f F.env) (hs : starEach [e2] F.env = plainArgs [e2] F.env) (hl : (apos.endLine == pos.line) = true)
    (g : EvJ prog w F ρ k f (.iv (.at (.val (.ref p)))) f0) (hp : ∀ s : Shared, Bk F.base s → PatOk s.heap p C) (h2 : EvJ prog w F ρ k e2 (.str x) f2) (hm : Misses C x.cps) (hx : x.length ≤ 100000) :
    EvJ prog w F ρ k (.Call (.Attribute f "search" apos) [e2] [] pos) .none true := fun A s rm I => by
  refine meth_wp hb hs hl (by simp) m_search (wpAny_mono (g A s rm I) (fun v s₀ ⟨x0, fp0, ⟨q0, _⟩, _⟩ => ?_) fun _ _ e => e)
  have q0 : v = .ref p := q0
  subst q0
  obtain ⟨o, vs, T, ot, items, n, ho, hc, hd, _⟩ := hp s₀ (I.ext x0).keep
  refine ⟨⟨o, ho, hc⟩, fun a ea => by cases ea; exact ⟨o, ho, hd⟩, ?_⟩
  refine Calls.spliced_cons (wpAny_mono (h2 A s₀ rm (I.ext x0)) (fun a s₂ ⟨x2, fp2, ⟨⟨t2, q2⟩, _⟩, _⟩ => Calls.spliced_nil ?_) fun _ _ e => e)
  subst q2
  exact c_search hm hx (hp s₂ ((I.ext x0).ext x2).keep) (give_trans (x0.trans x2) giv_none)
end
variable {prog : Program} {w : World}
section
variable {k : Nat} {base : Addr → Option Obj} {F : Fm} {ρ : Rho}
abbrev PV.val (u : Value) : PV := .iv (.at (.val u))
theorem giv_val {s : Shared} {u : Value} {fr : Bool} : Gives' prog w (PV.val u) fr s u s := ⟨Ext.refl s, [], ⟨rfl, rfl⟩, fun _ a ha => nomatch ha⟩
theorem c_type {p : PV} {T : String} (t : TyOf p T) (hnb : (Value.type T == Value.type "builtin_function_or_method") = false) : CallP prog w base k (.type "type") [p] (PV.val (.type T)) true := fun A s vals rm g b r => by
  obtain ⟨v, rfl, fp, h⟩ := reps1 r
  exact call_type_of (t.is h) hnb giv_val
theorem op_is_type {T : String} : Op2 (prog := prog) (w := w) k (compareOp .Is) (PV.val (.type T)) (PV.val (.type T)) (.bool true) true := fun A s x y fa fb rm g ⟨h1, _⟩ ⟨h2, _⟩ => by
  have h1 : x = .type T := h1
  have h2 : y = .type T := h2
  subst h1 h2
  exact wpAny_is_self rfl giv_bool
theorem op_isnot_type {T : String} : Op2 (prog := prog) (w := w) k (compareOp .IsNot) (PV.val (.type T)) (PV.val (.type T)) (.bool false) true := fun A s x y fa fb rm g ⟨h1, _⟩ ⟨h2, _⟩ => by
  have h1 : x = .type T := h1
  have h2 : y = .type T := h2
  subst h1 h2
  exact wpAny_isNot_self rfl giv_bool
theorem eb_call_none {f : PySem.Expr} {as : List PySem.Expr} {kw : List Keyword} {pos : PySem.Pos} {fr : Bool} (h : EvJ prog w F ρ k (.Call f as kw pos) .none fr) : EvB prog w F ρ k (.Call f as kw pos) false :=
  eb_val h (fun A s v _ (hv : v = .none) => by subst hv; exact truthy_none ⟨rfl, Ext.refl s⟩) fun Q s A E h => wpAny_isTrue_value h
theorem eb_name {x : Str} {pos : PySem.Pos} {b fr : Bool} (h : EvJ prog w F ρ k (.Name x pos) (.bool b) fr) : EvB prog w F ρ k (.Name x pos) b := eb_bool h fun Q s A E h => wpAny_isTrue_value h
end
end Wk
namespace L2
open Wk Hd2
abbrev mHd (P : Params) : Str → Option Value := nsOf (o170_0 P)
theorem cl_s (P : Params) : isDictS (o170_0 P) = true := by kernel_rfl
theorem clsB {w : World} {base : Addr → Option Obj} (t : Top w base) : ClsB base 171 170 (mHd w.params) where
  at_ := fun s b => ⟨⟨_, _, _, _, _, _, _, _, _, _, _, _, (t.yp b).1 171 (o171_0 w.params) (by kernel_rfl)⟩, ns_of ((t.yp b).1 170 (o170_0 w.params) (by kernel_rfl)) (cl_s _)⟩
  ga := by kernel_rfl
  gt := by kernel_rfl
  hd := by kernel_rfl
theorem methB {w : World} {base : Addr → Option Obj} (t : Top w base) {name : Str} {f : Addr} {o : Obj} {fd : FuncData} (h1 : mHd w.params name = some (.ref f)) (h2 : (KK w.params).lookup f = some o) (h3 : o.cls = .type "function") (h4 : o.data = .func fd) (h5 : name ≠ "_headers") (h6 : ∃ y, typeLookup (.type "object") name = pure y) : MethB base (mHd w.params) name f := ⟨h1, ⟨o, fd, t.1 f o h2, h3, h4⟩, h5, h6⟩
/-- a str without control signs -/
def StrOk (x : Str) : Prop := (∀ i, i < x.cps.size → okC (x.cps.getD i 0)) ∧ x.length ≤ 100000
set_option maxHeartbeats 2000000 in
theorem c_convert {w : World} {base : Addr → Option Obj} {k : Nat} (t : Top w base) {l : List IV} {x : Str} {b : Bool} (hx : StrOk x) : CallX pw w base (k + 1) (.ref 70) [("name", .bool b)] [.obj 171 l, .str x] (.str x) true := by
  refine call_ownX (fd := fdOf (o70_0 w.params)) (sp := [("self", .loc), ("value", .loc), ("name", .loc), ("regex", .loc)]) (names := ["self", "value", "name"]) (ps := [.obj 171 l, .str x, .bool b]) (n := 1) (body := fBody (cd 5 1)) (fnAt t (o := o70_0 w.params) (oc := o69_0 w.params) (by kernel_rfl) rfl rfl (by kernel_rfl) rfl rfl) rfl rfl ?_ ⟨by kernel_rfl, by kernel_rfl, by kernel_rfl, by kernel_rfl, trivial⟩ (by decide) rfl rfl rfl ?_ (by kernel_rfl) (by kernel_rfl) (by kernel_rfl)
  · intro A s vals bk r
    obtain ⟨v, u, rfl, h1, h2⟩ := reps2 r
    exact ⟨[v, u, .bool b], ⟨h1, h2, ⟨[], rfl, rfl⟩, trivial⟩, wpAny_of_eq rfl ⟨rfl, rfl⟩⟩
  · intro L base' os hb ok
    have t' := t.up hb
    have f := fr2_fn (fd := fdOf (o70_0 w.params)) (a := 70) (L := L) (sp := [("self", .loc), ("value", .loc), ("name", .loc), ("regex", .loc)]) (os := os) t' rfl rfl (by kernel_rfl)
    have g1 := gl (x := "_name_disallowed_re") f (by kernel_rfl) (v := .ref 43) (by kernel_rfl)
    have g2 := gl (x := "_value_disallowed_re") f (by kernel_rfl) (v := .ref 48) (by kernel_rfl)
    have gt := bi (x := "type") f (by kernel_rfl) (by kernel_rfl) (v := .type "type") (by kernel_rfl)
    have gs := bi (x := "str") f (by kernel_rfl) (by kernel_rfl) (v := .type "str") (by kernel_rfl)
    have p1 := pat_of t' (p := 43) (T := 42) (o := o43_0 w.params) (ot := o42_0 w.params) (C := C3) (by kernel_rfl) (by kernel_rfl) rfl rfl rfl (by kernel_rfl) (by kernel_rfl) (by kernel_rfl) rfl rfl (by kernel_rfl)
    have p2 := pat_of t' (p := 48) (T := 47) (o := o48_0 w.params) (ot := o47_0 w.params) (C := C4) (by kernel_rfl) (by kernel_rfl) rfl rfl rfl (by kernel_rfl) (by kernel_rfl) (by kernel_rfl) rfl rfl (by kernel_rfl)
    refine ex_cons (P₁ := fun fl _ => fl = .ret (.str x)) (ex_if (b := true) (eb_cmp (by rfl) (ev_call (fr := true) (by rfl) gt (.cons (ev_local 1 ok rfl rfl (by intro q; cases q)) .nil) (c_type .str (by decide)) (fun a e => nomatch e)) (ev_glob (p := .at (.val (.type "str"))) gs fun h => rfl) op_is_type) ?_) (fun ρ' e => by cases e) (fun fl ρ' _ e => e)
    have e1 : EvJ pw w (fnFm (fdOf (o70_0 w.params)) 70 L [("self", .loc), ("value", .loc), ("name", .loc), ("regex", .loc)] base' os) (rhoOf [.obj 171 l, .str x, .bool b] 1) k (.IfExp (.Name "name" ⟨22, 43, 22, 47⟩) (.Name "_name_disallowed_re" ⟨22, 20, 22, 39⟩) (.Name "_value_disallowed_re" ⟨22, 53, 22, 73⟩) ⟨22, 20, 22, 73⟩) (PV.val (.ref (if b then 43 else 48))) true := by
      refine ev_ifexp (c := b) (eb_name (ev_local 2 ok rfl rfl (by intro q; cases q))) ?_
      cases b with
      | true => exact ev_glob (p := .at (.val (.ref 43))) g1 fun h => rfl
      | false => exact ev_glob (p := .at (.val (.ref 48))) g2 fun h => rfl
    refine ex_then (ex_assign_iv (own := false) 3 (acc := none) rfl own_none e1 (by rfl)) ?_
    refine ex_then (ρ₁ := [(.obj 171 l, false), (.str x, false), (.bool b, false), (PV.val (.ref (if b then 43 else 48)), false)]) (ex_if (b := false) (eb_call_none (fr := true) ?_) (ex_nil ⟨rfl, rfl⟩)) ?_
    · cases b with
      | true => exact ev_re_search (C := C3) (by rfl) (by rfl) (by rfl) (ev_local 3 ok rfl rfl (by intro q; cases q)) p1 (ev_local 1 ok rfl rfl (by intro q; cases q)) (search3 hx.1) hx.2
      | false => exact ev_re_search (C := C4) (by rfl) (by rfl) (by rfl) (ev_local 3 ok rfl rfl (by intro q; cases q)) p2 (ev_local 1 ok rfl rfl (by intro q; cases q)) (search4 hx.1) hx.2
    · exact ex_one (ex_return_iv (ev_local 1 ok rfl rfl (by intro q; cases q)) rfl)
open Wk Hd2
abbrev rowsIV (l : List (Str × Str)) : List IV := l.map fun p => .tup [.str p.1, .str p.2]
def LowOk (x : Str) : Prop := Builtin.Str.tooLong (Txt.lower x).length = false
def getV (l : List (Str × Str)) (x : Str) : At := match l.find? (fun p => Txt.lower p.1 == Txt.lower x) with | some p => .str p.2 | none => .none
theorem find_snoc {α : Type} (p : α → Bool) (done : List α) (x : α) (h : done.find? p = none) : (done ++ [x]).find? p = if p x then some x else none := by
  rw [List.find?_append, h]
  simp only [Option.none_or, List.find?_cons, List.find?_nil]
  cases p x <;> rfl
set_option maxHeartbeats 4000000 in
theorem c_get {w : World} {base : Addr → Option Obj} {k : Nat} (t : Top w base) {l : List (Str × Str)} {x : Str} (hx : LowOk x) (hs : StrOk (Txt.lower x)) (hl : ∀ p ∈ l, LowOk p.1) : CallP pw w base (k + 2) (.ref 118) [.obj 171 (rowsIV l), .str x] (.iv (.at (getV l x))) true := by
  refine call_ownX (ks := []) (fd := fdOf (o118_0 w.params)) (sp := [("self", .loc), ("name", .loc), ("default", .loc), ("k", .loc), ("v", .loc)]) (names := ["self", "name", "default"]) (ps := [.obj 171 (rowsIV l), .str x, .none]) (n := 2) (body := fBody (cd 5 8)) (fnAt t (o := o118_0 w.params) (oc := o117_0 w.params) (by kernel_rfl) rfl rfl (by kernel_rfl) rfl rfl) rfl rfl ?_ ⟨by kernel_rfl, by kernel_rfl, by kernel_rfl, by kernel_rfl, by kernel_rfl, trivial⟩ (by decide) rfl rfl rfl ?_ (by kernel_rfl) (by kernel_rfl) (by kernel_rfl)
  · intro A s vals bk r
    obtain ⟨v, u, rfl, h1, h2⟩ := reps2 r
    have h111 : s.heap.get? 111 = some (o111_0 w.params) := (t.yp bk).1 111 _ (by kernel_rfl)
    refine ⟨[v, u, .none], ⟨h1, h2, ⟨[], rfl, rfl⟩, trivial⟩, ?_⟩
    unfold bindArgs
    refine wpAny_bind (m := pure _) (wpAny_pure ?_)
    refine wpAny_bind (m := seqItems? (.ref 111)) (wpAny_seqItems h111 rfl ?_)
    exact wpAny_of_eq rfl ⟨rfl, rfl⟩
  · intro L base' os hb ok
    have t' := t.up hb
    have f := fr2_fn (fd := fdOf (o118_0 w.params)) (a := 118) (L := L) (sp := [("self", .loc), ("name", .loc), ("default", .loc), ("k", .loc), ("v", .loc)]) (os := os) t' rfl rfl (by kernel_rfl)
    have mc : MethB base' (mHd w.params) "_convert_string_type" 70 := methB t' (o := o70_0 w.params) (by kernel_rfl) (by kernel_rfl) rfl rfl (by decide) ⟨none, by rw [typeLookup_type, builtinLookup_eq_fast]; kernel_rfl⟩
    refine ex_then (ex_assign_iv (own := false) 1 (acc := none) rfl own_none (ev_inst_kw (fr := true) (by rfl) (by rfl) (by rfl) (clsB t') mc (ev_local 0 ok rfl rfl (by intro q; cases q)) (ev_meth (fr := true) (by rfl) (by rfl) (by rfl) (by decide) (ev_local 1 ok rfl rfl (by intro q; cases q)) .nil .str m_lower (c_lower hx)) (c_convert t' hs)) (by rfl)) ?_
    let P₁ : Fl → Rho → Prop := fun fl ρ' => fl = .ret (.iv (.at (getV l x))) ∨ (fl = .next ∧ getV l x = .none ∧ ∃ a b c d, ρ' = [(.obj 171 (rowsIV l), a), b, (.none, false), c, d])
    refine ex_cons (P₁ := P₁) (ex_forM l (fun p => .tup [.str p.1, .str p.2]) (fun done ρ' => done.find? (fun p => Txt.lower p.1 == Txt.lower x) = none ∧ ∃ c d, ρ' = [(.obj 171 (rowsIV l), false), (.str (Txt.lower x), false), (.none, false), c, d]) (itj_list (src_hdr 0 (clsB t') rfl rfl)) ⟨rfl, _, _, rfl⟩ ?_ ?_) ?_ ?_
    · rintro ρ' ⟨h1, c, d, rfl⟩
      refine .inr ⟨rfl, ?_, _, _, _, _, rfl⟩
      unfold getV; rw [h1]
    · rintro done p rest ρ' hxs ⟨h1, c, d, rfl⟩
      refine ⟨_, asg_tup (.cons 3 (acc := none) rfl own_none (.cons 4 (acc := none) rfl own_none .nil)), ?_⟩
      have hp : LowOk p.1 := hl p (by rw [hxs]; simp)
      have e := find_snoc (fun p : Str × Str => Txt.lower p.1 == Txt.lower x) done p h1
      refine ex_one (ex_if (b := Txt.lower p.1 == Txt.lower x) (eb_cmp (by rfl) (ev_meth (fr := true) (by rfl) (by rfl) (by rfl) (by decide) (ev_local 3 ok rfl rfl (by intro q; cases q)) .nil .str m_lower (c_lower hp)) (ev_local 1 ok rfl rfl (by intro q; cases q)) op_eq_str) ?_)
      cases hq : (Txt.lower p.1 == Txt.lower x) with
      | true =>
        rw [hq] at e
        refine ex_one (ex_return_iv (ev_local 4 ok rfl rfl (by intro q; cases q)) (.inl ?_))
        have : l.find? (fun p : Str × Str => Txt.lower p.1 == Txt.lower x) = some p := by
          rw [hxs, show done ++ p :: rest = (done ++ [p]) ++ rest by simp, List.find?_append, e]; rfl
        unfold getV; rw [this]
      | false =>
        rw [hq] at e
        exact ex_nil ⟨e, _, _, rfl⟩
    · rintro ρ' (h | ⟨_, h1, a, b, c, d, rfl⟩)
      · cases h
      · rw [h1]
        exact ex_one (ex_return_iv (ev_local 2 ok rfl rfl (by intro q; cases q)) rfl)
    · rintro fl ρ' hne (h | ⟨h, _⟩)
      · exact h
      · exact absurd h hne
def keysF (x : IV) : List IV := [.at (match x with | .tup [a, _] => a | _ => .none)]
theorem keysF_eq (l : List (Str × Str)) : (rowsIV l).flatMap keysF = strsIV (l.map (·.1)) := by
  induction l with
  | nil => rfl
  | cons p l ih => simp only [List.map_cons, List.flatMap_cons, ih]; rfl
set_option maxHeartbeats 4000000 in
theorem c_keys {w : World} {base : Addr → Option Obj} {k : Nat} (t : Top w base) {l : List (Str × Str)} (hl : l.length ≤ 1000) : CallP pw w base (k + 1) (.ref 123) [.obj 171 (rowsIV l)] (.list (strsIV (l.map (·.1)))) true := by
  refine call_own (fd := fdOf (o123_0 w.params)) (sp := [("self", .loc)]) (names := ["self"]) (n := 0) (body := fBody (cd 5 9)) (fnAt t (o := o123_0 w.params) (oc := o122_0 w.params) (by kernel_rfl) rfl rfl (by kernel_rfl) rfl rfl) rfl rfl ?_ ⟨by kernel_rfl, trivial⟩ (by decide) rfl rfl rfl ?_ (by kernel_rfl) (by kernel_rfl) (by kernel_rfl)
  · intro vals hv
    match vals, hv with
    | [v], _ => rfl
  · intro L base' os hb ok
    have t' := t.up hb
    refine ex_one (ex_return (ev_comp_eq [] [("k", .loc), ("v", .loc)] (rowsIV l) keysF ok (keysF_eq l) ?_) rfl rfl)
    refine ⟨by rfl, ⟨by kernel_rfl, by kernel_rfl, trivial⟩, by kernel_rfl, by decide, by decide +kernel, by intro _; rfl, rfl, itj_list (src_hdr 0 (clsB t') rfl rfl), ?_, len_one _ _ (by simp; exact Nat.le_trans hl (by decide))⟩
    intro C D base hbase okc x hx
    obtain ⟨p, hp, rfl⟩ := List.mem_map.mp hx
    refine ⟨[(.str p.1, false), (.str p.2, false)], true, asg_tup (.cons 0 (acc := none) rfl own_none (.cons 1 (acc := none) rfl own_none .nil)), .inl ⟨rfl, rfl⟩, ⟨.at (.str p.1), false, rfl, ev_local 0 okc rfl rfl (by intro q; cases q)⟩, .any (.any .nil)⟩
end L2
namespace Wk
variable {prog : Program} {w : World}
theorem plainL_map {h : Heap} {l : Addr} {items : Array Value} (hl : PlainL h l items) (f : Array Value → Array Value) : PlainL (h.update l (Obj.mapSeq f)) l (f items) := by
  obtain ⟨o, n, ho, hc, hdict, hd⟩ := hl
  obtain ⟨n', hd'⟩ := Obj.data_mapSeq hd f
  refine ⟨_, n', Heap.get?_update_self _ ho (Obj.isFreed_of_seq hd'), (Obj.cls_mapSeq ..).trans hc, ?_, hd'⟩
  obtain ⟨c, d, dt, sl⟩ := o
  cases dt <;> exact hdict
theorem plainL_map' {h : Heap} {l : Addr} {items us : Array Value} {f : Array Value → Array Value} (hl : PlainL h l items) (e : f items = us) : PlainL (h.update l (Obj.mapSeq f)) l us := e ▸ plainL_map hl f
/-- L[:] = D -/
theorem setItem_all {A : Around} {s : Shared} {L D sl : Addr} {xs us : Array Value} {Q : Unit → Shared → Prop} {E : Value → Shared → Prop} (hl : PlainL s.heap L xs) (hd : PlainL s.heap D us) (hne : L ≠ D) (hs : s.heap.IsSliceOf sl .none .none .none) (hx : xs.size ≤ 1000) (hu : us.size ≤ 1000)
    (hQ : ∀ h', PlainL h' L us → Heap.SameBut L s.heap h' → Q () { s with heap := h' }) : wpAny (model prog w) A (setItem (.ref L) (.ref sl) (.ref D)) Q E s := by
  obtain ⟨os, hos, hcs, hds⟩ := id hs
  obtain ⟨o, n, ho, hc, hdi, hda⟩ := id hl
  obtain ⟨o', n', ho', hc', hdi', hda'⟩ := id hd
  have hTs : s.TypeIs (.ref sl) "slice" := ⟨os, hos, hcs⟩
  have sz : sizeLine = 16777216 := sizeLine_eq
  have hf : (fun xs : Array Value => xs.extract 0 (0 : Int).toNat ++ us ++ xs.extract (max (0 : Int) (xs.size : Int)).toNat xs.size) xs = us := by
    dsimp only
    have e1 : (max (0 : Int) (xs.size : Int)).toNat = xs.size := by omega
    rw [e1]
    simp
  unfold setItem
  try with_reducible refine wpAny_holding ?_
  refine wpAny_bind (wpAny_sequenceKey hl.isList.typeIs (by decide) ?_)
  refine wpAny_bind (wpAny_callSpecial?_slot (name := Str.ofString "__setitem__") hl.isList.typeIs slot_list_setitem
    (wpAny_call_entry slot_list_setitem hl.isList.typeIs entry_list_setitem ?_ (args_list_setitem _ _ _)))
  show wpAny _ _ (Builtin.List.listSubscript? (.ref sl) >>= _) _ _ s
  refine wpAny_bind ?_
  unfold Builtin.List.listSubscript?
  refine wpAny_bind (wpAny_specialOf hTs slice_no_index ?_)
  simp only [Option.isNone_none, if_true]
  refine wpAny_pure ?_
  show wpAny _ _ (typeOf (.ref sl) >>= _) _ _ s
  refine wpAny_bind (wpAny_typeOf hTs ?_)
  rw [if_neg (by decide)]
  rw [listSliceParts_eq]
  refine wpAny_bind (wpAny_bind (wpAny_field hos hds (x := .none) rfl (wpAny_bind (wpAny_listPart .none ?_))))
  rw [if_neg (by decide)]
  refine wpAny_bind (wpAny_field hos hds (x := .none) rfl (wpAny_bind (wpAny_listPart .none ?_)))
  refine wpAny_bind (wpAny_field hos hds (x := .none) rfl (wpAny_bind (wpAny_listPart .none (wpAny_pure ?_))))
  dsimp only
  rw [if_neg (by simpa [Builtin.List.listSameRef] using hne)]
  refine wpAny_bind (m := Builtin.List.listAllItems (.ref D) _) ?_
  unfold Builtin.List.listAllItems
  refine wpAny_bind (wpAny_typeOf hd.isList.typeIs ?_)
  rw [if_pos (by decide)]
  refine wpAny_bind (wpAny_seqItems ho' hda' (wpAny_pure ?_))
  refine wpAny_bind (listItems_at ho hda ?_)
  refine wpAny_bind (wpAny_of_eq (sliceIndices_raw none none none xs.size (by simp)) ?_)
  show wpAny _ _ (if ((1 : Int) == 1) = true then _ else _) _ _ _
  rw [if_pos (by decide)]
  refine wpAny_bind (wpAny_rule ?_)
  rw [if_neg (by simp [Builtin.List.listTooLong, sz]; omega)]
  refine wpAny_bind (listUpdate_at ho hda ?_ (by omega) ?_)
  · refine wpAny_bind (wpAny_letGo ?_)
    exact wpAny_bind (wpAny_pure (wpAny_pure ⟨_, rfl, wpAny_pure (hQ _ (plainL_map' hl hf) (Heap.SameBut.update ..))⟩))
  · exact Nat.le_trans (Nat.le_of_eq (congrArg Array.size hf)) (by omega)
variable {prog : Program} {w : World}
section
variable {fd : FuncData} {a : Addr} {sp : List (Str × CSlot)} {os : OsState}
/-- a function's run: the body by hand -/
theorem fn_runR {A : Around} {s : Shared} {args : Args} {o : Obj} {body : List Stmt} {binds : List (Str × Value)} {ρ : Rho} {k : Nat} {R : Result → Shared → Prop} (rm : Room (k + 1) A) (g : s.gens = #[]) (ho : s.heap.get? a = some o) (hd : o.data = .func fd) (hlim : s.heap.NoLimit)
    (hcd : s.heap.CodeRec fd.code fd.qualname) (hbody : fd.body = .stmts body) (hclo : fd.closure = []) (hbind : wpAny (model prog w) A.in1 (bindArgs fd args) (fun b s' => b = binds ∧ s' = s) No s)
    (hkind : ∀ x ∈ binds, ∃ c, (x.1, c) ∈ sp) (so : SpOk0 fd.scope sp) (nd : (sp.map (·.1)).Nodup) (hb : Bound prog w s.heap [] binds sp ρ)
    (hx : ∀ (base : Addr → Option Obj), (∀ a, base a = s.heap.get? a) → FmOk (fnFm fd a s.heap.objs.size sp base s.os) → ∀ A' s₁, Room k A' → Inv prog w (fnFm fd a s.heap.objs.size sp base s.os) ρ s₁ → wpAny (model prog w) A' (execs body (callEnvC fd s.heap.objs.size a)) (fun f s₂ => match f with | .ret v => R (.ok (.ret v)) s₂ | .next => R (.ok (.ret .none)) s₂ | _ => False) No s₁)
    (hco : fd.scope.isCoroutine = false := by rfl) (hgen : fd.scope.isGenerator = false := by rfl) (hk : fd.scope.kind = .function := by rfl) : codeAny (model prog w) A (.call (.ref a) args) R s := by
  have e0 : ∀ x ∈ binds, fd.scope.names.lookup x.1 = some .local ∨ (fd.scope.names.lookup x.1 = some .cell ∧ ((cellsFrom (s.heap.objs.size + 1) fd.scope.names []).lookup x.1).isSome = true) := fun x hx => by
    obtain ⟨c, hc⟩ := hkind x hx
    rcases so.at _ hc with ⟨_, h⟩ | ⟨_, h⟩
    · exact .inl h
    · obtain ⟨c, hc⟩ := cellsFrom_has fd.scope.names (s.heap.objs.size + 1) x.1 (mem_of_lookup h)
      obtain ⟨c', hc'⟩ := lookup_of_mem hc
      exact .inr ⟨h, by rw [hc']; rfl⟩
  refine codeAny_call_function rm.depth ho hd hco hgen hbody hcd (wpAny_mono hbind (fun b s' ⟨e1, e2⟩ => ?_) fun _ _ e => e.elim)
  subst e1 e2
  rw [hclo]
  refine wpAny_newFunctionEnv_cells hk e0 fun env he s₁ x => ?_
  subst he
  refine ⟨hlim.keeps x.toInCall.keep, codeAny_func ?_⟩
  obtain ⟨ic, hcell, ap, ab⟩ := x
  have hL : (callEnvC fd s'.heap.objs.size a).locals = s'.heap.objs.size := rfl
  obtain ⟨base, hbase⟩ : ∃ base : Addr → Option Obj, ∀ a, base a = s'.heap.get? a := ⟨_, fun _ => rfl⟩
  have okF : FmOk (fnFm fd a s'.heap.objs.size sp base s'.os) := fn_ok so hk nd ap ab fun z hz => by
    rw [hbase]; exact fresh_size (Ext.refl s') hz
  have gens₁ : s₁.gens = s'.gens := by obtain ⟨h, t, e⟩ := ic.same; rw [e]
  have os₁ : s₁.os = s'.os := by obtain ⟨h, t, e⟩ := ic.same; rw [e]
  have I : Inv prog w (fnFm fd a s'.heap.objs.size sp base s'.os) ρ s₁ := by
    obtain ⟨hlen, fp, b1, b2⟩ := hb
    refine ⟨fun z oz e => ?_, gens₁.trans g, os₁, by rw [hlen]; simp [fnFm], fun z hz => hz.elim, fun z hz => hz.elim, _, ic.ns, fp, fun i y acc p own h1 h2 => ?_, fun i p h1 y hy => ?_⟩
    · have e : base z = some oz := e
      rw [hbase] at e
      exact ic.keep z oz e
    · have nocell : ∀ z ∈ fp i, (∃ o, s'.heap.get? z = some o) → (z ≠ s'.heap.objs.size ∧ ¬ (False ∨ False)) ∧ ∀ (j : Nat) (x : Str) (c : Addr), (fnFm fd a s'.heap.objs.size sp base s'.os).slots[j]? = some (x, some c) → z ≠ c := fun z hz ⟨o, ho⟩ => by
        have hlt := Heap.lt_size ho
        refine ⟨⟨Nat.ne_of_lt hlt, by simp⟩, fun j x c hs => ?_⟩
        rcases fn_slot so hs with ⟨_, h, _⟩ | ⟨c', _, h, _, l1⟩
        · cases h
        · cases h
          exact Nat.ne_of_lt (Nat.lt_trans hlt (ab x c (mem_of_lookup l1)))
      rcases fn_slot so h1 with ⟨q1, rfl, q3⟩ | ⟨c, q1, rfl, q3, q4⟩
      · obtain ⟨r1, r2⟩ := b1 i y _ p own q1 h2
        refine ⟨bval b y none, ?_, r1.keep ic.keep, fun z hz => nocell z hz (r2 z hz)⟩
        show bval b y none = bindL (callEnvC fd s'.heap.objs.size a).kindOf b (fun _ => none) y
        exact (bindL_val b (fun _ => none) y (by exact q3)).symm
      · obtain ⟨r1, r2⟩ := b1 i y _ p own q1 h2
        refine ⟨bval b y none, ?_, r1.keep ic.keep, fun z hz => nocell z hz (r2 z hz)⟩
        have h9 : s₁.heap.IsCell c (bindC (callEnvC fd s'.heap.objs.size a).kindOf b (fun _ => none) y) := hcell y c q4
        have h8 : (callEnvC fd s'.heap.objs.size a).kindOf y ≠ some .local := by show fd.scope.names.lookup y ≠ _; rw [q3]; simp
        rw [bindC_val b (fun _ => none) y h8] at h9
        exact h9
    · exact absurd (b2 i p h1 y hy).1 (by simp)
  have rm' : Room k (A.deeper (callEnvC fd s'.heap.objs.size a)) := ⟨by have := rm.1; show A.depth + 1 + k < _; omega, by have := rm.2.1; show A.units + 3 + 10 * k + 20 < _; omega, rm.handled⟩
  refine wpAny_mono (hx base hbase okF _ s₁ rm' I) (fun f s₂ h => ?_) fun _ _ e => e.elim
  cases f with
  | ret v => exact h
  | next => exact h
  | brk => exact h.elim
  | cont => exact h.elim
end
section
variable {F : Fm} {ρ : Rho} {k : Nat}
/-- an object that stays, by its place -/
structure ObjB (prog : Program) (w : World) (base : Addr → Option Obj) (x C L : Addr) (l : List IV) : Prop where
  rep : ∀ s : Shared, Bk base s → ∃ d vs, Rep prog w s.heap (.obj C l) (.ref x) [x, d, L] ∧ s.heap.Inst x C (hdM L) ∧ PlainL s.heap L vs.toArray ∧ IVs s.heap l vs
  at_ : ∃ o, base L = some o
theorem ObjB.of {s₀ : Shared} {base : Addr → Option Obj} {x C d L : Addr} {l : List IV} (hb : ∀ a, base a = s₀.heap.get? a) (r : Rep prog w s₀.heap (.obj C l) (.ref x) [x, d, L]) : ObjB prog w base x C L l := by
  have k : ∀ s : Shared, Bk base s → Keep s₀.heap s.heap := fun s b a o e => b a o ((hb a).trans e)
  have key : ∀ s : Shared, Rep prog w s.heap (.obj C l) (.ref x) [x, d, L] → ∃ d vs, Rep prog w s.heap (.obj C l) (.ref x) [x, d, L] ∧ s.heap.Inst x C (hdM L) ∧ PlainL s.heap L vs.toArray ∧ IVs s.heap l vs := fun s r => by
    obtain ⟨x', d', L', vs, e, i, p, v, f⟩ := rep_inst r
    cases e
    simp at f
    obtain ⟨rfl, rfl⟩ := f
    exact ⟨d, vs, r, i, p, v⟩
  refine ⟨fun s b => key s (r.keep (k s b)), ?_⟩
  obtain ⟨d, vs, _, _, ⟨o, _, ho, _⟩, _⟩ := key s₀ r
  exact ⟨o, (hb L).trans ho⟩
theorem ev_of_val {e : PySem.Expr} {x C L : Addr} {l : List IV} {f : Bool} (ob : ObjB prog w F.base x C L l) (h : EvJ prog w F ρ k e (.iv (.at (.val (.ref x)))) f) : EvJ prog w F ρ k e (.obj C l) false := fun A s rm I =>
  wpAny_mono (h A s rm I) (fun v s' ⟨x1, fp, ⟨r, _⟩, _⟩ => by
    have r : v = .ref x := r
    subst r
    obtain ⟨d, vs, r, _⟩ := ob.rep s' (I.ext x1).keep
    exact ⟨x1, _, r, fun e => nomatch e⟩) fun _ _ e => e
theorem src_hdr_val {x : Str} {np pos : PySem.Pos} {xo C N L : Addr} {mN : Str → Option Value} {l : List IV} {f : Bool} (c : ClsB F.base C N mN) (ob : ObjB prog w F.base xo C L l) (h : ∀ b r, F.Le b r → FmOk (F.up b r) → EvJ prog w (F.up b r) ρ k (.Name x np) (.iv (.at (.val (.ref xo)))) f) :
    SrcL prog w F ρ k (.Attribute (.Name x np) "_headers" pos) l := fun b r lf ok A s s₀ rm x₀ I => by
  refine Attribute_name (wpAny_mono (h b r lf ok A s rm (I.ext x₀)) (fun v s₁ ⟨x1, fp, ⟨e, _⟩, _⟩ => ?_) fun _ _ e => e)
  have e : v = .ref xo := e
  subst e
  have bk : Bk F.base s₁ := fun a o e => (x₀.trans x1).2 _ _ (I.keep a o (lf.base a o e))
  obtain ⟨d, vs, _, hi, hl, hv⟩ := ob.rep s₁ bk
  refine hdr_wp c bk hi ⟨x1.trans (Ext.tok _ _), L, vs, rfl, hl, hv, fun s₂ X b₂ x₂ fz _ => ?_⟩
  obtain ⟨o, ho⟩ := ob.at_
  exact ⟨o, fz.le.base L o (lf.base L o ho)⟩
theorem lk_delitem : typeLookup (.type "object") "__delitem__" = pure none := by rw [typeLookup_type, builtinLookup_eq_fast]; kernel_rfl
/-- del x[key] of an object -/
theorem del_inst {base : Addr → Option Obj} {A : Around} {s : Shared} {x C N L f : Addr} {mN : Str → Option Value} {key : Value} {Q : Unit → Shared → Prop} {E : Value → Shared → Prop} (c : ClsB base C N mN) (mb : MethB base mN "__delitem__" f) (b : Bk base s) (I : s.heap.Inst x C (hdM L))
    (h : wpAny (model prog w) A (PySem.call (.ref f) [.ref x, key]) (fun _ s' => Q () s') E s) : wpAny (model prog w) A (delItem (.ref x) key) Q E s := by
  obtain ⟨hp, g, d, t, os⟩ := s
  obtain ⟨nm, q, bs, sn, sub, col, dd, k0, k1, k2, k3, k5, hC⟩ := (c.at_ _ b).obj
  have hn := (c.at_ _ b).ns
  obtain ⟨o, fd, h1, h2, h3⟩ := mb.fn
  obtain ⟨ox, hx, hc, _, _⟩ := I
  have hf := b _ _ h1
  unfold delItem
  try with_reducible refine wpAny_holding ?_
  refine wpAny_bind (m := sequenceKey (.ref x) key "__delitem__") ?_
  unfold sequenceKey
  refine wpAny_bind (m := typeOf (.ref x)) ?_
  unfold typeOf
  repeat (first | (with_reducible refine wpAny_loadPart_at hx ?_; rw [hc]) | wp_step)
  refine wpAny_isSubtype_exc hC ?_
  have e1 : (Value.ref C :: [Value.type "object"]).contains (.type "collections.deque") = false := by simp
  rw [e1]
  refine wpAny_pure ?_
  rw [if_pos (by decide)]
  refine wpAny_pure ?_
  refine wpAny_bind ?_
  unfold callSpecial? specialOf typeOf
  repeat (first | (with_reducible refine wpAny_loadPart_at hx ?_; rw [hc]) | (with_reducible refine wpAny_typeLookup_exc hC hn F.mro_object lk_delitem ?_; rw [mb.at_]) | (with_reducible refine wpAny_loadPart_at hf ?_; rw [h2]) | wp_step)
  unfold bindSpecial
  refine wpAny_bind (wpAny_typeOf (T := "function") ⟨_, hf, h2⟩ ?_)
  rw [if_pos (by decide)]
  refine wpAny_pure ?_
  dsimp only
  refine wpAny_bind (wpAny_mono h (fun v s' hq => ?_) fun _ _ e => e)
  exact wpAny_pure (wpAny_pure hq)
end
variable {prog : Program} {w : World}
theorem rep_upd {h h₁ h' : Heap} {C x d L : Addr} {l l' : List IV} {us : List Value} (r : Rep prog w h (.obj C l) (.ref x) [x, d, L]) (k : Keep h h₁) (sb : Heap.SameBut L h₁ h') (hl : PlainL h' L us.toArray) (hv : IVs h₁ l' us) : Rep prog w h' (.obj C l') (.ref x) [x, d, L] := by
  obtain ⟨x', d', L', vs, od, m, e, a1, a2, a3, a4, a5, a6, f⟩ := r
  cases e
  simp at f
  obtain ⟨rfl, rfl⟩ := f
  obtain ⟨o, n, ho, hc, hdi, hda⟩ := id a5
  have hxL : x ≠ L := fun e => by
    subst e; rw [a1] at ho; cases ho
    have := a2.1.1.symm.trans hc; cases this
  have hdL : d ≠ L := fun e => by
    subst e
    obtain ⟨o', es, ep, e1, e2, _⟩ := a3
    rw [ho] at e1; cases e1
    rw [hda] at e2; cases e2
  have nt : ∀ a ∈ [L], NT h₁ a := fun a ha => by rw [List.mem_singleton.mp ha]; exact NT.list (a5.keeps k)
  exact ⟨x, d, L, us, od, m, rfl, (sb.2 x hxL).trans (k _ _ a1), a2, (a3.keeps k).sameBut sb hdL, a4, hl, hv.chg (Chg.of_sameBut sb) (.inl nt), rfl⟩
/-- what a method does that changes its object's rows -/
def DelP (prog : Program) (w : World) (base : Addr → Option Obj) (k : Nat) (f C : Addr) (l : List IV) (y : Str) (l' : List IV) : Prop := ∀ A s x d L u, Room k A → s.gens = #[] → Bk base s → Rep prog w s.heap (.obj C l) (.ref x) [x, d, L] → (∃ t, u = .str y t) →
  wpAny (model prog w) A (PySem.call (.ref f) [.ref x, u]) (fun v s' => s'.gens = s.gens ∧ s'.os = s.os ∧ Chg [L] s.heap s'.heap ∧ Rep prog w s'.heap (.obj C l') (.ref x) [x, d, L]) No s
section
variable {F : Fm} {ρ : Rho} {k : Nat}
theorem rep_obj_inv {h : Heap} {C : Addr} {l : List IV} {v : Value} {fp : List Addr} (r : Rep prog w h (.obj C l) v fp) : ∃ x d L, v = .ref x ∧ fp = [x, d, L] := by
  obtain ⟨x', d', L', vs, od, m, e, a1, a2, a3, a4, a5, a6, f⟩ := r
  exact ⟨x', d', L', e, f⟩
theorem then_raw {A : Around} {s : Shared} {st : Stmt} {rest : List Stmt} {ρ₁ : Rho} {Q : Flow → Shared → Prop} (h : ExS prog w F ρ k (exec st F.env) (Only ρ₁)) (ok : FmOk F) (rm : Room k A) (I : Inv prog w F ρ s) (hr : ∀ s', Inv prog w F ρ₁ s' → wpAny (model prog w) A (execs rest F.env) Q No s') :
    wpAny (model prog w) A (execs (st :: rest) F.env) Q No s := by
  refine wpAny_execs_cons (wpAny_mono (h F.base F.res (Fm.Le.refl F) ok A s rm I) (fun f s' ⟨fl, ρ', ⟨e1, e2⟩, I', hf⟩ => ?_) fun _ _ e => e)
  subst e1 e2
  cases f with
  | next => exact hr s' I'
  | brk => exact hf.elim
  | cont => exact hf.elim
  | ret v => exact hf.elim
/-- self._headers[:] = [..], the last statement of a method -/
theorem slice_store {A : Around} {s : Shared} {x : Str} {np ap slp tp pos : PySem.Pos} {value : PySem.Expr} {xo C N d L : Addr} {mN : Str → Option Value} {l l' : List IV} {f : Bool} {Q : Flow → Shared → Prop} {h₀ : Heap} (rm : Room k A) (c : ClsB F.base C N mN) (I : Inv prog w F ρ s) (r : Rep prog w h₀ (.obj C l) (.ref xo) [xo, d, L]) (hk : Keep h₀ s.heap)
    (hv : EvJ prog w F ρ k value (.list l') true) (hn : EvJ prog w F ρ k (.Name x np) (.iv (.at (.val (.ref xo)))) f) (hlen : l.length ≤ 1000) (hlen' : l'.length ≤ 1000)
    (hs : swapsWith value (some (.Subscript (.Attribute (.Name x np) "_headers" ap) (.Slice none none none slp) tp)) pos.line F.env = pure false)
    (hQ : ∀ s', s'.gens = s.gens → s'.os = s.os → Chg [L] h₀ s'.heap → Rep prog w s'.heap (.obj C l') (.ref xo) [xo, d, L] → Q .next s') :
    wpAny (model prog w) A (exec (.Assign [.Subscript (.Attribute (.Name x np) "_headers" ap) (.Slice none none none slp) tp] value pos) F.env) Q No s := by
  refine wpAny_Assign_Subscript (wpAny_mono (hv A s rm I) (fun v s₁ ⟨x1, fp, ⟨D, us, e1, hD, hu, e2⟩, fr⟩ => ?_) fun _ _ e => e) hs
  subst e1 e2
  have hfr := fr rfl D (List.mem_singleton_self D)
  refine Attribute_name (wpAny_mono (hn A s₁ rm (I.ext x1)) (fun v s₂ ⟨x2, fp2, ⟨e3, _⟩, _⟩ => ?_) fun _ _ e => e)
  have e3 : v = .ref xo := e3
  subst e3
  have x02 := x1.trans x2
  have r2 := r.keep (fun a o e => x02.2 a o (hk a o e))
  obtain ⟨xo', d', L', vs', e4, hi, hl, hvs, f4⟩ := rep_inst r2
  cases e4
  simp at f4
  obtain ⟨rfl, rfl⟩ := f4
  refine hdr_wp c (I.ext x02).keep hi ?_
  refine wpAny_Slice (wpAny_mono (part_wp (prog := prog) (w := w) (F := F) (ρ := ρ) (k := k) .none A _ rm ((I.ext x02).ext (Ext.tok _ _))) (fun v1 s₃ ⟨x3, p1⟩ => ?_) fun _ _ e => e)
  refine wpAny_mono (part_wp (prog := prog) (w := w) (F := F) (ρ := ρ) (k := k) .none A _ rm (((I.ext x02).ext (Ext.tok _ _)).ext x3)) (fun v2 s₄ ⟨x4, p2⟩ => ?_) fun _ _ e => e
  refine wpAny_mono (part_wp (prog := prog) (w := w) (F := F) (ρ := ρ) (k := k) .none A _ rm ((((I.ext x02).ext (Ext.tok _ _)).ext x3).ext x4)) (fun v3 s₅ ⟨x5, p3⟩ => ?_) fun _ _ e => e
  have p1 : v1 = .none := p1
  have p2 : v2 = .none := p2
  have p3 : v3 = .none := p3
  subst p1 p2 p3
  have x6 : Ext s₅ { s₅ with heap := s₅.heap.push { cls := .type "slice", data := .fields #[.none, .none, .none] } } := Ext.push s₅ _ _
  have x26 := ((((Ext.tok s₂ (s₂.toks + 1)).trans x3).trans x4).trans x5).trans x6
  have hl6 := hl.keeps x26.2
  have hD6 := hD.keeps (x2.trans x26).2
  have hu6 := hu.keep (x2.trans x26).2
  have hne : L ≠ D := fun e => by
    subst e
    obtain ⟨_, _, L2, vs2, e5, _, ⟨o, _, ho, _⟩, _, f5⟩ := rep_inst (r.keep hk)
    cases e5
    simp at f5
    obtain ⟨_, rfl⟩ := f5
    rw [ho] at hfr; cases hfr
  refine setItem_all hl6 hD6 hne (Heap.IsSliceOf.new ..) (by rw [List.size_toArray, hvs.length]; exact hlen) (by rw [List.size_toArray, hu.length]; exact hlen') fun h' hp sb => ?_
  have kk : Keep h₀ (s₅.heap.push { cls := .type "slice", data := .fields #[.none, .none, .none] }) := fun a o e => (x02.trans x26).2 a o (hk a o e)
  refine hQ _ (x02.trans x26).1.1 (x02.trans x26).1.2 (fun b o hb e => ?_) (rep_upd r kk sb hp hu6)
  exact (sb.2 b (fun q => hb (by rw [q]; exact List.mem_singleton_self _))).trans (kk b o e)
/-- del x[e] -/
theorem ex_del {x : Str} {np tp pos : PySem.Pos} {e : PySem.Expr} {y : Str} {C N f : Addr} {mN : Str → Option Value} {l l' : List IV} {fr : Bool} (i : Nat) {acc : Option Addr} (hs : F.slots[i]? = some (x, acc)) (hr : ρ[i]? = some (.obj C l, true)) (c : ClsB F.base C N mN) (mb : MethB F.base mN "__delitem__" f)
    (hy : EvJ prog w F ρ k e (.str y) fr) (dp : DelP prog w F.base k f C l y l') (hd : (x == ("__debug__" : Str)) = false := by decide) (hn : (x == ("__classdict__" : Str)) = false := by decide) :
    ExS prog w F ρ k (exec (.Delete [.Subscript (.Name x np) e tp] pos) F.env) (Only (ρ.set i (.obj C l', true))) := fun b r lf ok A s rm I => by
  obtain ⟨ov, fp, h1, h2, h3⟩ := Inv.mut (G := F.up b r) ok I hs hr
  cases ov with
  | none => exact h2.elim
  | some v =>
    have h2 : Rep prog w s.heap (.obj C l) v fp := h2
    obtain ⟨xo, d, L, rfl, rfl⟩ := rep_obj_inv h2
    refine wpAny_Delete (wpAny_deleteEach_cons (wpAny_delete_Subscript (name_wp (F := F.up b r) ok hs h1 ?_ hd hn)))
    refine wpAny_mono (hy A s rm (I.down lf)) (fun u s₁ ⟨x1, fp1, ⟨hu, _⟩, _⟩ => ?_) fun _ _ e => e
    have b1 : Bk F.base s₁ := ((I.down lf).ext x1).keep
    have r1 := h2.keep x1.2
    obtain ⟨_, _, _, _, e4, hi, _, _, f4⟩ := rep_inst r1
    cases e4
    refine del_inst c mb b1 hi (wpAny_mono (dp A s₁ xo d L u rm (I.ext x1).gens b1 r1 hu) (fun v s₂ ⟨g, o, ch, r2⟩ => ?_) fun _ _ e => e)
    refine wpAny_deleteEach_nil ⟨.next, _, ⟨rfl, rfl⟩, ?_, trivial⟩
    have x12 : Ext s { s₂ with heap := s₁.heap } := ⟨⟨g.trans x1.1.1, o.trans x1.1.2⟩, x1.2⟩
    exact h3 { s₂ with heap := s₁.heap } s₂.heap s₂.toks (.obj C l') x12 (fun z oz hz e => ch z oz (fun q => hz (by rw [List.mem_singleton.mp q]; simp)) e) r2
end
end Wk
namespace L2
open Wk Hd2
def delV (l : List (Str × Str)) (y : Str) : List (Str × Str) := l.filter fun p => Txt.lower p.1 != Txt.lower y
def delF (y : Str) (x : IV) : List IV := match x with | .tup (.str a :: _) => if Txt.lower a != Txt.lower y then [x] else [] | _ => []
theorem delF_eq (l : List (Str × Str)) (y : Str) : (rowsIV l).flatMap (delF y) = rowsIV (delV l y) := by
  unfold delV
  induction l with
  | nil => rfl
  | cons p l ih =>
    simp only [List.map_cons, List.flatMap_cons, List.filter_cons]
    rw [ih]
    cases hq : (Txt.lower p.1 != Txt.lower y) with
    | true => simp [delF, hq]
    | false => simp [delF, hq]
theorem delV_len (l : List (Str × Str)) (y : Str) : (delV l y).length ≤ l.length := List.length_filter_le _ _
set_option maxHeartbeats 4000000 in
theorem c_del {w : World} {base : Addr → Option Obj} {k : Nat} (t : Top w base) {l : List (Str × Str)} {y : Str} (hy : LowOk y) (hs : StrOk (Txt.lower y)) (hl : ∀ p ∈ l, LowOk p.1) (hlen : l.length ≤ 1000) : DelP pw w base (k + 2) 89 171 (rowsIV l) y (rowsIV (delV l y)) := by
  intro A s x d Ld u rm g bk r hu
  obtain ⟨tk, rfl⟩ := hu
  obtain ⟨⟨o, ho1, ho2⟩, hlim, hcd⟩ := fnAt t (a := 89) (o := o89_0 w.params) (c := 88) (oc := o88_0 w.params) (fd := fdOf (o89_0 w.params)) (by kernel_rfl) rfl rfl (by kernel_rfl) rfl rfl s bk
  refine wpAny_call (fn_runR (fd := fdOf (o89_0 w.params)) (sp := [("self", .loc), ("name", .own)]) (ρ := rhoOf [PV.val (.ref x), .str y] 0) (binds := [("self", .ref x), ("name", .str y tk)]) (body := fBody (cd 5 4)) rm g ho1 ho2 hlim hcd rfl rfl (wpAny_of_eq rfl ⟨rfl, rfl⟩) ?_ ⟨by kernel_rfl, by kernel_rfl, trivial⟩ (by decide) (bound_pos (names := ["self", "name"]) (ps := [PV.val (.ref x), .str y]) (vals := [.ref x, .str y tk]) (n := 0) (by decide) rfl ⟨⟨[], rfl, rfl⟩, ⟨[], ⟨tk, rfl⟩, rfl⟩, trivial⟩ rfl rfl) ?_ (by kernel_rfl) (by kernel_rfl) (by kernel_rfl))
  · intro b hb
    simp only [List.mem_cons, List.not_mem_nil, or_false] at hb
    rcases hb with rfl | rfl
    · exact ⟨.loc, by simp⟩
    · exact ⟨.own, by simp⟩
  · intro base' hbase ok A' s₁ rm' I
    have t' : Top w base' := t.up fun a o e => (hbase a).trans (bk a o e)
    have f := fr2_fn (fd := fdOf (o89_0 w.params)) (a := 89) (L := s.heap.objs.size) (sp := [("self", .loc), ("name", .own)]) (os := s.os) t' rfl rfl (by kernel_rfl)
    have ob : ObjB pw w base' x 171 Ld (rowsIV l) := ObjB.of hbase r
    have mc : MethB base' (mHd w.params) "_convert_string_type" 70 := methB t' (o := o70_0 w.params) (by kernel_rfl) (by kernel_rfl) rfl rfl (by decide) ⟨none, by rw [typeLookup_type, builtinLookup_eq_fast]; kernel_rfl⟩
    have own : Own (fnFm (fdOf (o89_0 w.params)) 89 s.heap.objs.size [("self", .loc), ("name", .own)] base' s.os) "name" (some (s.heap.objs.size + 1)) := fun c e => by cases e; exact ⟨by kernel_rfl, "name", by simp, by rfl⟩
    refine then_raw (F := fnFm (fdOf (o89_0 w.params)) 89 s.heap.objs.size [("self", .loc), ("name", .own)] base' s.os) (ρ₁ := [(PV.val (.ref x), false), (.str (Txt.lower y), false)]) (ex_assign_iv (own := false) 1 rfl own (ev_inst_kw (fr := true) (by rfl) (by rfl) (by rfl) (clsB t') mc (ev_of_val ob (ev_local 0 ok rfl rfl (by intro q; cases q))) (ev_meth (fr := true) (by rfl) (by rfl) (by rfl) (by decide) (ev_cell 1 ok rfl rfl (by intro q; cases q)) .nil .str m_lower (c_lower hy)) (c_convert t' hs)) (by rfl)) ok rm' I fun s₂ I₂ => ?_
    refine wpAny_execs_cons (slice_store (F := fnFm (fdOf (o89_0 w.params)) 89 s.heap.objs.size [("self", .loc), ("name", .own)] base' s.os) (l' := rowsIV (delV l y)) rm' (clsB t') I₂ r (fun a o e => I₂.keep a o ((hbase a).trans e)) (ev_comp_eq [("name", s.heap.objs.size + 1)] [("kv", .loc), ("name", .cap 1)] (rowsIV l) (delF y) ok (delF_eq l y) ?_) (ev_local 0 ok rfl rfl (by intro q; cases q)) (by simpa using hlen) (by simpa using Nat.le_trans (delV_len l y) hlen) (by rfl) fun s' h1 h2 h3 h4 => wpAny_execs_nil ⟨h1.trans (I₂.gens.trans g.symm), h2.trans I₂.os, h3, h4⟩)
    refine ⟨by rfl, ⟨by kernel_rfl, ⟨by kernel_rfl, by kernel_rfl, _, rfl, rfl⟩, trivial⟩, by kernel_rfl, by decide, by decide +kernel, by intro _; rfl, rfl, itj_list (src_hdr_val (clsB t') ob fun b r' lf okb => ev_local 0 okb rfl rfl (by intro q; cases q)), ?_, ?_⟩
    · intro C D base2 hbase2 okc z hz
      obtain ⟨p, hp, rfl⟩ := List.mem_map.mp hz
      refine ⟨[(.tup [.str p.1, .str p.2], false), (.str (Txt.lower y), false)], Txt.lower p.1 != Txt.lower y, asg_name 0 (acc := none) rfl own_none, .inr ⟨_, rfl, eb_cmp (by rfl) (ev_meth (fr := true) (by rfl) (by rfl) (by rfl) (by decide) (ev_sub_tup (fr := true) (ev_local 0 okc rfl rfl (by intro q; cases q)) (ev_int (i := ((0 : Nat) : Int))) rfl (by decide)) .nil .str m_lower (c_lower (hl p hp))) (ev_cell 1 okc rfl rfl (by intro q; cases q)) op_ne_str⟩, ?_, .any (.same .nil)⟩
      cases hq : (Txt.lower p.1 != Txt.lower y) with
      | true => exact ⟨.tup [.str p.1, .str p.2], false, by simp [delF, hq], ev_local 0 okc rfl rfl (by intro q; cases q)⟩
      | false => show delF y _ = []; simp [delF, hq]
    · rw [delF_eq, List.length_map]; exact Nat.le_trans (delV_len l y) (Nat.le_trans hlen (by decide))
end L2
namespace Wk
variable {prog : Program} {w : World}
theorem room_under {A : Around} {k : Nat} {C : Addr} {vals : List Value} (r : Room (k + 1) A) : Room k (A.under (.builtin "type.__call__" ⟨.ref C :: vals, []⟩)) :=
  ⟨by have := r.1; show A.depth + 1 + k < _; omega, by
    have := r.2.1
    have e : (A.under (.builtin "type.__call__" ⟨.ref C :: vals, []⟩)).units ≤ A.units + 10 := by
      first
        | exact Nat.le_trans (Nat.le_of_eq (rfl : _ = A.units + 1)) (by omega)
        | exact Nat.le_trans (Nat.le_of_eq (rfl : _ = A.units + 4)) (by omega)
        | exact Nat.le_trans (Nat.le_of_eq (rfl : _ = 4 + A.units)) (by omega)
        | exact Nat.le_trans (Nat.le_of_eq (rfl : _ = 1 + A.units)) (by omega)
        | exact Nat.le_trans (Nat.le_of_eq (rfl : _ = A.units + 7)) (by omega)
    omega, r.2.2⟩
/-- what an __init__ does with a list -/
def InitP (prog : Program) (w : World) (base : Addr → Option Obj) (k : Nat) (f C : Addr) (l : List IV) : Prop := ∀ A s x d L, Room k A → s.gens = #[] → Bk base s → s.heap.Inst x C (fun _ => none) → (∃ o, s.heap.get? x = some o ∧ o.dict = some d) → (base x = none ∧ base d = none) → Rep prog w s.heap (.list l) (.ref L) [L] →
  wpAny (model prog w) A (PySem.call (.ref f) [.ref x, .ref L]) (fun v s' => v = .none ∧ s'.gens = s.gens ∧ s'.os = s.os ∧ Chg [x, d] s.heap s'.heap ∧ Rep prog w s'.heap (.obj C l) (.ref x) [x, d, L]) No s
section
variable {F : Fm} {ρ : Rho} {k : Nat} {P : Fl → Rho → Prop}
theorem ex_expr {e : PySem.Expr} {p : PV} {fr : Bool} {pos : PySem.Pos} (h : EvJ prog w F ρ k e p fr) (hsw : swapsWith e none pos.line F.env = pure false) (hi : interactive F.env = false := by rfl) : ExS prog w F ρ k (exec (.Expr e pos) F.env) (Only ρ) := fun b r lf ok A s rm I =>
  wpAny_Expr_any (wpAny_mono (h A s rm (I.down lf)) (fun v s' ⟨x, _⟩ => ⟨.next, ρ, ⟨rfl, rfl⟩, I.ext x, trivial⟩) fun _ _ e => e) hi hsw
theorem eb_const {b : Bool} {kd : Nat} {pos : PySem.Pos} : EvB prog w F ρ k (.Constant (.bool b) kd pos) b := eb_bool (fr := true) ev_bool fun Q s A E h => wpAny_isTrue_value h
theorem callWith_cls1 {A : Around} {s : Shared} {pos : PySem.Pos} {C N : Addr} {base : Addr → Option Obj} {mN : Str → Option Value} {args : List (Bool × Sem Value)} {Q E : Value → Shared → Prop} (hp : args.any (·.1) = false) (c : ClsB base C N mN)
    (h : wpAny (model prog w) A (spliced args) (fun vs s₁ => Bk base s₁ ∧ wpAny (model prog w) A (PySem.call (.ref C) vs []) Q E s₁) E s) : wpAny (model prog w) A (callWith pos (.ref C) [] args []) Q E s := by
  unfold callWith
  refine wpAny_bind (wpAny_holding (evalArgs_any hp (wpAny_mono h (fun vs s₁ ⟨b, h₁⟩ => ?_) fun _ _ e => e)))
  refine wpAny_bind (wpAny_standAt ?_)
  obtain ⟨hh, g, d, t, os⟩ := s₁
  obtain ⟨nm, q, bs, sn, sub, col, dd, k0, k1, k2, k3, k5, hC⟩ := (c.at_ _ b).obj
  have f1 := tc_lookup
  show wpAny _ _ (keeperOf (.ref C) >>= _) _ _ _
  unfold keeperOf specialOf
  repeat (any_goals (first | assumption | with_reducible refine wpAny_loadPart_at hC ?_ | with_reducible refine wpAny_load' hC ?_ | wp_step))
  have hst : (args.any (fun x => x.fst) || ([] : List (Option Str × Sem Value)).any fun x => x.fst.isNone) = false := by rw [hp]; rfl
  rw [if_pos (by rfl), hst]
  show wpAny _ _ (call (.ref C) vs [] >>= fun r => do holding [r] point; pure r) _ _ _
  exact wpAny_bind (wpAny_mono h₁ (fun r s' hr => wpAny_bind (wpAny_holding (wpAny_point (wpAny_pure hr)))) fun _ _ x => x)
/-- C(e): a new object -/
theorem ev_new {x : Str} {np pos : PySem.Pos} {e : PySem.Expr} {C N f : Addr} {mN : Str → Option Value} {l : List IV} (hs : starEach [e] F.env = plainArgs [e] F.env) (g : Glob prog w F x (.ref C)) (c : ClsB F.base C N mN) (mb : MethB F.base mN "__init__" f) (h : EvJ prog w F ρ (k + 1) e (.list l) true) (ip : InitP prog w F.base k f C l) :
    EvJ prog w F ρ (k + 1) (.Call (.Name x np) [e] [] pos) (.obj C l) true := fun A s rm I => by
  rw [arm_eval_Call_Name']
  refine wpAny_bind (g A s _ _ _ I.keep ?_)
  rw [hs, backTo_plain]
  refine callWith_cls1 (plainArgs_any _ _) c ?_
  refine Calls.spliced_cons (wpAny_mono (h A s rm I) (fun v s₁ ⟨x1, fp, r, fr⟩ => Calls.spliced_nil ?_) fun _ _ e => e)
  have b := (I.ext x1).keep
  refine ⟨b, ?_⟩
  obtain ⟨L, vs, rfl, hl, hv, rfl⟩ := id r
  have hLf := fr rfl L (List.mem_singleton_self L)
  obtain ⟨hh, gg, dr, t, os⟩ := s₁
  obtain ⟨nm, q, bs, sn, sub, col, dd, k0, k1, k2, k3, k5, hC⟩ := (c.at_ _ b).obj
  obtain ⟨of, fd, h1, h2, h3⟩ := mb.fn
  refine wpAny_call_obj_init PySem.F.objNew hC (c.at_ _ b).ns mb.at_ (b _ _ h1) h2 fun h' xo dx Mk => ?_
  obtain ⟨ox, hx, hcx, hncx, hdx⟩ := id Mk.inst
  have hd := Mk.dict ox hx
  have hne : dx ≠ xo := by
    rcases hdx with ⟨hn0, _⟩ | ⟨d', hd', hne, _⟩
    · rw [hn0] at hd; cases hd
    · rw [hd'] at hd; cases hd; exact hne
  have kk : Keep hh h' := Mk.keeps
  have hno : ∀ z : Addr, hh.get? z = none → F.base z = none := fun z hz => by
    cases q : F.base z with
    | none => rfl
    | some o => have := b z o q; rw [show (⟨hh, gg, dr, t, os⟩ : Shared).heap.get? z = none from hz] at this; cases this
  have x2 : Ext (⟨hh, gg, dr, t, os⟩ : Shared) ⟨h', gg, dr, t, os⟩ := ⟨⟨rfl, rfl⟩, kk⟩
  refine wpAny_mono (ip _ ⟨h', gg, dr, t, os⟩ xo dx L (room_under rm) ((I.ext x1).ext x2).gens ((I.ext x1).ext x2).keep Mk.inst ⟨ox, hx, hd⟩ ⟨hno xo Mk.newX, hno dx Mk.newD⟩ (r.keep kk)) (fun v s₂ ⟨e1, g2, o2, ch, r2⟩ => ⟨e1, ?_⟩) fun _ _ e => e.elim
  have ks : Keep s.heap s₂.heap := fun a o e => ch a o (fun q => by
    simp only [List.mem_cons, List.not_mem_nil, or_false] at q
    have e' := x1.2 a o e
    rcases q with rfl | rfl
    · have := Mk.newX; rw [e'] at this; cases this
    · have := Mk.newD; rw [e'] at this; cases this) (kk a o (x1.2 a o e))
  refine ⟨⟨⟨g2.trans x1.1.1, o2.trans x1.1.2⟩, ks⟩, _, r2, fun _ a ha => ?_⟩
  simp only [List.mem_cons, List.not_mem_nil, or_false] at ha
  rcases ha with rfl | rfl | rfl
  · exact x1.none Mk.newX
  · exact x1.none Mk.newD
  · exact hLf
theorem ex_raw {A : Around} {s : Shared} {t : Sem Flow} {Q : Flow → Shared → Prop} (h : ExS prog w F ρ k t (fun fl _ => fl = .next)) (ok : FmOk F) (rm : Room k A) (I : Inv prog w F ρ s) (hQ : ∀ ρ' s', Inv prog w F ρ' s' → Q .next s') : wpAny (model prog w) A t Q No s :=
  wpAny_mono (h F.base F.res (Fm.Le.refl F) ok A s rm I) (fun f s' ⟨fl, ρ', e1, I', hf⟩ => by
    subst e1
    cases f with
    | next => exact hQ ρ' s' I'
    | brk => exact hf.elim
    | cont => exact hf.elim
    | ret v => exact hf.elim) fun _ _ e => e
theorem ObjB.of_rep {base : Addr → Option Obj} {x C d L : Addr} {l : List IV} (h : ∀ s : Shared, Bk base s → Rep prog w s.heap (.obj C l) (.ref x) [x, d, L]) (hL : ∃ o, base L = some o) : ObjB prog w base x C L l := ⟨fun s b => by
  obtain ⟨x', d', L', vs, e, i, p, v, f⟩ := rep_inst (h s b)
  cases e
  simp at f
  obtain ⟨rfl, rfl⟩ := f
  exact ⟨d, vs, h s b, i, p, v⟩, hL⟩
/-- a list that stays, by its place -/
structure LstB (base : Addr → Option Obj) (L : Addr) (vs : List Value) (l : List IV) : Prop where
  at_ : ∀ s : Shared, Bk base s → PlainL s.heap L vs.toArray ∧ IVs s.heap l vs
  bs : ∃ o, base L = some o
theorem src_val {x : Str} {np : PySem.Pos} {L : Addr} {vs : List Value} {l : List IV} {f : Bool} (lb : LstB F.base L vs l) (h : ∀ b r, F.Le b r → FmOk (F.up b r) → EvJ prog w (F.up b r) ρ k (.Name x np) (.iv (.at (.val (.ref L)))) f) :
    SrcL prog w F ρ k (.Name x np) l := fun b r lf ok A s s₀ rm x₀ I =>
  wpAny_mono (h b r lf ok A s rm (I.ext x₀)) (fun v s₁ ⟨x1, fp, ⟨e, _⟩, _⟩ => by
    have e : v = .ref L := e
    subst e
    have bk : Bk F.base s₁ := fun a o e => (x₀.trans x1).2 _ _ (I.keep a o (lf.base a o e))
    obtain ⟨hl, hv⟩ := lb.at_ s₁ bk
    refine ⟨x1, L, vs, rfl, hl, hv, fun s₂ X b₂ x₂ fz _ => ?_⟩
    obtain ⟨o, ho⟩ := lb.bs
    exact ⟨o, fz.le.base L o (lf.base L o ho)⟩) fun _ _ e => e
theorem FmOk.rebase {b : Addr → Option Obj} (ok : FmOk F) (h : ∀ a, F.base a = none → b a = none) : FmOk { F with base := b } where
  kind := ok.kind
  loc := ok.loc
  cel := ok.cel
  names := ok.names
  cells := ok.cells
  baseL := h _ ok.baseL
  resL := ok.resL
  resC := ok.resC
  mine := fun c hc => h _ (ok.mine c hc)
  acc := fun d hd => ⟨h _ (ok.acc d hd).1, (ok.acc d hd).2⟩
  mineC := ok.mineC
def aRho (ps : List (Option At)) : Rho := ps.map fun p => match p with | some a => (PV.iv (.at a), false) | none => (PV.any, false)
/-- atoms alone: they need no heap -/
theorem Inv.rebase {s : Shared} {h' : Heap} {b : Addr → Option Obj} {ps : List (Option At)} (I : Inv prog w F (aRho ps) s) (t : Nat) (hb : ∀ a o, b a = some o → h'.get? a = some o) (hL : ∀ o, s.heap.get? F.env.locals = some o → h'.get? F.env.locals = some o)
    (hc : ∀ (i : Nat) (x : Str) (c : Addr), F.slots[i]? = some (x, some c) → ∀ o, s.heap.get? c = some o → h'.get? c = some o) (hr : ∀ a, ¬ F.res a) (ha : ∀ a, ¬ F.acc a) : Inv prog w { F with base := b } (aRho ps) { s with heap := h', toks := t } := by
  obtain ⟨k, g, o, ln, rs, ac, m, hm, fp, aa, c⟩ := I
  obtain ⟨om, es, ep, e1, e2⟩ := hm
  have flat : ∀ i p own, ((aRho ps) : Rho)[i]? = some (p, own) → own = false ∧ (p = PV.any ∨ ∃ a, p = PV.iv (.at a)) := fun i p own e => by
    unfold aRho at e
    rw [List.getElem?_map] at e
    cases q : ps[i]? with
    | none => rw [q] at e; cases e
    | some y =>
      rw [q] at e
      cases y with
      | none => cases e; exact ⟨rfl, .inl rfl⟩
      | some a => cases e; exact ⟨rfl, .inr ⟨a, rfl⟩⟩
  refine ⟨hb, g, o, ln, fun a h => absurd h (hr a), fun d h => absurd h (ha d), m, ⟨om, es, ep, hL _ e1, e2⟩, fun _ => [], fun i x acc p own h1 h2 => ?_, fun i p h1 => ?_⟩
  · obtain ⟨ov, h3, h4, _⟩ := aa i x acc p own h1 h2
    refine ⟨ov, ?_, ?_, fun a h => nomatch h⟩
    · cases acc with
      | none => exact h3
      | some cc =>
        obtain ⟨oc, hoc, hd⟩ := h3
        exact ⟨oc, hc i x cc h1 _ hoc, hd⟩
    · rcases (flat i p own h2).2 with rfl | ⟨a, rfl⟩
      · rfl
      · cases ov with
        | none => exact h4.elim
        | some v =>
          have h4 : Rep prog w s.heap (.iv (.at a)) v (fp i) := h4
          exact ⟨h4.1, rfl⟩
  · exact absurd (flat i p true h1).1 (by simp)
end
variable {prog : Program} {w : World} {k : Nat} {F : Fm} {ρ : Rho}
theorem op_isnot_none_ref {L : Addr} : Op2 (prog := prog) (w := w) k (compareOp .IsNot) (PV.val (.ref L)) .none (.bool true) true := fun A s x y fa fb rm g ⟨h1, _⟩ ⟨h2, _⟩ => by
  have h1 : x = .ref L := h1
  have h2 : y = .none := h2
  subst h1 h2
  exact wpAny_isNot_other rfl (by intro q; cases q) giv_bool
theorem c_type_ref {base : Addr → Option Obj} {L : Addr} {vs : List Value} {l : List IV} (lb : LstB base L vs l) : CallP prog w base k (.type "type") [PV.val (.ref L)] (PV.val (.type "list")) true := fun A s vals rm g b r => by
  obtain ⟨v, rfl, fp, h⟩ := reps1 r
  have h : v = .ref L := h.1
  subst h
  exact call_type_of (lb.at_ s b).1.isList.typeIs (by decide) giv_val
/-- what an Inst is, spelt -/
theorem inst_dict {h : Heap} {x C d : Addr} {mA : Str → Option Value} {o : Obj} (I : h.Inst x C mA) (ho : h.get? x = some o) (hd : o.dict = some d) : o.cls = .ref C ∧ (∀ c, o.data ≠ .cls c) ∧ d ≠ x ∧ h.Ns1 d mA := by
  obtain ⟨o', e1, e2, e3, e4⟩ := I
  rw [ho] at e1; cases e1
  rcases e4 with ⟨q, _⟩ | ⟨d', q1, q2, q3⟩
  · rw [hd] at q; cases q
  · rw [hd] at q1; cases q1
    exact ⟨e2, e3, q2, q3⟩
end Wk
namespace L2
open Wk Hd2
set_option maxHeartbeats 4000000 in
theorem c_init {w : World} {base : Addr → Option Obj} {k : Nat} (t : Top w base) {l : List (Str × Str)} (hl : ∀ p ∈ l, StrOk p.1 ∧ StrOk p.2) : InitP pw w base (k + 2) 63 171 (rowsIV l) := by
  intro A s x d Ld rm g bk hin hxd hbxd r
  obtain ⟨⟨o, ho1, ho2⟩, hlim, hcd⟩ := fnAt t (a := 63) (o := o63_0 w.params) (c := 62) (oc := o62_0 w.params) (fd := fdOf (o63_0 w.params)) (by kernel_rfl) rfl rfl (by kernel_rfl) rfl rfl s bk
  have h56 : s.heap.get? 56 = some (o56_0 w.params) := (t.yp bk).1 56 _ (by kernel_rfl)
  have hb : wpAny (model pw w) A.in1 (bindArgs (fdOf (o63_0 w.params)) ⟨[.ref x, .ref Ld], []⟩) (fun b s' => b = ([("self", .ref x), ("headers", .ref Ld)] : List (Str × Value)) ∧ s' = s) No s := by
    unfold bindArgs
    refine wpAny_bind (m := pure _) (wpAny_pure ?_)
    refine wpAny_bind (m := seqItems? (.ref 56)) (wpAny_seqItems h56 rfl ?_)
    exact wpAny_of_eq rfl ⟨rfl, rfl⟩
  obtain ⟨_, vs, e0, hpl, hiv, e1⟩ := id r
  cases e0
  obtain ⟨ox, hox, hodx⟩ := hxd
  obtain ⟨i1, i2, i3, i4⟩ := inst_dict hin hox hodx
  obtain ⟨od, hod, hodd⟩ : ∃ od, s.heap.get? d = some od ∧ ∃ es ep, od.data = .dict es ep := by obtain ⟨od, es, ep, e1, e2, _⟩ := i4; exact ⟨od, e1, es, ep, e2⟩
  have hxL : x ≠ Ld := fun e => by
    subst e; obtain ⟨o', n, e1, e2, _⟩ := hpl
    rw [hox] at e1; cases e1; rw [i1] at e2; cases e2
  have hdL : d ≠ Ld := fun e => by
    subst e; obtain ⟨o', n, e1, e2, _, e3⟩ := hpl
    rw [hod] at e1; cases e1
    obtain ⟨es, ep, e4⟩ := hodd
    rw [e3] at e4; cases e4
  have ntX : ∀ a ∈ [x, d], NT s.heap a := fun a ha => by
    simp only [List.mem_cons, List.not_mem_nil, or_false] at ha
    rcases ha with rfl | rfl
    · intro o' ho' xs n hc _
      rw [hox] at ho'; cases ho'; rw [i1] at hc; cases hc
    · exact NT.ns i4.ns
  refine wpAny_call (fn_runR (fd := fdOf (o63_0 w.params)) (sp := [("self", .loc), ("headers", .loc), ("k", .loc), ("v", .loc)]) (ρ := rhoOf [PV.val (.ref x), PV.val (.ref Ld)] 2) (binds := [("self", .ref x), ("headers", .ref Ld)]) (body := fBody (cd 5 0)) rm g ho1 ho2 hlim hcd rfl rfl hb ?_ ⟨by kernel_rfl, by kernel_rfl, by kernel_rfl, by kernel_rfl, trivial⟩ (by decide) (bound_pos (names := ["self", "headers"]) (ps := [PV.val (.ref x), PV.val (.ref Ld)]) (vals := [.ref x, .ref Ld]) (n := 2) (by decide) rfl ⟨⟨[], rfl, rfl⟩, ⟨[], rfl, rfl⟩, trivial⟩ rfl rfl) ?_ (by kernel_rfl) (by kernel_rfl) (by kernel_rfl))
  · intro b hb
    simp only [List.mem_cons, List.not_mem_nil, or_false] at hb
    rcases hb with rfl | rfl
    · exact ⟨.loc, by simp⟩
    · exact ⟨.loc, by simp⟩
  · intro base' hbase ok A' s₁ rm' I
    have t' : Top w base' := t.up fun a o e => (hbase a).trans (bk a o e)
    have f := fr2_fn (fd := fdOf (o63_0 w.params)) (a := 63) (L := s.heap.objs.size) (sp := [("self", .loc), ("headers", .loc), ("k", .loc), ("v", .loc)]) (os := s.os) t' rfl rfl (by kernel_rfl)
    have gt := bi (x := "type") f (by kernel_rfl) (by kernel_rfl) (v := .type "type") (by kernel_rfl)
    have gs := bi (x := "list") f (by kernel_rfl) (by kernel_rfl) (v := .type "list") (by kernel_rfl)
    have kb : ∀ s' : Shared, Bk base' s' → Keep s.heap s'.heap := fun s' b a o e => b a o ((hbase a).trans e)
    have lb : LstB base' Ld vs (rowsIV l) := ⟨fun s' b => ⟨hpl.keeps (kb s' b), hiv.keep (kb s' b)⟩, by obtain ⟨o, _, ho, _⟩ := hpl; exact ⟨o, (hbase _).trans ho⟩⟩
    refine then_raw (F := fnFm (fdOf (o63_0 w.params)) 63 s.heap.objs.size [("self", .loc), ("headers", .loc), ("k", .loc), ("v", .loc)] base' s.os) (ρ₁ := rhoOf [PV.val (.ref x), PV.val (.ref Ld)] 2) (ex_assign_iv (fr := false) (own := false) 1 (acc := none) rfl own_none (ev_ifexp (c := true) (eb_cmp (by rfl) (ev_local 1 ok rfl rfl (by intro q; cases q)) ev_none op_isnot_none_ref) (ev_local 1 ok rfl rfl (by intro q; cases q))) (by rfl)) ok rm' I fun s₂ I₂ => ?_
    refine then_raw (F := fnFm (fdOf (o63_0 w.params)) 63 s.heap.objs.size [("self", .loc), ("headers", .loc), ("k", .loc), ("v", .loc)] base' s.os) (ρ₁ := rhoOf [PV.val (.ref x), PV.val (.ref Ld)] 2) (ex_if (b := false) (eb_cmp (by rfl) (ev_call (fr := true) (by rfl) gt (.cons (ev_local 1 ok rfl rfl (by intro q; cases q)) .nil) (c_type_ref lb) (fun a e => nomatch e)) (ev_glob (p := .at (.val (.type "list"))) gs fun h => rfl) op_isnot_type) (ex_nil ⟨rfl, rfl⟩)) ok rm' I₂ fun s₃ I₃ => ?_
    refine wpAny_execs_cons (plainObj_wpAny_Assign_Attribute (wpAny_mono (ev_local (F := fnFm (fdOf (o63_0 w.params)) 63 s.heap.objs.size [("self", .loc), ("headers", .loc), ("k", .loc), ("v", .loc)] base' s.os) (ρ := rhoOf [PV.val (.ref x), PV.val (.ref Ld)] 2) (k := k + 1) 1 ok rfl rfl (by intro q; cases q) (by decide) A' s₃ rm' I₃) (fun v s₄ ⟨x4, fp4, ⟨e4, _⟩, _⟩ => ?_) fun _ _ e => e) (by rfl))
    have e4 : v = .ref Ld := e4
    subst e4
    refine wpAny_mono (ev_local (F := fnFm (fdOf (o63_0 w.params)) 63 s.heap.objs.size [("self", .loc), ("headers", .loc), ("k", .loc), ("v", .loc)] base' s.os) (ρ := rhoOf [PV.val (.ref x), PV.val (.ref Ld)] 2) (k := k + 1) 0 ok rfl rfl (by intro q; cases q) (by decide) A' s₄ rm' (I₃.ext x4)) (fun v s₅ ⟨x5, fp5, ⟨e5, _⟩, _⟩ => ?_) fun _ _ e => e
    have e5 : v = .ref x := e5
    subst e5
    have I₅ := (I₃.ext x4).ext x5
    have b5 : Bk base' s₅ := I₅.keep
    have k5 := kb s₅ b5
    have cb := clsB t'
    obtain ⟨hh, gg, dr, tk, os5⟩ := s₅
    obtain ⟨nm, q, bs, sn, sub, col, dd, c0, c1, c2, c3, c5, hC⟩ := (cb.at_ _ b5).obj
    have hin5 : hh.Inst x 171 (fun _ => none) := ⟨ox, k5 _ _ hox, i1, i2, .inr ⟨d, hodx, i3, i4.keeps k5⟩⟩
    have hxC : x ≠ 171 := fun e => by
      subst e
      have h1 := k5 _ _ hox
      rw [hC] at h1; cases h1
      exact i2 _ rfl
    refine store_attr (name := "_headers") PySem.F.store_object hC (cb.at_ _ b5).ns (by kernel_rfl) cb.hd lk_headers hxC hin5 fun h' tk' hin' hk' hx' => ?_
    obtain ⟨o1, ho1', hc1, hd1, _, hdd1⟩ := hx' ox (k5 _ _ hox)
    obtain ⟨j1, j2, j3, j4⟩ := inst_dict hin' ho1' (hdd1 d hodx)
    have kk : ∀ b o, b ∉ [x, d] → hh.get? b = some o → h'.get? b = some o := fun b o hb e => hk' b o (fun q => hb (by simp [q])) (fun o₀ dx e1 e2 q => by
      rw [k5 _ _ hox] at e1; cases e1
      rw [hodx] at e2; cases e2
      exact hb (by simp [q])) e
    obtain ⟨od', hod', _⟩ : ∃ od', h'.get? d = some od' ∧ True := by obtain ⟨od, es, ep, e1, _⟩ := j4; exact ⟨od, e1, trivial⟩
    obtain ⟨base0, hb0⟩ : ∃ base0 : Addr → Option Obj, ∀ a, base0 a = if a ∈ [x, d] then h'.get? a else base' a := ⟨_, fun _ => rfl⟩
    have ok0 := FmOk.rebase (b := base0) ok fun a ha => by
      have ha : base' a = none := ha
      rw [hb0]
      split
      · rename_i q
        simp only [List.mem_cons, List.not_mem_nil, or_false] at q
        rcases q with rfl | rfl
        · rw [hbase, hox] at ha; cases ha
        · rw [hbase, hod] at ha; cases ha
      · exact ha
    have lt : ∀ {a : Addr} {o : Obj}, s.heap.get? a = some o → a < s.heap.objs.size := fun e => Heap.lt_size e
    have I0 := Inv.rebase (F := fnFm (fdOf (o63_0 w.params)) 63 s.heap.objs.size [("self", .loc), ("headers", .loc), ("k", .loc), ("v", .loc)] base' s.os) (b := base0) (h' := h') (ps := [some (.val (.ref x)), some (.val (.ref Ld)), none, none]) I₅ tk' (fun a o e => by
        rw [hb0] at e
        split at e
        · exact e
        · rename_i q; exact kk a o q (b5 a o e)) (fun o e => kk _ _ (fun q => by
          simp only [List.mem_cons, List.not_mem_nil, or_false] at q
          have q : s.heap.objs.size = x ∨ s.heap.objs.size = d := q
          rcases q with q | q
          · exact absurd q.symm (Nat.ne_of_lt (lt hox))
          · exact absurd q.symm (Nat.ne_of_lt (lt hod))) e) (fun i y c h => by
          rcases i with _ | _ | _ | _ | i <;> first | (cases h; done) | (simp [fnFm] at h)) (fun a h => h) (fun a h => h)
    have mk : ∀ s' : Shared, Bk base0 s' → Rep pw w s'.heap (.obj 171 (rowsIV l)) (.ref x) [x, d, Ld] := fun s' b => by
      have ch : Chg [x, d] s.heap s'.heap := fun a o hn e => b a o (by rw [hb0, if_neg hn]; exact (hbase a).trans e)
      have hx1 := b x o1 (by rw [hb0, if_pos (by simp)]; exact ho1')
      have j4' : s'.heap.Ns1 d (hdM Ld) := by
        obtain ⟨od, es, ep, e1, e2⟩ := j4
        exact ⟨od, es, ep, b d od (by rw [hb0, if_pos (by simp)]; exact e1), e2⟩
      exact ⟨x, d, Ld, vs, o1, _, rfl, hx1, ⟨⟨j1, hdd1 d hodx, j2⟩, j3⟩, j4', rfl, isList_chg ch (by simp; exact ⟨hxL.symm, hdL.symm⟩) hpl, hiv.chg ch (.inl ntX), rfl⟩
    have t0 : Top w base0 := by
      have hne : ∀ a o, base a = some o → a ≠ x ∧ a ≠ d := fun a o e => ⟨fun q => (by subst q; rw [hbxd.1] at e; cases e), fun q => (by subst q; rw [hbxd.2] at e; cases e)⟩
      exact t.up fun a o e => by rw [hb0, if_neg (by simp; exact hne a o e)]; exact (hbase a).trans (bk a o e)
    have hbL : ∃ o, base0 Ld = some o := by obtain ⟨o, _, ho, _⟩ := hpl; exact ⟨o, by rw [hb0, if_neg (by simp; exact ⟨hxL.symm, hdL.symm⟩)]; exact (hbase _).trans ho⟩
    have ob0 : ObjB pw w base0 x 171 Ld (rowsIV l) := ObjB.of_rep mk hbL
    have lb0 : LstB base0 Ld vs (rowsIV l) := ⟨fun s' b => by
      have ch : Chg [x, d] s.heap s'.heap := fun a o hn e => b a o (by rw [hb0, if_neg hn]; exact (hbase a).trans e)
      exact ⟨isList_chg ch (by simp; exact ⟨hxL.symm, hdL.symm⟩) hpl, hiv.chg ch (.inl ntX)⟩, hbL⟩
    have mc : MethB base0 (mHd w.params) "_convert_string_type" 70 := methB t0 (o := o70_0 w.params) (by kernel_rfl) (by kernel_rfl) rfl rfl (by decide) ⟨none, by rw [typeLookup_type, builtinLookup_eq_fast]; kernel_rfl⟩
    refine ex_raw (F := fnFm (fdOf (o63_0 w.params)) 63 s.heap.objs.size [("self", .loc), ("headers", .loc), ("k", .loc), ("v", .loc)] base0 s.os) (ρ := aRho [some (.val (.ref x)), some (.val (.ref Ld)), none, none]) ?_ ok0 rm' I0 fun ρ' s' I' => ⟨rfl, I'.gens.trans g.symm, I'.os, fun a o hn e => I'.keep a o ((hb0 a).trans ((if_neg hn).trans ((hbase a).trans e))), mk s' I'.keep⟩
    refine ex_one (ex_if (b := true) eb_const (ex_one (ex_forM l (fun p => .tup [.str p.1, .str p.2]) (fun _ ρ' => ∃ c d, ρ' = [(PV.val (.ref x), false), (PV.val (.ref Ld), false), c, d]) (itj_list (src_val lb0 fun b r' lf okb => ev_local 1 okb rfl rfl (by intro q; cases q))) ⟨_, _, rfl⟩ (fun ρ' h => rfl) ?_)))
    rintro done p rest ρ' hxs ⟨c, d', rfl⟩
    refine ⟨_, asg_tup (.cons 2 (acc := none) rfl own_none (.cons 3 (acc := none) rfl own_none .nil)), ?_⟩
    have hp := hl p (by rw [hxs]; simp)
    refine ex_then (ex_expr (ev_inst_kw (fr := true) (by rfl) (by rfl) (by rfl) (clsB t0) mc (ev_of_val ob0 (ev_local 0 ok0 rfl rfl (by intro q; cases q))) (ev_local 2 ok0 rfl rfl (by intro q; cases q)) (c_convert t0 hp.1)) (by rfl)) ?_
    refine ex_one (ex_mono (ex_expr (ev_inst_kw (fr := true) (by rfl) (by rfl) (by rfl) (clsB t0) mc (ev_of_val ob0 (ev_local 0 ok0 rfl rfl (by intro q; cases q))) (ev_local 3 ok0 rfl rfl (by intro q; cases q)) (c_convert t0 hp.2)) (by rfl)) fun fl ρ' ⟨e1, e2⟩ => ?_)
    subst e1 e2
    exact ⟨_, _, rfl⟩
open Wk Hd2
def ch (c : Nat) : Str := ⟨#[c]⟩
def ChOk (c : Nat) : Prop := LowOk (ch c) ∧ StrOk (ch c) ∧ StrOk (Txt.lower (ch c))
def rows0 (x : Str) : List (Str × Str) := x.cps.toList.map fun c => (ch c, ch c)
def rowF (x : IV) : List IV := [match x with | .at a => .tup [a, a] | _ => x]
theorem rowF_eq (x : Str) : (chars x).flatMap rowF = rowsIV (rows0 x) := by
  unfold chars rows0
  induction x.cps.toList with
  | nil => rfl
  | cons c l ih => simp only [List.map_cons, List.flatMap_cons, ih]; rfl
def getS (l : List (Str × Str)) (x : Str) : Str := match l.find? (fun p => Txt.lower p.1 == Txt.lower x) with | some p => p.2 | none => Str.empty
theorem getV_mem {l : List (Str × Str)} {x : Str} (h : x ∈ l.map (·.1)) : getV l x = .str (getS l x) := by
  unfold getV getS
  cases e : l.find? (fun p => Txt.lower p.1 == Txt.lower x) with
  | some p => rfl
  | none =>
    obtain ⟨p, hp, rfl⟩ := List.mem_map.mp h
    have := List.find?_eq_none.mp e p hp
    simp at this
def mapF (g : Str → Str) (x : IV) : List IV := [match x with | .at (.str y) => .at (.str (g y)) | _ => x]
theorem mapF_eq (g : Str → Str) (l : List Str) : (strsIV l).flatMap (mapF g) = strsIV (l.map g) := by
  induction l with
  | nil => rfl
  | cons c l ih => simp only [List.map_cons, List.flatMap_cons, ih]; rfl
def filtF (q : Str → Bool) (x : IV) : List IV := match x with | .at (.str y) => if q y then [x] else [] | _ => []
theorem filtF_eq (q : Str → Bool) (l : List Str) : (strsIV l).flatMap (filtF q) = strsIV (l.filter q) := by
  induction l with
  | nil => rfl
  | cons c l ih =>
    simp only [List.map_cons, List.flatMap_cons, List.filter_cons, ih]
    cases hq : q c <;> simp [filtF, hq]
theorem filtF_t {q : Str → Bool} {y : Str} (h : q y = true) : filtF q (.at (.str y)) = [.at (.str y)] := if_pos h
theorem filtF_f {q : Str → Bool} {y : Str} (h : q y = false) : filtF q (.at (.str y)) = [] := if_neg (by rw [h]; simp)
theorem chars_strs (x : Str) : chars x = strsIV (x.cps.toList.map ch) := by
  unfold chars ch; simp
def joinedV (one other letter : Str) : Option Str :=
  let rows := delV (rows0 (one ++ other)) letter
  let names := rows.map (·.1)
  if names.map (getS rows) != names then none else some (Txt.join "" ((("aAbBcC" : Str).cps.toList.map ch).filter fun x => names.contains x))
def optPV : Option Str → PV | none => .none | some x => .str x
theorem rows0_mem {x : Str} {p : Str × Str} (h : p ∈ rows0 x) : ∃ c ∈ x.cps.toList, p = (ch c, ch c) := by
  obtain ⟨c, hc, rfl⟩ := List.mem_map.mp h; exact ⟨c, hc, rfl⟩
theorem join_small {l : List Str} (h1 : ∀ x ∈ l, x.length ≤ 100) (h2 : l.length ≤ 100) : JoinOk Str.empty l = true := by
  refine joinOk_cat ?_
  have : (cat l).length ≤ 100 * l.length := by
    unfold cat
    induction l with
    | nil => simp
    | cons x l ih =>
      simp only [List.flatMap_cons, List.length_append, List.length_cons]
      have := ih (fun y hy => h1 y (List.mem_cons_of_mem _ hy)) (by simp at h2; omega)
      have h3 : x.length ≤ 100 := h1 x (List.mem_cons_self ..)
      have h4 : x.cps.toList.length = x.length := by simp [Str.length]
      omega
  have : (2:Nat)^24 = 16777216 := by decide
  show _ ≤ 2 ^ 24
  omega
set_option maxHeartbeats 8000000 in
theorem c_joined {w : World} {base : Addr → Option Obj} {k : Nat} (t : Top w base) {one other letter : Str} (h1 : ∀ c ∈ (one ++ other).cps.toList, ChOk c) (hlen : (one ++ other).length ≤ 100) (hlo : one.length + other.length ≤ sizeLine) (hy : LowOk letter) (hs : StrOk (Txt.lower letter)) :
    CallP pw w base (k + 4) (.ref 268) [.str one, .str other, .str letter] (optPV (joinedV one other letter)) true := by
  refine call_own (fd := fdOf (o268_0 w.params)) (sp := [("one", .loc), ("other", .loc), ("letter", .loc), ("table", .own), ("names", .own)]) (names := ["one", "other", "letter"]) (n := 2) (body := fBody (bd 18)) (fnAt t (o := o268_0 w.params) (oc := o267_0 w.params) (by kernel_rfl) rfl rfl (by kernel_rfl) rfl rfl) rfl rfl ?_ ⟨by kernel_rfl, by kernel_rfl, by kernel_rfl, by kernel_rfl, by kernel_rfl, trivial⟩ (by decide) rfl rfl rfl ?_ (by kernel_rfl) (by kernel_rfl) (by kernel_rfl)
  · intro vals hv
    match vals, hv with
    | [v, u, z], _ => rfl
  · intro L base' os hb ok
    have t' := t.up hb
    have f := fr2_fn (fd := fdOf (o268_0 w.params)) (a := 268) (L := L) (sp := [("one", .loc), ("other", .loc), ("letter", .loc), ("table", .own), ("names", .own)]) (os := os) t' rfl rfl (by kernel_rfl)
    have gH := gl (x := "Headers") f (by kernel_rfl) (v := .ref 171) (by kernel_rfl)
    have mi : MethB base' (mHd w.params) "__init__" 63 := methB t' (o := o63_0 w.params) (by kernel_rfl) (by kernel_rfl) rfl rfl (by decide) ⟨some (.builtin "object.__init__"), by rw [typeLookup_type, builtinLookup_eq_fast]; kernel_rfl⟩
    have md : MethB base' (mHd w.params) "__delitem__" 89 := methB t' (o := o89_0 w.params) (by kernel_rfl) (by kernel_rfl) rfl rfl (by decide) ⟨none, by rw [typeLookup_type, builtinLookup_eq_fast]; kernel_rfl⟩
    have mk : MethB base' (mHd w.params) "keys" 123 := methB t' (o := o123_0 w.params) (by kernel_rfl) (by kernel_rfl) rfl rfl (by decide) ⟨none, by rw [typeLookup_type, builtinLookup_eq_fast]; kernel_rfl⟩
    have mg : ∀ {b}, Top w b → MethB b (mHd w.params) "get" 118 := fun t => methB t (o := o118_0 w.params) (by kernel_rfl) (by kernel_rfl) rfl rfl (by decide) ⟨none, by rw [typeLookup_type, builtinLookup_eq_fast]; kernel_rfl⟩
    have own3 : Own (fnFm (fdOf (o268_0 w.params)) 268 L [("one", .loc), ("other", .loc), ("letter", .loc), ("table", .own), ("names", .own)] base' os) "table" (some (L + 1)) := fun c e => by cases e; exact ⟨by kernel_rfl, "table", by simp, by rfl⟩
    have own4 : Own (fnFm (fdOf (o268_0 w.params)) 268 L [("one", .loc), ("other", .loc), ("letter", .loc), ("table", .own), ("names", .own)] base' os) "names" (some (L + 1 + 1)) := fun c e => by cases e; exact ⟨by kernel_rfl, "names", by simp, by rfl⟩
    have hr0 : ∀ p ∈ rows0 (one ++ other), LowOk p.1 ∧ StrOk p.1 ∧ StrOk p.2 ∧ StrOk (Txt.lower p.1) := fun p hp => by
      obtain ⟨c, hc, rfl⟩ := rows0_mem hp
      exact ⟨(h1 c hc).1, (h1 c hc).2.1, (h1 c hc).2.1, (h1 c hc).2.2⟩
    have hl0 : (rows0 (one ++ other)).length ≤ 100 := by unfold rows0; rw [List.length_map]; simpa [Str.length] using hlen
    refine ex_then (ex_assign (own := true) 3 rfl own3 (ev_new (l := rowsIV (rows0 (one ++ other))) (by rfl) gH (clsB t') mi (ev_comp_eq [] [("sign", .loc)] (chars (one ++ other)) rowF ok (rowF_eq _) ?_) (c_init t' fun p hp => ⟨(hr0 p hp).2.1, (hr0 p hp).2.2.1⟩)) rfl (by rfl)) ?_
    · refine ⟨by rfl, ⟨by kernel_rfl, trivial⟩, by kernel_rfl, by decide, by decide +kernel, by intro _; rfl, rfl, itj_str (ev_bin (fr := true) (ev_local 0 ok rfl rfl (by intro q; cases q)) (ev_local 1 ok rfl rfl (by intro q; cases q)) (op_add_str hlo)), ?_, len_one _ _ (by rw [chars_len]; exact Nat.le_trans hlen (by decide))⟩
      intro C D base2 hbase2 okc z hz
      obtain ⟨c, hc, rfl⟩ := List.mem_map.mp hz
      refine ⟨[(.str (ch c), false)], true, asg_name 0 (acc := none) rfl own_none, .inl ⟨rfl, rfl⟩, ⟨.tup [.str (ch c), .str (ch c)], false, rfl, ev_tuple (by rfl) (.cons (ev_local 0 okc rfl rfl (by intro q; cases q)) (.cons (ev_local 0 okc rfl rfl (by intro q; cases q)) .nil)) (by show (2 : Nat) ≤ sizeLine; decide)⟩, .any .nil⟩
    refine ex_then (ex_del 3 (l' := rowsIV (delV (rows0 (one ++ other)) letter)) rfl rfl (clsB t') md (ev_local 2 ok rfl rfl (by intro q; cases q)) (c_del (k := k + 1) t' hy hs (fun p hp => (hr0 p hp).1) (by omega))) ?_
    generalize hrw : delV (rows0 (one ++ other)) letter = rws
    have hr1 : ∀ p ∈ rws, LowOk p.1 ∧ StrOk p.1 ∧ StrOk p.2 ∧ StrOk (Txt.lower p.1) := fun p hp => hr0 p (by rw [← hrw] at hp; exact (List.mem_filter.mp hp).1)
    have hl1 : rws.length ≤ 100 := by rw [← hrw]; exact Nat.le_trans (delV_len _ _) hl0
    have hjv : joinedV one other letter = if (rws.map (·.1)).map (getS rws) != rws.map (·.1) then none else some (Txt.join "" ((("aAbBcC" : Str).cps.toList.map ch).filter fun x => (rws.map (·.1)).contains x)) := by rw [← hrw]; rfl
    refine ex_then (ex_assign (own := false) 4 rfl own4 (ev_inst (es := []) (by rfl) (by rfl) (by rfl) (by decide) (clsB t') mk (ev_cell 3 ok rfl rfl (by intro q; cases q)) .nil (c_keys (k := k + 2) t' (by omega))) rfl (by rfl)) ?_
    generalize hnm : rws.map (·.1) = nms at *
    have hln : nms.length ≤ 100 := by rw [← hnm, List.length_map]; exact hl1
    have hmem : ∀ y ∈ nms, y ∈ rws.map (·.1) := fun y hy => by rw [hnm]; exact hy
    refine ex_cons (P₁ := fun fl ρ' => (joinedV one other letter = none ∧ fl = .ret .none) ∨ ((nms.map (getS rws) != nms) = false ∧ fl = .next ∧ ρ' = [(.str one, false), (.str other, false), (.str letter, false), (.obj 171 (rowsIV rws), true), (.list (strsIV nms), false)])) (ex_if (b := nms.map (getS rws) != nms) (eb_cmp (by rfl) (ev_comp_eq [("table", L + 1)] [("sign", .loc), ("table", .cap 3)] (strsIV nms) (mapF (getS rws)) ok (mapF_eq _ _) ?_) (ev_cell 4 ok rfl rfl (by intro q; cases q)) op_ne_strs) ?_) ?_ ?_
    · refine ⟨by rfl, ⟨by kernel_rfl, ⟨by kernel_rfl, by kernel_rfl, _, rfl, rfl⟩, trivial⟩, by kernel_rfl, by decide, by decide +kernel, by intro _; rfl, rfl, itj_list (src_slot 4 rfl rfl), ?_, len_one _ _ (by rw [List.length_map]; exact Nat.le_trans hln (by decide))⟩
      intro C D base2 hbase2 okc z hz
      obtain ⟨y, hy, rfl⟩ := List.mem_map.mp hz
      have t2 := t'.up hbase2
      obtain ⟨p, hp, e1⟩ := List.mem_map.mp (hmem y hy)
      have hp := hr1 p hp
      rw [e1] at hp
      refine ⟨[(.str y, false), (.obj 171 (rowsIV rws), false)], true, asg_name 0 (acc := none) rfl own_none, .inl ⟨rfl, rfl⟩, ⟨.at (.str (getS rws y)), true, rfl, ?_⟩, .any (.same .nil)⟩
      rw [← getV_mem (hmem y hy)]
      exact ev_inst (by rfl) (by rfl) (by rfl) (by decide) (clsB t2) (mg t2) (ev_cell 1 okc rfl rfl (by intro q; cases q)) (.cons (ev_local 0 okc rfl rfl (by intro q; cases q)) .nil) (c_get (k := k + 1) t2 hp.1 hp.2.2.2 fun p hp => (hr1 p hp).1)
    · cases hq : (nms.map (getS rws) != nms) with
      | true => exact ex_one (ex_return_iv ev_none (.inl ⟨by rw [hjv, hq]; rfl, rfl⟩))
      | false => exact ex_nil (.inr ⟨rfl, rfl, rfl⟩)
    · rintro ρ' (⟨_, h⟩ | ⟨hq, _, rfl⟩)
      · cases h
      · have hj2 : joinedV one other letter = some (Txt.join "" ((("aAbBcC" : Str).cps.toList.map ch).filter fun x => nms.contains x)) := by rw [hjv, hq]; rfl
        rw [hj2]
        refine ex_one (ex_return_iv (p := .at (.str (Txt.join "" ((("aAbBcC" : Str).cps.toList.map ch).filter fun x => nms.contains x)))) (fr := true) (ev_meth (by rfl) (by rfl) (by rfl) (by decide) ev_str (.cons (ev_comp_eq [("names", L + 1 + 1)] [("sign", .loc), ("names", .cap 4)] (chars "aAbBcC") (filtF fun x => nms.contains x) ok (by rw [chars_strs, filtF_eq]) ?_) .nil) .str m_join (c_join (join_small (fun x hx => ?_) ?_))) rfl)
        · refine ⟨by rfl, ⟨by kernel_rfl, ⟨by kernel_rfl, by kernel_rfl, _, rfl, rfl⟩, trivial⟩, by kernel_rfl, by decide, by decide +kernel, by intro _; rfl, rfl, itj_str ev_str, ?_, ?_⟩
          · intro C D base2 hbase2 okc z hz
            obtain ⟨c, hc, rfl⟩ := List.mem_map.mp hz
            refine ⟨[(.str (ch c), false), (.list (strsIV nms), false)], nms.contains (ch c), asg_name 0 (acc := none) rfl own_none, .inr ⟨_, rfl, eb_cmp (by rfl) (ev_local 0 okc rfl rfl (by intro q; cases q)) (ev_cell 1 okc rfl rfl (by intro q; cases q)) op_in_strs⟩, ?_, .any (.same .nil)⟩
            cases hq : nms.contains (ch c) with
            | true => exact ⟨.at (.str (ch c)), false, filtF_t hq, ev_local 0 okc rfl rfl (by intro q; cases q)⟩
            | false => exact filtF_f hq
          · rw [chars_strs, filtF_eq, List.length_map]
            exact Nat.le_trans (List.length_filter_le _ _) (by decide)
        · obtain ⟨c, _, rfl⟩ := List.mem_map.mp (List.mem_filter.mp hx).1
          exact Nat.le_of_ble_eq_true rfl
        · exact Nat.le_trans (List.length_filter_le _ _) (by decide)
    · rintro fl ρ' hne (⟨h1, h2⟩ | ⟨_, h, _⟩)
      · rw [h1]; exact h2
      · exact absurd h hne
/-- clauses over three letters: figures base 3 -/
abbrev Cl := Fin 27
abbrev Wd := Fin 8
def cg (c : Cl) (j : Fin 3) : Fin 3 := ⟨c.val / 3 ^ j.val % 3, Nat.mod_lt _ (by decide)⟩
def cs (c : Cl) (j v : Fin 3) : Cl := ⟨(c.val - (cg c j).val * 3 ^ j.val + v.val * 3 ^ j.val) % 27, Nat.mod_lt _ (by decide)⟩
def wg (v : Wd) (j : Fin 3) : Bool := v.val / 2 ^ (2 - j.val) % 2 == 1
/-- the figure that a world makes true -/
def wl (v : Wd) (j : Fin 3) : Fin 3 := if wg v j then 2 else 1
def within (x y : Cl) : Bool := (List.finRange 3).all fun j => cg x j == 0 || cg x j == cg y j
def holds (c : Cl) (v : Wd) : Bool := (List.finRange 3).any fun j => cg c j == wl v j
def sgn (j v : Fin 3) : List Nat := match v with | 0 => [] | 1 => [97 + j.val] | 2 => [65 + j.val]
def encL (c : Cl) : List Nat := sgn 0 (cg c 0) ++ sgn 1 (cg c 1) ++ sgn 2 (cg c 2)
def enc (c : Cl) : Str := ⟨(encL c).toArray⟩
def encW (v : Wd) : Str := ⟨((List.finRange 3).map fun j => if wg v j then 65 + j.val else 97 + j.val).toArray⟩
def low (j : Fin 3) : Str := ch (97 + j.val)
def big (j : Fin 3) : Str := ch (65 + j.val)
theorem enc_inj : ∀ x y : Cl, (enc x == enc y) = (x == y) := by decide +kernel
/-- the resolvent -/
def clash (o t : Cl) (j : Fin 3) : Bool := (List.finRange 3).any fun i => i != j && cg o i != 0 && cg t i != 0 && cg o i != cg t i
def mrg (o t : Cl) (j : Fin 3) : Cl := cs (cs (cs 0 0 (if cg o 0 == 0 then cg t 0 else cg o 0)) 1 (if cg o 1 == 0 then cg t 1 else cg o 1)) 2 (if cg o 2 == 0 then cg t 2 else cg o 2)
def resv (o t : Cl) (j : Fin 3) : Option Cl := if clash o t j then none else some (cs (mrg o t j) j 0)
theorem joined_enc : ∀ (j : Fin 3) (o t : Cl), cg o j = 1 → cg t j = 2 → joinedV (enc o) (enc t) (low j) = (resv o t j).map enc := by decide +kernel
end L2
namespace PS
open PySem.StrLaws PySem.Builtin PySem.Builtin.Str
def occStep (s sub : Str) (hi limit : Nat) (st : Array Nat × Nat) (i : Nat) : Array Nat × Nat := if ((st.fst.size < limit ∧ st.snd ≤ i) ∧ i + sub.length ≤ hi) ∧ subAt s sub i = true then (st.fst.push i, i + sub.length) else st
theorem occ_fold (s sub : Str) (hi limit : Nat) : ∀ (l : List Nat) (st : Array Nat × Nat), (forIn l st (occBody s sub hi limit)).run = l.foldl (occStep s sub hi limit) st
  | [], st => rfl
  | a :: l, st => by
    rw [List.forIn_cons, List.foldl_cons]
    unfold occBody occStep
    split
    · exact occ_fold s sub hi limit l _
    · exact occ_fold s sub hi limit l _
theorem occ_skip (s sub : Str) (hi limit : Nat) : ∀ (l : List Nat) (st : Array Nat × Nat), (∀ i ∈ l, subAt s sub i = true → i + sub.length ≤ hi → False) → l.foldl (occStep s sub hi limit) st = st
  | [], st, _ => rfl
  | a :: l, st, h => by
    rw [List.foldl_cons]
    have e : occStep s sub hi limit st a = st := by
      unfold occStep
      rw [if_neg fun q => h a (List.mem_cons_self ..) q.2 q.1.2]
    rw [e]
    exact occ_skip s sub hi limit l st fun i hi => h i (List.mem_cons_of_mem _ hi)
def cuts (w : Nat) : List (List Nat) → Nat → List Nat
  | [], _ => []
  | p :: ps, a => (a + p.length) :: cuts w ps (a + p.length + w)
def glue (sep : List Nat) (ps : List (List Nat)) : List Nat := ps.flatMap (· ++ sep)
theorem subAt_head {x y : Str} {s0 : Nat} {tl : List Nat} (hy : y.cps.toList = s0 :: tl) {i : Nat} (h : subAt x y i = true) : x.cps.toList[i]? = some s0 := by
  rw [subAt_eq, hy] at h
  have h := eq_of_beq h
  have hl : y.length = tl.length + 1 := by
    have := congrArg List.length hy
    simpa [Str.length] using this
  rw [hl] at h
  have := congrArg (fun l => l[0]?) h
  simpa using this
theorem occ_pieces {y : Str} {s0 : Nat} {tl : List Nat} (hy : y.cps.toList = s0 :: tl) (htl : s0 ∉ tl) : ∀ (ps : List (List Nat)) (P : List Nat) (x : Str) (found : Array Nat) (free : Nat), x.cps.toList = P ++ glue (s0 :: tl) ps → (∀ p ∈ ps, s0 ∉ p) → free ≤ P.length → found.size ≤ P.length →
    ((List.range' P.length (x.length + 1 - P.length)).foldl (occStep x y x.length (x.length + 1)) (found, free)).1.toList = found.toList ++ cuts (tl.length + 1) ps P.length
  | [], P, x, found, free, hx, hp, hf, hs => by
    have hl : y.length = tl.length + 1 := by
      have := congrArg List.length hy
      simpa [Str.length] using this
    have hn : x.length = P.length := by
      have := congrArg List.length hx
      simpa [Str.length, glue] using this
    rw [hn, show P.length + 1 - P.length = 1 by omega]
    rw [occ_skip _ _ _ _ _ _ fun i hi h1 h2 => by
      have : i = P.length := by simpa using hi
      omega]
    simp [cuts]
  | p :: ps, P, x, found, free, hx, hp, hf, hs => by
    have hl : y.length = tl.length + 1 := by
      have := congrArg List.length hy
      simpa [Str.length] using this
    have hx' : x.cps.toList = (P ++ p ++ (s0 :: tl)) ++ glue (s0 :: tl) ps := by rw [hx]; simp [glue]
    have hn : x.length = P.length + p.length + (tl.length + 1) + (glue (s0 :: tl) ps).length := by
      have := congrArg List.length hx'
      simp [Str.length] at this ⊢
      omega
    have hr : List.range' P.length (x.length + 1 - P.length) = List.range' P.length p.length ++ ([P.length + p.length] ++ (List.range' (P.length + p.length + 1) tl.length ++ List.range' (P ++ p ++ (s0 :: tl)).length (x.length + 1 - (P ++ p ++ (s0 :: tl)).length))) := by
      have e1 : (P ++ p ++ (s0 :: tl)).length = P.length + p.length + 1 + tl.length := by simp; omega
      rw [e1, List.range'_append_1, show [P.length + p.length] = List.range' (P.length + p.length) 1 from rfl, List.range'_append_1, List.range'_append_1]
      congr 1
      omega
    have hat : ∀ i, x.cps.toList[i]? = if i < P.length then P[i]? else if i < P.length + p.length then p[i - P.length]? else if i < P.length + p.length + (tl.length + 1) then (s0 :: tl)[i - P.length - p.length]? else (glue (s0 :: tl) ps)[i - P.length - p.length - (tl.length + 1)]? := fun i => by
      rw [hx', List.append_assoc, List.append_assoc]
      by_cases h1 : i < P.length
      · rw [if_pos h1, List.getElem?_append_left h1]
      · rw [if_neg h1, List.getElem?_append_right (by omega)]
        by_cases h2 : i < P.length + p.length
        · rw [if_pos h2, List.getElem?_append_left (by omega)]
        · rw [if_neg h2, List.getElem?_append_right (by omega)]
          by_cases h3 : i < P.length + p.length + (tl.length + 1)
          · rw [if_pos h3, List.getElem?_append_left (by simp; omega)]
          · rw [if_neg h3, List.getElem?_append_right (by simp; omega)]; simp
    rw [hr, List.foldl_append, List.foldl_append, List.foldl_append]
    rw [occ_skip x y _ _ (List.range' P.length p.length) _ fun i hi h1 h2 => by
      have hi := List.mem_range'_1.mp hi
      have h3 := subAt_head hy h1
      rw [hat, if_neg (by omega), if_pos (by omega)] at h3
      exact hp p (List.mem_cons_self ..) (List.mem_of_getElem? h3)]
    have hit : subAt x y (P.length + p.length) = true := by
      rw [subAt_eq, hy, hx', hl]
      rw [List.append_assoc, List.append_assoc, List.drop_append, List.drop_of_length_le (by omega), show P.length + p.length - P.length = p.length by omega, List.nil_append, List.drop_append, List.drop_of_length_le (Nat.le_refl _), Nat.sub_self, List.drop_zero, List.nil_append, List.take_append_of_le_length (by simp), List.take_of_length_le (by simp)]
      simp
    have hstep : [P.length + p.length].foldl (occStep x y x.length (x.length + 1)) (found, free) = (found.push (P.length + p.length), P.length + p.length + y.length) := by
      show occStep x y x.length (x.length + 1) (found, free) (P.length + p.length) = _
      unfold occStep
      rw [if_pos ⟨⟨⟨by show found.size < _; omega, by show free ≤ _; omega⟩, by omega⟩, hit⟩]
    rw [hstep]
    rw [occ_skip x y _ _ (List.range' (P.length + p.length + 1) tl.length) _ fun i hi h1 h2 => by
      have hi := List.mem_range'_1.mp hi
      have h3 := subAt_head hy h1
      rw [hat, if_neg (by omega), if_neg (by omega), if_pos (by omega)] at h3
      obtain ⟨j, hj⟩ : ∃ j, i - P.length - p.length = j + 1 := ⟨i - P.length - p.length - 1, by omega⟩
      rw [hj, List.getElem?_cons_succ] at h3
      exact htl (List.mem_of_getElem? h3)]
    rw [occ_pieces hy htl ps (P ++ p ++ (s0 :: tl)) x _ _ hx' (fun q hq => hp q (List.mem_cons_of_mem _ hq)) (by simp; omega) (by simp; omega)]
    simp [cuts]
    rw [show P.length + (p.length + (tl.length + 1)) = P.length + p.length + (tl.length + 1) by omega]
theorem parts_pieces {s0 : Nat} {tl : List Nat} : ∀ (ps : List (List Nat)) (P : List Nat) (x : Str), x.cps.toList = P ++ glue (s0 :: tl) ps → partsFrom x (tl.length + 1) P.length (cuts (tl.length + 1) ps P.length) = ps.map (fun p => (⟨p.toArray⟩ : Str)) ++ [⟨#[]⟩]
  | [], P, x, hx => by
    have hn : x.length = P.length := by
      have := congrArg List.length hx
      simpa [Str.length, glue] using this
    show [strSub x P.length x.length] = _
    rw [hn]
    congr 1
    apply Str.ext'
    apply Array.toList_inj.mp
    rw [strSub_toList]
    simp
  | p :: ps, P, x, hx => by
    have hx' : x.cps.toList = (P ++ p ++ (s0 :: tl)) ++ glue (s0 :: tl) ps := by rw [hx]; simp [glue]
    show strSub x P.length (P.length + p.length) :: partsFrom x (tl.length + 1) (P.length + p.length + (tl.length + 1)) (cuts (tl.length + 1) ps (P.length + p.length + (tl.length + 1))) = _
    have e := parts_pieces ps (P ++ p ++ (s0 :: tl)) x hx'
    rw [show (P ++ p ++ (s0 :: tl)).length = P.length + p.length + (tl.length + 1) by simp; omega] at e
    rw [e]
    have h1 : strSub x P.length (P.length + p.length) = ⟨p.toArray⟩ := by
      apply Str.ext'
      apply Array.toList_inj.mp
      rw [strSub_toList, hx', List.append_assoc, List.append_assoc]
      simp
    rw [h1]; rfl
theorem kind_pos (x : Str) : 1 ≤ Builtin.Str.strKind x := by
  unfold Builtin.Str.strKind
  split
  · exact Nat.le_refl _
  · split <;> decide
/-- pieces that all end with the separator -/
theorem split_pieces {y : Str} {s0 : Nat} {tl : List Nat} (hy : y.cps.toList = s0 :: tl) (hk : Builtin.Str.strKind y = 1) (htl : s0 ∉ tl) (ps : List (List Nat)) (hp : ∀ p ∈ ps, s0 ∉ p) : Txt.split ⟨(glue (s0 :: tl) ps).toArray⟩ y = ps.map (fun p => (⟨p.toArray⟩ : Str)) ++ [⟨#[]⟩] := by
  have hl : y.length = tl.length + 1 := by
    have := congrArg List.length hy
    simpa [Str.length] using this
  have ho := occ_pieces hy htl ps [] ⟨(glue (s0 :: tl) ps).toArray⟩ #[] 0 (by simp) hp (Nat.le_refl _) (Nat.le_refl _)
  rw [List.length_nil] at ho
  have hocc : occurrences ⟨(glue (s0 :: tl) ps).toArray⟩ y 0 (⟨(glue (s0 :: tl) ps).toArray⟩ : Str).length ((⟨(glue (s0 :: tl) ps).toArray⟩ : Str).length + 1) = cuts (tl.length + 1) ps 0 := by
    rw [occ_eq, occ_fold, ho]; simp
  unfold Txt.split
  cases ps with
  | nil =>
    rw [if_pos (by simp [glue, Str.length]; left; have := hl; simp [Str.length] at this; omega)]
    rfl
  | cons p ps =>
    have hlen : (⟨(glue (s0 :: tl) (p :: ps)).toArray⟩ : Str).length = p.length + (tl.length + 1) + (glue (s0 :: tl) ps).length := by
      simp [glue, Str.length]; omega
    rw [if_neg (by
      rw [hk, hlen, hl]
      have := kind_pos ⟨(glue (s0 :: tl) (p :: ps)).toArray⟩
      simp only [Bool.or_eq_true, decide_eq_true_eq]
      omega)]
    rw [hocc, if_neg (by simp [cuts])]
    rw [partsBetween_eq, hl]
    have h2 := parts_pieces (s0 := s0) (tl := tl) (p :: ps) [] ⟨(glue (s0 :: tl) (p :: ps)).toArray⟩ (by simp)
    simpa using h2
open Wk
theorem range_get (l : List Nat) (g : Nat → List Nat) : (List.range l.length).flatMap (fun i => g (l.toArray.getD i 0)) = l.flatMap g := by
  have e : (List.range l.length).map (fun i => l.toArray.getD i 0) = l := by
    apply List.ext_getElem?
    intro i
    rw [List.getElem?_map]
    by_cases h : i < l.length
    · rw [List.getElem?_range h]
      simp [Array.getD_eq_getD_getElem?, h]
    · rw [List.getElem?_eq_none (by simp; omega), List.getElem?_eq_none (by omega)]; rfl
  conv => rhs; rw [← e]
  rw [List.flatMap_map]
theorem crlf_list (l : List Nat) : (crlfV ⟨l.toArray⟩).cps.toList = l.flatMap (fun c => if c == 10 then [13, 10] else [c]) := by
  have := range_get l fun c => if c == 10 then [13, 10] else [c]
  have e : ("\r\n" : Str).cps.toList = [13, 10] := by decide +kernel
  unfold crlfV patStr outL nlAt
  rw [e]
  simpa [Str.length] using this
def dl : Bool → List Nat → List Nat
  | _, [] => []
  | b, c :: l => (if b && c == 46 then [46, 46] else [c]) ++ dl (c == 10) l
theorem dots_go (x : List Nat) : ∀ (l p : List Nat) (b : Bool), x = p ++ l → (b = (p.length == 0 || x.toArray.getD (p.length - 1) 0 == 10)) → (List.range' p.length l.length).flatMap (fun i => if dotAt x.toArray i then [46, 46] else [x.toArray.getD i 0]) = dl b l
  | [], p, b, hx, hb => rfl
  | c :: l, p, b, hx, hb => by
    rw [List.length_cons, List.range'_succ, List.flatMap_cons]
    have hc : x.toArray.getD p.length 0 = c := by rw [hx]; simp [Array.getD_eq_getD_getElem?]
    have ih := dots_go x l (p ++ [c]) (c == 10) (by rw [hx]; simp) (by
      have : (p ++ [c]).length - 1 = p.length := by simp
      rw [this, hc]; simp)
    rw [List.length_append, List.length_singleton] at ih
    rw [ih]
    show (if dotAt x.toArray p.length = true then [46, 46] else [x.toArray.getD p.length 0]) ++ dl (c == 10) l = (if (b && c == 46) = true then [46, 46] else [c]) ++ dl (c == 10) l
    unfold dotAt bol
    rw [hc, ← hb]
theorem dots_list (l : List Nat) : (dotsV ⟨l.toArray⟩).cps.toList = dl true l := by
  have := dots_go l l [] true (by simp) (by simp)
  rw [List.length_nil, ← List.range_eq_range'] at this
  rw [← this]
  have e : (".." : Str).cps.toList = [46, 46] := by decide +kernel
  unfold dotsV patStr outL
  rw [e]
  simp [Str.length]
theorem str_list (x : Str) : x = ⟨x.cps.toList.toArray⟩ := by cases x; simp
theorem crlf_glue : ∀ (ps : List (List Nat)), (∀ p ∈ ps, 10 ∉ p) → (glue [10] ps).flatMap (fun c => if c == 10 then [13, 10] else [c]) = glue [13, 10] ps
  | [], _ => rfl
  | p :: ps, h => by
    have ih := crlf_glue ps fun q hq => h q (List.mem_cons_of_mem _ hq)
    have e : ∀ q : List Nat, 10 ∉ q → q.flatMap (fun c => if c == 10 then [13, 10] else [c]) = q := fun q => by
      induction q with
      | nil => intro _; rfl
      | cons c q ih =>
        intro hq
        rw [List.flatMap_cons, ih fun h => hq (List.mem_cons_of_mem _ h), if_neg (by simp; exact fun e => hq (by simp [e]))]
        rfl
    unfold glue at ih ⊢
    rw [List.flatMap_cons, List.flatMap_cons, List.flatMap_append, List.flatMap_append, ih, e p (h p (List.mem_cons_self ..))]
    rfl
theorem dl_skip : ∀ (q : List Nat) (t : List Nat), 10 ∉ q → dl false (q ++ ([13, 10] ++ t)) = q ++ ([13, 10] ++ dl true t)
  | [], t, _ => rfl
  | c :: q, t, h => by
    have h1 : (c == 10) = false := by simp; exact fun e => h (by simp [e])
    show (if (false && c == 46) = true then [46, 46] else [c]) ++ dl (c == 10) (q ++ ([13, 10] ++ t)) = _
    rw [h1, dl_skip q t fun hh => h (List.mem_cons_of_mem _ hh)]
    rfl
theorem dl_glue : ∀ (ps : List (List Nat)), (∀ p ∈ ps, 10 ∉ p ∧ ∃ q, p = 46 :: q) → dl true (glue [13, 10] ps) = glue [13, 10] (ps.map (46 :: ·))
  | [], _ => rfl
  | p :: ps, h => by
    obtain ⟨h1, q, rfl⟩ := h p (List.mem_cons_self ..)
    have ih := dl_glue ps fun q hq => h q (List.mem_cons_of_mem _ hq)
    have e : glue [13, 10] ((46 :: q) :: ps) = 46 :: (q ++ ([13, 10] ++ glue [13, 10] ps)) := by simp [glue]
    rw [e]
    show [46, 46] ++ dl false _ = _
    rw [dl_skip q _ fun hh => h1 (List.mem_cons_of_mem _ hh), ih]
    simp [glue]
/-- what quotedata makes of rows that open with a dot -/
theorem quote_pieces (ps : List (List Nat)) (h : ∀ p ∈ ps, 10 ∉ p ∧ ∃ q, p = 46 :: q) : quoteV ⟨(glue [10] ps).toArray⟩ = ⟨(glue [13, 10] (ps.map (46 :: ·))).toArray⟩ := by
  have e1 : crlfV ⟨(glue [10] ps).toArray⟩ = ⟨(glue [13, 10] ps).toArray⟩ := by
    rw [str_list (crlfV _), crlf_list, crlf_glue ps fun p hp => (h p hp).1]
  unfold quoteV
  rw [e1, str_list (dotsV _), dots_list, dl_glue ps h]
theorem split_crlf (ps : List (List Nat)) (h : ∀ p ∈ ps, 13 ∉ p) : Txt.split ⟨(glue [13, 10] ps).toArray⟩ "\r\n" = ps.map (fun p => (⟨p.toArray⟩ : Str)) ++ [⟨#[]⟩] :=
  split_pieces (y := "\r\n") (s0 := 13) (tl := [10]) (by decide +kernel) (by decide +kernel) (by decide) ps h
theorem split_nl (ps : List (List Nat)) (h : ∀ p ∈ ps, 10 ∉ p) : Txt.split ⟨(glue [10] ps).toArray⟩ "\n" = ps.map (fun p => (⟨p.toArray⟩ : Str)) ++ [⟨#[]⟩] :=
  split_pieces (y := "\n") (s0 := 10) (tl := []) (by decide +kernel) (by decide +kernel) (by decide) ps h
open PySem.Builtin PySem.Builtin.Str
theorem lstrip_list (l : List Nat) (y : Str) : (Txt.lstripChars ⟨l.toArray⟩ y) = ⟨(l.dropWhile y.cps.contains).toArray⟩ := by
  unfold Txt.lstripChars
  rw [PyProof.Rows.stripBy_eq]
  apply Str.ext'
  apply Array.toList_inj.mp
  rw [StrLaws.strSub_toList]
  simp only [stripLo, stripHi, if_true, Bool.false_eq_true, if_false]
  have key : ∀ l : List Nat, l.drop (l.takeWhile y.cps.contains).length = l.dropWhile y.cps.contains := fun l => by
    induction l with
    | nil => rfl
    | cons c l ih =>
      rw [List.takeWhile_cons, List.dropWhile_cons]
      split
      · simpa using ih
      · rfl
  show (l.drop (l.takeWhile _).length).take _ = _
  rw [key]
  apply List.take_of_length_le
  show _ ≤ l.toArray.size - (l.takeWhile _).length
  rw [← key, List.length_drop]
  simp
theorem dot_has : (("." : Str).cps.contains : Nat → Bool) = fun c => c == 46 := by
  funext c
  have e : ("." : Str).cps = #[46] := by decide +kernel
  rw [e]
  simp [Array.contains, Bool.beq_comm]
theorem drop_dots : ∀ (d : Nat) (l : List Nat), (∀ c ∈ l.head?, c ≠ 46) → (List.replicate d 46 ++ l).dropWhile (fun c => c == 46) = l
  | 0, [], _ => rfl
  | 0, c :: l, h => by
    have := h c (by simp)
    simp [List.dropWhile_cons, this]
  | d + 1, l, h => by
    rw [List.replicate_succ, List.cons_append, List.dropWhile_cons]
    simpa using drop_dots d l h
theorem lstrip_dots (d : Nat) (l : List Nat) (h : ∀ c ∈ l.head?, c ≠ 46) : Txt.lstripChars ⟨(List.replicate d 46 ++ l).toArray⟩ "." = ⟨l.toArray⟩ := by
  rw [lstrip_list, dot_has, drop_dots d l h]
end PS
namespace L2
abbrev Row := Nat × Cl
def rowL (r : Row) : List Nat := List.replicate r.1 46 ++ encL r.2
def rowS (r : Row) : Str := ⟨(rowL r).toArray⟩
def mailS (R : List Row) : Str := ⟨(PS.glue [10] (R.map rowL)).toArray⟩
theorem enc_big : ∀ c : Cl, ∀ v ∈ encL c, 65 ≤ v := by decide +kernel
theorem enc_len : ∀ c : Cl, (encL c).length ≤ 3 := by decide +kernel
theorem rowL_no (r : Row) {v : Nat} (h1 : v ≠ 46) (h2 : v < 65) : v ∉ rowL r := fun h => by
  unfold rowL at h
  rcases List.mem_append.mp h with h | h
  · exact h1 (List.eq_of_mem_replicate h)
  · have := enc_big r.2 v h; omega
def up (r : Row) : Row := (r.1 + 1, r.2)
/-- what quotedata and split make of the mail -/
theorem quote_mail (R : List Row) (h : ∀ r ∈ R, 1 ≤ r.1) : Txt.split (Wk.quoteV (mailS R)) "\r\n" = R.map (fun r => rowS (up r)) ++ [⟨#[]⟩] := by
  unfold mailS
  rw [PS.quote_pieces _ fun p hp => ?_]
  · rw [PS.split_crlf _ fun p hp => ?_]
    · rw [List.map_map, List.map_map]; rfl
    · rw [List.map_map] at hp
      obtain ⟨r, hr, rfl⟩ := List.mem_map.mp hp
      exact rowL_no (up r) (by decide) (by decide)
  · obtain ⟨r, hr, rfl⟩ := List.mem_map.mp hp
    refine ⟨rowL_no r (by decide) (by decide), ?_⟩
    obtain ⟨d, hd⟩ : ∃ d, r.1 = d + 1 := ⟨r.1 - 1, by have := h r hr; omega⟩
    exact ⟨List.replicate d 46 ++ encL r.2, by unfold rowL; rw [hd]; rfl⟩
theorem split_mail (R : List Row) : Txt.split (mailS R) "\n" = R.map rowS ++ [⟨#[]⟩] := by
  unfold mailS
  rw [PS.split_nl _ fun p hp => ?_]
  · rw [List.map_map]; rfl
  · obtain ⟨r, hr, rfl⟩ := List.mem_map.mp hp
    exact rowL_no r (by decide) (by decide)
theorem strip_row (r : Row) : Txt.lstripChars (rowS r) "." = enc r.2 := by
  unfold rowS rowL
  rw [PS.lstrip_dots]
  · rfl
  · intro c hc h
    have := enc_big r.2 c (List.mem_of_mem_head? hc)
    omega
/-- the abstract turn -/
def addV (j : Fin 3) (o t : Cl) (R : List Row) : List Row :=
  if cg o j = 1 ∧ cg t j = 2 then match resv o t j with | some l => if l ∈ R.map (·.2) then R else R ++ [(1, l)] | none => R else R
def joinsV (j : Fin 3) (H : List Cl) (R : List Row) : List Row := H.foldl (fun R o => H.foldl (fun R t => addV j o t R) R) R
def keepV (C : List Cl) (c : Cl) : Bool := C.all fun x => !(x != c && within x c)
def cutV (R : List Row) : List Row := R.filter fun r => keepV (R.map (·.2)) r.2
def turnV (j : Fin 3) (R : List Row) : List Row := cutV (joinsV j (R.map (·.2)) (R.map up))
theorem addV_nodup {j : Fin 3} {o t : Cl} {R : List Row} (h : (R.map (·.2)).Nodup) : ((addV j o t R).map (·.2)).Nodup := by
  unfold addV
  split
  · split
    · split
      · exact h
      · rename_i l _ hl
        rw [List.map_append, List.nodup_append]
        refine ⟨h, by simp, fun a ha b hb e => ?_⟩
        simp at hb
        subst hb e
        exact hl ha
    · exact h
  · exact h
theorem cl_bound {l : List Cl} (h : l.Nodup) : l.length ≤ 27 := by
  have := List.Nodup.length_le_of_subset h (l₂ := List.finRange 27) fun x _ => List.mem_finRange x
  simpa using this
open Wk Hd2
def signs : List Nat := [173, 97, 98, 99, 65, 66, 67, 119808, 119809, 119810]
def rd (c : Nat) : List Nat := if c = 173 then [] else if 119808 ≤ c then [65 + (c - 119808)] else [c]
theorem has_173 (P : Params) : setHas (o200_0 P) (173 : Nat) = true := by kernel_rfl
theorem no_has (P : Params) : ∀ c ∈ signs, c ≠ 173 → setHas (o200_0 P) (c : Nat) = false := by
  intro c hc h
  simp only [signs, List.mem_cons, List.not_mem_nil, or_false] at hc
  rcases hc with rfl | rfl | rfl | rfl | rfl | rfl | rfl | rfl | rfl | rfl <;> first | exact absurd rfl h | kernel_rfl
theorem mapV_small : mapV 97 = ch 97 ∧ mapV 98 = ch 98 ∧ mapV 99 = ch 99 := ⟨by kernel_rfl, by kernel_rfl, by kernel_rfl⟩
theorem mapV_great : mapV 65 = ch 97 ∧ mapV 66 = ch 98 ∧ mapV 67 = ch 99 := ⟨by kernel_rfl, by kernel_rfl, by kernel_rfl⟩
theorem mapV_bold : mapV 119808 = ch 97 ∧ mapV 119809 = ch 98 ∧ mapV 119810 = ch 99 := ⟨by kernel_rfl, by kernel_rfl, by kernel_rfl⟩
theorem mapV_173 : mapV 173 = ch 173 := by kernel_rfl
theorem read_one (P : Params) : ∀ c ∈ signs, c ≠ 173 → readP P c = ⟨(rd c).toArray⟩ := by
  intro c hc h
  unfold readP
  rw [no_has P c hc h, if_neg (by simp)]
  simp only [signs, List.mem_cons, List.not_mem_nil, or_false] at hc
  rcases hc with rfl | rfl | rfl | rfl | rfl | rfl | rfl | rfl | rfl | rfl
  · exact absurd rfl h
  · rw [mapV_small.1]; kernel_rfl
  · rw [mapV_small.2.1]; kernel_rfl
  · rw [mapV_small.2.2]; kernel_rfl
  · rw [mapV_great.1]; kernel_rfl
  · rw [mapV_great.2.1]; kernel_rfl
  · rw [mapV_great.2.2]; kernel_rfl
  · rw [mapV_bold.1]; kernel_rfl
  · rw [mapV_bold.2.1]; kernel_rfl
  · rw [mapV_bold.2.2]; kernel_rfl
theorem sign_ok (P : Params) : ∀ c ∈ signs, SignOk P c := by
  intro c hc
  have h3 : (readP P c).length ≤ 1000 := by
    by_cases h : c = 173
    · subst h
      unfold readP
      rw [has_173, if_pos rfl]
      exact Nat.zero_le _
    · rw [read_one P c hc h]
      unfold rd Str.length
      split
      · simp
      · split <;> simp
  refine ⟨?_, ?_, h3⟩
  · simp only [signs, List.mem_cons, List.not_mem_nil, or_false] at hc
    rcases hc with rfl | rfl | rfl | rfl | rfl | rfl | rfl | rfl | rfl | rfl <;> kernel_rfl
  · simp only [signs, List.mem_cons, List.not_mem_nil, or_false] at hc
    rcases hc with rfl | rfl | rfl | rfl | rfl | rfl | rfl | rfl | rfl | rfl
    · rw [mapV_173]; kernel_rfl
    · rw [mapV_small.1]; kernel_rfl
    · rw [mapV_small.2.1]; kernel_rfl
    · rw [mapV_small.2.2]; kernel_rfl
    · rw [mapV_great.1]; kernel_rfl
    · rw [mapV_great.2.1]; kernel_rfl
    · rw [mapV_great.2.2]; kernel_rfl
    · rw [mapV_bold.1]; kernel_rfl
    · rw [mapV_bold.2.1]; kernel_rfl
    · rw [mapV_bold.2.2]; kernel_rfl
theorem readV_eq (P : Params) (l : List Nat) (h : ∀ c ∈ l, c ∈ signs) : readV P l = ⟨(l.flatMap rd).toArray⟩ := by
  have key : ∀ (l a : List Nat), (∀ c ∈ l, c ∈ signs) → l.foldl (fun a (c : Nat) => if setHas (o200_0 P) c then a else a ++ readP P c) (⟨a.toArray⟩ : Str) = ⟨(a ++ l.flatMap rd).toArray⟩ := by
    intro l
    induction l with
    | nil => intro a _; simp
    | cons c l ih =>
      intro a h
      have hc := h c (List.mem_cons_self ..)
      rw [List.foldl_cons, List.flatMap_cons]
      by_cases e : c = 173
      · subst e
        rw [has_173, if_pos rfl, ih a fun c hc => h c (List.mem_cons_of_mem _ hc)]
        rfl
      · rw [no_has P c hc e, if_neg (by simp), read_one P c hc e]
        have e2 : (⟨a.toArray⟩ : Str) ++ ⟨(rd c).toArray⟩ = ⟨(a ++ rd c).toArray⟩ := by
          apply Str.ext'
          show a.toArray ++ (rd c).toArray = _
          simp
        rw [e2, ih (a ++ rd c) fun c hc => h c (List.mem_cons_of_mem _ hc)]
        simp
  exact key l [] h
abbrev Fg := Fin 4
/-- the figure's sign: none, small, great, bold great -/
def spS (j : Fin 3) (v : Fg) : Str := match v with | 0 => "" | 1 => ch (97 + j.val) | 2 => ch (65 + j.val) | 3 => ch (119808 + j.val)
def spT (j : Fin 3) (v : Fg) : Str := match v with | 0 => "" | 1 => ch (97 + j.val) | 2 => ch (65 + j.val) | 3 => ch (65 + j.val)
def fg (v : Fg) : Fin 3 := match v with | 0 => 0 | 1 => 1 | 2 => 2 | 3 => 2
def clOf (a b c : Fg) : Cl := cs (cs (cs 0 0 (fg a)) 1 (fg b)) 2 (fg c)
theorem spelled_ok : ∀ a b c : Fg, (Txt.join "\u00ad" [spS 0 a, spS 1 b, spS 2 c]).cps.toList.flatMap rd = encL (clOf a b c) ∧ (∀ x ∈ (Txt.join "\u00ad" [spS 0 a, spS 1 b, spS 2 c]).cps.toList, x ∈ signs) ∧ (Txt.join "\u00ad" [spS 0 a, spS 1 b, spS 2 c]).length ≤ 100 ∧ Txt.join "" [spT 0 a, spT 1 b, spT 2 c] = enc (clOf a b c) := by decide +kernel
theorem join_ok : ∀ a b c : Fg, JoinOk "\u00ad" [spS 0 a, spS 1 b, spS 2 c] = true ∧ JoinOk "" [spT 0 a, spT 1 b, spT 2 c] = true := by decide +kernel
theorem read_spelled (P : Params) (a b c : Fg) : readV P (Txt.join "\u00ad" [spS 0 a, spS 1 b, spS 2 c]).cps.toList = enc (clOf a b c) := by
  rw [readV_eq P _ (spelled_ok a b c).2.1, (spelled_ok a b c).1]
  rfl
end L2
namespace Wk
variable {prog : Program} {w : World}
theorem lenS_snoc {n : Int} {t : Tok} : ∀ {vs : List Value} {ns : List Int}, IntsAre vs ns → IntsAre (vs ++ [.int n t]) (ns ++ [n])
  | _, _, .nil => .cons n t .nil
  | _, _, .cons n' t' h => .cons n' t' (lenS_snoc h)
theorem strs_get : ∀ {vs : List Value} {l : List Str} {i : Nat} {v : Value}, StrsAre vs l → vs[i]? = some v → ∃ x t, l[i]? = some x ∧ v = .str x t
  | _, _, 0, v, .cons x t r, h => ⟨x, t, rfl, (by simpa using h.symm)⟩
  | _, _, i + 1, v, .cons x t r, h => by
    obtain ⟨y, u, h1, h2⟩ := strs_get (i := i) r (by simpa using h)
    exact ⟨y, u, by simpa using h1, h2⟩
  | _, _, _, _, .nil, h => by simp at h
/-- out of a sorted run of pairs -/
theorem out_len {l : List Str} {vs : List Value} (hs : StrsAre vs l) {out : List Value} (h : KskOut false (l.map fun x => (x.length : Int)) vs out) : ∃ l' : List Str, l'.Perm l ∧ l'.Pairwise (fun x y => x.length ≤ y.length) ∧ StrsAre out l' := by
  obtain ⟨ps, hp, ho, hw⟩ := h
  let g : Value → Str := fun v => match v with | .str x _ => x | _ => Str.empty
  have hg : ∀ {vs : List Value} {l : List Str}, StrsAre vs l → vs.map g = l := fun h => by
    induction h with
    | nil => rfl
    | cons x t r ih => rw [List.map_cons, ih]
  have hrel : ∀ p ∈ (l.map fun x => (x.length : Int)).zip vs, (∃ x t, p.2 = .str x t) ∧ p.1 = ((g p.2).length : Int) := fun p hp => by
    obtain ⟨i, hi⟩ := List.getElem?_of_mem hp
    obtain ⟨h1, h2⟩ := List.getElem?_zip_eq_some.mp hi
    obtain ⟨x, t, h3, h4⟩ := strs_get hs h2
    rw [List.getElem?_map, h3] at h1
    have h1 : (x.length : Int) = p.1 := by simpa using h1
    exact ⟨⟨x, t, h4⟩, by rw [h4, ← h1]⟩
  have hlen : vs.length = l.length := by
    have := congrArg List.length (hg hs)
    simpa using this
  refine ⟨out.map g, ?_, ?_, ?_⟩
  · rw [ho, List.map_map]
    have h1 := hp.map fun p : Int × Value => g p.2
    have h2 : ((l.map fun x => (x.length : Int)).zip vs).map (fun p : Int × Value => g p.2) = l := by
      rw [show (fun p : Int × Value => g p.2) = g ∘ Prod.snd from rfl, ← List.map_map, List.map_snd_zip (by rw [List.length_map]; omega)]
      exact hg hs
    rw [h2] at h1
    exact h1
  · rw [ho, List.map_map, List.pairwise_map]
    refine hw.imp_of_mem fun {p q} hp' hq' hr => ?_
    have hr : p.1 ≤ q.1 := hr
    rw [(hrel p (hp.mem_iff.mp hp')).2, (hrel q (hp.mem_iff.mp hq')).2] at hr
    show (g p.2).length ≤ (g q.2).length
    omega
  · rw [ho]
    have hall : ∀ p ∈ ps, ∃ x t, p.2 = .str x t := fun p hp' => (hrel p (hp.mem_iff.mp hp')).1
    clear ho hw hp
    induction ps with
    | nil => exact .nil
    | cons p ps ih =>
      obtain ⟨x, t, e⟩ := hall p (List.mem_cons_self ..)
      rw [List.map_cons, List.map_cons, e]
      exact .cons x t (ih fun q hq => hall q (List.mem_cons_of_mem _ hq))
abbrev keyLen : List (Str × Value) := [(Str.ofString "key", .builtin "len")]
section
variable {A : Around} {s : Shared}
theorem rest_len {hp : Heap} {a kS : Addr} {e1 : Nat} {vs : List Value} {l : List Str} {PP : PySem.Fin → Shared → Prop} {E : Value → Shared → Prop} (hk : Keep hp s.heap) (hna : hp.get? a = none) (hnk : hp.get? kS = none) (ha : s.heap.get? a = some (seqObj "list" #[] e1)) (hkS : s.heap.get? kS = some (seqObj "list" #[] 0)) (hne : kS ≠ a)
    (hs : StrsAre vs l) (hvl : vs.length = l.length) (h2 : 2 ≤ l.length) (h64 : l.length < 64) (hshort : ∀ x ∈ l, x.length < 2 ^ 62)
    (hP : ∀ h' tk (out : Array Value) c l', Keep hp h' → h'.get? a = some (seqObj "list" out c) → l'.Perm l → l'.Pairwise (fun x y => x.length ≤ y.length) → StrsAre out.toList l' → PP (.done (.ret .none)) { s with heap := h', toks := tk }) :
    wpAny (model prog w) A (ksk_rest a (.builtin "len") false vs.toArray e1 (.ref kS)) PP E s := by
  have keepU : ∀ (h : Heap) (b : Addr) (f : Obj → Obj), Keep hp h → hp.get? b = none → Keep hp (h.update b f) := fun h b f k hb c o e => by
    rw [Heap.get?_update_ne _ _ _ _ (fun q => by rw [q, hb] at e; cases e)]
    exact k c o e
  unfold ksk_rest
  refine wpAny_bind (wpAny_rule ?_)
  rw [List.forIn_toArray]
  refine wpAny_bind (ksk_fold (fun i s' => ∃ h' tk kA e, s' = { s with heap := h', toks := tk } ∧ Keep hp h' ∧ h'.get? a = some (seqObj "list" #[] e1) ∧ h'.get? kS = some (seqObj "list" kA e) ∧ IntsAre kA.toList ((l.map fun x => (x.length : Int)).take i)) vs 0 s
    ⟨s.heap, s.toks, #[], 0, rfl, hk, ha, hkS, .nil⟩ ?_ ?_)
  · rintro j x s' hx ⟨h', tk, kA, e, rfl, hk', ha', hkS', hI⟩
    simp only [Nat.zero_add] at hI ⊢
    obtain ⟨y, t, hy, rfl⟩ := strs_get hs hx
    have hz : kA.size ≤ l.length := by
      have := hI.length
      rw [Array.length_toList, List.length_take, List.length_map] at this
      omega
    refine wpAny_bind (wpAny_attempt (P.len_str (by have := hshort y (List.mem_of_getElem? hy); omega) ?_))
    dsimp only
    have hj : j < l.length := (List.getElem?_eq_some_iff.mp hy).1
    refine wpAny_bind (listUpdate_at hkS' rfl ?_ (by rw [sizeLine_eq]; omega) (Nat.le_trans (Nat.le_of_eq (Array.size_push ..)) (by rw [sizeLine_eq]; omega)))
    refine wpAny_pure ⟨rfl, _, _, kA.push (.int y.length _), _, rfl, keepU _ _ _ hk' hnk, (Heap.get?_update_ne _ _ _ _ hne.symm).trans ha', get?_update_seq hkS' _, ?_⟩
    have ek : (l.map fun x => (x.length : Int)).take (j + 1) = (l.map fun x => (x.length : Int)).take j ++ [(y.length : Int)] := by
      rw [List.take_add_one, List.getElem?_map, hy]; simp
    rw [ek, Array.toList_push]
    exact lenS_snoc hI
  · rintro s' ⟨h', tk, kA, e, rfl, hk', ha', hkS', hI⟩
    have hI : IntsAre kA.toList (l.map fun x => (x.length : Int)) := by
      rw [List.take_of_length_le (by rw [List.length_map]; omega)] at hI
      exact hI
    have hks : kA.size = vs.length := by
      have := hI.length
      rw [Array.length_toList, List.length_map] at this
      omega
    have hzs : (kA.zip vs.toArray).size = vs.length := by rw [Array.size_zip, hks, List.size_toArray, Nat.min_self]
    refine wpAny_bind (listItems_at hkS' rfl ?_)
    unfold ksk_end
    dsimp only
    rw [if_neg (by simp)]
    rw [if_neg (by rw [List.size_toArray]; omega), if_neg (by rw [List.size_toArray]; omega)]
    rw [ksk_kind hI (by rw [hks]; omega)]
    refine wpAny_bind (wpAny_pure ?_)
    refine wpAny_bind (wpAny_mono (wpS_sortRuns (a₀ := kA.zip vs.toArray) (st := SortSt.mk' oneType' (kA.zip vs.toArray) #[] 7 none)
      (Q := fun _ st' => (arrOf st').Perm (kA.zip vs.toArray) ∧ failedOf st' = none ∧ SortedTo (arrOf st') (kA.zip vs.toArray).size)
      (ksk_intKeys hI) ⟨Array.Perm.refl _, rfl, rfl, rfl⟩ (by rw [hzs]; omega) (by rw [hzs]; omega) fun st' a1 a2 a3 => ⟨a1, a2, a3⟩) ?_ fun _ _ e => e)
    rintro ⟨⟨⟩, st'⟩ s' ⟨rfl, hp1, hf, hs1⟩
    dsimp only
    have hst : (arrOf st').size = vs.length := by rw [hp1.size_eq, hzs]
    unfold ksk_tail
    dsimp only
    refine wpAny_bind (listUpdate_at hkS' rfl ?_ (by rw [sizeLine_eq]; omega) (Nat.zero_le _))
    refine wpAny_bind (wpAny_letGo ?_)
    have ha2 : (h'.update kS (Obj.mapSeq fun _ => (#[] : Array Value))).get? a = some (seqObj "list" #[] e1) := (Heap.get?_update_ne _ _ _ _ hne.symm).trans ha'
    refine wpAny_bind (seqEpoch_at ha2 rfl ?_)
    refine wpAny_bind (listUpdate_at ha2 rfl ?_ (Nat.zero_le _) (by
      show Array.size (if false = true then _ else _) ≤ _
      rw [if_neg (by simp), Array.size_map, hst, sizeLine_eq]; omega))
    rw [hf]
    simp only [bne_self_eq_false, Bool.false_eq_true, if_false]
    obtain ⟨l', q1, q2, q3⟩ := out_len hs (ksk_out (b := false) hI hp1 (by rw [hp1.size_eq]; exact hs1))
    refine wpAny_pure (hP _ _ _ _ l' (keepU _ _ _ (keepU _ _ _ hk' hnk) hna) (get?_update_seq ha2 _) q1 q2 ?_)
    simpa using q3
theorem strs_len : ∀ {vs : List Value} {l : List Str}, StrsAre vs l → vs.length = l.length
  | _, _, .nil => rfl
  | _, _, .cons x t r => congrArg (· + 1) (strs_len r)
theorem sorted_len {L : Addr} {vs : List Value} {l : List Str} {Q E : Value → Shared → Prop} (hl : PlainL s.heap L vs.toArray) (hs : StrsAre vs l) (h2 : 2 ≤ l.length) (h64 : l.length < 64) (hshort : ∀ x ∈ l, x.length < 2 ^ 62)
    (hQ : ∀ D h' tk (out : Array Value) l', Keep s.heap h' → s.heap.get? D = none → PlainL h' D out → l'.Perm l → l'.Pairwise (fun x y => x.length ≤ y.length) → StrsAre out.toList l' → Q (.ref D) { s with heap := h', toks := tk }) :
    wpAny (model prog w) A (PySem.call (.builtin "sorted") [.ref L] keyLen) Q E s := by
  have hvl := strs_len hs
  refine call_function_entry_kw kind_sorted plain_sorted entry_sorted (ksk_s1 _ _) ?_
  unfold Builtin.«sorted»
  refine wpAny_bind (m := checkCount "sorted" 1 1 _) (wpAny_pure ?_)
  refine wpAny_bind (collect_list hl.isList ?_ (by rw [sizeLine_eq]; omega))
  refine wpAny_bind (wpAny_newList ?_ (by rw [sizeLine_eq]; omega))
  have hsz : ((s.heap.push (seqObj "list" #[] 0)).update s.heap.objs.size (Obj.mapSeq (· ++ vs.toArray))).objs.size = s.heap.objs.size + 1 := by
    rw [Heap.size_update, Heap.size_push]
  have k1 : Keep s.heap ((s.heap.push (seqObj "list" #[] 0)).update s.heap.objs.size (Obj.mapSeq (· ++ vs.toArray))) := fun b o e => by
    have hlt := Heap.lt_size e
    rw [Heap.get?_update_ne _ _ _ _ (Nat.ne_of_lt hlt)]
    exact Heap.get?_push_of_some _ e
  generalize hh1 : (s.heap.push (seqObj "list" #[] 0)).update s.heap.objs.size (Obj.mapSeq (· ++ vs.toArray)) = h1 at *
  show wpAny _ _ _ _ _ { s with heap := h1.push (seqObj "list" vs.toArray 0) }
  have hoL : (h1.push (seqObj "list" vs.toArray 0)).get? h1.objs.size = some (seqObj "list" vs.toArray 0) := Heap.get?_push_size _ rfl
  have k2 : Keep s.heap (h1.push (seqObj "list" vs.toArray 0)) := fun b o e => Heap.get?_push_of_some _ (k1 b o e)
  have hna : s.heap.get? h1.objs.size = none := fresh_size (Ext.refl s) (by rw [hsz]; exact Nat.le_succ _)
  refine wpAny_bind (wpAny_holding (wpAny_call_entry_kw slot_list_sort ⟨_, hoL, rfl⟩ entry_list_sort ?_ (ksk_l1 _ _)))
  show wpAny (model prog w) A.in1.in1 (Builtin.«list.sort» ⟨[.ref h1.objs.size], [(Str.ofString "key", .builtin "len")]⟩) _ _ _
  rw [ksk_t4]
  unfold ksk_tree
  refine wpAny_bind (listItems_at hoL rfl ?_)
  refine wpAny_bind (listUpdate_at hoL rfl ?_ (by rw [List.size_toArray, sizeLine_eq]; omega) (Nat.zero_le _))
  obtain ⟨e1, ho1⟩ : ∃ e1, ((h1.push (seqObj "list" vs.toArray 0)).update h1.objs.size (Obj.mapSeq fun _ => (#[] : Array Value))).get? h1.objs.size = some (seqObj "list" #[] e1) := ⟨_, get?_update_seq hoL fun _ => #[]⟩
  have k3 : Keep s.heap ((h1.push (seqObj "list" vs.toArray 0)).update h1.objs.size (Obj.mapSeq fun _ => (#[] : Array Value))) := fun b o e => by
    rw [Heap.get?_update_ne _ _ _ _ (fun q => by rw [q, hna] at e; cases e)]
    exact k2 b o e
  generalize hh3 : (h1.push (seqObj "list" vs.toArray 0)).update h1.objs.size (Obj.mapSeq fun _ => (#[] : Array Value)) = h3 at *
  refine wpAny_bind (seqEpoch_at ho1 rfl ?_)
  refine wpAny_bind (wpAny_newTuple ?_ (by show vs.length ≤ _; rw [sizeLine_eq]; omega))
  refine wpAny_bind (wpAny_newList ?_ (Nat.zero_le _))
  refine wpAny_holding ?_
  have hlt3 := Heap.lt_size ho1
  have z4 : (h3.push (seqObj "tuple" vs.toArray 0)).objs.size = h3.objs.size + 1 := Heap.size_push ..
  have hnk : s.heap.get? (h3.push (seqObj "tuple" vs.toArray 0)).objs.size = none := by
    cases q : s.heap.get? (h3.push (seqObj "tuple" vs.toArray 0)).objs.size with
    | none => rfl
    | some o =>
      have := Heap.lt_size (k3 _ _ q)
      rw [z4] at this
      exact absurd this (Nat.not_lt.mpr (Nat.le_succ _))
  refine rest_len (s := { s with heap := (h3.push (seqObj "tuple" vs.toArray 0)).push (seqObj "list" #[] 0) }) (hp := s.heap) (kS := (h3.push (seqObj "tuple" vs.toArray 0)).objs.size) (fun b o e => Heap.get?_push_of_some _ (Heap.get?_push_of_some _ (k3 b o e))) hna hnk (Heap.get?_push_of_some _ (Heap.get?_push_of_some _ ho1)) (Heap.get?_push_size _ rfl) (by rw [z4]; exact Nat.ne_of_gt (Nat.lt_succ_of_lt hlt3)) hs hvl h2 h64 hshort fun h' tk out c l' q1 q2 q3 q4 q5 => ⟨_, rfl, ?_⟩
  exact wpAny_pure ⟨_, rfl, hQ _ _ _ _ l' q1 hna ⟨_, c, q2, rfl, rfl, rfl⟩ q3 q4 q5⟩
end
/-- sorted by length: some list -/
def SortedLen (l l' : List Str) : Prop := l'.Perm l ∧ l'.Pairwise fun x y => x.length ≤ y.length
theorem ltCps_total : ∀ a b : List Nat, PySem.Spec.ltCps a b = false → PySem.Spec.ltCps b a = false → a = b := fun a b h1 h2 => by
  rw [ltCps_eq] at h1 h2
  exact List.le_antisymm (by simpa using h2) (by simpa using h1)
variable {prog : Program} {w : World}
section
variable {F : Fm} {ρ : Rho} {k : Nat} {P P₁ : Fl → Rho → Prop}
/-- what is known at the end may be forgotten -/
theorem ex_post {t : Sem Flow} (h : ExS prog w F ρ k t P₁) (hP : ∀ fl ρ', P₁ fl ρ' → ∃ ρ'', Weaker ρ' ρ'' ∧ P fl ρ'') : ExS prog w F ρ k t P := fun b r l ok A s rm I =>
  wpAny_mono (h b r l ok A s rm I) (fun f s' ⟨fl, ρ', a, I', c⟩ => by
    obtain ⟨ρ'', hw, hp⟩ := hP fl ρ' a
    exact ⟨fl, ρ'', hp, I'.weak hw, c⟩) fun _ _ e => e
theorem ex_assign_comp_eq {y : Str} {np spos : PySem.Pos} {elt : PySem.Expr} {target iter : PySem.Expr} {ifs : List PySem.Expr} {gs : List Comprehension} {scope : Scope} {pos : PySem.Pos} {out : List IV} {own : Bool} (cl : List (Str × Addr)) (sp : List (Str × CSlot)) (l : List IV) (f : IV → List IV) (i : Nat) {acc : Option Addr}
    (hy : F.slots[i]? = some (y, acc)) (ho : Own F y acc) (hsw : swapsWith (.ListComp elt (⟨target, iter, ifs, 0⟩ :: gs) scope pos) (some (.Name y np)) spos.line F.env = pure true) (e : l.flatMap f = out) (J : CompJ prog w F ρ k elt ⟨target, iter, ifs, 0⟩ gs scope cl sp l f) :
    ExS prog w F ρ k (exec (.Assign [.Name y np] (.ListComp elt (⟨target, iter, ifs, 0⟩ :: gs) scope pos) spos) F.env) (Only (ρ.set i (.list out, own))) := by
  subst e
  exact ex_assign_comp i hy ho hsw J
theorem ex_assign_compW_eq {y : Str} {np spos : PySem.Pos} {elt : PySem.Expr} {target iter : PySem.Expr} {ifs : List PySem.Expr} {gs : List Comprehension} {scope : Scope} {pos : PySem.Pos} {out : List IV} {own : Bool} (ρ' : Rho) (cl : List (Str × Addr)) (sp : List (Str × CSlot)) (l : List IV) (f : IV → List IV) (i : Nat) {acc : Option Addr}
    (hy : F.slots[i]? = some (y, acc)) (ho : Own F y acc) (hsw : swapsWith (.ListComp elt (⟨target, iter, ifs, 0⟩ :: gs) scope pos) (some (.Name y np)) spos.line F.env = pure true) (e : l.flatMap f = out) (hw : Weaker ρ ρ') (J : CompJ prog w F ρ' k elt ⟨target, iter, ifs, 0⟩ gs scope cl sp l f) :
    ExS prog w F ρ k (exec (.Assign [.Name y np] (.ListComp elt (⟨target, iter, ifs, 0⟩ :: gs) scope pos) spos) F.env) (Only (ρ.set i (.list out, own))) := by
  subst e
  exact ex_assign_compW hw i hy ho hsw J
theorem EvB.weak {ρ' : Rho} {e : PySem.Expr} {b : Bool} (h : EvB prog w F ρ' k e b) (hw : Weaker ρ ρ') : EvB prog w F ρ k e b := fun A s rm I => h A s rm (I.weak hw)
theorem ex_assign_cast {x : Str} {np pos : PySem.Pos} {e : PySem.Expr} {p q : PV} {fr own : Bool} (i : Nat) {acc : Option Addr} (hs : F.slots[i]? = some (x, acc)) (ho : Own F x acc) (h : EvJ prog w F ρ k e p fr) (hf : fr = true) (hq : p = q)
    (hsw : swapsWith e (some (.Name x np)) pos.line F.env = pure false) : ExS prog w F ρ k (exec (.Assign [.Name x np] e pos) F.env) (Only (ρ.set i (q, own))) := hq ▸ ex_assign i hs ho h hf hsw
/-- sorted(e, key=len) -/
theorem ite_sorted_len {tgt : PySem.Expr} {np lp kp pos : PySem.Pos} {e : PySem.Expr} {l : List Str} (hs : starEach [e] F.env = plainArgs [e] F.env) (g : Glob prog w F "sorted" (.builtin "sorted")) (gl : Glob prog w F "len" (.builtin "len")) (h : EvJ prog w F ρ k e (.list (strsIV l)) true) (h2 : 2 ≤ l.length) (h64 : l.length < 64) (hshort : ∀ x ∈ l, x.length < 2 ^ 62) :
    ItE prog w F ρ k false tgt (.Call (.Name "sorted" np) [e] [⟨some "key", .Name "len" lp, kp⟩] pos) (fun l' => ∃ l₁, SortedLen l l₁ ∧ l' = strsIV l₁) := ite_fresh fun A s rm I => by
  refine wpAny_Call_Name_kw (g A s _ _ _ I.keep ?_)
  rw [hs, backTo_plain]
  refine callWith_builtin_kwB (plainArgs_any _ _) rfl (evalArgs_kwB rfl (Calls.spliced_cons (wpAny_mono (h A s rm I) (fun v s₁ ⟨x1, fp, ⟨L, vs, e1, hl, hv, e2⟩, fr⟩ => Calls.spliced_nil ?_) fun _ _ e => e)))
  subst e1 e2
  refine kws_cons (gl A s₁ _ _ _ (I.ext x1).keep (kws_nil ?_))
  refine sorted_len hl (ivs_strs hv) h2 h64 hshort fun D h' tk out l' q1 q2 q3 q4 q5 q6 => ⟨strsIV l', ⟨l', ⟨q4, q5⟩, rfl⟩, x1.trans ⟨⟨rfl, rfl⟩, q1⟩, [D], ⟨D, out.toList, rfl, by rw [Array.toArray_toList]; exact q3, strs_ivs q6, rfl⟩, fun _ a ha => ?_⟩
  rw [List.mem_singleton.mp ha]
  exact x1.none q2
theorem sorted_pair : ∀ {l : List Str} {p : Str}, risingS p l = true → (p :: l).Pairwise fun a b => PySem.Spec.ltCps b.cps.toList a.cps.toList = false
  | [], p, _ => List.pairwise_singleton _ _
  | x :: r, p, h => by
    have h1 : (!PySem.Spec.ltCps x.cps.toList p.cps.toList && risingS x r) = true := h
    rw [Bool.and_eq_true] at h1
    have ih := sorted_pair h1.2
    have hp : PySem.Spec.ltCps x.cps.toList p.cps.toList = false := by simpa using h1.1
    refine List.pairwise_cons.mpr ⟨fun b hb => ?_, ih⟩
    rcases List.mem_cons.mp hb with rfl | hb
    · exact hp
    · have h2 := (List.pairwise_cons.mp ih).1 b hb
      rw [ltCps_eq] at hp h2 ⊢
      have a1 : p.cps.toList ≤ x.cps.toList := List.not_lt.mp (by simpa using hp)
      have a2 : x.cps.toList ≤ b.cps.toList := List.not_lt.mp (by simpa using h2)
      have := List.le_trans a1 a2
      simpa using List.not_lt.mpr this
theorem sorted_pairwise {l : List Str} (h : sortedS l = true) : l.Pairwise fun a b => PySem.Spec.ltCps b.cps.toList a.cps.toList = false := by
  cases l with
  | nil => exact .nil
  | cons x r => exact sorted_pair h
theorem sorted_unique {l l' : List Str} (h : sortedS l = true) (h' : sortedS l' = true) (p : l.Perm l') : l = l' :=
  List.Perm.eq_of_pairwise (fun a b _ _ h1 h2 => by
    have := ltCps_total _ _ h2 h1
    cases a; cases b
    congr 1
    exact Array.toList_inj.mp this) (sorted_pairwise h) (sorted_pairwise h') p
/-- sorted(e) == sorted(e') -/
theorem ev_sorted_eq {np np' pos pos' cp : PySem.Pos} {e e' : PySem.Expr} {l l' : List Str} {f1 f2 : Bool} (hs : starEach [e] F.env = plainArgs [e] F.env) (hs' : starEach [e'] F.env = plainArgs [e'] F.env) (g : Glob prog w F "sorted" (.builtin "sorted")) (hm : behindInMarks .Eq (.Call (.Name "sorted" np') [e'] [] pos') = false)
    (h : EvJ prog w F ρ k e (.list (strsIV l)) f1) (h' : EvJ prog w F ρ k e' (.list (strsIV l')) f2) (p : l.Perm l') (h64 : l.length < 64) : EvJ prog w F ρ k (.Compare (.Call (.Name "sorted" np) [e] [] pos) [.Eq] [.Call (.Name "sorted" np') [e'] [] pos'] cp) (.bool true) true := fun A s rm I => by
  have one : ∀ {np pos : PySem.Pos} {e : PySem.Expr} {l : List Str} {f : Bool} (hs : starEach [e] F.env = plainArgs [e] F.env) (h : EvJ prog w F ρ k e (.list (strsIV l)) f) (h64 : l.length < 64), ∀ s, Inv prog w F ρ s → wpAny (model prog w) A (eval (.Call (.Name "sorted" np) [e] [] pos) F.env) (fun v s' => ∃ l₁, l₁.Perm l ∧ sortedS l₁ = true ∧ Gives' prog w (.list (strsIV l₁)) true s v s') No s := fun hs h h64 s I => by
    refine bi_call hs g (fun a e => nomatch e) I.keep ?_
    refine Calls.spliced_cons (wpAny_mono (h A s rm I) (fun v s₁ ⟨x1, fp, r, _⟩ => Calls.spliced_nil ?_) fun _ _ e => e)
    exact wpAny_mono (c_sorted (base := F.base) (k := k) h64 A s₁ [v] rm (I.ext x1).gens (I.ext x1).keep ⟨⟨fp, r⟩, trivial⟩) (fun v s₂ ⟨l₁, a, b, c⟩ => ⟨l₁, a, b, give_trans x1 c⟩) fun _ _ e => e
  refine wpAny_Compare1 (hm := hm) (wpAny_mono (one hs h h64 s I) (fun a s₁ ⟨l₁, p1, q1, x1, fp1, r1, _⟩ => ?_) fun _ _ e => e)
  refine wpAny_mono (one hs' h' (by rw [← p.length_eq]; exact h64) s₁ (I.ext x1)) (fun c s₂ ⟨l₂, p2, q2, x2, fp2, r2, _⟩ => ?_) fun _ _ e => e
  have e0 : l₁ = l₂ := sorted_unique q1 q2 (p1.trans (p.trans p2.symm))
  subst e0
  have := op_eq_strs (prog := prog) (w := w) (k := k) (l := l₁) (l' := l₁) A s₂ a c fp1 fp2 rm ((I.ext x1).ext x2).gens (r1.keep x2.2) r2
  rw [show (l₁ == l₁) = true by simp] at this
  exact wpAny_mono this (fun v s₃ h => give_trans (x1.trans x2) h) fun _ _ e => e
end
/-- slices -/
theorem range_take {α : Type} (l : List α) : ∀ n, (List.range n).filterMap (fun i => l[i]?) = l.take n
  | 0 => rfl
  | n + 1 => by
    rw [List.range_succ, List.filterMap_append, range_take l n, List.take_add_one]
    cases h : l[n]? <;> simp [h]
theorem slice_to {α : Type} (l : List α) (m : Nat) : (sliceRange ((0 : Nat) : Int) (m : Int) 1).filterMap (l[·]?) = l.take m := by
  rw [sliceRange_one]
  simp only [Nat.sub_zero, Nat.zero_add]
  rw [show ((List.range m).map fun x => x) = List.range m from List.map_id _]
  exact range_take l m
theorem slice_full {α : Type} (l : List α) : ((sliceRange (sliceBounds none none none l.length).1 (sliceBounds none none none l.length).2.1 (sliceBounds none none none l.length).2.2).filterMap (l[·]?)) = l := by
  have e : sliceBounds none none none l.length = (((0 : Nat) : Int), (l.length : Int), 1) := by simp [sliceBounds]
  rw [e]
  exact (slice_to l l.length).trans (List.take_of_length_le (Nat.le_refl _))
theorem slice_init {α : Type} (l : List α) (x : α) : ((sliceRange (sliceBounds none (some (-1)) none (l ++ [x]).length).1 (sliceBounds none (some (-1)) none (l ++ [x]).length).2.1 (sliceBounds none (some (-1)) none (l ++ [x]).length).2.2).filterMap ((l ++ [x])[·]?)) = l := by
  have e : sliceBounds none (some (-1)) none (l ++ [x]).length = (((0 : Nat) : Int), (l.length : Int), 1) := by
    simp only [sliceBounds, List.length_append, List.length_singleton]
    simp
    omega
  rw [e]
  refine (slice_to (l ++ [x]) l.length).trans ?_
  simp
end Wk
namespace L2
open Wk Hd2
def spL : List (Str × CSlot) := [("script", .loc), ("given", .own), ("k", .own), ("own", .loc), ("x", .loc), ("figures", .own), ("spelled", .loc), ("clause", .own), ("order", .own), ("mail", .loc), ("letter", .loc), ("rows", .loc), ("row", .loc), ("held", .loc), ("clauses", .loc), ("one", .loc), ("other", .loc), ("left", .loc), ("worlds", .loc), ("models", .loc), ("shortest", .loc), ("due", .loc), ("against", .loc), ("near", .own)]
abbrev LF (w : World) (L : Addr) (base : Addr → Option Obj) (os : OsState) : Fm := fnFm (fdOf (o283_0 w.params)) 283 L spL base os
abbrev E0 : PV × Bool := (.any, false)
abbrev rh (script given k own x figures spelled clause order mail letter rows row held clauses one other left worlds models shortest due against near : PV × Bool := E0) : Rho :=
  [script, given, k, own, x, figures, spelled, clause, order, mail, letter, rows, row, held, clauses, one, other, left, worlds, models, shortest, due, against, near]
section
variable {w : World} {L : Addr} {base : Addr → Option Obj} {os : OsState}
theorem lawFr (t : Top w base) : Fr2 w (LF w L base os) := fr2_fn t rfl rfl (by kernel_rfl)
def cellN (x : Str) (n : Nat) : Prop := True
theorem ownG : Own (LF w L base os) "given" (some (L + 1)) := fun c e => by cases e; exact ⟨by kernel_rfl, "given", by simp [spL], by rfl⟩
theorem ownK : Own (LF w L base os) "k" (some (L + 1 + 1)) := fun c e => by cases e; exact ⟨by kernel_rfl, "k", by simp [spL], by rfl⟩
theorem ownF : Own (LF w L base os) "figures" (some (L + 1 + 1 + 1)) := fun c e => by cases e; exact ⟨by kernel_rfl, "figures", by simp [spL], by rfl⟩
theorem ownC : Own (LF w L base os) "clause" (some (L + 1 + 1 + 1 + 1)) := fun c e => by cases e; exact ⟨by kernel_rfl, "clause", by simp [spL], by rfl⟩
theorem ownO : Own (LF w L base os) "order" (some (L + 1 + 1 + 1 + 1 + 1)) := fun c e => by cases e; exact ⟨by kernel_rfl, "order", by simp [spL], by rfl⟩
theorem ownN : Own (LF w L base os) "near" (some (L + 1 + 1 + 1 + 1 + 1 + 1)) := fun c e => by cases e; exact ⟨by kernel_rfl, "near", by simp [spL], by rfl⟩
end
theorem filter_ints (ns : List Int) (ix : List Nat) : ix.filterMap ((intsIV ns)[·]?) = intsIV (ix.filterMap (ns[·]?)) := by
  induction ix with
  | nil => rfl
  | cons i ix ih =>
    rw [List.filterMap_cons, List.filterMap_cons, ih]
    rw [List.getElem?_map]
    cases ns[i]? <;> rfl
def modF (m : Int) (x : IV) : List IV := [match x with | .at (.int i) => .at (.int (i.fmod m)) | _ => x]
theorem modF_eq (m : Int) (l : List Int) : (intsIV l).flatMap (modF m) = intsIV (l.map fun y => y.fmod m) := by
  induction l with
  | nil => rfl
  | cons c l ih => simp only [List.map_cons, List.flatMap_cons, ih]; rfl
theorem fig_of (x : Int) : ∃ v : Fg, x.fmod 4 = ((v.val : Nat) : Int) := by
  have h1 := Int.fmod_nonneg_of_pos x (b := 4) (by decide)
  have h2 := Int.fmod_lt_of_pos x (b := 4) (by decide)
  exact ⟨⟨(x.fmod 4).toNat, by omega⟩, by simp; omega⟩
def spF (a b c : Fg) (s : Fin 3 → Fg → Str) (x : IV) : List IV := match x with | .at (.int i) => [.at (.str (if i = 0 then s 0 a else if i = 1 then s 1 b else s 2 c))] | _ => []
open Wk Hd2
theorem spF_eq (a b c : Fg) (s : Fin 3 → Fg → Str) : (Wk.intsFrom 0 3).flatMap (spF a b c s) = strsIV [s 0 a, s 1 b, s 2 c] := rfl
theorem pickS (j : Fin 3) (v : Fg) : [IV.at (.str ""), .at (.str (ch (97 + j.val))), .at (.str (ch (65 + j.val))), .at (.str (ch (119808 + j.val)))][v.val]? = some (.at (.str (spS j v))) := by
  match v with | 0 => rfl | 1 => rfl | 2 => rfl | 3 => rfl
theorem pickT (j : Fin 3) (v : Fg) : [IV.at (.str ""), .at (.str (ch (97 + j.val))), .at (.str (ch (65 + j.val))), .at (.str (ch (65 + j.val)))][v.val]? = some (.at (.str (spT j v))) := by
  match v with | 0 => rfl | 1 => rfl | 2 => rfl | 3 => rfl
theorem mem3 {x : IV} (h : x ∈ Wk.intsFrom 0 3) : ∃ j : Fin 3, x = .at (.int ((j.val : Nat) : Int)) := by
  have h : x = .at (.int 0) ∨ x = .at (.int 1) ∨ x = .at (.int 2) := by simpa [Wk.intsFrom, List.range_succ] using h
  rcases h with rfl | rfl | rfl
  · exact ⟨0, rfl⟩
  · exact ⟨1, rfl⟩
  · exact ⟨2, rfl⟩
def pk (a b c : Fg) (j : Fin 3) : Fg := match j with | 0 => a | 1 => b | 2 => c
theorem figs_at (a b c : Fg) (j : Fin 3) : (intsIV [(a.val : Int), (b.val : Int), (c.val : Int)])[j.val]? = some (.at (.int (((pk a b c j).val : Nat) : Int))) := by
  match j with | 0 => rfl | 1 => rfl | 2 => rfl
theorem cps_at (s : Str) (b : Nat) (h : s.cps = #[b, b + 1, b + 2]) (j : Fin 3) : s.cps[j.val]? = some (b + j.val) := by
  rw [h]
  match j with | 0 => rfl | 1 => rfl | 2 => rfl
theorem spF_at (a b c : Fg) (s : Fin 3 → Fg → Str) (j : Fin 3) : spF a b c s (.at (.int ((j.val : Nat) : Int))) = [.at (.str (s j (pk a b c j)))] := by
  match j with | 0 => rfl | 1 => rfl | 2 => rfl
theorem enc_ne (x : Cl) (y : Str) (h : y = enc x) : (enc x != y) = false := by subst h; simp
theorem notin_enc (gs : List Cl) (c : Cl) : (!(gs.map enc).contains (enc c)) = !gs.contains c := by
  congr 1
  induction gs with
  | nil => rfl
  | cons g gs ih => rw [List.map_cons, List.contains_cons, List.contains_cons, ih, enc_inj]
theorem slice_len (l : List Int) (a b c : Option Int) : ((sliceRange (sliceBounds a b c l.length).1 (sliceBounds a b c l.length).2.1 (sliceBounds a b c l.length).2.2).filterMap (l[·]?)).length ≤ l.length := by
  have h := slicePick_size_le (l.map fun i => Value.int i 0).toArray a b c
  unfold slicePick at h
  rw [List.size_toArray, List.size_toArray, List.length_map] at h
  generalize sliceRange (sliceBounds a b c l.length).1 (sliceBounds a b c l.length).2.1 (sliceBounds a b c l.length).2.2 = ix at h ⊢
  have e : (ix.filterMap ((l.map fun i => Value.int i 0).toArray[·]?)) = (ix.filterMap (l[·]?)).map fun i => Value.int i 0 := by
    clear h
    induction ix with
    | nil => rfl
    | cons i ix ih =>
      rw [List.filterMap_cons, List.filterMap_cons, ih, List.getElem?_toArray, List.getElem?_map]
      cases l[i]? <;> rfl
  rw [e, List.length_map] at h
  exact h
theorem small_two (n : Nat) (h : n ≤ 3) : n < 2 ^ 62 := by omega
set_option maxHeartbeats 8000000 in
theorem seg_given {w : World} {L : Addr} {base : Addr → Option Obj} {os : OsState} {k : Nat} (t : Top w base) (ok : FmOk (LF w L base os)) {ns : List Int} (hns : ns.length ≤ 63) :
    ExS pw w (LF w L base os) (rh (script := (.list (intsIV ns), false)) (given := (.list [], true))) (k + 3) (exec ((fBody (bd 21)).getD 1 (.Pass ⟨0, 0, 0, 0⟩)) (LF w L base os).env) (fun fl ρ' => fl = .next ∧ ∃ gs : List Cl, gs.Nodup ∧ gs.length ≤ 4 ∧ ρ' = rh (script := (.list (intsIV ns), false)) (given := (.list (strsIV (gs.map enc)), true))) := by
  have f := lawFr (L := L) (os := os) t
  have gE := bi (x := "enumerate") f (by kernel_rfl) (by kernel_rfl) (v := .type "enumerate") (by kernel_rfl)
  have gS := bi (x := "sum") f (by kernel_rfl) (by kernel_rfl) (v := .builtin "sum") (by kernel_rfl)
  have gR := bi (x := "range") f (by kernel_rfl) (by kernel_rfl) (v := .type "range") (by kernel_rfl)
  have gL := gl (x := "_law_read") f (by kernel_rfl) (v := .ref 263) (by kernel_rfl)
  have fnv : ∀ (b : Addr) (o : Obj) (fd : FuncData), (KK w.params).lookup b = some o → o.data = .func fd → ∀ a, Value.ref b = .ref a → ∃ o fd, base a = some o ∧ o.data = .func fd := fun b o fd h1 h2 a e => by cases e; exact ⟨o, fd, t.1 b o h1, h2⟩
  have sz : sizeLine = 16777216 := sizeLine_eq
  refine ex_forM [((0 : Nat), (13 : Int)), (1, 36), (2, 19), (3, 13)] (fun p => .tup [.int ((p.1 : Nat) : Int), .int p.2]) (fun done ρ' => ∃ gs : List Cl, gs.Nodup ∧ gs.length ≤ done.length ∧ ρ' = rh (script := (.list (intsIV ns), false)) (given := (.list (strsIV (gs.map enc)), true))) (itj_enum (l := [.int 13, .int 36, .int 19, .int 13]) (by rfl) gE (src_fresh (ev_list (by rfl) (.cons (ev_int (i := 13)) (.cons (ev_int (i := 36)) (.cons (ev_int (i := 19)) (.cons (ev_int (i := 13)) .nil)))) (by decide)) rfl)) ⟨[], List.nodup_nil, Nat.le_refl _, rfl⟩ ?_ ?_
  · rintro ρ' ⟨gs, h1, h2, rfl⟩
    exact ⟨rfl, gs, h1, h2, rfl⟩
  · rintro done ⟨kk, own⟩ rest ρ' hxs ⟨gs, h1, h2, rfl⟩
    have hdl : done.length ≤ 3 := by
      have := congrArg List.length hxs
      simp at this; omega
    refine ⟨_, asg_tup (.cons 2 rfl ownK (.cons 3 (acc := none) rfl own_none .nil)), ?_⟩
    -- x
    refine ex_then (ex_assign_iv (fr := true) (own := false) 4 (acc := none) rfl own_none (ev_bin (ev_local 3 ok rfl rfl (by intro q; cases q)) (ev_call (fr := true) (by rfl) gS (.cons (ev_comp_eq [] [("y", .loc)] _ (modF (10 ^ (6 : Int).toNat)) ok (modF_eq _ _) ⟨by rfl, ⟨by kernel_rfl, trivial⟩, by kernel_rfl, by decide, by decide +kernel, by intro _; rfl, rfl, itj_list (src_fresh (ev_cast (ev_slice_list (ev_local 0 ok rfl rfl (by intro q; cases q)) (.some (ev_cell 2 ok rfl rfl (by intro q; cases q))) (.some (ev_int (i := 20))) (.some (ev_int (i := 4))) (by simp) (by rw [List.length_map]; omega)) (congrArg PV.list (filter_ints ns _))) rfl), ?_, ?_⟩) .nil) c_sum (fun a e => nomatch e)) op_add_int) (by rfl)) ?_
    · intro C D base2 hbase2 okc z hz
      obtain ⟨y, hy, rfl⟩ := List.mem_map.mp hz
      exact ⟨[(.int y, false)], true, asg_name 0 (acc := none) rfl own_none, .inl ⟨rfl, rfl⟩, ⟨.at (.int (y.fmod (10 ^ (6 : Int).toNat))), true, rfl, ev_bin (ev_local 0 okc rfl rfl (by intro q; cases q)) (ev_bin (fr := true) (ev_int (i := 10)) (ev_int (i := 6)) (op_pow_int (by decide) (by decide) (by decide))) (op_mod_int (by decide))⟩, .any .nil⟩
    · rw [modF_eq, List.length_map, List.length_map, sz]
      refine Nat.le_trans ?_ (Nat.le_trans (slice_len ns (some ((kk : Nat) : Int)) (some 20) (some 4)) (by omega))
      rw [List.length_map]
      exact Nat.le_refl _
    generalize own + (List.map (fun (y : Int) => y.fmod (10 ^ (6 : Int).toNat)) _).sum = x
    obtain ⟨a, ha⟩ := fig_of x
    obtain ⟨b, hb⟩ := fig_of (x.fdiv 4)
    obtain ⟨c, hc⟩ := fig_of (x.fdiv 16)
    -- figures
    refine ex_then (ex_assign_cast (own := false) 5 rfl ownF (ev_list (l := [.at (.int (x.fmod 4)), .at (.int ((x.fdiv 4).fmod 4)), .at (.int ((x.fdiv 16).fmod 4))]) (by rfl) (.cons (ev_bin (fr := true) (ev_local 4 ok rfl rfl (by intro q; cases q)) (ev_int (i := 4)) (op_mod_int (y := 4) (by decide))) (.cons (ev_bin (fr := true) (ev_bin (fr := true) (ev_local 4 ok rfl rfl (by intro q; cases q)) (ev_int (i := 4)) (op_floordiv_int (y := 4) (by decide) (by decide))) (ev_int (i := 4)) (op_mod_int (y := 4) (by decide))) (.cons (ev_bin (fr := true) (ev_bin (fr := true) (ev_local 4 ok rfl rfl (by intro q; cases q)) (ev_int (i := 16)) (op_floordiv_int (y := 16) (by decide) (by decide))) (ev_int (i := 4)) (op_mod_int (y := 4) (by decide))) .nil))) (by show (3 : Nat) ≤ sizeLine; rw [sz]; decide)) rfl (q := .list (intsIV [((a.val : Nat) : Int), ((b.val : Nat) : Int), ((c.val : Nat) : Int)])) (by rw [ha, hb, hc]; rfl) (by rfl)) ?_
    -- spelled
    refine ex_then (ex_assign_comp_eq [("figures", L + 1 + 1 + 1)] [("j", .loc), ("figures", .cap 5)] (Wk.intsFrom 0 3) (spF a b c spS) 6 (acc := none) rfl own_none (by rfl) (own := false) (spF_eq a b c spS) ⟨by rfl, ⟨by kernel_rfl, ⟨by kernel_rfl, by kernel_rfl, _, rfl, rfl⟩, trivial⟩, by kernel_rfl, by decide, by decide +kernel, by intro _; rfl, rfl, itj_range (by rfl) gR (ev_int (i := ((3 : Nat) : Int))) (by decide), ?_, ?_⟩) ?_
    · intro C D base2 hbase2 okc z hz
      obtain ⟨j, rfl⟩ := mem3 hz
      refine ⟨[(.int ((j.val : Nat) : Int), false), (.list (intsIV [((a.val : Nat) : Int), ((b.val : Nat) : Int), ((c.val : Nat) : Int)]), false)], true, asg_name 0 (acc := none) rfl own_none, .inl ⟨rfl, rfl⟩, ⟨.at (.str (spS j (pk a b c j))), true, spF_at a b c spS j, ?_⟩, .any (.same .nil)⟩
      refine ev_sub_list (n := (pk a b c j).val) (ev_list (by rfl) (.cons ev_str (.cons (ev_sub_str (fr := true) ev_str (ev_local 0 okc rfl rfl (by intro q; cases q)) (cps_at _ 97 (by decide +kernel) j) (small_two _ (by omega))) (.cons (ev_sub_str (fr := true) ev_str (ev_local 0 okc rfl rfl (by intro q; cases q)) (cps_at _ 65 (by decide +kernel) j) (small_two _ (by omega))) (.cons (ev_sub_str (fr := true) ev_str (ev_local 0 okc rfl rfl (by intro q; cases q)) (cps_at _ 119808 (by decide +kernel) j) (small_two _ (by omega))) .nil)))) (by show (4 : Nat) ≤ sizeLine; rw [sz]; decide)) (ev_sub_list (fr := true) (ev_cell 1 okc rfl rfl (by intro q; cases q)) (ev_local 0 okc rfl rfl (by intro q; cases q)) (figs_at a b c j) (small_two _ (by omega))) (pickS j _) (small_two _ (by omega))
    · rw [spF_eq]; show (3 : Nat) ≤ sizeLine; rw [sz]; decide
    have hsp := spelled_ok a b c
    -- clause
    refine ex_then (ex_assign_iv (fr := true) (own := false) 7 rfl ownC (ev_cast (ev_call (fr := true) (by rfl) gL (.cons (ev_meth (fr := true) (by rfl) (by rfl) (by rfl) (by decide) ev_str (.cons (ev_local 6 ok rfl rfl (by intro q; cases q)) .nil) .str m_join (c_join (l := [spS 0 a, spS 1 b, spS 2 c]) ?_)) .nil) (law_read (k := k + 1) t (x := Txt.join "\u00ad" [spS 0 a, spS 1 b, spS 2 c]) (fun c hc => sign_ok _ c (hsp.2.1 c hc)) hsp.2.2.1) (fnv _ (o263_0 w.params) _ (by kernel_rfl) rfl)) (q := .str (enc (clOf a b c))) (congrArg PV.str (read_spelled w.params a b c))) (by rfl)) ?_
    · exact (join_ok a b c).1
    -- the check
    refine ex_then (ρ₁ := rh (script := (.list (intsIV ns), false)) (given := (.list (strsIV (gs.map enc)), true)) (k := (.int ((kk : Nat) : Int), false)) (own := (.int own, false)) (x := (.int x, false)) (figures := (.list (intsIV [((a.val : Nat) : Int), ((b.val : Nat) : Int), ((c.val : Nat) : Int)]), false)) (spelled := (.list (strsIV [spS 0 a, spS 1 b, spS 2 c]), false)) (clause := (.str (enc (clOf a b c)), false))) (ex_if (b := false) (eb_cmp (fr := true) (by rfl) (ev_cell 7 ok rfl rfl (by intro q; cases q)) (ev_meth (fr := true) (by rfl) (by rfl) (by rfl) (by decide) ev_str (.cons (ev_comp_eq [("figures", L + 1 + 1 + 1)] [("j", .loc), ("figures", .cap 5)] (Wk.intsFrom 0 3) (spF a b c spT) ok (spF_eq a b c spT) ⟨by rfl, ⟨by kernel_rfl, ⟨by kernel_rfl, by kernel_rfl, _, rfl, rfl⟩, trivial⟩, by kernel_rfl, by decide, by decide +kernel, by intro _; rfl, rfl, itj_range (by rfl) gR (ev_int (i := ((3 : Nat) : Int))) (by decide), ?_, ?_⟩) .nil) .str m_join (c_join (l := [spT 0 a, spT 1 b, spT 2 c]) (join_ok a b c).2)) ?_) (ex_nil ⟨rfl, rfl⟩)) ?_
    · intro C D base2 hbase2 okc z hz
      obtain ⟨j, rfl⟩ := mem3 hz
      refine ⟨[(.int ((j.val : Nat) : Int), false), (.list (intsIV [((a.val : Nat) : Int), ((b.val : Nat) : Int), ((c.val : Nat) : Int)]), false)], true, asg_name 0 (acc := none) rfl own_none, .inl ⟨rfl, rfl⟩, ⟨.at (.str (spT j (pk a b c j))), true, spF_at a b c spT j, ?_⟩, .any (.same .nil)⟩
      refine ev_sub_list (n := (pk a b c j).val) (ev_list (by rfl) (.cons ev_str (.cons (ev_sub_str (fr := true) ev_str (ev_local 0 okc rfl rfl (by intro q; cases q)) (cps_at _ 97 (by decide +kernel) j) (small_two _ (by omega))) (.cons (ev_sub_str (fr := true) ev_str (ev_local 0 okc rfl rfl (by intro q; cases q)) (cps_at _ 65 (by decide +kernel) j) (small_two _ (by omega))) (.cons (ev_sub_str (fr := true) ev_str (ev_local 0 okc rfl rfl (by intro q; cases q)) (cps_at _ 65 (by decide +kernel) j) (small_two _ (by omega))) .nil)))) (by show (4 : Nat) ≤ sizeLine; rw [sz]; decide)) (ev_sub_list (fr := true) (ev_cell 1 okc rfl rfl (by intro q; cases q)) (ev_local 0 okc rfl rfl (by intro q; cases q)) (figs_at a b c j) (small_two _ (by omega))) (pickT j _) (small_two _ (by omega))
    · rw [spF_eq]; show (3 : Nat) ≤ sizeLine; rw [sz]; decide
    · have h9 := op_ne_str (prog := pw) (w := w) (k := k + 3) (x := enc (clOf a b c)) (y := Txt.join "" [spT 0 a, spT 1 b, spT 2 c])
      rw [enc_ne _ _ hsp.2.2.2] at h9
      exact h9
    have h8 := op_notin_strs (prog := pw) (w := w) (k := k + 3) (x := enc (clOf a b c)) (l := gs.map enc)
    rw [notin_enc] at h8
    refine ex_one (ex_post (P₁ := fun fl ρ' => fl = .next ∧ ∃ gs' : List Cl, gs'.Nodup ∧ gs'.length ≤ done.length + 1 ∧ ρ' = rh (script := (.list (intsIV ns), false)) (given := (.list (strsIV (gs'.map enc)), true)) (k := (.int ((kk : Nat) : Int), false)) (own := (.int own, false)) (x := (.int x, false)) (figures := (.list (intsIV [((a.val : Nat) : Int), ((b.val : Nat) : Int), ((c.val : Nat) : Int)]), false)) (spelled := (.list (strsIV [spS 0 a, spS 1 b, spS 2 c]), false)) (clause := (.str (enc (clOf a b c)), false))) (ex_if (b := !gs.contains (clOf a b c)) (eb_cmp (by rfl) (ev_cell 7 ok rfl rfl (by intro q; cases q)) (ev_cell 1 ok rfl rfl (by intro q; cases q)) h8) ?_) ?_)
    · cases hq : gs.contains (clOf a b c) with
      | true => exact ex_nil ⟨rfl, gs, h1, by omega, rfl⟩
      | false =>
        refine ex_one (ex_mono (ex_append 1 rfl rfl (ev_cell 7 ok rfl rfl (by intro q; cases q)) (by rw [List.length_map, List.length_map, sz]; omega) (by rfl) (by rfl) (by rfl) (by rfl)) fun fl ρ' ⟨e1, e2⟩ => ⟨e1, gs ++ [clOf a b c], ?_, by simp; omega, ?_⟩)
        · refine List.nodup_append.mpr ⟨h1, by simp, fun x hx y hy e => ?_⟩
          simp at hy
          subst hy e
          have : gs.contains (clOf a b c) = true := by simpa using hx
          rw [hq] at this; cases this
        · rw [e2]
          show rh _ _ _ _ _ _ _ _ _ _ _ _ _ _ _ _ _ _ _ _ _ _ _ _ = _
          simp
    · rintro fl ρ' ⟨rfl, gs', g1, g2, rfl⟩
      refine ⟨_, ?_, gs', g1, by simpa using g2, rfl⟩
      exact .same (.same (.any (.any (.any (.any (.any (.any (Weaker.refl _))))))))
open Wk Hd2
def perms : List (List (Fin 3)) := [[0, 1, 2], [0, 2, 1], [1, 0, 2], [1, 2, 0], [2, 0, 1], [2, 1, 0]]
def orderS (os : List (Fin 3)) : Str := ⟨(os.map fun j => 97 + j.val).toArray⟩
theorem order_at (i : Fin 6) : ∃ os, os ∈ perms ∧ [IV.at (.str "abc"), .at (.str "acb"), .at (.str "bac"), .at (.str "bca"), .at (.str "cab"), .at (.str "cba")][i.val]? = some (.at (.str (orderS os))) := by
  match i with
  | 0 => exact ⟨[0, 1, 2], by decide, by kernel_rfl⟩
  | 1 => exact ⟨[0, 2, 1], by decide, by kernel_rfl⟩
  | 2 => exact ⟨[1, 0, 2], by decide, by kernel_rfl⟩
  | 3 => exact ⟨[1, 2, 0], by decide, by kernel_rfl⟩
  | 4 => exact ⟨[2, 0, 1], by decide, by kernel_rfl⟩
  | 5 => exact ⟨[2, 1, 0], by decide, by kernel_rfl⟩
theorem six_of (x : Int) : ∃ v : Fin 6, x.fmod 6 = ((v.val : Nat) : Int) := by
  have h1 := Int.fmod_nonneg_of_pos x (b := 6) (by decide)
  have h2 := Int.fmod_lt_of_pos x (b := 6) (by decide)
  exact ⟨⟨(x.fmod 6).toNat, by omega⟩, by simp; omega⟩
def st (i : Nat) : Stmt := (fBody (bd 21)).getD i (.Pass ⟨0, 0, 0, 0⟩)
def dotF (x : IV) : List IV := [match x with | .at (.str y) => .at (.str ("." ++ y ++ "\n")) | _ => x]
theorem dotF_eq (l : List Str) : (strsIV l).flatMap dotF = strsIV (l.map fun y => "." ++ y ++ "\n") := by
  induction l with
  | nil => rfl
  | cons c l ih => simp only [List.map_cons, List.flatMap_cons, ih]; rfl
theorem cat_rows (R : List Row) (l : List Str) (h : l = R.map fun r => (⟨(rowL r ++ [10]).toArray⟩ : Str)) : cat l = PS.glue [10] (R.map rowL) := by
  subst h
  unfold cat PS.glue
  rw [List.flatMap_map, List.flatMap_map]
theorem one_row (c : Cl) : ("." ++ enc c ++ "\n" : Str) = ⟨(rowL (1, c) ++ [10]).toArray⟩ := by
  apply Str.ext'
  apply Array.toList_inj.mp
  rw [Str.cps_append, Str.cps_append, Array.toList_append, Array.toList_append]
  have e1 : ("." : Str).cps.toList = [46] := by decide +kernel
  have e2 : ("\n" : Str).cps.toList = [10] := by decide +kernel
  rw [e1, e2]
  rfl
theorem mail0 (gs : List Cl) : Txt.join "" ((gs.map enc).map fun y => "." ++ y ++ "\n") = mailS (gs.map fun c => (1, c)) := by
  unfold mailS
  apply str_eta
  show (Txt.join Str.empty _).cps.toList = _
  rw [join_cat]
  apply cat_rows
  rw [List.map_map, List.map_map]
  exact List.map_congr_left fun c _ => one_row c
theorem enc_length (c : Cl) : (enc c).length ≤ 3 := by
  have := enc_len c
  simpa [enc, Str.length] using this
section
variable {w : World} {L : Addr} {base : Addr → Option Obj} {os : OsState} {k : Nat}
set_option maxHeartbeats 8000000 in
theorem seg_order (t : Top w base) (ok : FmOk (LF w L base os)) {ns : List Int} (hns : ns.length ≤ 63) {G : PV × Bool} :
    ExS pw w (LF w L base os) (rh (script := (.list (intsIV ns), false)) (given := G)) (k + 3) (exec (st 2) (LF w L base os).env) (fun fl ρ' => fl = .next ∧ ∃ o, o ∈ perms ∧ ρ' = rh (script := (.list (intsIV ns), false)) (given := G) (order := (.str (orderS o), false))) := by
  have f := lawFr (L := L) (os := os) t
  have gS := bi (x := "sum") f (by kernel_rfl) (by kernel_rfl) (v := .builtin "sum") (by kernel_rfl)
  have sz : sizeLine = 16777216 := sizeLine_eq
  generalize hsum : (List.map (fun (y : Int) => y.fmod (10 ^ (6 : Int).toNat)) ((sliceRange (sliceBounds none (some 20) none (intsIV ns).length).1 (sliceBounds none (some 20) none (intsIV ns).length).2.1 (sliceBounds none (some 20) none (intsIV ns).length).2.2).filterMap (ns[·]?))).sum = x
  obtain ⟨v, hv⟩ := six_of x
  obtain ⟨o, ho, hat⟩ := order_at v
  refine ex_mono (ex_assign_iv (fr := true) (own := false) 8 rfl ownO (ev_sub_list (n := v.val) (x := .at (.str (orderS o))) (ev_list (l := [IV.at (.str "abc"), .at (.str "acb"), .at (.str "bac"), .at (.str "bca"), .at (.str "cab"), .at (.str "cba")]) (by rfl) (.cons ev_str (.cons ev_str (.cons ev_str (.cons ev_str (.cons ev_str (.cons ev_str .nil)))))) (by show (6 : Nat) ≤ sizeLine; rw [sz]; decide)) (ev_cast (fr := true) (q := .int ((v.val : Nat) : Int)) (ev_bin (fr := true) (ev_call (fr := true) (by rfl) gS (.cons (ev_comp_eq [] [("y", .loc)] _ (modF (10 ^ (6 : Int).toNat)) ok (modF_eq _ _) ⟨by rfl, ⟨by kernel_rfl, trivial⟩, by kernel_rfl, by decide, by decide +kernel, by intro _; rfl, rfl, itj_list (src_fresh (ev_cast (ev_slice_list (ev_local 0 ok rfl rfl (by intro q; cases q)) .none (.some (ev_int (i := 20))) .none (by simp) (by rw [List.length_map]; omega)) (congrArg PV.list (filter_ints ns _))) rfl), ?_, ?_⟩) .nil) c_sum (fun a e => nomatch e)) (ev_int (i := 6)) (op_mod_int (y := 6) (by decide))) ?_) hat (by have := v.isLt; omega)) (by rfl)) fun fl ρ' ⟨e1, e2⟩ => ⟨e1, o, ho, e2⟩
  · intro C D base2 hbase2 okc z hz
    obtain ⟨y, hy, rfl⟩ := List.mem_map.mp hz
    exact ⟨[(.int y, false)], true, asg_name 0 (acc := none) rfl own_none, .inl ⟨rfl, rfl⟩, ⟨.at (.int (y.fmod (10 ^ (6 : Int).toNat))), true, rfl, ev_bin (ev_local 0 okc rfl rfl (by intro q; cases q)) (ev_bin (fr := true) (ev_int (i := 10)) (ev_int (i := 6)) (op_pow_int (by decide) (by decide) (by decide))) (op_mod_int (by decide))⟩, .any .nil⟩
  · rw [modF_eq, List.length_map, List.length_map, sz]
    refine Nat.le_trans ?_ (Nat.le_trans (slice_len ns none (some 20) none) (by omega))
    rw [List.length_map]
    exact Nat.le_refl _
  · rw [← hv, ← hsum]
set_option maxHeartbeats 8000000 in
theorem seg_mail (t : Top w base) (ok : FmOk (LF w L base os)) {S : PV × Bool} {gs : List Cl} (hg : gs.length ≤ 27) {o : List (Fin 3)} :
    ExS pw w (LF w L base os) (rh (script := S) (given := (.list (strsIV (gs.map enc)), false)) (order := (.str (orderS o), false))) (k + 3) (exec (st 3) (LF w L base os).env) (Only (rh (script := S) (given := (.list (strsIV (gs.map enc)), false)) (order := (.str (orderS o), false)) (mail := (.str (mailS (gs.map fun c => (1, c))), false)))) := by
  have sz : sizeLine = 16777216 := sizeLine_eq
  refine ex_assign_iv (fr := true) (own := false) 9 (acc := none) rfl own_none (ev_cast (q := .str (mailS (gs.map fun c => (1, c)))) (ev_meth (fr := true) (by rfl) (by rfl) (by rfl) (by decide) ev_str (.cons (ev_comp_eq [] [("clause", .loc)] (strsIV (gs.map enc)) dotF ok (dotF_eq _) ⟨by rfl, ⟨by kernel_rfl, trivial⟩, by kernel_rfl, by decide, by decide +kernel, by intro _; rfl, rfl, itj_list (src_slot 1 rfl rfl), ?_, ?_⟩) .nil) .str m_join (c_join (join_small ?_ ?_))) (congrArg PV.str (mail0 gs))) (by rfl)
  · intro C D base2 hbase2 okc z hz
    obtain ⟨y, hy, rfl⟩ := List.mem_map.mp hz
    obtain ⟨c, hc, rfl⟩ := List.mem_map.mp hy
    have h3 := enc_length c
    refine ⟨[(.str (enc c), false)], true, asg_name 0 (acc := none) rfl own_none, .inl ⟨rfl, rfl⟩, ⟨.at (.str ("." ++ enc c ++ "\n")), true, rfl, ev_bin (ev_bin (fr := true) ev_str (ev_local 0 okc rfl rfl (by intro q; cases q)) (op_add_str ?_)) (ev_str) (op_add_str ?_)⟩, .any .nil⟩
    · rw [sz]; have : ("." : Str).length = 1 := by decide +kernel
      omega
    · rw [sz, str_len_app]
      have h1 : ("." : Str).length = 1 := by decide +kernel
      have h2 : ("\n" : Str).length = 1 := by decide +kernel
      omega
  · rw [dotF_eq, List.length_map, List.length_map, List.length_map, sz]; omega
  · intro y hy
    obtain ⟨z, hz, rfl⟩ := List.mem_map.mp hy
    obtain ⟨c, hc, rfl⟩ := List.mem_map.mp hz
    have h3 := enc_length c
    rw [str_len_app, str_len_app]
    have h1 : ("." : Str).length = 1 := by decide +kernel
    have h2 : ("\n" : Str).length = 1 := by decide +kernel
    omega
  · rw [List.length_map, List.length_map]; omega
end
open Wk Hd2
theorem has_low : ∀ (j : Fin 3) (o : Cl), Txt.contains (enc o) (low j) = (cg o j == 1) := by decide +kernel
theorem has_big : ∀ (j : Fin 3) (o : Cl), Txt.contains (enc o) (big j) = (cg o j == 2) := by decide +kernel
theorem up_low : ∀ j : Fin 3, Txt.upper (low j) = big j := by decide +kernel
theorem up_fit : ∀ j : Fin 3, Builtin.Str.tooLong (Txt.upper (low j)).length = false := by decide +kernel
theorem low_low : ∀ j : Fin 3, Txt.lower (low j) = low j := by decide +kernel
theorem low_fit : ∀ j : Fin 3, LowOk (low j) := by unfold LowOk; decide +kernel
def letters : List Nat := [97, 98, 99, 65, 66, 67]
theorem enc_letters : ∀ c : Cl, ∀ v ∈ encL c, v ∈ letters := by decide +kernel
theorem strOk_ch {c : Nat} (h : okC c) : StrOk (ch c) := ⟨fun i hi => by
  have : i = 0 := by have : i < 1 := hi; omega
  subst this
  exact h, by show (1 : Nat) ≤ _; decide⟩
theorem okC_letters {c : Nat} (h : c ∈ letters) : okC c := by
  simp only [letters, List.mem_cons, List.not_mem_nil, or_false] at h
  rcases h with rfl | rfl | rfl | rfl | rfl | rfl <;> exact ⟨by decide, by decide⟩
theorem lower_letters : ∀ c ∈ letters, LowOk (ch c) ∧ (Txt.lower (ch c) = ch 97 ∨ Txt.lower (ch c) = ch 98 ∨ Txt.lower (ch c) = ch 99) := by unfold LowOk; decide +kernel
theorem chOk_letters {c : Nat} (h : c ∈ letters) : ChOk c := by
  obtain ⟨h1, h2⟩ := lower_letters c h
  refine ⟨h1, strOk_ch (okC_letters h), ?_⟩
  rcases h2 with e | e | e <;> rw [e] <;> exact strOk_ch ⟨by decide, by decide⟩
theorem strOk_low (j : Fin 3) : StrOk (Txt.lower (low j)) := by
  rw [low_low]
  exact strOk_ch ⟨by omega, by omega⟩
theorem enc_app_letters (o t : Cl) : ∀ c ∈ (enc o ++ enc t).cps.toList, ChOk c := by
  intro c hc
  rw [Str.cps_append, Array.toList_append] at hc
  rcases List.mem_append.mp hc with hc | hc
  · exact chOk_letters (enc_letters o c (by simpa [enc] using hc))
  · exact chOk_letters (enc_letters t c (by simpa [enc] using hc))
theorem row_one (c : Cl) : ("." ++ enc c : Str) = rowS (1, c) := by
  apply Str.ext'
  apply Array.toList_inj.mp
  rw [Str.cps_append, Array.toList_append]
  have e1 : ("." : Str).cps.toList = [46] := by decide +kernel
  rw [e1]
  rfl
/-- rows as they are kept -/
structure RowsOk (R : List Row) (n : Nat) : Prop where
  nd : (R.map (·.2)).Nodup
  ge : ∀ r ∈ R, 1 ≤ r.1
  le : ∀ r ∈ R, r.1 ≤ n
theorem RowsOk.len {R : List Row} {n : Nat} (h : RowsOk R n) : R.length ≤ 27 := by
  have := cl_bound h.nd
  simpa using this
theorem RowsOk.up {R : List Row} {n : Nat} (h : RowsOk R n) : RowsOk (R.map up) (n + 1) := by
  refine ⟨?_, fun r hr => ?_, fun r hr => ?_⟩
  · rw [List.map_map]; exact h.nd
  · obtain ⟨q, hq, rfl⟩ := List.mem_map.mp hr; exact Nat.le_add_left 1 q.1
  · obtain ⟨q, hq, rfl⟩ := List.mem_map.mp hr; exact Nat.succ_le_succ (h.le q hq)
theorem RowsOk.add {R : List Row} {n : Nat} (h : RowsOk R n) (hn : 1 ≤ n) (j : Fin 3) (o t : Cl) : RowsOk (addV j o t R) n := by
  refine ⟨addV_nodup h.nd, fun r hr => ?_, fun r hr => ?_⟩ <;>
  · unfold addV at hr
    split at hr
    · split at hr
      · split at hr
        · first | exact h.ge r hr | exact h.le r hr
        · rcases List.mem_append.mp hr with hr | hr
          · first | exact h.ge r hr | exact h.le r hr
          · simp at hr; subst hr; first | exact Nat.le_refl _ | exact hn
      · first | exact h.ge r hr | exact h.le r hr
    · first | exact h.ge r hr | exact h.le r hr
theorem RowsOk.adds {n : Nat} (hn : 1 ≤ n) (j : Fin 3) (o : Cl) : ∀ (H : List Cl) {R : List Row}, RowsOk R n → RowsOk (H.foldl (fun R t => addV j o t R) R) n
  | [], R, h => h
  | t :: H, R, h => RowsOk.adds hn j o H (h.add hn j o t)
theorem RowsOk.joins {n : Nat} (hn : 1 ≤ n) (j : Fin 3) (H : List Cl) : ∀ (H' : List Cl) {R : List Row}, RowsOk R n → RowsOk (H'.foldl (fun R o => H.foldl (fun R t => addV j o t R) R) R) n
  | [], R, h => h
  | o :: H', R, h => RowsOk.joins hn j H H' (RowsOk.adds hn j o H h)
theorem RowsOk.cut {R : List Row} {n : Nat} (h : RowsOk R n) : RowsOk (cutV R) n :=
  ⟨h.nd.sublist (List.Sublist.map _ (List.filter_sublist)), fun r hr => h.ge r (List.mem_filter.mp hr).1, fun r hr => h.le r (List.mem_filter.mp hr).1⟩
theorem RowsOk.turn {R : List Row} {n : Nat} (h : RowsOk R n) (j : Fin 3) : RowsOk (turnV j R) (n + 1) := (RowsOk.joins (by omega) j _ _ h.up).cut
theorem rowL_len {R : List Row} {n : Nat} (h : RowsOk R n) {r : Row} (hr : r ∈ R) : (rowL r).length ≤ n + 3 := by
  unfold rowL
  rw [List.length_append, List.length_replicate]
  have := h.le r hr
  have := enc_len r.2
  omega
theorem mail_len {R : List Row} {n : Nat} (h : RowsOk R n) (hn : n ≤ 20) : (mailS R).length ≤ 1000 := by
  have key : ∀ R : List Row, (∀ r ∈ R, (rowL r).length ≤ n + 3) → (PS.glue [10] (R.map rowL)).length ≤ (n + 4) * R.length := by
    intro R
    induction R with
    | nil => intro _; simp [PS.glue]
    | cons r R ih =>
      intro h
      have h1 := ih fun r hr => h r (List.mem_cons_of_mem _ hr)
      have h2 := h r (List.mem_cons_self ..)
      unfold PS.glue at h1 ⊢
      rw [List.map_cons, List.flatMap_cons, List.length_append, List.length_append, show (r :: R).length = R.length + 1 from rfl, Nat.mul_add]
      simp only [List.length_cons, List.length_nil]
      omega
  have h1 := key R fun r hr => rowL_len h hr
  have h2 := h.len
  show (PS.glue [10] (R.map rowL)).toArray.size ≤ 1000
  rw [List.size_toArray]
  have h3 : (n + 4) * R.length ≤ 24 * 27 := Nat.mul_le_mul (by omega) h2
  omega
theorem mail_no13 (R : List Row) : ∀ i, (mailS R).cps.getD i 0 ≠ 13 := by
  intro i h
  have hm : ∀ v ∈ PS.glue [10] (R.map rowL), v ≠ 13 := by
    intro v hv e
    subst e
    unfold PS.glue at hv
    obtain ⟨p, hp, hv⟩ := List.mem_flatMap.mp hv
    obtain ⟨r, hr, rfl⟩ := List.mem_map.mp hp
    rcases List.mem_append.mp hv with hv | hv
    · exact rowL_no r (by decide) (by decide) hv
    · simp at hv
  unfold mailS at h
  rw [Array.getD_eq_getD_getElem?, List.getElem?_toArray] at h
  cases q : (PS.glue [10] (R.map rowL))[i]? with
  | none => rw [q] at h; cases h
  | some v =>
    rw [q] at h
    exact hm v (List.mem_of_getElem? q) h
open Wk Hd2
def forBody : Stmt → List Stmt | .For _ _ b _ _ => b | _ => []
def sub (l : List Stmt) (i : Nat) : Stmt := l.getD i (.Pass ⟨0, 0, 0, 0⟩)
def bT : List Stmt := forBody (st 4)
def bO : List Stmt := forBody (sub bT 3)
def bI : List Stmt := forBody (sub bO 0)
abbrev clsIV (l : List Cl) : List IV := l.map fun c => .at (.str (enc c))
abbrev rowIV (l : List Row) : List IV := l.map fun r => .at (.str (rowS r))
theorem clsIV_eq (l : List Cl) : strsIV (l.map enc) = clsIV l := by unfold strsIV clsIV; rw [List.map_map]; rfl
theorem rowIV_eq (l : List Row) : strsIV (l.map rowS) = rowIV l := by unfold strsIV rowIV; rw [List.map_map]; rfl
abbrev oneS (c : Cl) : PV × Bool := (.str (enc c), false)
abbrev rt (S G O : PV × Bool) (j : Fin 3) (mail held one other left : PV × Bool) (R : List Row) : Rho :=
  rh (script := S) (given := G) (order := O) (mail := mail) (letter := (.str (low j), false)) (rows := (.list (rowIV R), true)) (held := held) (clauses := (.list (clsIV (R.map (·.2))), true)) (one := one) (other := other) (left := left)
theorem notin_cls (gs : List Cl) (c : Cl) : (!(gs.map enc).contains (enc c)) = !decide (c ∈ gs) := by
  rw [notin_enc, List.contains_eq_mem]
section
variable {w : World} {L : Addr} {base : Addr → Option Obj} {os : OsState} {k : Nat}
set_option maxHeartbeats 8000000 in
theorem inner_body (t : Top w base) (ok : FmOk (LF w L base os)) {S G O M Hd X : PV × Bool} {j : Fin 3} {o u : Cl} {R : List Row} {n : Nat} (hR : RowsOk R n) :
    ExS pw w (LF w L base os) (rt S G O j M Hd (oneS o) (oneS u) X R) (k + 5) (execs bI (LF w L base os).env) (fun fl ρ' => fl = .next ∧ ∃ X', ρ' = rt S G O j M Hd (oneS o) (oneS u) X' (addV j o u R)) := by
  have f := lawFr (L := L) (os := os) t
  have gJ := gl (x := "_law_joined") f (by kernel_rfl) (v := .ref 268) (by kernel_rfl)
  have fnv : ∀ (b : Addr) (o : Obj) (fd : FuncData), (KK w.params).lookup b = some o → o.data = .func fd → ∀ a, Value.ref b = .ref a → ∃ o fd, base a = some o ∧ o.data = .func fd := fun b o fd h1 h2 a e => by cases e; exact ⟨o, fd, t.1 b o h1, h2⟩
  have sz : sizeLine = 16777216 := sizeLine_eq
  have h8 := hR.len
  have ho := enc_length o
  have hu := enc_length u
  have op1 := op_in_str (prog := pw) (w := w) (k := k + 5) (x := enc o) (y := low j)
  rw [has_low] at op1
  have op2 := op_in_str (prog := pw) (w := w) (k := k + 5) (x := enc u) (y := big j)
  rw [has_big] at op2
  refine ex_one (ex_if (eb_op (.andCons (eb_cmp (fr := true) (by rfl) (ev_local 10 ok rfl rfl (by intro q; cases q)) (ev_local 15 ok rfl rfl (by intro q; cases q)) op1) fun _ => .andCons (eb_cmp (fr := true) (by rfl) (ev_cast (q := .str (big j)) (ev_meth (fr := true) (by rfl) (by rfl) (by rfl) (by decide) (ev_local 10 ok rfl rfl (by intro q; cases q)) .nil .str m_upper (c_upper (up_fit j))) (congrArg PV.str (up_low j))) (ev_local 16 ok rfl rfl (by intro q; cases q)) op2) fun _ => .andNil)) ?_)
  by_cases hc : cg o j = 1 ∧ cg u j = 2
  · rw [if_pos (by rw [hc.1, hc.2]; rfl)]
    have hj := joined_enc j o u hc.1 hc.2
    have ha : addV j o u R = match resv o u j with | some l => if l ∈ R.map (·.2) then R else R ++ [(1, l)] | none => R := if_pos hc
    cases hr : resv o u j with
    | none =>
      rw [hr] at ha hj
      have ha : addV j o u R = R := ha
      rw [ha]
      refine ex_then (ex_assign_iv (fr := true) (own := false) 17 (acc := none) rfl own_none (ev_cast (q := .none) (ev_call (fr := true) (by rfl) gJ (.cons (ev_local 15 ok rfl rfl (by intro q; cases q)) (.cons (ev_local 16 ok rfl rfl (by intro q; cases q)) (.cons (ev_local 10 ok rfl rfl (by intro q; cases q)) .nil))) (c_joined (k := k + 1) t (enc_app_letters o u) (by rw [str_len_app]; omega) (by rw [sz]; omega) (low_fit j) (strOk_low j)) (fnv _ (o268_0 w.params) _ (by kernel_rfl) rfl)) (by rw [hj]; rfl)) (by rfl)) ?_
      exact ex_one (ex_if (eb_op (.andCons (c := true) (eb_cmp (fr := true) (by rfl) (ev_local 17 ok rfl rfl (by intro q; cases q)) ev_none (op_isnot_none (a := .none) (by intro b q; cases q))) fun h => by cases h)) (by rw [if_neg (by decide)]; exact ex_nil ⟨rfl, _, rfl⟩))
    | some l =>
      rw [hr] at ha hj
      have ha : addV j o u R = if l ∈ R.map (·.2) then R else R ++ [(1, l)] := ha
      have hl := enc_length l
      have op3 := op_notin_strs (prog := pw) (w := w) (k := k + 5) (x := enc l) (l := (R.map (·.2)).map enc)
      rw [notin_cls, clsIV_eq] at op3
      refine ex_then (ex_assign_iv (fr := true) (own := false) 17 (acc := none) rfl own_none (ev_cast (q := .str (enc l)) (ev_call (fr := true) (by rfl) gJ (.cons (ev_local 15 ok rfl rfl (by intro q; cases q)) (.cons (ev_local 16 ok rfl rfl (by intro q; cases q)) (.cons (ev_local 10 ok rfl rfl (by intro q; cases q)) .nil))) (c_joined (k := k + 1) t (enc_app_letters o u) (by rw [str_len_app]; omega) (by rw [sz]; omega) (low_fit j) (strOk_low j)) (fnv _ (o268_0 w.params) _ (by kernel_rfl) rfl)) (by rw [hj]; rfl)) (by rfl)) ?_
      refine ex_one (ex_if (eb_op (.andCons (eb_cmp (fr := true) (by rfl) (ev_local 17 ok rfl rfl (by intro q; cases q)) ev_none (op_isnot_none (a := .str (enc l)) (by intro b q; cases q))) fun _ => .andCons (eb_cmp (fr := true) (by rfl) (ev_local 17 ok rfl rfl (by intro q; cases q)) (ev_local 14 ok rfl rfl (by intro q; cases q)) op3) fun _ => .andNil)) ?_)
      by_cases hm : l ∈ R.map (·.2)
      · rw [if_pos hm] at ha
        rw [ha, if_neg (by simp [hm, At.isNone])]
        exact ex_nil ⟨rfl, _, rfl⟩
      · rw [if_neg hm] at ha
        rw [ha, if_pos (by simp [hm, At.isNone])]
        refine ex_then (ex_append 14 rfl rfl (ev_local 17 ok rfl rfl (by intro q; cases q)) (by rw [List.length_map, List.length_map, sz]; omega) (by rfl) (by rfl) (by rfl) (by rfl)) ?_
        refine ex_one (ex_mono (ex_append 11 (y := .at (.str (rowS (1, l)))) rfl rfl (ev_cast (q := .str (rowS (1, l))) (ev_bin (fr := true) ev_str (ev_local 17 ok rfl rfl (by intro q; cases q)) (op_add_str (by
          have h1 : ("." : Str).length = 1 := by decide +kernel
          rw [sz]; omega))) (congrArg PV.str (row_one l))) (by rw [List.length_map, sz]; omega) (by rfl) (by rfl) (by rfl) (by rfl)) fun fl ρ' ⟨e1, e2⟩ => ⟨e1, (.str (enc l), false), e2.trans ?_⟩)
        show _ = rt S G O j M Hd (oneS o) (oneS u) (.str (enc l), false) (R ++ [(1, l)])
        unfold rt clsIV rowIV
        rw [List.map_append, List.map_append, List.map_append]
        rfl
  · have ha : addV j o u R = R := if_neg hc
    rw [ha, if_neg (by simpa using hc)]
    exact ex_nil ⟨rfl, _, rfl⟩
end
open Wk Hd2
section
variable {w : World} {L : Addr} {base : Addr → Option Obj} {os : OsState} {k : Nat}
set_option maxHeartbeats 8000000 in
theorem within_enc : ∀ x y : Cl, withinV (enc x) (enc y) = within x y := by decide +kernel
set_option maxHeartbeats 8000000 in
theorem join_loops (t : Top w base) (ok : FmOk (LF w L base os)) {S G O M : PV × Bool} {j : Fin 3} {H : List Cl} {R : List Row} {n : Nat} (hR : RowsOk R n) (hn : 1 ≤ n) :
    ExS pw w (LF w L base os) (rt S G O j M (.list (clsIV H), false) E0 E0 E0 R) (k + 5) (exec (sub bT 3) (LF w L base os).env) (Only (rt S G O j M (.list (clsIV H), false) E0 E0 E0 (joinsV j H R))) := by
  refine ex_forM H (fun c => .at (.str (enc c))) (fun done ρ' => ρ' = rt S G O j M (.list (clsIV H), false) E0 E0 E0 (done.foldl (fun R o => H.foldl (fun R t => addV j o t R) R) R)) (itj_list (src_slot 13 rfl rfl)) rfl (fun ρ' e => ⟨rfl, e⟩) ?_
  rintro done o rest ρ' hxs rfl
  refine ⟨_, asg_name 15 (acc := none) rfl own_none, ?_⟩
  have hRd := RowsOk.joins hn j H done hR
  have e1 : (done ++ [o]).foldl (fun R o => H.foldl (fun R t => addV j o t R) R) R = H.foldl (fun R t => addV j o t R) (done.foldl (fun R o => H.foldl (fun R t => addV j o t R) R) R) := by rw [List.foldl_append]; rfl
  generalize hRd' : done.foldl (fun R o => H.foldl (fun R t => addV j o t R) R) R = Rd at hRd e1 ⊢
  show ExS pw w (LF w L base os) (rt S G O j M (.list (clsIV H), false) (oneS o) E0 E0 Rd) (k + 5) _ _
  refine ex_one (ex_post (P₁ := fun fl ρ' => fl = .next ∧ ρ' = rt S G O j M (.list (clsIV H), false) (oneS o) E0 E0 (H.foldl (fun R t => addV j o t R) Rd)) (ex_forM H (fun c => .at (.str (enc c))) (fun done ρ' => ρ' = rt S G O j M (.list (clsIV H), false) (oneS o) E0 E0 (done.foldl (fun R t => addV j o t R) Rd)) (itj_list (src_slot 13 rfl rfl)) rfl (fun ρ' e => ⟨rfl, e⟩) ?_) ?_)
  · rintro done2 u rest2 ρ' hxs2 rfl
    refine ⟨_, asg_name 16 (acc := none) rfl own_none, ?_⟩
    have hR2 := RowsOk.adds hn j o done2 hRd
    have e2 : (done2 ++ [u]).foldl (fun R t => addV j o t R) Rd = addV j o u (done2.foldl (fun R t => addV j o t R) Rd) := by rw [List.foldl_append]; rfl
    generalize done2.foldl (fun R t => addV j o t R) Rd = R2 at hR2 e2 ⊢
    refine ex_post (inner_body (k := k) t ok (X := E0) (u := u) hR2) ?_
    rintro fl ρ' ⟨rfl, X', rfl⟩
    refine ⟨rt S G O j M (.list (clsIV H), false) (oneS o) E0 E0 (addV j o u R2), .same (.same (.same (.same (.same (.same (.same (.same (.same (.same (.same (.same (.same (.same (.same (.same (.any (.any (Weaker.refl _)))))))))))))))))), ?_⟩
    show _ = rt S G O j M (.list (clsIV H), false) (oneS o) E0 E0 ((done2 ++ [u]).foldl (fun R t => addV j o t R) Rd)
    rw [e2]
  · rintro fl ρ' ⟨rfl, rfl⟩
    refine ⟨rt S G O j M (.list (clsIV H), false) E0 E0 E0 (H.foldl (fun R t => addV j o t R) Rd), .same (.same (.same (.same (.same (.same (.same (.same (.same (.same (.same (.same (.same (.same (.same (.any (Weaker.refl _)))))))))))))))), ?_⟩
    show _ = rt S G O j M (.list (clsIV H), false) E0 E0 E0 ((done ++ [o]).foldl (fun R o => H.foldl (fun R t => addV j o t R) R) R)
    rw [e1]
/-- the clauses kept -/
theorem keep_cls (C : List Cl) (c : Cl) : (strsIV ((C.map enc).filter fun y => (y != enc c) && (withinV y (enc c) && true))).isEmpty = keepV C c := by
  unfold keepV
  induction C with
  | nil => rfl
  | cons x C ih =>
    rw [List.map_cons, List.filter_cons, List.all_cons]
    have e1 : (enc x != enc c) = (x != c) := by show (!(enc x == enc c)) = !(x == c); rw [enc_inj]
    rw [e1, within_enc, Bool.and_true]
    cases hq : (x != c && within x c) with
    | true => rfl
    | false => simpa using ih
theorem zip_rowIV (R : List Row) : zipIV (R.map fun r => At.str (rowS r)) ((R.map (·.2)).map fun c => At.str (enc c)) = R.map fun r => IV.tup [.str (rowS r), .str (enc r.2)] := by
  unfold zipIV
  induction R with
  | nil => rfl
  | cons r R ih => simp only [List.map_cons, List.zip_cons_cons]; exact congrArg _ ih
theorem mail_snoc (D : List Row) (r : Row) : (mailS D ++ (rowS r ++ "\n") : Str) = mailS (D ++ [r]) := by
  apply Str.ext'
  apply Array.toList_inj.mp
  have e2 : ("\n" : Str).cps.toList = [10] := by decide +kernel
  rw [Str.cps_append, Str.cps_append, Array.toList_append, Array.toList_append, e2]
  simp [mailS, rowS, PS.glue]
end
end L2
namespace Wk
theorem SrcL.cast {prog : Program} {w : World} {F : Fm} {ρ : Rho} {k : Nat} {e : PySem.Expr} {l l' : List IV} (h : SrcL prog w F ρ k e l) (q : l = l') : SrcL prog w F ρ k e l' := q ▸ h
theorem ItJ.cast {prog : Program} {w : World} {F : Fm} {ρ : Rho} {k : Nat} {z : Bool} {tgt e : PySem.Expr} {l l' : List IV} (h : ItJ prog w F ρ k z tgt e l) (q : l = l') : ItJ prog w F ρ k z tgt e l' := q ▸ h
end Wk
namespace L2
open Wk Hd2
abbrev rz (S G O : PV × Bool) (j : Fin 3) (mail : Str) (held : PV × Bool) (R : List Row) (row clause : PV × Bool) : Rho :=
  rh (script := S) (given := G) (order := O) (mail := (.str mail, false)) (letter := (.str (low j), false)) (rows := (.list (rowIV R), false)) (held := held) (clauses := (.list (clsIV (R.map (·.2))), false)) (row := row) (clause := clause)
theorem flat_row (l : List Row) : (rowIV l).all IV.flat = true := by induction l with | nil => rfl | cons r l ih => exact ih
theorem flat_cls (l : List Cl) : (clsIV l).all IV.flat = true := by induction l with | nil => rfl | cons r l ih => exact ih
theorem fr2_of {w : World} {F : Fm} {base : Addr → Option Obj} {scope : Scope} {cl : List (Str × Addr)} {sp : List (Str × CSlot)} {C D : Addr} (f : Fr2 w F) (h : ∀ a o, F.base a = some o → base a = some o) (ok : FmOk (compFm F scope cl sp C D base)) : Fr2 w (compFm F scope cl sp C D base) := ⟨f.top.up h, f.gl, f.bi, ok.kind⟩
theorem fn_at {w : World} {base : Addr → Option Obj} (t : Top w base) {b : Addr} {o : Obj} {fd : FuncData} (h1 : (KK w.params).lookup b = some o) (h2 : o.data = .func fd) : ∀ a, Value.ref b = .ref a → ∃ o fd, base a = some o ∧ o.data = .func fd := fun a e => by cases e; exact ⟨o, fd, t.1 b o h1, h2⟩
section
variable {w : World} {L : Addr} {base : Addr → Option Obj} {os : OsState} {k : Nat}
theorem rowS_len {R : List Row} {n : Nat} (h : RowsOk R n) (hn : n ≤ 20) {r : Row} (hr : r ∈ R) : (rowS r).length ≤ 30 := by
  have := rowL_len h hr
  show (rowL r).toArray.size ≤ 30
  rw [List.size_toArray]; omega
set_option maxHeartbeats 8000000 in
theorem zip_loop (t : Top w base) (ok : FmOk (LF w L base os)) {S G O Hd : PV × Bool} (hS : S.1.flat = true) (hG : G.1.flat = true) (hO : O.1.flat = true) (hH : Hd.1.flat = true) {j : Fin 3} {R : List Row} {n : Nat} (hR : RowsOk R n) (hn : n ≤ 20) :
    ExS pw w (LF w L base os) (rz S G O j "" Hd R E0 E0) (k + 5) (exec (sub bT 5) (LF w L base os).env) (Only (rz S G O j (mailS (cutV R)) Hd R E0 E0)) := by
  have f := lawFr (L := L) (os := os) t
  have gZ := bi (x := "zip") f (by kernel_rfl) (by kernel_rfl) (v := .type "zip") (by kernel_rfl)
  have sz : sizeLine = 16777216 := sizeLine_eq
  have hlen := hR.len
  refine ex_forM R (fun r => .tup [.str (rowS r), .str (enc r.2)]) (fun done ρ' => ρ' = rz S G O j (mailS (done.filter fun r => keepV (R.map (·.2)) r.2)) Hd R E0 E0) (ItJ.cast (itj_zip (l := R.map fun r => At.str (rowS r)) (l' := (R.map (·.2)).map fun c => At.str (enc c)) (by rfl) gZ (SrcL.cast (src_slot 11 rfl rfl) (by rw [List.map_map]; rfl)) (SrcL.cast (src_slot 14 rfl rfl) (by rw [List.map_map]; rfl))) (zip_rowIV R)) rfl (fun ρ' e => ⟨rfl, e⟩) ?_ ?_
  · rintro done r rest ρ' hxs rfl
    have hr : r ∈ R := by rw [hxs]; simp
    have hrl := rowS_len hR hn hr
    refine ⟨_, asg_tup (.cons 12 (acc := none) rfl own_none (.cons 7 rfl ownC .nil)), ?_⟩
    show ExS pw w (LF w L base os) (rz S G O j (mailS (done.filter fun r => keepV (R.map (·.2)) r.2)) Hd R (.str (rowS r), false) (oneS r.2)) (k + 5) _ _
    have hRd : RowsOk (done.filter fun r => keepV (R.map (·.2)) r.2) n := by
      have hsub : (done.filter fun r => keepV (R.map (·.2)) r.2).Sublist R := by
        rw [hxs]; exact (List.filter_sublist).trans (List.sublist_append_left _ _)
      exact ⟨hR.nd.sublist (hsub.map _), fun r hr => hR.ge r (hsub.mem hr), fun r hr => hR.le r (hsub.mem hr)⟩
    have e1 : ((done ++ [r]).filter fun r => keepV (R.map (·.2)) r.2) = (done.filter fun r => keepV (R.map (·.2)) r.2) ++ (if keepV (R.map (·.2)) r.2 then [r] else []) := by
      rw [List.filter_append]
      congr 1
      rw [List.filter_cons]
      split <;> rfl
    generalize (done.filter fun r => keepV (R.map (·.2)) r.2) = D at hRd e1 ⊢
    have hDl := mail_len hRd hn
    refine ex_post (P₁ := fun fl ρ' => fl = .next ∧ ρ' = rz S G O j (mailS (D ++ (if keepV (R.map (·.2)) r.2 then [r] else []))) Hd R (.str (rowS r), false) (oneS r.2)) (ex_one (ex_if (b := keepV (R.map (·.2)) r.2) (eb_cmp (fr := true) (by rfl) (ev_comp_eq [("clause", L + 1 + 1 + 1 + 1)] [("one", .loc), ("clause", .cap 7)] (clsIV (R.map (·.2))) (filtF fun y => (y != enc r.2) && (withinV y (enc r.2) && true)) ok (by rw [← clsIV_eq, filtF_eq]) ⟨by rfl, ⟨by kernel_rfl, ⟨by kernel_rfl, by kernel_rfl, _, rfl, rfl⟩, trivial⟩, by kernel_rfl, by decide, by decide +kernel, by intro _; rfl, rfl, itj_list (src_slot 14 rfl rfl), ?_, ?_⟩) (ev_list (by rfl) .nil (Nat.zero_le _)) ?_) ?_)) ?_
    · intro C D2 base2 hbase2 okc z hz
      obtain ⟨x, hx, rfl⟩ := List.mem_map.mp hz
      have f2 := fr2_of f hbase2 okc
      have gW := gl (x := "_law_within") f2 (by kernel_rfl) (v := .ref 278) (by kernel_rfl)
      have hxl := enc_length x
      refine ⟨[(.str (enc x), false), (.str (enc r.2), false)], (enc x != enc r.2) && (withinV (enc x) (enc r.2) && true), asg_name 0 (acc := none) rfl own_none, .inr ⟨_, rfl, eb_op (.andCons (eb_cmp (fr := true) (by rfl) (ev_local 0 okc rfl rfl (by intro q; cases q)) (ev_cell 1 okc rfl rfl (by intro q; cases q)) op_ne_str) fun _ => .andCons (eb_call (fr := true) (ev_call (by rfl) gW (.cons (ev_local 0 okc rfl rfl (by intro q; cases q)) (.cons (ev_cell 1 okc rfl rfl (by intro q; cases q)) .nil)) (law_within (k := k + 4) f2.top (by rw [sz]; omega)) (fn_at f2.top (o := o278_0 w.params) (by kernel_rfl) rfl))) fun _ => .andNil)⟩, ?_, .any (.same .nil)⟩
      cases hq : ((enc x != enc r.2) && (withinV (enc x) (enc r.2) && true)) with
      | true => exact ⟨.at (.str (enc x)), false, filtF_t hq, ev_local 0 okc rfl rfl (by intro q; cases q)⟩
      | false => exact filtF_f hq
    · rw [← clsIV_eq, filtF_eq, List.length_map]
      refine Nat.le_trans (List.length_filter_le _ _) ?_
      rw [List.length_map, List.length_map, sz]; omega
    · have h9 := op_eq_nil (prog := pw) (w := w) (k := k + 5) (l := strsIV (((R.map (·.2)).map enc).filter fun y => (y != enc r.2) && (withinV y (enc r.2) && true)))
      rw [keep_cls] at h9
      exact h9
    · cases hq : keepV (R.map (·.2)) r.2 with
      | true =>
        have h1 : ("\n" : Str).length = 1 := by decide +kernel
        refine ex_one (ex_mono (ex_aug_str (c := rowS r ++ "\n") (fr := true) (own' := false) 9 rfl rfl (ev_bin (ev_local 12 ok rfl rfl (by intro q; cases q)) ev_str (op_add_str (by rw [sz]; omega))) (by rw [sz, str_len_app]; omega)) fun fl ρ' ⟨e1, e2⟩ => ⟨e1, e2.trans ?_⟩)
        show rz S G O j (mailS D ++ (rowS r ++ "\n")) Hd R (.str (rowS r), false) (oneS r.2) = _
        rw [mail_snoc]; rfl
      | false =>
        refine ex_nil ⟨rfl, ?_⟩
        rw [if_neg (by simp), List.append_nil]
    · rintro fl ρ' ⟨rfl, rfl⟩
      refine ⟨rz S G O j (mailS (D ++ (if keepV (R.map (·.2)) r.2 then [r] else []))) Hd R E0 E0, .same (.same (.same (.same (.same (.same (.same (.any (.same (.same (.same (.same (.any (Weaker.refl _))))))))))))), ?_⟩
      show _ = rz S G O j (mailS ((done ++ [r]).filter fun r => keepV (R.map (·.2)) r.2)) Hd R E0 E0
      rw [e1]
  · rintro _ done ρ' rfl i q hq
    have hm := List.mem_of_getElem? hq
    simp only [rz, rh, List.mem_cons, List.not_mem_nil, or_false] at hm
    rcases hm with rfl | rfl | rfl | rfl | rfl | rfl | rfl | rfl | rfl | rfl | rfl | rfl | rfl | rfl | rfl | rfl | rfl | rfl | rfl | rfl | rfl | rfl | rfl | rfl <;> first | rfl | exact hS | exact hG | exact hO | exact hH | exact flat_row R | exact flat_cls _
end
open Wk Hd2
theorem up_snd (R : List Row) : (R.map up).map (·.2) = R.map (·.2) := by rw [List.map_map]; rfl
theorem rows_slice (R : List Row) (h : ∀ r ∈ R, 1 ≤ r.1) : ((sliceRange (sliceBounds none (some (-1)) none (strsIV (Txt.split (Wk.quoteV (mailS R)) "\r\n")).length).1 (sliceBounds none (some (-1)) none (strsIV (Txt.split (Wk.quoteV (mailS R)) "\r\n")).length).2.1 (sliceBounds none (some (-1)) none (strsIV (Txt.split (Wk.quoteV (mailS R)) "\r\n")).length).2.2).filterMap ((strsIV (Txt.split (Wk.quoteV (mailS R)) "\r\n"))[·]?)) = rowIV (R.map up) := by
  rw [quote_mail R h]
  have e : strsIV (R.map (fun r => rowS (up r)) ++ [⟨#[]⟩]) = rowIV (R.map up) ++ [.at (.str ⟨#[]⟩)] := by
    unfold strsIV rowIV
    rw [List.map_append, List.map_map, List.map_map]; rfl
  rw [e]
  exact slice_init _ _
theorem held_strip (R : List Row) : (rowIV R).flatMap (mapF fun y => Txt.lstripChars y ".") = clsIV (R.map (·.2)) := by
  rw [← rowIV_eq, mapF_eq, ← clsIV_eq, List.map_map, List.map_map]
  congr 1
  exact List.map_congr_left fun r _ => strip_row r
theorem quote_len (x : Str) (n : Nat) (h : x.length ≤ n) : (Wk.quoteV x).length ≤ 100 * n := by
  have h1 := crlfV_len x
  have h2 : (Wk.quoteV x).length ≤ 10 * (Wk.crlfV x).length := by
    have := outL_len (P := dotAt (Wk.crlfV x).cps) (x := (Wk.crlfV x).cps) (r := "..") (by decide) (Wk.crlfV x).length
    simpa [Wk.quoteV, Wk.dotsV, patStr, Str.length] using this
  omega
theorem parts_len (x y : Str) : (Builtin.Str.partsBetween x (Builtin.Str.occurrences x y 0 x.length (x.length + 1)) y.length).length ≤ x.length + 2 := by
  rw [PyProof.Rows.len_partsBetween]
  have := StrLaws.occ_length_le x y 0 x.length (x.length + 1)
  omega
section
variable {w : World} {L : Addr} {base : Addr → Option Obj} {os : OsState} {k : Nat}
set_option maxHeartbeats 8000000 in
theorem turn_body (t : Top w base) (ok : FmOk (LF w L base os)) {S G O : PV × Bool} (hS : S.1.flat = true) (hG : G.1.flat = true) (hO : O.1.flat = true) {j : Fin 3} {R : List Row} {n : Nat} (hR : RowsOk R n) (hn : n ≤ 10) (hSo : S.2 = false) (hGo : G.2 = false) :
    ExS pw w (LF w L base os) (rh (script := S) (given := G) (order := O) (mail := (.str (mailS R), false)) (letter := (.str (low j), false))) (k + 5) (execs bT (LF w L base os).env) (fun fl ρ' => fl = .next ∧ ∃ Hd R', ρ' = rz S G O j (mailS (turnV j R)) Hd R' E0 E0) := by
  have f := lawFr (L := L) (os := os) t
  have gQ := gl (x := "quotedata") f (by kernel_rfl) (v := .ref 192) (by kernel_rfl)
  have sz : sizeLine = 16777216 := sizeLine_eq
  have hlen := hR.len
  have hml := mail_len hR (by omega)
  have hql := quote_len (mailS R) 1000 hml
  have hpl := parts_len (Wk.quoteV (mailS R)) "\r\n"
  have hsp : (strsIV (Txt.split (Wk.quoteV (mailS R)) "\r\n")).length ≤ 28 := by rw [quote_mail R hR.ge]; simp; omega
  refine ex_then (ex_assign_cast (own := true) 11 (acc := none) rfl own_none (ev_slice_list (ev_meth (fr := true) (by rfl) (by rfl) (by rfl) (by decide) (ev_call (fr := true) (by rfl) gQ (.cons (ev_local 9 ok rfl rfl (by intro q; cases q)) .nil) (c_quotedata (k := k + 4) t (by omega) (mail_no13 R)) (fn_at t (o := o192_0 w.params) (by kernel_rfl) rfl)) (.cons ev_str .nil) .str m_split (c_split (by decide) (by rw [sz]; omega) (by rw [sz]; omega))) .none (.some (ev_neg (fr := true) (ev_int (i := 1)))) .none (by simp) (by rw [sz]; omega)) rfl (congrArg PV.list (rows_slice R hR.ge)) (by rfl)) ?_
  have hR1 := hR.up
  have hl1 := hR1.len
  refine ex_then (ex_assign_compW_eq (rh (script := S) (given := G) (order := O) (mail := (.str (mailS R), false)) (letter := (.str (low j), false)) (rows := (.list (rowIV (R.map up)), false))) [] [("row", .loc)] (rowIV (R.map up)) (mapF fun y => Txt.lstripChars y ".") 13 (acc := none) rfl own_none (by rfl) (own := false) ((held_strip _).trans (congrArg clsIV (up_snd R))) (.same (.same (.same (.same (.same (.same (.same (.same (.same (.same (.same (.dis (Weaker.refl _))))))))))))) ⟨by rfl, ⟨by kernel_rfl, trivial⟩, by kernel_rfl, by decide, by decide +kernel, by intro _; rfl, rfl, itj_list (src_slot 11 rfl rfl), ?_, ?_⟩) ?_
  · intro C D base2 hbase2 okc z hz
    obtain ⟨r, hr, rfl⟩ := List.mem_map.mp hz
    have hrl := rowS_len hR1 (by omega) hr
    exact ⟨[(.str (rowS r), false)], true, asg_name 0 (acc := none) rfl own_none, .inl ⟨rfl, rfl⟩, ⟨.at (.str (Txt.lstripChars (rowS r) ".")), true, rfl, ev_meth (by rfl) (by rfl) (by rfl) (by decide) (ev_local 0 okc rfl rfl (by intro q; cases q)) (.cons ev_str .nil) .str m_lstrip (c_lstrip (by rw [sz]; omega))⟩, .any .nil⟩
  · rw [held_strip, up_snd, List.length_map, List.length_map, sz]; omega
  refine ex_then (ex_assign_cast (own := true) 14 (acc := none) rfl own_none (ev_slice_list (ev_local 13 ok rfl rfl (by intro q; cases q)) .none .none .none (by simp) (by rw [List.length_map, List.length_map, sz]; omega)) rfl (q := .list (clsIV ((R.map up).map (·.2)))) (by rw [slice_full, up_snd]) (by rfl)) ?_
  refine ex_then (join_loops (k := k) t ok (S := S) (G := G) (O := O) (j := j) (M := (.str (mailS R), false)) (H := R.map fun r : Row => r.2) hR1 (by omega)) ?_
  refine ex_then (ex_assign_iv (fr := true) (own := false) 9 (acc := none) rfl own_none ev_str (by rfl)) ?_
  have hR2 := RowsOk.joins (n := n + 1) (by omega) j (R.map (·.2)) (R.map (·.2)) hR1
  refine ex_weak (ρ₁ := rz S G O j "" (.list (clsIV (R.map (·.2))), false) (joinsV j (R.map (·.2)) (R.map up)) E0 E0) (.same (.same (.same (.same (.same (.same (.same (.same (.same (.same (.same (.dis (.same (.same (.dis (Weaker.refl _)))))))))))))))) ?_
  exact ex_one (ex_mono (zip_loop (k := k) t ok (S := S) (G := G) (O := O) (Hd := (.list (clsIV (R.map fun r : Row => r.2)), false)) hS hG hO (flat_cls _) hR2 (by omega)) fun fl ρ' ⟨e1, e2⟩ => ⟨e1, _, _, e2⟩)
theorem RowsOk.turns {n : Nat} : ∀ (l : List (Fin 3)) {R : List Row}, RowsOk R n → RowsOk (l.foldl (fun R j => turnV j R) R) (n + l.length)
  | [], R, h => h
  | j :: l, R, h => by
    have := RowsOk.turns (n := n + 1) l (h.turn j)
    rw [List.foldl_cons, List.length_cons, show n + (l.length + 1) = n + 1 + l.length by omega]
    exact this
set_option maxHeartbeats 8000000 in
theorem seg_turns (t : Top w base) (ok : FmOk (LF w L base os)) {S G : PV × Bool} (hS : S.1.flat = true) (hG : G.1.flat = true) (hSo : S.2 = false) (hGo : G.2 = false) {o : List (Fin 3)} (ho : o.length = 3) {R : List Row} (hR : RowsOk R 1) :
    ExS pw w (LF w L base os) (rh (script := S) (given := G) (order := (.str (orderS o), false)) (mail := (.str (mailS R), false))) (k + 5) (exec (st 4) (LF w L base os).env) (Only (rh (script := S) (given := G) (order := (.str (orderS o), false)) (mail := (.str (mailS (o.foldl (fun R j => turnV j R) R)), false)))) := by
  have ech : chars (orderS o) = o.map fun j => IV.at (.str (low j)) := by
    unfold chars orderS low ch
    simp
  refine ex_forM o (fun j => .at (.str (low j))) (fun done ρ' => ρ' = rh (script := S) (given := G) (order := (.str (orderS o), false)) (mail := (.str (mailS (done.foldl (fun R j => turnV j R) R)), false))) (ItJ.cast (itj_str (ev_cell 8 ok rfl rfl (by intro q; cases q))) ech) rfl (fun ρ' e => ⟨rfl, e⟩) ?_
  rintro done j rest ρ' hxs rfl
  refine ⟨_, asg_name 10 (acc := none) rfl own_none, ?_⟩
  have hd : done.length ≤ 2 := by
    have := congrArg List.length hxs
    rw [ho] at this
    simp at this; omega
  have hRd := RowsOk.turns done hR
  have e1 : (done ++ [j]).foldl (fun R j => turnV j R) R = turnV j (done.foldl (fun R j => turnV j R) R) := by rw [List.foldl_append]; rfl
  generalize done.foldl (fun R j => turnV j R) R = Rd at hRd e1 ⊢
  refine ex_post (turn_body (k := k) t ok (S := S) (G := G) (O := (.str (orderS o), false)) (j := j) hS hG rfl hRd (by omega) hSo hGo) ?_
  rintro fl ρ' ⟨rfl, Hd, R', rfl⟩
  refine ⟨rh (script := S) (given := G) (order := (.str (orderS o), false)) (mail := (.str (mailS (turnV j Rd)), false)), .same (.same (.same (.same (.same (.same (.same (.same (.same (.same (.any (.any (.same (.any (.any (Weaker.refl _))))))))))))))), ?_⟩
  show _ = rh (script := S) (given := G) (order := (.str (orderS o), false)) (mail := (.str (mailS ((done ++ [j]).foldl (fun R j => turnV j R) R)), false))
  rw [e1]
end
open Wk Hd2
def allWd : List Wd := List.finRange 8
abbrev wIV (l : List Wd) : List IV := l.map fun v => .at (.str (encW v))
theorem wIV_eq (l : List Wd) : strsIV (l.map encW) = wIV l := by unfold strsIV wIV; rw [List.map_map]; rfl
def strOf : IV → Str | .at (.str y) => y | _ => ""
def tri (lb lc : List IV) (x : IV) : List IV := lb.flatMap fun y => lc.flatMap fun z => [.at (.str (strOf x ++ strOf y ++ strOf z))]
theorem worlds_eq : (chars "aA").flatMap (tri (chars "bB") (chars "cC")) = wIV allWd := by kernel_rfl
def three (a b : Str) : List IV := [.at (.str ""), .at (.str a), .at (.str b)]
def cl27 : List Cl := (List.finRange 3).flatMap fun a => (List.finRange 3).flatMap fun b => (List.finRange 3).map fun c => cs (cs (cs 0 0 a) 1 b) 2 c
theorem cls_eq : (three "a" "A").flatMap (tri (three "b" "B") (three "c" "C")) = strsIV (cl27.map enc) := by kernel_rfl
section
variable {w : World} {L : Addr} {base : Addr → Option Obj} {os : OsState} {k : Nat}
theorem mem_three {a b : Str} {x : IV} (h : x ∈ three a b) : ∃ y, x = .at (.str y) ∧ y.length ≤ 1 + a.length + b.length := by
  simp only [three, List.mem_cons, List.not_mem_nil, or_false] at h
  rcases h with rfl | rfl | rfl
  · exact ⟨"", rfl, Nat.zero_le _⟩
  · exact ⟨a, rfl, by omega⟩
  · exact ⟨b, rfl, by omega⟩
set_option maxHeartbeats 8000000 in
theorem seg_worlds (t : Top w base) (ok : FmOk (LF w L base os)) {S G O M : PV × Bool} :
    ExS pw w (LF w L base os) (rh (script := S) (given := G) (order := O) (mail := M)) (k + 5) (exec (st 5) (LF w L base os).env) (Only (rh (script := S) (given := G) (order := O) (mail := M) (worlds := (.list (wIV allWd), false)))) := by
  have sz : sizeLine = 16777216 := sizeLine_eq
  have l1 : ∀ c, (ch c).length = 1 := fun c => rfl
  refine ex_assign_comp_eq [] [("a", .loc), ("b", .loc), ("c", .loc)] (chars "aA") (tri (chars "bB") (chars "cC")) 18 (acc := none) rfl own_none (by rfl) (own := false) worlds_eq ⟨by rfl, ⟨by kernel_rfl, by kernel_rfl, by kernel_rfl, trivial⟩, by kernel_rfl, by decide, by decide +kernel, by intro _; rfl, rfl, itj_str ev_str, ?_, ?_⟩
  · intro C D base2 hbase2 okc x hx
    obtain ⟨a, ha, rfl⟩ := List.mem_map.mp hx
    refine ⟨[(.str (ch a), false), E0, E0], true, asg_name 0 (acc := none) rfl own_none, .inl ⟨rfl, rfl⟩, ⟨chars "bB", fun y => (chars "cC").flatMap fun z => [.at (.str (ch a ++ strOf y ++ strOf z))], rfl, by intro _; rfl, itj_str ev_str, rfl, ?_⟩, .any (Weaker.refl _)⟩
    intro y hy
    obtain ⟨b, hb, rfl⟩ := List.mem_map.mp hy
    refine ⟨[(.str (ch a), false), (.str (ch b), false), E0], true, asg_name 1 (acc := none) rfl own_none, .inl ⟨rfl, rfl⟩, ⟨chars "cC", fun z => [.at (.str (ch a ++ ch b ++ strOf z))], rfl, by intro _; rfl, itj_str ev_str, rfl, ?_⟩, .same (.any (Weaker.refl _))⟩
    intro z hz
    obtain ⟨c, hc, rfl⟩ := List.mem_map.mp hz
    exact ⟨[(.str (ch a), false), (.str (ch b), false), (.str (ch c), false)], true, asg_name 2 (acc := none) rfl own_none, .inl ⟨rfl, rfl⟩, ⟨.at (.str (ch a ++ ch b ++ ch c)), true, rfl, ev_bin (ev_bin (fr := true) (ev_local 0 okc rfl rfl (by intro q; cases q)) (ev_local 1 okc rfl rfl (by intro q; cases q)) (op_add_str (by rw [l1, l1, sz]; omega))) (ev_local 2 okc rfl rfl (by intro q; cases q)) (op_add_str (by rw [str_len_app, l1, l1, l1, sz]; omega))⟩, .same (.same (.any (Weaker.refl _)))⟩
  · rw [worlds_eq, List.length_map, sz]; decide
/-- the worlds where all the given hold -/
def modelsV (gs : List Cl) : List Wd := allWd.filter fun v => gs.all fun g => holds g v
theorem holds_enc : ∀ (c : Cl) (v : Wd), holdsV (enc c) (encW v) = holds c v := by decide +kernel
def holdF (y : Str) (x : IV) : List IV := [match x with | .at (.str c) => .at (.bool (holdsV c y)) | _ => x]
theorem holdF_eq (y : Str) (gs : List Cl) : (clsIV gs).flatMap (holdF y) = boolsIV (gs.map fun g => holdsV (enc g) y) := by
  induction gs with
  | nil => rfl
  | cons c l ih => simp only [List.map_cons, List.flatMap_cons, ih]; rfl
theorem all_id (l : List Cl) (f : Cl → Bool) : (l.map f).all id = l.all f := by rw [List.all_map]; rfl
theorem models_eq (gs : List Cl) : (wIV allWd).flatMap (filtF fun y => (gs.map fun g => holdsV (enc g) y).all id) = wIV (modelsV gs) := by
  rw [← wIV_eq, filtF_eq, List.filter_map, wIV_eq]
  unfold modelsV
  congr 2
  funext v
  show ((gs.map fun g => holdsV (enc g) (encW v)).all id) = _
  rw [all_id]
  congr 1
  funext g
  exact holds_enc g v
set_option maxHeartbeats 8000000 in
theorem seg_models (t : Top w base) (ok : FmOk (LF w L base os)) {S O M : PV × Bool} {gs : List Cl} (hg : gs.length ≤ 27) :
    ExS pw w (LF w L base os) (rh (script := S) (given := (.list (clsIV gs), false)) (order := O) (mail := M) (worlds := (.list (wIV allWd), false))) (k + 5) (exec (st 6) (LF w L base os).env) (Only (rh (script := S) (given := (.list (clsIV gs), false)) (order := O) (mail := M) (worlds := (.list (wIV allWd), false)) (models := (.list (wIV (modelsV gs)), false)))) := by
  have f := lawFr (L := L) (os := os) t
  have sz : sizeLine = 16777216 := sizeLine_eq
  refine ex_assign_comp_eq [("given", L + 1)] [("world", .own), ("given", .cap 1)] (wIV allWd) (filtF fun y => (gs.map fun g => holdsV (enc g) y).all id) 19 (acc := none) rfl own_none (by rfl) (own := false) (models_eq gs) ⟨by rfl, ⟨by kernel_rfl, ⟨by kernel_rfl, by kernel_rfl, _, rfl, rfl⟩, trivial⟩, by kernel_rfl, by decide, by decide +kernel, by intro _; rfl, rfl, itj_list (src_slot 18 rfl rfl), ?_, ?_⟩
  · intro C D base2 hbase2 okc x hx
    obtain ⟨v, hv, rfl⟩ := List.mem_map.mp hx
    have f2 := fr2_of f hbase2 okc
    have gA := bi (x := "all") f2 (by kernel_rfl) (by kernel_rfl) (v := .builtin "all") (by kernel_rfl)
    refine ⟨[(.str (encW v), false), (.list (clsIV gs), false)], (gs.map fun g => holdsV (enc g) (encW v)).all id, asg_name 0 (acc := some (C + 1)) rfl (fun c e => by cases e; exact ⟨by kernel_rfl, "world", by simp, by rfl⟩), .inr ⟨_, rfl, eb_call (fr := true) (ev_call (by rfl) gA (.cons (ev_comp_eq [("world", C + 1)] [("clause", .loc), ("world", .cap 0)] (clsIV gs) (holdF (encW v)) okc (holdF_eq _ _) ⟨by rfl, ⟨by kernel_rfl, ⟨by kernel_rfl, by kernel_rfl, _, rfl, rfl⟩, trivial⟩, by kernel_rfl, by decide, by decide +kernel, by intro _; rfl, rfl, itj_list (src_slot 1 rfl rfl), ?_, ?_⟩) .nil) c_all (fun a e => nomatch e))⟩, ?_, .any (.same .nil)⟩
    · intro C3 D3 base3 hbase3 okc3 z hz
      obtain ⟨g, hg, rfl⟩ := List.mem_map.mp hz
      have f3 := fr2_of f2 hbase3 okc3
      have gH := gl (x := "_law_holds") f3 (by kernel_rfl) (v := .ref 273) (by kernel_rfl)
      have hgl := enc_length g
      exact ⟨[(.str (enc g), false), (.str (encW v), false)], true, asg_name 0 (acc := none) rfl own_none, .inl ⟨rfl, rfl⟩, ⟨.at (.bool (holdsV (enc g) (encW v))), true, rfl, ev_call (by rfl) gH (.cons (ev_local 0 okc3 rfl rfl (by intro q; cases q)) (.cons (ev_cell 1 okc3 rfl rfl (by intro q; cases q)) .nil)) (law_holds (k := k + 4) f3.top (by rw [sz]; omega)) (fn_at f3.top (o := o273_0 w.params) (by kernel_rfl) rfl)⟩, .any (.same .nil)⟩
    · rw [holdF_eq, List.length_map, List.length_map, sz]; omega
    · cases hq : (gs.map fun g => holdsV (enc g) (encW v)).all id with
      | true => exact ⟨.at (.str (encW v)), false, filtF_t hq, ev_cell 0 okc rfl rfl (by intro q; cases q)⟩
      | false => exact filtF_f hq
  · rw [models_eq, List.length_map, sz]
    exact Nat.le_trans (List.length_filter_le _ _) (by decide)
end
open Wk Hd2
def shStep (ms : List Wd) (sh : List Cl) (c : Cl) : List Cl := if sh.any (fun x => within x c) then sh else if ms.all (fun v => holds c v) then sh ++ [c] else sh
def shV (ms : List Wd) (l : List Cl) : List Cl := l.foldl (shStep ms) []
def dec (x : Str) : Cl := ((List.finRange 27).find? fun c => enc c == x).getD 0
theorem dec_enc : ∀ c : Cl, dec (enc c) = c := by decide +kernel
def BySize (l : List Cl) : Prop := l.Perm cl27 ∧ l.Pairwise fun x y => (encL x).length ≤ (encL y).length
theorem bySize_of {l₁ : List Str} (h : SortedLen (cl27.map enc) l₁) : ∃ l, BySize l ∧ l₁ = l.map enc := by
  obtain ⟨h1, h2⟩ := h
  have hall : ∀ x ∈ l₁, enc (dec x) = x := fun x hx => by
    obtain ⟨c, _, rfl⟩ := List.mem_map.mp (h1.mem_iff.mp hx)
    rw [dec_enc]
  have e : l₁ = (l₁.map dec).map enc := by
    rw [List.map_map]
    conv => lhs; rw [← List.map_id l₁]
    exact List.map_congr_left fun x hx => (hall x hx).symm
  refine ⟨l₁.map dec, ⟨?_, ?_⟩, e⟩
  · have := h1.map dec
    rw [List.map_map] at this
    have e2 : cl27.map (dec ∘ enc) = cl27 := by
      conv => rhs; rw [← List.map_id cl27]
      exact List.map_congr_left fun c _ => dec_enc c
    rwa [e2] at this
  · rw [List.pairwise_map]
    refine h2.imp_of_mem fun {x y} hx hy h => ?_
    have ex : x.length = (encL (dec x)).length := by
      conv => lhs; rw [← hall x hx]
      simp [enc, Str.length]
    have ey : y.length = (encL (dec y)).length := by
      conv => lhs; rw [← hall y hy]
      simp [enc, Str.length]
    omega
theorem shV_nodup (ms : List Wd) : ∀ (l sh : List Cl), (sh ++ l).Nodup → (l.foldl (shStep ms) sh).Sublist (sh ++ l) ∧ (l.foldl (shStep ms) sh).Nodup
  | [], sh, h => by simpa using h
  | c :: l, sh, h => by
    rw [List.foldl_cons]
    have hsub : (sh ++ l).Sublist (sh ++ c :: l) := List.Sublist.append_left (List.sublist_cons_self ..) _
    have key : shStep ms sh c = sh ∨ shStep ms sh c = sh ++ [c] := by
      unfold shStep
      split
      · exact .inl rfl
      · split
        · exact .inr rfl
        · exact .inl rfl
    rcases key with e | e
    · rw [e]
      have ih := shV_nodup ms l sh (h.sublist hsub)
      exact ⟨ih.1.trans hsub, ih.2⟩
    · rw [e]
      have ih := shV_nodup ms l (sh ++ [c]) (by simpa using h)
      exact ⟨by simpa using ih.1, ih.2⟩
theorem cl27_nodup : cl27.Nodup := by decide
theorem shV_ok (ms : List Wd) {l : List Cl} (h : l.Nodup) : (shV ms l).Nodup ∧ (shV ms l).length ≤ 27 := by
  have := (shV_nodup ms l [] (by simpa using h)).2
  exact ⟨this, cl_bound this⟩
theorem any_empty (sh : List Cl) (c : Cl) : (strsIV ((sh.map enc).filter fun y => withinV y (enc c))).isEmpty = !sh.any (fun x => within x c) := by
  induction sh with
  | nil => rfl
  | cons x sh ih =>
    rw [List.map_cons, List.filter_cons, List.any_cons, within_enc]
    cases within x c with
    | true => rfl
    | false => simpa using ih
def holdG (c : Str) (x : IV) : List IV := [match x with | .at (.str v) => .at (.bool (holdsV c v)) | _ => x]
theorem holdG_eq (c : Str) (ms : List Wd) : (wIV ms).flatMap (holdG c) = boolsIV (ms.map fun v => holdsV c (encW v)) := by
  induction ms with
  | nil => rfl
  | cons v l ih => simp only [List.map_cons, List.flatMap_cons, ih]; rfl
theorem all_holds (c : Cl) (ms : List Wd) : (ms.map fun v => holdsV (enc c) (encW v)).all id = ms.all fun v => holds c v := by
  rw [List.all_map]
  congr 1
  funext v
  exact holds_enc c v
section
variable {w : World} {L : Addr} {base : Addr → Option Obj} {os : OsState} {k : Nat}
abbrev rs (S G O M Ws Ms : PV × Bool) (sh : PV × Bool) (clause : PV × Bool) : Rho := rh (script := S) (given := G) (order := O) (mail := M) (worlds := Ws) (models := Ms) (shortest := sh) (clause := clause)
set_option maxHeartbeats 8000000 in
theorem seg_shortest (t : Top w base) (ok : FmOk (LF w L base os)) {S G O M Ws : PV × Bool} {ms : List Wd} (hms : ms.length ≤ 8) :
    ExS pw w (LF w L base os) (rs S G O M Ws (.list (wIV ms), false) (.list [], true) E0) (k + 5) (exec (st 8) (LF w L base os).env) (fun fl ρ' => fl = .next ∧ ∃ l, BySize l ∧ ρ' = rs S G O M Ws (.list (wIV ms), false) (.list (clsIV (shV ms l)), true) E0) := by
  have f := lawFr (L := L) (os := os) t
  have gS := bi (x := "sorted") f (by kernel_rfl) (by kernel_rfl) (v := .builtin "sorted") (by kernel_rfl)
  have gN := bi (x := "len") f (by kernel_rfl) (by kernel_rfl) (v := .builtin "len") (by kernel_rfl)
  have gA := bi (x := "all") f (by kernel_rfl) (by kernel_rfl) (v := .builtin "all") (by kernel_rfl)
  have sz : sizeLine = 16777216 := sizeLine_eq
  refine ex_forE (ite_sorted_len (l := cl27.map enc) (by rfl) gS gN (ev_comp_eq [] [("a", .loc), ("b", .loc), ("c", .loc)] (three "a" "A") (tri (three "b" "B") (three "c" "C")) ok cls_eq ⟨by rfl, ⟨by kernel_rfl, by kernel_rfl, by kernel_rfl, trivial⟩, by kernel_rfl, by decide, by decide +kernel, by intro _; rfl, rfl, itj_list (src_fresh (ev_list (by rfl) (.cons ev_str (.cons ev_str (.cons ev_str .nil))) (by show (3 : Nat) ≤ sizeLine; rw [sz]; decide)) rfl), ?_, ?_⟩) (by rw [List.length_map]; decide) (by rw [List.length_map]; decide) ?_)
    (fun l ρ' => ∃ done rest, BySize (done ++ rest) ∧ l = clsIV rest ∧ ρ' = rs S G O M Ws (.list (wIV ms), false) (.list (clsIV (shV ms done)), true) E0) ?_ ?_ ?_
  · intro C D base2 hbase2 okc x hx
    obtain ⟨a, rfl, ha⟩ := mem_three hx
    refine ⟨[(.str a, false), E0, E0], true, asg_name 0 (acc := none) rfl own_none, .inl ⟨rfl, rfl⟩, ⟨three "b" "B", fun y => (three "c" "C").flatMap fun z => [.at (.str (a ++ strOf y ++ strOf z))], rfl, by intro _; rfl, itj_list (src_fresh (ev_list (by rfl) (.cons ev_str (.cons ev_str (.cons ev_str .nil))) (by show (3 : Nat) ≤ sizeLine; rw [sz]; decide)) rfl), rfl, ?_⟩, .any (Weaker.refl _)⟩
    intro y hy
    obtain ⟨b, rfl, hb⟩ := mem_three hy
    refine ⟨[(.str a, false), (.str b, false), E0], true, asg_name 1 (acc := none) rfl own_none, .inl ⟨rfl, rfl⟩, ⟨three "c" "C", fun z => [.at (.str (a ++ b ++ strOf z))], rfl, by intro _; rfl, itj_list (src_fresh (ev_list (by rfl) (.cons ev_str (.cons ev_str (.cons ev_str .nil))) (by show (3 : Nat) ≤ sizeLine; rw [sz]; decide)) rfl), rfl, ?_⟩, .same (.any (Weaker.refl _))⟩
    intro z hz
    obtain ⟨c, rfl, hc⟩ := mem_three hz
    have e1 : ("a" : Str).length = 1 ∧ ("A" : Str).length = 1 ∧ ("b" : Str).length = 1 ∧ ("B" : Str).length = 1 ∧ ("c" : Str).length = 1 ∧ ("C" : Str).length = 1 := by decide +kernel
    exact ⟨[(.str a, false), (.str b, false), (.str c, false)], true, asg_name 2 (acc := none) rfl own_none, .inl ⟨rfl, rfl⟩, ⟨.at (.str (a ++ b ++ c)), true, rfl, ev_bin (ev_bin (fr := true) (ev_local 0 okc rfl rfl (by intro q; cases q)) (ev_local 1 okc rfl rfl (by intro q; cases q)) (op_add_str (by rw [sz]; omega))) (ev_local 2 okc rfl rfl (by intro q; cases q)) (op_add_str (by rw [str_len_app, sz]; omega))⟩, .same (.same (.any (Weaker.refl _)))⟩
  · rw [cls_eq, List.length_map, List.length_map, sz]; decide
  · intro x hx
    obtain ⟨c, _, rfl⟩ := List.mem_map.mp hx
    have := enc_length c
    omega
  · rintro l ⟨l₁, h1, rfl⟩
    obtain ⟨l, h2, rfl⟩ := bySize_of h1
    exact ⟨[], l, h2, clsIV_eq l, rfl⟩
  · rintro ρ' ⟨done, rest, h1, h2, rfl⟩
    have hr : rest = [] := by cases rest with | nil => rfl | cons c r => cases h2
    subst hr
    exact ⟨rfl, done, by simpa using h1, rfl⟩
  · rintro x rest' ρ' ⟨done, rest, h1, h2, rfl⟩
    cases rest with
    | nil => cases h2
    | cons c rest =>
      have h2 : x :: rest' = .at (.str (enc c)) :: clsIV rest := h2
      obtain ⟨rfl, rfl⟩ := List.cons.inj h2
      have hdn : done.Nodup := (h1.1.nodup_iff.mpr cl27_nodup).sublist (List.sublist_append_left _ _)
      have hsl := (shV_ok ms hdn).2
      have e1 : shV ms (done ++ [c]) = shStep ms (shV ms done) c := by unfold shV; rw [List.foldl_append]; rfl
      have hcl := enc_length c
      refine ⟨_, asg_name 7 rfl ownC, ?_⟩
      show ExS pw w (LF w L base os) (rs S G O M Ws (.list (wIV ms), false) (.list (clsIV (shV ms done)), true) (oneS c)) (k + 5) _ _
      generalize hsh : shV ms done = sh at hsl e1 ⊢
      refine ex_post (P₁ := fun fl ρ' => fl = .next ∧ ρ' = rs S G O M Ws (.list (wIV ms), false) (.list (clsIV (shStep ms sh c)), true) (oneS c)) (ex_one (ex_if (b := !sh.any fun x => within x c) (EvB.weak (ρ' := rs S G O M Ws (.list (wIV ms), false) (.list (clsIV sh), false) (oneS c)) (eb_cmp (fr := true) (by rfl) (ev_comp_eq [("clause", L + 1 + 1 + 1 + 1)] [("one", .loc), ("clause", .cap 7)] (clsIV sh) (filtF fun y => withinV y (enc c)) ok (by rw [← clsIV_eq, filtF_eq]) ⟨by rfl, ⟨by kernel_rfl, ⟨by kernel_rfl, by kernel_rfl, _, rfl, rfl⟩, trivial⟩, by kernel_rfl, by decide, by decide +kernel, by intro _; rfl, rfl, itj_list (src_slot 20 rfl rfl), ?_, ?_⟩) (ev_list (by rfl) .nil (Nat.zero_le _)) ?_) (.same (.same (.same (.same (.same (.same (.same (.same (.same (.same (.same (.same (.same (.same (.same (.same (.same (.same (.same (.same (.dis (Weaker.refl _))))))))))))))))))))))) ?_)) ?_
      · intro C D2 base2 hbase2 okc z hz
        obtain ⟨x, hx, rfl⟩ := List.mem_map.mp hz
        have f2 := fr2_of f hbase2 okc
        have gW := gl (x := "_law_within") f2 (by kernel_rfl) (v := .ref 278) (by kernel_rfl)
        have hxl := enc_length x
        refine ⟨[(.str (enc x), false), (.str (enc c), false)], withinV (enc x) (enc c), asg_name 0 (acc := none) rfl own_none, .inr ⟨_, rfl, eb_call (fr := true) (ev_call (by rfl) gW (.cons (ev_local 0 okc rfl rfl (by intro q; cases q)) (.cons (ev_cell 1 okc rfl rfl (by intro q; cases q)) .nil)) (law_within (k := k + 4) f2.top (by rw [sz]; omega)) (fn_at f2.top (o := o278_0 w.params) (by kernel_rfl) rfl))⟩, ?_, .any (.same .nil)⟩
        cases hq : withinV (enc x) (enc c) with
        | true => exact ⟨.at (.str (enc x)), false, filtF_t hq, ev_local 0 okc rfl rfl (by intro q; cases q)⟩
        | false => exact filtF_f hq
      · rw [← clsIV_eq, filtF_eq, List.length_map]
        refine Nat.le_trans (List.length_filter_le _ _) ?_
        rw [List.length_map, sz]; omega
      · have h9 := op_eq_nil (prog := pw) (w := w) (k := k + 5) (l := strsIV ((sh.map enc).filter fun y => withinV y (enc c)))
        rw [any_empty] at h9
        exact h9
      · cases hq : sh.any fun x => within x c with
        | true =>
          refine ex_nil ⟨rfl, ?_⟩
          have : shStep ms sh c = sh := by unfold shStep; rw [hq]; rfl
          rw [this]
        | false =>
          have e2 : shStep ms sh c = if ms.all (fun v => holds c v) then sh ++ [c] else sh := by unfold shStep; rw [hq]; rfl
          refine ex_one (ex_if (b := (ms.map fun v => holdsV (enc c) (encW v)).all id) (eb_call (fr := true) (ev_call (by rfl) gA (.cons (ev_comp_eq [("clause", L + 1 + 1 + 1 + 1)] [("world", .loc), ("clause", .cap 7)] (wIV ms) (holdG (enc c)) ok (holdG_eq _ _) ⟨by rfl, ⟨by kernel_rfl, ⟨by kernel_rfl, by kernel_rfl, _, rfl, rfl⟩, trivial⟩, by kernel_rfl, by decide, by decide +kernel, by intro _; rfl, rfl, itj_list (src_slot 19 rfl rfl), ?_, ?_⟩) .nil) c_all (fun a e => nomatch e))) ?_)
          · intro C D2 base2 hbase2 okc z hz
            obtain ⟨v, hv, rfl⟩ := List.mem_map.mp hz
            have f2 := fr2_of f hbase2 okc
            have gH := gl (x := "_law_holds") f2 (by kernel_rfl) (v := .ref 273) (by kernel_rfl)
            exact ⟨[(.str (encW v), false), (.str (enc c), false)], true, asg_name 0 (acc := none) rfl own_none, .inl ⟨rfl, rfl⟩, ⟨.at (.bool (holdsV (enc c) (encW v))), true, rfl, ev_call (by rfl) gH (.cons (ev_cell 1 okc rfl rfl (by intro q; cases q)) (.cons (ev_local 0 okc rfl rfl (by intro q; cases q)) .nil)) (law_holds (k := k + 4) f2.top (by rw [sz]; omega)) (fn_at f2.top (o := o273_0 w.params) (by kernel_rfl) rfl)⟩, .any (.same .nil)⟩
          · rw [holdG_eq, List.length_map, List.length_map, sz]; omega
          · rw [all_holds]
            cases hm : ms.all (fun v => holds c v) with
            | true =>
              rw [hm] at e2
              have e2 : shStep ms sh c = sh ++ [c] := e2
              refine ex_one (ex_mono (ex_append 20 rfl rfl (ev_cell 7 ok rfl rfl (by intro q; cases q)) (by rw [List.length_map, sz]; omega) (by rfl) (by rfl) (by rfl) (by rfl)) fun fl ρ' ⟨q1, q2⟩ => ⟨q1, q2.trans ?_⟩)
              rw [e2]
              show _ = rs S G O M Ws (.list (wIV ms), false) (.list (clsIV (sh ++ [c])), true) (oneS c)
              unfold clsIV
              rw [List.map_append]
              rfl
            | false =>
              rw [hm] at e2
              have e2 : shStep ms sh c = sh := e2
              refine ex_nil ⟨rfl, ?_⟩
              rw [e2]
      · rintro fl ρ' ⟨rfl, rfl⟩
        refine ⟨rs S G O M Ws (.list (wIV ms), false) (.list (clsIV (shStep ms sh c)), true) E0, (.same (.same (.same (.same (.same (.same (.same (.any (Weaker.refl _))))))))), done ++ [c], rest, by simpa using h1, rfl, ?_⟩
        rw [e1]
end
open Wk Hd2
def lt (j v : Fin 3) : Nat := if v = 1 then 97 + j.val else 65 + j.val
theorem sgn_all (P : Nat → Bool) (j v : Fin 3) : (sgn j v).all P = (v == 0 || P (lt j v)) := by
  match v with
  | 0 => rfl
  | 1 => simp [sgn, lt]
  | 2 => simp [sgn, lt]
theorem signs_all (P : Nat → Bool) (g : Cl) : (encL g).all P = (List.finRange 3).all fun j => cg g j == 0 || P (lt j (cg g j)) := by
  unfold encL
  rw [List.all_append, List.all_append, sgn_all, sgn_all, sgn_all]
  rw [show List.finRange 3 = [0, 1, 2] from rfl]
  simp only [List.all_cons, List.all_nil, Bool.and_true, Bool.and_assoc]
theorem contains_lt : ∀ (c : Cl) (j v : Fin 3), v ≠ 0 → Txt.contains (enc c) (ch (lt j v)) = (v == cg c j) := by decide +kernel
theorem order_lt : ∀ o ∈ perms, ∀ (q : Fin 4) (j v : Fin 3), v ≠ 0 → Txt.contains (Txt.slice (orderS o) none (some ((q.val : Nat) : Int))) (Txt.lower (ch (lt j v))) = (o.take q.val).contains j := by decide +kernel
def nearA (o : List (Fin 3)) (q : Nat) (g c : Cl) : Bool := (List.finRange 3).all fun j => cg g j == 0 || (cg g j == cg c j || (o.take q).contains j)
def nearS (o : List (Fin 3)) (q : Fin 4) (c : Cl) (y : Str) : Bool := (y.cps.toList.map fun s => Txt.contains (enc c) (ch s) || Txt.contains (Txt.slice (orderS o) none (some ((q.val : Nat) : Int))) (Txt.lower (ch s))).all id
theorem near_enc {o : List (Fin 3)} (ho : o ∈ perms) (q : Fin 4) (g c : Cl) : nearS o q c (enc g) = nearA o q.val g c := by
  unfold nearS nearA
  rw [List.all_map]
  show (encL g).all _ = _
  rw [signs_all]
  congr 1
  funext j
  by_cases h : cg g j = 0
  · simp [h]
  · show (cg g j == 0 || (Txt.contains (enc c) (ch (lt j (cg g j))) || Txt.contains _ (Txt.lower (ch (lt j (cg g j)))))) = _
    rw [contains_lt c j _ h, order_lt o ho q j _ h]
def nearV (gs : List Cl) (o : List (Fin 3)) (q : Nat) (c : Cl) : List Cl := gs.filter fun g => nearA o q g c
theorem near_eq {gs : List Cl} {o : List (Fin 3)} (ho : o ∈ perms) (q : Fin 4) (c : Cl) : (clsIV gs).flatMap (filtF (nearS o q c)) = clsIV (nearV gs o q.val c) := by
  rw [← clsIV_eq, filtF_eq, List.filter_map, clsIV_eq]
  unfold nearV
  congr 2
  funext g
  exact near_enc ho q g c
def againstV (c : Cl) : List Wd := allWd.filter fun v => !holds c v
theorem against_eq (c : Cl) : (wIV allWd).flatMap (filtF fun y => !holdsV (enc c) y) = wIV (againstV c) := by
  rw [← wIV_eq, filtF_eq, List.filter_map, wIV_eq]
  unfold againstV
  congr 2
  funext v
  show (!holdsV (enc c) (encW v)) = _
  rw [holds_enc]
def tstV (gs : List Cl) (o : List (Fin 3)) (c : Cl) (q : Nat) : Bool := ((againstV c).filter fun v => (nearV gs o q c).all fun g => holds g v).isEmpty
theorem tst_eq (ns : List Cl) (as : List Wd) : (wIV as).flatMap (filtF fun y => (ns.map fun g => holdsV (enc g) y).all id) = wIV (as.filter fun v => ns.all fun g => holds g v) := by
  rw [← wIV_eq, filtF_eq, List.filter_map, wIV_eq]
  congr 2
  funext v
  show ((ns.map fun g => holdsV (enc g) (encW v)).all id) = _
  rw [all_id]
  congr 1
  funext g
  exact holds_enc g v
def dueV (gs : List Cl) (o : List (Fin 3)) (c : Cl) : Option Row := ((List.finRange 4).find? fun q => tstV gs o c q.val).map fun q => (4 - q.val, c)
theorem mul_dots : ∀ q : Fin 4, Txt.mul "." (4 - ((q.val : Nat) : Int)) = ⟨(List.replicate (4 - q.val) 46).toArray⟩ := by decide +kernel
theorem mul_ok : ∀ q : Fin 4, MulOk "." (4 - ((q.val : Nat) : Int)) := by unfold MulOk; decide +kernel
theorem due_row (q : Fin 4) (c : Cl) : (Txt.mul "." (4 - ((q.val : Nat) : Int)) ++ enc c : Str) = rowS (4 - q.val, c) := by
  rw [mul_dots]
  apply Str.ext'
  apply Array.toList_inj.mp
  rw [Str.cps_append, Array.toList_append]
  rfl
end L2
namespace Wk
variable {prog : Program} {w : World} {F : Fm} {ρ : Rho} {k : Nat}
/-- a or b, as a value -/
theorem ev_or {a b : PySem.Expr} {pos : PySem.Pos} {x y : Bool} {f1 f2 : Bool} (ha : EvJ prog w F ρ k a (.bool x) f1) (hb : EvJ prog w F ρ k b (.bool y) f2) : EvJ prog w F ρ k (.BoolOp .Or [a, b] pos) (.bool (x || y)) true := fun A s rm I => by
  refine BoolOp_or (wpAny_mono (ha A s rm I) (fun v s₁ ⟨x1, fp1, ⟨e1, _⟩, _⟩ => ?_) fun _ _ e => e)
  have e1 : v = .bool x := e1
  subst e1
  refine wpAny_truthy_bool ?_
  cases x with
  | true => exact give_trans x1 giv_bool
  | false =>
    refine BoolOp_one (wpAny_mono (hb A s₁ rm (I.ext x1)) (fun v s₂ ⟨x2, fp2, ⟨e2, _⟩, _⟩ => ?_) fun _ _ e => e)
    have e2 : v = .bool y := e2
    subst e2
    exact give_trans (x1.trans x2) giv_bool
end Wk
namespace L2
open Wk Hd2
def signF (c sl : Str) (x : IV) : List IV := [match x with | .at (.str s) => .at (.bool (Txt.contains c s || Txt.contains sl (Txt.lower s))) | _ => x]
theorem signF_eq (c sl g : Str) : (chars g).flatMap (signF c sl) = boolsIV (g.cps.toList.map fun s => Txt.contains c (ch s) || Txt.contains sl (Txt.lower (ch s))) := by
  unfold chars boolsIV
  induction g.cps.toList with
  | nil => rfl
  | cons y l ih => rw [List.map_cons, List.flatMap_cons, ih]; rfl
section
variable {w : World} {L : Addr} {base : Addr → Option Obj} {os : OsState} {k : Nat}
abbrev rdu (S O M Ms : PV × Bool) (gs : List Cl) (sh due clause against kk near : PV × Bool) : Rho := rh (script := S) (given := (.list (clsIV gs), false)) (k := kk) (clause := clause) (order := O) (mail := M) (worlds := (.list (wIV allWd), false)) (models := Ms) (shortest := sh) (due := due) (against := against) (near := near)
def bD : List Stmt := forBody (st 10)
def bK : List Stmt := forBody (sub bD 1)
set_option maxHeartbeats 8000000 in
theorem due_against (t : Top w base) (ok : FmOk (LF w L base os)) {S O M Ms sh due : PV × Bool} {gs : List Cl} {c : Cl} :
    ExS pw w (LF w L base os) (rdu S O M Ms gs sh due (oneS c) E0 E0 E0) (k + 5) (exec (sub bD 0) (LF w L base os).env) (Only (rdu S O M Ms gs sh due (oneS c) (.list (wIV (againstV c)), false) E0 E0)) := by
  have f := lawFr (L := L) (os := os) t
  have sz : sizeLine = 16777216 := sizeLine_eq
  have hcl := enc_length c
  refine ex_assign_comp_eq [("clause", L + 1 + 1 + 1 + 1)] [("world", .loc), ("clause", .cap 7)] (wIV allWd) (filtF fun y => !holdsV (enc c) y) 22 (acc := none) rfl own_none (by rfl) (own := false) (against_eq c) ⟨by rfl, ⟨by kernel_rfl, ⟨by kernel_rfl, by kernel_rfl, _, rfl, rfl⟩, trivial⟩, by kernel_rfl, by decide, by decide +kernel, by intro _; rfl, rfl, itj_list (src_slot 18 rfl rfl), ?_, ?_⟩
  · intro C D2 base2 hbase2 okc z hz
    obtain ⟨v, hv, rfl⟩ := List.mem_map.mp hz
    have f2 := fr2_of f hbase2 okc
    have gH := gl (x := "_law_holds") f2 (by kernel_rfl) (v := .ref 273) (by kernel_rfl)
    refine ⟨[(.str (encW v), false), (.str (enc c), false)], !holdsV (enc c) (encW v), asg_name 0 (acc := none) rfl own_none, .inr ⟨_, rfl, eb_not (eb_call (fr := true) (ev_call (by rfl) gH (.cons (ev_cell 1 okc rfl rfl (by intro q; cases q)) (.cons (ev_local 0 okc rfl rfl (by intro q; cases q)) .nil)) (law_holds (k := k + 4) f2.top (by rw [sz]; omega)) (fn_at f2.top (o := o273_0 w.params) (by kernel_rfl) rfl)))⟩, ?_, .any (.same .nil)⟩
    cases hq : !holdsV (enc c) (encW v) with
    | true => exact ⟨.at (.str (encW v)), false, filtF_t hq, ev_local 0 okc rfl rfl (by intro q; cases q)⟩
    | false => exact filtF_f hq
  · rw [against_eq, List.length_map, sz]
    exact Nat.le_trans (List.length_filter_le _ _) (by decide)
set_option maxHeartbeats 8000000 in
theorem due_near (t : Top w base) (ok : FmOk (LF w L base os)) {S M Ms sh due A : PV × Bool} {o : List (Fin 3)} (ho : o ∈ perms) {gs : List Cl} (hg : gs.length ≤ 27) {c : Cl} {q : Fin 4} :
    ExS pw w (LF w L base os) (rdu S (.str (orderS o), false) M Ms gs sh due (oneS c) A (.int ((q.val : Nat) : Int), false) E0) (k + 5) (exec (sub bK 0) (LF w L base os).env) (Only (rdu S (.str (orderS o), false) M Ms gs sh due (oneS c) A (.int ((q.val : Nat) : Int), false) (.list (clsIV (nearV gs o q.val c)), false))) := by
  have f := lawFr (L := L) (os := os) t
  have sz : sizeLine = 16777216 := sizeLine_eq
  have hcl := enc_length c
  have hol : o.length = 3 := by
    simp only [perms, List.mem_cons, List.not_mem_nil, or_false] at ho
    rcases ho with rfl | rfl | rfl | rfl | rfl | rfl <;> rfl
  refine ex_assign (own := false) 23 rfl ownN (ev_comp_eq [("order", L + 1 + 1 + 1 + 1 + 1), ("k", L + 1 + 1), ("clause", L + 1 + 1 + 1 + 1)] [("one", .loc), ("clause", .cap 7), ("k", .cap 2), ("order", .cap 8)] (clsIV gs) (filtF (nearS o q c)) ok (near_eq ho q c) ⟨by rfl, ⟨by kernel_rfl, ⟨by kernel_rfl, by kernel_rfl, _, rfl, rfl⟩, ⟨by kernel_rfl, by kernel_rfl, _, rfl, rfl⟩, ⟨by kernel_rfl, by kernel_rfl, _, rfl, rfl⟩, trivial⟩, by kernel_rfl, by decide, by decide +kernel, by intro _; rfl, rfl, itj_list (src_slot 1 rfl rfl), ?_, ?_⟩) rfl (by rfl)
  · intro C D base2 hbase2 okc x hx
    obtain ⟨g, hgm, rfl⟩ := List.mem_map.mp hx
    have hgl := enc_length g
    have f2 := fr2_of f hbase2 okc
    have gA := bi (x := "all") f2 (by kernel_rfl) (by kernel_rfl) (v := .builtin "all") (by kernel_rfl)
    refine ⟨[(.str (enc g), false), (.str (enc c), false), (.int ((q.val : Nat) : Int), false), (.str (orderS o), false)], nearS o q c (enc g), asg_name 0 (acc := none) rfl own_none, .inr ⟨_, rfl, eb_call (fr := true) (ev_call (by rfl) gA (.cons (ev_comp_eq [("order", L + 1 + 1 + 1 + 1 + 1), ("k", L + 1 + 1), ("clause", L + 1 + 1 + 1 + 1)] [("sign", .loc), ("clause", .cap 1), ("k", .cap 2), ("order", .cap 3)] (chars (enc g)) (signF (enc c) (Txt.slice (orderS o) none (some ((q.val : Nat) : Int)))) okc (signF_eq _ _ _) ⟨by rfl, ⟨by kernel_rfl, ⟨by kernel_rfl, by kernel_rfl, _, rfl, rfl⟩, ⟨by kernel_rfl, by kernel_rfl, _, rfl, rfl⟩, ⟨by kernel_rfl, by kernel_rfl, _, rfl, rfl⟩, trivial⟩, by kernel_rfl, by decide, by decide +kernel, by intro _; rfl, rfl, itj_str (ev_local 0 okc rfl rfl (by intro q; cases q)), ?_, ?_⟩) .nil) c_all (fun a e => nomatch e))⟩, ?_, .any (Weaker.refl _)⟩
    · intro C3 D3 base3 hbase3 okc3 z hz
      obtain ⟨s, hs, rfl⟩ := List.mem_map.mp hz
      have hsl : s ∈ letters := enc_letters g s (by simpa [enc] using hs)
      have hol2 : (orderS o).length ≤ 10 := by simp [orderS, Str.length]; omega
      exact ⟨[(.str (ch s), false), (.str (enc c), false), (.int ((q.val : Nat) : Int), false), (.str (orderS o), false)], true, asg_name 0 (acc := none) rfl own_none, .inl ⟨rfl, rfl⟩, ⟨.at (.bool (Txt.contains (enc c) (ch s) || Txt.contains (Txt.slice (orderS o) none (some ((q.val : Nat) : Int))) (Txt.lower (ch s)))), true, rfl, ev_or (ev_cmp (fr := true) (by rfl) (ev_local 0 okc3 rfl rfl (by intro q; cases q)) (ev_cell 1 okc3 rfl rfl (by intro q; cases q)) op_in_str) (ev_cmp (fr := true) (by rfl) (ev_meth (fr := true) (by rfl) (by rfl) (by rfl) (by decide) (ev_local 0 okc3 rfl rfl (by intro q; cases q)) .nil .str m_lower (c_lower (lower_letters s hsl).1)) (ev_slice_str (fr := true) (ev_cell 3 okc3 rfl rfl (by intro q; cases q)) .none (.some (ev_cell 2 okc3 rfl rfl (by intro q; cases q))) (by rw [sz]; omega)) op_in_str)⟩, .any (Weaker.refl _)⟩
    · rw [signF_eq, List.length_map, List.length_map, sz]
      have : (enc g).cps.toList.length ≤ 3 := by simpa [Str.length] using hgl
      omega
    · cases hq : nearS o q c (enc g) with
      | true => exact ⟨.at (.str (enc g)), false, filtF_t hq, ev_local 0 okc rfl rfl (by intro q; cases q)⟩
      | false => exact filtF_f hq
  · rw [near_eq ho, List.length_map, sz]
    exact Nat.le_trans (List.length_filter_le _ _) (by omega)
end
open Wk Hd2
theorem find_none_snoc {α : Type} (p : α → Bool) (d : List α) (x : α) (h : ∀ y ∈ d, p y = false) (hx : p x = false) : ∀ y ∈ d ++ [x], p y = false := fun y hy => by
  rcases List.mem_append.mp hy with hy | hy
  · exact h y hy
  · simp at hy; subst hy; exact hx
section
variable {w : World} {L : Addr} {base : Addr → Option Obj} {os : OsState} {k : Nat}
set_option maxHeartbeats 8000000 in
theorem due_inner (t : Top w base) (ok : FmOk (LF w L base os)) {S M Ms sh : PV × Bool} {o : List (Fin 3)} (ho : o ∈ perms) {gs : List Cl} (hg : gs.length ≤ 27) {c : Cl} {D : List Row} (hD : D.length ≤ 27) :
    ExS pw w (LF w L base os) (rdu S (.str (orderS o), false) M Ms gs sh (.list (rowIV D), true) (oneS c) (.list (wIV (againstV c)), false) E0 E0) (k + 5) (exec (sub bD 1) (LF w L base os).env) (fun fl ρ' => fl = .next ∧ ∃ K N, ρ' = rdu S (.str (orderS o), false) M Ms gs sh (.list (rowIV (D ++ (dueV gs o c).toList)), true) (oneS c) (.list (wIV (againstV c)), false) K N) := by
  have f := lawFr (L := L) (os := os) t
  have gR := bi (x := "range") f (by kernel_rfl) (by kernel_rfl) (v := .type "range") (by kernel_rfl)
  have sz : sizeLine = 16777216 := sizeLine_eq
  have hcl := enc_length c
  have hal : (againstV c).length ≤ 8 := Nat.le_trans (List.length_filter_le _ _) (by decide)
  refine ex_forM (List.finRange 4) (fun q => .at (.int ((q.val : Nat) : Int))) (fun done ρ' => (∀ q ∈ done, tstV gs o c q.val = false) ∧ ρ' = rdu S (.str (orderS o), false) M Ms gs sh (.list (rowIV D), true) (oneS c) (.list (wIV (againstV c)), false) E0 E0) (ItJ.cast (itj_range (by rfl) gR (ev_int (i := ((4 : Nat) : Int))) (by decide)) (by rfl)) ⟨fun q h => (nomatch h), rfl⟩ ?_ ?_
  · rintro ρ' ⟨h1, rfl⟩
    have : dueV gs o c = none := by
      unfold dueV
      rw [List.find?_eq_none.mpr fun q hq => by rw [h1 q hq]; simp]
      rfl
    rw [this]
    exact ⟨rfl, E0, E0, by simp⟩
  · rintro done q rest ρ' hxs ⟨h1, rfl⟩
    refine ⟨_, asg_name 2 rfl ownK, ?_⟩
    show ExS pw w (LF w L base os) (rdu S (.str (orderS o), false) M Ms gs sh (.list (rowIV D), true) (oneS c) (.list (wIV (againstV c)), false) (.int ((q.val : Nat) : Int), false) E0) (k + 5) _ _
    refine ex_then (due_near (k := k) t ok ho hg) ?_
    have hnl : (nearV gs o q.val c).length ≤ 27 := Nat.le_trans (List.length_filter_le _ _) hg
    have htst : tstV gs o c q.val = ((againstV c).filter fun v => (nearV gs o q.val c).all fun g => holds g v).isEmpty := rfl
    generalize nearV gs o q.val c = ns at hnl htst ⊢
    refine ex_one (ex_if (b := tstV gs o c q.val) (eb_cmp (fr := true) (by rfl) (ev_comp_eq [("near", L + 1 + 1 + 1 + 1 + 1 + 1)] [("world", .own), ("near", .cap 23)] (wIV (againstV c)) (filtF fun y => (ns.map fun g => holdsV (enc g) y).all id) ok (tst_eq ns _) ⟨by rfl, ⟨by kernel_rfl, ⟨by kernel_rfl, by kernel_rfl, _, rfl, rfl⟩, trivial⟩, by kernel_rfl, by decide, by decide +kernel, by intro _; rfl, rfl, itj_list (src_slot 22 rfl rfl), ?_, ?_⟩) (ev_list (by rfl) .nil (Nat.zero_le _)) ?_) ?_)
    · intro C D2 base2 hbase2 okc x hx
      obtain ⟨v, hv, rfl⟩ := List.mem_map.mp hx
      have f2 := fr2_of f hbase2 okc
      have gA := bi (x := "all") f2 (by kernel_rfl) (by kernel_rfl) (v := .builtin "all") (by kernel_rfl)
      refine ⟨[(.str (encW v), false), (.list (clsIV ns), false)], (ns.map fun g => holdsV (enc g) (encW v)).all id, asg_name 0 (acc := some (C + 1)) rfl (fun c e => by cases e; exact ⟨by kernel_rfl, "world", by simp, by rfl⟩), .inr ⟨_, rfl, eb_call (fr := true) (ev_call (by rfl) gA (.cons (ev_comp_eq [("world", C + 1)] [("one", .loc), ("world", .cap 0)] (clsIV ns) (holdF (encW v)) okc (holdF_eq _ _) ⟨by rfl, ⟨by kernel_rfl, ⟨by kernel_rfl, by kernel_rfl, _, rfl, rfl⟩, trivial⟩, by kernel_rfl, by decide, by decide +kernel, by intro _; rfl, rfl, itj_list (src_slot 1 rfl rfl), ?_, ?_⟩) .nil) c_all (fun a e => nomatch e))⟩, ?_, .any (.same .nil)⟩
      · intro C3 D3 base3 hbase3 okc3 z hz
        obtain ⟨g, hg, rfl⟩ := List.mem_map.mp hz
        have f3 := fr2_of f2 hbase3 okc3
        have gH := gl (x := "_law_holds") f3 (by kernel_rfl) (v := .ref 273) (by kernel_rfl)
        have hgl := enc_length g
        exact ⟨[(.str (enc g), false), (.str (encW v), false)], true, asg_name 0 (acc := none) rfl own_none, .inl ⟨rfl, rfl⟩, ⟨.at (.bool (holdsV (enc g) (encW v))), true, rfl, ev_call (by rfl) gH (.cons (ev_local 0 okc3 rfl rfl (by intro q; cases q)) (.cons (ev_cell 1 okc3 rfl rfl (by intro q; cases q)) .nil)) (law_holds (k := k + 4) f3.top (by rw [sz]; omega)) (fn_at f3.top (o := o273_0 w.params) (by kernel_rfl) rfl)⟩, .any (.same .nil)⟩
      · rw [holdF_eq, List.length_map, List.length_map, sz]; omega
      · cases hq : (ns.map fun g => holdsV (enc g) (encW v)).all id with
        | true => exact ⟨.at (.str (encW v)), false, filtF_t hq, ev_cell 0 okc rfl rfl (by intro q; cases q)⟩
        | false => exact filtF_f hq
    · rw [tst_eq, List.length_map, sz]
      exact Nat.le_trans (List.length_filter_le _ _) (by omega)
    · have h9 := op_eq_nil (prog := pw) (w := w) (k := k + 5) (l := wIV ((againstV c).filter fun v => ns.all fun g => holds g v))
      rw [List.isEmpty_map, ← htst] at h9
      exact h9
    · cases hq : tstV gs o c q.val with
      | false =>
        refine ex_post (P₁ := Only (rdu S (.str (orderS o), false) M Ms gs sh (.list (rowIV D), true) (oneS c) (.list (wIV (againstV c)), false) (.int ((q.val : Nat) : Int), false) (.list (clsIV ns), false))) (ex_nil ⟨rfl, rfl⟩) ?_
        rintro fl ρ' ⟨rfl, rfl⟩
        exact ⟨rdu S (.str (orderS o), false) M Ms gs sh (.list (rowIV D), true) (oneS c) (.list (wIV (againstV c)), false) E0 E0, (.same (.same (.any (.same (.same (.same (.same (.same (.same (.same (.same (.same (.same (.same (.same (.same (.same (.same (.same (.same (.same (.same (.same (.any (Weaker.refl _))))))))))))))))))))))))), find_none_snoc _ _ _ h1 hq, rfl⟩
      | true =>
        have hdue : dueV gs o c = some (4 - q.val, c) := by
          unfold dueV
          have : (List.finRange 4).find? (fun q => tstV gs o c q.val) = some q := by
            rw [hxs, List.find?_append, List.find?_eq_none.mpr (fun y hy => by rw [h1 y hy]; simp), List.find?_cons, hq]; rfl
          rw [this]; rfl
        rw [hdue]
        refine ex_then (ex_append 21 (y := .at (.str (rowS (4 - q.val, c)))) rfl rfl (ev_cast (q := .str (rowS (4 - q.val, c))) (ev_bin (fr := true) (ev_bin (fr := true) ev_str (ev_bin (fr := true) (ev_int (i := 4)) (ev_cell 2 ok rfl rfl (by intro q; cases q)) op_sub_int) (op_mul_str (mul_ok q))) (ev_cell 7 ok rfl rfl (by intro q; cases q)) (op_add_str (by
          rw [mul_dots, sz]
          have : (⟨(List.replicate (4 - q.val) 46).toArray⟩ : Str).length ≤ 4 := by simp [Str.length]
          omega))) (congrArg PV.str (due_row q c))) (by rw [List.length_map, sz]; omega) (by rfl) (by rfl) (by rfl) (by rfl)) ?_
        refine ex_one (ex_break ⟨rfl, (.int ((q.val : Nat) : Int), false), (.list (clsIV ns), false), ?_⟩)
        show _ = rdu S (.str (orderS o), false) M Ms gs sh (.list (rowIV (D ++ [(4 - q.val, c)])), true) (oneS c) (.list (wIV (againstV c)), false) (.int ((q.val : Nat) : Int), false) (.list (clsIV ns), false)
        unfold rowIV
        rw [List.map_append]
        rfl
set_option maxHeartbeats 8000000 in
theorem seg_due (t : Top w base) (ok : FmOk (LF w L base os)) {S M Ms : PV × Bool} {o : List (Fin 3)} (ho : o ∈ perms) {gs : List Cl} (hg : gs.length ≤ 27) {shs : List Cl} (hs : shs.length ≤ 27) :
    ExS pw w (LF w L base os) (rdu S (.str (orderS o), false) M Ms gs (.list (clsIV shs), false) (.list [], true) E0 E0 E0 E0) (k + 5) (exec (st 10) (LF w L base os).env) (Only (rdu S (.str (orderS o), false) M Ms gs (.list (clsIV shs), false) (.list (rowIV (shs.filterMap (dueV gs o))), true) E0 E0 E0 E0)) := by
  refine ex_forM shs (fun c => .at (.str (enc c))) (fun done ρ' => ρ' = rdu S (.str (orderS o), false) M Ms gs (.list (clsIV shs), false) (.list (rowIV (done.filterMap (dueV gs o))), true) E0 E0 E0 E0) (itj_list (src_slot 20 rfl rfl)) rfl (fun ρ' e => ⟨rfl, e⟩) ?_
  rintro done c rest ρ' hxs rfl
  have hdl : (done.filterMap (dueV gs o)).length ≤ 27 := by
    have h1 : done.length ≤ shs.length := by rw [hxs]; simp
    exact Nat.le_trans (List.length_filterMap_le _ _) (by omega)
  have e1 : (done ++ [c]).filterMap (dueV gs o) = done.filterMap (dueV gs o) ++ (dueV gs o c).toList := by
    rw [List.filterMap_append]
    congr 1
  generalize done.filterMap (dueV gs o) = D at hdl e1 ⊢
  refine ⟨_, asg_name 7 rfl ownC, ?_⟩
  show ExS pw w (LF w L base os) (rdu S (.str (orderS o), false) M Ms gs (.list (clsIV shs), false) (.list (rowIV D), true) (oneS c) E0 E0 E0) (k + 5) _ _
  refine ex_then (due_against (k := k) t ok) ?_
  refine ex_one (ex_post (due_inner (k := k) t ok ho hg hdl) ?_)
  rintro fl ρ' ⟨rfl, K, N, rfl⟩
  refine ⟨rdu S (.str (orderS o), false) M Ms gs (.list (clsIV shs), false) (.list (rowIV (D ++ (dueV gs o c).toList)), true) E0 E0 E0 E0, (.same (.same (.any (.same (.same (.same (.same (.any (.same (.same (.same (.same (.same (.same (.same (.same (.same (.same (.same (.same (.same (.same (.any (.any (Weaker.refl _))))))))))))))))))))))))), ?_⟩
  show _ = rdu S (.str (orderS o), false) M Ms gs (.list (clsIV shs), false) (.list (rowIV ((done ++ [c]).filterMap (dueV gs o))), true) E0 E0 E0 E0
  rw [e1]
end
open Wk Hd2
def finV (gs : List Cl) (o : List (Fin 3)) : List Row := o.foldl (fun R j => turnV j R) (gs.map fun c => (1, c))
theorem end_slice (R : List Row) : ((sliceRange (sliceBounds none (some (-1)) none (strsIV (Txt.split (mailS R) "\n")).length).1 (sliceBounds none (some (-1)) none (strsIV (Txt.split (mailS R) "\n")).length).2.1 (sliceBounds none (some (-1)) none (strsIV (Txt.split (mailS R) "\n")).length).2.2).filterMap ((strsIV (Txt.split (mailS R) "\n"))[·]?)) = strsIV (R.map rowS) := by
  rw [split_mail R]
  have e : strsIV (R.map rowS ++ [⟨#[]⟩]) = strsIV (R.map rowS) ++ [.at (.str ⟨#[]⟩)] := by
    unfold strsIV
    rw [List.map_append]; rfl
  rw [e]
  exact slice_init _ _
section
variable {w : World} {base : Addr → Option Obj} {k : Nat}
set_option maxHeartbeats 8000000 in
theorem law_call (t : Top w base) {ns : List Int} (hns : ns.length ≤ 63) (plain : ∀ (gs : List Cl) (o : List (Fin 3)) (l : List Cl), gs.Nodup → o ∈ perms → BySize l → (finV gs o).Perm ((shV (modelsV gs) l).filterMap (dueV gs o))) :
    CallP pw w base (k + 6) (.ref 283) [.list (intsIV ns)] (.bool true) true := by
  refine call_own (k := k + 5) (fd := fdOf (o283_0 w.params)) (sp := spL) (names := ["script"]) (n := 23) (body := fBody (bd 21)) (fnAt t (o := o283_0 w.params) (oc := o282_0 w.params) (by kernel_rfl) rfl rfl (by kernel_rfl) rfl rfl) rfl rfl ?_ ?_ (by decide) rfl rfl rfl ?_ (by kernel_rfl) (by kernel_rfl) (by kernel_rfl)
  · intro vals hv
    match vals, hv with
    | [v], _ => rfl
  · exact ⟨by kernel_rfl, by kernel_rfl, by kernel_rfl, by kernel_rfl, by kernel_rfl, by kernel_rfl, by kernel_rfl, by kernel_rfl, by kernel_rfl, by kernel_rfl, by kernel_rfl, by kernel_rfl, by kernel_rfl, by kernel_rfl, by kernel_rfl, by kernel_rfl, by kernel_rfl, by kernel_rfl, by kernel_rfl, by kernel_rfl, by kernel_rfl, by kernel_rfl, by kernel_rfl, by kernel_rfl, trivial⟩
  · intro L base' os hb ok
    have t' := t.up hb
    have f := lawFr (L := L) (os := os) t'
    have gS := bi (x := "sorted") f (by kernel_rfl) (by kernel_rfl) (v := .builtin "sorted") (by kernel_rfl)
    have sz : sizeLine = 16777216 := sizeLine_eq
    show ExS pw w (LF w L base' os) (rh (script := (.list (intsIV ns), false))) (k + 5) (execs (fBody (bd 21)) (LF w L base' os).env) _
    refine ex_then (ex_assign (own := true) 1 rfl ownG (ev_list (by rfl) .nil (Nat.zero_le _)) rfl (by rfl)) ?_
    refine ex_cons (seg_given (k := k + 2) t' ok hns) (fun ρ' h => ?_) (fun fl ρ' hne h => absurd h.1 hne)
    obtain ⟨_, gs, hnd, hgl, rfl⟩ := h
    refine ex_cons (seg_order (k := k + 2) t' ok hns) (fun ρ' h => ?_) (fun fl ρ' hne h => absurd h.1 hne)
    obtain ⟨_, o, ho, rfl⟩ := h
    have hol : o.length = 3 := by
      have ho := ho
      simp only [perms, List.mem_cons, List.not_mem_nil, or_false] at ho
      rcases ho with rfl | rfl | rfl | rfl | rfl | rfl <;> rfl
    refine ex_weak (ρ₁ := rh (script := (.list (intsIV ns), false)) (given := (.list (strsIV (gs.map enc)), false)) (order := (.str (orderS o), false))) (.same (.dis (Weaker.refl _))) ?_
    refine ex_then (seg_mail (k := k + 2) t' ok (by omega)) ?_
    rw [clsIV_eq]
    have hR0 : RowsOk (gs.map fun c => ((1, c) : Row)) 1 := by
      refine ⟨?_, fun r hr => ?_, fun r hr => ?_⟩
      · rw [List.map_map]
        have : (gs.map ((fun r : Row => r.2) ∘ fun c => (1, c))) = gs := List.map_id _
        rw [this]; exact hnd
      · obtain ⟨c, _, rfl⟩ := List.mem_map.mp hr; exact Nat.le_refl _
      · obtain ⟨c, _, rfl⟩ := List.mem_map.mp hr; exact Nat.le_refl _
    have hfS : (PV.list (intsIV ns)).flat = true := by
      show (intsIV ns).all IV.flat = true
      clear plain hns
      induction ns with | nil => rfl | cons r l ih => exact ih
    refine ex_then (seg_turns (k := k) t' ok (S := (.list (intsIV ns), false)) (G := (.list (clsIV gs), false)) hfS (flat_cls gs) rfl rfl hol hR0) ?_
    refine ex_then (seg_worlds (k := k) t' ok) ?_
    refine ex_then (seg_models (k := k) t' ok (by omega)) ?_
    refine ex_then (ex_assign (own := true) 20 (acc := none) rfl own_none (ev_list (by rfl) .nil (Nat.zero_le _)) rfl (by rfl)) ?_
    refine ex_cons (seg_shortest (k := k) t' ok (S := (.list (intsIV ns), false)) (G := (.list (clsIV gs), false)) (O := (.str (orderS o), false)) (M := (.str (mailS (finV gs o)), false)) (Ws := (.list (wIV allWd), false)) (ms := modelsV gs) (Nat.le_trans (List.length_filter_le _ _) (by decide))) (fun ρ' h => ?_) (fun fl ρ' hne h => absurd h.1 hne)
    obtain ⟨_, l, hl, rfl⟩ := h
    have hsh := shV_ok (modelsV gs) (hl.1.nodup_iff.mpr cl27_nodup)
    refine ex_then (ex_assign (own := true) 21 (acc := none) rfl own_none (ev_list (by rfl) .nil (Nat.zero_le _)) rfl (by rfl)) ?_
    refine ex_weak (ρ₁ := rdu (.list (intsIV ns), false) (.str (orderS o), false) (.str (mailS (finV gs o)), false) (.list (wIV (modelsV gs)), false) gs (.list (clsIV (shV (modelsV gs) l)), false) (.list [], true) E0 E0 E0 E0) (.same (.same (.same (.same (.same (.same (.same (.same (.same (.same (.same (.same (.same (.same (.same (.same (.same (.same (.same (.same (.dis (Weaker.refl _)))))))))))))))))))))) ?_
    refine ex_then (seg_due (k := k) t' ok ho (by omega) hsh.2) ?_
    have hp := plain gs o l hnd ho hl
    have hfl : RowsOk (finV gs o) (1 + 3) := by
      have := RowsOk.turns o hR0
      rw [hol] at this
      exact this
    have hml := mail_len hfl (by omega)
    have hpl := parts_len (mailS (finV gs o)) "\n"
    have hlen := hfl.len
    have hspl : (strsIV (Txt.split (mailS (finV gs o)) "\n")).length ≤ 28 := by rw [split_mail]; simp; omega
    refine ex_one (ex_return_iv (fr := true) (ev_sorted_eq (l := (finV gs o).map rowS) (l' := ((shV (modelsV gs) l).filterMap (dueV gs o)).map rowS) (by rfl) (by rfl) gS (by rfl) (ev_cast (ev_slice_list (ev_meth (fr := true) (by rfl) (by rfl) (by rfl) (by decide) (ev_local 9 ok rfl rfl (by intro q; cases q)) (.cons ev_str .nil) .str m_split (c_split (by decide) (by rw [sz]; omega) (by rw [sz]; omega))) .none (.some (ev_neg (fr := true) (ev_int (i := 1)))) .none (by simp) (by rw [sz]; omega)) (congrArg PV.list (end_slice _))) (ev_cast (ev_local 21 ok rfl rfl (by intro q; cases q)) (congrArg PV.list (rowIV_eq _).symm)) (hp.map rowS) (by rw [List.length_map]; omega)) rfl)
end
/-- small facts over the 27 clauses -/
theorem wi_refl : ∀ x : Cl, within x x = true := by decide +kernel
theorem wi_trans_j (a b c : Fin 3) : (a == 0 || a == b) = true → (b == 0 || b == c) = true → (a == 0 || a == c) = true := by revert a b c; decide
theorem wi_iff (x y : Cl) : within x y = true ↔ ∀ j : Fin 3, (cg x j == 0 || cg x j == cg y j) = true := by
  unfold within
  rw [List.all_eq_true]
  exact ⟨fun h j => h j (List.mem_finRange j), fun h j _ => h j⟩
theorem wi_trans {x y z : Cl} (h1 : within x y = true) (h2 : within y z = true) : within x z = true :=
  (wi_iff x z).mpr fun j => wi_trans_j _ _ _ ((wi_iff x y).mp h1 j) ((wi_iff y z).mp h2 j)
theorem wi_len : ∀ x y : Cl, within x y = true → x ≠ y → (encL x).length < (encL y).length := by decide +kernel
theorem wi_anti {x y : Cl} (h1 : within x y = true) (h2 : within y x = true) : x = y := by
  apply Decidable.byContradiction
  intro h
  have a := wi_len x y h1 h
  have b := wi_len y x h2 (fun e => h e.symm)
  omega
theorem wi_cs : ∀ (x : Cl) (j v : Fin 3), cg x j = 0 → within x (cs x j v) = true := by decide +kernel
theorem wi_cs0 : ∀ (x y : Cl) (j : Fin 3), within x y = true → cg y j ≠ 0 → cg x j = 0 → within (cs x j (cg y j)) y = true := by decide +kernel
theorem wi_cs2 : ∀ (x y : Cl) (j v : Fin 3), within x y = true → cg y j = 0 → within (cs x j v) (cs y j v) = true ∧ cg x j = 0 := by decide +kernel
theorem res_in : ∀ (o t x : Cl) (j : Fin 3), resv o t j = some x → cg o j = 1 → cg t j = 2 → cg x j = 0 ∧ within o (cs x j 1) = true ∧ within t (cs x j 2) = true := by
  have h : ∀ (o t : Cl) (j : Fin 3), cg o j = 1 → cg t j = 2 → ∀ x ∈ resv o t j, cg x j = 0 ∧ within o (cs x j 1) = true ∧ within t (cs x j 2) = true := by decide +kernel
  exact fun o t x j e h1 h2 => h o t j h1 h2 x e
theorem wi_off : ∀ (o x : Cl) (j v : Fin 3), cg x j = 0 → within o (cs x j v) = true → cg o j ≠ 0 → cg o j = v := by decide +kernel
theorem wi_off0 : ∀ (o x : Cl) (j v : Fin 3), cg x j = 0 → within o (cs x j v) = true → cg o j = 0 → within o x = true := by decide +kernel
theorem cgcs (x : Cl) (j v i : Fin 3) : cg (cs x j v) i = if i = j then v else cg x i := by revert x j v i; decide +kernel
/-- two clauses within `x` but for `j` meet in one within `x` -/
theorem wi_part (o x : Cl) (j v i : Fin 3) (hi : i ≠ j) (h : within o (cs x j v) = true) : cg o i = 0 ∨ cg o i = cg x i := by
  have := (wi_iff _ _).mp h i
  rw [cgcs, if_neg hi] at this
  simpa using this
theorem res_part : ∀ (a b c : Fin 3), (a = 0 ∨ a = c) → (b = 0 ∨ b = c) → ((a != 0 && b != 0 && a != b) = false) ∧ ((if a == 0 then b else a) == 0 || (if a == 0 then b else a) == c) = true := by decide
theorem cg_mrg : ∀ (o t : Cl) (i : Fin 3), cg (mrg o t j) i = if cg o i == 0 then cg t i else cg o i := by
  intro o t i
  unfold mrg
  simp only [cgcs]
  match i with
  | 0 => rfl
  | 1 => rfl
  | 2 => rfl
theorem res_of (o t x : Cl) (j : Fin 3) (h1 : within o (cs x j 1) = true) (h2 : within t (cs x j 2) = true) (hx : cg x j = 0) : ∃ y, resv o t j = some y ∧ within y x = true := by
  have hc : clash o t j = false := by
    unfold clash
    rw [List.any_eq_false]
    intro i _
    by_cases hi : i = j
    · simp [hi]
    · have := (res_part _ _ _ (wi_part o x j 1 i hi h1) (wi_part t x j 2 i hi h2)).1
      simp only [Bool.and_assoc] at this ⊢
      rw [this]
      simp
  refine ⟨cs (mrg o t j) j 0, by unfold resv; rw [hc]; rfl, (wi_iff _ _).mpr fun i => ?_⟩
  rw [cgcs]
  by_cases hi : i = j
  · rw [if_pos hi]; rfl
  · rw [if_neg hi, cg_mrg]
    exact (res_part _ _ _ (wi_part o x j 1 i hi h1) (wi_part t x j 2 i hi h2)).2
/-- the least of a set -/
def Lst (I : Cl → Bool) (x : Cl) : Prop := I x = true ∧ ∀ y, I y = true → within y x = true → y = x
theorem lst_below (I : Cl → Bool) : ∀ (n : Nat) (c : Cl), (encL c).length ≤ n → I c = true → ∃ m, within m c = true ∧ Lst I m := by
  intro n
  induction n with
  | zero =>
    intro c hn hc
    refine ⟨c, wi_refl c, hc, fun y _ hw => ?_⟩
    apply Decidable.byContradiction
    intro h
    have := wi_len y c hw h
    omega
  | succ n ih =>
    intro c hn hc
    by_cases h : ∃ y, I y = true ∧ within y c = true ∧ y ≠ c
    · obtain ⟨y, h1, h2, h3⟩ := h
      have := wi_len y c h2 h3
      obtain ⟨m, hm, hl⟩ := ih y (by omega) h1
      exact ⟨m, wi_trans hm h2, hl⟩
    · refine ⟨c, wi_refl c, hc, fun y hy hw => ?_⟩
      apply Decidable.byContradiction
      intro hne
      exact h ⟨y, hy, hw, hne⟩
theorem lst_ex {I : Cl → Bool} {c : Cl} (h : I c = true) : ∃ m, within m c = true ∧ Lst I m := lst_below I _ c (Nat.le_refl _) h
/-- upward closed -/
def Upw (I : Cl → Bool) : Prop := ∀ x y, within x y = true → I x = true → I y = true
/-- the set after one more letter -/
def nxt (j : Fin 3) (I : Cl → Bool) (c : Cl) : Bool := if cg c j = 0 then I (cs c j 1) && I (cs c j 2) else I c
theorem nxt_sub {I : Cl → Bool} (u : Upw I) (j : Fin 3) {x : Cl} (h : I x = true) : nxt j I x = true := by
  unfold nxt
  split
  · rename_i hz
    rw [u x _ (wi_cs x j 1 hz) h, u x _ (wi_cs x j 2 hz) h]; rfl
  · exact h
theorem v12 (v : Fin 3) (h : v ≠ 0) : v = 1 ∨ v = 2 := by revert v; decide
theorem nxt_upw {I : Cl → Bool} (u : Upw I) (j : Fin 3) : Upw (nxt j I) := by
  intro x y hw h
  unfold nxt at h ⊢
  by_cases hy : cg y j = 0
  · rw [if_pos hy]
    have h1 := wi_cs2 x y j 1 hw hy
    have h2 := wi_cs2 x y j 2 hw hy
    rw [if_pos h1.2, Bool.and_eq_true] at h
    rw [u _ _ h1.1 h.1, u _ _ h2.1 h.2]; rfl
  · rw [if_neg hy]
    by_cases hx : cg x j = 0
    · rw [if_pos hx, Bool.and_eq_true] at h
      have h0 := wi_cs0 x y j hw hy hx
      rcases v12 _ hy with e | e
      · rw [e] at h0; exact u _ _ h0 h.1
      · rw [e] at h0; exact u _ _ h0 h.2
    · rw [if_neg hx] at h
      exact u _ _ hw h
/-- members of the joined rows -/
theorem mem_addV {j : Fin 3} {o t : Cl} {R : List Row} {d : Nat} {x : Cl} : (d, x) ∈ addV j o t R ↔ (d, x) ∈ R ∨ (d = 1 ∧ x ∉ R.map (·.2) ∧ cg o j = 1 ∧ cg t j = 2 ∧ resv o t j = some x) := by
  unfold addV
  split
  · rename_i hj
    split
    · rename_i l hl
      split
      · rename_i hm
        refine ⟨.inl, fun h => h.elim id fun ⟨h1, h2, h3, h4, h5⟩ => ?_⟩
        rw [hl] at h5
        obtain rfl := Option.some.inj h5
        exact absurd hm h2
      · rename_i hm
        rw [List.mem_append]
        refine ⟨fun h => h.elim .inl fun h => ?_, fun h => h.elim .inl fun ⟨h1, h2, h3, h4, h5⟩ => ?_⟩
        · simp at h
          obtain ⟨rfl, rfl⟩ := h
          exact .inr ⟨rfl, hm, hj.1, hj.2, hl⟩
        · rw [hl] at h5
          obtain rfl := Option.some.inj h5
          subst h1
          exact .inr (by simp)
    · rename_i hl
      exact ⟨.inl, fun h => h.elim id fun ⟨_, _, _, _, h5⟩ => by rw [hl] at h5; cases h5⟩
  · rename_i hj
    exact ⟨.inl, fun h => h.elim id fun ⟨_, _, h3, h4, _⟩ => absurd ⟨h3, h4⟩ hj⟩
/-- the clauses that the pairs of `Q` bring -/
def Brings (j : Fin 3) (Q : List (Cl × Cl)) (x : Cl) : Prop := ∃ p ∈ Q, cg p.1 j = 1 ∧ cg p.2 j = 2 ∧ resv p.1 p.2 j = some x
theorem mem_adds {j : Fin 3} {d : Nat} {x : Cl} : ∀ (Q : List (Cl × Cl)) (R : List Row), (d, x) ∈ Q.foldl (fun R p => addV j p.1 p.2 R) R ↔ (d, x) ∈ R ∨ (d = 1 ∧ x ∉ R.map (·.2) ∧ Brings j Q x)
  | [], R => by simp [Brings]
  | p :: Q, R => by
    rw [List.foldl_cons, mem_adds Q, mem_addV]
    have hmem : ∀ y, y ∈ (addV j p.1 p.2 R).map (·.2) ↔ y ∈ R.map (·.2) ∨ (cg p.1 j = 1 ∧ cg p.2 j = 2 ∧ resv p.1 p.2 j = some y) := by
      intro y
      constructor
      · intro h
        obtain ⟨⟨d', y'⟩, hr, rfl⟩ := List.mem_map.mp h
        rcases mem_addV.mp hr with h | ⟨_, _, h⟩
        · exact .inl (List.mem_map.mpr ⟨_, h, rfl⟩)
        · exact .inr h
      · intro h
        by_cases hy : y ∈ R.map (·.2)
        · obtain ⟨⟨d', y'⟩, hr, rfl⟩ := List.mem_map.mp hy
          exact List.mem_map.mpr ⟨_, mem_addV.mpr (.inl hr), rfl⟩
        · rcases h with h | h
          · exact absurd h hy
          · exact List.mem_map.mpr ⟨(1, y), mem_addV.mpr (.inr ⟨rfl, hy, h⟩), rfl⟩
    constructor
    · rintro ((h | ⟨h1, h2, h3⟩) | ⟨h1, h2, p', h3, h4⟩)
      · exact .inl h
      · exact .inr ⟨h1, h2, p, List.mem_cons_self .., h3⟩
      · exact .inr ⟨h1, fun h => h2 ((hmem x).mpr (.inl h)), p', List.mem_cons_of_mem _ h3, h4⟩
    · rintro (h | ⟨h1, h2, p', h3, h4⟩)
      · exact .inl (.inl h)
      · rcases List.mem_cons.mp h3 with rfl | h3
        · exact .inl (.inr ⟨h1, h2, h4⟩)
        · by_cases hp : cg p.1 j = 1 ∧ cg p.2 j = 2 ∧ resv p.1 p.2 j = some x
          · exact .inl (.inr ⟨h1, h2, hp⟩)
          · exact .inr ⟨h1, fun h => ((hmem x).mp h).elim h2 hp, p', h3, h4⟩
theorem joins_pairs (j : Fin 3) (H : List Cl) : ∀ (H' : List Cl) (R : List Row), H'.foldl (fun R o => H.foldl (fun R t => addV j o t R) R) R = (H'.flatMap fun o => H.map fun t => (o, t)).foldl (fun R p => addV j p.1 p.2 R) R
  | [], R => rfl
  | o :: H', R => by
    rw [List.foldl_cons, joins_pairs j H H', List.flatMap_cons, List.foldl_append, List.foldl_map]
theorem brings_iff {j : Fin 3} {H : List Cl} {x : Cl} : Brings j (H.flatMap fun o => H.map fun t => (o, t)) x ↔ ∃ o ∈ H, ∃ t ∈ H, cg o j = 1 ∧ cg t j = 2 ∧ resv o t j = some x := by
  constructor
  · rintro ⟨p, hp, h⟩
    obtain ⟨o, ho, hp⟩ := List.mem_flatMap.mp hp
    obtain ⟨t, ht, rfl⟩ := List.mem_map.mp hp
    exact ⟨o, ho, t, ht, h⟩
  · rintro ⟨o, ho, t, ht, h⟩
    exact ⟨(o, t), List.mem_flatMap.mpr ⟨o, ho, List.mem_map.mpr ⟨t, ht, rfl⟩⟩, h⟩
theorem mem_joins {j : Fin 3} {R : List Row} {d : Nat} {x : Cl} : (d, x) ∈ joinsV j (R.map (·.2)) (R.map up) ↔ ((d, x) ∈ R.map up) ∨ (d = 1 ∧ x ∉ R.map (·.2) ∧ ∃ o ∈ R.map (·.2), ∃ t ∈ R.map (·.2), cg o j = 1 ∧ cg t j = 2 ∧ resv o t j = some x) := by
  unfold joinsV
  rw [joins_pairs, mem_adds, brings_iff, up_snd]
theorem mem_up {R : List Row} {d : Nat} {x : Cl} : (d, x) ∈ R.map up ↔ ∃ e, (e, x) ∈ R ∧ d = e + 1 := by
  constructor
  · intro h
    obtain ⟨⟨e, y⟩, hr, q⟩ := List.mem_map.mp h
    unfold up at q
    simp only [Prod.mk.injEq] at q
    obtain ⟨rfl, rfl⟩ := q
    exact ⟨e, hr, rfl⟩
  · rintro ⟨e, hr, rfl⟩
    exact List.mem_map.mpr ⟨(e, x), hr, rfl⟩
theorem mem_snd {R : List Row} {x : Cl} : x ∈ R.map (·.2) ↔ ∃ d, (d, x) ∈ R := by
  constructor
  · intro h
    obtain ⟨⟨d, y⟩, hr, rfl⟩ := List.mem_map.mp h
    exact ⟨d, hr⟩
  · rintro ⟨d, h⟩
    exact List.mem_map.mpr ⟨(d, x), h, rfl⟩
/-- rows that carry a set -/
structure Car (I : Cl → Bool) (R : List Row) : Prop where
  up : Upw I
  sound : ∀ x ∈ R.map (·.2), I x = true
  full : ∀ x, Lst I x → x ∈ R.map (·.2)
theorem mem_turn {I : Cl → Bool} {R : List Row} (c : Car I R) (j : Fin 3) {d : Nat} {x : Cl} : (d, x) ∈ turnV j R ↔ Lst (nxt j I) x ∧ ((∃ e, (e, x) ∈ R ∧ d = e + 1) ∨ (d = 1 ∧ x ∉ R.map (·.2))) := by
  have hs : ∀ y ∈ (joinsV j (R.map (·.2)) (R.map up)).map (·.2), nxt j I y = true := by
    intro y hy
    obtain ⟨e, hy⟩ := mem_snd.mp hy
    rcases mem_joins.mp hy with h | ⟨_, _, o, ho, t, ht, h1, h2, h3⟩
    · obtain ⟨e', h, _⟩ := mem_up.mp h
      exact nxt_sub c.up j (c.sound y (mem_snd.mpr ⟨e', h⟩))
    · obtain ⟨r1, r2, r3⟩ := res_in o t y j h3 h1 h2
      unfold nxt
      rw [if_pos r1, c.up _ _ r2 (c.sound o ho), c.up _ _ r3 (c.sound t ht)]; rfl
  have hf : ∀ y, Lst (nxt j I) y → y ∈ (joinsV j (R.map (·.2)) (R.map up)).map (·.2) := by
    intro y hy
    have inR : I y = true → y ∈ (joinsV j (R.map (·.2)) (R.map up)).map (·.2) := fun h => by
      have : Lst I y := ⟨h, fun z hz hw => hy.2 z (nxt_sub c.up j hz) hw⟩
      obtain ⟨e, he⟩ := mem_snd.mp (c.full y this)
      exact mem_snd.mpr ⟨e + 1, mem_joins.mpr (.inl (mem_up.mpr ⟨e, he, rfl⟩))⟩
    by_cases h0 : cg y j = 0
    · have h := hy.1
      unfold nxt at h
      rw [if_pos h0, Bool.and_eq_true] at h
      obtain ⟨o, ho, lo⟩ := lst_ex h.1
      obtain ⟨t, ht, lt⟩ := lst_ex h.2
      by_cases hoj : cg o j = 0
      · exact inR (c.up _ _ (wi_off0 o y j 1 h0 ho hoj) lo.1)
      · by_cases htj : cg t j = 0
        · exact inR (c.up _ _ (wi_off0 t y j 2 h0 ht htj) lt.1)
        · obtain ⟨z, hz, hw⟩ := res_of o t y j ho ht h0
          have oj := wi_off o y j 1 h0 ho hoj
          have tj := wi_off t y j 2 h0 ht htj
          have zi : nxt j I z = true := by
            obtain ⟨r1, r2, r3⟩ := res_in o t z j hz oj tj
            unfold nxt
            rw [if_pos r1, c.up _ _ r2 lo.1, c.up _ _ r3 lt.1]; rfl
          obtain rfl := hy.2 z zi hw
          by_cases hin : z ∈ R.map (·.2)
          · exact inR (c.sound z hin)
          · exact mem_snd.mpr ⟨1, mem_joins.mpr (.inr ⟨rfl, hin, o, c.full o lo, t, c.full t lt, oj, tj, hz⟩)⟩
    · have h := hy.1
      unfold nxt at h
      rw [if_neg h0] at h
      exact inR h
  have hk : ∀ y ∈ (joinsV j (R.map (·.2)) (R.map up)).map (·.2), keepV ((joinsV j (R.map (·.2)) (R.map up)).map (·.2)) y = true ↔ Lst (nxt j I) y := by
    intro y hy
    unfold keepV
    rw [List.all_eq_true]
    constructor
    · intro h
      refine ⟨hs y hy, fun z hz hw => ?_⟩
      obtain ⟨m, hm, lm⟩ := lst_ex hz
      have h1 := h m (hf m lm)
      have hmy := wi_trans hm hw
      rw [hmy, Bool.and_true] at h1
      have : m = y := by simpa using h1
      subst this
      exact wi_anti hw hm
    · intro h z hz
      by_cases e : z = y
      · simp [e]
      · cases q : within z y with
        | false => simp
        | true => exact absurd (h.2 z (hs z hz) q) e
  unfold turnV cutV
  rw [List.mem_filter]
  constructor
  · rintro ⟨h1, h2⟩
    refine ⟨(hk x (mem_snd.mpr ⟨d, h1⟩)).mp h2, ?_⟩
    rcases mem_joins.mp h1 with h | ⟨h, h', _⟩
    · exact .inl (mem_up.mp h)
    · exact .inr ⟨h, h'⟩
  · rintro ⟨h1, h2⟩
    have hx := hf x h1
    have hin : (d, x) ∈ joinsV j (R.map (·.2)) (R.map up) := by
      rcases h2 with h2 | ⟨rfl, h2⟩
      · exact mem_joins.mpr (.inl (mem_up.mpr h2))
      · obtain ⟨e, he⟩ := mem_snd.mp hx
        rcases mem_joins.mp he with h | ⟨h, h', h''⟩
        · obtain ⟨e', he', _⟩ := mem_up.mp h
          exact absurd (mem_snd.mpr ⟨e', he'⟩) h2
        · exact mem_joins.mpr (.inr ⟨rfl, h2, h''⟩)
    exact ⟨hin, (hk x hx).mpr h1⟩
theorem car_turn {I : Cl → Bool} {R : List Row} (c : Car I R) (j : Fin 3) : Car (nxt j I) (turnV j R) := by
  refine ⟨nxt_upw c.up j, fun x hx => ?_, fun x hx => ?_⟩
  · obtain ⟨d, h⟩ := mem_snd.mp hx
    exact ((mem_turn c j).mp h).1.1
  · by_cases h : x ∈ R.map (·.2)
    · obtain ⟨e, he⟩ := mem_snd.mp h
      exact mem_snd.mpr ⟨e + 1, (mem_turn c j).mpr ⟨hx, .inl ⟨e, he, rfl⟩⟩⟩
    · exact mem_snd.mpr ⟨1, (mem_turn c j).mpr ⟨hx, .inr ⟨rfl, h⟩⟩⟩
open Wk Hd2
def nearT (T : List (Fin 3)) (g c : Cl) : Bool := (List.finRange 3).all fun j => cg g j == 0 || (cg g j == cg c j || T.contains j)
def tstT (gs : List Cl) (T : List (Fin 3)) (c : Cl) : Bool := ((againstV c).filter fun v => (gs.filter fun g => nearT T g c).all fun g => holds g v).isEmpty
theorem no_holds (c : Cl) (v : Wd) : holds c v = false ↔ ∀ i : Fin 3, cg c i ≠ wl v i := by
  unfold holds
  rw [List.any_eq_false]
  exact ⟨fun h i e => h i (List.mem_finRange i) (by simp [e]), fun h i _ e => h i (by simpa using e)⟩
theorem near_iff (T : List (Fin 3)) (g c : Cl) : nearT T g c = true ↔ ∀ i : Fin 3, cg g i = 0 ∨ cg g i = cg c i ∨ i ∈ T := by
  unfold nearT
  rw [List.all_eq_true]
  constructor
  · intro h i
    have := h i (List.mem_finRange i)
    simpa using this
  · intro h i _
    have := h i
    simpa using this
theorem tst_iff (gs : List Cl) (T : List (Fin 3)) (c : Cl) : tstT gs T c = true ↔ ∀ v : Wd, holds c v = false → ∃ g ∈ gs, nearT T g c = true ∧ holds g v = false := by
  unfold tstT
  rw [List.isEmpty_iff, List.filter_eq_nil_iff]
  constructor
  · intro h v hv
    have h1 := h v (List.mem_filter.mpr ⟨List.mem_finRange v, by rw [hv]; rfl⟩)
    rw [List.all_eq_true] at h1
    apply Decidable.byContradiction
    intro hn
    apply h1
    intro g hg
    obtain ⟨hg1, hg2⟩ := List.mem_filter.mp hg
    cases q : holds g v with
    | true => rfl
    | false => exact absurd ⟨g, hg1, hg2, q⟩ hn
  · intro h v hv
    have hv2 := (List.mem_filter.mp hv).2
    have hv3 : holds c v = false := by cases q : holds c v with | false => rfl | true => rw [q] at hv2; cases hv2
    obtain ⟨g, hg, hn, hf⟩ := h v hv3
    intro ha
    rw [List.all_eq_true] at ha
    have := ha g (List.mem_filter.mpr ⟨hg, hn⟩)
    rw [hf] at this
    cases this
theorem wl_ne (v : Wd) (i : Fin 3) : wl v i ≠ 0 := by unfold wl; split <;> decide
theorem fig3 (a b u : Fin 3) (ha : a ≠ 0) (hb : b ≠ 0) (hu : u ≠ 0) (h1 : a ≠ b) (h2 : u ≠ b) : a = u := by revert a b u; decide
theorem opp (a : Fin 3) (h : a ≠ 0) : ∃ u : Fin 3, u ≠ a ∧ (u = 1 ∨ u = 2) := by revert a; decide
theorem some_world : ∀ c : Cl, ∃ v : Wd, holds c v = false := by decide +kernel
theorem tst_nil (gs : List Cl) (c : Cl) : tstT gs [] c = true ↔ ∃ g ∈ gs, within g c = true := by
  have hw : ∀ g, nearT [] g c = within g c := fun g => by
    unfold nearT within
    congr 1; funext j; simp
  rw [tst_iff]
  constructor
  · intro h
    obtain ⟨v, hv⟩ := some_world c
    obtain ⟨g, hg, hn, _⟩ := h v hv
    exact ⟨g, hg, by rw [← hw]; exact hn⟩
  · rintro ⟨g, hg, hn⟩ v hv
    refine ⟨g, hg, by rw [hw]; exact hn, (no_holds g v).mpr fun i e => ?_⟩
    have h1 := (wi_iff g c).mp hn i
    have h2 := (no_holds c v).mp hv i
    have h3 := wl_ne v i
    rw [e] at h1
    simp [h3] at h1
    exact h2 h1.symm
theorem tst_snoc (gs : List Cl) (T : List (Fin 3)) (j : Fin 3) (c : Cl) : tstT gs (T ++ [j]) c = nxt j (tstT gs T) c := by
  apply Bool.eq_iff_iff.mpr
  unfold nxt
  by_cases h0 : cg c j = 0
  · rw [if_pos h0, Bool.and_eq_true]
    have down : ∀ u : Fin 3, u ≠ 0 → tstT gs (T ++ [j]) c = true → tstT gs T (cs c j u) = true := by
      intro u hu h
      rw [tst_iff] at h ⊢
      intro v hv
      have hv' := (no_holds _ _).mp hv
      have huj := hv' j
      rw [cgcs, if_pos rfl] at huj
      obtain ⟨g, hg, hn, hf⟩ := h v ((no_holds _ _).mpr fun i e => by
        by_cases hi : i = j
        · subst hi; rw [h0] at e; exact wl_ne v i e.symm
        · have := hv' i
          rw [cgcs, if_neg hi] at this
          exact this e)
      refine ⟨g, hg, (near_iff _ _ _).mpr fun i => ?_, hf⟩
      rw [cgcs]
      by_cases hi : i = j
      · subst hi
        rw [if_pos rfl]
        by_cases hz : cg g i = 0
        · exact .inl hz
        · exact .inr (.inl (fig3 _ _ _ hz (wl_ne v i) hu ((no_holds _ _).mp hf i) huj))
      · rw [if_neg hi]
        rcases (near_iff _ _ _).mp hn i with h | h | h
        · exact .inl h
        · exact .inr (.inl h)
        · exact .inr (.inr (by simpa [hi] using h))
    refine ⟨fun h => ⟨down 1 (by decide) h, down 2 (by decide) h⟩, fun ⟨ha, hb⟩ => ?_⟩
    rw [tst_iff]
    intro v hv
    obtain ⟨u, hu, hu12⟩ := opp (wl v j) (wl_ne v j)
    have ht : tstT gs T (cs c j u) = true := by rcases hu12 with rfl | rfl <;> assumption
    obtain ⟨g, hg, hn, hf⟩ := (tst_iff _ _ _).mp ht v ((no_holds _ _).mpr fun i e => by
      rw [cgcs] at e
      by_cases hi : i = j
      · subst hi; rw [if_pos rfl] at e; exact hu e
      · rw [if_neg hi] at e; exact (no_holds _ _).mp hv i e)
    refine ⟨g, hg, (near_iff _ _ _).mpr fun i => ?_, hf⟩
    by_cases hi : i = j
    · exact .inr (.inr (by simp [hi]))
    · have := (near_iff _ _ _).mp hn i
      rw [cgcs, if_neg hi] at this
      rcases this with h | h | h
      · exact .inl h
      · exact .inr (.inl h)
      · exact .inr (.inr (List.mem_append_left _ h))
  · rw [if_neg h0, tst_iff, tst_iff]
    constructor
    · intro h v hv
      obtain ⟨g, hg, hn, hf⟩ := h v hv
      refine ⟨g, hg, (near_iff _ _ _).mpr fun i => ?_, hf⟩
      by_cases hi : i = j
      · subst hi
        by_cases hz : cg g i = 0
        · exact .inl hz
        · exact .inr (.inl (fig3 _ _ _ hz (wl_ne v i) h0 ((no_holds _ _).mp hf i) ((no_holds _ _).mp hv i)))
      · rcases (near_iff _ _ _).mp hn i with h | h | h
        · exact .inl h
        · exact .inr (.inl h)
        · exact .inr (.inr (by simpa [hi] using h))
    · intro h v hv
      obtain ⟨g, hg, hn, hf⟩ := h v hv
      refine ⟨g, hg, (near_iff _ _ _).mpr fun i => ?_, hf⟩
      rcases (near_iff _ _ _).mp hn i with h | h | h
      · exact .inl h
      · exact .inr (.inl h)
      · exact .inr (.inr (List.mem_append_left _ h))
theorem tst_mono (gs : List Cl) {T T' : List (Fin 3)} (h : ∀ i ∈ T, i ∈ T') {c : Cl} (ht : tstT gs T c = true) : tstT gs T' c = true := by
  rw [tst_iff] at ht ⊢
  intro v hv
  obtain ⟨g, hg, hn, hf⟩ := ht v hv
  refine ⟨g, hg, (near_iff _ _ _).mpr fun i => ?_, hf⟩
  rcases (near_iff _ _ _).mp hn i with q | q | q
  · exact .inl q
  · exact .inr (.inl q)
  · exact .inr (.inr (h i q))
structure Bth (gs : List Cl) (T : List (Fin 3)) (R : List Row) : Prop where
  car : Car (tstT gs T) R
  born : ∀ d x, (d, x) ∈ R → Lst (tstT gs T) x → ∃ q, q ≤ T.length ∧ tstT gs (T.take q) x = true ∧ (∀ p, p < q → tstT gs (T.take p) x = false) ∧ d + q = T.length + 1
  lst : T ≠ [] → ∀ x ∈ R.map (·.2), Lst (tstT gs T) x
theorem Bth.step {gs : List Cl} {T : List (Fin 3)} {R : List Row} (b : Bth gs T R) (j : Fin 3) : Bth gs (T ++ [j]) (turnV j R) := by
  have e : tstT gs (T ++ [j]) = nxt j (tstT gs T) := funext fun c => tst_snoc gs T j c
  refine ⟨by rw [e]; exact car_turn b.car j, fun d x hx hl => ?_, fun _ x hx => ?_⟩
  · obtain ⟨h1, h2⟩ := (mem_turn b.car j).mp hx
    have lo : tstT gs T x = true → Lst (tstT gs T) x := fun h => ⟨h, fun z hz hw => h1.2 z (nxt_sub b.car.up j hz) hw⟩
    have tk : ∀ q, q ≤ T.length → (T ++ [j]).take q = T.take q := fun q hq => by rw [List.take_append_of_le_length hq]
    rcases h2 with ⟨e', he, rfl⟩ | ⟨rfl, hn⟩
    · obtain ⟨q, q1, q2, q3, q4⟩ := b.born e' x he (lo (b.car.sound x (mem_snd.mpr ⟨e', he⟩)))
      refine ⟨q, by rw [List.length_append]; omega, by rw [tk q q1]; exact q2, fun p hp => by rw [tk p (by omega)]; exact q3 p hp, ?_⟩
      rw [List.length_append, List.length_singleton]
      omega
    · refine ⟨T.length + 1, by simp, by rw [List.take_of_length_le (by simp)]; exact hl.1, fun p hp => ?_, by simp; omega⟩
      rw [tk p (by omega)]
      cases q : tstT gs (T.take p) x with
      | false => rfl
      | true => exact absurd (b.car.full x (lo (tst_mono gs (fun i hi => List.mem_of_mem_take hi) q))) hn
  · obtain ⟨d, h⟩ := mem_snd.mp hx
    rw [e]
    exact ((mem_turn b.car j).mp h).1
theorem Bth.steps {gs : List Cl} : ∀ (o T : List (Fin 3)) {R : List Row}, Bth gs T R → Bth gs (T ++ o) (o.foldl (fun R j => turnV j R) R)
  | [], T, R, b => by rw [List.append_nil]; exact b
  | j :: o, T, R, b => by
    have := Bth.steps o (T ++ [j]) (b.step j)
    rw [List.append_assoc] at this
    exact this
theorem Bth.start (gs : List Cl) : Bth gs [] (gs.map fun c => (1, c)) := by
  have hm : (gs.map fun c => ((1, c) : Row)).map (·.2) = gs := by
    rw [List.map_map]
    have : (gs.map ((fun r : Row => r.2) ∘ fun c => (1, c))) = gs := List.map_id _
    exact this
  have hin : ∀ x ∈ gs, tstT gs [] x = true := fun x hx => (tst_nil gs x).mpr ⟨x, hx, wi_refl x⟩
  refine ⟨⟨fun x y hw h => ?_, fun x hx => ?_, fun x hx => ?_⟩, fun d x hx hl => ?_, fun h => absurd rfl h⟩
  · obtain ⟨g, hg, h⟩ := (tst_nil gs x).mp h
    exact (tst_nil gs y).mpr ⟨g, hg, wi_trans h hw⟩
  · rw [hm] at hx; exact hin x hx
  · rw [hm]
    obtain ⟨g, hg, h⟩ := (tst_nil gs x).mp hx.1
    obtain rfl := hx.2 g (hin g hg) h
    exact hg
  · obtain ⟨c, _, q⟩ := List.mem_map.mp hx
    simp only [Prod.mk.injEq] at q
    obtain ⟨rfl, rfl⟩ := q
    exact ⟨0, Nat.le_refl 0, by simpa using hl.1, fun p hp => absurd hp (Nat.not_lt_zero p), rfl⟩
theorem turn_nodup {j : Fin 3} {R : List Row} (h : (R.map (·.2)).Nodup) : ((turnV j R).map (·.2)).Nodup := by
  have key : ∀ (Q : List (Cl × Cl)) (R : List Row), (R.map (·.2)).Nodup → ((Q.foldl (fun R p => addV j p.1 p.2 R) R).map (·.2)).Nodup := by
    intro Q
    induction Q with
    | nil => exact fun R h => h
    | cons p Q ih => exact fun R h => ih _ (addV_nodup h)
  unfold turnV cutV joinsV
  rw [joins_pairs]
  exact (key _ _ (by rw [up_snd]; exact h)).sublist (List.Sublist.map _ (List.filter_sublist))
theorem turns_nodup : ∀ (o : List (Fin 3)) {R : List Row}, (R.map (·.2)).Nodup → ((o.foldl (fun R j => turnV j R) R).map (·.2)).Nodup
  | [], R, h => h
  | j :: o, R, h => turns_nodup o (turn_nodup h)
/-- the shortest clauses are the least -/
def allM (ms : List Wd) (c : Cl) : Bool := ms.all fun v => holds c v
theorem sh_mem (ms : List Wd) {l₀ : List Cl} (hl : BySize l₀) : ∀ (r p : List Cl) (sh : List Cl), l₀ = p ++ r → (∀ x, x ∈ sh ↔ x ∈ p ∧ Lst (allM ms) x) → ∀ x, x ∈ r.foldl (shStep ms) sh ↔ x ∈ l₀ ∧ Lst (allM ms) x
  | [], p, sh, e, h => by
    rw [List.append_nil] at e
    subst e
    exact h
  | c :: r, p, sh, e, h => by
    rw [List.foldl_cons]
    refine sh_mem ms hl r (p ++ [c]) _ (by rw [List.append_assoc]; exact e) fun x => ?_
    have hnd : (p ++ c :: r).Nodup := e ▸ hl.1.nodup_iff.mpr cl27_nodup
    have hcp : c ∉ p := fun hc => (List.nodup_append.mp hnd).2.2 c hc c (List.mem_cons_self ..) rfl
    have hpc : x ∈ p ++ [c] ↔ x ∈ p ∨ x = c := by simp
    unfold shStep
    split
    · rename_i ha
      obtain ⟨y, hy, hw⟩ := List.any_eq_true.mp ha
      rw [h x, hpc]
      refine ⟨fun q => ⟨.inl q.1, q.2⟩, fun ⟨q1, q2⟩ => ⟨q1.elim id fun q => ?_, q2⟩⟩
      subst q
      have hy' := (h y).mp hy
      have := q2.2 y hy'.2.1 hw
      subst this
      exact hy'.1
    · rename_i ha
      split
      · rename_i hm
        have hc : Lst (allM ms) c := by
          obtain ⟨m, hm1, hm2⟩ := lst_ex (I := allM ms) hm
          by_cases hmc : m = c
          · subst hmc; exact hm2
          · have hlt := wi_len m c hm1 hmc
            have hml : m ∈ p ++ c :: r := by
              rw [← e]
              exact hl.1.mem_iff.mpr (cl_all m)
            rcases List.mem_append.mp hml with q | q
            · exact absurd (List.any_eq_true.mpr ⟨m, (h m).mpr ⟨q, hm2⟩, hm1⟩) ha
            · rcases List.mem_cons.mp q with q | q
              · exact absurd q hmc
              · have h2 := hl.2
                rw [e] at h2
                have := List.rel_of_pairwise_cons (List.pairwise_append.mp h2).2.1 q
                omega
        rw [List.mem_append, h x, hpc]
        constructor
        · rintro (q | q)
          · exact ⟨.inl q.1, q.2⟩
          · rw [List.mem_singleton] at q
            subst q
            exact ⟨.inr rfl, hc⟩
        · rintro ⟨q1 | q1, q2⟩
          · exact .inl ⟨q1, q2⟩
          · exact .inr (List.mem_singleton.mpr q1)
      · rename_i hm
        rw [h x, hpc]
        refine ⟨fun q => ⟨.inl q.1, q.2⟩, fun ⟨q1, q2⟩ => ⟨q1.elim id fun q => ?_, q2⟩⟩
        subst q
        exact absurd q2.1 hm
where cl_all : ∀ m : Cl, m ∈ cl27 := by decide +kernel
theorem sh_iff (ms : List Wd) {l : List Cl} (hl : BySize l) (x : Cl) : x ∈ shV ms l ↔ Lst (allM ms) x := by
  have := sh_mem ms hl l [] [] rfl (fun x => by simp) x
  rw [show shV ms l = l.foldl (shStep ms) [] from rfl, this]
  exact ⟨fun h => h.2, fun h => ⟨hl.1.mem_iff.mpr (sh_mem.cl_all x), h⟩⟩
theorem all_near {o : List (Fin 3)} (ho : o ∈ perms) : ∀ i : Fin 3, i ∈ o := by revert o; decide
theorem tst_models (gs : List Cl) {o : List (Fin 3)} (ho : o ∈ perms) : tstT gs o = allM (modelsV gs) := by
  funext c
  apply Bool.eq_iff_iff.mpr
  rw [tst_iff]
  unfold allM modelsV
  rw [List.all_eq_true]
  constructor
  · intro h v hv
    have hg := (List.mem_filter.mp hv).2
    rw [List.all_eq_true] at hg
    cases q : holds c v with
    | true => rfl
    | false =>
      obtain ⟨g, hg1, _, hf⟩ := h v q
      rw [hg g hg1] at hf
      cases hf
  · intro h v hv
    apply Decidable.byContradiction
    intro hn
    have : v ∈ allWd.filter fun v => gs.all fun g => holds g v := by
      refine List.mem_filter.mpr ⟨List.mem_finRange v, List.all_eq_true.mpr fun g hg => ?_⟩
      cases q : holds g v with
      | true => rfl
      | false => exact absurd ⟨g, hg, (near_iff _ _ _).mpr fun i => .inr (.inr (all_near ho i)), q⟩ hn
    have := h v this
    rw [hv] at this
    cases this
theorem find_least {P : Nat → Bool} {q : Nat} (hq : q < 4) (h1 : P q = true) (h2 : ∀ p, p < q → P p = false) : (List.finRange 4).find? (fun q => P q.val) = some ⟨q, hq⟩ := by
  have e : List.finRange 4 = [0, 1, 2, 3] := rfl
  rw [e]
  match q, hq with
  | 0, _ => simp [List.find?, h1]
  | 1, _ => simp [List.find?, h1, h2 0 (by omega)]
  | 2, _ => simp [List.find?, h1, h2 0 (by omega), h2 1 (by omega)]
  | 3, _ =>
    simp [List.find?, h2 0 (by omega), h2 1 (by omega), h2 2 (by omega)]
    show (match P 3 with | true => some (3 : Fin 4) | false => none) = _
    rw [h1]
theorem plain (gs : List Cl) (o : List (Fin 3)) (l : List Cl) (hg : gs.Nodup) (ho : o ∈ perms) (hl : BySize l) : (finV gs o).Perm ((shV (modelsV gs) l).filterMap (dueV gs o)) := by
  have hol : o.length = 3 := by revert o; decide
  have hne : o ≠ [] := fun e => by rw [e] at hol; cases hol
  have b : Bth gs o (finV gs o) := by
    have := (Bth.start gs).steps o
    exact this
  have hsh := shV_ok (modelsV gs) (hl.1.nodup_iff.mpr cl27_nodup)
  have hm : (gs.map fun c => ((1, c) : Row)).map (·.2) = gs := by
    rw [List.map_map]
    have : (gs.map ((fun r : Row => r.2) ∘ fun c => (1, c))) = gs := List.map_id _
    exact this
  have due : ∀ d x q, q ≤ 3 → tstT gs (o.take q) x = true → (∀ p, p < q → tstT gs (o.take p) x = false) → d + q = 4 → dueV gs o x = some (d, x) := by
    intro d x q hq h1 h2 h3
    unfold dueV
    rw [find_least (P := fun q => tstV gs o x q) (q := q) (by omega) h1 h2]
    show some (4 - q, x) = some (d, x)
    rw [show 4 - q = d by omega]
  have hn1 : (finV gs o).Nodup := List.Pairwise.of_map (S := (· ≠ ·)) (·.2) (fun a b h e => h (by rw [e])) (turns_nodup o (by rw [hm]; exact hg))
  have hn2 : ((shV (modelsV gs) l).filterMap (dueV gs o)).Nodup := by
    refine List.Pairwise.filterMap (R := (· ≠ ·)) (S := (· ≠ ·)) _ (fun a a' hne b hb b' hb' => ?_) hsh.1
    have k : ∀ (a : Cl) (b : Row), dueV gs o a = some b → b.2 = a := by
      intro a b h
      unfold dueV at h
      obtain ⟨q, _, rfl⟩ := Option.map_eq_some_iff.mp h
      rfl
    intro e
    subst e
    exact hne ((k a b hb).symm.trans (k a' b hb'))
  refine (List.perm_ext_iff_of_nodup hn1 hn2).mpr fun r => ?_
  obtain ⟨d, x⟩ := r
  rw [List.mem_filterMap]
  have hto : ∀ d x, (d, x) ∈ finV gs o → dueV gs o x = some (d, x) ∧ x ∈ shV (modelsV gs) l := by
    intro d x h
    have hx := b.lst hne x (mem_snd.mpr ⟨d, h⟩)
    obtain ⟨q, q1, q2, q3, q4⟩ := b.born d x h hx
    refine ⟨due d x q (by omega) q2 q3 (by omega), (sh_iff _ hl x).mpr ?_⟩
    rw [tst_models gs ho] at hx
    exact hx
  constructor
  · intro h
    obtain ⟨h1, h2⟩ := hto d x h
    exact ⟨x, h2, h1⟩
  · rintro ⟨c, hc, hd⟩
    have hx := (sh_iff _ hl c).mp hc
    rw [← tst_models gs ho] at hx
    obtain ⟨e, he⟩ := mem_snd.mp (b.car.full c hx)
    obtain ⟨h1, _⟩ := hto e c he
    rw [hd] at h1
    obtain h1 := Option.some.inj h1
    rw [h1]
    exact he
end L2
namespace Hd2
noncomputable section
theorem plain_of_well {P : Params} {h : Heap} {a : Addr} {vs : List Value} {xs : List WData} (W : Well P h (.ref a) (.list xs)) (hl : h.IsList a vs.toArray) : PlainL h a vs.toArray := by
  cases W with
  | list ha wa =>
    obtain ⟨o, ho, _, n, hd⟩ := hl
    rw [ha] at ho; cases ho
    obtain ⟨e, _⟩ := Data.seq.inj hd
    exact ⟨_, _, ha, rfl, rfl, by rw [e]⟩
set_option maxHeartbeats 4000000 in
theorem head2 (walk : ∀ (w : World) (s : Shared) (L : Addr) (vs : List Value) (ns : List Int), YP w s.heap → s.gens = #[] → PlainL s.heap L vs.toArray → IntsAre vs ns → ns.length ≤ 63 →
    wpAny (model pw w) callerA (PySem.call (.ref 283) [.ref L]) (fun v s' => v = .bool true ∧ (∀ b o, s.heap.get? b = some o → s'.heap.get? b = some o) ∧ s'.os = s.os ∧ s'.gens = #[]) (fun _ _ => False) s) (said : rw_.row.wellSaid = true) : rw_.row.Holds := by
  refine PySem.W.holds_open (r := rw_.row) (q := qv) (loose := loose) (Xt := fun _ => true) (XP := fun _ _ => True) (YP := YP) (d := ⟨s "law", fArgs (bd 21), fBody (bd 21), fScope (bd 21), ⟨113, 0, 156, 55⟩⟩) (kwd := []) leftO (fun w s e => ?_) YP_keeps (fun _ _ => trivial) (fun _ _ _ _ _ => trivial) (by kernel_rfl) (by kernel_rfl) (by kernel_rfl) (fun s _ => recFacts_nil rfl) (by rfl) (by assumption) (by decide +kernel) ⟨rfl, rfl, rfl, rfl, rfl, by decide +kernel⟩ ?_ ?_
  · exact Eq.mpr (congrFun e w) (Classical.choose_spec (behind w)).2.2
  · w_witness2
  · intro w s₀ s₁ mg mb G Y a o pm cd doc dV kV ha hd hcd hD hmg hg args vals as hpre hlay hrd hwl hlo
    refine wpAny_mono ?_ (fun v s' x => GoodW.toG x) (fun e s' x => GoodW.toG x)
    wrow_args hpre hlay hrd hwl hlo
    rename_i ns _ _ _ _ _ _ _ L vs _ hL _ hW _ hI _ hc _
    have ea : a = 283 := by
      obtain ⟨o', es, ep, h1, h2, h3, h4⟩ := G.T.g
      have h5 : s₁.heap.get? mainGlobals = some (oMain w.params) := Y.1 _ _ (by kernel_rfl)
      rw [h5] at h1
      obtain rfl := Option.some.inj h1
      have h6 := (h4 (s "law")).trans hmg
      have h7 : nsOf (oMain w.params) (s "law") = some (.ref 283) := by kernel_rfl
      unfold nsOf at h7
      rw [h2] at h7
      exact Value.ref.inj (Option.some.inj (h6.symm.trans h7))
    subst ea
    refine wpAny_mono (walk w s₁ L vs ns Y hg (plain_of_well (xs := ofPys (ns.map PyData.int)) (by simpa only [ofPy] using hW) hL) hI (by omega)) (fun v s' h => ?_) (fun _ _ h => h.elim)
    obtain ⟨rfl, h1, h2, h3⟩ := h
    exact ⟨.inl ⟨.bool true, .bool true, [], rfl, fun _ => rfl, .bool true, postW_of rfl (w_eq_bool (w_res rfl) w_lit) rfl, unshared_nil⟩, h1, h2, h3⟩

end
end Hd2
namespace L2
open Wk Hd2
theorem ivs_ints {h : Heap} : ∀ {vs : List Value} {ns : List Int}, IntsAre vs ns → IVs h (intsIV ns) vs := by
  intro vs ns x
  induction x with
  | nil => exact trivial
  | cons => rename_i ih; exact ⟨⟨_, rfl⟩, ih⟩
theorem walk (w : World) (s : Shared) (L : Addr) (vs : List Value) (ns : List Int) (Y : YP w s.heap) (hg : s.gens = #[]) (hl : PlainL s.heap L vs.toArray) (hi : IntsAre vs ns) (hn : ns.length ≤ 63) :
    wpAny (model pw w) callerA (PySem.call (.ref 283) [.ref L]) (fun v s' => v = .bool true ∧ (∀ b o, s.heap.get? b = some o → s'.heap.get? b = some o) ∧ s'.os = s.os ∧ s'.gens = #[]) (fun _ _ => False) s := by
  have c := law_call (w := w) (base := s.heap.get?) (k := 20) (Top.of Y) hn plain
  refine wpAny_mono (c callerA s [.ref L] ⟨by decide, by decide, rfl⟩ hg (fun a o e => e) ⟨⟨[L], L, vs, rfl, hl, ivs_ints hi, rfl⟩, trivial⟩) (fun v s' h => ?_) (fun _ _ h => h.elim)
  obtain ⟨x, fp, r, _⟩ := h
  exact ⟨r.1, x.2, x.1.2, x.1.1.trans hg⟩
set_option maxHeartbeats 8000000 in
theorem said : PySem.Challenge.rw_re0177_02.wellSaid = true := by
  unfold OpenLaw.wellSaid OpenRow.wellSaid OpenRow.partSaid looksOpen
  repeat' (with_reducible refine PySem.W.look_both ?_ ?_)
  all_goals (try rewrite [PySem.W.Fast.te2368527892694137696])
  all_goals (try rewrite [PySem.W.Fast.te3471404346716756564])
  all_goals (try rewrite [PySem.W.Fast.te10792542408131684335])
  all_goals (try rewrite [PySem.W.Fast.te18344453789297297638])
  all_goals (try rewrite [PySem.W.Fast.te17119622794617984870])
  all_goals (try rewrite [PySem.W.Fast.te6984425678791042302])
  all_goals (try rewrite [PySem.W.Fast.te5318747976498570220])
  all_goals (try rewrite [PySem.W.Fast.te9807087744658564304])
  all_goals (try rewrite [PySem.W.Fast.te9572597257264208301])
  all_goals (try rewrite [PySem.W.Fast.te8326940854005059898])
  all_goals (try rewrite [PySem.W.Fast.te797321630700447069])
  all_goals (try rewrite [PySem.W.Fast.te4857012375875476094])
  all_goals (try rewrite [PySem.W.Fast.te17095254045102204799])
  all_goals (try rewrite [PySem.W.Fast.te12879404354523853263])
  all_goals (try rewrite [PySem.W.Fast.te9558739934217749035])
  all_goals (try rewrite [PySem.W.Fast.te8377067652309620493])
  all_goals (try rewrite [PySem.W.Fast.te8179353310426384613])
  all_goals (try rewrite [PySem.W.Fast.te7723801398212525404])
  all_goals (try rewrite [PySem.W.Fast.te5923862056798008813])
  all_goals (try rewrite [PySem.W.Fast.te482687673346738481])
  all_goals (try rewrite [PySem.W.Fast.te4274047373036748609])
  all_goals (try rewrite [PySem.W.Fast.te2357444279172408678])
  all_goals (try rewrite [PySem.W.Fast.te17868728402115742887])
  all_goals (try rewrite [PySem.W.Fast.te17691160309236699985])
  all_goals (try rewrite [PySem.W.Fast.te16286561074155671207])
  all_goals (try rewrite [PySem.W.Fast.te14412699480532031325])
  all_goals (try rewrite [PySem.W.Fast.te13582783067957832011])
  all_goals (try rewrite [PySem.W.Fast.te13343964577679436407])
  all_goals (try rewrite [PySem.W.Fast.te12862048085361865435])
  all_goals (try rewrite [PySem.W.Fast.te12749700546528644094])
  all_goals (try rewrite [PySem.W.Fast.te11788848310118352699])
  all_goals (try rewrite [PySem.W.Fast.te10501279942588096481])
  all_goals kernel_rfl
end L2
set_option maxRecDepth 100000 in
set_option maxHeartbeats 8000000 in
theorem PySem.Challenge.cw_re0177_02_holds : PySem.Challenge.rw_re0177_02.Holds := by
  exact holds_law L2.said (Hd2.head2 L2.walk)
