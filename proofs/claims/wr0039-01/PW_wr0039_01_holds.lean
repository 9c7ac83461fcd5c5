import PyProof.Rows.All
import Wide.All
import OpenK.AllK
import Wide.FinOn
import KE.KItem
import KE.FramesApart
import Lean
import PySem.Challenge.RW_wr0039_01
set_option Elab.async false
set_option linter.unusedVariables false
set_option linter.unusedSimpArgs false
set_option compiler.extract_closed false
set_option genSizeOf false
section
open PySem PySem.W PyProof.Rows PySem.Calls
namespace Mine.Hd

section
variable (p : Program) (w : World) (n₀ : Nat) (ann : Option Value)

noncomputable abbrev TR (N : Nat) (s : Shared) (t : Thread) (r : Shared) : Prop := topRun treeTable p w n₀ ann N s t = some r

-- from s the tree x goes to a and s' in B steps at most, whatever stands around
noncomputable def Ex {α : Type} (B : Nat) (x : Sem α) (s : Shared) (a : α) (s' : Shared) : Prop :=
  ∀ (K : α → Sem Fin) (H : Value → Sem Fin) (gd : Bool → Bool) (lv : List Value → List Value) (c : Code) (pos : Pos) (fr : Frame) (st : List Frame),
    ∃ n, n ≤ B ∧ ∃ pos', ∀ N r, TR p w n₀ ann N s' ⟨K a, c, pos', fr :: st⟩ r → TR p w n₀ ann (n + N) s ⟨x.wrap K H gd lv, c, pos, fr :: st⟩ r
end

section
variable {p : Program} {w : World} {n₀ : Nat} {ann : Option Value} {α β : Type} {s s' s₁ : Shared} {B B₁ B₂ : Nat}

theorem tr_step {N : Nat} {t t' : Thread} {r : Shared} (ht : through t = false) (hk : stepOk n₀ ann t = true) (hs : step (denote treeTable) p w s t = .go s' t') (h : TR p w n₀ ann N s' t' r) : TR p w n₀ ann (1 + N) s t r := by
  show topRun treeTable p w n₀ ann (1 + N) s t = some r
  rw [Nat.add_comm]
  unfold topRun
  rw [ht, hk]
  dsimp only
  rw [hs]
  exact h

theorem ex_mono {x : Sem α} {a : α} (h : Ex p w n₀ ann B₁ x s a s') (hB : B₁ ≤ B) : Ex p w n₀ ann B x s a s' := fun K H gd lv c pos fr st => by
  obtain ⟨n, hn, pos', k⟩ := h K H gd lv c pos fr st
  exact ⟨n, Nat.le_trans hn hB, pos', k⟩
theorem ex_pure {a : α} : Ex p w n₀ ann 0 (pure a) s a s := fun K H gd lv c pos fr st => ⟨0, Nat.le_refl _, pos, fun N r h => by rw [Nat.zero_add]; exact h⟩
theorem ex_bind {m : Sem α} {f : α → Sem β} {a : α} {b : β} (h₁ : Ex p w n₀ ann B₁ m s a s₁) (h₂ : Ex p w n₀ ann B₂ (f a) s₁ b s') : Ex p w n₀ ann (B₁ + B₂) (m >>= f) s b s' := fun K H gd lv c pos fr st => by
  obtain ⟨n, hn, pos', k⟩ := h₁ (fun a => (f a).wrap K H gd lv) H gd lv c pos fr st
  obtain ⟨n', hn', pos'', k'⟩ := h₂ K H gd lv c pos' fr st
  refine ⟨n + n', by omega, pos'', fun N r h => ?_⟩
  have := k _ _ (k' N r h)
  rw [Nat.add_assoc]
  rw [Sem.bind_eq_wrap', Sem.wrap_wrap]
  exact this
theorem ex_keep {vs : List Value} {m : Sem α} {a : α} (h : Ex p w n₀ ann B m s a s') : Ex p w n₀ ann B (m.keep vs) s a s' := fun K H gd lv c pos fr st => by
  obtain ⟨n, hn, pos', k⟩ := h K H gd (fun l => lv (vs ++ l)) c pos fr st
  refine ⟨n, hn, pos', fun N r h => ?_⟩
  rw [Sem.keep_eq_wrap, Sem.wrap_wrap]
  exact k N r h
theorem ex_holding {vs : List Value} {m : Sem α} {a : α} (h : Ex p w n₀ ann B m s a s') : Ex p w n₀ ann B (holding vs m) s a s' := by
  unfold holding
  split
  · exact h
  · exact ex_keep h
theorem ex_onRaise {m : Sem α} {k : Value → Sem Unit} {a : α} (h : Ex p w n₀ ann B m s a s') : Ex p w n₀ ann B (m.onRaise k) s a s' := fun K H gd lv c pos fr st => by
  obtain ⟨n, hn, pos', q⟩ := h K (fun e => ((k e).bind fun _ => (.raise e : Sem α)).wrap K H gd lv) gd lv c pos fr st
  refine ⟨n, hn, pos', fun N r h => ?_⟩
  rw [Sem.onRaise_eq_wrap, Sem.wrap_wrap]
  exact q N r h

theorem ex_rule {tag : String} : Ex p w n₀ ann 1 (rule tag) s () s := fun K H gd lv c pos fr st =>
  ⟨1, Nat.le_refl _, pos, fun N r h => tr_step (by simp only [through]; exact Bool.and_false _) rfl (by cases s; rfl) h⟩
theorem ex_standAt {q : Pos} : Ex p w n₀ ann 1 (standAt q) s () s := fun K H gd lv c pos fr st =>
  ⟨1, Nat.le_refl _, q, fun N r h => tr_step (by simp only [through]; exact Bool.and_false _) rfl (by cases s; rfl) h⟩
theorem ex_fresh : Ex p w n₀ ann 1 fresh s s.toks { s with toks := s.toks + 1 } := fun K H gd lv c pos fr st =>
  ⟨1, Nat.le_refl _, pos, fun N r h => tr_step (by simp only [through]; exact Bool.and_false _) rfl (by cases s; rfl) h⟩
theorem ex_alloc {o : Obj} : Ex p w n₀ ann 1 (alloc o) s s.heap.objs.size { s with heap := s.heap.push o } := fun K H gd lv c pos fr st =>
  ⟨1, Nat.le_refl _, pos, fun N r h => tr_step (by simp only [through]; exact Bool.and_false _) rfl (by cases s; rfl) h⟩
theorem ex_loadPart {a : Addr} {q : Option Value} {o : Obj} (e : s.heap.get? a = some o) : Ex p w n₀ ann 1 (loadPart a q) s o s := fun K H gd lv c pos fr st =>
  ⟨1, Nat.le_refl _, pos, fun N r h => tr_step (by simp only [through]; exact Bool.and_false _) rfl (by cases s; simp only [loadPart, Sem.wrap, step]; rw [e]) h⟩
theorem ex_updatePart {a : Addr} {q : Option Value} {f : Obj → Obj} {o : Obj} (e : s.heap.get? a = some o) (ha : (Nat.ble n₀ a || a == mainNs || a == cStatics || ann == some (.ref a)) = true) :
    Ex p w n₀ ann 1 (updatePart a q f) s () { s with heap := s.heap.update a f } := fun K H gd lv c pos fr st =>
  ⟨1, Nat.le_refl _, pos, fun N r h => tr_step (by simp only [through]; exact Bool.and_false _) (by simp only [stepOk, updatePart, Sem.wrap]; rw [ha]; rfl) (by cases s; simp only [updatePart, Sem.wrap, step]; rw [e]; rfl) h⟩
theorem ex_mkInt {i : Int} : Ex p w n₀ ann 1 (mkInt i) s (.int i s.toks) { s with toks := s.toks + 1 } := ex_mono (ex_bind ex_fresh ex_pure) (by omega)
theorem ex_mkText {x : Str} : Ex p w n₀ ann 1 (mkText x) s (.str x s.toks) { s with toks := s.toks + 1 } := ex_mono (ex_bind ex_fresh ex_pure) (by omega)
theorem ex_of_eq {x y : Sem α} {a : α} (e : x = y) (h : Ex p w n₀ ann B y s a s') : Ex p w n₀ ann B x s a s' := e ▸ h

-- a run of whole steps, by evaluation
theorem ex_go {x : Sem α} {a : α} {k : Nat} (h : ∀ (K : α → Sem Fin) (H : Value → Sem Fin) (gd : Bool → Bool) (lv : List Value → List Value) (c : Code) (pos : Pos) (fr : Frame) (st : List Frame),
    topGo treeTable p w n₀ ann k s ⟨x.wrap K H gd lv, c, pos, fr :: st⟩ = some (s', ⟨K a, c, pos, fr :: st⟩)) : Ex p w n₀ ann k x s a s' := fun K H gd lv c pos fr st =>
  ⟨k, Nat.le_refl _, pos, fun N r hr => go_top (h K H gd lv c pos fr st) hr⟩

end
end Mine.Hd
end
section
open PySem PySem.W PyProof.Rows PySem.Calls
namespace Mine.Hd
noncomputable def hashI (x : Int) : Int :=
  let h : Int := x.natAbs % (2 ^ 61 - 1 : Nat)
  let h := if x < 0 then -h else h
  if h == -1 then -2 else h
theorem hashI_eq {i : Int} (h0 : 0 ≤ i) (h1 : i < 2000000) : hashI i = i := by
  have e : ((i.natAbs : Int) % ((2 ^ 61 - 1 : Nat) : Int)) = i := by
    have e2 : ((2 ^ 61 - 1 : Nat) : Int) = 2305843009213693951 := by decide +kernel
    rw [e2]; omega
  show (if ((if i < 0 then -((i.natAbs : Int) % ((2 ^ 61 - 1 : Nat) : Int)) else ((i.natAbs : Int) % ((2 ^ 61 - 1 : Nat) : Int))) == -1) = true then (-2 : Int) else (if i < 0 then -((i.natAbs : Int) % ((2 ^ 61 - 1 : Nat) : Int)) else ((i.natAbs : Int) % ((2 ^ 61 - 1 : Nat) : Int)))) = i
  rw [e, if_neg (show ¬ i < 0 by omega), if_neg (by simp; omega)]
theorem reduced_eq {i : Int} (h0 : 0 ≤ i) (h1 : i < 2000000) : pyHashByItsType.reduced i = pure i := by
  unfold pyHashByItsType.reduced
  have : (decide (-(2 ^ 63 : Int) ≤ i) && decide (i < 2 ^ 63)) = true := by simp; omega
  simp only [this, if_true]
  have h2 : (i == -1) = false := by simp; omega
  simp only [h2]
  rfl

section
variable {p : Program} {w : World} {n₀ : Nat} {ann : Option Value} {α β : Type} {s s' s₁ : Shared} {B B₁ B₂ : Nat}
set_option maxRecDepth 100000 in
theorem go_pyHash (i : Int) (t : Tok) (h : Heap) (g : Array GenState) (d : Drawn) (tk : Nat) (os : OsState) (K : Int → Sem PySem.Fin) (H : Value → Sem PySem.Fin) (gd : Bool → Bool) (lv : List Value → List Value) (c : Code) (pos : Pos) (fr : Frame) (st : List Frame) (p : Program) (n₀ : Nat) (ann : Option Value) :
    ∀ w : World, topGo treeTable p w n₀ ann 5 ⟨h, g, d, tk, os⟩ ⟨(pyHash (.int i t)).wrap K H gd lv, c, pos, fr :: st⟩ = some (⟨h, g, d, tk + 1, os⟩, ⟨(pyHashByItsType.reduced (hashI i)).wrap K H gd lv, c, pos, fr :: st⟩) :=
  byRow2 "special-get-raises" (fun w => by kernel_rfl) (fun w => by kernel_rfl)
theorem ex_pyHash {i : Int} {t : Tok} (h0 : 0 ≤ i) (h1 : i < 2000000) : Ex p w n₀ ann 5 (pyHash (.int i t)) s i { s with toks := s.toks + 1 } := ex_go fun K H gd lv c pos fr st => by
  have := go_pyHash i t s.heap s.gens s.drawn s.toks s.os K H gd lv c pos fr st p n₀ ann w
  rw [hashI_eq h0 h1, reduced_eq h0 h1] at this
  exact this

theorem ex_dictEntries {a : Addr} {q : Option Value} {o : Obj} {es : Array DictEntry} {n : Nat} (e : s.heap.get? a = some o) (hd : o.data = .dict es n) : Ex p w n₀ ann 1 (dictEntries a q) s es s := by
  unfold dictEntries
  exact ex_mono (ex_bind (ex_loadPart e) (by rw [hd]; exact ex_pure)) (Nat.le_refl _)
theorem ex_dictEpoch {a : Addr} {q : Option Value} {o : Obj} {es : Array DictEntry} {n : Nat} (e : s.heap.get? a = some o) (hd : o.data = .dict es n) : Ex p w n₀ ann 1 (dictEpoch a q) s n s := by
  unfold dictEpoch
  exact ex_mono (ex_bind (ex_loadPart e) (by rw [hd]; exact ex_pure)) (Nat.le_refl _)

theorem places_none {es : Array DictEntry} {k : Int} (h : ∀ e ∈ es, e.hash ≠ k) : placesWithHash es.size (fun i => es[i]?.map (·.hash)) k = [] := by
  unfold placesWithHash
  rw [List.filter_eq_nil_iff]
  intro i hi
  simp only [List.mem_range] at hi
  simp only [Array.getElem?_eq_getElem hi, Option.map_some, beq_iff_eq, Option.some.injEq]
  exact h _ (Array.getElem_mem hi)

theorem ex_dictFind {d : Addr} {k : Int} {t : Tok} {o : Obj} {es : Array DictEntry} {n : Nat} (e : s.heap.get? d = some o) (hd : o.data = .dict es n) (hk : ∀ e ∈ es, e.hash ≠ k) :
    Ex p w n₀ ann 1 (dictFind d (.int k t) k) s none s := by
  unfold dictFind
  refine ex_holding (ex_mono (ex_bind (ex_dictEntries e hd) ?_) (Nat.le_refl (1 + 0)))
  simp only [places_none hk, List.filterMap_nil, List.all_cons, List.all_nil, carriedByValue, Bool.and_self, if_true]
  unfold dictWalkPlain
  exact ex_pure

theorem ex_updateDictKeys {d : Addr} {f : Array DictEntry → Array DictEntry} {q : Option Value} {o : Obj} {es : Array DictEntry} {n : Nat} (e : s.heap.get? d = some o) (hd : o.data = .dict es n) (hs : (f es).size ≤ 100000)
    (ha : (Nat.ble n₀ d || d == mainNs || d == cStatics || ann == some (.ref d)) = true) :
    Ex p w n₀ ann 3 (updateDictKeys d f q) s () { s with heap := s.heap.update d (Obj.mapDictKeys f) } := by
  obtain ⟨c, dd, dt, sl⟩ := o
  simp only at hd; subst hd
  unfold updateDictKeys
  refine ex_mono (ex_bind (ex_loadPart e) (B₂ := 2) ?_) (Nat.le_refl _)
  refine ex_mono (ex_bind (ex_updatePart e ha) (B₂ := 1) ?_) (Nat.le_refl _)
  unfold lookBehind
  refine ex_mono (ex_bind (ex_loadPart (o := Obj.mapDictKeys f ⟨c, dd, .dict es n, sl⟩) (Heap.get?_update_self _ e rfl)) (B₂ := 0) ?_) (Nat.le_refl _)
  have : (Obj.mapDictKeys f ⟨c, dd, .dict es n, sl⟩).data.pastItsLine = none := by
    show (if (f es).size > sizeLine + 1 then _ else _) = _
    rw [if_neg (by rw [sizeLine_eq]; omega)]
  rw [this]
  exact ex_pure

theorem ex_dictSet {d : Addr} {k : Int} {t : Tok} {v : Value} {o : Obj} {es : Array DictEntry} {n : Nat} (e : s.heap.get? d = some o) (hd : o.data = .dict es n) (hk : ∀ e ∈ es, e.hash ≠ k) (h0 : 0 ≤ k) (h1 : k < 2000000) (hs : es.size < 90000)
    (ha : (Nat.ble n₀ d || d == mainNs || d == cStatics || ann == some (.ref d)) = true) :
    Ex p w n₀ ann 10 (dictSet d (.int k t) v) s () { s with heap := s.heap.update d (Obj.mapDictKeys (·.push ⟨k, .int k t, v⟩)), toks := s.toks + 1 } := by
  unfold dictSet
  refine ex_holding (ex_mono (ex_bind (ex_pyHash h0 h1) (B₂ := 5) ?_) (by omega))
  unfold dictSetHashed
  refine ex_holding (ex_mono (ex_bind (ex_dictFind (s := { s with toks := s.toks + 1 }) e hd hk) (B₂ := 4) ?_) (by omega))
  exact ex_mono (ex_bind ex_rule (ex_updateDictKeys (s := { s with toks := s.toks + 1 }) e hd (by rw [Array.size_push]; omega) ha)) (by omega)
theorem ex_dictPut {d : Addr} {k : Int} {t : Tok} {v : Value} {o : Obj} {es : Array DictEntry} {n : Nat} (e : s.heap.get? d = some o) (hd : o.data = .dict es n) (hk : ∀ e ∈ es, e.hash ≠ k) (hs : es.size < 90000)
    (ha : (Nat.ble n₀ d || d == mainNs || d == cStatics || ann == some (.ref d)) = true) :
    Ex p w n₀ ann 5 (dictPut d k (.int k t) v) s () { s with heap := s.heap.update d (Obj.mapDictKeys (·.push ⟨k, .int k t, v⟩)) } := by
  unfold dictPut
  refine ex_mono (ex_bind (ex_dictFind e hd hk) (B₂ := 3) ?_) (by omega)
  exact ex_updateDictKeys e hd (by rw [Array.size_push]; omega) ha
end
end Mine.Hd
end
section
open PySem PySem.W PyProof.Rows PySem.Calls
namespace Mine.Hd
noncomputable def hp (h : Heap) (l : List Obj) : Heap := ⟨h.objs ++ l.toArray, h.life⟩
theorem hp_nil (h : Heap) : hp h [] = h := by cases h; simp [hp]
theorem hp_push (h : Heap) (l : List Obj) (o : Obj) : (hp h l).push o = hp h (l ++ [o]) := by cases h; simp [hp, Heap.push]
theorem hp_size (h : Heap) (l : List Obj) : (hp h l).objs.size = h.objs.size + l.length := by simp [hp]
theorem hp_get (h : Heap) (l : List Obj) (k : Nat) (o : Obj) (e : l[k]? = some o) (hf : o.isFreed = false) : (hp h l).get? (h.objs.size + k) = some o :=
  Heap.get?_some_iff.mpr ⟨by simp [hp, Array.getElem?_append, e], hf⟩
theorem modify_app {α : Type} (f : α → α) (l₂ : List α) (k : Nat) : ∀ l₁ : List α, (l₁ ++ l₂).modify (l₁.length + k) f = l₁ ++ l₂.modify k f
  | [] => by simp
  | a :: l => by
    have e : (a :: l).length + k = (l.length + k) + 1 := by rw [List.length_cons]; omega
    rw [e, List.cons_append, List.modify_succ_cons, modify_app f l₂ k l, List.cons_append]
theorem hp_upd (h : Heap) (l : List Obj) (k : Nat) (f : Obj → Obj) : (hp h l).update (h.objs.size + k) f = hp h (l.modify k f) := by
  cases h with
  | mk objs life =>
    simp only [hp, Heap.update, Heap.mk.injEq, and_true]
    apply Array.ext'
    rw [Array.toList_modify, Array.toList_append, Array.toList_append]
    have := modify_app f l k objs.toList
    rw [Array.length_toList] at this
    simpa using this
noncomputable def dObj (es : List DictEntry) : Obj := { cls := .type "dict", data := .dict es.toArray es.length }
theorem dObj_push (es : List DictEntry) (e : DictEntry) : Obj.mapDictKeys (·.push e) (dObj es) = dObj (es ++ [e]) := by simp [dObj, Obj.mapDictKeys]

noncomputable def ents (t : Nat) : List (Int × Str) → List DictEntry
  | [] => []
  | (i, x) :: r => ⟨i, .int i t, .str x (t + 1)⟩ :: ents (t + 3) r
noncomputable def ents2 (t : Nat) : List (Int × Str) → List DictEntry
  | [] => []
  | (i, x) :: r => ⟨i, .int i t, .str x (t + 1)⟩ :: ents2 (t + 2) r

-- keys that rise, none below b, none beyond the line
noncomputable def Rising : Int → List (Int × Str) → Prop
  | b, [] => True
  | b, (i, _) :: r => b < i ∧ i < 2000000 ∧ Rising i r

noncomputable abbrev item (pos : Pos) (q : Int × Str) : Sem Value × Sem Value := (mkInt q.1, do let x ← mkText q.2; standAt pos; pure x)

section
variable {p : Program} {w : World} {n₀ : Nat} {ann : Option Value} {s : Shared}

theorem modify_last (l : List Obj) (a : Obj) (f : Obj → Obj) : (l ++ [a]).modify l.length f = l ++ [f a] := modify_app f [a] 0 l

theorem ble_n0 {h : Heap} (hn : n₀ ≤ h.objs.size) (k : Nat) : (Nat.ble n₀ (h.objs.size + k) || h.objs.size + k == mainNs || h.objs.size + k == cStatics || ann == some (.ref (h.objs.size + k))) = true := by
  have : Nat.ble n₀ (h.objs.size + k) = true := Nat.ble_eq.mpr (by omega)
  rw [this]; rfl

theorem ex_setAt {h : Heap} {l : List Obj} {es : List DictEntry} {k : Int} {t : Tok} {v : Value} {tk : Nat} {s : Shared} (hn : n₀ ≤ h.objs.size) (hk : ∀ e ∈ es, e.hash < k) (h0 : 0 ≤ k) (h1 : k < 2000000) (hs : es.length < 90000) :
    Ex p w n₀ ann 10 (dictSet (h.objs.size + l.length) (.int k t) v) { s with heap := hp h (l ++ [dObj es]), toks := tk } () { s with heap := hp h (l ++ [dObj (es ++ [⟨k, .int k t, v⟩])]), toks := tk + 1 } := by
  have e : ({ s with heap := hp h (l ++ [dObj es]), toks := tk } : Shared).heap.get? (h.objs.size + l.length) = some (dObj es) := hp_get _ _ _ _ (by simp) rfl
  have := ex_dictSet (p := p) (w := w) (n₀ := n₀) (ann := ann) (k := k) (t := t) (v := v) e (es := es.toArray) (n := es.length) rfl (fun e he => by have := hk e (by simpa using he); omega) h0 h1 (by simpa using hs) (ble_n0 hn _)
  rw [show ({ s with heap := hp h (l ++ [dObj es]), toks := tk } : Shared).heap = hp h (l ++ [dObj es]) from rfl, hp_upd, modify_last, dObj_push] at this
  exact this

theorem ex_fill {h : Heap} {l : List Obj} {pos : Pos} {s : Shared} (hn : n₀ ≤ h.objs.size) : ∀ (L : List (Int × Str)) (es : List DictEntry) (b : Int) (tk : Nat), (∀ e ∈ es, e.hash ≤ b) → 0 ≤ b + 1 → Rising b L → es.length + L.length < 90000 →
    Ex p w n₀ ann (L.length * 15) (forIn (L.map (item pos)) PUnit.unit fun (kv : Sem Value × Sem Value) (_ : PUnit) => (do
        let k ← kv.1
        let v ← holding [k] kv.2
        holding [k, v] (dictSet (h.objs.size + l.length) k v)
        pure (ForInStep.yield PUnit.unit) : Sem (ForInStep PUnit)))
      { s with heap := hp h (l ++ [dObj es]), toks := tk } PUnit.unit { s with heap := hp h (l ++ [dObj (es ++ ents tk L)]), toks := tk + 3 * L.length }
  | [], es, b, tk, _, _, _, _ => by rw [List.map_nil, List.forIn_nil]; simpa [ents] using ex_mono ex_pure (Nat.zero_le _)
  | (i, x) :: r, es, b, tk, he, hb, ⟨h1, h2, h3⟩, hl => by
    rw [List.map_cons, List.forIn_cons]
    have ih := ex_fill (l := l) (pos := pos) (s := s) hn r (es ++ [⟨i, .int i tk, .str x (tk + 1)⟩]) i (tk + 3) (fun e m => by
      rcases List.mem_append.mp m with m | m
      · have := he e m; omega
      · simp at m; subst m; exact Int.le_refl _) (by omega) h3 (by simp at hl ⊢; omega)
    rw [List.append_assoc] at ih
    have e1 : tk + 3 * ((i, x) :: r).length = tk + 3 + 3 * r.length := by simp; omega
    rw [e1]
    refine ex_mono (ex_bind (B₁ := 14) (s₁ := { s with heap := hp h (l ++ [dObj (es ++ [⟨i, .int i tk, .str x (tk + 1)⟩])]), toks := tk + 3 }) (a := ForInStep.yield PUnit.unit) ?_ ih) (by simp; omega)
    refine ex_mono (ex_bind ex_mkInt (B₂ := 13) ?_) (by omega)
    refine ex_mono (ex_bind (B₁ := 2) (s₁ := { s with heap := hp h (l ++ [dObj es]), toks := tk + 1 + 1 }) (a := .str x (tk + 1)) (ex_holding ?_) (B₂ := 11) ?_) (by omega)
    · exact ex_mono (ex_bind ex_mkText (ex_bind ex_standAt ex_pure)) (by omega)
    · exact ex_mono (ex_bind (ex_holding (ex_setAt hn (fun e m => by have := he e m; omega) (by omega) h2 (by simp at hl; omega))) ex_pure) (by omega)
end
end Mine.Hd
end
section
open PySem PySem.W PyProof.Rows PySem.Calls
namespace Mine.Hd
section
variable {p : Program} {w : World} {n₀ : Nat} {ann : Option Value} {s : Shared} {h : Heap} {l : List Obj} {pos : Pos}

theorem ex_subLong {L : List (Int × Str)} {tk : Nat} (hn : n₀ ≤ h.objs.size) (hL : 15 < L.length) (hz : L.length < 90000) {b : Int} (hb : 0 ≤ b + 1) (hr : Rising b L) :
    Ex p w n₀ ann (L.length * 15 + 2) (subDict (L.map (item pos))) { s with heap := hp h l, toks := tk } (h.objs.size + l.length) { s with heap := hp h (l ++ [dObj (ents tk L)]), toks := tk + 3 * L.length } := by
  unfold subDict
  refine ex_mono (ex_bind ex_alloc (B₂ := L.length * 15 + 1) ?_) (by omega)
  have e1 : ({ s with heap := hp h l, toks := tk } : Shared).heap.objs.size = h.objs.size + l.length := hp_size h l
  rw [e1]
  have e2 : ({ s with heap := (hp h l).push { cls := .type "dict", data := .dict #[] }, toks := tk } : Shared) = { s with heap := hp h (l ++ [dObj []]), toks := tk } := by rw [hp_push]; rfl
  show Ex p w n₀ ann (L.length * 15 + 1) _ { s with heap := (hp h l).push { cls := .type "dict", data := .dict #[] }, toks := tk } _ _
  rw [e2]
  refine ex_mono (ex_bind (B₁ := L.length * 15 + 1) (B₂ := 0) (a := PUnit.unit) (s₁ := { s with heap := hp h (l ++ [dObj (ents tk L)]), toks := tk + 3 * L.length }) (ex_holding ?_) ex_pure) (by omega)
  rw [if_neg (by rw [List.length_map]; omega)]
  refine ex_mono (ex_bind ex_rule (B₂ := L.length * 15) ?_) (by omega)
  have := ex_fill (p := p) (w := w) (n₀ := n₀) (ann := ann) (l := l) (pos := pos) (s := s) hn L [] b tk (fun _ m => nomatch m) hb hr (by simpa using hz)
  rw [List.nil_append] at this
  exact ex_mono (ex_bind this ex_pure) (by omega)

theorem ex_evalPairs : ∀ (L : List (Int × Str)) (tk : Nat) (s : Shared),
    Ex p w n₀ ann (L.length * 5) (evalPairs (L.map (item pos))) { s with toks := tk } ((ents2 tk L).map fun e => (e.key, e.val)) { s with toks := tk + 2 * L.length }
  | [], tk, s => ex_mono ex_pure (Nat.zero_le _)
  | (i, x) :: r, tk, s => by
    rw [List.map_cons]
    unfold evalPairs
    have ih := ex_evalPairs r (tk + 2) s
    refine ex_mono (ex_bind ex_mkInt (B₂ := r.length * 5 + 4) ?_) (by simp; omega)
    refine ex_mono (ex_bind (B₁ := 2) (s₁ := { s with toks := tk + 1 + 1 }) (a := .str x (tk + 1)) (ex_holding ?_) (B₂ := r.length * 5) ?_) (by omega)
    · exact ex_mono (ex_bind ex_mkText (ex_bind ex_standAt ex_pure)) (by omega)
    · have e1 : tk + 2 * ((i, x) :: r).length = tk + 2 + 2 * r.length := by simp; omega
      rw [e1]
      exact ex_mono (ex_bind (ex_holding ih) ex_pure) (by omega)

theorem ex_put2 {s : Shared} (hn : n₀ ≤ h.objs.size) : ∀ (L : List (Int × Str)) (es : List DictEntry) (b : Int) (t tk : Nat), (∀ e ∈ es, e.hash ≤ b) → 0 ≤ b + 1 → Rising b L → es.length + L.length < 90000 →
    Ex p w n₀ ann (L.length * 10) (forIn ((ents2 t L).map fun e => (e.key, e.val)) PUnit.unit fun (kv : Value × Value) (_ : PUnit) => (do
        dictSet (h.objs.size + l.length) kv.1 kv.2
        pure (ForInStep.yield PUnit.unit) : Sem (ForInStep PUnit)))
      { s with heap := hp h (l ++ [dObj es]), toks := tk } PUnit.unit { s with heap := hp h (l ++ [dObj (es ++ ents2 t L)]), toks := tk + L.length }
  | [], es, b, t, tk, _, _, _, _ => by rw [ents2, List.map_nil, List.forIn_nil]; simpa using ex_mono ex_pure (Nat.zero_le _)
  | (i, x) :: r, es, b, t, tk, he, hb, ⟨h1, h2, h3⟩, hl => by
    rw [ents2, List.map_cons, List.forIn_cons]
    have ih := ex_put2 (s := s) hn r (es ++ [⟨i, .int i t, .str x (t + 1)⟩]) i (t + 2) (tk + 1) (fun e m => by
      rcases List.mem_append.mp m with m | m
      · have := he e m; omega
      · simp at m; subst m; exact Int.le_refl _) (by omega) h3 (by simp at hl ⊢; omega)
    rw [List.append_assoc] at ih
    have e1 : tk + ((i, x) :: r).length = tk + 1 + r.length := by simp; omega
    rw [e1]
    refine ex_mono (ex_bind (B₁ := 10) (s₁ := { s with heap := hp h (l ++ [dObj (es ++ [⟨i, .int i t, .str x (t + 1)⟩])]), toks := tk + 1 }) (a := ForInStep.yield PUnit.unit) ?_ ih) (by simp; omega)
    exact ex_mono (ex_bind (ex_setAt hn (fun e m => by have := he e m; omega) (by omega) h2 (by simp at hl; omega)) ex_pure) (by omega)

theorem ex_subShort {L : List (Int × Str)} {tk : Nat} {s : Shared} (hn : n₀ ≤ h.objs.size) (hL : L.length ≤ 15) {b : Int} (hb : 0 ≤ b + 1) (hr : Rising b L) :
    Ex p w n₀ ann (L.length * 15 + 2) (subDict (L.map (item pos))) { s with heap := hp h l, toks := tk } (h.objs.size + l.length) { s with heap := hp h (l ++ [dObj (ents2 tk L)]), toks := tk + 3 * L.length } := by
  unfold subDict
  refine ex_mono (ex_bind ex_alloc (B₂ := L.length * 15 + 1) ?_) (by omega)
  have e1 : ({ s with heap := hp h l, toks := tk } : Shared).heap.objs.size = h.objs.size + l.length := hp_size h l
  rw [e1]
  have e2 : ({ s with heap := (hp h l).push { cls := .type "dict", data := .dict #[] }, toks := tk } : Shared) = { s with heap := hp h (l ++ [dObj []]), toks := tk } := by rw [hp_push]; rfl
  show Ex p w n₀ ann (L.length * 15 + 1) _ { s with heap := (hp h l).push { cls := .type "dict", data := .dict #[] }, toks := tk } _ _
  rw [e2]
  refine ex_mono (ex_bind (B₁ := L.length * 15 + 1) (B₂ := 0) (a := PUnit.unit) (s₁ := { s with heap := hp h (l ++ [dObj (ents2 tk L)]), toks := tk + 3 * L.length }) (ex_holding ?_) ex_pure) (by omega)
  rw [if_pos (by rw [List.length_map]; omega)]
  refine ex_mono (ex_bind (ex_evalPairs L tk { s with heap := hp h (l ++ [dObj []]) }) (B₂ := L.length * 10) (ex_holding ?_)) (by omega)
  have := ex_put2 (p := p) (w := w) (n₀ := n₀) (ann := ann) (l := l) (s := s) hn L [] b tk (tk + 2 * L.length) (fun _ m => nomatch m) hb hr (by simp; omega)
  rw [List.nil_append, show tk + 2 * L.length + L.length = tk + 3 * L.length by omega] at this
  exact ex_mono (ex_bind this ex_pure) (by omega)

-- the entries of a dict of ints rise
noncomputable def ERise : Int → List DictEntry → Prop
  | _, [] => True
  | b, e :: r => b < e.hash ∧ (∃ t, e.key = .int e.hash t) ∧ ERise e.hash r
theorem erise_ents : ∀ {L : List (Int × Str)} {b : Int} {t : Nat}, Rising b L → ERise b (ents t L)
  | [], _, _, _ => trivial
  | (i, x) :: r, b, t, ⟨h1, _, h3⟩ => ⟨h1, ⟨t, rfl⟩, erise_ents h3⟩
theorem erise_ents2 : ∀ {L : List (Int × Str)} {b : Int} {t : Nat}, Rising b L → ERise b (ents2 t L)
  | [], _, _, _ => trivial
  | (i, x) :: r, b, t, ⟨h1, _, h3⟩ => ⟨h1, ⟨t, rfl⟩, erise_ents2 h3⟩

theorem modify_first (a : Obj) (l : List Obj) (f : Obj → Obj) : (a :: l).modify 0 f = f a :: l := by simp

end
end Mine.Hd
end
section
open PySem PySem.W PyProof.Rows PySem.Calls
namespace Mine.Hd
section
variable {p : Program} {w : World} {n₀ : Nat} {ann : Option Value} {s : Shared} {h : Heap} {l : List Obj} {pos : Pos}

theorem ex_typeOfRef {a : Addr} {o : Obj} (e : s.heap.get? a = some o) : Ex p w n₀ ann 1 (typeOf (.ref a)) s o.cls s := by
  unfold typeOf
  exact ex_mono (ex_bind (ex_loadPart e) ex_pure) (Nat.le_refl _)
theorem sub_dict_dict : isSubtype (.type "dict") (.type "dict") = pure true := by rw [isSubtype_type]; kernel_rfl
theorem iter_dict : typeLookup (.type "dict") "__iter__" = pure (some (.builtin "dict.__iter__")) := by rw [typeLookup_type, builtinLookup_eq_fast]; kernel_rfl

-- the entries of es, from the i-th on, put behind em
theorem ex_mergeFrom {s : Shared} (hn : n₀ ≤ h.objs.size) {es : List DictEntry} : ∀ (n i : Nat) (em : List DictEntry) (tk : Nat), n = es.length - i → i ≤ es.length → (∃ b, (∀ e ∈ em, e.hash ≤ b) ∧ ERise b (es.drop i)) → em.length + n < 90000 →
    Ex p w n₀ ann (n * 7) (forIn (List.range' i n) PUnit.unit fun (i : Nat) (_ : PUnit) => (do
        let some e := (← dictEntries (h.objs.size + (l.length + 1)))[i]? | unsupported "dict.changed-during-merge"
        holding [e.key, e.val] (dictPut h.objs.size e.hash e.key e.val)
        if (← dictEpoch (h.objs.size + (l.length + 1))) != es.length then unsupported "dict.changed-during-merge"
        pure (ForInStep.yield PUnit.unit) : Sem (ForInStep PUnit)))
      { s with heap := hp h (dObj em :: l ++ [dObj es]), toks := tk } PUnit.unit { s with heap := hp h (dObj (em ++ es.drop i) :: l ++ [dObj es]), toks := tk }
  | 0, i, em, tk, hn0, hi, _, _ => by
    rw [show List.range' i 0 = [] from rfl, List.forIn_nil]
    have : es.drop i = [] := List.drop_eq_nil_of_le (by omega)
    rw [this, List.append_nil]
    exact ex_mono ex_pure (Nat.zero_le _)
  | n + 1, i, em, tk, hn0, hi, ⟨b, he, hr⟩, hz => by
    have hlt : i < es.length := by omega
    have hd : es.drop i = es[i] :: es.drop (i + 1) := (List.drop_eq_getElem_cons hlt)
    rw [hd] at hr
    obtain ⟨h1, ⟨t, hkey⟩, h3⟩ := hr
    have ih := ex_mergeFrom (s := s) hn n (i + 1) (em ++ [es[i]]) tk (by omega) hlt ⟨es[i].hash, fun e m => by
      rcases List.mem_append.mp m with m | m
      · have := he e m; omega
      · simp at m; subst m; exact Int.le_refl _, h3⟩ (by simp; omega)
    rw [List.range'_succ, List.forIn_cons, hd]
    rw [List.append_assoc] at ih
    refine ex_mono (ex_bind (B₁ := 7) (s₁ := { s with heap := hp h (dObj (em ++ [es[i]]) :: l ++ [dObj es]), toks := tk }) (a := ForInStep.yield PUnit.unit) ?_ ih) (by omega)
    have g1 : ∀ em' : List DictEntry, ({ s with heap := hp h (dObj em' :: l ++ [dObj es]), toks := tk } : Shared).heap.get? (h.objs.size + (l.length + 1)) = some (dObj es) := fun em' => hp_get _ _ _ _ (by simp) rfl
    have g0 : ({ s with heap := hp h (dObj em :: l ++ [dObj es]), toks := tk } : Shared).heap.get? (h.objs.size + 0) = some (dObj em) := hp_get _ _ _ _ (by simp) rfl
    refine ex_mono (ex_bind (ex_dictEntries (g1 em) (es := es.toArray) (n := es.length) rfl) (B₂ := 6) ?_) (by omega)
    have ge : (es.toArray)[i]? = some es[i] := by simp [hlt]
    rw [ge]
    dsimp only
    refine ex_mono (ex_bind (B₁ := 5) (s₁ := { s with heap := hp h (dObj (em ++ [es[i]]) :: l ++ [dObj es]), toks := tk }) (a := ()) (ex_holding ?_) (B₂ := 1) ?_) (by omega)
    · have := ex_dictPut (p := p) (w := w) (n₀ := n₀) (ann := ann) (k := es[i].hash) (t := t) (v := es[i].val) g0 (es := em.toArray) (n := em.length) rfl (fun e m => by have := he e (by simpa using m); omega) (by simp; omega) (ble_n0 hn 0)
      rw [show ({ s with heap := hp h (dObj em :: l ++ [dObj es]), toks := tk } : Shared).heap = hp h (dObj em :: l ++ [dObj es]) from rfl, hp_upd, show dObj em :: l ++ [dObj es] = dObj em :: (l ++ [dObj es]) from rfl, modify_first, dObj_push, Nat.add_zero] at this
      have e2 : (⟨es[i].hash, .int es[i].hash t, es[i].val⟩ : DictEntry) = es[i] := by rw [← hkey]
      rw [e2, ← hkey] at this
      exact this
    · refine ex_mono (ex_bind (ex_dictEpoch (g1 (em ++ [es[i]])) (es := es.toArray) (n := es.length) rfl) (B₂ := 0) ?_) (by omega)
      simp only [bne_self_eq_false, Bool.false_eq_true, if_false]
      exact ex_mono (ex_bind ex_pure ex_pure) (Nat.le_refl _)

theorem ex_merge {s : Shared} (hn : n₀ ≤ h.objs.size) {em es : List DictEntry} {tk : Nat} (hne : em ≠ []) (hb : ∃ b, (∀ e ∈ em, e.hash ≤ b) ∧ ERise b es) (hz : em.length + es.length < 90000) (hbig : sysModules < h.objs.size) :
    Ex p w n₀ ann (es.length * 7 + 5) (mergeMapping h.objs.size (.ref (h.objs.size + (l.length + 1))) false) { s with heap := hp h (dObj em :: l ++ [dObj es]), toks := tk } ()
      { s with heap := hp h (dObj (em ++ es) :: l ++ [dObj es]), toks := tk } := by
  have g1 : ({ s with heap := hp h (dObj em :: l ++ [dObj es]), toks := tk } : Shared).heap.get? (h.objs.size + (l.length + 1)) = some (dObj es) := hp_get _ _ _ _ (by simp) rfl
  have g0 : ({ s with heap := hp h (dObj em :: l ++ [dObj es]), toks := tk } : Shared).heap.get? h.objs.size = some (dObj em) := by have := hp_get h (dObj em :: l ++ [dObj es]) 0 (dObj em) (by simp) rfl; exact this
  unfold mergeMapping isInstance specialOf
  refine ex_mono (ex_bind (ex_bind (ex_typeOfRef g1) (ex_of_eq sub_dict_dict ex_pure)) (B₂ := es.length * 7 + 4) ?_) (by omega)
  simp only [if_true]
  refine ex_mono (ex_bind (ex_bind (ex_typeOfRef g1) (ex_of_eq iter_dict ex_pure)) (B₂ := es.length * 7 + 3) ?_) (by omega)
  refine ex_mono (ex_bind ex_pure (B₂ := es.length * 7 + 3) ?_) (by omega)
  have ns : ((h.objs.size + (l.length + 1)) == sysModules) = false := beq_eq_false_iff_ne.mpr (by have h1 : (1 : Nat) < h.objs.size := hbig; show h.objs.size + (l.length + 1) ≠ (1 : Nat); omega)
  have tt : (some (Value.builtin "dict.__iter__") == some (Value.builtin "dict.__iter__")) = true := by simp
  rw [tt]
  simp only [ns, Bool.false_eq_true, if_false]
  refine ex_mono (ex_bind (ex_dictEntries g0 (es := em.toArray) (n := em.length) rfl) (B₂ := es.length * 7 + 2) ?_) (by omega)
  have ne : em.toArray.isEmpty = false := by cases em with | nil => exact absurd rfl hne | cons => rfl
  simp only [ne, Bool.false_eq_true, if_false]
  refine ex_mono (ex_bind (ex_dictEntries g1 (es := es.toArray) (n := es.length) rfl) (B₂ := es.length * 7 + 1) ?_) (by omega)
  refine ex_mono (ex_bind (ex_dictEpoch g1 (es := es.toArray) (n := es.length) rfl) (B₂ := es.length * 7) ?_) (by omega)
  have := ex_mergeFrom (p := p) (w := w) (n₀ := n₀) (ann := ann) (l := l) (s := s) hn (es := es) es.length 0 em tk (by omega) (by omega) hb hz
  rw [List.drop_zero] at this
  have sz : es.toArray.size = es.length := by simp
  rw [sz, List.range_eq_range']
  exact ex_mono (ex_bind this ex_pure) (by omega)
end
end Mine.Hd
end
section
open PySem PySem.W PyProof.Rows PySem.Calls
namespace Mine.Hd

noncomputable def flushF (run : List (Sem Value × Sem Value)) (main : Option Addr) : Sem (Option Addr) :=
  if run.isEmpty = true then pure main
  else match main with
    | none => do
      let x ← subDict run
      pure (some x)
    | some d => do
      let sub ← holding [.ref d] (subDict run)
      (holding [.ref d, .ref sub] (mergeMapping d (.ref sub) false)).onRaise fun x => do let _ ← holding [.ref d, x] (runValue (.builtin "proto.let_go" {}))
      pure (some d)

noncomputable abbrev DS := Option Addr × List (Sem Value × Sem Value)
noncomputable def somed (q : Sem Value × Sem Value) : Option (Sem Value) × Sem Value := (some q.1, q.2)

noncomputable def subsOf (t : Nat) : List (List (Int × Str)) → List Obj
  | [] => []
  | C :: r => dObj (ents t C) :: subsOf (t + 3 * C.length) r

theorem ents_app (t : Nat) : ∀ (L M : List (Int × Str)), ents t (L ++ M) = ents t L ++ ents (t + 3 * L.length) M
  | [], M => by simp [ents]
  | (i, x) :: r, M => by
    rw [List.cons_append, ents, ents, ents_app (t + 3) r M, List.cons_append]
    congr 3
    simp; omega
theorem ents_len (t : Nat) : ∀ L : List (Int × Str), (ents t L).length = L.length
  | [] => rfl
  | (i, x) :: r => by simp [ents, ents_len (t + 3) r]
theorem ents2_len (t : Nat) : ∀ L : List (Int × Str), (ents2 t L).length = L.length
  | [] => rfl
  | (i, x) :: r => by simp [ents2, ents2_len (t + 2) r]
theorem rising_app : ∀ {L M : List (Int × Str)} {b : Int}, Rising b (L ++ M) → Rising b L ∧ (∃ c, b ≤ c ∧ (∀ t, ∀ e ∈ ents t L, e.hash ≤ c) ∧ Rising c M)
  | [], M, b, h => ⟨trivial, b, Int.le_refl _, fun t e m => (by simp [ents] at m), h⟩
  | (i, x) :: r, M, b, ⟨h1, h2, h3⟩ => by
    obtain ⟨a, c, hc, he, hr⟩ := rising_app h3
    refine ⟨⟨h1, h2, a⟩, c, by omega, fun t e m => ?_, hr⟩
    rw [ents] at m
    rcases List.mem_cons.mp m with rfl | m
    · exact hc
    · exact he _ e m

section
variable {p : Program} {w : World} {n₀ : Nat} {ann : Option Value} {s s' : Shared} {h : Heap} {pos : Pos}
  {G : Option (Sem Value) × Sem Value → DS → Sem (ForInStep DS)}

noncomputable def IsG (G : Option (Sem Value) × Sem Value → DS → Sem (ForInStep DS)) : Prop :=
  ∀ q main run, G (somed q) (main, run) = if ((run ++ [q]).length == 17) = true then (flushF (run ++ [q]) main >>= fun m => pure (.yield (m, []))) else pure (.yield (main, run ++ [q]))

theorem acc_ {B : Nat} {r : DS} (hG : IsG G) {Y : List (Option (Sem Value) × Sem Value)} {main : Option Addr} : ∀ (X run : List (Sem Value × Sem Value)), run.length + X.length ≤ 16 → Ex p w n₀ ann B (forIn Y (main, run ++ X) G) s r s' → Ex p w n₀ ann B (forIn (X.map somed ++ Y) (main, run) G) s r s'
  | [], run, _, e => by simpa using e
  | q :: X, run, hl, e => by
    rw [List.map_cons, List.cons_append, List.forIn_cons, hG]
    have n17 : ((run ++ [q]).length == 17) = false := by simp at hl ⊢; omega
    rw [n17, if_neg Bool.false_ne_true]
    have := acc_ hG X (run ++ [q]) (by simp at hl ⊢; omega) (by rw [List.append_assoc]; exact e)
    exact ex_mono (ex_bind ex_pure this) (by omega)
theorem full_ {B₁ B₂ : Nat} {r : DS} {s₁ : Shared} (hG : IsG G) {Y : List (Option (Sem Value) × Sem Value)} {main m : Option Addr} {C : List (Sem Value × Sem Value)} (hC : C.length = 17)
    (h₁ : Ex p w n₀ ann B₁ (flushF C main) s m s₁) (h₂ : Ex p w n₀ ann B₂ (forIn Y (m, []) G) s₁ r s') : Ex p w n₀ ann (B₁ + B₂) (forIn (C.map somed ++ Y) (main, []) G) s r s' := by
  obtain ⟨X, q, rfl⟩ : ∃ X q, C = X ++ [q] := by
    rcases List.eq_nil_or_concat C with rfl | ⟨X, q, e⟩
    · simp at hC
    · exact ⟨X, q, by simpa using e⟩
  have hX : X.length = 16 := by simpa using hC
  rw [List.map_append, List.append_assoc]
  refine acc_ hG X [] (by simp; omega) ?_
  show Ex p w n₀ ann (B₁ + B₂) (forIn (somed q :: Y) (main, X) G) s r s'
  rw [List.forIn_cons, hG]
  have e17 : ((X ++ [q]).length == 17) = true := by simp [hX]
  rw [e17, if_pos rfl]
  exact ex_mono (ex_bind (ex_bind h₁ ex_pure) h₂) (by omega)

theorem ex_flushFirst {C : List (Int × Str)} {tk : Nat} {s : Shared} (hn : n₀ ≤ h.objs.size) (hL : C.length = 17) {b : Int} (hb : 0 ≤ b + 1) (hr : Rising b C) :
    Ex p w n₀ ann (C.length * 15 + 2) (flushF (C.map (item pos)) none) { s with heap := h, toks := tk } (some h.objs.size) { s with heap := hp h [dObj (ents tk C)], toks := tk + 3 * C.length } := by
  unfold flushF
  have ne : (C.map (item pos)).isEmpty = false := by cases C with | nil => simp at hL | cons => rfl
  rw [ne, if_neg Bool.false_ne_true]
  have := ex_subLong (p := p) (w := w) (n₀ := n₀) (ann := ann) (h := h) (l := []) (pos := pos) (s := s) (tk := tk) hn (L := C) (by omega) (by omega) hb hr
  rw [hp_nil, List.length_nil, Nat.add_zero, List.nil_append] at this
  exact ex_mono (ex_bind this ex_pure) (by omega)
theorem ex_flushMore {C : List (Int × Str)} {tk : Nat} {s : Shared} {em : List DictEntry} {l : List Obj} (hn : n₀ ≤ h.objs.size) (hL : 15 < C.length) (hz : em.length + C.length < 90000) {b : Int} (hb : 0 ≤ b + 1) (hr : Rising b C) (hem : em ≠ []) (he : ∀ e ∈ em, e.hash ≤ b) (hbig : sysModules < h.objs.size) :
    Ex p w n₀ ann (C.length * 22 + 7) (flushF (C.map (item pos)) (some h.objs.size)) { s with heap := hp h (dObj em :: l), toks := tk } (some h.objs.size) { s with heap := hp h (dObj (em ++ ents tk C) :: l ++ [dObj (ents tk C)]), toks := tk + 3 * C.length } := by
  unfold flushF
  have ne : (C.map (item pos)).isEmpty = false := by cases C with | nil => simp at hL | cons => rfl
  rw [ne, if_neg Bool.false_ne_true]
  have e1 := ex_subLong (p := p) (w := w) (n₀ := n₀) (ann := ann) (h := h) (l := dObj em :: l) (pos := pos) (s := s) (tk := tk) hn (L := C) hL (by omega) hb hr
  have e2 := ex_merge (p := p) (w := w) (n₀ := n₀) (ann := ann) (h := h) (l := l) (s := s) (em := em) (es := ents tk C) (tk := tk + 3 * C.length) hn hem ⟨b, he, erise_ents hr⟩ (by rw [ents_len]; omega) hbig
  rw [List.length_cons] at e1
  rw [ents_len] at e2
  exact ex_mono (ex_bind (ex_holding e1) (ex_bind (ex_onRaise (ex_holding e2)) ex_pure)) (by omega)
theorem ex_flushLast {C : List (Int × Str)} {tk : Nat} {s : Shared} {em : List DictEntry} {l : List Obj} (hn : n₀ ≤ h.objs.size) (hL : C.length ≤ 15) (hne : C ≠ []) (hz : em.length + C.length < 90000) {b : Int} (hb : 0 ≤ b + 1) (hr : Rising b C) (hem : em ≠ []) (he : ∀ e ∈ em, e.hash ≤ b) (hbig : sysModules < h.objs.size) :
    Ex p w n₀ ann (C.length * 22 + 7) (flushF (C.map (item pos)) (some h.objs.size)) { s with heap := hp h (dObj em :: l), toks := tk } (some h.objs.size) { s with heap := hp h (dObj (em ++ ents2 tk C) :: l ++ [dObj (ents2 tk C)]), toks := tk + 3 * C.length } := by
  unfold flushF
  have ne : (C.map (item pos)).isEmpty = false := by cases C with | nil => exact absurd rfl hne | cons => rfl
  rw [ne, if_neg Bool.false_ne_true]
  have e1 := ex_subShort (p := p) (w := w) (n₀ := n₀) (ann := ann) (h := h) (l := dObj em :: l) (pos := pos) (s := s) (tk := tk) hn (L := C) hL hb hr
  have e2 := ex_merge (p := p) (w := w) (n₀ := n₀) (ann := ann) (h := h) (l := l) (s := s) (em := em) (es := ents2 tk C) (tk := tk + 3 * C.length) hn hem ⟨b, he, erise_ents2 hr⟩ (by rw [ents2_len]; omega) hbig
  rw [List.length_cons] at e1
  rw [ents2_len] at e2
  exact ex_mono (ex_bind (ex_holding e1) (ex_bind (ex_onRaise (ex_holding e2)) ex_pure)) (by omega)

-- the chunks behind the first
theorem ex_chunks (hG : IsG G) (hn : n₀ ≤ h.objs.size) (hbig : sysModules < h.objs.size) {last : List (Int × Str)} (hlast : last.length ≤ 15) {s : Shared} : ∀ (Cs : List (List (Int × Str))) (em : List DictEntry) (l : List Obj) (tk : Nat) (b : Int), (∀ C ∈ Cs, C.length = 17) →
    em ≠ [] → (∀ e ∈ em, e.hash ≤ b) → 0 ≤ b + 1 → Rising b (Cs.flatten ++ last) → em.length + (Cs.flatten ++ last).length < 90000 →
    Ex p w n₀ ann (Cs.length * 400) (forIn (((Cs.flatten ++ last).map (item pos)).map somed) ((some h.objs.size, []) : DS) G) { s with heap := hp h (dObj em :: l), toks := tk } (some h.objs.size, last.map (item pos))
      { s with heap := hp h (dObj (em ++ ents tk Cs.flatten) :: l ++ subsOf tk Cs), toks := tk + 3 * Cs.flatten.length } ∧
    (∃ c', (∀ e ∈ em ++ ents tk Cs.flatten, e.hash ≤ c') ∧ Rising c' last ∧ 0 ≤ c' + 1)
  | [], em, l, tk, b, hC, hem, he, hb, hr, hz => by
    refine ⟨?_, b, by simpa [ents] using he, by simpa using hr, hb⟩
    have := acc_ (p := p) (w := w) (n₀ := n₀) (ann := ann) (G := G) (Y := []) (main := some h.objs.size) (B := 0) (s := { s with heap := hp h (dObj em :: l), toks := tk }) hG (last.map (item pos)) [] (by simp; omega) (by rw [List.forIn_nil]; exact ex_pure)
    simpa [subsOf, ents] using this
  | C :: Cs, em, l, tk, b, hC, hem, he, hb, hr, hz => by
    have h17 := hC C (.head _)
    rw [List.flatten_cons, List.append_assoc] at hr hz ⊢
    obtain ⟨hr1, c, hbc, hec, hr2⟩ := rising_app hr
    have hec' := hec tk
    have em2 : em ++ ents tk C ≠ [] := by simp [hem]
    have he2 : ∀ e ∈ em ++ ents tk C, e.hash ≤ c := fun e m => by
      rcases List.mem_append.mp m with m | m
      · have := he e m; omega
      · exact hec' e m
    simp only [List.length_append] at hz
    obtain ⟨ih1, ih2⟩ := ex_chunks hG hn hbig hlast (s := s) Cs (em ++ ents tk C) (l ++ [dObj (ents tk C)]) (tk + 3 * C.length) c (fun D m => hC D (.tail _ m)) em2 he2 (by omega) hr2 (by simp only [List.length_append, ents_len]; omega)
    have f1 := ex_flushMore (p := p) (w := w) (n₀ := n₀) (ann := ann) (h := h) (pos := pos) (C := C) (tk := tk) (s := s) (em := em) (l := l) hn (by omega) (by omega) hb hr1 hem he hbig
    constructor
    · rw [List.map_append, List.map_append]
      refine ex_mono (full_ hG (by simpa using h17) f1 (s' := { s with heap := hp h (dObj (em ++ ents tk (C ++ Cs.flatten)) :: l ++ subsOf tk (C :: Cs)), toks := tk + 3 * (C ++ Cs.flatten).length }) (B₂ := Cs.length * 400) ?_) (by rw [h17]; simp; omega)
      have e1 : em ++ ents tk (C ++ Cs.flatten) = em ++ ents tk C ++ ents (tk + 3 * C.length) Cs.flatten := by rw [ents_app, List.append_assoc]
      have e2 : dObj (em ++ ents tk (C ++ Cs.flatten)) :: l ++ subsOf tk (C :: Cs) = dObj (em ++ ents tk C ++ ents (tk + 3 * C.length) Cs.flatten) :: (l ++ [dObj (ents tk C)]) ++ subsOf (tk + 3 * C.length) Cs := by rw [e1, subsOf]; simp
      have e3 : tk + 3 * (C ++ Cs.flatten).length = tk + 3 * C.length + 3 * Cs.flatten.length := by rw [List.length_append]; omega
      rw [e2, e3]
      exact ih1
    · have e1 : em ++ ents tk (C ++ Cs.flatten) = em ++ ents tk C ++ ents (tk + 3 * C.length) Cs.flatten := by rw [ents_app, List.append_assoc]
      rw [e1]
      exact ih2
end
end Mine.Hd
end
section
open PySem PySem.W PyProof.Rows PySem.Calls
namespace Mine.Hd

theorem display_form : ∃ G : Option (Sem Value) × Sem Value → DS → Sem (ForInStep DS), IsG G ∧ ∀ items, dictDisplay items = (forIn items ((none, []) : DS) G >>= fun s => flushF s.2 s.1 >>= fun r => match r with | some d => pure (.ref d) | none => newDict) := by
  refine ⟨_, ?_, fun items => by unfold dictDisplay; rfl⟩
  intro q main run
  rfl

-- the pairs of a display of written ints and texts
noncomputable def litPairs : List (Option Expr) → List Expr → Option (List (Int × Str))
  | [], [] => some []
  | some (.Constant (.int i) _ _) :: ks, .Constant (.str x) _ _ :: vs => (litPairs ks vs).map ((i, x) :: ·)
  | _, _ => none
theorem items_of {env : Env} {pos : Pos} : ∀ {ks : List (Option Expr)} {vs : List Expr} {L : List (Int × Str)}, litPairs ks vs = some L →
    (evalEachOpt ks env).zip ((evalEach vs env).map fun v => (do let x ← v; standAt pos; pure x : Sem Value)) = (L.map (item pos)).map somed
  | [], [], L, h => by simp only [litPairs, Option.some.injEq] at h; subst h; rfl
  | [], _ :: _, L, h => by simp [litPairs] at h
  | none :: _, _, L, h => by simp [litPairs] at h
  | some k :: ks, [], L, h => by unfold litPairs at h; split at h <;> simp_all
  | some k :: ks, v :: vs, L, h => by
    unfold litPairs at h
    split at h
    · simp_all
    · rename_i i a b ks' x d e vs' h1 h2
      cases h1; cases h2
      obtain ⟨M, hM, rfl⟩ := Option.map_eq_some_iff.mp h
      have ih := items_of (env := env) (pos := pos) hM
      simp only [List.map_cons]
      rw [← ih]
      rfl
    · cases h

-- the heap behind the display
noncomputable def dispObjs (t : Nat) (C : List (Int × Str)) (Cs : List (List (Int × Str))) (last : List (Int × Str)) : List Obj :=
  dObj (ents t (C ++ Cs.flatten) ++ ents2 (t + 3 * (C ++ Cs.flatten).length) last) :: subsOf (t + 3 * C.length) Cs ++ [dObj (ents2 (t + 3 * (C ++ Cs.flatten).length) last)]

section
variable {p : Program} {w : World} {n₀ : Nat} {ann : Option Value} {s s' : Shared} {pos : Pos}

theorem ex_display {C : List (Int × Str)} {Cs : List (List (Int × Str))} {last : List (Int × Str)} (hn : n₀ ≤ s.heap.objs.size) (hbig : sysModules < s.heap.objs.size) (hC : C.length = 17) (hCs : ∀ D ∈ Cs, D.length = 17) (hl : last.length ≤ 15) (hl0 : last ≠ [])
    (hr : Rising (-1) (C ++ (Cs.flatten ++ last))) (hz : (C ++ (Cs.flatten ++ last)).length < 80000) :
    Ex p w n₀ ann (Cs.length * 400 + 1000) (dictDisplay (((C ++ (Cs.flatten ++ last)).map (item pos)).map somed)) s (.ref s.heap.objs.size)
      { s with heap := hp s.heap (dispObjs s.toks C Cs last), toks := s.toks + 3 * (C ++ (Cs.flatten ++ last)).length } := by
  obtain ⟨G, hG, hform⟩ := display_form
  rw [hform]
  obtain ⟨hr1, c, hbc, hec, hr2⟩ := rising_app hr
  simp only [List.length_append] at hz
  have f0 := ex_flushFirst (p := p) (w := w) (n₀ := n₀) (ann := ann) (h := s.heap) (pos := pos) (C := C) (tk := s.toks) (s := s) hn hC (b := -1) (by omega) hr1
  have ne0 : ents s.toks C ≠ [] := fun e => by have := ents_len s.toks C; rw [e, hC] at this; simp at this
  obtain ⟨f1, c', he', hr', hb'⟩ := ex_chunks (p := p) (w := w) (n₀ := n₀) (ann := ann) (pos := pos) (h := s.heap) (G := G) hG hn hbig hl (s := s) Cs (ents s.toks C) [] (s.toks + 3 * C.length) c hCs ne0 (hec _) (by omega) hr2 (by simp only [ents_len, List.length_append]; omega)
  have e1 : ents s.toks C ++ ents (s.toks + 3 * C.length) Cs.flatten = ents s.toks (C ++ Cs.flatten) := (ents_app _ _ _).symm
  rw [e1] at f1 he'
  have f2 := ex_flushLast (p := p) (w := w) (n₀ := n₀) (ann := ann) (h := s.heap) (pos := pos) (C := last) (tk := s.toks + 3 * (C ++ Cs.flatten).length) (s := s) (em := ents s.toks (C ++ Cs.flatten)) (l := subsOf (s.toks + 3 * C.length) Cs) hn hl hl0
    (by simp only [ents_len, List.length_append]; omega) hb' hr' (by rw [ents_app]; simp [ne0]) he' hbig
  have t1 : s.toks + 3 * C.length + 3 * Cs.flatten.length = s.toks + 3 * (C ++ Cs.flatten).length := by rw [List.length_append]; omega
  rw [t1] at f1
  have t2 : s.toks + 3 * (C ++ Cs.flatten).length + 3 * last.length = s.toks + 3 * (C ++ (Cs.flatten ++ last)).length := by simp only [List.length_append]; omega
  rw [t2] at f2
  rw [List.map_append, List.map_append]
  refine ex_mono (ex_bind (full_ hG (by simpa using hC) f0 f1) (ex_bind f2 ex_pure)) (by rw [hC]; omega)

-- a statement that binds a name to the display: what is left of it behind the display
noncomputable abbrev restAssign (x : Str) (px pos spos : Pos) (ks : List (Option Expr)) (vs : List Expr) (env : Env) (v : Value) : Sem Flow := do
  assignStores env v (← swappedStores [.Name x px] (.Dict ks vs pos) env) ((assignEach [.Name x px] env).map (·.2))

set_option maxRecDepth 20000 in
theorem tr_assignDisplay {x : Str} {px spos : Pos} {ks : List (Option Expr)} {vs : List Expr} {env : Env} {C : List (Int × Str)} {Cs : List (List (Int × Str))} {last : List (Int × Str)}
    (hL : litPairs ks vs = some (C ++ (Cs.flatten ++ last))) (hn : n₀ ≤ s.heap.objs.size) (hbig : sysModules < s.heap.objs.size) (hC : C.length = 17) (hCs : ∀ D ∈ Cs, D.length = 17) (hl : last.length ≤ 15) (hl0 : last ≠ [])
    (hr : Rising (-1) (C ++ (Cs.flatten ++ last))) (hz : (C ++ (Cs.flatten ++ last)).length < 80000) {rest : List Stmt} {c : Code} {pos₀ : Pos} {q : Pos} :
    ∃ n, n ≤ Cs.length * 400 + 1002 ∧ ∃ pos', ∀ M r, TR p w n₀ ann M { s with heap := hp s.heap (dispObjs s.toks C Cs last), toks := s.toks + 3 * (C ++ (Cs.flatten ++ last)).length }
      ⟨(restAssign x px pos spos ks vs env (.ref s.heap.objs.size)).wrap (fun f => match f with | .next => (execs rest env).wrap doneF (leaveH env) id id | f => doneF f) (leaveH env) id id, c, pos', [topFrame q]⟩ r →
      TR p w n₀ ann (n + M) s (restOf (.Assign [.Name x px] (.Dict ks vs pos) spos :: rest) env c pos₀ [topFrame q]) r := by
  have e1 : exec (.Assign [.Name x px] (.Dict ks vs pos) spos) env = (standAt spos >>= fun _ => (standAt pos >>= fun _ => dictDisplay ((evalEachOpt ks env).zip ((evalEach vs env).map fun v => (do let x ← v; standAt pos; pure x : Sem Value)))) >>= fun v => restAssign x px pos spos ks vs env v) := rfl
  unfold restOf
  rw [execs_cons_wrap, e1, items_of hL]
  obtain ⟨n, hn', pos', k⟩ := (ex_bind ex_standAt (ex_bind ex_standAt (ex_display (p := p) (w := w) (n₀ := n₀) (ann := ann) (s := s) (pos := pos) hn hbig hC hCs hl hl0 hr hz)) : Ex p w n₀ ann _ (standAt spos >>= fun _ => standAt pos >>= fun _ => dictDisplay (((C ++ (Cs.flatten ++ last)).map (item pos)).map somed)) s _ _)
    (fun v => (restAssign x px pos spos ks vs env v).wrap (fun f => match f with | .next => (execs rest env).wrap doneF (leaveH env) id id | f => doneF f) (leaveH env) id id) (leaveH env) id id c pos₀ (topFrame q) []
  refine ⟨n, by omega, pos', fun M r hr => ?_⟩
  have := k M r hr
  have e2 : ∀ (D : Sem Value), ((standAt spos >>= fun _ => (standAt pos >>= fun _ => D) >>= fun v => restAssign x px pos spos ks vs env v) : Sem Flow) = (standAt spos >>= fun _ => standAt pos >>= fun _ => D) >>= fun v => restAssign x px pos spos ks vs env v := fun D => rfl
  rw [e2, Sem.bind_eq_wrap', Sem.wrap_wrap]
  exact this

noncomputable def risingB : Int → List (Int × Str) → Bool
  | _, [] => true
  | b, (i, _) :: r => decide (b < i) && decide (i < 2000000) && risingB i r
theorem rising_of : ∀ {b : Int} {L : List (Int × Str)}, risingB b L = true → Rising b L
  | _, [], _ => trivial
  | b, (i, _) :: r, h => by
    simp only [risingB, Bool.and_eq_true, decide_eq_true_eq] at h
    exact ⟨h.1.1, h.1.2, rising_of h.2⟩
end
end Mine.Hd
end
section
open PySem PySem.W PyProof.Rows PySem.Calls
namespace Mine.Hd
@[irreducible] noncomputable def pw : Program := PySem.Challenge.pw_wr0039_01
@[irreducible] noncomputable def bd : List Stmt := behindTheImports pw
@[irreducible] noncomputable def ds : Stmt := bd.getD 10 (.Pass default)
@[irreducible] noncomputable def dKs : List (Option Expr) := match ds with | .Assign _ (.Dict ks _ _) _ => ks | _ => []
@[irreducible] noncomputable def dVs : List Expr := match ds with | .Assign _ (.Dict _ vs _) _ => vs | _ => []
@[irreducible] noncomputable def dPos : Pos := match ds with | .Assign _ (.Dict _ _ q) _ => q | _ => default
@[irreducible] noncomputable def dPx : Pos := match ds with | .Assign [.Name _ q] _ _ => q | _ => default
@[irreducible] noncomputable def dSp : Pos := match ds with | .Assign _ _ q => q | _ => default
@[irreducible] noncomputable def dL : List (Int × Str) := (litPairs dKs dVs).getD []
@[irreducible] noncomputable def dC : List (Int × Str) := dL.take 17
@[irreducible] noncomputable def dCs : List (List (Int × Str)) := (List.range 37).map fun i => (dL.drop (17 * (i + 1))).take 17
@[irreducible] noncomputable def dLast : List (Int × Str) := dL.drop 646
noncomputable def bNm : Str := Str.ofString "b3_exceptions"
noncomputable def anT : Option Value := some (.ref 6)
@[irreducible] noncomputable def envT : Env := { scope := pw.main.scope, locals := mainNs, globals := mainNs, cells := [], code := .ref 13, frame := some 14 }
@[irreducible] noncomputable def cT : Code := .body bd envT
noncomputable def p0 : Pos := ⟨0, 0, 0, 0⟩
noncomputable def p9 : Pos := ⟨56, 0, 56, 8⟩
@[irreducible] noncomputable def fuel : Nat := 40000
@[irreducible] noncomputable def q1 : Program := view pw [1, 2, 4, 6, 7, 8, 11, 13, 14, 15, 16, 17, 18, 19, 20, 21]
noncomputable def sh0 : Shared := {}
@[irreducible] noncomputable def s0 (w : World) : Shared := (fencedOpening treeTable pw w fuel).getD sh0
@[irreducible] noncomputable def sa (w : World) : Shared := ((topGo treeTable pw w 11 anT 12 (s0 w) (topStub pw)).map Prod.fst).getD sh0
@[irreducible] noncomputable def s1 (w : World) : Shared := ((segRun treeTable pw w 11 anT 1 400 (sa w) (piecesOf (bd.take 10) envT cT p0 [topFrame p0])).map (·.2.1)).getD sh0
@[irreducible] noncomputable def s2 (w : World) : Shared := { s1 w with heap := hp (s1 w).heap (dispObjs (s1 w).toks dC dCs dLast), toks := (s1 w).toks + 3 * (dC ++ (dCs.flatten ++ dLast)).length }
set_option maxRecDepth 100000
theorem f_ds : ds = .Assign [.Name bNm dPx] (.Dict dKs dVs dPos) dSp := by kernel_rfl
theorem f_bd : bd = bd.take 10 ++ (ds :: bd.drop 11) := by kernel_rfl
theorem f_lit : litPairs dKs dVs = some dL := by kernel_rfl
theorem f_cut : dL = dC ++ (dCs.flatten ++ dLast) := by kernel_rfl
theorem f_ris : risingB (-1) (dC ++ (dCs.flatten ++ dLast)) = true := by kernel_rfl
theorem f_c : dC.length = 17 := by kernel_rfl
theorem f_cs : (dCs.all fun D => D.length == 17) = true := by kernel_rfl
theorem f_last : dLast.length = 4 := by kernel_rfl
theorem f_len : (dC ++ (dCs.flatten ++ dLast)).length = 650 := by kernel_rfl
theorem f_cslen : dCs.length = 37 := by kernel_rfl
theorem f_open : ∀ w : World, (fencedOpening treeTable pw w fuel).isSome = true := fun w => by kernel_rfl
theorem f_s0 : ∀ w : World, ((s0 w).heap.isNs mainGlobals && (s0 w).gens.size == 0, (s0 w).heap.objs.size, (s0 w).heap.nsMap mainGlobals "__annotations__") = (true, 11, anT) := fun w => by kernel_rfl
theorem f_pre : ∀ w : World, topGo treeTable pw w 11 anT 12 (s0 w) (topStub pw) = some (sa w, ⟨denote treeTable (.body bd envT), cT, p0, [topFrame p0]⟩) := fun w => by kernel_rfl
theorem f_block : ∀ w : World, segRun treeTable pw w 11 anT 1 1 (sa w) (blockOf bd envT cT p0 [topFrame p0]) = some (.next, sa w, cT, p0) := fun w => by kernel_rfl
theorem f_b1 : ∀ w : World, segRun treeTable pw w 11 anT 1 400 (sa w) (piecesOf (bd.take 10) envT cT p0 [topFrame p0]) = some (.next, s1 w, cT, p9) := fun w => by kernel_rfl
theorem f_size : ∀ w : World, (s1 w).heap.objs.size = 43 := fun w => by kernel_rfl
theorem s2_eq (w : World) : s2 w = { s1 w with heap := hp (s1 w).heap (dispObjs (s1 w).toks dC dCs dLast), toks := (s1 w).toks + 3 * (dC ++ (dCs.flatten ++ dLast)).length } := by kernel_rfl
theorem f_fuel : fuel = 40000 := by kernel_rfl
theorem s0_eq (w : World) : s0 w = (fencedOpening treeTable pw w fuel).getD sh0 := by kernel_rfl
end Mine.Hd
end
section
open PySem PySem.W PyProof.Rows PySem.Calls
namespace Mine.Hd
@[irreducible] noncomputable def dTab : List DictEntry := ents 238 (dC ++ dCs.flatten) ++ ents2 (238 + 3 * 646) dLast
@[irreducible] noncomputable def xT (s : Shared) : Bool := xlAt q1 [] s && recOk [] s
@[irreducible] noncomputable def yF (s : Shared) : Option Obj × Bool × Option Value × Bool × Option Value := (s.heap.get? 43, s.heap.isNs mainGlobals, s.heap.nsMap mainGlobals bNm, s.heap.isNs cStatics, s.heap.nsMap cStatics sharingNotToldKey)
@[irreducible] noncomputable def yA (_ : World) : Option Obj × Bool × Option Value × Bool × Option Value := (some (dObj dTab), true, some (.ref 43), true, none)
set_option maxRecDepth 100000
theorem f_end : ∀ (pos' : Pos) (w : World), ((topRun treeTable pw w 11 anT 1000 (s2 w) ⟨(restAssign bNm dPx dPos dSp dKs dVs envT (.ref 43)).wrap (fun f => match f with | .next => (execs (bd.drop 11) envT).wrap doneF (leaveH envT) id id | f => doneF f) (leaveH envT) id id, cT, pos', [topFrame p0]⟩).bind
    fun s₁ => match staticsOk (importedModules pw.main.body) (s0 w).heap s₁.heap && namesBound pw s₁.heap && gensDone s₁ && laidKept (s0 w).heap s₁.heap with | true => some s₁ | false => none).map (fun s => (openSeen q1 [bNm] (importedModules pw.main.body) xT true s, yF s)) = some (openGood q1 [bNm], yA w) := fun pos' w => by kernel_rfl

theorem left1 : LeftO pw q1 [bNm] xT yF yA fuel := fun w => by
  have e0 : fencedOpening treeTable pw w fuel = some (s0 w) := by
    have h := f_open w
    have h2 := s0_eq w
    revert h h2
    generalize fencedOpening treeTable pw w fuel = o
    intro h h2
    cases o with
    | none => cases h
    | some s => rw [h2]; rfl
  have z1 : ((s0 w).heap.isNs mainGlobals && (s0 w).gens.size == 0) = true := congrArg Prod.fst (f_s0 w)
  have z2 : (s0 w).heap.objs.size = 11 := congrArg (fun x => x.2.1) (f_s0 w)
  have z3 : (s0 w).heap.nsMap mainGlobals "__annotations__" = anT := congrArg (fun x => x.2.2) (f_s0 w)
  obtain ⟨n, hn, pos', k⟩ := tr_assignDisplay (p := pw) (w := w) (n₀ := 11) (ann := anT) (s := s1 w) (x := bNm) (px := dPx) (pos := dPos) (spos := dSp) (ks := dKs) (vs := dVs) (env := envT) (C := dC) (Cs := dCs) (last := dLast)
    (by rw [f_lit, ← f_cut]) (by rw [f_size]; decide) (by rw [f_size]; decide) f_c (fun D hD => by simpa using List.all_eq_true.mp f_cs D hD) (by rw [f_last]; decide) (fun e => by have := f_last; rw [e] at this; cases this)
    (rising_of f_ris) (by rw [f_len]; decide) (rest := bd.drop 11) (c := cT) (pos₀ := p9) (q := p0)
  rw [f_size, ← s2_eq] at k
  obtain ⟨r, hr, hrF⟩ := Option.map_eq_some_iff.mp (f_end pos' w)
  obtain ⟨r₁, hr₁, hck⟩ := Option.bind_eq_some_iff.mp hr
  have t1 := k 1000 r₁ hr₁
  rw [← f_ds] at t1
  have t2 := piece_app (tb := treeTable) (l := bd.take 10) (rest := ds :: bd.drop 11) (f_b1 w) t1
  rw [← f_bd] at t2
  have t3 := piece_block (tb := treeTable) (f_block w) t2
  have t4 := go_top (tb := treeTable) (f_pre w) t3
  have hcs : dCs.length * 400 + 1002 = 15802 := by rw [f_cslen]
  rw [hcs] at hn
  have hfu : 12 + (1 + (400 + (n + 1000))) ≤ fuel := by rw [f_fuel]; omega
  have t5 := topRun_mono (fuel - (12 + (1 + (400 + (n + 1000))))) _ _ _ _ t4
  rw [Nat.add_sub_cancel' hfu] at t5
  unfold openEnds
  rw [e0]
  show (topFrom treeTable pw w fuel (s0 w)).map _ = _
  unfold topFrom
  rw [z1, z2, z3, t5]
  show ((match staticsOk (importedModules pw.main.body) (s0 w).heap r₁.heap && namesBound pw r₁.heap && gensDone r₁ && laidKept (s0 w).heap r₁.heap with | true => some r₁ | false => none).map fun s => (openSeen q1 [bNm] (importedModules pw.main.body) xT true s, yF s)) = some (openGood q1 [bNm], yA w)
  rw [hck]
  exact congrArg some hrF
end Mine.Hd
end
section
open PySem PySem.W PyProof.Rows PySem.Calls
namespace Mine

-- pure values
inductive PV where
  | dat (d : PyData)
  | bytes (b : Array UInt8)
  | list (ds : List PyData)
  | tup (ds : List PyData)
  | list2 (xs : List (List PyData))
  | rng (a b c : Int)
  | val (v : Value)
  | unb
noncomputable abbrev pI (i : Int) : PV := .dat (.int i)
noncomputable abbrev pB (b : Bool) : PV := .dat (.bool b)
noncomputable abbrev pS (x : Str) : PV := .dat (.str x)
noncomputable abbrev pN : PV := .dat .none

-- the heap's objects all stand as they stood
noncomputable abbrev Up (h h' : Heap) : Prop := ∀ b o, h.get? b = some o → h'.get? b = some o
theorem Up.refl (h : Heap) : Up h h := fun _ _ e => e
theorem Up.trans {h₁ h₂ h₃ : Heap} (x : Up h₁ h₂) (y : Up h₂ h₃) : Up h₁ h₃ := fun b o e => y b o (x b o e)

noncomputable def GensOk (q : Bool) (gs gs' : Array GenState) : Prop :=
  (q = true → gs' = gs) ∧ (∀ (i : Nat) (x : GenState), gs[i]? = some x → gs'[i]? = some x) ∧ (AllBare gs → AllBare gs')
theorem GensOk.refl (q : Bool) (gs : Array GenState) : GensOk q gs gs := ⟨fun _ => rfl, fun _ _ e => e, id⟩
theorem GensOk.trans {q : Bool} {a b c : Array GenState} (x : GensOk q a b) (y : GensOk q b c) : GensOk q a c :=
  ⟨fun h => (y.1 h).trans (x.1 h), fun i g e => y.2.1 i g (x.2.1 i g e), fun h => y.2.2 (x.2.2 h)⟩

-- one step after another: all that stood stands; gens the same (q), or more of them
noncomputable def KK (q : Bool) (s s' : Shared) : Prop :=
  ∃ h' tk gs, s' = { s with heap := h', toks := tk, gens := gs } ∧ Up s.heap h' ∧ GensOk q s.gens gs
theorem KK.refl (q : Bool) (s : Shared) : KK q s s := ⟨s.heap, s.toks, s.gens, rfl, Up.refl _, .refl _ _⟩
theorem KK.up {q : Bool} {s s' : Shared} (h : KK q s s') : Up s.heap s'.heap := by obtain ⟨h', tk, gs, rfl, k, _⟩ := h; exact k
theorem KK.gens {q : Bool} {s s' : Shared} (h : KK q s s') : GensOk q s.gens s'.gens := by obtain ⟨h', tk, gs, rfl, _, g⟩ := h; exact g
theorem KK.trans {q : Bool} {s₁ s₂ s₃ : Shared} (x : KK q s₁ s₂) (y : KK q s₂ s₃) : KK q s₁ s₃ := by
  obtain ⟨h, tk, gs, rfl, k, g⟩ := x
  obtain ⟨h', tk', gs', rfl, k', g'⟩ := y
  exact ⟨h', tk', gs', rfl, k.trans k', g.trans g'⟩
theorem KK.of_keeps {q : Bool} {s s' : Shared} (h : Keeps s s') : KK q s s' := by
  obtain ⟨h', tk, rfl, k⟩ := h
  exact ⟨h', tk, s.gens, rfl, k, .refl _ _⟩
theorem KK.keeps {s s' : Shared} (h : KK true s s') : Keeps s s' := by
  obtain ⟨h', tk, gs, rfl, k, g⟩ := h
  have e : gs = s.gens := g.1 rfl
  subst e
  exact ⟨h', tk, rfl, k⟩
theorem KK.tok (q : Bool) (s : Shared) (t : Nat) : KK q s { s with toks := t } := ⟨s.heap, t, s.gens, rfl, Up.refl _, .refl _ _⟩
theorem KK.heap {q : Bool} {s : Shared} {h' : Heap} (k : Up s.heap h') (t : Nat) : KK q s { s with heap := h', toks := t } := ⟨h', t, s.gens, rfl, k, .refl _ _⟩
theorem KK.heap' {q : Bool} {s : Shared} {h' : Heap} (k : Up s.heap h') : KK q s { s with heap := h' } := ⟨h', s.toks, s.gens, rfl, k, .refl _ _⟩
theorem KK.push (q : Bool) (s : Shared) (o : Obj) : KK q s { s with heap := s.heap.push o } := KK.heap' fun _ _ e => Heap.get?_push_of_some o e

-- what a value means in a heap; no object of O (those that may still change) is read
noncomputable def Rep (O : List Addr) (h : Heap) : Value → PV → Prop
  | v, .dat d => Carried v d
  | v, .bytes b => ∃ t, v = .bytes b t
  | v, .list ds => ∃ a vs, v = .ref a ∧ a ∉ O ∧ h.PlainList a vs ∧ CarriedAll vs.toList ds
  | v, .tup ds => ∃ a vs, v = .ref a ∧ a ∉ O ∧ IsTup h a vs ∧ CarriedAll vs.toList ds
  | v, .list2 xs => ∃ a vs, v = .ref a ∧ a ∉ O ∧ h.PlainList a vs ∧ Paired (fun v ds => ∃ a vs, v = .ref a ∧ a ∉ O ∧ h.PlainList a vs ∧ CarriedAll vs.toList ds) vs.toList xs
  | v, .rng x y z => ∃ a t u w, v = .ref a ∧ a ∉ O ∧ IsRange h a x y z t u w
  | v, .val u => v = u
  | v, .unb => True

theorem plain_up {h h' : Heap} (k : Up h h') {a : Addr} {vs : Array Value} (x : h.PlainList a vs) : h'.PlainList a vs := let ⟨n, e⟩ := x; ⟨n, k _ _ e⟩
theorem tup_up {h h' : Heap} (k : Up h h') {a : Addr} {vs : Array Value} (x : IsTup h a vs) : IsTup h' a vs := let ⟨o, e, r⟩ := x; ⟨o, k _ _ e, r⟩
theorem paired_mono {α β : Type} {F G : α → β → Prop} (h : ∀ a b, F a b → G a b) : ∀ {l : List α} {m : List β}, Paired F l m → Paired G l m
  | _, _, .nil => .nil
  | _, _, .cons x r => .cons (h _ _ x) (paired_mono h r)
theorem Rep.up {O : List Addr} {h h' : Heap} (k : Up h h') {v : Value} {X : PV} (r : Rep O h v X) : Rep O h' v X := by
  cases X with
  | dat d => exact r
  | bytes b => exact r
  | list ds => obtain ⟨a, vs, e, n, p, c⟩ := r; exact ⟨a, vs, e, n, plain_up k p, c⟩
  | tup ds => obtain ⟨a, vs, e, n, p, c⟩ := r; exact ⟨a, vs, e, n, tup_up k p, c⟩
  | list2 xs => obtain ⟨a, vs, e, n, p, c⟩ := r; exact ⟨a, vs, e, n, plain_up k p, paired_mono (fun _ _ ⟨a, vs, e, n, p, c⟩ => ⟨a, vs, e, n, plain_up k p, c⟩) c⟩
  | rng x y z => obtain ⟨a, t, u, w, e, n, p⟩ := r; exact ⟨a, t, u, w, e, n, k _ _ p⟩
  | val u => exact r
  | unb => exact r
-- fewer objects that may change
theorem Rep.sub {O O' : List Addr} (hs : ∀ a ∈ O', a ∈ O) {h : Heap} {v : Value} {X : PV} (r : Rep O h v X) : Rep O' h v X := by
  cases X with
  | dat d => exact r
  | bytes b => exact r
  | list ds => obtain ⟨a, vs, e, n, p, c⟩ := r; exact ⟨a, vs, e, fun m => n (hs _ m), p, c⟩
  | tup ds => obtain ⟨a, vs, e, n, p, c⟩ := r; exact ⟨a, vs, e, fun m => n (hs _ m), p, c⟩
  | list2 xs => obtain ⟨a, vs, e, n, p, c⟩ := r; exact ⟨a, vs, e, fun m => n (hs _ m), p, paired_mono (fun _ _ ⟨a, vs, e, n, p, c⟩ => ⟨a, vs, e, fun m => n (hs _ m), p, c⟩) c⟩
  | rng x y z => obtain ⟨a, t, u, w, e, n, p⟩ := r; exact ⟨a, t, u, w, e, fun m => n (hs _ m), p⟩
  | val u => exact r
  | unb => exact r
-- a new object that may change
theorem Rep.more {O : List Addr} {h : Heap} {b : Addr} (hb : h.get? b = none) {v : Value} {X : PV} (r : Rep O h v X) : Rep (b :: O) h v X := by
  have ne : ∀ {a : Addr} {o : Obj}, h.get? a = some o → a ∉ O → a ∉ b :: O := fun e n m => by
    rcases List.mem_cons.mp m with rfl | m
    · rw [hb] at e; cases e
    · exact n m
  cases X with
  | dat d => exact r
  | bytes b => exact r
  | list ds => obtain ⟨a, vs, e, n, p, c⟩ := r; exact ⟨a, vs, e, (let ⟨_, q⟩ := p; ne q n), p, c⟩
  | tup ds => obtain ⟨a, vs, e, n, p, c⟩ := r; exact ⟨a, vs, e, (let ⟨_, q, _⟩ := p; ne q n), p, c⟩
  | list2 xs => obtain ⟨a, vs, e, n, p, c⟩ := r; exact ⟨a, vs, e, (let ⟨_, q⟩ := p; ne q n), p, paired_mono (fun _ _ ⟨a, vs, e, n, p, c⟩ => ⟨a, vs, e, (let ⟨_, q⟩ := p; ne q n), p, c⟩) c⟩
  | rng x y z => obtain ⟨a, t, u, w, e, n, p⟩ := r; exact ⟨a, t, u, w, e, ne p n, p⟩
  | val u => exact r
  | unb => exact r
-- a change of an object that may change, or that is no list and no tuple
theorem Rep.but {O : List Addr} {h h' : Heap} {b : Addr} (hs : Heap.ExtBut b h h') (hb : b ∈ O ∨ (∀ vs, ¬ h.PlainList b vs) ∧ (∀ vs, ¬ IsTup h b vs) ∧ ∀ x y z t u w, ¬ IsRange h b x y z t u w) {v : Value} {X : PV} (r : Rep O h v X) : Rep O h' v X := by
  have ne1 : ∀ {a : Addr} {vs : Array Value}, h.PlainList a vs → a ∉ O → a ≠ b := fun p n e => by
    subst e
    rcases hb with m | m
    · exact n m
    · exact m.1 _ p
  have ne2 : ∀ {a : Addr} {vs : Array Value}, IsTup h a vs → a ∉ O → a ≠ b := fun p n e => by
    subst e
    rcases hb with m | m
    · exact n m
    · exact m.2.1 _ p
  have ne3 : ∀ {a : Addr} {x y z : Int} {t u w : Tok}, IsRange h a x y z t u w → a ∉ O → a ≠ b := fun p n e => by
    subst e
    rcases hb with m | m
    · exact n m
    · exact m.2.2 _ _ _ _ _ _ p
  have p1 : ∀ {a : Addr} {vs : Array Value}, h.PlainList a vs → a ∉ O → h'.PlainList a vs := fun p n => let ⟨m, q⟩ := p; ⟨m, hs _ _ (ne1 p n) q⟩
  cases X with
  | dat d => exact r
  | bytes b => exact r
  | list ds => obtain ⟨a, vs, e, n, p, c⟩ := r; exact ⟨a, vs, e, n, p1 p n, c⟩
  | tup ds => obtain ⟨a, vs, e, n, p, c⟩ := r; exact ⟨a, vs, e, n, (let ⟨o, q, r⟩ := p; ⟨o, hs _ _ (ne2 p n) q, r⟩), c⟩
  | list2 xs => obtain ⟨a, vs, e, n, p, c⟩ := r; exact ⟨a, vs, e, n, p1 p n, paired_mono (fun _ _ ⟨a, vs, e, n, p, c⟩ => ⟨a, vs, e, n, p1 p n, c⟩) c⟩
  | rng x y z => obtain ⟨a, t, u, w, e, n, p⟩ := r; exact ⟨a, t, u, w, e, n, hs _ _ (ne3 p n) p⟩
  | val u => exact r
  | unb => exact r

-- room for d more frames
structure AOk (d : Nat) (A : Around) : Prop where
  hh : A.handled = none
  depth : A.depth + d < recursionLimit
  units : A.units + 8 * d < cLine

-- what is known of the module's top
structure Wo where
  prog : Program
  w : World
  mg : Str → Option Value
  mb : Str → Option Value
  ok : Heap → Prop
  keeps : ∀ h h', ok h → Up h h' → ok h'
  g : ∀ h, ok h → h.Ns mainGlobals mg
  b : ∀ h, ok h → h.Ns builtinsNs mb
  nolim : ∀ h, ok h → h.NoLimit

-- a variable's value
noncomputable def VarAt (env : Env) (h : Heap) (x : Str) (v : Value) : Prop :=
  (env.kindOf x = some .local ∧ ∃ m, h.Ns env.locals m ∧ m x = some v) ∨
  ((env.kindOf x = some .cell ∨ env.kindOf x = some .free ∧ (x == ("__classdict__" : Str)) = false) ∧ ∃ c, env.cells.lookup x = some c ∧ h.IsCell c (some v))
theorem VarAt.up {env : Env} {h h' : Heap} (k : Up h h') {x : Str} {v : Value} (r : VarAt env h x v) : VarAt env h' x v := by
  rcases r with ⟨hk, m, hn, hv⟩ | ⟨hk, c, hc, hv⟩
  · exact .inl ⟨hk, m, hn.keeps k, hv⟩
  · exact .inr ⟨hk, c, hc, hv.keeps k⟩

-- the frame's names and what they hold
inductive At : List Str → List PV → Str → PV → Prop
  | here {x : Str} {X : PV} {ns : List Str} {ρ : List PV} : At (x :: ns) (X :: ρ) x X
  | there {x y : Str} {X Y : PV} {ns : List Str} {ρ : List PV} : At ns ρ x X → At (y :: ns) (Y :: ρ) x X
inductive Put : List Str → List PV → Str → PV → List PV → Prop
  | here {x : Str} {X Y : PV} {ns : List Str} {ρ : List PV} : Put (x :: ns) (Y :: ρ) x X (X :: ρ)
  | there {x y : Str} {X Y : PV} {ns : List Str} {ρ ρ' : List PV} : Put ns ρ x X ρ' → Put (y :: ns) (Y :: ρ) x X (Y :: ρ')
theorem At.mem {ns : List Str} {ρ : List PV} {x : Str} {X : PV} (h : At ns ρ x X) : x ∈ ns := by
  induction h with
  | here => exact .head _
  | there _ ih => exact .tail _ ih
theorem Put.mem {ns : List Str} {ρ ρ' : List PV} {x : Str} {X : PV} (h : Put ns ρ x X ρ') : x ∈ ns := by
  induction h with
  | here => exact .head _
  | there _ ih => exact .tail _ ih
theorem Put.at {ns : List Str} {ρ ρ' : List PV} {x : Str} {X : PV} (h : Put ns ρ x X ρ') (hn : ns.Nodup) {y : Str} {Y : PV} (a : At ns ρ' y Y) : (y = x ∧ Y = X) ∨ (y ≠ x ∧ At ns ρ y Y) := by
  induction h with
  | here =>
    cases a with
    | here => exact .inl ⟨rfl, rfl⟩
    | there a => exact .inr ⟨fun e => (List.nodup_cons.mp hn).1 (e ▸ a.mem), .there a⟩
  | there h ih =>
    cases a with
    | here => exact .inr ⟨fun e => (List.nodup_cons.mp hn).1 (e ▸ h.mem), .here⟩
    | there a =>
      rcases ih (List.nodup_cons.mp hn).2 a with r | ⟨r, s⟩
      · exact .inl r
      · exact .inr ⟨r, .there s⟩

-- an object of the frame's own, named by its address
inductive OV where
  | lst (ds : List PyData)
  | lst2 (xs : List (List PyData))
  | obj (P : Obj → Prop)
noncomputable def OwnAt (O : List Addr) (h : Heap) (a : Addr) : OV → Prop
  | .lst ds => ∃ vs, h.PlainList a vs ∧ CarriedAll vs.toList ds
  | .lst2 xs => ∃ vs, h.PlainList a vs ∧ Paired (fun v ds => ∃ a vs, v = .ref a ∧ a ∉ O ∧ h.PlainList a vs ∧ CarriedAll vs.toList ds) vs.toList xs
  | .obj P => ∃ o, h.get? a = some o ∧ P o
theorem OwnAt.live {O : List Addr} {h : Heap} {a : Addr} {v : OV} (r : OwnAt O h a v) : (h.get? a).isSome = true := by
  cases v with
  | lst ds => obtain ⟨vs, ⟨n, e⟩, _⟩ := r; rw [e]; rfl
  | lst2 xs => obtain ⟨vs, ⟨n, e⟩, _⟩ := r; rw [e]; rfl
  | obj P => obtain ⟨o, e, _⟩ := r; rw [e]; rfl
theorem OwnAt.up {O : List Addr} {h h' : Heap} (k : Up h h') {a : Addr} {v : OV} (r : OwnAt O h a v) : OwnAt O h' a v := by
  cases v with
  | lst ds => obtain ⟨vs, p, q⟩ := r; exact ⟨vs, plain_up k p, q⟩
  | lst2 xs => obtain ⟨vs, p, q⟩ := r; exact ⟨vs, plain_up k p, paired_mono (fun _ _ ⟨a, vs, e, n, p, c⟩ => ⟨a, vs, e, n, plain_up k p, c⟩) q⟩
  | obj P => obtain ⟨o, e, p⟩ := r; exact ⟨o, k _ _ e, p⟩
-- a change of another object, that may change or is no list
theorem OwnAt.but {O : List Addr} {h h' : Heap} {b : Addr} (hs : Heap.ExtBut b h h') (hb : b ∈ O ∨ ∀ vs, ¬ h.PlainList b vs) {a : Addr} (ne : a ≠ b) {v : OV} (r : OwnAt O h a v) : OwnAt O h' a v := by
  cases v with
  | lst ds => obtain ⟨vs, ⟨n, e⟩, q⟩ := r; exact ⟨vs, ⟨n, hs _ _ ne e⟩, q⟩
  | lst2 xs =>
    obtain ⟨vs, ⟨n, e⟩, q⟩ := r
    refine ⟨vs, ⟨n, hs _ _ ne e⟩, paired_mono (fun _ _ ⟨a, vs, e, n, p, c⟩ => ⟨a, vs, e, n, ?_, c⟩) q⟩
    obtain ⟨m, f⟩ := p
    refine ⟨m, hs _ _ (fun z => ?_) f⟩
    subst z
    rcases hb with m' | m'
    · exact n m'
    · exact m' _ ⟨m, f⟩
  | obj P => obtain ⟨o, e, p⟩ := r; exact ⟨o, hs _ _ ne e, p⟩
theorem OwnAt.more {O : List Addr} {h : Heap} {b : Addr} (hb : h.get? b = none) {a : Addr} {v : OV} (r : OwnAt O h a v) : OwnAt (b :: O) h a v := by
  cases v with
  | lst ds => exact r
  | lst2 xs =>
    obtain ⟨vs, p, q⟩ := r
    refine ⟨vs, p, paired_mono (fun _ _ ⟨a, vs, e, n, p, c⟩ => ⟨a, vs, e, fun m => ?_, p, c⟩) q⟩
    rcases List.mem_cons.mp m with rfl | m
    · obtain ⟨_, f⟩ := p; rw [hb] at f; cases f
    · exact n m
  | obj P => exact r
theorem OwnAt.sub {O O' : List Addr} (hs : ∀ a ∈ O', a ∈ O) {h : Heap} {a : Addr} {v : OV} (r : OwnAt O h a v) : OwnAt O' h a v := by
  cases v with
  | lst ds => exact r
  | lst2 xs => obtain ⟨vs, p, q⟩ := r; exact ⟨vs, p, paired_mono (fun _ _ ⟨a, vs, e, n, p, c⟩ => ⟨a, vs, e, fun m => n (hs _ m), p, c⟩) q⟩
  | obj P => exact r

structure Cx where
  Ω : Wo
  q : Bool
  d : Nat
  nm : List (Str × NameKind)
  ns : List Str
  env : Env
  b : Shared
  O : List Addr
  fp : List Addr
  inv : Shared → Prop

structure Sg where
  ρ : List PV
  own : List (Addr × OV)

noncomputable abbrev Cx.M (c : Cx) : Model := model c.Ω.prog c.Ω.w
noncomputable def Sg.all (c : Cx) (σ : Sg) : List Addr := σ.own.map (·.1) ++ c.O

structure EnvOk (env : Env) (nm : List (Str × NameKind)) : Prop where
  kind : env.scope.kind = .function
  names : env.scope.names = nm
  glob : env.globals = mainGlobals
  blt : env.builtins = builtinsNs
  kinds : ∀ x k, nm.lookup x = some k → k ≠ .free → env.kindOf x = some k
  cels : ∀ x, nm.lookup x = some .cell → (env.cells.lookup x).isSome = true

structure St (c : Cx) (σ : Sg) (s : Shared) : Prop where
  eo : EnvOk c.env c.nm
  kk : KK c.q c.b s
  wd : c.Ω.ok c.b.heap
  vars : ∀ x X, At c.ns σ.ρ x X → X ≠ .unb → ∃ v, VarAt c.env s.heap x v ∧ Rep (σ.all c) s.heap v X
  own : ∀ a ds, (a, ds) ∈ σ.own → OwnAt (σ.all c) s.heap a ds ∧ c.b.heap.get? a = none ∧ a ≠ c.env.locals ∧ ∀ x k, c.env.cells.lookup x = some k → a ≠ k
  nodup : (σ.own.map (·.1)).Nodup
  old : ∀ b ∈ c.O, (s.heap.get? b).isSome = true ∧ b ∉ σ.own.map (·.1) ∧ b ≠ c.env.locals ∧ ∀ x k, c.env.cells.lookup x = some k → b ≠ k
  hold : c.inv s
  hfr : ∀ s s' : Shared, c.inv s → (∀ b ∈ c.fp, ∀ o, s.heap.get? b = some o → s'.heap.get? b = some o) → (∀ (i : Nat) (x : GenState), s.gens[i]? = some x → s'.gens[i]? = some x) → c.inv s'
  fpl : ∀ b ∈ c.fp, (s.heap.get? b).isSome = true ∧ b ∉ σ.own.map (·.1) ∧ b ≠ c.env.locals ∧ ∀ x k, c.env.cells.lookup x = some k → b ≠ k

theorem isSome_up {h h' : Heap} (k : Up h h') {b : Addr} (e : (h.get? b).isSome = true) : (h'.get? b).isSome = true := by
  obtain ⟨o, e⟩ := Option.isSome_iff_exists.mp e
  rw [k b o e]; rfl
theorem St.up {c : Cx} {σ : Sg} {s s' : Shared} (h : St c σ s) (k : KK c.q s s') : St c σ s' where
  eo := h.eo
  kk := h.kk.trans k
  wd := h.wd
  vars := fun x X e n => let ⟨v, a, r⟩ := h.vars x X e n; ⟨v, a.up k.up, r.up k.up⟩
  own := fun a ds m => let ⟨p, r⟩ := h.own a ds m; ⟨p.up k.up, r⟩
  nodup := h.nodup
  old := fun b m => ⟨isSome_up k.up (h.old b m).1, (h.old b m).2⟩
  hold := h.hfr _ _ h.hold (fun b _ o e => k.up b o e) k.gens.2.1
  hfr := h.hfr
  fpl := fun b m => ⟨isSome_up k.up (h.fpl b m).1, (h.fpl b m).2⟩
theorem St.ok {c : Cx} {σ : Sg} {s : Shared} (h : St c σ s) : c.Ω.ok s.heap := c.Ω.keeps _ _ h.wd h.kk.up

-- the ground is laid and what may change is there
structure Rdy (c : Cx) (O : List Addr) (s : Shared) : Prop where
  ok : c.Ω.ok s.heap
  live : ∀ b ∈ O, (s.heap.get? b).isSome = true
theorem Rdy.new {c : Cx} {O : List Addr} {s : Shared} (h : Rdy c O s) : s.heap.objs.size ∉ O := fun m => by
  obtain ⟨o, e⟩ := Option.isSome_iff_exists.mp (h.live _ m)
  exact Nat.lt_irrefl _ (Heap.lt_size e)
theorem St.live {c : Cx} {σ : Sg} {s : Shared} (h : St c σ s) : ∀ b ∈ σ.all c, (s.heap.get? b).isSome = true := fun b m => by
  rcases List.mem_append.mp m with m | m
  · obtain ⟨⟨a, ds⟩, ma, rfl⟩ := List.mem_map.mp m
    exact (h.own a ds ma).1.live
  · exact (h.old b m).1
theorem St.rdy {c : Cx} {σ : Sg} {s : Shared} (h : St c σ s) : Rdy c (σ.all c) s := ⟨h.ok, h.live⟩

-- an expression that gives X
structure Ev (c : Cx) (σ : Sg) (e : Expr) (X : PV) : Prop where
  run : ∀ A s, AOk c.d A → St c σ s → wpAny c.M A (eval e c.env) (fun v s' => KK c.q s s' ∧ Rep (σ.all c) s'.heap v X) (fun _ _ => False) s
-- a tree that gives X of values at hand: no frame is read
structure Pr (c : Cx) (O : List Addr) (t : List Value → Sem Value) (Xs : List PV) (X : PV) : Prop where
  run : ∀ A s vs, AOk c.d A → Rdy c O s → Paired (Rep O s.heap) vs Xs → wpAny c.M A (t vs) (fun v s' => KK c.q s s' ∧ Rep O s'.heap v X) (fun _ _ => False) s
-- an expression's truth
structure EvB (c : Cx) (σ : Sg) (e : Expr) (b : Bool) : Prop where
  run : ∀ A s, AOk c.d A → St c σ s → wpAny c.M A (isTrue e c.env (eval e c.env)) (fun b' s' => KK c.q s s' ∧ b' = b) (fun _ _ => False) s

section
variable {c : Cx} {σ : Sg}
theorem Ev.to {e : Expr} {X Y : PV} (h : Ev c σ e X) (e' : X = Y) : Ev c σ e Y := e' ▸ h
theorem ev_of {e : Expr} {X : PV} {A : Around} {s : Shared} (h : Ev c σ e X) (hA : AOk c.d A) (hs : St c σ s) {Q : Value → Shared → Prop} {E : Value → Shared → Prop}
    (hQ : ∀ v s', KK c.q s s' → Rep (σ.all c) s'.heap v X → Q v s') : wpAny c.M A (eval e c.env) Q E s :=
  wpAny_mono (h.run A s hA hs) (fun v s' h => hQ v s' h.1 h.2) fun _ _ f => f.elim
theorem ev_int {i : Int} {k : Nat} {pos : Pos} : Ev c σ (.Constant (.int i) k pos) (pI i) := .mk fun _ s _ _ => wpAny_Constant_int ⟨KK.tok _ _ _, .int i _⟩
theorem ev_str {x : Str} {k : Nat} {pos : Pos} : Ev c σ (.Constant (.str x) k pos) (pS x) := .mk fun _ s _ _ => Constant_str ⟨KK.tok _ _ _, .str x _⟩
theorem ev_bool {b : Bool} {k : Nat} {pos : Pos} : Ev c σ (.Constant (.bool b) k pos) (pB b) := .mk fun _ s _ _ => (wpAny_pure ⟨KK.refl _ _, .bool b⟩ : wpAny c.M _ (pure (Value.bool b)) _ _ s)
theorem ev_none {k : Nat} {pos : Pos} : Ev c σ (.Constant .none k pos) pN := .mk fun _ s _ _ => (wpAny_pure ⟨KK.refl _ _, .none⟩ : wpAny c.M _ (pure Value.none) _ _ s)
theorem ev_var {x : Str} {pos : Pos} {X : PV} (h : At c.ns σ.ρ x X) (hX : X ≠ .unb := by nofun) (hd : (x == ("__debug__" : Str)) = false := by decide +kernel) : Ev c σ (.Name x pos) X := .mk fun A s hA hs => by
  obtain ⟨v, ha, r⟩ := hs.vars x X h hX
  refine wpAny_Name ?_ hd
  rcases ha with ⟨hk, m, hn, hv⟩ | ⟨hk, cc, hc, hv⟩
  · exact wpAny_loadName_local hs.eo.kind hk hn hv ⟨KK.refl _ _, r⟩
  · rcases hk with hk | ⟨hk, hx⟩
    · exact wpAny_loadName_cell hs.eo.kind hk hc hv ⟨KK.refl _ _, r⟩
    · exact wpAny_loadName_free hs.eo.kind hk hc hv ⟨KK.refl _ _, r⟩ hx
-- a name of the top's that holds an int or a text
theorem ev_global {x : Str} {pos : Pos} {d : PyData} {v : Value} (hg : c.Ω.mg x = some v) (hv : Carried v d) (hx : c.nm.lookup x = some .globalImplicit) (hd : (x == ("__debug__" : Str)) = false := by decide +kernel) :
    Ev c σ (.Name x pos) (.dat d) := .mk fun A s hA hs =>
  Name_function_global hs.eo.kind (hs.eo.kinds _ _ hx (by decide)) (loadGlobal_global (by rw [hs.eo.glob]; exact c.Ω.g _ hs.ok) hg ⟨KK.refl _ _, hv⟩) hd

theorem ev_binop {l r : Expr} {op : Operator} {pos : Pos} {X Y Z : PV} (hl : Ev c σ l X) (hr : Ev c σ r Y)
    (hp : Pr c (σ.all c) (fun vs => binaryOp op (vs.getD 0 .none) (vs.getD 1 .none)) [X, Y] Z) : Ev c σ (.BinOp l op r pos) Z := .mk fun A s hA hs =>
  wpAny_BinOp (ev_of hl hA hs fun a s₁ k₁ r₁ => ev_of hr hA (hs.up k₁) fun b s₂ k₂ r₂ =>
    wpAny_mono (hp.run A s₂ [a, b] hA ((hs.up k₁).up k₂).rdy (.cons (r₁.up k₂.up) (.cons r₂ .nil))) (fun v s' h => ⟨(k₁.trans k₂).trans h.1, h.2⟩) fun _ _ f => f)
theorem ev_compare {l r : Expr} {op : CmpOp} {pos : Pos} {X Y Z : PV} (hl : Ev c σ l X) (hr : Ev c σ r Y)
    (hp : Pr c (σ.all c) (fun vs => compareOp op (vs.getD 0 .none) (vs.getD 1 .none)) [X, Y] Z) (hm : behindInMarks op r = false := by rfl) : Ev c σ (.Compare l [op] [r] pos) Z := .mk fun A s hA hs =>
  wpAny_Compare1 (ev_of hl hA hs fun a s₁ k₁ r₁ => ev_of hr hA (hs.up k₁) fun b s₂ k₂ r₂ =>
    wpAny_mono (hp.run A s₂ [a, b] hA ((hs.up k₁).up k₂).rdy (.cons (r₁.up k₂.up) (.cons r₂ .nil))) (fun v s' h => ⟨(k₁.trans k₂).trans h.1, h.2⟩) fun _ _ f => f) hm
end
end Mine
end
section
open PySem PySem.W PyProof.Rows PySem.Calls
namespace Mine

noncomputable def notStar : Expr → Bool
  | .Starred .. => false
  | _ => true
structure EvL (c : Cx) (σ : Sg) (es : List Expr) (Xs : List PV) : Prop where
  run : ∀ A s pos, AOk c.d A → St c σ s → wpAny c.M A (spliced (backTo pos (starEach es c.env))) (fun vs s' => KK c.q s s' ∧ Paired (Rep (σ.all c) s'.heap) vs Xs) (fun _ _ => False) s

-- the truth of a value
noncomputable def Tv (c : Cx) (O : List Addr) (X : PV) (b : Bool) : Prop :=
  ∀ A s v, AOk c.d A → Rdy c O s → Rep O s.heap v X → wpAny c.M A (truthy v) (fun b' s' => KK c.q s s' ∧ b' = b) (fun _ _ => False) s

section
variable {c : Cx} {σ : Sg}
theorem evl_nil : EvL c σ [] [] := .mk fun A s pos _ _ => spliced_none ⟨KK.refl _ _, .nil⟩
theorem starEach_cons {e : Expr} {es : List Expr} {env : Env} (h : notStar e = true) : starEach (e :: es) env = (false, eval e env) :: starEach es env := by
  cases e <;> first | rfl | (cases h)
theorem evl_cons {e : Expr} {es : List Expr} {X : PV} {Xs : List PV} (h : Ev c σ e X) (t : EvL c σ es Xs) (hn : notStar e = true := by rfl) : EvL c σ (e :: es) (X :: Xs) :=
  .mk fun A s pos hA hs => spliced_more (ev_of h hA hs fun v s₁ k₁ r₁ => wpAny_mono (t.run A s₁ pos hA (hs.up k₁)) (fun vs s₂ h₂ => ⟨k₁.trans h₂.1, .cons (r₁.up h₂.1.up) h₂.2⟩) fun _ _ f => f) (starEach_cons hn)

theorem tv_bool {O : List Addr} {b : Bool} : Tv c O (pB b) b := fun A s v hA _ r => by cases r; exact wpAny_truthy_bool ⟨KK.refl _ _, rfl⟩
theorem tv_int {O : List Addr} {i : Int} : Tv c O (pI i) (i != 0) := fun A s v hA _ r => by cases r; exact truthy_int ⟨KK.refl _ _, rfl⟩
theorem tv_str {O : List Addr} {x : Str} (hx : x.length ≤ 1000000 := by assumption) : Tv c O (pS x) ((x.length : Int) != 0) := fun A s v hA _ r => by
  cases r; exact SBL.truthy (by omega) ⟨KK.tok _ _ _, rfl⟩

theorem evb_of {e : Expr} {b : Bool} {A : Around} {s : Shared} (h : EvB c σ e b) (hA : AOk c.d A) (hs : St c σ s) {Q : Bool → Shared → Prop} {E : Value → Shared → Prop}
    (hQ : ∀ s', KK c.q s s' → Q b s') : wpAny c.M A (isTrue e c.env (eval e c.env)) Q E s :=
  wpAny_mono (h.run A s hA hs) (fun v s' h => by obtain ⟨k, rfl⟩ := h; exact hQ s' k) fun _ _ f => f.elim
theorem evb_plain {e : Expr} {X : PV} {b : Bool} (h : Ev c σ e X) (ht : Tv c (σ.all c) X b)
    (he : isTrue e c.env (eval e c.env) = (do let v ← eval e c.env; standAt e.pos; holding [v] (truthy v)) := by rfl) : EvB c σ e b := .mk fun A s hA hs =>
  isTrue_plain (ev_of h hA hs fun v s₁ k₁ r₁ => wpAny_mono (ht A s₁ v hA (hs.up k₁).rdy r₁) (fun b' s' h => ⟨k₁.trans h.1, h.2⟩) fun _ _ f => f) he
theorem evb_compare {l r : Expr} {op : CmpOp} {pos : Pos} {X Y : PV} {b : Bool} (hl : Ev c σ l X) (hr : Ev c σ r Y)
    (hp : Pr c (σ.all c) (fun vs => compareOp op (vs.getD 0 .none) (vs.getD 1 .none)) [X, Y] (pB b)) (hm : behindInMarks op r = false := by rfl) : EvB c σ (.Compare l [op] [r] pos) b := .mk fun A s hA hs =>
  wpAny_isTrue_Compare1 (ev_of hl hA hs fun a s₁ k₁ r₁ => ev_of hr hA (hs.up k₁) fun b' s₂ k₂ r₂ =>
    wpAny_mono (hp.run A s₂ [a, b'] hA ((hs.up k₁).up k₂).rdy (.cons (r₁.up k₂.up) (.cons r₂ .nil))) (fun v s' h => by
      obtain ⟨k, r⟩ := h
      cases r
      exact wpAny_truthy_bool ⟨(k₁.trans k₂).trans k, rfl⟩) fun _ _ f => f) hm
theorem evb_not {x : Expr} {pos : Pos} {b : Bool} (h : EvB c σ x b) : EvB c σ (.UnaryOp .Not x pos) (!b) := .mk fun A s hA hs =>
  isTrue_not (evb_of h hA hs fun s' k => ⟨k, rfl⟩)
theorem evb_or_nil {pos : Pos} : EvB c σ (.BoolOp .Or [] pos) false := .mk fun A s hA hs => isTrue_or_nil ⟨KK.refl _ _, rfl⟩
theorem evb_or {x : Expr} {rest : List Expr} {pos : Pos} {a b : Bool} (h : EvB c σ x a) (t : a = false → EvB c σ (.BoolOp .Or rest pos) b) : EvB c σ (.BoolOp .Or (x :: rest) pos) (a || b) := .mk fun A s hA hs =>
  isTrue_or (evb_of h hA hs fun s₁ k₁ => by
    cases a with
    | true => exact ⟨k₁, rfl⟩
    | false => exact evb_of (t rfl) hA (hs.up k₁) fun s' k => ⟨k₁.trans k, rfl⟩)
theorem ev_ifexp {test body orelse : Expr} {pos : Pos} {b : Bool} {X Y : PV} (h : EvB c σ test b) (h1 : b = true → Ev c σ body X) (h2 : b = false → Ev c σ orelse Y) :
    Ev c σ (.IfExp test body orelse pos) (if b then X else Y) := .mk fun A s hA hs =>
  IfExp_ (evb_of h hA hs fun s₁ k₁ => by
    cases b with
    | true => exact ev_of (h1 rfl) hA (hs.up k₁) fun v s' k r => ⟨k₁.trans k, r⟩
    | false => exact ev_of (h2 rfl) hA (hs.up k₁) fun v s' k r => ⟨k₁.trans k, r⟩)
theorem ev_unary {op : UnaryOp} {x : Expr} {pos : Pos} {X Y : PV} (h : Ev c σ x X) (hp : Pr c (σ.all c) (fun vs => unaryOp op (vs.getD 0 .none)) [X] Y) : Ev c σ (.UnaryOp op x pos) Y := .mk fun A s hA hs =>
  UnaryOp_ (ev_of h hA hs fun v s₁ k₁ r₁ => wpAny_mono (hp.run A s₁ [v] hA (hs.up k₁).rdy (.cons r₁ .nil)) (fun v s' h => ⟨k₁.trans h.1, h.2⟩) fun _ _ f => f)
-- and, or of truths
theorem ev_and1 {e : Expr} {pos : Pos} {X : PV} (h : Ev c σ e X) : Ev c σ (.BoolOp .And [e] pos) X := .mk fun A s hA hs => BoolOp_one (h.run A s hA hs)
theorem ev_and {e₁ e₂ : Expr} {rest : List Expr} {pos : Pos} {a b : Bool} (h : Ev c σ e₁ (pB a)) (t : a = true → Ev c σ (.BoolOp .And (e₂ :: rest) pos) (pB b)) : Ev c σ (.BoolOp .And (e₁ :: e₂ :: rest) pos) (pB (a && b)) := .mk fun A s hA hs =>
  BoolOp_and (ev_of h hA hs fun v s₁ k₁ r₁ => by
    cases r₁
    refine wpAny_truthy_bool ?_
    cases a with
    | false => exact ⟨k₁, .bool _⟩
    | true => exact ev_of (t rfl) hA (hs.up k₁) fun v s' k r => ⟨k₁.trans k, r⟩)
-- a name of the built-ins
noncomputable def BName (c : Cx) (x : Str) (v : Value) : Prop := c.Ω.mg x = none ∧ c.Ω.mb x = some v ∧ c.nm.lookup x = some .globalImplicit ∧ (x == ("__debug__" : Str)) = false
theorem bname_at {x : Str} {pos : Pos} {v : Value} (h : BName c x v) {A : Around} {s : Shared} (hs : St c σ s) {Q : Value → Shared → Prop} {E : Value → Shared → Prop} (hQ : Q v s) : wpAny c.M A (eval (.Name x pos) c.env) Q E s :=
  Name_function_global hs.eo.kind (hs.eo.kinds _ _ h.2.2.1 (by decide)) (loadGlobal_builtin (by rw [hs.eo.glob]; exact c.Ω.g _ hs.ok) h.1 (by rw [hs.eo.blt]; exact c.Ω.b _ hs.ok) h.2.1 hQ) h.2.2.2

theorem starEach_plain {env : Env} {pos : Pos} {es : List Expr} (h : (es.all fun e => match e with | .Starred .. => false | _ => true) = true) : (backTo pos (starEach es env)).any (·.1) = false := by
  induction es with
  | nil => rfl
  | cons e r ih =>
    rw [List.all_cons, Bool.and_eq_true] at h
    have e1 : starEach (e :: r) env = (false, eval e env) :: starEach r env := by cases e <;> first | rfl | (simp at h)
    rw [e1]
    show (false || (backTo pos (starEach r env)).any (·.1)) = false
    rw [ih h.2]; rfl
theorem evalArgs_of {f : Value} {es : List Expr} {env : Env} {pos : Pos} {M : Model} {A : Around} {E : Value → Shared → Prop} {s : Shared} {Q : Args → Shared → Prop} (hst : (es.all fun e => match e with | .Starred .. => false | _ => true) = true)
    (h : wpAny M A (spliced (backTo pos (starEach es env))) (fun vs s' => Q ⟨vs, []⟩ s') E s) : wpAny M A (evalArgs f true (backTo pos (starEach es env)) []) Q E s := by
  cases es with
  | nil =>
    unfold evalArgs
    exact wpAny_bind (wpAny_mono h (fun vs s' h' => wpAny_bind (wpAny_pure (wpAny_holding (wpAny_bind (wpAny_pure (wpAny_bind (wpAny_pure (wpAny_pure h')))))))) fun _ _ x => x)
  | cons e r =>
    have e1 : starEach (e :: r) env = (false, eval e env) :: starEach r env := by cases e <;> first | rfl | (simp at hst)
    rw [e1] at h ⊢
    exact evalArgs_plain h
end
end Mine
end
section
open PySem PySem.W PyProof.Rows PySem.Calls
namespace Mine

theorem ns_unique {h : Heap} {a : Addr} {m m' : Str → Option Value} (x : h.Ns a m) (y : h.Ns a m') : m = m' := by
  obtain ⟨o, es, ep, ho, hd, _, hf⟩ := x
  obtain ⟨o', es', ep', ho', hd', _, hf'⟩ := y
  rw [ho] at ho'; cases ho'
  rw [hd] at hd'; cases hd'
  funext n
  rw [← hf, ← hf']
theorem ns_no_list {h : Heap} {a : Addr} {m : Str → Option Value} (x : h.Ns a m) : (∀ vs, ¬ h.PlainList a vs) ∧ (∀ vs, ¬ IsTup h a vs) ∧ ∀ x y z t u w, ¬ IsRange h a x y z t u w := by
  obtain ⟨o, es, ep, ho, hd, _⟩ := x
  refine ⟨fun vs ⟨n, e⟩ => ?_, fun vs ⟨o', e, _, n, q⟩ => ?_, fun x y z t u w e => ?_⟩
  · have e2 := ho.symm.trans e; cases e2; cases hd
  · rw [ho] at e; cases e; rw [hd] at q; cases q
  · have e2 := ho.symm.trans e; cases e2; cases hd
theorem cell_no_list {h : Heap} {a : Addr} {v : Option Value} (x : h.IsCell a v) : (∀ vs, ¬ h.PlainList a vs) ∧ (∀ vs, ¬ IsTup h a vs) ∧ ∀ x y z t u w, ¬ IsRange h a x y z t u w := by
  obtain ⟨o, ho, hd⟩ := x
  refine ⟨fun vs ⟨n, e⟩ => ?_, fun vs ⟨o', e, _, n, q⟩ => ?_, fun x y z t u w e => ?_⟩
  · have e2 := ho.symm.trans e; cases e2; cases hd
  · rw [ho] at e; cases e; rw [hd] at q; cases q
  · have e2 := ho.symm.trans e; cases e2; cases hd
theorem cell_ne_ns {h : Heap} {a b : Addr} {v : Option Value} {m : Str → Option Value} (x : h.IsCell a v) (y : h.Ns b m) : a ≠ b := fun e => by
  subst e
  obtain ⟨o, ho, hd⟩ := x
  obtain ⟨o', es, ep, ho', hd', _⟩ := y
  rw [ho] at ho'; cases ho'; rw [hd] at hd'; cases hd'
theorem list_ne_ns {h : Heap} {a b : Addr} {vs : Array Value} {m : Str → Option Value} (x : h.PlainList a vs) (y : h.Ns b m) : a ≠ b := fun e => (ns_no_list y).1 vs (e ▸ x)
-- a state whose frame may be written
structure StW (c : Cx) (σ : Sg) (s : Shared) : Prop extends St c σ s where
  nsn : c.ns.Nodup
  loc : (∃ m, s.heap.Ns c.env.locals m) ∧ c.b.heap.get? c.env.locals = none
  cel : ∀ x k, c.env.cells.lookup x = some k → (∃ v, s.heap.IsCell k v) ∧ c.b.heap.get? k = none
  apart : c.env.cells.Pairwise fun x y => x.2 ≠ y.2

theorem StW.up {c : Cx} {σ : Sg} {s s' : Shared} (h : StW c σ s) (k : KK c.q s s') : StW c σ s' where
  toSt := h.toSt.up k
  nsn := h.nsn
  loc := ⟨let ⟨m, e⟩ := h.loc.1; ⟨m, e.keeps k.up⟩, h.loc.2⟩
  cel := fun x a e => ⟨let ⟨v, q⟩ := (h.cel x a e).1; ⟨v, q.keeps k.up⟩, (h.cel x a e).2⟩
  apart := h.apart

theorem isSome_but {h h' : Heap} {a b : Addr} (hs : Heap.SameBut a h h') (n : b ≠ a) (e : (h.get? b).isSome = true) : (h'.get? b).isSome = true := by
  rw [hs.2 b n]; exact e
theorem up_but {h₀ h h' : Heap} {a : Addr} (u : Up h₀ h) (hs : Heap.SameBut a h h') (n : h₀.get? a = none) : Up h₀ h' := fun b o e =>
  hs.extBut b o (fun q => by subst q; rw [n] at e; cases e) (u b o e)
theorem kk_but {q : Bool} {b s : Shared} {h' : Heap} {a : Addr} (k : KK q b s) (hs : Heap.SameBut a s.heap h') (n : b.heap.get? a = none) (t : Nat) : KK q b { s with heap := h', toks := t } := by
  obtain ⟨h₁, tk, gs, rfl, u, g⟩ := k
  exact ⟨h', t, gs, rfl, up_but u hs n, g⟩

section
variable {c : Cx} {σ : Sg} {s : Shared}

-- storing a name
theorem stw_store {x : Str} {v : Value} {X : PV} {ρ' : List PV} (h : StW c σ s) (r : Rep (σ.all c) s.heap v X) (hp : Put c.ns σ.ρ x X ρ') (hk : c.nm.lookup x = some .local ∨ c.nm.lookup x = some .cell)
    {A : Around} {E : Value → Shared → Prop} {Q : Unit → Shared → Prop} (hQ : ∀ s', StW c ⟨ρ', σ.own⟩ s' → Q () s') : wpAny c.M A (storeName c.env x v) Q E s := by
  rcases hk with hk | hk
  · obtain ⟨m, hm⟩ := h.loc.1
    have hkind := h.eo.kinds _ _ hk (by decide)
    refine wpAny_storeName_local hkind hm (fun h' hn' hs' => hQ _ ?_) (by rw [h.eo.kind]; rfl)
    have nl := ns_no_list hm
    refine StW.mk ⟨h.eo, kk_but h.kk hs' h.loc.2 _, h.wd, fun y Y e nu => ?_, fun a ds ma => ⟨(h.own a ds ma).1.but hs'.extBut (.inr nl.1) (h.own a ds ma).2.2.1, (h.own a ds ma).2⟩, h.nodup, fun b mb => ⟨isSome_but hs' (h.old b mb).2.2.1 (h.old b mb).1, (h.old b mb).2⟩, h.hfr _ _ h.hold (fun b mb o e => hs'.extBut b o (h.fpl b mb).2.2.1 e) (fun _ _ e => e), h.hfr, fun b mb => ⟨isSome_but hs' (h.fpl b mb).2.2.1 (h.fpl b mb).1, (h.fpl b mb).2⟩⟩ h.nsn
      ⟨⟨_, hn'⟩, h.loc.2⟩ (fun y k e => ⟨let ⟨u, q⟩ := (h.cel y k e).1; ⟨u, q.sameBut hs' (cell_ne_ns q hm)⟩, (h.cel y k e).2⟩) h.apart
    rcases hp.at h.nsn e with ⟨rfl, rfl⟩ | ⟨hy, e⟩
    · exact ⟨v, .inl ⟨hkind, _, hn', by simp⟩, r.but hs'.extBut (.inr nl)⟩
    · obtain ⟨u, hu, hr⟩ := h.vars y Y e nu
      refine ⟨u, ?_, hr.but hs'.extBut (.inr nl)⟩
      rcases hu with ⟨q, m', hm', e'⟩ | ⟨q, k, e', hc⟩
      · cases ns_unique hm hm'
        exact .inl ⟨q, _, hn', by simp [hy, e']⟩
      · exact .inr ⟨q, k, e', hc.sameBut hs' (cell_ne_ns hc hm)⟩
  · obtain ⟨k, hc⟩ := Option.isSome_iff_exists.mp (h.eo.cels x hk)
    obtain ⟨⟨v₀, hv₀⟩, hb⟩ := h.cel x k hc
    have hkind := h.eo.kinds _ _ hk (by decide)
    refine wpAny_storeName_cell h.eo.kind hkind hc hv₀ fun h' hc' hs' => hQ _ ?_
    have nl := cell_no_list hv₀
    have hkk : KK c.q c.b { s with heap := h' } := kk_but h.kk hs' hb s.toks
    refine StW.mk ⟨h.eo, hkk, h.wd, fun y Y e nu => ?_, fun a ds ma => ⟨(h.own a ds ma).1.but hs'.extBut (.inr nl.1) ((h.own a ds ma).2.2.2 _ _ hc), (h.own a ds ma).2⟩, h.nodup, fun b mb => ⟨isSome_but hs' ((h.old b mb).2.2.2 _ _ hc) (h.old b mb).1, (h.old b mb).2⟩, h.hfr _ _ h.hold (fun b mb o e => hs'.extBut b o ((h.fpl b mb).2.2.2 _ _ hc) e) (fun _ _ e => e), h.hfr, fun b mb => ⟨isSome_but hs' ((h.fpl b mb).2.2.2 _ _ hc) (h.fpl b mb).1, (h.fpl b mb).2⟩⟩ h.nsn
      ⟨let ⟨m, hm⟩ := h.loc.1; ⟨m, hm.sameBut hs' (cell_ne_ns hv₀ hm).symm⟩, h.loc.2⟩ (fun y k' e => ⟨?_, (h.cel y k' e).2⟩) h.apart
    · rcases hp.at h.nsn e with ⟨rfl, rfl⟩ | ⟨hy, e⟩
      · exact ⟨v, .inr ⟨.inl hkind, k, hc, hc'⟩, r.but hs'.extBut (.inr nl)⟩
      · obtain ⟨u, hu, hr⟩ := h.vars y Y e nu
        refine ⟨u, ?_, hr.but hs'.extBut (.inr nl)⟩
        rcases hu with ⟨q, m', hm', e'⟩ | ⟨q, k', e', hcc⟩
        · exact .inl ⟨q, _, hm'.sameBut hs' (cell_ne_ns hv₀ hm').symm, e'⟩
        · refine .inr ⟨q, k', e', hcc.sameBut hs' fun z => ?_⟩
          subst z
          exact hy (name_of_addr h.apart (mem_of_lookup e') (mem_of_lookup hc))
    · obtain ⟨u, hu⟩ := (h.cel y k' e).1
      by_cases z : k' = k
      · subst z; exact ⟨_, hc'⟩
      · exact ⟨u, hu.sameBut hs' z⟩
end

-- how a statement ends
inductive PF where
  | next | brk | cont | ret (X : PV)
noncomputable def FRep (O : List Addr) (h : Heap) : Flow → PF → Prop
  | .next, .next => True
  | .brk, .brk => True
  | .cont, .cont => True
  | .ret v, .ret X => Rep O h v X
  | _, _ => False

noncomputable abbrev Post := PF → Sg → Prop
-- statements from σ: they end by Q
structure Tr (c : Cx) (σ : Sg) (ss : List Stmt) (Q : Post) : Prop where
  run : ∀ A s, AOk c.d A → StW c σ s → wpAny c.M A (execs ss c.env) (fun f s' => ∃ pf σ', StW c σ' s' ∧ FRep c.O s'.heap f pf ∧ Q pf σ') (fun _ _ => False) s
noncomputable def Tr1 (c : Cx) (σ : Sg) (st : Stmt) (Q : Post) : Prop :=
  ∀ A s, AOk c.d A → StW c σ s → wpAny c.M A (exec st c.env) (fun f s' => ∃ pf σ', StW c σ' s' ∧ FRep c.O s'.heap f pf ∧ Q pf σ') (fun _ _ => False) s
-- what follows a statement
noncomputable def Then (c : Cx) (rest : List Stmt) (Q : Post) : Post := fun pf σ => match pf with
  | .next => Tr c σ rest Q
  | pf => Q pf σ

section
variable {c : Cx} {σ : Sg} {Q : Post}
theorem tr_nil (h : Q .next σ) : Tr c σ [] Q := .mk fun A s hA hs => wpAny_execs_nil ⟨.next, σ, hs, trivial, h⟩
theorem tr_cons {st : Stmt} {rest : List Stmt} (h : Tr1 c σ st (Then c rest Q)) : Tr c σ (st :: rest) Q := .mk fun A s hA hs =>
  wpAny_execs_cons (wpAny_mono (h A s hA hs) (fun f s' ⟨pf, σ', a, b, q⟩ => by
    cases f <;> cases pf <;> first | exact b.elim | exact Tr.run q A s' hA a | exact ⟨_, σ', a, b, q⟩) fun _ _ f => f)
theorem tr_if {test : Expr} {body orelse rest : List Stmt} {pos : Pos} {b : Bool} (h : EvB c σ test b) (h1 : b = true → Tr c σ body (Then c rest Q)) (h2 : b = false → Tr c σ orelse (Then c rest Q)) : Tr c σ (.If test body orelse pos :: rest) Q :=
  tr_cons fun A s hA hs => wpAny_If (evb_of h hA hs.toSt fun s' k => by
    cases b with
    | true => exact (h1 rfl).run A s' hA (hs.up k)
    | false => exact (h2 rfl).run A s' hA (hs.up k))
theorem tr_ret {e : Expr} {X : PV} {pos : Pos} {rest : List Stmt} (h : Ev c σ e X) (hq : Q (.ret X) σ) : Tr c σ (.Return (some e) pos :: rest) Q :=
  tr_cons fun A s hA hs => wpAny_Return_some (ev_of h hA hs.toSt fun v s' k r => ⟨.ret X, σ, hs.up k, r.sub fun a m => List.mem_append_right _ m, hq⟩)
theorem tr_brk {pos : Pos} {rest : List Stmt} (hq : Q .brk σ) : Tr c σ (.Break pos :: rest) Q := tr_cons fun A s hA hs => (wpAny_bind (wpAny_standAt (wpAny_pure ⟨.brk, σ, hs, trivial, hq⟩)) : wpAny c.M A (standAt pos >>= fun _ => pure Flow.brk) _ _ s)
theorem tr_assign {x : Str} {e : Expr} {X : PV} {p pos : Pos} {rest : List Stmt} {ρ' : List PV} (h : Ev c σ e X) (hp : Put c.ns σ.ρ x X ρ') (hk : c.nm.lookup x = some .local ∨ c.nm.lookup x = some .cell)
    (hs : swapsWith e (some (.Name x p)) pos.line c.env = pure false) (ht : Tr c ⟨ρ', σ.own⟩ rest Q) : Tr c σ (.Assign [.Name x p] e pos :: rest) Q :=
  tr_cons fun A s hA hw => wpAny_Assign_Name (ev_of h hA hw.toSt fun v s' k r => stw_store (hw.up k) r hp hk fun s'' hs'' => ⟨.next, _, hs'', trivial, ht⟩) hs
theorem ld_var {x : Str} {X : PV} (h : At c.ns σ.ρ x X) (hX : X ≠ .unb) (hd : (x == ("__debug__" : Str)) = false) {A : Around} {s : Shared} (hs : St c σ s) {E : Value → Shared → Prop} {Q : Value → Shared → Prop}
    (hQ : ∀ v, Rep (σ.all c) s.heap v X → Q v s) : wpAny c.M A (loadName c.env x) Q E s := by
  obtain ⟨v, ha, r⟩ := hs.vars x X h hX
  rcases ha with ⟨hk, m, hn, hv⟩ | ⟨hk, cc, hc, hv⟩
  · exact wpAny_loadName_local hs.eo.kind hk hn hv (hQ v r)
  · rcases hk with hk | ⟨hk, hx⟩
    · exact wpAny_loadName_cell hs.eo.kind hk hc hv (hQ v r)
    · exact wpAny_loadName_free hs.eo.kind hk hc hv (hQ v r) hx
-- x op= e
theorem tr_aug {x : Str} {op : Operator} {e : Expr} {X Y Z : PV} {p pos : Pos} {rest : List Stmt} {ρ' : List PV} (hx : At c.ns σ.ρ x X) (h : Ev c σ e Y)
    (hop : Pr c (σ.all c) (fun vs => inplaceOp op (vs.getD 0 .none) (vs.getD 1 .none)) [X, Y] Z) (hp : Put c.ns σ.ρ x Z ρ') (hk : c.nm.lookup x = some .local ∨ c.nm.lookup x = some .cell) (ht : Tr c ⟨ρ', σ.own⟩ rest Q) (hX : X ≠ .unb := by nofun) (hd : (x == ("__debug__" : Str)) = false := by decide +kernel) :
    Tr c σ (.AugAssign (.Name x p) op e pos :: rest) Q :=
  tr_cons fun A s hA hw => wpAny_AugAssign_Name (ld_var hx hX hd hw.toSt fun v r₁ => ev_of h hA hw.toSt fun u s₂ k₂ r₂ =>
    wpAny_mono (hop.run A s₂ [v, u] hA (hw.toSt.up k₂).rdy (.cons (r₁.up k₂.up) (.cons r₂ .nil))) (fun r s₃ h₃ => stw_store ((hw.up k₂).up h₃.1) h₃.2 hp hk fun s'' hs'' => ⟨.next, _, hs'', trivial, ht⟩) fun _ _ f => f.elim)
end
end Mine
end
section
open PySem PySem.W PyProof.Rows PySem.Calls
namespace Mine

noncomputable abbrev noStar (es : List Expr) : Bool := es.all fun e => match e with | .Starred .. => false | _ => true

section
variable {c : Cx} {σ : Sg} {Q : Post}

theorem callWith_type {M : Model} {A : Around} {E : Value → Shared → Prop} {s : Shared} {pos : Pos} {T : String} {first : List Value} {args : List (Bool × Sem Value)} {Q : Value → Shared → Prop} (hplain : args.any (·.1) = false)
    (h : wpAny M A (evalArgs (.type T) true args []) (fun a s₁ => wpAny M A (call (.type T) (first ++ a.pos) a.kw) Q E s₁) E s) :
    wpAny M A (callWith pos (.type T) first args []) Q E s := by
  unfold callWith
  refine wpAny_bind (wpAny_holding (wpAny_mono h (fun a s₁ h₁ => wpAny_bind (wpAny_standAt ?_)) fun _ _ x => x))
  simp only [hplain, List.any_nil, Bool.or_false]
  refine wpAny_bind (wpAny_pure ?_)
  exact wpAny_bind (wpAny_mono h₁ (fun r s₂ hr => wpAny_bind (wpAny_holding (wpAny_point (wpAny_pure hr)))) fun _ _ x => x)

theorem ev_bcall {f : Str} {p pos : Pos} {args : List Expr} {Xs : List PV} {X : PV} {id : String} (hn : BName c f (.builtin id)) (ha : EvL c σ args Xs) (hp : Pr c (σ.all c) (fun vs => call (.builtin id) vs) Xs X)
    (hst : noStar args = true := by rfl) : Ev c σ (.Call (.Name f p) args [] pos) X := .mk fun A s hA hs =>
  wpAny_Call_NameR (bname_at hn hs (callWith_builtin (starEach_plain hst) (evalArgs_of hst (wpAny_mono (ha.run A s pos hA hs) (fun vs s₁ ⟨k, r⟩ =>
    wpAny_mono (hp.run A s₁ vs hA (hs.up k).rdy r) (fun v s₂ h => ⟨k.trans h.1, h.2⟩) fun _ _ f => f) fun _ _ f => f))))
theorem ev_tcall {f : Str} {p pos : Pos} {args : List Expr} {Xs : List PV} {X : PV} {T : String} (hn : BName c f (.type T)) (ha : EvL c σ args Xs) (hp : Pr c (σ.all c) (fun vs => call (.type T) vs) Xs X)
    (hst : noStar args = true := by rfl) : Ev c σ (.Call (.Name f p) args [] pos) X := .mk fun A s hA hs =>
  wpAny_Call_NameR (bname_at hn hs (callWith_type (starEach_plain hst) (evalArgs_of hst (wpAny_mono (ha.run A s pos hA hs) (fun vs s₁ ⟨k, r⟩ =>
    wpAny_mono (hp.run A s₁ vs hA (hs.up k).rdy r) (fun v s₂ h => ⟨k.trans h.1, h.2⟩) fun _ _ f => f) fun _ _ f => f))))

-- a def's contract: of arguments Xs it gives Y
noncomputable def Fn (Ω : Wo) (q : Bool) (d : Nat) (f : Str) (Xs : List PV) (Y : PV) : Prop :=
  ∃ a, Ω.mg f = some (.ref a) ∧ (∀ h, Ω.ok h → ∃ o fd, h.get? a = some o ∧ o.data = .func fd) ∧
    ∀ A s O vs, AOk d A → Ω.ok s.heap → (∀ b ∈ O, (s.heap.get? b).isSome = true) → Paired (Rep O s.heap) vs Xs →
      codeAny (model Ω.prog Ω.w) A (.call (.ref a) ⟨vs, []⟩) (fun r s' => ∃ v, r = .ok (.ret v) ∧ KK q s s' ∧ Rep O s'.heap v Y) s
theorem ev_call {f : Str} {p pos : Pos} {args : List Expr} {Xs : List PV} {Y : PV} (hf : Fn c.Ω c.q c.d f Xs Y) (ha : EvL c σ args Xs) (hx : c.nm.lookup f = some .globalImplicit := by decide +kernel)
    (hst : noStar args = true := by rfl) (hd : (f == ("__debug__" : Str)) = false := by decide +kernel) : Ev c σ (.Call (.Name f p) args [] pos) Y := .mk fun A s hA hs => by
  obtain ⟨a, h1, h2, h3⟩ := hf
  obtain ⟨o, fd, ho, hfd⟩ := h2 _ hs.ok
  refine wpAny_Call_NameR (Name_function_global hs.eo.kind (hs.eo.kinds _ _ hx (by decide)) (loadGlobal_global (by rw [hs.eo.glob]; exact c.Ω.g _ hs.ok) h1 ?_) hd)
  refine callWith_function (o := o) (fd := fd) (evalArgs_of hst (wpAny_mono (ha.run A s pos hA hs) (fun vs s₁ ⟨k, r⟩ => ⟨⟨k.up _ _ ho, hfd⟩, ?_⟩) fun _ _ f => f))
  exact wpAny_call (codeAny_mono (h3 A s₁ _ vs hA (hs.up k).ok (hs.up k).live r) fun r s₂ ⟨v, e, k', rr⟩ => by subst e; exact ⟨k.trans k', rr⟩)

-- a method of an immediate value
noncomputable def Mt (c : Cx) (name : Str) (X : PV) (id : String) : Prop :=
  ∀ (A : Around) (s : Shared) (O : List Addr) (v : Value) (pl : Sem Bool) (Q : Value × List Value → Shared → Prop) (E : Value → Shared → Prop), Rep O s.heap v X → Q (.builtin id, [v]) s → wpAny c.M A (getMethod v name pl) Q E s
theorem ev_mcall {o : Expr} {name : Str} {apos pos : Pos} {args : List Expr} {Xo X : PV} {Xs : List PV} {id : String} (ho : Ev c σ o Xo) (hm : Mt c name Xo id) (ha : EvL c σ args Xs) (hp : Pr c (σ.all c) (fun vs => call (.builtin id) vs) (Xo :: Xs) X)
    {pl : Sem Bool} (he : eval (.Call (.Attribute o name apos) args [] pos) c.env = (do
      let ov ← eval o c.env
      standAt apos.atName
      let (f, first) ← holding [ov] (getMethod ov name pl)
      callWith pos f first (backTo pos (starEach args c.env)) (backToKw pos (keywordEach [] c.env))) := by rfl) (hst : noStar args = true := by rfl) :
    Ev c σ (.Call (.Attribute o name apos) args [] pos) X := .mk fun A s hA hs =>
  methodCall_KW (ev_of ho hA hs fun v s₁ k₁ r₁ => hm A s₁ (σ.all c) v _ _ _ r₁ (by
    show wpAny c.M A (callWith pos (.builtin id) [v] (backTo pos (starEach args c.env)) []) _ _ s₁
    refine callWith_builtin (starEach_plain hst) (evalArgs_of hst (wpAny_mono (ha.run A s₁ pos hA (hs.up k₁)) (fun vs s₂ ⟨k₂, r₂⟩ => ?_) fun _ _ f => f))
    exact wpAny_mono (hp.run A s₂ (v :: vs) hA ((hs.up k₁).up k₂).rdy (.cons (r₁.up k₂.up) r₂)) (fun u s₃ h => ⟨(k₁.trans k₂).trans h.1, h.2⟩) fun _ _ f => f)) he

theorem bindL_other {kind : Str → Option NameKind} {x : Str} : ∀ (binds : List (Str × Value)) (m : Str → Option Value), x ∉ binds.map (·.1) → bindL kind binds m x = m x
  | [], m, _ => rfl
  | (n, v) :: r, m, h => by
    rw [List.map_cons, List.mem_cons, not_or] at h
    rw [bindL, bindL_other r _ h.2]
    split
    · exact if_neg h.1
    · rfl
theorem bindL_at {kind : Str → Option NameKind} {x : Str} {v : Value} (hk : kind x = some .local) : ∀ (binds : List (Str × Value)) (m : Str → Option Value), (binds.map (·.1)).Nodup → (x, v) ∈ binds → bindL kind binds m x = some v
  | (n, u) :: r, m, hn, h => by
    rw [List.map_cons, List.nodup_cons] at hn
    rw [bindL]
    rcases List.mem_cons.mp h with e | h
    · cases e
      rw [bindL_other r _ hn.1, if_pos hk, if_pos rfl]
    · exact bindL_at hk r _ hn.2 h
theorem bindC_other {kind : Str → Option NameKind} {x : Str} : ∀ (binds : List (Str × Value)) (m : Str → Option Value), x ∉ binds.map (·.1) → bindC kind binds m x = m x
  | [], m, _ => rfl
  | (n, v) :: r, m, h => by
    rw [List.map_cons, List.mem_cons, not_or] at h
    rw [bindC, bindC_other r _ h.2]
    split
    · rfl
    · exact if_neg h.1
theorem bindC_at {kind : Str → Option NameKind} {x : Str} {v : Value} (hk : kind x = some .cell) : ∀ (binds : List (Str × Value)) (m : Str → Option Value), (binds.map (·.1)).Nodup → (x, v) ∈ binds → bindC kind binds m x = some v
  | (n, u) :: r, m, hn, h => by
    rw [List.map_cons, List.nodup_cons] at hn
    rw [bindC]
    rcases List.mem_cons.mp h with e | h
    · cases e
      rw [bindC_other r _ hn.1, if_neg (by rw [hk]; decide), if_pos rfl]
    · exact bindC_at hk r _ hn.2 h

-- the def stands at the top as it is written
structure FnRec (Ω : Wo) (f : Str) (params : Arguments) (body : List Stmt) (scope : Scope) : Prop where
  at_ : ∃ a, Ω.mg f = some (.ref a) ∧ ∀ h, Ω.ok h → ∃ o pm cd doc, h.get? a = some o ∧ o.data = .func (docDef f params body scope pm cd doc) ∧ h.CodeRec cd f

noncomputable def unbs (n : Nat) : List PV := List.replicate n .unb
theorem at_unbs {ns : List Str} {n : Nat} {x : Str} {X : PV} (h : At ns (unbs n) x X) : X = .unb := by
  generalize e : unbs n = ρ at h
  induction h generalizing n with
  | here => cases n with
    | zero => cases e
    | succ n => cases e; rfl
  | there _ ih => cases n with
    | zero => cases e
    | succ n => cases e; exact ih rfl
theorem at_app {ps qs : List Str} {Xs : List PV} {n : Nat} (hl : ps.length = Xs.length) {x : Str} {X : PV} (h : At (ps ++ qs) (Xs ++ unbs n) x X) (hX : X ≠ .unb) : At ps Xs x X := by
  induction ps generalizing Xs with
  | nil =>
    cases Xs with
    | nil => exact (hX (at_unbs h)).elim
    | cons => cases hl
  | cons p ps ih =>
    cases Xs with
    | nil => cases hl
    | cons Y Xs =>
      cases h with
      | here => exact .here
      | there h => exact .there (ih (by simpa using hl) h)
theorem at_paired {O : List Addr} {h : Heap} {ps : List Str} {Xs : List PV} {vs : List Value} (p : Paired (Rep O h) vs Xs) {x : Str} {X : PV} (a : At ps Xs x X) : ∃ v, (x, v) ∈ ps.zip vs ∧ Rep O h v X := by
  induction a generalizing vs with
  | here => cases p with | cons r _ => exact ⟨_, .head _, r⟩
  | there _ ih => cases p with | cons _ p => obtain ⟨v, m, r⟩ := ih p; exact ⟨v, .tail _ m, r⟩
theorem paired_len {α β : Type} {F : α → β → Prop} : ∀ {l : List α} {m : List β}, Paired F l m → l.length = m.length
  | _, _, .nil => rfl
  | _, _, .cons _ r => by rw [List.length_cons, List.length_cons, paired_len r]

-- a call, with the tokens counted
theorem call_cellsT {prog : Program} {w : World} {A : Around} {s : Shared} {R : Result → Shared → Prop} {a : Addr} {o : Obj} {fd : FuncData} {body : List Stmt} {vals : List Value} {binds : List (Str × Value)}
    (hroom : A.depth < recursionLimit) (ho : s.heap.get? a = some o) (hdata : o.data = .func fd) (hlim : s.heap.NoLimit) (hcd : s.heap.CodeRec fd.code fd.qualname)
    (hbody : fd.body = .stmts body) (hbind : bindArgs fd ⟨vals, []⟩ = pure binds) (hclo : fd.closure = [])
    (hkind : ∀ x ∈ binds, fd.scope.names.lookup x.1 = some .local ∨ (fd.scope.names.lookup x.1 = some .cell ∧ ((cellsFrom (s.heap.objs.size + 1) fd.scope.names []).lookup x.1).isSome = true))
    (h : ∀ s₁, InCallC s (callEnvC fd s.heap.objs.size a).locals (bindL (callEnvC fd s.heap.objs.size a).kindOf binds fun _ => none) (callEnvC fd s.heap.objs.size a).cells
        (bindC (callEnvC fd s.heap.objs.size a).kindOf binds fun _ => none) s₁ → s.toks ≤ s₁.toks →
      wpAny (model prog w) (A.deeper (callEnvC fd s.heap.objs.size a)) (execs body (callEnvC fd s.heap.objs.size a)) (fun f s' => R (.ok (.ret (match f with | .ret v => v | _ => .none))) s')
        (fun e s' => wpAny (model prog w) (A.deeper (callEnvC fd s.heap.objs.size a)) (leaving (callEnvC fd s.heap.objs.size a) e) (fun _ s'' => R (.error e) s'') (fun e' s'' => R (.error e') s'') s') s₁)
    (hco : fd.scope.isCoroutine = false := by rfl) (hgen : fd.scope.isGenerator = false := by rfl) (hk : fd.scope.kind = .function := by rfl) :
    codeAny (model prog w) A (.call (.ref a) ⟨vals, []⟩) R s := by
  refine codeAny_call_function hroom ho hdata hco hgen hbody hcd ?_
  rw [hbind, hclo]
  refine wpAny_pure (wpAny_with_toks (Nat.le_refl _) (wpAny_newFunctionEnv_cells hk hkind fun env he s' x htk => ?_))
  subst he
  exact ⟨hlim.keeps x.toInCall.keep, codeAny_func (h s' x htk)⟩
-- a def is entered
theorem fn_enter {Ω : Wo} {q : Bool} {d : Nat} {f : Str} {params : Arguments} {body : List Stmt} {scope : Scope} {ps ls : List Str} {Xs : List PV} (F : FnRec Ω f params body scope)
    (hl : ps.length = Xs.length) (hbind : ∀ pm cd doc (vs : List Value), vs.length = ps.length → bindArgs (docDef f params body scope pm cd doc) ⟨vs, []⟩ = pure (ps.zip vs))
    (hps : (ps.all fun x => scope.names.lookup x == some .local || scope.names.lookup x == some .cell) = true)
    (hnd : (ps ++ ls).Nodup)
    (hco : scope.isCoroutine = false := by rfl) (hgen : scope.isGenerator = false := by rfl) (hk : scope.kind = .function := by rfl) :
    ∃ a, Ω.mg f = some (.ref a) ∧ (∀ h, Ω.ok h → ∃ o fd, h.get? a = some o ∧ o.data = .func fd) ∧
    ∀ A s O vs, AOk (d + 1) A → Ω.ok s.heap → (∀ b ∈ O, (s.heap.get? b).isSome = true) → Paired (Rep O s.heap) vs Xs → ∀ (R : Result → Shared → Prop),
      (∀ env s₁, env.frame = some env.locals → env.scope = scope → AOk d (A.deeper env) → StW ⟨Ω, q, d, scope.names, ps ++ ls, env, s, O, [], fun _ => True⟩ ⟨Xs ++ unbs ls.length, []⟩ s₁ → KK q s s₁ → s.toks ≤ s₁.toks →
        wpAny (model Ω.prog Ω.w) (A.deeper env) (execs body env) (fun f s' => R (.ok (.ret (match f with | .ret v => v | _ => .none))) s')
          (fun e s' => wpAny (model Ω.prog Ω.w) (A.deeper env) (leaving env e) (fun _ s'' => R (.error e) s'') (fun e' s'' => R (.error e') s'') s') s₁) →
      codeAny (model Ω.prog Ω.w) A (.call (.ref a) ⟨vs, []⟩) R s := by
  obtain ⟨a, hm, hrec⟩ := F.at_
  refine ⟨a, hm, fun h ok => let ⟨o, pm, cd, doc, e1, e2, _⟩ := hrec h ok; ⟨o, _, e1, e2⟩, fun A s O vs hA ok hO hp R hbody => ?_⟩
  obtain ⟨o, pm, cd, doc, ho, hdata, hcd⟩ := hrec _ ok
  have hvl : vs.length = ps.length := (paired_len hp).trans hl.symm
  have hkd : ∀ x ∈ ps, scope.names.lookup x = some .local ∨ scope.names.lookup x = some .cell := fun x hx => by
    have := List.all_eq_true.mp hps x hx
    rcases Bool.or_eq_true_iff.mp this with e | e
    · exact .inl (by simpa using e)
    · exact .inr (by simpa using e)
  have hz : ∀ x ∈ ps.zip vs, x.1 ∈ ps := fun x hx => (List.of_mem_zip hx).1
  have hzn : (ps.zip vs).map (·.1) = ps := by
    rw [List.map_fst_zip (by omega)]
  refine call_cellsT (by have := hA.depth; omega) ho hdata (Ω.nolim _ ok) hcd rfl (hbind pm cd doc vs hvl) rfl
    (fun x hx => (hkd _ (hz x hx)).imp id fun e => ⟨e, cellsFrom_some _ _ _ (.inl e)⟩) (fun s₁ x htk => ?_) hco hgen hk
  generalize he : callEnvC (docDef f params body scope pm cd doc) s.heap.objs.size a = env at x ⊢
  have hscope : env.scope = scope := by rw [← he]; rfl
  have hkindOf : ∀ y, env.kindOf y = scope.names.lookup y := fun y => by show env.scope.names.lookup y = _; rw [hscope]
  have hcells : env.cells = cellsFrom (s.heap.objs.size + 1) scope.names [] := by rw [← he]; rfl
  have fresh : ∀ b, s.heap.objs.size ≤ b → s.heap.get? b = none := fun b hb => by
    cases e : s.heap.get? b with
    | none => rfl
    | some o' => exact absurd (Heap.lt_size e) (Nat.not_lt.mpr hb)
  obtain ⟨h₁, tk, hs₁, hup⟩ := x.done
  have kk : KK q s s₁ := KK.of_keeps ⟨h₁, tk, hs₁, hup⟩
  have hAd : AOk d (A.deeper env) := ⟨hA.hh, by have := hA.depth; show A.depth + 1 + d < _; omega, by have := hA.units; show A.units + 3 + 8 * d < _; omega⟩
  refine hbody env s₁ (by rw [← he]; rfl) hscope hAd ?_ kk htk
  refine StW.mk ⟨⟨?_, by rw [hscope], by rw [← he]; rfl, by rw [← he]; rfl, fun y k e _ => (hkindOf y).trans e, fun y e => ?_⟩, kk, ok, fun y Y e hY => ?_, fun a ds m => (nomatch m), List.nodup_nil, fun b mb => ⟨isSome_up kk.up (hO b mb), nofun, fun z => ?_, fun y k e z => ?_⟩, trivial, fun _ _ _ _ _ => trivial, fun b m => (nomatch m)⟩ hnd
      ⟨⟨_, x.toInCall.ns⟩, fresh _ x.toInCall.fresh⟩ (fun y k e => ⟨⟨_, x.cell y k e⟩, fresh _ (Nat.le_of_lt (Nat.lt_of_le_of_lt x.toInCall.fresh (x.above y k (mem_of_lookup e))))⟩) x.apart
  · show env.scope.kind = _; rw [hscope]; exact hk
  · show (env.cells.lookup y).isSome = true
    rw [hcells]; exact cellsFrom_some _ _ _ (.inl e)
  · have a := at_app hl e hY
    obtain ⟨v, hv, r⟩ := at_paired hp a
    have hy : y ∈ ps := hz _ hv
    have r' : Rep O s₁.heap v Y := r.up kk.up
    refine ⟨v, ?_, r'⟩
    have nd : ((ps.zip vs).map (·.1)).Nodup := by rw [hzn]; exact (List.nodup_append.mp hnd).1
    rcases hkd y hy with e | e
    · exact .inl ⟨(hkindOf y).trans e, _, x.toInCall.ns, bindL_at ((hkindOf y).trans e) _ _ nd hv⟩
    · have e' : env.kindOf y = some .cell := (hkindOf y).trans e
      obtain ⟨k, hk'⟩ : ∃ k, env.cells.lookup y = some k := Option.isSome_iff_exists.mp (by rw [hcells]; exact cellsFrom_some _ _ _ (.inl e))
      exact .inr ⟨.inl e', k, hk', by have := x.cell y k hk'; rwa [bindC_at e' _ _ nd hv] at this⟩
  · have h1 := hO b mb
    rw [z, fresh _ x.toInCall.fresh] at h1; cases h1
  · have h1 := hO b mb
    rw [z, fresh _ (Nat.le_of_lt (Nat.lt_of_le_of_lt x.toInCall.fresh (x.above _ k (mem_of_lookup e))))] at h1; cases h1
-- a def by its body
theorem fn_intro {Ω : Wo} {q : Bool} {d : Nat} {f : Str} {params : Arguments} {body : List Stmt} {scope : Scope} {ps ls : List Str} {Xs : List PV} {Y : PV} (R : FnRec Ω f params body scope)
    (hl : ps.length = Xs.length) (hbind : ∀ pm cd doc (vs : List Value), vs.length = ps.length → bindArgs (docDef f params body scope pm cd doc) ⟨vs, []⟩ = pure (ps.zip vs))
    (hps : (ps.all fun x => scope.names.lookup x == some .local || scope.names.lookup x == some .cell) = true)
    (hnd : (ps ++ ls).Nodup)
    (hbody : ∀ env b O, Tr ⟨Ω, q, d, scope.names, ps ++ ls, env, b, O, [], fun _ => True⟩ ⟨Xs ++ unbs ls.length, []⟩ body (fun pf σ => pf = .ret Y ∨ (pf = .next ∧ Y = pN)))
    (hco : scope.isCoroutine = false := by rfl) (hgen : scope.isGenerator = false := by rfl) (hk : scope.kind = .function := by rfl) :
    Fn Ω q (d + 1) f Xs Y := by
  obtain ⟨a, h1, h2, h3⟩ := fn_enter (q := q) (d := d) (Xs := Xs) R hl hbind hps hnd hco hgen hk
  refine ⟨a, h1, h2, fun A s O vs hA ok hO hp => h3 A s O vs hA ok hO hp _ fun env s₁ hff hsc hAd hw kk ht => ?_⟩
  refine wpAny_mono ((hbody env s O).run (A.deeper env) s₁ hAd hw) (fun fl s' ⟨pf, σ', hw, hr, hq⟩ => ?_) fun _ _ f => f.elim
  rcases hq with rfl | ⟨rfl, rfl⟩
  · cases fl <;> first | exact hr.elim | exact ⟨_, rfl, hw.kk, hr⟩
  · cases fl <;> first | exact hr.elim | exact ⟨_, rfl, hw.kk, .none⟩
theorem bcs {vs : List Value} {n : Nat} (h : vs.length = n + 1) : ∃ v r, vs = v :: r ∧ r.length = n := by
  cases vs with
  | nil => cases h
  | cons v r => exact ⟨v, r, rfl, Nat.succ.inj h⟩
theorem bnl {vs : List Value} (h : vs.length = 0) : vs = [] := List.length_eq_zero_iff.mp h
theorem ba1 {fd : FuncData} {ps : List Str} (h : ∀ v1, bindArgs fd ⟨[v1], []⟩ = pure (ps.zip [v1])) (vs : List Value) (hv : vs.length = 1) : bindArgs fd ⟨vs, []⟩ = pure (ps.zip vs) := by
  obtain ⟨v1, r1, rfl, k1⟩ := bcs hv
  cases bnl k1
  exact h _
theorem ba2 {fd : FuncData} {ps : List Str} (h : ∀ v1 v2, bindArgs fd ⟨[v1, v2], []⟩ = pure (ps.zip [v1, v2])) (vs : List Value) (hv : vs.length = 2) : bindArgs fd ⟨vs, []⟩ = pure (ps.zip vs) := by
  obtain ⟨v1, r1, rfl, k1⟩ := bcs hv
  obtain ⟨v2, r2, rfl, k2⟩ := bcs k1
  cases bnl k2
  exact h _ _
theorem ba3 {fd : FuncData} {ps : List Str} (h : ∀ v1 v2 v3, bindArgs fd ⟨[v1, v2, v3], []⟩ = pure (ps.zip [v1, v2, v3])) (vs : List Value) (hv : vs.length = 3) : bindArgs fd ⟨vs, []⟩ = pure (ps.zip vs) := by
  obtain ⟨v1, r1, rfl, k1⟩ := bcs hv
  obtain ⟨v2, r2, rfl, k2⟩ := bcs k1
  obtain ⟨v3, r3, rfl, k3⟩ := bcs k2
  cases bnl k3
  exact h _ _ _
end
end Mine
end
section
open PySem PySem.W PyProof.Rows PySem.Calls
namespace Mine
theorem kk_tok {q : Bool} {s : Shared} (t : Nat) : KK q s { s with toks := t } := KK.tok q s t
section
variable {c : Cx} {O : List Addr}
theorem pr1 {t : List Value → Sem Value} {X Z : PV} (h : ∀ A s v, AOk c.d A → Rdy c O s → Rep O s.heap v X → wpAny c.M A (t [v]) (fun v s' => KK c.q s s' ∧ Rep O s'.heap v Z) (fun _ _ => False) s) : Pr c O t [X] Z := .mk fun A s vs hA ok p => by
  cases p with | cons r p => cases p; exact h A s _ hA ok r
theorem pr2 {t : List Value → Sem Value} {X Y Z : PV} (h : ∀ A s v u, AOk c.d A → Rdy c O s → Rep O s.heap v X → Rep O s.heap u Y → wpAny c.M A (t [v, u]) (fun v s' => KK c.q s s' ∧ Rep O s'.heap v Z) (fun _ _ => False) s) : Pr c O t [X, Y] Z := .mk fun A s vs hA ok p => by
  cases p with | cons r p => cases p with | cons r₂ p => cases p; exact h A s _ _ hA ok r r₂
theorem pr3 {t : List Value → Sem Value} {X Y W Z : PV} (h : ∀ A s v u x, AOk c.d A → Rdy c O s → Rep O s.heap v X → Rep O s.heap u Y → Rep O s.heap x W → wpAny c.M A (t [v, u, x]) (fun v s' => KK c.q s s' ∧ Rep O s'.heap v Z) (fun _ _ => False) s) : Pr c O t [X, Y, W] Z := .mk fun A s vs hA ok p => by
  cases p with | cons r p => cases p with | cons r₂ p => cases p with | cons r₃ p => cases p; exact h A s _ _ _ hA ok r r₂ r₃
theorem Pr.to {t : List Value → Sem Value} {Xs : List PV} {X Y : PV} (h : Pr c O t Xs X) (e : X = Y) : Pr c O t Xs Y := e ▸ h

noncomputable abbrev bin (op : Operator) : List Value → Sem Value := fun vs => binaryOp op (vs.getD 0 .none) (vs.getD 1 .none)
noncomputable abbrev ipl (op : Operator) : List Value → Sem Value := fun vs => inplaceOp op (vs.getD 0 .none) (vs.getD 1 .none)
noncomputable abbrev cmp (op : CmpOp) : List Value → Sem Value := fun vs => compareOp op (vs.getD 0 .none) (vs.getD 1 .none)
noncomputable abbrev una (op : UnaryOp) : List Value → Sem Value := fun vs => unaryOp op (vs.getD 0 .none)

variable {a b : Int}
theorem pr_add : Pr c O (bin .Add) [pI a, pI b] (pI (a + b)) := pr2 fun A s v u hA ok r r₂ => by cases r; cases r₂; exact P.add_int ⟨kk_tok _, .int _ _⟩
theorem pr_sub : Pr c O (bin .Sub) [pI a, pI b] (pI (a - b)) := pr2 fun A s v u hA ok r r₂ => by cases r; cases r₂; exact P.sub_int ⟨kk_tok _, .int _ _⟩
theorem pr_mul (hm : IntMulOk a b) : Pr c O (bin .Mult) [pI a, pI b] (pI (a * b)) := pr2 fun A s v u hA ok r r₂ => by cases r; cases r₂; exact P.mul_int ⟨kk_tok _, .int _ _⟩ hm
theorem pr_mod (hb : b ≠ 0) : Pr c O (bin .Mod) [pI a, pI b] (pI (a.fmod b)) := pr2 fun A s v u hA ok r r₂ => by cases r; cases r₂; exact mod_int' hb ⟨kk_tok _, .int _ _⟩
theorem pr_div (hb : b ≠ 0) (hp : Builtin.divisionGoesByPylong a b = false := by exact PyProof.noPylong_small (by omega)) : Pr c O (bin .FloorDiv) [pI a, pI b] (pI (a.fdiv b)) := pr2 fun A s v u hA ok r r₂ => by cases r; cases r₂; exact floordiv_int hb ⟨kk_tok _, .int _ _⟩ (.inl hp)
theorem pr_pow (h0 : 0 ≤ b) (h1 : b ≤ 1000000) (ha : a.natAbs < 2 ^ 64) : Pr c O (bin .Pow) [pI a, pI b] (pI (a ^ b.toNat)) := pr2 fun A s v u hA ok r r₂ => by cases r; cases r₂; exact pow_int_small h0 h1 ha ⟨kk_tok _, .int _ _⟩
theorem pr_iadd : Pr c O (ipl .Add) [pI a, pI b] (pI (a + b)) := pr2 fun A s v u hA ok r r₂ => by cases r; cases r₂; exact P.iadd_int ⟨kk_tok _, .int _ _⟩
theorem pr_isub : Pr c O (ipl .Sub) [pI a, pI b] (pI (a - b)) := pr2 fun A s v u hA ok r r₂ => by cases r; cases r₂; exact P.isub_int ⟨kk_tok _, .int _ _⟩
theorem pr_neg : Pr c O (una .USub) [pI a] (pI (-a)) := pr1 fun A s v hA ok r => by cases r; exact P.neg_int ⟨kk_tok _, .int _ _⟩
theorem pr_eq : Pr c O (cmp .Eq) [pI a, pI b] (pB (a == b)) := pr2 fun A s v u hA ok r r₂ => by cases r; cases r₂; exact P.eq_int ⟨KK.refl _ _, .bool _⟩
theorem pr_ne : Pr c O (cmp .NotEq) [pI a, pI b] (pB (a != b)) := pr2 fun A s v u hA ok r r₂ => by cases r; cases r₂; exact P.ne_int ⟨KK.refl _ _, .bool _⟩
theorem pr_lt : Pr c O (cmp .Lt) [pI a, pI b] (pB (decide (a < b))) := pr2 fun A s v u hA ok r r₂ => by cases r; cases r₂; exact P.lt_int ⟨KK.refl _ _, .bool _⟩
theorem pr_le : Pr c O (cmp .LtE) [pI a, pI b] (pB (decide (a ≤ b))) := pr2 fun A s v u hA ok r r₂ => by cases r; cases r₂; exact P.le_int ⟨KK.refl _ _, .bool _⟩
theorem pr_gt : Pr c O (cmp .Gt) [pI a, pI b] (pB (decide (a > b))) := pr2 fun A s v u hA ok r r₂ => by cases r; cases r₂; exact P.gt_int ⟨KK.refl _ _, .bool _⟩
theorem pr_ge : Pr c O (cmp .GtE) [pI a, pI b] (pB (decide (a ≥ b))) := pr2 fun A s v u hA ok r r₂ => by cases r; cases r₂; exact P.ge_int ⟨KK.refl _ _, .bool _⟩
theorem pr_bsub {p q : Bool} : Pr c O (bin .Sub) [pB p, pB q] (pI (b2i p - b2i q)) := pr2 fun A s v u hA ok r r₂ => by cases r; cases r₂; exact sub_bool ⟨kk_tok _, .int _ _⟩
theorem pr_isnot {p q : Bool} : Pr c O (cmp .IsNot) [pB p, pB q] (pB (p != q)) := pr2 fun A s v u hA ok r r₂ => by
  cases r; cases r₂; exact wpAny_isNot_plain rfl ⟨KK.refl _ _, by cases p <;> cases q <;> exact .bool _⟩
theorem pr_isNone {d : PyData} : Pr c O (cmp .Is) [.dat d, pN] (pB (match d with | .none => true | _ => false)) := pr2 fun A s v u hA ok r r₂ => by
  cases r₂; cases r <;> exact is_none_gen ⟨KK.refl _ _, .bool _⟩
theorem pr_abs : Pr c O (fun vs => call (.builtin "abs") vs) [pI a] (pI (if a < 0 then -a else a)) := pr1 fun A s v hA ok r => by cases r; exact call_abs_int fun u tk => ⟨kk_tok _, .int _ _⟩
theorem pr_int : Pr c O (fun vs => call (.type "int") vs) [pI a] (pI a) := pr1 fun A s v hA ok r => by cases r; exact call_int_int ⟨KK.refl _ _, .int _ _⟩
theorem pr_divmod (hb : b ≠ 0) (hp : Builtin.divisionGoesByPylong a b = false) : Pr c O (fun vs => call (.builtin "divmod") vs) [pI a, pI b] (.tup [.int (a.fdiv b), .int (a.fmod b)]) := pr2 fun A s v u hA ok r r₂ => by
  cases r; cases r₂
  exact divmod_int hb ⟨KK.heap (fun _ _ e => Heap.get?_push_of_some _ e) _, _, _, rfl, ok.new, ⟨_, Heap.get?_push_size _ rfl, rfl, _, rfl⟩, .cons (.int _ _) (.cons (.int _ _) .nil)⟩ (.inl hp)
end
end Mine
end
section
open PySem PySem.W PyProof.Rows PySem.Calls
open PySem.Builtin.Str (strSliceIndices occurrences subAt strSub partsBetween lastOccurrence strKind)
namespace Mine
theorem seq_nat {k n : Nat} (h : k < n) : seqIndex? (k : Int) n = some k := by
  unfold seqIndex?
  simp
  omega
-- a text by its letters
noncomputable def mk (l : List Nat) : Str := ⟨l.toArray⟩
noncomputable abbrev pL (l : List Nat) : PV := pS (mk l)
theorem mk_len (l : List Nat) : (mk l).length = l.length := by simp [mk, Str.length]
theorem mk_list (l : List Nat) : (mk l).cps.toList = l := rfl
theorem mk_inj {a b : List Nat} (h : mk a = mk b) : a = b := by have := congrArg (fun x : Str => x.cps.toList) h; exact this
theorem mk_of (x : Str) : mk x.cps.toList = x := by cases x; rfl
theorem mk_app (a b : List Nat) : mk a ++ mk b = mk (a ++ b) := by
  show (⟨a.toArray ++ b.toArray⟩ : Str) = ⟨(a ++ b).toArray⟩
  rw [List.append_toArray]
theorem mk_beq (a b : List Nat) : (mk a == mk b) = (a == b) := by
  rw [Bool.eq_iff_iff]; simp only [beq_iff_eq]; exact ⟨mk_inj, fun h => h ▸ rfl⟩

-- a slice's bounds
noncomputable def cl (n : Nat) (i : Int) : Nat := (max 0 (min (if i < 0 then i + n else i) (n : Int))).toNat
noncomputable def sl {α : Type} (lo hi : Option Int) (l : List α) : List α := (l.drop (lo.elim 0 (cl l.length))).take ((hi.elim l.length (cl l.length)) - lo.elim 0 (cl l.length))
theorem cl_le (n : Nat) (i : Int) : cl n i ≤ n := by
  unfold cl
  exact Int.toNat_le.mpr (Int.max_le.mpr ⟨Int.natCast_nonneg n, Int.min_le_right _ _⟩)
theorem cl_eq (n : Nat) (i : Int) : (cl n i : Int) = max 0 (min (if i < 0 then i + n else i) (n : Int)) := by
  unfold cl
  exact Int.toNat_of_nonneg (Int.le_max_left _ _)
theorem cl_natI (k n : Nat) : (max 0 (min (k : Int) (n : Int))).toNat = min k n := by
  rcases Nat.le_total k n with h | h
  · rw [Int.min_eq_left (Int.ofNat_le.mpr h), Int.max_eq_right (Int.natCast_nonneg k), Nat.min_eq_left h]; rfl
  · rw [Int.min_eq_right (Int.ofNat_le.mpr h), Int.max_eq_right (Int.natCast_nonneg n), Nat.min_eq_right h]; rfl
theorem cl_nn {n : Nat} {i : Int} (h : 0 ≤ i) : cl n i = min i.toNat n := by
  obtain ⟨k, rfl⟩ := Int.eq_ofNat_of_zero_le h
  unfold cl; rw [if_neg (Int.not_lt.mpr h)]; exact cl_natI k n
theorem cl_nat (n k : Nat) : cl n (k : Int) = min k n := cl_nn (Int.natCast_nonneg k)
theorem cl_min (n : Nat) (x : Int) : (max 0 (min x (n : Int))).toNat = min (max 0 x).toNat n := by
  cases x with
  | ofNat k => exact (cl_natI k n).trans (by rw [show max 0 (Int.ofNat k) = Int.ofNat k from Int.max_eq_right (Int.natCast_nonneg k)]; rfl)
  | negSucc k =>
    have h : Int.negSucc k ≤ 0 := Int.le_of_lt (Int.negSucc_lt_zero k)
    rw [Int.min_eq_left (Int.le_trans h (Int.natCast_nonneg n)), Int.max_eq_left h]
    exact (Nat.zero_min n).symm
theorem cl_m1 (n : Nat) : cl n (-1) = n - 1 := by
  unfold cl; rw [if_pos (by decide)]
  cases n with
  | zero => rfl
  | succ n =>
    rw [show (-1 : Int) + ((n + 1 : Nat) : Int) = (n : Int) by omega, cl_natI]
    exact Nat.min_eq_left (Nat.le_succ n)
theorem clip_eq (v : Option Int) (d n : Nat) : (match v with | none => (d : Int) | some i => let i := if i < 0 then i + (n : Int) else i; if (1 : Int) > 0 then max 0 (min i n) else max (-1) (min i ((n : Int) - 1))) = ((v.elim d (cl n) : Nat) : Int) := by
  cases v with
  | none => rfl
  | some i => exact (cl_eq n i).symm
theorem pick_range {α : Type} (l : List α) (a b : Nat) (hb : b ≤ l.length) : ((sliceRange a b 1).filterMap (l[·]?)) = (l.drop a).take (b - a) := by
  rw [sliceRange_one]
  by_cases h : a ≤ b
  · exact StrLaws.picks l (b - a) a (by omega)
  · have e : b - a = 0 := by omega
    rw [e]; simp
theorem hi_le {α : Type} (l : List α) (hi : Option Int) : hi.elim l.length (cl l.length) ≤ l.length := by
  cases hi with
  | none => exact Nat.le_refl _
  | some i => exact cl_le _ _
theorem bounds_eq (lo hi : Option Int) (n : Nat) : sliceBounds lo hi none n = (((lo.elim 0 (cl n) : Nat) : Int), ((hi.elim n (cl n) : Nat) : Int), 1) := by
  unfold sliceBounds
  refine Prod.ext ?_ (Prod.ext ?_ rfl)
  · exact clip_eq lo 0 n
  · exact clip_eq hi n n
theorem strIdx_eq (lo hi : Option Int) (n : Nat) : strSliceIndices lo hi 1 n = sliceRange (lo.elim 0 (cl n) : Nat) (hi.elim n (cl n) : Nat) 1 := by
  unfold strSliceIndices
  have e := clip_eq lo 0 n
  have f := clip_eq hi n n
  rw [← e, ← f]; rfl
theorem pick_sl {α : Type} (l : List α) (lo hi : Option Int) : ((strSliceIndices lo hi 1 l.length).filterMap (l[·]?)) = sl lo hi l := by
  rw [strIdx_eq]; exact pick_range l _ _ (hi_le l hi)
theorem range_len (a b : Nat) : (sliceRange a b 1).length = b - a := by rw [sliceRange_one]; simp
theorem sl_whole {α : Type} (l : List α) (lo hi : Option Int) (h : (strSliceIndices lo hi 1 l.length).length = l.length) : sl lo hi l = l := by
  rw [strIdx_eq, range_len] at h
  have := hi_le l hi
  unfold sl
  by_cases h0 : l.length = 0
  · have e : l = [] := List.length_eq_zero_iff.mp h0
    subst e; simp
  · have ea : lo.elim 0 (cl l.length) = 0 := by omega
    have eb : hi.elim l.length (cl l.length) = l.length := by omega
    rw [ea, eb]; simp
theorem sl_len {α : Type} (lo hi : Option Int) (l : List α) : (sl lo hi l).length ≤ l.length := by
  unfold sl; rw [List.length_take, List.length_drop]; omega
theorem sl_map {α β : Type} (f : α → β) (lo hi : Option Int) (l : List α) : sl lo hi (l.map f) = (sl lo hi l).map f := by
  unfold sl; simp [List.map_drop, List.map_take]
theorem carried_drop {l : List Value} {ds : List PyData} (h : CarriedAll l ds) : ∀ n, CarriedAll (l.drop n) (ds.drop n) := by
  induction h with
  | nil => intro n; simpa using CarriedAll.nil
  | cons c h ih => intro n; cases n with
    | zero => exact .cons c h
    | succ n => exact ih n
theorem carried_take {l : List Value} {ds : List PyData} (h : CarriedAll l ds) : ∀ n, CarriedAll (l.take n) (ds.take n) := by
  induction h with
  | nil => intro n; simpa using CarriedAll.nil
  | cons c h ih => intro n; cases n with
    | zero => exact .nil
    | succ n => exact .cons c (ih n)
theorem carried_len {l : List Value} {ds : List PyData} (h : CarriedAll l ds) : l.length = ds.length := by
  induction h with
  | nil => rfl
  | cons _ _ ih => simp [ih]
theorem carried_sl {l : List Value} {ds : List PyData} (h : CarriedAll l ds) (lo hi : Option Int) : CarriedAll (sl lo hi l) (sl lo hi ds) := by
  unfold sl; rw [carried_len h]; exact carried_take (carried_drop h _) _
theorem carried_at {l : List Value} {ds : List PyData} (h : CarriedAll l ds) : ∀ {n : Nat} {d : PyData}, ds[n]? = some d → ∃ v, l[n]? = some v ∧ Carried v d := by
  induction h with
  | nil => intro n d e; simp at e
  | cons c h ih => intro n d e; cases n with
    | zero => simp at e; subst e; exact ⟨_, rfl, c⟩
    | succ n => exact ih (by simpa using e)

-- a subscript, whatever stands ahead of it
theorem sub_tail {prog : Program} {w : World} {A : Around} {E : Value → Shared → Prop} {s : Shared} {value slice : Expr} {o i : Value} {l : List Value} {T id : String} {Q : Value → Shared → Prop} (hT : s.TypeIs o T)
    (hl : typeLookup (.type T) "__getitem__" = pure (some (.builtin id))) (h : wpAny (model prog w) A (getItem o i) Q E s)
    (hs : subscripted slice false o i = operate l (getItem o i)) : wpAny (model prog w) A (subscriptTail value slice o i) Q E s := by
  refine PySem.W.kba_turn (value' := .Name (Str.ofString "x") default) (fun _ => rfl) ?_
  unfold subscriptTail
  refine wpAny_bind ?_
  rw [getitemInPython_of_ne hT.not_modules]
  refine wpAny_bind (wpAny_specialOf hT hl ?_)
  have fin : wpAny (model prog w) A (subscripted slice false o i) (fun r s₃ => wpAny (model prog w) A (letTemporaryGo (.Name (Str.ofString "x") default) o r >>= fun _ => pure r) Q E s₃) E s := by
    rw [hs]
    exact wpAny_operating (wpAny_mono h (fun r s₃ h₃ => wpAny_bind (wpAny_pure (wpAny_pure h₃))) fun _ _ x => x)
  first
    | exact wpAny_pure (wpAny_bind fin)
    | exact wpAny_bind (wpAny_pure (wpAny_bind fin))
    | exact wpAny_bind fin

-- taking an item
noncomputable def Gi (c : Cx) (O : List Addr) (X Y Z : PV) : Prop := ∃ T id, typeLookup (.type T) "__getitem__" = pure (some (.builtin id)) ∧ ∀ A s v u, AOk c.d A → Rdy c O s → Rep O s.heap v X → Rep O s.heap u Y →
  s.TypeIs v T ∧ wpAny c.M A (getItem v u) (fun r s' => KK c.q s s' ∧ Rep O s'.heap r Z) (fun _ _ => False) s
-- taking a slice
noncomputable def Gs (c : Cx) (O : List Addr) (X : PV) (lo hi : Option Int) (Z : PV) : Prop := ∃ T id, typeLookup (.type T) "__getitem__" = pure (some (.builtin id)) ∧ ∀ A s v a vl vu, AOk c.d A → Rdy c O s → Rep O s.heap v X → IsPart vl lo → IsPart vu hi → s.heap.IsSliceOf a vl vu .none →
  s.TypeIs v T ∧ wpAny c.M A (getItem v (.ref a)) (fun r s' => KK c.q s s' ∧ Rep O s'.heap r Z) (fun _ _ => False) s
noncomputable def EvO (c : Cx) (σ : Sg) : Option Expr → Option Int → Prop
  | none, none => True
  | some e, some i => Ev c σ e (pI i)
  | _, _ => False
section
variable {c : Cx} {σ : Sg}
theorem ev_item {value slice : Expr} {pos : Pos} {X Y Z : PV} (hv : Ev c σ value X) (hi : Ev c σ slice Y) (hp : Gi c (σ.all c) X Y Z) (hs : ∀ o i, subscripted slice false o i = operate [o, i] (getItem o i) := by intro _ _; rfl) :
    Ev c σ (.Subscript value slice pos) Z := .mk fun A s hA hst => by
  obtain ⟨T, id, hl, hp⟩ := hp
  refine Subscript_ (ev_of hv hA hst fun o s₁ k₁ r₁ => ev_of hi hA (hst.up k₁) fun i s₂ k₂ r₂ => ?_)
  obtain ⟨hT, h⟩ := hp A s₂ o i hA ((hst.up k₁).up k₂).rdy (r₁.up k₂.up) r₂
  exact sub_tail hT hl (wpAny_mono h (fun v s' h => ⟨(k₁.trans k₂).trans h.1, h.2⟩) fun _ _ f => f) (hs _ _)
theorem evo_of {e : Option Expr} {o : Option Int} {A : Around} {s : Shared} (h : EvO c σ e o) (hA : AOk c.d A) (hs : St c σ s) {Q : Value → Shared → Prop} {E : Value → Shared → Prop}
    (hQ : ∀ v s', KK c.q s s' → IsPart v o → Q v s') : wpAny c.M A (evalPart e c.env) Q E s := by
  cases e <;> cases o
  · exact wpAny_pure (hQ _ _ (KK.refl _ _) .none)
  · exact h.elim
  · exact h.elim
  · exact ev_of h hA hs fun v s' k r => hQ v s' k (by cases r; exact .int _ _)
theorem ev_slice {value : Expr} {lower upper : Option Expr} {p pos : Pos} {X Z : PV} {lo hi : Option Int} (hv : Ev c σ value X) (hl : EvO c σ lower lo) (hu : EvO c σ upper hi) (hp : Gs c (σ.all c) X lo hi Z) :
    Ev c σ (.Subscript value (.Slice lower upper none p) pos) Z := .mk fun A s hA hst => by
  obtain ⟨T, id, ht, hp⟩ := hp
  refine Subscript_ (ev_of hv hA hst fun o s₁ k₁ r₁ => wpAny_Slice (evo_of hl hA (hst.up k₁) fun vl s₂ k₂ pl => evo_of hu hA ((hst.up k₁).up k₂) fun vu s₃ k₃ pu => ?_))
  rw [evalPart_none]
  refine wpAny_pure ?_
  have kp : KK c.q s₃ { s₃ with heap := s₃.heap.push { cls := .type "slice", data := .fields #[vl, vu, .none] } } := KK.push _ _ _
  obtain ⟨hT, h⟩ := hp A { s₃ with heap := s₃.heap.push { cls := .type "slice", data := .fields #[vl, vu, .none] } } o s₃.heap.objs.size vl vu hA ((((hst.up k₁).up k₂).up k₃).up kp).rdy (((r₁.up k₂.up).up k₃.up).up kp.up) pl pu (Heap.IsSliceOf.new _ _ _ _)
  exact sub_tail hT ht (wpAny_mono h (fun v s' h => ⟨(((k₁.trans k₂).trans k₃).trans kp).trans h.1, h.2⟩) fun _ _ f => f) rfl
end
section
variable {c : Cx} {O : List Addr}
theorem part_value {v : Value} {o : Option Int} (h : IsPart v o) : ∃ p : Option (Int × Tok), v = partValue p ∧ p.map (·.1) = o := by
  cases h with
  | none => exact ⟨none, rfl, rfl⟩
  | int i t => exact ⟨some (i, t), rfl, rfl⟩
theorem gs_str {l : List Nat} {lo hi : Option Int} (hsz : l.length ≤ 1000000) : Gs c O (pL l) lo hi (pL (sl lo hi l)) := ⟨"str", _, F.slot_str_getitem.lookup, fun A s v a vl vu hA ok r pl pu hs => by
  cases r
  refine ⟨typeIs_str _ _ _, ?_⟩
  obtain ⟨p, rfl, hpl⟩ := part_value pl
  obtain ⟨q, rfl, hpu⟩ := part_value pu
  obtain ⟨o, ho, hc, hd⟩ := hs
  refine wpAny_getItem_str_slice (l := p) (u := q) (st := none) ⟨o, ho, hc, hd⟩ rfl ?_
  unfold sliceMade slicePicked
  rw [hpl, hpu, mk_len]
  show Made.post (if ((1 : Int) == 1 && (strSliceIndices lo hi 1 l.length).length == l.length) = true then _ else .str ⟨((strSliceIndices lo hi 1 l.length).filterMap ((mk l).cps[·]?)).toArray⟩) _ _
  split
  · rename_i h
    rw [sl_whole l lo hi (by simpa using h)]
    exact ⟨KK.refl _ _, .str _ _⟩
  · have e : (⟨((strSliceIndices lo hi 1 l.length).filterMap ((mk l).cps[·]?)).toArray⟩ : Str) = mk (sl lo hi l) := by
      rw [← pick_sl]; simp [mk]
    rw [e]
    exact ⟨by rw [mk_len]; have := sl_len lo hi l; exact Nat.le_trans (by omega) (by decide : 1000000 ≤ sizeLine), kk_tok _, .str _ _⟩⟩
theorem IsTup.typeIs' {s : Shared} {a : Addr} {vs : Array Value} (h : IsTup s.heap a vs) : s.TypeIs (.ref a) "tuple" := let ⟨o, e, c, _⟩ := h; ⟨o, e, c⟩
theorem gi_list {ds : List PyData} {i : Int} {d : PyData} (hd : ds[(if i < 0 then i + ds.length else i).toNat]? = some d) (h0 : -(ds.length : Int) ≤ i) (hf : i < 2 ^ 63) (hl : ds.length ≤ 1000000) : Gi c O (.list ds) (pI i) (.dat d) :=
  ⟨"list", _, list_getitem_lookup, fun A s v u hA ok r r₂ => by
    obtain ⟨a, vs, rfl, _, p, q⟩ := r
    cases r₂
    have hL := p.isList
    refine ⟨hL.typeIs, ?_⟩
    obtain ⟨x, hx, cx⟩ := carried_at q hd
    have hn := carried_len q
    rw [Array.length_toList] at hn
    by_cases hi : i < 0
    · rw [if_pos hi] at hx
      exact wpAny_getItem_list_neg hL hi (by rw [hn]; exact h0) (by omega) (by rw [hn]; rw [Array.getElem?_toList] at hx; exact hx) ⟨KK.refl _ _, cx⟩
    · rw [if_neg hi] at hx
      exact wpAny_getItem_list hL (by omega) hf (by rw [Array.getElem?_toList] at hx; exact hx) ⟨KK.refl _ _, cx⟩⟩
theorem gi_nat {ds : List PyData} {j : Nat} {d : PyData} (hd : ds[j]? = some d) (hl : ds.length ≤ 1000) : Gi c O (.list ds) (pI (j : Int)) (.dat d) := by
  have h := (List.getElem?_eq_some_iff.mp hd).1
  exact gi_list (by rw [if_neg (Int.not_lt.mpr (Int.natCast_nonneg j)), Int.toNat_natCast]; exact hd) (by omega) (by omega) (by omega)
theorem gi_nat1 {ds : List PyData} {j : Nat} {d : PyData} (hd : ds[j + 1]? = some d) (hl : ds.length ≤ 1000) : Gi c O (.list ds) (pI ((j : Int) + 1)) (.dat d) := gi_nat hd hl
theorem gs_list {ds : List PyData} {lo hi : Option Int} (hsz : ds.length ≤ 1000000) : Gs c O (.list ds) lo hi (.list (sl lo hi ds)) := ⟨"list", _, list_getitem_lookup, fun A s v a vl vu hA ok r pl pu hs => by
    obtain ⟨b, vs, rfl, _, p, q⟩ := r
    have hL := p.isList
    refine ⟨hL.typeIs, ?_⟩
    have hn := carried_len q
    rw [Array.length_toList] at hn
    refine wpAny_getItem_list_slice hL hs pl pu .none (by simp) ⟨KK.heap' fun _ _ e => Heap.get?_push_of_some _ e, _, _, rfl, ok.new, ⟨0, Heap.get?_push_size _ rfl⟩, ?_⟩ (Nat.le_trans (by omega : vs.size ≤ 1000000) (by decide))
    have e : (slicePick vs lo hi none).toList = sl lo hi vs.toList := by
      unfold slicePick
      rw [bounds_eq]
      show (((sliceRange (lo.elim 0 (cl vs.size) : Nat) (hi.elim vs.size (cl vs.size) : Nat) 1).filterMap (vs[·]?)).toArray).toList = _
      have := pick_sl vs.toList lo hi
      rw [strIdx_eq] at this
      simpa using this
    rw [e]
    exact carried_sl q lo hi⟩
theorem gi_tup {ds : List PyData} {i : Int} {d : PyData} (hd : ds[i.toNat]? = some d) (h0 : 0 ≤ i) (hf : i < 2 ^ 63) : Gi c O (.tup ds) (pI i) (.dat d) :=
  ⟨"tuple", _, slot_tuple_getitem.lookup, fun A s v u hA ok r r₂ => by
    obtain ⟨a, vs, rfl, _, p, q⟩ := r
    cases r₂
    refine ⟨IsTup.typeIs' p, ?_⟩
    obtain ⟨x, hx, cx⟩ := carried_at q hd
    have hlt : i.toNat < vs.size := by rw [Array.getElem?_toList] at hx; exact (Array.getElem?_eq_some_iff.mp hx).1
    exact getItem_tuple p (by omega) hf (j := i.toNat) (by unfold seqIndex?; rw [if_neg (by omega : ¬ i < 0)]; simp; omega) (by rw [← Array.getElem?_toList]; exact hx) ⟨KK.refl _ _, cx⟩⟩
theorem gi_str {l : List Nat} {i : Int} {x : Nat} (hd : l[(if i < 0 then i + l.length else i).toNat]? = some x) (h0 : -(l.length : Int) ≤ i) (h1 : i < l.length) (hf : l.length < 2 ^ 62) : Gi c O (pL l) (pI i) (pL [x]) :=
  ⟨"str", _, F.slot_str_getitem.lookup, fun A s v u hA ok r r₂ => by
    cases r; cases r₂
    refine ⟨typeIs_str _ _ _, P.getItem_str (c := x) (by simp; omega) ?_ ⟨kk_tok _, .str _ _⟩⟩
    rw [mk_len]
    have e : seqIndex? i l.length = some (if i < 0 then i + l.length else i).toNat := by
      unfold seqIndex?
      split
      · simp; omega
      · simp; omega
    rw [e]
    show (mk l).cps[_]? = some x
    rw [← Array.getElem?_toList]
    exact hd⟩
end
end Mine
end
section
open PySem PySem.W PyProof.Rows PySem.Calls
open PySem.Builtin.Str (strSliceIndices occurrences subAt strSub partsBetween lastOccurrence strKind)
open PySem.SeqAt
set_option maxRecDepth 4000
namespace Mine
theorem big_size {n : Nat} (h : n ≤ 1000000) : n ≤ sizeLine := Nat.le_trans h (by decide)
noncomputable def datEq : PyData → PyData → Bool
  | .int a, .int b => a == b
  | .bool a, .bool b => a == b
  | .str a, .str b => a == b
  | .none, .none => true
  | .int a, .bool b => a == (if b then 1 else 0)
  | .bool a, .int b => (if a then 1 else 0) == b
  | _, _ => false
theorem eqAt_dat {A : Around} {s : Shared} {u v : Value} {d e : PyData} (h : Carried u d) (k : Carried v e) : EqAt A s u v (datEq d e) := by
  cases h <;> cases k
  · exact EqAt.int_int _ _ _ _
  · exact EqAt.int_bool _ _ _
  · exact EqAt.int_str _ _ _ _
  · exact EqAt.int_none _ _
  · exact EqAt.bool_int _ _ _
  · exact EqAt.bool_bool _ _
  · exact EqAt.bool_str _ _ _
  · exact EqAt.bool_none _
  · exact EqAt.str_int _ _ _ _
  · exact EqAt.str_bool _ _ _
  · exact EqAt.str_str _ _ _ _
  · exact EqAt.str_none _ _
  · exact EqAt.none_int _ _
  · exact EqAt.none_bool _
  · exact EqAt.none_str _ _
  · exact EqAt.same _
noncomputable def datEqs (ds es : List PyData) : Bool := ds.length == es.length && (List.zipWith datEq ds es).all id
theorem datEq_ints (xs ys : List Int) : datEqs (xs.map .int) (ys.map .int) = (xs == ys) := by
  unfold datEqs
  induction xs generalizing ys with
  | nil => cases ys <;> simp
  | cons x r ih =>
    cases ys with
    | nil => simp
    | cons y t =>
      have := ih t
      simp only [List.map_cons, List.length_cons, List.zipWith_cons_cons, List.all_cons, id, datEq, List.length_map] at this ⊢
      rw [Bool.eq_iff_iff] at this ⊢
      simp at this ⊢
      constructor
      · rintro ⟨a, b, c⟩; exact ⟨b, this.mp ⟨a, c⟩⟩
      · rintro ⟨a, b⟩; exact ⟨(this.mpr b).1, a, (this.mpr b).2⟩
theorem datEq_strs (xs ys : List (List Nat)) : datEqs (xs.map fun x => .str (mk x)) (ys.map fun x => .str (mk x)) = (xs == ys) := by
  unfold datEqs
  induction xs generalizing ys with
  | nil => cases ys <;> simp
  | cons x r ih =>
    cases ys with
    | nil => simp
    | cons y t =>
      have := ih t
      simp only [List.map_cons, List.length_cons, List.zipWith_cons_cons, List.all_cons, id, datEq, List.length_map, mk_beq] at this ⊢
      rw [Bool.eq_iff_iff] at this ⊢
      simp at this ⊢
      constructor
      · rintro ⟨a, b, c⟩; exact ⟨b, this.mp ⟨a, c⟩⟩
      · rintro ⟨a, b⟩; exact ⟨(this.mpr b).1, a, (this.mpr b).2⟩

section
variable {c : Cx} {O : List Addr} {x y : List Nat}
noncomputable abbrev bcall (id : String) : List Value → Sem Value := fun vs => call (.builtin id) vs
noncomputable abbrev tcall (T : String) : List Value → Sem Value := fun vs => call (.type T) vs
theorem pr_sadd (h : x.length + y.length ≤ 1000000) : Pr c O (bin .Add) [pL x, pL y] (pL (x ++ y)) := pr2 fun A s v u hA ok r r₂ => by
  cases r; cases r₂; exact add_str (fun t' tk => ⟨kk_tok _, by rw [mk_app]; exact .str _ _⟩) (big_size (by simpa [mk_len] using h))
theorem pr_seq : Pr c O (cmp .Eq) [pL x, pL y] (pB (x == y)) := pr2 fun A s v u hA ok r r₂ => by cases r; cases r₂; exact PyProof.Rows.eq_str ⟨KK.refl _ _, by rw [mk_beq]; exact .bool _⟩
theorem pr_sne : Pr c O (cmp .NotEq) [pL x, pL y] (pB (x != y)) := pr2 fun A s v u hA ok r r₂ => by
  cases r; cases r₂; exact PyProof.Rows.ne_str ⟨KK.refl _ _, by rw [bne, mk_beq]; exact .bool _⟩
theorem pr_slt : Pr c O (cmp .Lt) [pL x, pL y] (pB (decide (x < y))) := pr2 fun A s v u hA ok r r₂ => by cases r; cases r₂; exact P.lt_str ⟨KK.refl _ _, .bool _⟩
theorem pr_sgt : Pr c O (cmp .Gt) [pL x, pL y] (pB (decide (y < x))) := pr2 fun A s v u hA ok r r₂ => by cases r; cases r₂; exact P.gt_str ⟨KK.refl _ _, .bool _⟩
theorem pr_snotin : Pr c O (cmp .NotIn) [pL y, pL x] (pB (!Txt.contains (mk x) (mk y))) := pr2 fun A s v u hA ok r r₂ => by cases r; cases r₂; exact SB.notContains ⟨KK.refl _ _, .bool _⟩
noncomputable def rep {α : Type} (n : Int) (l : List α) : List α := (List.replicate n.toNat l).flatten
theorem foldl_app (a : Array Nat) : ∀ (k : Nat) (acc : Array Nat), (List.foldl (· ++ ·) acc (List.replicate k a)) = (acc.toList ++ (List.replicate k a.toList).flatten).toArray
  | 0, acc => by simp
  | k + 1, acc => by simp [List.replicate_succ, foldl_app a k, List.append_assoc]
theorem mul_rep (n : Int) : Txt.mul (mk x) n = mk (rep n x) := by
  unfold Txt.mul rep
  by_cases h : n < 1
  · rw [if_pos h, show n.toNat = 0 by omega]; rfl
  · rw [if_neg h]
    split
    · rename_i h1
      rw [Bool.or_eq_true] at h1
      rcases h1 with h1 | h1
      · have e : n = 1 := by simpa using h1
        subst e; simp
      · rw [mk_len] at h1
        have e : x = [] := by simpa using h1
        subst e; simp
    · show (⟨_⟩ : Str) = ⟨_⟩
      rw [foldl_app]; simp [mk]
theorem pr_smul {n : Int} (h : x.length * n.toNat ≤ 1000000) (h0 : -1000000 ≤ n) (h1 : n ≤ 1000000) : Pr c O (bin .Mult) [pL x, pI n] (pL (rep n x)) := pr2 fun A s v u hA ok r r₂ => by
  cases r; cases r₂
  refine SB.mul ?_ fun t' k => ⟨kk_tok _, by rw [mul_rep]; exact .str _ _⟩
  refine mulOk_of x.length n.toNat (by rw [mk_len]; exact Nat.le_refl _) (by omega) (by omega) (by omega) (by omega)
theorem pr_slen (h : x.length ≤ 1000000) : Pr c O (bcall "len") [pL x] (pI x.length) := pr1 fun A s v hA ok r => by
  cases r; exact SBL.len (by rw [mk_len]; omega) ⟨kk_tok _, by rw [mk_len]; exact .int _ _⟩
theorem pr_chr {i : Int} (h0 : 0 ≤ i) (h1 : i ≤ 0x10FFFF) : Pr c O (bcall "chr") [pI i] (pL [i.toNat]) := pr1 fun A s v hA ok r => by
  cases r; exact P.chr_of_int (by simp; omega) ⟨kk_tok _, .str _ _⟩
theorem pr_ord {n : Nat} : Pr c O (bcall "ord") [pL [n]] (pI n) := pr1 fun A s v hA ok r => by cases r; exact P.ord_of_char ⟨kk_tok _, .int _ _⟩
theorem pr_starts : Pr c O (bcall "str.startswith") [pL x, pL y] (pB (Txt.startswith (mk x) (mk y))) := pr2 fun A s v u hA ok r r₂ => by cases r; cases r₂; exact SC.startswith ⟨KK.refl _ _, .bool _⟩
theorem pr_ends : Pr c O (bcall "str.endswith") [pL x, pL y] (pB (Txt.endswith (mk x) (mk y))) := pr2 fun A s v u hA ok r r₂ => by cases r; cases r₂; exact SC.endswith ⟨KK.refl _ _, .bool _⟩
theorem pr_lower (h : x.length ≤ 1000000) : Pr c O (bcall "str.lower") [pL x] (.dat (.str (Txt.lower (mk x)))) := pr1 fun A s v hA ok r => by
  cases r; exact SCL.lower (by rw [mk_len]; omega) fun _ => ⟨kk_tok _, .str _ _⟩
theorem mt_lower {x : Str} : Mt c "lower" (pS x) "str.lower" := fun A s O v pl Q E r h => by cases r; with_reducible exact GM.lower h
theorem mt_starts {x : Str} : Mt c "startswith" (pS x) "str.startswith" := fun A s O v pl Q E r h => by cases r; with_reducible exact GM.startswith h
theorem mt_ends {x : Str} : Mt c "endswith" (pS x) "str.endswith" := fun A s O v pl Q E r h => by cases r; with_reducible exact GM.endswith h
theorem mt_find {x : Str} : Mt c "find" (pS x) "str.find" := fun A s O v pl Q E r h => by cases r; with_reducible exact GM.find h
theorem mt_join {x : Str} : Mt c "join" (pS x) "str.join" := fun A s O v pl Q E r h => by cases r; with_reducible exact GM.join h
theorem mt_split {x : Str} : Mt c "split" (pS x) "str.split" := fun A s O v pl Q E r h => by cases r; with_reducible exact GM.split h
theorem mt_replace {x : Str} : Mt c "replace" (pS x) "str.replace" := fun A s O v pl Q E r h => by cases r; with_reducible exact GM.replace h

-- lists
theorem pr_llen {ds : List PyData} (h : ds.length ≤ 1000000) : Pr c O (bcall "len") [.list ds] (pI ds.length) := pr1 fun A s v hA ok r => by
  obtain ⟨a, vs, rfl, _, p, q⟩ := r
  have hn := carried_len q
  rw [Array.length_toList] at hn
  exact call_len_list p.isList (by omega) ⟨kk_tok _, by rw [hn]; exact .int _ _⟩
theorem up_push {h : Heap} (o : Obj) : Up h (h.push o) := fun _ _ e => Heap.get?_push_of_some _ e
theorem carried_app : ∀ {a b : List Value} {da db : List PyData}, CarriedAll a da → CarriedAll b db → CarriedAll (a ++ b) (da ++ db)
  | _, _, _, _, .nil, h => h
  | _, _, _, _, .cons x r, h => .cons x (carried_app r h)
theorem carried_flat {a : List Value} {da : List PyData} (h : CarriedAll a da) : ∀ k : Nat, CarriedAll (List.replicate k a).flatten (List.replicate k da).flatten
  | 0 => .nil
  | k + 1 => by rw [List.replicate_succ, List.replicate_succ, List.flatten_cons, List.flatten_cons]; exact carried_app h (carried_flat h k)
theorem pr_ladd {ds es : List PyData} (h : ds.length + es.length ≤ 1000000) : Pr c O (bin .Add) [.list ds, .list es] (.list (ds ++ es)) := pr2 fun A s v u hA ok r r₂ => by
  obtain ⟨a, vs, rfl, _, ⟨n, p⟩, q⟩ := r
  obtain ⟨b, ws, rfl, _, ⟨n', p'⟩, q'⟩ := r₂
  have hn := carried_len q
  have hn' := carried_len q'
  rw [Array.length_toList] at hn hn'
  refine P.add_list p p' ⟨KK.heap' (up_push _), _, _, rfl, ok.new, ⟨0, Heap.get?_push_size _ rfl⟩, ?_⟩ (big_size (by omega))
  rw [Array.toList_append]
  exact carried_app q q'
theorem pr_lmul {ds : List PyData} {n : Int} (h : ds.length * n.toNat ≤ 1000000) (h0 : -1000000 ≤ n) (h1 : n ≤ 1000000) : Pr c O (bin .Mult) [.list ds, pI n] (.list (rep n ds)) := pr2 fun A s v u hA ok r r₂ => by
  obtain ⟨a, vs, rfl, _, ⟨k, p⟩, q⟩ := r
  cases r₂
  rename_i t
  have hn := carried_len q
  rw [Array.length_toList] at hn
  have go : KK c.q s { s with heap := s.heap.push { cls := .type "list", data := .seq (List.foldl (fun x1 x2 => x1 ++ x2) #[] (List.replicate (if vs.isEmpty = true then 0 else n.toNat) vs)) } } ∧
      Rep O (s.heap.push { cls := .type "list", data := .seq (List.foldl (fun x1 x2 => x1 ++ x2) #[] (List.replicate (if vs.isEmpty = true then 0 else n.toNat) vs)) }) (.ref s.heap.objs.size) (.list (rep n ds)) := by
    refine ⟨KK.heap' (up_push _), _, _, rfl, ok.new, ⟨0, Heap.get?_push_size _ rfl⟩, ?_⟩
    rw [listMul_foldl]
    unfold rep
    by_cases he : vs.isEmpty = true
    · have e1 : vs.toList = [] := by simpa using he
      have e2 : ds = [] := by rw [e1] at q; cases q; rfl
      rw [e1, e2]; simp; exact .nil
    · rw [if_neg he]
      simpa using carried_flat q n.toNat
  exact wpAny_binaryOp_repeat_ref (T := "list") (U := "int") (by decide) ⟨_, p, rfl⟩ (fun s' => typeIs_int s' n t) noFill_list_mul F.fills_int_mul F.slot_int_rmul repeat_list F.slot_int_index.lookup
    (call_meets F.slot_int_rmul (typeIs_int s n t) F.entry_int_rmul (F.args_int_rmul_2 _ _) (int___rmul___int_list n t a vs k)
      ⟨p, rfl, ⟨_, p, rfl⟩, call_meets F.slot_list_mul ⟨_, p, rfl⟩ F.entry_list_mul (F.args_list_mul_2 _ _)
        (AutoListH.list___mul___list_int_3 a vs k n t (by simp [Builtin.List.listFitsIndex]; omega) (by rw [hn]; omega) (by rw [hn]; simp [Builtin.List.listTooLong, sizeLine]; omega))
        ⟨p, go⟩⟩)
theorem zip_all {vs ws : List Value} {ds es : List PyData} (hl : vs.length = ws.length) (h : CarriedAll vs ds) (k : CarriedAll ws es) : (List.range vs.length).all (fun j => datEq (ds.getD j .none) (es.getD j .none)) = datEqs ds es := by
  have h1 := carried_len h
  have h2 := carried_len k
  unfold datEqs
  rw [show (ds.length == es.length) = true by simp; omega, Bool.true_and, Bool.eq_iff_iff]
  simp only [List.all_eq_true, List.mem_range]
  constructor
  · intro hh b hb
    obtain ⟨j, hj, e⟩ := List.getElem_of_mem hb
    rw [List.length_zipWith] at hj
    have := hh j (by omega)
    rw [List.getElem_zipWith] at e
    subst e
    simpa [List.getD, show j < ds.length by omega, show j < es.length by omega] using this
  · intro hh j hj
    have hj1 : j < ds.length := by omega
    have hj2 : j < es.length := by omega
    have := hh (datEq ds[j] es[j]) (List.mem_iff_getElem.mpr ⟨j, by simp; omega, by simp⟩)
    simpa [List.getD, hj1, hj2] using this
theorem eqAt_items {A : Around} {s : Shared} {vs ws : Array Value} {ds es : List PyData} (h : CarriedAll vs.toList ds) (k : CarriedAll ws.toList es) : ∀ j (h1 : j < vs.size) (h2 : j < ws.size), EqAt A s vs[j] ws[j] (datEq (ds.getD j .none) (es.getD j .none)) := fun j h1 h2 => by
  have l1 := carried_len h
  have l2 := carried_len k
  rw [Array.length_toList] at l1 l2
  obtain ⟨v, e, cv⟩ := carried_at h (n := j) (d := ds[j]'(by omega)) (by simp)
  obtain ⟨w, f, cw⟩ := carried_at k (n := j) (d := es[j]'(by omega)) (by simp)
  rw [Array.getElem?_toList] at e f
  have e' : vs[j] = v := by simpa [h1] using e
  have f' : ws[j] = w := by simpa [h2] using f
  have g1 : ds.getD j .none = ds[j]'(by omega) := by simp [List.getD, show j < ds.length by omega]
  have g2 : es.getD j .none = es[j]'(by omega) := by simp [List.getD, show j < es.length by omega]
  rw [e', f', g1, g2]
  exact eqAt_dat cv cw
theorem aok_room {d : Nat} {A : Around} (h : AOk d A) : A.units < cLine := by have := h.units; omega
theorem pr_leq {ds es : List PyData} : Pr c O (cmp .Eq) [.list ds, .list es] (pB (datEqs ds es)) := pr2 fun A s v u hA ok r r₂ => by
  obtain ⟨a, vs, rfl, _, p, q⟩ := r
  obtain ⟨b, ws, rfl, _, p', q'⟩ := r₂
  have hn := carried_len q
  have hn' := carried_len q'
  rw [Array.length_toList] at hn hn'
  by_cases hl : vs.size = ws.size
  · refine eq_listAt p.isList p'.isList hl (aok_room hA) (eqAt_items q q') ⟨KK.refl _ _, ?_⟩
    have := zip_all (by simpa using hl) q q'
    rw [Array.length_toList] at this
    rw [this]; exact .bool _
  · refine eq_list_lengthsAt p.isList p'.isList (by simpa using hl) (aok_room hA) ⟨KK.refl _ _, ?_⟩
    have e : datEqs ds es = false := by unfold datEqs; rw [show (ds.length == es.length) = false by simp; omega]; rfl
    rw [e]; exact .bool _
theorem pr_lne {ds es : List PyData} : Pr c O (cmp .NotEq) [.list ds, .list es] (pB (!datEqs ds es)) := pr2 fun A s v u hA ok r r₂ => by
  obtain ⟨a, vs, rfl, _, p, q⟩ := r
  obtain ⟨b, ws, rfl, _, p', q'⟩ := r₂
  have hn := carried_len q
  have hn' := carried_len q'
  rw [Array.length_toList] at hn hn'
  by_cases hl : vs.size = ws.size
  · refine RcNeAt.lists p.isList p'.isList hl (aok_room hA) (eqAt_items q q') c.Ω.prog c.Ω.w _ _ ⟨KK.refl _ _, ?_⟩
    have := zip_all (by simpa using hl) q q'
    rw [Array.length_toList] at this
    rw [this]; exact .bool _
  · refine RcNeAt.lists_lengths p.isList p'.isList (by simpa using hl) (aok_room hA) c.Ω.prog c.Ω.w _ _ ⟨KK.refl _ _, ?_⟩
    have e : datEqs ds es = false := by unfold datEqs; rw [show (ds.length == es.length) = false by simp; omega]; rfl
    rw [e]; exact .bool _
noncomputable def datVal : Value → PyData
  | .int i _ => .int i
  | .bool b => .bool b
  | .str x _ => .str x
  | _ => .none
theorem carried_val {v : Value} {d : PyData} (h : Carried v d) : datVal v = d := by cases h <;> rfl
theorem carried_any {ys : List Value} {es : List PyData} (h : CarriedAll ys es) (f : PyData → Bool) : ys.any (fun v => f (datVal v)) = es.any f := by
  induction h with
  | nil => rfl
  | cons c h ih => rw [List.any_cons, List.any_cons, ih, carried_val c]
theorem carried_mem {ys : List Value} {es : List PyData} (h : CarriedAll ys es) {v : Value} (hv : v ∈ ys) : Carried v (datVal v) := by
  induction h with
  | nil => cases hv
  | cons c h ih =>
    rcases List.mem_cons.mp hv with rfl | hv
    · rw [carried_val c]; exact c
    · exact ih hv
theorem pr_lin {d : PyData} {es : List PyData} : Pr c O (cmp .In) [.dat d, .list es] (pB (es.any (datEq · d))) := pr2 fun A s v u hA ok r r₂ => by
  obtain ⟨b, ws, rfl, _, p', q'⟩ := r₂
  have r : Carried v d := r
  refine in_listAt (fun y => datEq (datVal y) d) p'.isList (fun y hy => eqAt_dat (carried_mem q' (by simpa using hy)) r) ⟨KK.refl _ _, ?_⟩
  rw [← Array.any_toList, carried_any q' (datEq · d)]; exact .bool _
end
end Mine
end
section
open PySem PySem.W PyProof.Rows PySem.Calls PySem.SeqAt
open PySem.Builtin.Str (strSliceIndices occurrences subAt strSub partsBetween lastOccurrence strKind)
set_option maxRecDepth 4000
namespace Mine
section
variable {c : Cx} {σ : Sg}
-- a new list
structure EvN (c : Cx) (σ : Sg) (e : Expr) (ds : List PyData) : Prop where
  run : ∀ A s, AOk c.d A → St c σ s → wpAny c.M A (eval e c.env) (fun v s' => KK c.q s s' ∧ ∃ a vs, v = .ref a ∧ s.heap.get? a = none ∧ s'.heap.PlainList a vs ∧ CarriedAll vs.toList ds) (fun _ _ => False) s
theorem EvN.ev {e : Expr} {ds : List PyData} (h : EvN c σ e ds) : Ev c σ e (.list ds) := .mk fun A s hA hs =>
  wpAny_mono (h.run A s hA hs) (fun v s' ⟨k, a, vs, e1, e2, p, q⟩ => by
    have hm : a ∉ σ.all c := fun m => by
      obtain ⟨o, e3⟩ := Option.isSome_iff_exists.mp (hs.live a m)
      rw [e2] at e3; cases e3
    exact ⟨k, a, vs, e1, hm, p, q⟩) fun _ _ f => f
theorem paired_carried {O : List Addr} {h : Heap} {vs : List Value} : ∀ {ds : List PyData}, Paired (Rep O h) vs (ds.map .dat) → CarriedAll vs ds := by
  intro ds p
  generalize e : ds.map PV.dat = Xs at p
  induction p generalizing ds with
  | nil => cases ds with
    | nil => exact .nil
    | cons => cases e
  | cons r p ih => cases ds with
    | nil => cases e
    | cons d ds => cases e; exact .cons r (ih rfl)
theorem none_size (h : Heap) : h.get? h.objs.size = none := by
  cases e : h.get? h.objs.size with
  | none => rfl
  | some o => exact absurd (Heap.lt_size e) (Nat.lt_irrefl _)
theorem none_down {h h' : Heap} (k : Up h h') {a : Addr} (e : h'.get? a = none) : h.get? a = none := by
  cases f : h.get? a with
  | none => rfl
  | some o => rw [k a o f] at e; cases e
theorem evn_list {es : List Expr} {pos : Pos} {ds : List PyData} (h : EvL c σ es (ds.map .dat)) (hl : ds.length ≤ 1000000 := by decide) : EvN c σ (.List es pos) ds := .mk fun A s hA hs =>
  wpAny_List (wpAny_mono (h.run A s pos hA hs) (fun vs s₁ ⟨k, p⟩ => by
    have q := paired_carried p
    have h1 := carried_len q
    exact ⟨big_size (by omega), k.trans (KK.heap' (up_push _)), _, _, rfl, none_down k.up (none_size _), ⟨0, Heap.get?_push_size _ rfl⟩, q⟩) fun _ _ f => f)
theorem ev_tuple {es : List Expr} {k : Nat} {pos : Pos} {ds : List PyData} (h : EvL c σ es (ds.map .dat)) (hl : ds.length ≤ 1000000 := by decide) : Ev c σ (.Tuple es k pos) (.tup ds) := .mk fun A s hA hs =>
  wpAny_Tuple (wpAny_mono (h.run A s pos hA hs) (fun vs s₁ ⟨k, p⟩ => by
    have q := paired_carried p
    have h1 := carried_len q
    exact ⟨big_size (by omega), k.trans (KK.heap' (up_push _)), _, _, rfl, (hs.up k).rdy.new, ⟨_, Heap.get?_push_size _ rfl, rfl, _, rfl⟩, q⟩) fun _ _ f => f)
theorem mcall_at {o : Expr} {name : Str} {apos pos : Pos} {args : List Expr} {Xo : PV} {Xs : List PV} {id : String} (ho : Ev c σ o Xo) (hm : Mt c name Xo id) (ha : EvL c σ args Xs) {A : Around} {s : Shared} (hA : AOk c.d A) (hs : St c σ s) {Q E}
    (hQ : ∀ vs s₂, KK c.q s s₂ → Paired (Rep (σ.all c) s₂.heap) vs (Xo :: Xs) → wpAny c.M A (call (.builtin id) vs) Q E s₂)
    {pl : Sem Bool} (he : eval (.Call (.Attribute o name apos) args [] pos) c.env = (do
      let ov ← eval o c.env
      standAt apos.atName
      let (f, first) ← holding [ov] (getMethod ov name pl)
      callWith pos f first (backTo pos (starEach args c.env)) (backToKw pos (keywordEach [] c.env))) := by rfl) (hst : noStar args = true := by rfl) :
    wpAny c.M A (eval (.Call (.Attribute o name apos) args [] pos) c.env) Q E s :=
  methodCall_KW (ev_of ho hA hs fun v s₁ k₁ r₁ => hm A s₁ (σ.all c) v _ _ _ r₁ (by
    show wpAny c.M A (callWith pos (.builtin id) [v] (backTo pos (starEach args c.env)) []) _ _ s₁
    exact callWith_builtin (starEach_plain hst) (evalArgs_of hst (wpAny_mono (ha.run A s₁ pos hA (hs.up k₁)) (fun vs s₂ ⟨k₂, r₂⟩ =>
      hQ (v :: vs) s₂ (k₁.trans k₂) (.cons (r₁.up k₂.up) r₂)) fun _ _ f => f.elim)))) he
end
section
variable {c : Cx} {O : List Addr}
theorem strs_of {vs : List Value} : ∀ {xs : List Str}, CarriedAll vs (xs.map .str) → ∃ l : List (Str × Tok), vs = strValues l ∧ l.map (·.1) = xs := by
  intro xs h
  generalize e : xs.map PyData.str = ds at h
  induction h generalizing xs with
  | nil => cases xs with
    | nil => exact ⟨[], rfl, rfl⟩
    | cons => cases e
  | cons k h ih => cases xs with
    | nil => cases e
    | cons x r =>
      cases e
      cases k
      rename_i t
      obtain ⟨l, e1, e2⟩ := ih rfl
      subst e1
      subst e2
      exact ⟨(x, t) :: l, rfl, rfl⟩
theorem carried_strs : ∀ (l : List (Str × Tok)), CarriedAll (strValues l) ((l.map (·.1)).map .str)
  | [] => .nil
  | p :: r => .cons (.str _ _) (carried_strs r)
noncomputable abbrev txts (l : List (List Nat)) : List PyData := l.map fun x => .str (mk x)
theorem txts_eq (l : List (List Nat)) : txts l = (l.map mk).map .str := by simp [txts]
-- glue.join(parts)
noncomputable def glue (g : List Nat) : List (List Nat) → List Nat
  | [] => []
  | [x] => x
  | x :: r => x ++ g ++ glue g r
theorem join_glue (g : List Nat) : ∀ l : List (List Nat), Txt.join (mk g) (l.map mk) = mk (glue g l) := by
  intro l
  unfold Txt.join
  rw [StrLaws.glued_eq_join]
  induction l with
  | nil => rfl
  | cons x r ih =>
    cases r with
    | nil => rfl
    | cons y t =>
      show mk x ++ mk g ++ Str.join (mk g) ((y :: t).map mk) = mk (x ++ g ++ glue g (y :: t))
      rw [ih, mk_app, mk_app]
theorem pr_join {g : List Nat} {l : List (List Nat)} (hl : (l.map List.length).sum + l.length * g.length ≤ 1000000) : Pr c O (bcall "str.join") [pL g, .list (txts l)] (pL (glue g l)) := pr2 fun A s v u hA ok r r₂ => by
  cases r
  obtain ⟨a, vs, rfl, _, p, q⟩ := r₂
  rw [txts_eq] at q
  obtain ⟨k, e1, e2⟩ := strs_of q
  refine SC.join (l := k) (texts := l.map mk) ?_ e2 ?_ fun t' n => ⟨kk_tok _, by rw [join_glue]; exact .str _ _⟩
  · rw [← e1]; simpa using p.isList
  · unfold JoinOk
    rw [StrLaws.joinTotal]
    have e3 : ((l.map mk).map (·.length)).sum = (l.map List.length).sum := by
      congr 1
      rw [List.map_map]
      exact List.map_congr_left fun x _ => mk_len x
    rw [e3, mk_len, List.length_map]
    unfold PySem.Builtin.Str.tooLong
    rw [Bool.not_eq_true', decide_eq_false_iff_not]
    have := big_size hl
    omega
-- text.split(sep)
theorem call_split {A : Around} {s : Shared} {x y : Str} {t u : Tok} {E : Value → Shared → Prop} {Q : Value → Shared → Prop} {prog : Program} {w : World} (hy : (y.length == 0) = false) (hx : x.length ≤ 1000000)
    (h : ∀ vs k, CarriedAll vs ((Txt.split x y).map .str) → Q (.ref s.heap.objs.size) { s with heap := s.heap.push { cls := .type "list", data := .seq vs.toArray }, toks := k }) :
    wpAny (model prog w) A (call (.builtin "str.split") [.str x t, .str y u]) Q E s := by
  have hn : (partsBetween x (occurrences x y 0 x.length (x.length + 1)) y.length).length ≤ sizeLine := by
    rw [length_partsBetween]
    have := StrLaws.occ_length_le x y 0 x.length (x.length + 1)
    exact Nat.le_trans (by omega : _ ≤ 1000002) (by decide)
  cases h1 : (decide (x.length < y.length) || decide (strKind x < strKind y))
  · cases hf : (occurrences x y 0 x.length (x.length + 1)).isEmpty
    · refine call_meets F.slot_str_split (typeIs_str _ _ _) F.entry_str_split (F.args_str_split_2 _ _) (meets_str_split_sep x y t u h1 hy hf (big_size hx) hn) ?_
      show wants Q E _ { s with toks := _, heap := s.heap.push { cls := .type "list", data := .seq (strsFrom s.toks (partsBetween x (occurrences x y 0 x.length (x.length + 1)) y.length)).toArray } }
      rw [strsFrom_eq]
      refine h _ _ ?_
      have e : Txt.split x y = (numbered s.toks (partsBetween x (occurrences x y 0 x.length (x.length + 1)) y.length)).map (·.1) := by
        rw [numbered_texts]; unfold Txt.split; rw [h1, hf]; rfl
      rw [e]
      exact carried_strs _
    · refine call_meets F.slot_str_split (typeIs_str _ _ _) F.entry_str_split (F.args_str_split_2 _ _) (meets_str_split_not_found x y t u h1 hy hf) ?_
      refine h [.str x t] s.toks ?_
      have e : Txt.split x y = [x] := by unfold Txt.split; rw [h1, hf]; rfl
      rw [e]; exact .cons (.str _ _) .nil
  · refine call_meets F.slot_str_split (typeIs_str _ _ _) F.entry_str_split (F.args_str_split_2 _ _) (meets_str_split_cannot_occur x y t u h1) ?_
    refine h [.str x t] s.toks ?_
    have e : Txt.split x y = [x] := by unfold Txt.split; rw [h1]; rfl
    rw [e]; exact .cons (.str _ _) .nil
-- text.find(sub, lo, hi)
noncomputable def find4 (x y : Str) (i j : Int) : Int := match occurrences x y (cl x.length i) (cl x.length j) 1 with | k :: _ => (k : Int) | [] => -1
theorem gives_find4 (x y : Str) (i j : Int) (t u v w : Tok) : Gives (Builtin.«str.find» ⟨[.str x t, .str y u, .int i v, .int j w], []⟩) (.int (match occurrences x y (fromIndex x.length i) (min (fromIndex x.length j) x.length) 1 with | k :: _ => (k : Int) | [] => -1)) := by
  show Gives (match occurrences x y (fromIndex x.length i) (min (fromIndex x.length j) x.length) 1 with | k :: _ => retInt k | [] => (do rule "str.find.not-found"; retInt (-1))) _
  cases occurrences x y (fromIndex x.length i) (min (fromIndex x.length j) x.length) 1 with
  | nil => exact .rule (.of_eq rfl)
  | cons k _ => exact .of_eq rfl
theorem min_cl {n : Nat} {i : Int} : min (fromIndex n i) n = cl n i := by unfold fromIndex cl; rw [cl_min]
theorem from_cl {n : Nat} {i : Int} (h : i ≤ n) : fromIndex n i = cl n i := by
  rw [← min_cl, Nat.min_eq_left]
  unfold fromIndex; split <;> omega
theorem pr_find4 {x y : List Nat} {i j : Int} (hi : i ≤ x.length) : Pr c O (bcall "str.find") [pL x, pL y, pI i, pI j] (pI (find4 (mk x) (mk y) i j)) := .mk fun A s vs hA ok p => by
  cases p with | cons r p => cases p with | cons r₂ p => cases p with | cons r₃ p => cases p with | cons r₄ p =>
  cases p
  cases r; cases r₂; cases r₃; cases r₄
  rename_i t u v w
  refine call_gives F.slot_str_find (typeIs_str _ _ _) F.entry_str_find (F.args_str_find_4 _ _ _ _) (gives_find4 _ _ i j t u v w) ?_
  refine ⟨kk_tok _, ?_⟩
  rw [min_cl, from_cl (by rw [mk_len]; exact hi)]
  exact .int _ _
end
end Mine
end
section
open PySem PySem.W PyProof.Rows PySem.Calls PySem.SeqAt
set_option maxRecDepth 4000
namespace Mine
section
variable {c : Cx} {σ : Sg} {s s' : Shared} {Q : Post}

theorem stw_own_new {a : Addr} {v : OV} (h : StW c σ s) (k : KK c.q s s') (hn : s.heap.get? a = none) (hv : OwnAt (a :: σ.all c) s'.heap a v) : StW c ⟨σ.ρ, (a, v) :: σ.own⟩ s' where
  eo := h.eo
  kk := h.kk.trans k
  wd := h.wd
  vars := fun x X e n => let ⟨u, p, r⟩ := h.vars x X e n; ⟨u, p.up k.up, (r.more hn).up k.up⟩
  own := fun b w m => by
    rcases List.mem_cons.mp m with e | m
    · cases e
      refine ⟨hv, none_down h.kk.up hn, fun e => ?_, fun x k e z => ?_⟩
      · obtain ⟨m, _, _, _, ho, _⟩ := h.loc.1
        rw [← e, hn] at ho; cases ho
      · obtain ⟨_, _, ho, _⟩ := (h.cel x k e).1
        rw [← z, hn] at ho; cases ho
    · obtain ⟨p, q⟩ := h.own b w m
      exact ⟨(p.more hn).up k.up, q⟩
  nodup := by
    refine List.nodup_cons.mpr ⟨fun m => ?_, h.nodup⟩
    obtain ⟨⟨b, w⟩, mb, e⟩ := List.mem_map.mp m
    subst e
    have := (h.own b w mb).1.live
    rw [hn] at this; cases this
  old := fun b m => ⟨isSome_up k.up (h.old b m).1, fun e => by
    rcases List.mem_cons.mp e with e | e
    · subst e
      have := (h.old _ m).1
      rw [hn] at this; cases this
    · exact (h.old b m).2.1 e, (h.old b m).2.2⟩
  hold := h.hfr _ _ h.hold (fun b _ o e => k.up b o e) k.gens.2.1
  hfr := h.hfr
  fpl := fun b m => ⟨isSome_up k.up (h.fpl b m).1, fun e => by
    rcases List.mem_cons.mp e with e | e
    · subst e
      have := (h.fpl _ m).1
      rw [hn] at this; cases this
    · exact (h.fpl b m).2.1 e, (h.fpl b m).2.2⟩
  nsn := h.nsn
  loc := ⟨let ⟨m, e⟩ := h.loc.1; ⟨m, e.keeps k.up⟩, h.loc.2⟩
  cel := fun x a e => ⟨let ⟨v, q⟩ := (h.cel x a e).1; ⟨v, q.keeps k.up⟩, (h.cel x a e).2⟩
  apart := h.apart

-- another value for an own object
noncomputable def setOwn (a : Addr) (v : OV) : List (Addr × OV) → List (Addr × OV)
  | [] => []
  | (b, u) :: r => if b = a then (a, v) :: r else (b, u) :: setOwn a v r
theorem setOwn_fst (a : Addr) (v : OV) : ∀ l, (setOwn a v l).map (·.1) = l.map (·.1)
  | [] => rfl
  | (b, u) :: r => by
    unfold setOwn
    split
    · rename_i e; subst e; rfl
    · simp [setOwn_fst a v r]
theorem setOwn_mem {a : Addr} {v : OV} : ∀ {l : List (Addr × OV)}, (l.map (·.1)).Nodup → ∀ {b : Addr} {u : OV}, (b, u) ∈ setOwn a v l → (b = a ∧ u = v) ∨ (b ≠ a ∧ (b, u) ∈ l)
  | [], _, b, u, m => nomatch m
  | (d, w) :: r, hn, b, u, m => by
    rw [List.map_cons, List.nodup_cons] at hn
    unfold setOwn at m
    split at m
    · rename_i e
      subst e
      rcases List.mem_cons.mp m with e | m
      · cases e; exact .inl ⟨rfl, rfl⟩
      · exact .inr ⟨fun e => hn.1 (e ▸ List.mem_map_of_mem (f := (·.1)) m), .tail _ m⟩
    · rename_i e
      rcases List.mem_cons.mp m with e' | m
      · cases e'; exact .inr ⟨e, .head _⟩
      · rcases setOwn_mem hn.2 m with q | q
        · exact .inl q
        · exact .inr ⟨q.1, .tail _ q.2⟩
theorem stw_own_set {a : Addr} {v₀ v : OV} {h' : Heap} {tk : Nat} (h : StW c σ s) (ha : (a, v₀) ∈ σ.own) (hs : Heap.SameBut a s.heap h') (hv : OwnAt (σ.all c) h' a v) : StW c ⟨σ.ρ, setOwn a v σ.own⟩ { s with heap := h', toks := tk } := by
  have hall : Sg.all c ⟨σ.ρ, setOwn a v σ.own⟩ = σ.all c := by unfold Sg.all; rw [setOwn_fst]
  obtain ⟨hlive, hbn, hnl, hnc⟩ := h.own a v₀ ha
  have hin : a ∈ σ.all c := List.mem_append_left _ (List.mem_map_of_mem (f := (·.1)) ha)
  refine StW.mk ⟨h.eo, kk_but h.kk hs hbn _, h.wd, fun x X e n => ?_, fun b w m => ?_, ?_, fun b mb => ⟨isSome_but hs (fun z => ?_) (h.old b mb).1, ?_⟩, h.hfr _ _ h.hold (fun b mb o e => hs.extBut b o (fun z => ?_) e) (fun _ _ e => e), h.hfr, fun b mb => ⟨isSome_but hs (fun z => ?_) (h.fpl b mb).1, ?_⟩⟩ h.nsn
    ⟨let ⟨m, e⟩ := h.loc.1; ⟨m, e.sameBut hs hnl.symm⟩, h.loc.2⟩ (fun x k e => ⟨let ⟨u, q⟩ := (h.cel x k e).1; ⟨u, q.sameBut hs (hnc x k e).symm⟩, (h.cel x k e).2⟩) h.apart
  · obtain ⟨u, p, r⟩ := h.vars x X e n
    rw [hall]
    refine ⟨u, ?_, r.but hs.extBut (.inl hin)⟩
    rcases p with ⟨q, m, hm, e'⟩ | ⟨q, k, e', hc⟩
    · by_cases hl : c.env.locals = a
      · exact (hnl hl.symm).elim
      · exact .inl ⟨q, m, hm.sameBut hs hl, e'⟩
    · exact .inr ⟨q, k, e', hc.sameBut hs (hnc x k e').symm⟩
  · rw [hall]
    rcases setOwn_mem h.nodup m with ⟨rfl, rfl⟩ | ⟨ne, m⟩
    · exact ⟨hv, hbn, hnl, hnc⟩
    · obtain ⟨p, q⟩ := h.own b w m
      exact ⟨p.but hs.extBut (.inl hin) ne, q⟩
  · show ((setOwn a v σ.own).map (·.1)).Nodup
    rw [setOwn_fst]; exact h.nodup
  · subst z; exact (h.old _ mb).2.1 (List.mem_map_of_mem (f := (·.1)) ha)
  · rw [setOwn_fst]; exact (h.old b mb).2
  · subst z; exact (h.fpl _ mb).2.1 (List.mem_map_of_mem (f := (·.1)) ha)
  · subst z; exact (h.fpl _ mb).2.1 (List.mem_map_of_mem (f := (·.1)) ha)
  · rw [setOwn_fst]; exact (h.fpl b mb).2
-- an own list that will no longer change
theorem stw_freeze {x : Str} {a : Addr} {ds : List PyData} {ow : List (Addr × OV)} {ρ' : List PV} (h : StW c σ s) (ho : σ.own = (a, .lst ds) :: ow) (hx : At c.ns σ.ρ x (.val (.ref a))) (hp : Put c.ns σ.ρ x (.list ds) ρ') : StW c ⟨ρ', ow⟩ s := by
  have hsub : ∀ b ∈ Sg.all c ⟨ρ', ow⟩, b ∈ σ.all c := fun b m => by
    unfold Sg.all at m ⊢
    rw [ho]
    exact .tail _ m
  have hnd := h.nodup
  rw [ho, List.map_cons, List.nodup_cons] at hnd
  obtain ⟨hv, hbn, _⟩ := h.own a (.lst ds) (ho ▸ .head _)
  have hna : a ∉ Sg.all c ⟨ρ', ow⟩ := fun m => by
    rcases List.mem_append.mp m with m | m
    · exact hnd.1 m
    · exact (h.old a m).2.1 (ho ▸ .head _)
  refine StW.mk ⟨h.eo, h.kk, h.wd, fun y Y e n => ?_, fun b w m => ?_, hnd.2, fun b mb => ⟨(h.old b mb).1, fun e => (h.old b mb).2.1 (by rw [ho]; exact .tail _ e), (h.old b mb).2.2⟩, h.hold, h.hfr, fun b mb => ⟨(h.fpl b mb).1, fun e => ?_, (h.fpl b mb).2.2⟩⟩ h.nsn h.loc h.cel h.apart
  · rcases hp.at h.nsn e with ⟨rfl, rfl⟩ | ⟨hy, e⟩
    · obtain ⟨u, p, r⟩ := h.vars y _ hx (by nofun)
      refine ⟨u, p, ?_⟩
      obtain ⟨vs, pl, q⟩ := hv
      exact ⟨a, vs, r, hna, pl, q⟩
    · obtain ⟨u, p, r⟩ := h.vars y Y e n
      exact ⟨u, p, r.sub hsub⟩
  · obtain ⟨p, q⟩ := h.own b w (ho ▸ .tail _ m)
    exact ⟨p.sub hsub, q⟩
  · refine (h.fpl b mb).2.1 ?_
    rw [ho]; exact .tail _ e
theorem tr_freeze {x : Str} {a : Addr} {ds : List PyData} {ow : List (Addr × OV)} {ρ' : List PV} {ss : List Stmt} (ho : σ.own = (a, .lst ds) :: ow) (hx : At c.ns σ.ρ x (.val (.ref a))) (hp : Put c.ns σ.ρ x (.list ds) ρ') (ht : Tr c ⟨ρ', ow⟩ ss Q) : Tr c σ ss Q :=
  .mk fun A s hA hs => ht.run A s hA (stw_freeze hs ho hx hp)
-- x := a new list, that may change
theorem tr_own {x : Str} {e : Expr} {ds : List PyData} {p pos : Pos} {rest : List Stmt} {ρ' : Addr → List PV} (h : EvN c σ e ds) (hp : ∀ a, Put c.ns σ.ρ x (.val (.ref a)) (ρ' a)) (hk : c.nm.lookup x = some .local ∨ c.nm.lookup x = some .cell)
    (hs : swapsWith e (some (.Name x p)) pos.line c.env = pure false) (ht : ∀ a, Tr c ⟨ρ' a, (a, .lst ds) :: σ.own⟩ rest Q) : Tr c σ (.Assign [.Name x p] e pos :: rest) Q :=
  tr_cons fun A s hA hw => wpAny_Assign_Name (wpAny_mono (h.run A s hA hw.toSt) (fun v s' ⟨k, a, vs, e1, e2, pl, q⟩ => by
    subst e1
    exact stw_store (stw_own_new hw k e2 (v := .lst ds) ⟨vs, pl, q⟩) (X := .val (.ref a)) rfl (hp a) hk fun s'' hs'' => ⟨.next, _, hs'', trivial, ht a⟩) fun _ _ f => f.elim) hs
-- what an own object is read as
theorem own_at {x : Str} {pos : Pos} {a : Addr} (hx : At c.ns σ.ρ x (.val (.ref a))) (hd : (x == ("__debug__" : Str)) = false) {A : Around} {s : Shared} (hA : AOk c.d A) (hs : St c σ s) {E Q}
    (hQ : Q (.ref a) s) : wpAny c.M A (eval (.Name x pos) c.env) Q E s := by
  refine wpAny_Name ?_ hd
  exact ld_var hx (by nofun) hd hs fun v r => by cases r; exact hQ
theorem ev_own_item {x : Str} {p pos : Pos} {slice : Expr} {a : Addr} {ds : List PyData} {Y : PV} {d : PyData} (hx : At c.ns σ.ρ x (.val (.ref a))) (ho : (a, .lst ds) ∈ σ.own) (hi : Ev c σ slice Y) (hp : Gi c [] (.list ds) Y (.dat d))
    (hY : ∀ O h v, Rep O h v Y → Rep [] h v Y := by intro _ _ _ r; exact r)
    (hd : (x == ("__debug__" : Str)) = false := by decide +kernel) (hs : ∀ o i, subscripted slice false o i = operate [o, i] (getItem o i) := by intro _ _; rfl) : Ev c σ (.Subscript (.Name x p) slice pos) (.dat d) := .mk fun A s hA hst => by
  obtain ⟨T, id, hl, hp⟩ := hp
  refine Subscript_ (own_at hx hd hA hst (ev_of hi hA hst fun i s₂ k₂ r₂ => ?_))
  obtain ⟨vs, pl, q⟩ := (hst.own a _ ho).1
  obtain ⟨hT, h⟩ := hp A s₂ (.ref a) i hA ⟨(hst.up k₂).ok, fun b m => nomatch m⟩ ⟨a, vs, rfl, nofun, plain_up k₂.up pl, q⟩ (hY _ _ _ r₂)
  exact sub_tail hT hl (wpAny_mono h (fun v s' h => ⟨k₂.trans h.1, h.2⟩) fun _ _ f => f) (hs _ _)
theorem ev_own_len {x f : Str} {p fp pos : Pos} {a : Addr} {ds : List PyData} (hn : BName c f (.builtin "len")) (hx : At c.ns σ.ρ x (.val (.ref a))) (ho : (a, .lst ds) ∈ σ.own) (hl : ds.length ≤ 1000000) (hd : (x == ("__debug__" : Str)) = false := by decide +kernel) :
    Ev c σ (.Call (.Name f fp) [.Name x p] [] pos) (pI ds.length) := .mk fun A s hA hs => by
  refine wpAny_Call_NameR (bname_at hn hs (callWith_builtin (starEach_plain (by rfl)) (evalArgs_of (by rfl) (spliced_more (own_at hx hd hA hs (spliced_none ?_)) (by rfl)))))
  obtain ⟨vs, pl, q⟩ := (hs.own a _ ho).1
  have hn := carried_len q
  rw [Array.length_toList] at hn
  exact call_len_list pl.isList (by omega) ⟨kk_tok _, by rw [hn]; exact .int _ _⟩

theorem tr_append {x : Str} {p ap pos spos : Pos} {e : Expr} {a : Addr} {ds : List PyData} {d : PyData} {rest : List Stmt} (hx : At c.ns σ.ρ x (.val (.ref a))) (ho : (a, .lst ds) ∈ σ.own) (h : Ev c σ e (.dat d)) (hl : ds.length ≤ 1000000)
    (ht : Tr c ⟨σ.ρ, setOwn a (.lst (ds ++ [d])) σ.own⟩ rest Q) (hd : (x == ("__debug__" : Str)) = false := by decide +kernel) (hst : noStar [e] = true := by rfl)
    (he : ∃ pl : Sem Bool, eval (.Call (.Attribute (.Name x p) (Str.ofString "append") ap) [e] [] pos) c.env = (do
      let ov ← eval (.Name x p) c.env
      standAt ap.atName
      let (f, first) ← holding [ov] (getMethod ov (Str.ofString "append") pl)
      callWith pos f first (backTo pos (starEach [e] c.env)) (backToKw pos (keywordEach [] c.env))) := by exact ⟨_, rfl⟩) :
    Tr c σ (.Expr (.Call (.Attribute (.Name x p) (Str.ofString "append") ap) [e] [] pos) spos :: rest) Q :=
  tr_cons fun A s hA hw => wpAny_Expr_any (by
    obtain ⟨pl, he⟩ := he
    refine methodCall_KW (own_at hx hd hA hw.toSt ?_) he
    obtain ⟨vs, ⟨n, pl'⟩, q⟩ := (hw.own a _ ho).1
    refine getMethod_list_append pl' rfl rfl ?_
    refine callWith_builtin (starEach_plain hst) (evalArgs_of hst (spliced_more (ev_of h hA hw.toSt fun v s₁ k₁ r₁ => spliced_none ?_) (by cases e <;> first | rfl | (simp at hst))))
    obtain ⟨vs, pl'', q⟩ := ((hw.up k₁).own a _ ho).1
    have hn := carried_len q
    rw [Array.length_toList] at hn
    refine wpAny_list_append_plain pl'' (fun h' hp hsb => ⟨.next, _, stw_own_set (hw.up k₁) ho hsb (v := .lst (ds ++ [d])) ⟨_, hp, ?_⟩, trivial, ht⟩) (big_size (by omega))
    rw [Array.toList_push]
    exact carried_app q (.cons r₁ .nil)) (by unfold interactive; rw [hw.eo.kind]; rfl) (by rfl)
theorem tr_assert {e : Expr} {m : Option Expr} {pos : Pos} {rest : List Stmt} (h : EvB c σ e true) (ht : Tr c σ rest Q) : Tr c σ (.Assert e m pos :: rest) Q :=
  tr_cons fun A s hA hw => wpAny_Assert_holds (evb_of h hA hw.toSt fun s' k => ⟨rfl, .next, σ, hw.up k, trivial, ht⟩)
theorem carried_erase {ys : List Value} {ds : List PyData} (h : CarriedAll ys ds) : ∀ k : Nat, CarriedAll (ys.eraseIdx k) (ds.eraseIdx k) := by
  induction h with
  | nil => intro k; exact .nil
  | cons c h ih => intro k; cases k with
    | zero => exact h
    | succ k => exact .cons c (ih k)
-- del x[i]
theorem tr_del {x : Str} {p pp pos : Pos} {i : Expr} {a : Addr} {ds : List PyData} {n : Int} {k : Nat} {rest : List Stmt} (hx : At c.ns σ.ρ x (.val (.ref a))) (ho : (a, .lst ds) ∈ σ.own) (h : Ev c σ i (pI n)) (hl : ds.length ≤ 1000000)
    (hk : Builtin.List.listFitsIndex n = true) (hi : seqIndex? n ds.length = some k) (ht : Tr c ⟨σ.ρ, setOwn a (.lst (ds.eraseIdx k)) σ.own⟩ rest Q) (hd : (x == ("__debug__" : Str)) = false := by decide +kernel) :
    Tr c σ (.Delete [.Subscript (.Name x p) i pp] pos :: rest) Q :=
  tr_cons fun A s hA hw => wpAny_Delete (wpAny_deleteEach_cons (wpAny_delete_Subscript (own_at hx hd hA hw.toSt (ev_of h hA hw.toSt fun v s₁ k₁ r₁ => by
    cases r₁
    obtain ⟨vs, pl, q⟩ := ((hw.up k₁).own a _ ho).1
    have hn := carried_len q
    rw [Array.length_toList] at hn
    refine wpAny_delItem_plain pl hk (by rw [hn]; exact hi) (fun h' hp hsb => wpAny_deleteEach_nil ⟨.next, _, stw_own_set (hw.up k₁) ho hsb (v := .lst (ds.eraseIdx k)) ⟨_, hp, ?_⟩, trivial, ht⟩) (big_size (by omega))
    have e : (vs.eraseIdxIfInBounds k).toList = vs.toList.eraseIdx k := by simp
    rw [e]; exact carried_erase q k))))
-- x[i] op= e
theorem carried_set {ys : List Value} {ds : List PyData} (h : CarriedAll ys ds) {v : Value} {d : PyData} (hv : Carried v d) : ∀ k : Nat, CarriedAll (ys.set k v) (ds.set k d) := by
  induction h with
  | nil => intro k; exact .nil
  | cons c h ih => intro k; cases k with
    | zero => exact .cons hv h
    | succ k => exact .cons c (ih k)
theorem tr_augitem {x : Str} {p pp pos : Pos} {i value : Expr} {op : Operator} {a : Addr} {ds : List PyData} {n : Int} {k : Nat} {d e : PyData} {Y : PV} {rest : List Stmt} (hx : At c.ns σ.ρ x (.val (.ref a))) (ho : (a, .lst ds) ∈ σ.own) (h : Ev c σ i (pI n)) (hv : Ev c σ value Y)
    (hk : seqIndex? n ds.length = some k) (hd' : ds[k]? = some d) (hop : Pr c (σ.all c) (ipl op) [.dat d, Y] (.dat e)) (hl : ds.length ≤ 1000000)
    (ht : Tr c ⟨σ.ρ, setOwn a (.lst (ds.set k e)) σ.own⟩ rest Q) (hd : (x == ("__debug__" : Str)) = false := by decide +kernel)
    (hi : ∀ ov iv new, augStore i ov iv new = (do holding [new, ov, iv] (setItem ov iv new); release [new, ov, iv] []; pure .next) := by intros; rfl) : Tr c σ (.AugAssign (.Subscript (.Name x p) i pp) op value pos :: rest) Q :=
  tr_cons fun A s hA hw => wpAny_AugAssign_SubscriptAny (own_at hx hd hA hw.toSt (ev_of h hA hw.toSt fun v s₁ k₁ r₁ => by
    cases r₁
    obtain ⟨vs, pl, q⟩ := ((hw.up k₁).own a _ ho).1
    have hn := carried_len q
    rw [Array.length_toList] at hn
    obtain ⟨y, hy, cy⟩ := carried_at q hd'
    rw [Array.getElem?_toList] at hy
    have hk2 := hk
    unfold seqIndex? at hk2
    dsimp only at hk2
    have hbound : -(ds.length : Int) ≤ n ∧ n < ds.length ∧ k = (if n < 0 then n + ds.length else n).toNat := by
      by_cases hneg : n < 0
      · rw [if_pos hneg] at hk2
        split at hk2
        · rename_i hh
          simp at hh hk2
          rw [if_pos hneg]; omega
        · cases hk2
      · rw [if_neg hneg] at hk2
        split at hk2
        · rename_i hh
          simp at hh hk2
          rw [if_neg hneg]; omega
        · cases hk2
    rename_i tn
    have kget : ∀ {Q' : Value → Shared → Prop} {E' : Value → Shared → Prop}, Q' y s₁ → wpAny c.M A (getItem (.ref a) (.int n tn)) Q' E' s₁ := fun {Q' E'} hQ' => by
      by_cases hneg : n < 0
      · exact wpAny_getItem_list_neg pl.isList hneg (by rw [hn]; exact hbound.1) (by omega) (by rw [hn, show (n + (ds.length : Int)).toNat = k by rw [hbound.2.2, if_pos hneg]]; exact hy) hQ'
      · exact wpAny_getItem_list pl.isList (by omega) (by omega) (by rw [show n.toNat = k by rw [hbound.2.2, if_neg hneg]]; exact hy) hQ'
    refine kget (ev_of hv hA (hw.toSt.up k₁) fun u s₂ k₂ r₂ => ?_)
    refine wpAny_mono (hop.run A s₂ [y, u] hA ((hw.toSt.up k₁).up k₂).rdy (.cons cy (.cons r₂ .nil))) (fun r s₃ ⟨k₃, r₃⟩ => ?_) fun _ _ f => f.elim
    have hw3 := ((hw.up k₁).up k₂).up k₃
    obtain ⟨vs, ⟨m, pl⟩, q⟩ := (hw3.own a _ ho).1
    have hn := carried_len q
    rw [Array.length_toList] at hn
    have fin : ∀ j : Nat, j = k → (∃ pf σ', StW c σ' { s₃ with heap := s₃.heap.update a (Obj.mapSeq (·.setIfInBounds j r)) } ∧ FRep c.O (s₃.heap.update a (Obj.mapSeq (·.setIfInBounds j r))) .next pf ∧ Then c rest Q pf σ') := fun j hj => by
      subst hj
      refine ⟨.next, _, stw_own_set (v := .lst (ds.set j e)) hw3 ho (Heap.SameBut.update ..) ⟨vs.setIfInBounds j r, ⟨_, IsL.update pl _⟩, ?_⟩, trivial, ht⟩
      rw [Array.toList_setIfInBounds]
      exact carried_set q r₃ j
    by_cases hneg : n < 0
    · exact PySem.W.ki_setBack pl hneg (by rw [hn]; exact hbound.1) (by omega) (fin _ (by rw [hbound.2.2, if_pos hneg, hn]))
    · exact PySem.W.ki_setAt pl (by omega) (by omega) (by rw [hn]; exact hbound.2.1) (fin _ (by rw [hbound.2.2, if_neg hneg])))) hi
end
end Mine
end
section
open PySem PySem.W PyProof.Rows PySem.Calls PySem.SeqAt
set_option maxRecDepth 4000
namespace Mine
-- an object that is no namespace and no cell
noncomputable def Flat1 (h : Heap) (b : Addr) : Prop := ∃ o, h.get? b = some o ∧ (∀ es ep, o.data ≠ .dict es ep) ∧ ∀ v, o.data ≠ .cell v
theorem flat_ns {h : Heap} {b a : Addr} {m : Str → Option Value} (x : Flat1 h b) (y : h.Ns a m) : b ≠ a := fun e => by
  subst e
  obtain ⟨o, ho, h1, _⟩ := x
  obtain ⟨o', es, ep, ho', hd, _⟩ := y
  rw [ho] at ho'; cases ho'; exact h1 _ _ hd
theorem flat_cell {h : Heap} {b a : Addr} {v : Option Value} (x : Flat1 h b) (y : h.IsCell a v) : b ≠ a := fun e => by
  subst e
  obtain ⟨o, ho, _, h1⟩ := x
  obtain ⟨o', ho', hd⟩ := y
  rw [ho] at ho'; cases ho'; exact h1 _ hd
-- what a walk promises
structure WalkOk (c : Cx) (O : List Addr) (ds : List PyData) (s s' : Shared) (I : Addr) (fp wr : List Addr) (P : Nat → Value → Prop) (St : Nat → Heap → Prop) : Prop where
  kk : KK c.q s s'
  walks : ∀ A' : Around, A'.handled = none → Walks c.Ω.prog c.Ω.w A' I fp wr ds.length P St
  st : St 0 s'.heap
  fpl : ∀ b ∈ fp, (s'.heap.get? b).isSome = true ∧ b ∉ O ∧ (s.heap.get? b = none ∨ Flat1 s.heap b)
  new : ∀ b ∈ wr, s.heap.get? b = none
  item : ∀ i v, P i v → i < ds.length → ∃ d, ds[i]? = some d ∧ Carried v d
  live : ∀ i h, St i h → ∀ b ∈ wr, (h.get? b).isSome = true
-- an iterable that gives ds
structure ItE (c : Cx) (σ : Sg) (e : Expr) (ds : List PyData) : Prop where
  run : ∀ A s (Q : Value → Shared → Prop) (E : Value → Shared → Prop), AOk c.d A → St c σ s →
  (∀ s' I fp wr P St, WalkOk c (σ.all c) ds s s' I fp wr P St → Q (.ref I) s') → wpAny c.M A (eval e c.env) (fun x s₁ => wpAny c.M A (pyIter x) Q E s₁) E s

theorem Rep.off {O W : List Addr} {h h' : Heap} (hk : ∀ b o, b ∉ W → h.get? b = some o → h'.get? b = some o) (hW : ∀ b ∈ W, b ∈ O) {v : Value} {X : PV} (r : Rep O h v X) : Rep O h' v X := by
  have nn : ∀ {a : Addr}, a ∉ O → a ∉ W := fun n m => n (hW _ m)
  cases X with
  | dat d => exact r
  | bytes b => exact r
  | list ds => obtain ⟨a, vs, e, n, ⟨m, p⟩, c⟩ := r; exact ⟨a, vs, e, n, ⟨m, hk _ _ (nn n) p⟩, c⟩
  | tup ds => obtain ⟨a, vs, e, n, ⟨o, p, q⟩, c⟩ := r; exact ⟨a, vs, e, n, ⟨o, hk _ _ (nn n) p, q⟩, c⟩
  | list2 xs => obtain ⟨a, vs, e, n, ⟨m, p⟩, c⟩ := r; exact ⟨a, vs, e, n, ⟨m, hk _ _ (nn n) p⟩, paired_mono (fun _ _ ⟨a, vs, e, n, ⟨m, p⟩, c⟩ => ⟨a, vs, e, n, ⟨m, hk _ _ (nn n) p⟩, c⟩) c⟩
  | rng x y z => obtain ⟨a, t, u, w, e, n, p⟩ := r; exact ⟨a, t, u, w, e, n, hk _ _ (nn n) p⟩
  | val u => exact r
  | unb => exact r
theorem OwnAt.off {O W : List Addr} {h h' : Heap} (hk : ∀ b o, b ∉ W → h.get? b = some o → h'.get? b = some o) (hW : ∀ b ∈ W, b ∈ O) {a : Addr} (ha : a ∉ W) {v : OV} (r : OwnAt O h a v) : OwnAt O h' a v := by
  cases v with
  | lst ds => obtain ⟨vs, ⟨n, e⟩, q⟩ := r; exact ⟨vs, ⟨n, hk _ _ ha e⟩, q⟩
  | lst2 xs => obtain ⟨vs, ⟨n, e⟩, q⟩ := r; exact ⟨vs, ⟨n, hk _ _ ha e⟩, paired_mono (fun _ _ ⟨a, vs, e, n, ⟨m, p⟩, c⟩ => ⟨a, vs, e, n, ⟨m, hk _ _ (fun z => n (hW _ z)) p⟩, c⟩) q⟩
  | obj P => obtain ⟨o, e, p⟩ := r; exact ⟨o, hk _ _ ha e, p⟩
theorem Rep.mores {O : List Addr} {h : Heap} {v : Value} {X : PV} (r : Rep O h v X) : ∀ (W : List Addr), (∀ b ∈ W, h.get? b = none) → Rep (W ++ O) h v X
  | [], _ => r
  | b :: W, hn => Rep.more (hn b (.head _)) (Rep.mores r W fun b m => hn b (.tail _ m))
theorem OwnAt.mores {O : List Addr} {h : Heap} {a : Addr} {v : OV} (r : OwnAt O h a v) : ∀ (W : List Addr), (∀ b ∈ W, h.get? b = none) → OwnAt (W ++ O) h a v
  | [], _ => r
  | b :: W, hn => OwnAt.more (hn b (.head _)) (OwnAt.mores r W fun b m => hn b (.tail _ m))

-- the frame while a loop walks
noncomputable abbrev Cx.walk (c : Cx) (O fp : List Addr) (inv : Shared → Prop) : Cx := { c with O := O, fp := fp, inv := inv }
section
variable {c : Cx} {σ : Sg} {s s' : Shared} {Q : Post} {ds : List PyData} {I : Addr} {fp wr : List Addr} {P : Nat → Value → Prop} {Wt : Nat → Heap → Prop}

theorem mem_all_walk {wr : List Addr} {fp' : List Addr} {inv : Shared → Prop} {b : Addr} (m : b ∈ σ.all (c.walk (wr ++ c.O) fp' inv)) : b ∈ wr ++ σ.all c := by
  rcases List.mem_append.mp m with m | m
  · exact List.mem_append_right _ (List.mem_append_left _ m)
  · rcases List.mem_append.mp m with m | m
    · exact List.mem_append_left _ m
    · exact List.mem_append_right _ (List.mem_append_right _ m)
theorem all_sub_walk {wr : List Addr} {fp' : List Addr} {inv : Shared → Prop} {b : Addr} (m : b ∈ σ.all c) : b ∈ σ.all (c.walk (wr ++ c.O) fp' inv) := by
  rcases List.mem_append.mp m with m | m
  · exact List.mem_append_left _ m
  · exact List.mem_append_right _ (List.mem_append_right _ m)

theorem walk_in (h : StW c σ s) (w : WalkOk c (σ.all c) ds s s' I fp wr P Wt) : StW (c.walk (wr ++ c.O) (fp ++ c.fp) (fun s => c.inv s ∧ Wt 0 s.heap)) σ s' := by
  have k := w.kk
  have hWl := w.live 0 _ w.st
  have away : ∀ b ∈ wr, (s'.heap.get? b).isSome = true ∧ b ∉ σ.own.map (·.1) ∧ b ≠ c.env.locals ∧ ∀ x k, c.env.cells.lookup x = some k → b ≠ k := fun b m => by
    have hn := w.new b m
    refine ⟨hWl b m, fun e => ?_, fun e => ?_, fun x k e z => ?_⟩
    · obtain ⟨⟨a, v⟩, ma, e⟩ := List.mem_map.mp e
      subst e
      have := (h.own a v ma).1.live
      rw [hn] at this; cases this
    · obtain ⟨m, _, _, _, ho, _⟩ := h.loc.1
      rw [← e, hn] at ho; cases ho
    · obtain ⟨_, _, ho, _⟩ := (h.cel x k e).1
      rw [← z, hn] at ho; cases ho
  refine StW.mk ⟨h.eo, h.kk.trans k, h.wd, fun x X e n => ?_, fun b v m => ?_, h.nodup, fun b m => ?_, ⟨h.hfr _ _ h.hold (fun b _ o e => k.up b o e) k.gens.2.1, w.st⟩, fun h₁ h₂ hi hb hg => ⟨h.hfr _ _ hi.1 (fun b m => hb b (List.mem_append_right _ m)) hg, (w.walks ⟨none, 0, none, none, 0⟩ rfl).frame _ _ _ hi.2 fun b m => hb b (List.mem_append_left _ m)⟩, fun b m => ?_⟩ h.nsn
    ⟨let ⟨m, e⟩ := h.loc.1; ⟨m, e.keeps k.up⟩, h.loc.2⟩ (fun x a e => ⟨let ⟨v, q⟩ := (h.cel x a e).1; ⟨v, q.keeps k.up⟩, (h.cel x a e).2⟩) h.apart
  · obtain ⟨u, p, r⟩ := h.vars x X e n
    exact ⟨u, p.up k.up, ((r.mores wr w.new).sub fun b m => mem_all_walk m).up k.up⟩
  · obtain ⟨p, q⟩ := h.own b v m
    exact ⟨((p.mores wr w.new).sub fun b m => mem_all_walk m).up k.up, q⟩
  · rcases List.mem_append.mp m with m | m
    · exact away b m
    · exact ⟨isSome_up k.up (h.old b m).1, (h.old b m).2⟩
  · rcases List.mem_append.mp m with m | m
    · obtain ⟨h1, h2, h3⟩ := w.fpl b m
      refine ⟨h1, fun e => h2 (List.mem_append_left _ e), ?_⟩
      rcases h3 with hn | hf
      · refine ⟨fun e => ?_, fun x k e z => ?_⟩
        · obtain ⟨m, _, _, _, ho, _⟩ := h.loc.1
          rw [← e, hn] at ho; cases ho
        · obtain ⟨_, _, ho, _⟩ := (h.cel x k e).1
          rw [← z, hn] at ho; cases ho
      · refine ⟨?_, fun x k e => ?_⟩
        · obtain ⟨m, hm⟩ := h.loc.1; exact flat_ns hf hm
        · obtain ⟨v, hv⟩ := (h.cel x k e).1; exact flat_cell hf hv
    · exact ⟨isSome_up k.up (h.fpl b m).1, (h.fpl b m).2⟩
-- one step of the walk
theorem walk_step {i j : Nat} {h' : Heap} {tk : Nat} (hb : ∀ b ∈ wr, c.b.heap.get? b = none) (hf : ∀ b ∈ c.fp, b ∉ wr) (hl : ∀ b ∈ wr, (h'.get? b).isSome = true) (hst : Wt j h')
    (hk : ∀ b o, b ∉ wr → s.heap.get? b = some o → h'.get? b = some o) (h : StW (c.walk (wr ++ c.O) (fp ++ c.fp) (fun s => c.inv s ∧ Wt i s.heap)) σ s)
    (hfr0 : ∀ s s' : Shared, c.inv s → (∀ b ∈ c.fp, ∀ o, s.heap.get? b = some o → s'.heap.get? b = some o) → (∀ (i : Nat) (x : GenState), s.gens[i]? = some x → s'.gens[i]? = some x) → c.inv s')
    (hfr : ∀ h h', Wt j h → (∀ b ∈ fp, ∀ o, h.get? b = some o → h'.get? b = some o) → Wt j h') :
    StW (c.walk (wr ++ c.O) (fp ++ c.fp) (fun s => c.inv s ∧ Wt j s.heap)) σ { s with heap := h', toks := tk } := by
  have inO : ∀ b ∈ wr, b ∈ σ.all (c.walk (wr ++ c.O) (fp ++ c.fp) (fun s => c.inv s ∧ Wt i s.heap)) := fun b m => List.mem_append_right _ (List.mem_append_left _ m)
  have off := fun b (m : b ∈ wr) => h.old b (List.mem_append_left _ m)
  have hlive : ∀ b, (s.heap.get? b).isSome = true → (h'.get? b).isSome = true := fun b e => by
    by_cases hw : b ∈ wr
    · exact hl b hw
    · obtain ⟨o, e⟩ := Option.isSome_iff_exists.mp e
      rw [hk b o hw e]; rfl
  obtain ⟨h₁, tk₁, gs, es, u, g⟩ := h.kk
  refine StW.mk ⟨h.eo, ⟨h', tk, gs, by subst es; rfl, fun b o e => ?_, g⟩, h.wd, fun x X e n => ?_, fun b v m => ?_, h.nodup, fun b m => ⟨hlive b (h.old b m).1, (h.old b m).2⟩,
    ⟨hfr0 _ _ h.hold.1 (fun b m o e => hk b o (hf b m) e) (fun _ _ e => e), hst⟩, fun h₁ h₂ hi hb hg => ⟨hfr0 _ _ hi.1 (fun b m => hb b (List.mem_append_right _ m)) hg, hfr _ _ hi.2 fun b m => hb b (List.mem_append_left _ m)⟩,
    fun b m => ⟨hlive b (h.fpl b m).1, (h.fpl b m).2⟩⟩ h.nsn ⟨?_, h.loc.2⟩ (fun x a e => ⟨?_, (h.cel x a e).2⟩) h.apart
  · refine hk b o (fun m => ?_) (by subst es; exact u b o e)
    rw [hb b m] at e; cases e
  · obtain ⟨v, p, r⟩ := h.vars x X e n
    refine ⟨v, ?_, r.off hk inO⟩
    rcases p with ⟨q, m, ⟨o, es, ep, ho, r⟩, e'⟩ | ⟨q, k, e', ⟨o, ho, hd⟩⟩
    · exact .inl ⟨q, m, ⟨o, es, ep, hk _ _ (fun z => (off _ z).2.2.1 rfl) ho, r⟩, e'⟩
    · exact .inr ⟨q, k, e', o, hk _ _ (fun z => (off _ z).2.2.2 x k e' rfl) ho, hd⟩
  · obtain ⟨p, q⟩ := h.own b v m
    exact ⟨p.off hk inO fun z => (off b z).2.1 (List.mem_map_of_mem (f := (·.1)) m), q⟩
  · obtain ⟨m, o, es, ep, ho, r⟩ := h.loc.1
    exact ⟨m, o, es, ep, hk _ _ (fun z => (off _ z).2.2.1 rfl) ho, r⟩
  · obtain ⟨v, o, ho, hd⟩ := (h.cel x a e).1
    exact ⟨v, o, hk _ _ (fun z => (off _ z).2.2.2 x a e rfl) ho, hd⟩
theorem walk_out {i : Nat} {h' : Heap} {tk : Nat} (hb : ∀ b ∈ wr, c.b.heap.get? b = none) (hf : ∀ b ∈ c.fp, b ∉ wr) (hO : ∀ b ∈ c.O, b ∉ wr)
    (hk : ∀ b o, b ∉ wr → s.heap.get? b = some o → h'.get? b = some o) (h : StW (c.walk (wr ++ c.O) (fp ++ c.fp) (fun s => c.inv s ∧ Wt i s.heap)) σ s)
    (hfr0 : ∀ s s' : Shared, c.inv s → (∀ b ∈ c.fp, ∀ o, s.heap.get? b = some o → s'.heap.get? b = some o) → (∀ (i : Nat) (x : GenState), s.gens[i]? = some x → s'.gens[i]? = some x) → c.inv s') :
    StW c σ { s with heap := h', toks := tk } := by
  have inO : ∀ b ∈ wr, b ∈ σ.all (c.walk (wr ++ c.O) (fp ++ c.fp) (fun s => c.inv s ∧ Wt i s.heap)) := fun b m => List.mem_append_right _ (List.mem_append_left _ m)
  have off := fun b (m : b ∈ wr) => h.old b (List.mem_append_left _ m)
  have hlive : ∀ b, b ∉ wr → (s.heap.get? b).isSome = true → (h'.get? b).isSome = true := fun b hw e => by
    obtain ⟨o, e⟩ := Option.isSome_iff_exists.mp e
    rw [hk b o hw e]; rfl
  obtain ⟨h₁, tk₁, gs, es, u, g⟩ := h.kk
  refine StW.mk ⟨h.eo, ⟨h', tk, gs, by subst es; rfl, fun b o e => ?_, g⟩, h.wd, fun x X e n => ?_, fun b v m => ?_, h.nodup, fun b m => ⟨hlive b (hO b m) (h.old b (List.mem_append_right _ m)).1, (h.old b (List.mem_append_right _ m)).2⟩,
    hfr0 _ _ h.hold.1 (fun b m o e => hk b o (hf b m) e) (fun _ _ e => e), hfr0, fun b m => ⟨hlive b (hf b m) (h.fpl b (List.mem_append_right _ m)).1, (h.fpl b (List.mem_append_right _ m)).2⟩⟩ h.nsn ⟨?_, h.loc.2⟩ (fun x a e => ⟨?_, (h.cel x a e).2⟩) h.apart
  · refine hk b o (fun m => ?_) (by subst es; exact u b o e)
    rw [hb b m] at e; cases e
  · obtain ⟨v, p, r⟩ := h.vars x X e n
    refine ⟨v, ?_, (r.off hk inO).sub fun b m => all_sub_walk m⟩
    rcases p with ⟨q, m, ⟨o, es, ep, ho, r⟩, e'⟩ | ⟨q, k, e', ⟨o, ho, hd⟩⟩
    · exact .inl ⟨q, m, ⟨o, es, ep, hk _ _ (fun z => (off _ z).2.2.1 rfl) ho, r⟩, e'⟩
    · exact .inr ⟨q, k, e', o, hk _ _ (fun z => (off _ z).2.2.2 x k e' rfl) ho, hd⟩
  · obtain ⟨p, q⟩ := h.own b v m
    exact ⟨(p.off hk inO fun z => (off b z).2.1 (List.mem_map_of_mem (f := (·.1)) m)).sub fun b m => all_sub_walk m, q⟩
  · obtain ⟨m, o, es, ep, ho, r⟩ := h.loc.1
    exact ⟨m, o, es, ep, hk _ _ (fun z => (off _ z).2.2.1 rfl) ho, r⟩
  · obtain ⟨v, o, ho, hd⟩ := (h.cel x a e).1
    exact ⟨v, o, hk _ _ (fun z => (off _ z).2.2.2 x a e rfl) ho, hd⟩

-- for x in it: body
theorem tr_for {x : Str} {p pos : Pos} {it : Expr} {body rest : List Stmt} (h : ItE c σ it ds) (hkind : c.nm.lookup x = some .local ∨ c.nm.lookup x = some .cell) (J : Nat → Sg → Prop) (h0 : J 0 σ)
    (hbody : ∀ (O : List Addr) (fp : List Addr) (inv : Shared → Prop) i σ' d, ds[i]? = some d → J i σ' → ∃ ρ', Put c.ns σ'.ρ x (.dat d) ρ' ∧ Tr (c.walk O fp inv) ⟨ρ', σ'.own⟩ body (fun pf σ'' => match pf with
      | .next | .cont => J (i + 1) σ''
      | .brk => Tr c σ'' rest Q
      | .ret X => Q (.ret X) σ''))
    (hend : ∀ σ', J ds.length σ' → Tr c σ' rest Q) (hs : ∀ v, foldedSetIterable it c.env v = pure v := by intro _; rfl) : Tr c σ (.For (.Name x p) it body [] pos :: rest) Q :=
  tr_cons fun A s hA hw => wpAny_For (h.run A s _ _ hA hw.toSt fun s' I fp wr P Wt w => by
    have hb : ∀ b ∈ wr, c.b.heap.get? b = none := fun b m => none_down hw.kk.up (w.new b m)
    have hf : ∀ b ∈ c.fp, b ∉ wr := fun b m mw => by
      have := (hw.fpl b m).1
      rw [w.new b mw] at this; cases this
    have hO : ∀ b ∈ c.O, b ∉ wr := fun b m mw => by
      have := (hw.old b m).1
      rw [w.new b mw] at this; cases this
    have W := w.walks A hA.hh
    have hfr0 := hw.hfr
    have done : ∀ {f : Flow} {pf : PF} {σ' : Sg} {s₃ : Shared} {i : Nat}, StW (c.walk (wr ++ c.O) (fp ++ c.fp) (fun s => c.inv s ∧ Wt i s.heap)) σ' s₃ → StW c σ' s₃ := fun {f pf σ' s₃ i} hst => by
      have := walk_out (h' := s₃.heap) (tk := s₃.toks) hb hf hO (fun _ _ _ e => e) hst hfr0
      exact this
    refine codeAny_forLoop_any (fun k s => ∃ i σ', i + k = ds.length ∧ J i σ' ∧ StW (c.walk (wr ++ c.O) (fp ++ c.fp) (fun s => c.inv s ∧ Wt i s.heap)) σ' s) (fun k s₁ hI => ?_) ds.length ⟨0, σ, by omega, h0, walk_in hw w⟩
    obtain ⟨i, σ', hi, hJ, hst⟩ := hI
    by_cases hlt : i < ds.length
    · refine W.item i s₁ _ _ hlt hst.hold.2 fun v h' tk hP hW hk => ?_
      have hst' := walk_step (j := i + 1) (h' := h') (tk := tk) hb hf (w.live _ _ hW) hW hk hst hfr0 fun h₁ h₂ a b => W.frame _ _ _ a b
      obtain ⟨d, hd, cv⟩ := w.item i v hP hlt
      obtain ⟨ρ', hput, htr⟩ := hbody (wr ++ c.O) (fp ++ c.fp) (fun s => c.inv s ∧ Wt (i + 1) s.heap) i σ' d hd hJ
      show wpAny _ A (pure ()) _ _ _
      refine wpAny_pure (wpAny_assign_Name (stw_store hst' (X := .dat d) cv hput hkind fun s₂ hs₂ => ?_))
      refine wpAny_mono (htr.run A s₂ hA hs₂) (fun f s₃ ⟨pf, σ'', a, b, q⟩ => ?_) fun _ _ f => f.elim
      cases f <;> cases pf <;> first | exact b.elim | skip
      · exact ⟨k - 1, by omega, i + 1, σ'', by omega, q, a⟩
      · exact ⟨.next, σ'', done (f := .next) (pf := .next) a, trivial, q⟩
      · exact ⟨k - 1, by omega, i + 1, σ'', by omega, q, a⟩
      · exact ⟨.ret _, σ'', done (f := .next) (pf := .next) a, Rep.sub (fun b m => List.mem_append_right _ m) b, q⟩
    · have hi' : i = ds.length := by omega
      subst hi'
      refine W.done s₁ _ _ hst.hold.2 fun h' tk hk => ?_
      exact wpAny_execs_nil ⟨.next, σ', walk_out hb hf hO hk hst hfr0, trivial, hend σ' hJ⟩) hs
end
end Mine
end
section
open PySem PySem.W PyProof.Rows PySem.Calls PySem.SeqAt
set_option maxRecDepth 4000
namespace Mine
noncomputable def rangeD (a b c : Int) : List PyData := (List.range (Builtin.Range.rangeSize a b c).toNat).map fun (i : Nat) => .int (a + (i : Int) * c)
section
variable {c : Cx} {σ : Sg}
theorem list_flat {h : Heap} {a : Addr} {vs : Array Value} (p : h.PlainList a vs) : Flat1 h a := let ⟨n, e⟩ := p; ⟨_, e, nofun, nofun⟩
theorem flat_down {h h' : Heap} (k : Up h h') {b : Addr} (f : Flat1 h' b) : h.get? b = none ∨ Flat1 h b := by
  cases e : h.get? b with
  | none => exact .inl rfl
  | some o =>
    obtain ⟨o', ho, f⟩ := f
    rw [k b o e] at ho; cases ho
    exact .inr ⟨_, e, f⟩
theorem ite_list {e : Expr} {ds : List PyData} (h : Ev c σ e (.list ds)) : ItE c σ e ds := .mk fun A s Q E hA hs hQ => ev_of h hA hs fun v s₁ k r => by
  obtain ⟨a, vs, rfl, na, p, q⟩ := r
  have hn := carried_len q
  rw [Array.length_toList] at hn
  have hne : a ≠ s₁.heap.objs.size := fun z => by obtain ⟨n, e⟩ := p; rw [z, none_size] at e; cases e
  refine wpAny_pyIter_list p.isList (hQ _ s₁.heap.objs.size [s₁.heap.objs.size, a] [s₁.heap.objs.size] (fun i v => vs[i]? = some v) (fun i h => h.IsListIter s₁.heap.objs.size a i ∧ h.IsList a vs) ⟨k.trans (KK.heap' (up_push _)), fun A' hA' => by rw [← hn]; exact Walks.list hA' _ _ hne _, ⟨⟨_, Heap.get?_push_size _ rfl, rfl, rfl⟩, (plain_up (up_push _) p).isList⟩, fun b m => ?_, fun b m => ?_, fun i v e hi => ?_, fun i h st b m => ?_⟩)
  · rcases List.mem_cons.mp m with rfl | m
    · refine ⟨?_, (hs.up k).rdy.new, .inl (none_down k.up (none_size _))⟩
      rw [show (s₁.heap.push { cls := .type "list_iterator", data := .fields #[.ref a, .int 0 0] }).get? s₁.heap.objs.size = some _ from Heap.get?_push_size _ rfl]; rfl
    · rw [List.mem_singleton] at m; subst m
      refine ⟨?_, na, flat_down k.up (list_flat p)⟩
      obtain ⟨n, e⟩ := plain_up (up_push _) p
      rw [e]; rfl
  · rw [List.mem_singleton] at m; subst m
    exact none_down k.up (none_size _)
  · have : i < vs.size := by omega
    obtain ⟨w, hw, cw⟩ := carried_at q (n := i) (d := ds[i]) (by simp)
    rw [Array.getElem?_toList, e] at hw
    cases hw
    exact ⟨_, by simp, cw⟩
  · rw [List.mem_singleton] at m; subst m
    obtain ⟨⟨o, e, _⟩, _⟩ := st
    rw [e]; rfl
-- one new object that walks
theorem walk_one {s s₁ : Shared} {o : Obj} {ds : List PyData} {P : Nat → Value → Prop} {Wt : Nat → Heap → Prop} (hs : St c σ s) (k : KK c.q s s₁)
    (W : ∀ A' : Around, A'.handled = none → Walks c.Ω.prog c.Ω.w A' s₁.heap.objs.size [s₁.heap.objs.size] [s₁.heap.objs.size] ds.length P Wt) (h0 : Wt 0 (s₁.heap.push o)) (hl : ∀ i h, Wt i h → (h.get? s₁.heap.objs.size).isSome = true)
    (hi : ∀ i v, P i v → i < ds.length → ∃ d, ds[i]? = some d ∧ Carried v d) : WalkOk c (σ.all c) ds s { s₁ with heap := s₁.heap.push o } s₁.heap.objs.size [s₁.heap.objs.size] [s₁.heap.objs.size] P Wt where
  kk := k.trans (KK.heap' (up_push _))
  walks := W
  st := h0
  fpl := fun b m => by
    rw [List.mem_singleton] at m; subst m
    exact ⟨hl 0 _ h0, (hs.up k).rdy.new, .inl (none_down k.up (none_size _))⟩
  new := fun b m => by
    rw [List.mem_singleton] at m; subst m
    exact none_down k.up (none_size _)
  item := hi
  live := fun i h st b m => by
    rw [List.mem_singleton] at m; subst m
    exact hl i h st
noncomputable abbrev chars (l : List Nat) : List PyData := l.map fun n => .str (mk [n])
theorem chars_item {l : List Nat} {i : Nat} {v : Value} (h : SignAt (mk l) i v) (hi : i < (chars l).length) : ∃ d, (chars l)[i]? = some d ∧ Carried v d := by
  obtain ⟨n, u, e, rfl⟩ := h
  have e' : l[i]? = some n := by
    rw [← Array.getElem?_toList] at e; exact e
  refine ⟨.str (mk [n]), by simp [e'], .str _ _⟩
theorem ite_str {e : Expr} {l : List Nat} (h : Ev c σ e (pL l)) : ItE c σ e (chars l) := .mk fun A s Q E hA hs hQ => ev_of h hA hs fun v s₁ k r => by
  cases r
  rename_i t
  have hn : (mk l).cps.size = (chars l).length := by simp [mk]
  cases ha : (mk l).cps.all (· < 128) with
  | true =>
    refine wpAny_pyIter_ascii ha (hQ _ _ _ _ (SignAt (mk l)) (fun i h => h.IsStrIter s₁.heap.objs.size "str_ascii_iterator" (mk l) t i) (walk_one hs k (fun A' hA' => ?_) ⟨_, Heap.get?_push_size _ rfl, rfl, rfl⟩ (fun i h ⟨o, e, _⟩ => by rw [e]; rfl) fun i v h hi => chars_item h hi))
    rw [← hn]; exact Walks.strAscii hA' _ _ _
  | false =>
    refine wpAny_pyIter_wide ha (hQ _ _ _ _ (SignAt (mk l)) (fun i h => h.IsStrIter s₁.heap.objs.size "str_iterator" (mk l) t i) (walk_one hs k (fun A' hA' => ?_) ⟨_, Heap.get?_push_size _ rfl, rfl, rfl⟩ (fun i h ⟨o, e, _⟩ => by rw [e]; rfl) fun i v h hi => chars_item h hi))
    rw [← hn]; exact Walks.strWide hA' _ _ _
theorem ite_bytes {e : Expr} {b : Array UInt8} (h : Ev c σ e (.bytes b)) : ItE c σ e (b.toList.map fun x => .int x.toNat) := .mk fun A s Q E hA hs hQ => ev_of h hA hs fun v s₁ k r => by
  obtain ⟨t, rfl⟩ := r
  refine PySem.W.KBw.pyIter_bytes (hQ _ _ _ _ (fun i v => ∃ c u, b[i]? = some c ∧ v = .int (c.toNat : Int) u) (fun i h => PySem.W.KBw.IsBytesIter h s₁.heap.objs.size b t i) (walk_one hs k (fun A' hA' => ?_) ⟨_, Heap.get?_push_size _ rfl, rfl, rfl⟩ (fun i h ⟨o, e, _⟩ => by rw [e]; rfl) fun i v h hi => ?_))
  · have := PySem.W.KBw.walks (prog := c.Ω.prog) (w := c.Ω.w) hA' s₁.heap.objs.size b t
    simpa using this
  · obtain ⟨x, u, e, rfl⟩ := h
    exact ⟨_, by simp [e], .int _ _⟩
theorem small_ok {x y z : Int} (hx : -1000000 ≤ x) (hx' : x ≤ 1000000) (hy : -1000000 ≤ y) (hy' : y ≤ 1000000) (hz : 1 ≤ z) (hz' : z ≤ 1000000) : Builtin.Range.small x y z = true := by
  have h : Builtin.Range.rangeSize x y z ≤ 3000000 ∧ 0 ≤ Builtin.Range.rangeSize x y z := by
    unfold Builtin.Range.rangeSize
    rw [if_pos (by omega)]
    split
    · have h1 := Int.ediv_le_self z (show (0 : Int) ≤ y - x - 1 by omega)
      have h2 := Int.ediv_nonneg (a := y - x - 1) (b := z) (by omega) (by omega)
      omega
    · omega
  unfold Builtin.Range.small
  simp only [Builtin.Range.rangeFitsLong, Bool.and_eq_true, Bool.or_eq_true, decide_eq_true_eq, beq_iff_eq]
  refine ⟨⟨⟨⟨⟨by omega, by omega⟩, by omega, by omega⟩, by omega, by omega⟩, by omega, by omega⟩, .inr ?_⟩
  rw [if_pos (by omega)]
  simp
  omega
theorem small_nat {a n s : Nat} (ha : a ≤ 1000) (hn : n ≤ 1000) (h1 : 1 ≤ s) (h2 : s ≤ 1000) : Builtin.Range.small (a : Int) n s = true := small_ok (by omega) (by omega) (by omega) (by omega) (by omega) (by omega)
theorem ite_rng {e : Expr} {x y z : Int} (h : Ev c σ e (.rng x y z)) (hs : Builtin.Range.small x y z = true) : ItE c σ e (rangeD x y z) := .mk fun A s Q E hA hst hQ => ev_of h hA hst fun v s₁ k r => by
  obtain ⟨a, t, u, w, rfl, na, p⟩ := r
  have hpos : 0 ≤ Builtin.Range.rangeSize x y z := by
    unfold Builtin.Range.rangeSize
    split <;> split <;> first | omega | (have := Int.ediv_nonneg (a := y - x - 1) (b := z) (by omega) (by omega); omega) | (have := Int.ediv_nonneg (a := x - y - 1) (b := -z) (by omega) (by omega); omega)
  have hn : (rangeD x y z).length = (Builtin.Range.rangeSize x y z).toNat := by simp [rangeD]
  refine wpAny_pyIter_range p hs (hQ _ _ _ _ (fun i v => ∃ t, v = .int (x + (i : Int) * z) t) (fun i h => IsRangeIter h s₁.heap.objs.size (x + (i : Nat) * z) (((Builtin.Range.rangeSize x y z).toNat : Int) - (i : Nat)) z) (walk_one hst k (fun A' hA' => ?_) ?_ (fun i h e => by rw [show h.get? _ = some _ from e]; rfl) fun i v h hi => ?_))
  · rw [hn]; exact Walks.range hA' _ _ _ _
  · show Heap.get? _ _ = some _
    rw [Heap.get?_push_size _ rfl]
    simp [Int.toNat_of_nonneg hpos]
  · obtain ⟨t, rfl⟩ := h
    refine ⟨.int (x + (i : Int) * z), ?_, .int _ _⟩
    unfold rangeD
    rw [hn] at hi
    simp [hi]
end
section
variable {c : Cx} {O : List Addr}
theorem pr_range1 {n : Int} : Pr c O (tcall "range") [pI n] (.rng 0 n 1) := pr1 fun A s v hA ok r => by
  cases r; exact call_range_1 ⟨KK.heap (up_push _) _, _, _, _, _, rfl, ok.new, Heap.get?_push_size _ rfl⟩
theorem pr_range2 {a b : Int} : Pr c O (tcall "range") [pI a, pI b] (.rng a b 1) := pr2 fun A s v u hA ok r r₂ => by
  cases r; cases r₂; exact call_range_2 ⟨KK.heap (up_push _) _, _, _, _, _, rfl, ok.new, Heap.get?_push_size _ rfl⟩
theorem pr_range3 {a b z : Int} (hz : z ≠ 0) (hp : z.natAbs < 1073741824) : Pr c O (tcall "range") [pI a, pI b, pI z] (.rng a b z) := pr3 fun A s v u x hA ok r r₂ r₃ => by
  cases r; cases r₂; cases r₃; exact call_range_3 hz ⟨KK.heap (up_push _) _, _, _, _, _, rfl, ok.new, Heap.get?_push_size _ rfl⟩ (.inl (PyProof.noPylong_small hp))
end
section
variable {c : Cx} {σ : Sg} {Q : Post}
-- while test: body
theorem tr_while {test : Expr} {body rest : List Stmt} {pos : Pos} (J : Nat → Sg → Prop) (n : Nat) (h0 : J n σ)
    (hstep : ∀ n σ', J n σ' → ∃ b, EvB c σ' test b ∧ (b = true → Tr c σ' body (fun pf σ'' => match pf with
      | .next | .cont => ∃ m, m < n ∧ J m σ''
      | .brk => Tr c σ'' rest Q
      | .ret X => Q (.ret X) σ'')) ∧ (b = false → Tr c σ' rest Q)) : Tr c σ (.While test body [] pos :: rest) Q :=
  tr_cons fun A s hA hw => wpAny_While (codeAny_whileLoop (fun n s => ∃ σ', J n σ' ∧ StW c σ' s) (fun n s₁ hI => by
    obtain ⟨σ', hJ, hst⟩ := hI
    obtain ⟨b, hb, h1, h2⟩ := hstep n σ' hJ
    refine evb_of hb hA hst.toSt fun s₂ k => ?_
    cases b with
    | true =>
      refine wpAny_mono ((h1 rfl).run A s₂ hA (hst.up k)) (fun f s₃ ⟨pf, σ'', a, b, q⟩ => ?_) fun _ _ f => f.elim
      cases f <;> cases pf <;> first | exact b.elim | skip
      · obtain ⟨m, hm, hJ'⟩ := q; exact ⟨m, hm, σ'', hJ', a⟩
      · exact ⟨.next, σ'', a, trivial, q⟩
      · obtain ⟨m, hm, hJ'⟩ := q; exact ⟨m, hm, σ'', hJ', a⟩
      · exact ⟨.ret _, σ'', a, b, q⟩
    | false => exact wpAny_execs_nil ⟨.next, σ', hst.up k, trivial, h2 rfl⟩) n ⟨σ, h0, hw⟩)
end
end Mine
end
section
open PySem PySem.W PyProof.Rows PySem.Calls PySem.SeqAt
set_option maxRecDepth 4000
namespace Mine
-- the closure of a scope's free names
noncomputable def clo (cells : List (Str × Addr)) : List (Str × NameKind) → List (Str × Addr) → List (Str × Addr)
  | [], acc => acc
  | (n, k) :: r, acc => clo cells r (if k == .free then (n, (cells.lookup n).getD 0) :: acc else acc)
theorem closureFor_clo {scope : Scope} {env : Env} (h : ∀ p ∈ scope.names, p.2 = .free → (env.cells.lookup p.1).isSome = true) : closureFor scope env = pure (clo env.cells scope.names []) := by
  unfold closureFor
  have go : ∀ (l : List (Str × NameKind)) (acc : List (Str × Addr)), (∀ p ∈ l, p.2 = .free → (env.cells.lookup p.1).isSome = true) →
      (forIn l acc (fun (x : Str × NameKind) (r : List (Str × Addr)) => match x with
        | (name, kind) => if (kind == NameKind.free) = true then do let y ← cellOf env name; pure (ForInStep.yield ((name, y) :: r)) else pure (ForInStep.yield r)) : Sem (List (Str × Addr))) = pure (clo env.cells l acc) := by
    intro l
    induction l with
    | nil => intro acc _; rfl
    | cons p r ih =>
      intro acc hl
      obtain ⟨n, k⟩ := p
      rw [List.forIn_cons]
      by_cases hk : k = .free
      · subst hk
        obtain ⟨a, ha⟩ := Option.isSome_iff_exists.mp (hl (n, .free) (.head _) rfl)
        have ec : cellOf env n = pure a := by unfold cellOf; dsimp only at ha; rw [ha]
        show ((cellOf env n >>= fun y => pure (ForInStep.yield ((n, y) :: acc))) >>= _ : Sem _) = _
        rw [ec]
        show (forIn r ((n, a) :: acc) _ : Sem _) = _
        rw [ih _ fun p m => hl p (.tail _ m)]
        show _ = pure (clo env.cells r ((n, (env.cells.lookup n).getD 0) :: acc))
        dsimp only at ha
        rw [ha]; rfl
      · have hk' : (k == NameKind.free) = false := by simpa using hk
        have e1 : clo env.cells ((n, k) :: r) acc = clo env.cells r acc := by show clo env.cells r (if (k == NameKind.free) = true then _ else acc) = _; rw [hk']; rfl
        rw [e1]
        rw [← ih acc fun p m => hl p (.tail _ m)]
        show ((if (k == NameKind.free) = true then _ else pure (ForInStep.yield acc)) >>= _ : Sem _) = _
        rw [hk']
        rfl
  refine Eq.trans (b := ((pure (clo env.cells scope.names []) : Sem (List (Str × Addr))) >>= fun cs => pure cs)) ?_ rfl
  rw [← go scope.names [] h]
theorem clo_mem {cells : List (Str × Addr)} : ∀ {l : List (Str × NameKind)} {acc : List (Str × Addr)} {p : Str × Addr}, p ∈ clo cells l acc → p ∈ acc ∨ ((p.1, .free) ∈ l ∧ p.2 = (cells.lookup p.1).getD 0)
  | [], acc, p, h => .inl h
  | (n, k) :: r, acc, p, h => by
    unfold clo at h
    rcases clo_mem h with h1 | ⟨h1, e⟩
    · by_cases hk : k = .free
      · subst hk
        rcases List.mem_cons.mp h1 with rfl | h2
        · exact .inr ⟨.head _, rfl⟩
        · exact .inl h2
      · have hk' : (k == NameKind.free) = false := by simpa using hk
        rw [hk'] at h1
        exact .inl h1
    · exact .inr ⟨.tail _ h1, e⟩
theorem clo_has {cells : List (Str × Addr)} : ∀ {l : List (Str × NameKind)} {acc : List (Str × Addr)} {n : Str}, (n, .free) ∈ l ∨ n ∈ acc.map (·.1) → n ∈ (clo cells l acc).map (·.1)
  | [], acc, n, h => h.elim (fun h => nomatch h) id
  | (m, k) :: r, acc, n, h => by
    unfold clo
    refine clo_has ?_
    rcases h with h | h
    · rcases List.mem_cons.mp h with e | h
      · cases e; exact .inr (by simp)
      · exact .inl h
    · refine .inr ?_
      split
      · exact .tail _ h
      · exact h
theorem clo_lookup {cells : List (Str × Addr)} {l : List (Str × NameKind)} {n : Str} {a : Addr} (h : (n, NameKind.free) ∈ l) (ha : cells.lookup n = some a) : (clo cells l []).lookup n = some a := by
  obtain ⟨b, e⟩ : ∃ b, (clo cells l []).lookup n = some b := by
    have := clo_has (cells := cells) (acc := []) (.inl h)
    obtain ⟨⟨m, b⟩, hm, e⟩ := List.mem_map.mp this
    dsimp only at e
    subst e
    cases e2 : (clo cells l []).lookup m with
    | some b => exact ⟨b, rfl⟩
    | none => have := List.lookup_eq_none_iff.mp e2 _ hm; simp at this
  rcases clo_mem (mem_of_lookup e) with m | ⟨_, e2⟩
  · cases m
  · dsimp only at e2
    rw [ha] at e2
    rw [e, e2]; rfl
theorem clo_back {cells : List (Str × Addr)} {l : List (Str × NameKind)} {n : Str} {a : Addr} (e : (clo cells l []).lookup n = some a) (h : ∀ p ∈ l, p.2 = .free → (cells.lookup p.1).isSome = true) : cells.lookup n = some a := by
  rcases clo_mem (mem_of_lookup e) with m | ⟨m, e2⟩
  · cases m
  · dsimp only at m e2
    obtain ⟨b, hb⟩ := Option.isSome_iff_exists.mp (h _ m rfl)
    dsimp only at hb
    rw [hb] at e2 ⊢
    rw [e2]; rfl
-- the kinds of names in a comprehension
noncomputable def cnm (l : List (Str × NameKind)) : List (Str × NameKind) := l.map fun (n, k) => if k == .free then (n, .cell) else (n, k)
theorem relabel_cnm {scope : Scope} {env : Env} (hk : env.scope.kind = .function) (h : ∀ p ∈ scope.names, p.2 = .free → env.kindOf p.1 = some .cell) : (relabel scope env).names = cnm scope.names := by
  unfold relabel cnm
  refine List.map_congr_left fun p m => ?_
  obtain ⟨n, k⟩ := p
  dsimp only
  by_cases e : k = .free
  · subst e
    have := h (n, .free) m rfl
    dsimp only at this
    rw [hk, this]; rfl
  · have e' : (k == NameKind.free) = false := by simpa using e
    rw [e']; rfl
inductive AllAt (ns : List Str) (ρ : List PV) : List Str → List PV → Prop
  | nil : AllAt ns ρ [] []
  | cons {y : Str} {Y : PV} {fv : List Str} {Ys : List PV} : At ns ρ y Y → AllAt ns ρ fv Ys → AllAt ns ρ (y :: fv) (Y :: Ys)
theorem AllAt.at {ns : List Str} {ρ : List PV} {fv : List Str} {Xs : List PV} (h : AllAt ns ρ fv Xs) {y : Str} {Y : PV} (a : At fv Xs y Y) : At ns ρ y Y := by
  induction h with
  | nil => cases a
  | cons h _ ih => cases a with
    | here => exact h
    | there a => exact ih a
inductive Tests (c : Cx) (σ : Sg) : List Expr → Bool → Prop
  | nil : Tests c σ [] true
  | one {t : Expr} {b : Bool} : EvB c σ t b → Tests c σ [t] b
noncomputable def compOk (names : List (Str × NameKind)) (x : Str) (fv : List Str) (nm : List (Str × NameKind)) : Bool :=
  (names.all fun p => p.2 != .cell) && (names.all fun p => p.2 != .local || names.lookup p.1 == some .local) && names.lookup x == some .local && (fv.all fun y => names.lookup y == some .free) && names.all fun p => p.2 != .free || nm.lookup p.1 == some .cell
theorem cnm_lookup : ∀ {l : List (Str × NameKind)} {x : Str} {k : NameKind}, l.lookup x = some k → (cnm l).lookup x = some (if k == .free then .cell else k)
  | (n, j) :: r, x, k, h => by
    unfold cnm
    rw [List.map_cons]
    by_cases e : x == n
    · rw [List.lookup_cons, e] at h
      cases h
      dsimp only
      split <;> simp [List.lookup_cons, e]
    · have e' : (x == n) = false := by simpa using e
      rw [List.lookup_cons, e'] at h
      have := cnm_lookup h
      dsimp only
      split <;> (simp only [List.lookup_cons, e']; exact this)
theorem lookup_mem {α : Type} {l : List (Str × α)} {x : Str} {k : α} (h : l.lookup x = some k) : (x, k) ∈ l := mem_of_lookup h
noncomputable abbrev compCx (c : Cx) (names : List (Str × NameKind)) (x : Str) (fv : List Str) (env : Env) (b : Shared) (O : List Addr) : Cx := ⟨c.Ω, true, c.d, cnm names, x :: fv, env, b, O, [], fun _ => True⟩
section
variable {c : Cx} {σ : Sg}
theorem comp_st {scope : Scope} {x : Str} {fv : List Str} {Xs : List PV} {d : PyData} {s s₃ : Shared} {C : Addr} {m₃ : Str → Option Value} {v : Value} (hk : scope.kind = .function) (hok : compOk scope.names x fv c.nm = true) (hat : AllAt c.ns σ.ρ fv Xs)
    (hs : St c σ s) (u : Up s.heap s₃.heap) (hC : ∀ b, (s.heap.get? b).isSome = true → b ≠ C) (hn : s₃.heap.Ns C m₃) (hm : m₃ x = some v) (hv : Carried v d) :
    St (compCx c scope.names x fv (compEnvC scope (clo c.env.cells scope.names []) C c.env) s₃ (σ.all c)) ⟨.dat d :: Xs, []⟩ s₃ := by
  unfold compOk at hok
  simp only [Bool.and_eq_true, List.all_eq_true, Bool.or_eq_true, bne_iff_ne, beq_iff_eq] at hok
  obtain ⟨⟨⟨⟨h1, h2⟩, h3⟩, h4⟩, h5⟩ := hok
  have hcell : ∀ p ∈ scope.names, p.2 = .free → c.env.kindOf p.1 = some .cell := fun p m e => by
    rcases h5 p m with h | h
    · exact (h e).elim
    · exact hs.eo.kinds _ _ h (by decide)
  have hcs : ∀ p ∈ scope.names, p.2 = .free → (c.env.cells.lookup p.1).isSome = true := fun p m e => by
    rcases h5 p m with h | h
    · exact (h e).elim
    · exact hs.eo.cels _ h
  have hnames : (compEnvC scope (clo c.env.cells scope.names []) C c.env).scope.names = cnm scope.names := relabel_cnm hs.eo.kind hcell
  have hkind : ∀ y, (compEnvC scope (clo c.env.cells scope.names []) C c.env).kindOf y = (cnm scope.names).lookup y := fun y => by show List.lookup y (Scope.names _) = _; rw [hnames]
  have away : ∀ b ∈ σ.all c, ∀ y k, c.env.cells.lookup y = some k → b ≠ k := fun b m => by
    rcases List.mem_append.mp m with m | m
    · obtain ⟨⟨a, w⟩, ma, e⟩ := List.mem_map.mp m
      subst e
      exact (hs.own a w ma).2.2.2
    · exact (hs.old b m).2.2.2
  refine ⟨⟨hk, hnames, hs.eo.glob, hs.eo.blt, fun y k e _ => (hkind y).trans e, fun y e => ?_⟩, KK.refl _ _, c.Ω.keeps _ _ hs.ok u, fun y Y a nn => ?_, fun a w m => (nomatch m), List.nodup_nil, fun b m => ?_, trivial, fun _ _ _ _ _ => trivial, fun b m => (nomatch m)⟩
  · have m := lookup_mem e
    unfold cnm at m
    obtain ⟨⟨n, k⟩, mp, e2⟩ := List.mem_map.mp m
    dsimp only at e2
    by_cases ek : k = .free
    · subst ek
      cases e2
      obtain ⟨a, ha⟩ := Option.isSome_iff_exists.mp (hcs _ mp rfl)
      show (List.lookup _ (clo c.env.cells scope.names [])).isSome = true
      rw [clo_lookup mp ha]; rfl
    · have ek' : (k == NameKind.free) = false := by simpa using ek
      rw [ek'] at e2
      cases e2
      exact (h1 _ mp rfl).elim
  · cases a with
    | here => exact ⟨v, .inl ⟨(hkind x).trans (cnm_lookup h3), m₃, hn, hm⟩, hv⟩
    | there a =>
      obtain ⟨w, hw, r⟩ := hs.vars y Y (hat.at a) (by assumption)
      have hf := h4 y a.mem
      have hmem := lookup_mem hf
      have hkc := hcell _ hmem rfl
      dsimp only at hkc
      refine ⟨w, .inr ⟨.inl ((hkind y).trans (cnm_lookup hf)), ?_⟩, r.up u⟩
      rcases hw with ⟨q, _⟩ | ⟨_, k, e, hc⟩
      · rw [hkc] at q; cases q
      · exact ⟨k, clo_lookup hmem e, hc.keeps u⟩
  · have hb : b ∈ σ.all c := m
    exact ⟨isSome_up u (hs.live b hb), nofun, hC b (hs.live b hb), fun y k e => away b hb y k (clo_back e hcs)⟩
theorem paired_comp {ds : List PyData} {vs ys : List Value} {pd : PyData → Bool} {f : PyData → PyData} (h : CarriedAll vs ds) (p : Paired (fun v y => Carried y (f (datVal v))) (vs.filter fun v => pd (datVal v)) ys) : CarriedAll ys ((ds.filter pd).map f) := by
  induction h generalizing ys with
  | nil => cases p; exact .nil
  | cons k h ih =>
    rename_i v d vs ds
    have e : datVal v = d := carried_val k
    rw [List.filter_cons] at p
    rw [List.filter_cons]
    rw [e] at p
    split at p
    · rename_i hp
      rw [if_pos hp]
      cases p with | cons a p =>
      rw [e] at a
      exact .cons a (ih p)
    · rename_i hp
      rw [if_neg hp]
      exact ih p
theorem carried_of {ds : List PyData} : ∀ {vs : List Value}, vs.length = ds.length → (∀ (j : Nat) (v : Value), vs[j]? = some v → ∃ d, ds[j]? = some d ∧ Carried v d) → CarriedAll vs ds := by
  induction ds with
  | nil => intro vs hl _; cases vs with
    | nil => exact .nil
    | cons => cases hl
  | cons d ds ih => intro vs hl h; cases vs with
    | nil => cases hl
    | cons v vs =>
      obtain ⟨d', e, cv⟩ := h 0 v rfl
      cases e
      exact .cons cv (ih (by simpa using hl) fun j w e => h (j + 1) w e)
-- [elt for x in iter if tests]
theorem comp_quiet {elt : Expr} {x : Str} {ifs : List Expr} {scope : Scope} {ds : List PyData} {fv : List Str} {Xs : List PV} (pd : PyData → Bool) (f : PyData → PyData)
    (hk : scope.kind = .function) (hok : compOk scope.names x fv c.nm = true) (hat : AllAt c.ns σ.ρ fv Xs)
    (htest : ∀ env b O, ∀ d ∈ ds, Tests (compCx c scope.names x fv env b O) ⟨.dat d :: Xs, []⟩ ifs (pd d))
    (helt : ∀ env b O, ∀ d ∈ ds, pd d = true → Ev (compCx c scope.names x fv env b O) ⟨.dat d :: Xs, []⟩ elt (.dat (f d)))
    {A : Around} {s s' : Shared} {I : Addr} {fp wr : List Addr} {P : Nat → Value → Prop} {Wt : Nat → Heap → Prop} (hA : AOk c.d A) (hs : St c σ s) (w : WalkOk c (σ.all c) ds s s' I fp wr P Wt) :
    QuietOnC c.Ω.prog c.Ω.w A c.env scope (clo c.env.cells scope.names []) x ifs elt wr (fun i v => P i v ∧ i < ds.length) (fun v => pd (datVal v)) (fun v y => Carried y (f (datVal v))) s' where
  tests := fun C i v s₃ m₃ E' hC hP hn hm hkp _ => by
    have u : Up s.heap s₃.heap := fun b o e => hkp b o (fun m => by rw [w.new b m] at e; cases e) (w.kk.up b o e)
    obtain ⟨d, hd, cv⟩ := w.item i v hP.1 hP.2
    have hd' : d ∈ ds := List.mem_of_getElem? hd
    have st := comp_st (C := C) hk hok hat hs u (fun b e z => by
      obtain ⟨o, e⟩ := Option.isSome_iff_exists.mp (isSome_up w.kk.up e)
      subst z
      exact Nat.lt_irrefl _ (Nat.lt_of_lt_of_le (Heap.lt_size e) hC)) hn hm cv
    have ht := htest (compEnvC scope (clo c.env.cells scope.names []) C c.env) s₃ (σ.all c) d hd'
    rw [carried_val cv]
    generalize pd d = pb at ht ⊢
    cases ht with
    | nil => exact wpAny_pure ⟨rfl, s₃.heap, s₃.toks, rfl, fun _ _ e => e⟩
    | one hb =>
      rw [List.forIn_cons]
      refine wpAny_bind ?_
      rw [if_pos rfl]
      refine wpAny_bind (evb_of hb hA st fun s₄ k => ?_)
      refine wpAny_pure ?_
      exact wpAny_pure ⟨rfl, k.keeps⟩
  elt := fun C i v s₃ m₃ E' hC hP hp hn hm hkp _ => by
    have u : Up s.heap s₃.heap := fun b o e => hkp b o (fun m => by rw [w.new b m] at e; cases e) (w.kk.up b o e)
    obtain ⟨d, hd, cv⟩ := w.item i v hP.1 hP.2
    have hd' : d ∈ ds := List.mem_of_getElem? hd
    have st := comp_st (C := C) hk hok hat hs u (fun b e z => by
      obtain ⟨o, e⟩ := Option.isSome_iff_exists.mp (isSome_up w.kk.up e)
      subst z
      exact Nat.lt_irrefl _ (Nat.lt_of_lt_of_le (Heap.lt_size e) hC)) hn hm cv
    have hp' : pd d = true := by rw [← carried_val cv]; exact hp
    refine ev_of (helt _ s₃ (σ.all c) d hd' hp') hA st fun y s₄ k r => ?_
    exact ⟨by rw [carried_val cv]; exact r, k.keeps⟩
theorem walks_lt {prog : Program} {w : World} {A : Around} {I : Addr} {fp wr : List Addr} {n : Nat} {P : Nat → Value → Prop} {St : Nat → Heap → Prop} (W : Walks prog w A I fp wr n P St) : Walks prog w A I fp wr n (fun i v => P i v ∧ i < n) St where
  sub := W.sub
  frame := W.frame
  item := fun i s Q E hi st hQ => W.item i s Q E hi st fun v h' tk hP hS hk => hQ v h' tk ⟨hP, hi⟩ hS hk
  done := W.done
  self := W.self
theorem names_local {scope : Scope} {x : Str} {fv : List Str} {nm : List (Str × NameKind)} (hok : compOk scope.names x fv nm = true) : (∀ y ∈ scope.names, y.2 ≠ .cell) ∧ (∀ y ∈ scope.names, y.2 = .local → scope.names.lookup y.1 = some .local) ∧ scope.names.lookup x = some .local ∧ ∀ p ∈ scope.names, p.2 = .free → nm.lookup p.1 = some .cell := by
  unfold compOk at hok
  simp only [Bool.and_eq_true, List.all_eq_true, Bool.or_eq_true, bne_iff_ne, beq_iff_eq] at hok
  obtain ⟨⟨⟨⟨h1, h2⟩, h3⟩, h4⟩, h5⟩ := hok
  exact ⟨h1, fun y m e => (h2 y m).elim (fun h => (h e).elim) id, h3, fun y m e => (h5 y m).elim (fun h => (h e).elim) id⟩
theorem evn_comp {elt iter : Expr} {x : Str} {px pos : Pos} {ifs : List Expr} {scope : Scope} {ds : List PyData} {fv : List Str} {Xs : List PV} (pd : PyData → Bool) (f : PyData → PyData) (hit : ItE c σ iter ds) (hlen : ds.length ≤ 1000000)
    (hk : scope.kind = .function) (hok : compOk scope.names x fv c.nm = true) (hat : AllAt c.ns σ.ρ fv Xs)
    (htest : ∀ env b O, ∀ d ∈ ds, Tests (compCx c scope.names x fv env b O) ⟨.dat d :: Xs, []⟩ ifs (pd d))
    (helt : ∀ env b O, ∀ d ∈ ds, pd d = true → Ev (compCx c scope.names x fv env b O) ⟨.dat d :: Xs, []⟩ elt (.dat (f d)))
    (hs : ∀ v, foldedSetIterable iter c.env v = pure v := by intro _; rfl) : EvN c σ (.ListComp elt [⟨.Name x px, iter, ifs, 0⟩] scope pos) ((ds.filter pd).map f) := .mk fun A s hA hst => by
  obtain ⟨h1, h2, h3, h4⟩ := names_local hok
  refine wpAny_ListComp_free (cl := clo c.env.cells scope.names []) (fun v => pd (datVal v)) (fun v y => Carried y (f (datVal v))) (closureFor_clo fun p m e => hst.eo.cels _ (h4 p m e)) h1 hk h2 h3 ?_ hs
  refine hit.run A s _ _ hA hst fun s' I fp wr P Wt w => ⟨I, fp, wr, ds.length, fun i v => P i v ∧ i < ds.length, Wt, rfl, walks_lt (w.walks A hA.hh), big_size hlen, w.st, fun b m => ?_, comp_quiet pd f hk hok hat htest helt hA hst w, ?_⟩
  · obtain ⟨o, e⟩ := Option.isSome_iff_exists.mp (w.fpl b m).1
    exact Heap.lt_size e
  · intro D h' tk ys vs hD _ hpl hlen' hP hF hkp
    have hv : CarriedAll vs ds := carried_of hlen' fun j v e => w.item j v (hP j v e).1 (hP j v e).2
    refine ⟨?_, D, ys, rfl, none_down w.kk.up hD, hpl, paired_comp hv hF⟩
    obtain ⟨h₁, tk₁, gs, es, u, g⟩ := w.kk
    subst es
    exact ⟨h', tk, gs, rfl, fun b o e => hkp b o (fun m => by rw [w.new b m] at e; cases e) (u b o e), g⟩
end
end Mine
end
section
open PySem PySem.W PyProof.Rows PySem.Calls PySem.SeqAt
set_option maxRecDepth 4000
namespace Mine
section
variable {c : Cx} {σ : Sg} {Q : Post}
theorem stored {x : Str} (h : (c.nm.lookup x == some .local || c.nm.lookup x == some .cell) = true) : c.nm.lookup x = some .local ∨ c.nm.lookup x = some .cell := by
  simpa using h
-- the frame's store of a new list, done by the comprehension itself
theorem stw_swap {s s' : Shared} {x : Str} {D : Addr} {vs : Array Value} {ds : List PyData} {ρ' : List PV} {m : Str → Option Value} (h : StW c σ s) (hx : c.nm.lookup x = some .local) (hm : s.heap.Ns c.env.locals m)
    (hk : ∃ h' tk gs, s' = { s with heap := h', toks := tk, gens := gs } ∧ GensOk c.q s.gens gs) (he : ∀ b o, b ≠ c.env.locals → s.heap.get? b = some o → s'.heap.get? b = some o)
    (hn : s'.heap.Ns c.env.locals (fun z => if z = x then some (.ref D) else m z)) (hD : s.heap.get? D = none) (hp : s'.heap.PlainList D vs) (hc : CarriedAll vs.toList ds) (hput : Put c.ns σ.ρ x (.val (.ref D)) ρ') :
    StW c ⟨ρ', (D, .lst ds) :: σ.own⟩ s' := by
  obtain ⟨h', tk, gs, rfl, g⟩ := hk
  have hkind := h.eo.kinds _ _ hx (by decide)
  have nl := ns_no_list hm
  have hb : Heap.ExtBut c.env.locals s.heap h' := fun b o ne e => he b o ne e
  have hl : ∀ b, b ≠ c.env.locals → (s.heap.get? b).isSome = true → (h'.get? b).isSome = true := fun b ne e => by
    obtain ⟨o, e⟩ := Option.isSome_iff_exists.mp e
    rw [hb b o ne e]; rfl
  have live : ∀ b, (s.heap.get? b).isSome = true → b ≠ D := fun b e z => by subst z; rw [hD] at e; cases e
  obtain ⟨h₁, tk₁, gs₁, es, u, g₁⟩ := h.kk
  have hbD : c.b.heap.get? D = none := none_down h.kk.up hD
  refine StW.mk ⟨h.eo, ⟨h', tk, gs, by rw [es], fun b o e => hb b o (fun z => by rw [z, h.loc.2] at e; cases e) (h.kk.up b o e), h.kk.gens.trans g⟩, h.wd, fun y Y e n => ?_, fun a v ma => ?_, ?_, fun b mb => ?_, h.hfr _ _ h.hold (fun b mb o e => hb b o (h.fpl b mb).2.2.1 e) g.2.1, h.hfr, fun b mb => ?_⟩ h.nsn
    ⟨⟨_, hn⟩, h.loc.2⟩ (fun y k e => ⟨?_, (h.cel y k e).2⟩) h.apart
  · rcases hput.at h.nsn e with ⟨rfl, rfl⟩ | ⟨hy, e⟩
    · exact ⟨.ref D, .inl ⟨hkind, _, hn, by simp⟩, rfl⟩
    · obtain ⟨v, hv, r⟩ := h.vars y Y e n
      refine ⟨v, ?_, ((r.more hD).but hb (.inr nl))⟩
      rcases hv with ⟨q, m', hm', e'⟩ | ⟨q, k, e', ⟨o, ho, hd⟩⟩
      · cases ns_unique hm hm'
        exact .inl ⟨q, _, hn, by simp [hy, e']⟩
      · exact .inr ⟨q, k, e', o, hb _ _ (cell_ne_ns ⟨o, ho, hd⟩ hm) ho, hd⟩
  · rcases List.mem_cons.mp ma with e | ma
    · cases e
      refine ⟨⟨vs, hp, hc⟩, hbD, fun z => ?_, fun y k e z => ?_⟩
      · obtain ⟨o, es, ep, ho, _⟩ := hm
        rw [← z, hD] at ho; cases ho
      · obtain ⟨_, o, ho, _⟩ := (h.cel y k e).1
        rw [← z, hD] at ho; cases ho
    · obtain ⟨p, q⟩ := h.own a v ma
      exact ⟨(p.more hD).but hb (.inr nl.1) q.2.1, q⟩
  · refine List.nodup_cons.mpr ⟨fun mm => ?_, h.nodup⟩
    obtain ⟨⟨b, w⟩, mb, e⟩ := List.mem_map.mp mm
    exact live b (h.own b w mb).1.live e
  · refine ⟨hl b (h.old b mb).2.2.1 (h.old b mb).1, fun e => ?_, (h.old b mb).2.2⟩
    rcases List.mem_cons.mp e with e | e
    · exact live b (h.old b mb).1 e
    · exact (h.old b mb).2.1 e
  · refine ⟨hl b (h.fpl b mb).2.2.1 (h.fpl b mb).1, fun e => ?_, (h.fpl b mb).2.2⟩
    rcases List.mem_cons.mp e with e | e
    · exact live b (h.fpl b mb).1 e
    · exact (h.fpl b mb).2.1 e
  · obtain ⟨v, o, ho, hd⟩ := (h.cel y k e).1
    exact ⟨v, o, hb _ _ (cell_ne_ns ⟨o, ho, hd⟩ hm) ho, hd⟩
theorem swaps_true {elt : Expr} {gens : List Comprehension} {scope : Scope} {x : Str} {p pos : Pos} {line : Nat} {env : Env} (hk : env.scope.kind = .function) (hx : env.kindOf x = some .local) (hl : (p.line == pos.line) = true) (hs : (scope.names.any fun (n, k) => n == x && (k == .local || k == .cell)) = false) :
    swapsWith (.ListComp elt gens scope pos) (some (.Name x p)) line env = pure true := by
  have e1 : env.blockKind = .function := by unfold Env.blockKind; rw [hk]; rfl
  show (pure (env.blockKind == .function && env.kindOf x == some .local && p.line == pos.line && !(scope.names.any fun (n, k) => n == x && (k == .local || k == .cell))) : Sem Bool) = pure true
  rw [e1, hx, hl, hs]; rfl
theorem swaps_cell {elt : Expr} {gens : List Comprehension} {scope : Scope} {x : Str} {p pos : Pos} {line : Nat} {env : Env} (hx : env.kindOf x = some .cell) :
    swapsWith (.ListComp elt gens scope pos) (some (.Name x p)) line env = pure false := by
  show (pure (env.blockKind == .function && env.kindOf x == some .local && p.line == pos.line && !(scope.names.any fun (n, k) => n == x && (k == .local || k == .cell))) : Sem Bool) = pure false
  rw [hx]
  have : ((some NameKind.cell : Option NameKind) == some .local) = false := by decide
  rw [this, Bool.and_false]; rfl
-- x := a comprehension, x a plain local
theorem tr_own_comp {elt iter : Expr} {x y : Str} {px py pos spos : Pos} {ifs : List Expr} {scope : Scope} {ds : List PyData} {fv : List Str} {Xs : List PV} {rest : List Stmt} {ρ' : Addr → List PV} (pd : PyData → Bool) (f : PyData → PyData)
    (hit : ItE c σ iter ds) (hlen : ds.length ≤ 1000000) (hy : c.nm.lookup y = some .local) (hl : (py.line == pos.line) = true) (hsn : (scope.names.any fun (n, k) => n == y && (k == .local || k == .cell)) = false)
    (hk : scope.kind = .function) (hok : compOk scope.names x fv c.nm = true) (hat : AllAt c.ns σ.ρ fv Xs)
    (htest : ∀ env b O, ∀ d ∈ ds, Tests (compCx c scope.names x fv env b O) ⟨.dat d :: Xs, []⟩ ifs (pd d))
    (helt : ∀ env b O, ∀ d ∈ ds, pd d = true → Ev (compCx c scope.names x fv env b O) ⟨.dat d :: Xs, []⟩ elt (.dat (f d)))
    (hp : ∀ a, Put c.ns σ.ρ y (.val (.ref a)) (ρ' a)) (ht : ∀ a, Tr c ⟨ρ' a, (a, .lst ((ds.filter pd).map f)) :: σ.own⟩ rest Q)
    (hs : ∀ v, foldedSetIterable iter c.env v = pure v := by intro _; rfl) : Tr c σ (.Assign [.Name y py] (.ListComp elt [⟨.Name x px, iter, ifs, 0⟩] scope pos) spos :: rest) Q :=
  tr_cons fun A s hA hw => by
    obtain ⟨h1, h2, h3, h4⟩ := names_local hok
    have hst := hw.toSt
    have hyk := hst.eo.kinds _ _ hy (by decide)
    refine wpAny_Assign_ListComp_free (cl := clo c.env.cells scope.names []) (fun v => pd (datVal v)) (fun v y => Carried y (f (datVal v))) (swaps_true hst.eo.kind hyk hl hsn) (closureFor_clo fun p m e => hst.eo.cels _ (h4 p m e)) h1 hk h2 h3 hyk (by rw [hst.eo.kind]; rfl) ?_ hs
    obtain ⟨m, hm⟩ := hw.loc.1
    refine hit.run A s _ _ hA hst fun s' I fp wr P Wt w => ⟨I, fp, wr, ds.length, fun i v => P i v ∧ i < ds.length, Wt, m, rfl, walks_lt (w.walks A hA.hh), big_size hlen, w.st, fun b m => ?_, fun ml => ?_, hm.keeps w.kk.up, comp_quiet pd f hk hok hat htest helt hA hst w, ?_⟩
    · obtain ⟨o, e⟩ := Option.isSome_iff_exists.mp (w.fpl b m).1
      exact Heap.lt_size e
    · obtain ⟨o, es, ep, ho, _⟩ := hm
      rw [w.new _ ml] at ho; cases ho
    · intro D h' tk ys vs hD _ hpl hlen' hP hF hn hkp
      have hv : CarriedAll vs ds := carried_of hlen' fun j v e => w.item j v (hP j v e).1 (hP j v e).2
      obtain ⟨h₁, tk₁, gs, es, u, g⟩ := w.kk
      refine ⟨.next, _, stw_swap hw hy hm ⟨h', tk, gs, by rw [es], g⟩ (fun b o ne e => hkp b o ne (fun m => by rw [w.new b m] at e; cases e) (w.kk.up b o e)) hn (none_down w.kk.up hD) hpl (paired_comp hv hF) (hp D), trivial, ht D⟩
-- x := a value, x a cell that a comprehension sees
theorem tr_assign' {x : Str} {e : Expr} {X : PV} {p pos : Pos} {rest : List Stmt} {ρ' : List PV} (h : Ev c σ e X) (hp : Put c.ns σ.ρ x X ρ') (hk : (c.nm.lookup x == some .local || c.nm.lookup x == some .cell) = true)
    (hs : EnvOk c.env c.nm → swapsWith e (some (.Name x p)) pos.line c.env = pure false) (ht : Tr c ⟨ρ', σ.own⟩ rest Q) : Tr c σ (.Assign [.Name x p] e pos :: rest) Q :=
  tr_cons fun A s hA hw => wpAny_Assign_Name (ev_of h hA hw.toSt fun v s' k r => stw_store (hw.up k) r hp (stored hk) fun s'' hs'' => ⟨.next, _, hs'', trivial, ht⟩) (hs hw.eo)
theorem tr_set {x : Str} {e : Expr} {X : PV} {p pos : Pos} {rest : List Stmt} {ρ' : List PV} (h : Ev c σ e X) (hp : Put c.ns σ.ρ x X ρ') (ht : Tr c ⟨ρ', σ.own⟩ rest Q)
    (hk : (c.nm.lookup x == some .local || c.nm.lookup x == some .cell) = true := by kernel_rfl) (hs : swapsWith e (some (.Name x p)) pos.line c.env = pure false := by rfl) : Tr c σ (.Assign [.Name x p] e pos :: rest) Q := tr_assign h hp (stored hk) hs ht
theorem tr_setc {x : Str} {elt : Expr} {gens : List Comprehension} {scope : Scope} {X : PV} {p pos spos : Pos} {rest : List Stmt} {ρ' : List PV} (h : Ev c σ (.ListComp elt gens scope pos) X) (hp : Put c.ns σ.ρ x X ρ') (ht : Tr c ⟨ρ', σ.own⟩ rest Q)
    (hk : c.nm.lookup x = some .cell := by kernel_rfl) : Tr c σ (.Assign [.Name x p] (.ListComp elt gens scope pos) spos :: rest) Q :=
  tr_assign' h hp (by rw [hk]; rfl) (fun eo => swaps_cell (eo.kinds _ _ hk (by decide))) ht
end
end Mine
end
section
open PySem PySem.W PyProof.Rows PySem.Calls PySem.SeqAt
set_option maxRecDepth 4000
namespace Mine
-- several stores, one after another
inductive Puts (ns : List Str) : List PV → List (Str × PyData) → List PV → Prop
  | nil {ρ : List PV} : Puts ns ρ [] ρ
  | cons {ρ ρ₁ ρ' : List PV} {x : Str} {d : PyData} {r : List (Str × PyData)} : Put ns ρ x (.dat d) ρ₁ → Puts ns ρ₁ r ρ' → Puts ns ρ ((x, d) :: r) ρ'
section
variable {c : Cx} {σ : Sg} {Q : Post}
theorem stw_puts {A : Around} {E : Value → Shared → Prop} : ∀ {xs : List Str} {ds : List PyData} {vs : List Value} {ρ ρ' : List PV} {own : List (Addr × OV)} {s : Shared} {ts : List (Value → Sem Unit)}, StW c ⟨ρ, own⟩ s → CarriedAll vs ds → Puts c.ns ρ (xs.zip ds) ρ' → xs.length = ds.length →
    (∀ x ∈ xs, (c.nm.lookup x == some .local || c.nm.lookup x == some .cell) = true) → ts.length = xs.length → (∀ i (h1 : i < xs.length) (h2 : i < ts.length) v s (Q : Unit → Shared → Prop), wpAny c.M A (storeName c.env xs[i] v) Q E s → wpAny c.M A (ts[i] v) Q E s) →
    ∀ {Q : Unit → Shared → Prop}, (∀ s', StW c ⟨ρ', own⟩ s' → Q () s') → wpAny c.M A (assignInOrder ts vs) Q E s := by
  intro xs
  induction xs with
  | nil =>
    intro ds vs ρ ρ' own s ts hw hc hp hl hk hts hst Q hQ
    cases ts with
    | cons => cases hts
    | nil =>
      cases hp
      cases vs with
      | nil => exact wpAny_pure (hQ s hw)
      | cons v vs => exact wpAny_pure (hQ s hw)
  | cons x xs ih =>
    intro ds vs ρ ρ' own s ts hw hc hp hl hk hts hst Q hQ
    cases ts with
    | nil => cases hts
    | cons t ts =>
      cases ds with
      | nil => cases hl
      | cons d ds =>
        cases hc with | cons cv hc =>
        cases hp with | cons p hp =>
        refine wpAny_assignInOrder_more (hst 0 (by simp) (by simp) _ s _ ?_)
        refine stw_store (c := c) (σ := ⟨_, own⟩) hw (X := .dat d) cv p (stored (hk x (.head _))) fun s' hs' => ?_
        exact ih hs' hc hp (by simpa using hl) (fun y m => hk y (.tail _ m)) (by simpa using hts) (fun i h1 h2 v s Q h => hst (i + 1) (by simpa using h1) (by simpa using h2) v s Q (by simpa using h)) hQ
-- a frame known by its names alone
noncomputable def envOf (k : ScopeKind) (nm : List (Str × NameKind)) : Env := { scope := { kind := k, names := nm, isGenerator := false, isCoroutine := false, more := [] }, locals := 0, globals := 0, cells := [], code := .none, frame := none }
theorem swapped_env (ts : List Expr) (v : Expr) (env : Env) : swappedStores ts v env = swappedStores ts v (envOf env.scope.kind env.scope.names) := rfl
theorem swapped_of {ts : List Expr} {v : Expr} {r : Option (List Str)} (h : swappedStores ts v (envOf .function c.nm) = pure r) (eo : EnvOk c.env c.nm) : swappedStores ts v c.env = pure r := by
  rw [swapped_env, eo.kind, eo.names]; exact h
-- x, y := a tuple display, the last name first
theorem tr_tup_sw {xs : List Str} {elts : List Expr} {k : Nat} {tpos pos : Pos} {value : Expr} {ds : List PyData} {rest : List Stmt} {ρ' : List PV} (h : Ev c σ value (.tup ds)) (hsw : swappedStores [.Tuple elts k tpos] value (envOf .function c.nm) = pure (some xs))
    (hp : Puts c.ns σ.ρ (xs.reverse.zip ds.reverse) ρ') (hl : xs.length = ds.length) (hk : (xs.all fun x => c.nm.lookup x == some .local || c.nm.lookup x == some .cell) = true)
    (ht : Tr c ⟨ρ', σ.own⟩ rest Q) (hs : swapsWithSole [.Tuple elts k tpos] value pos.line c.env = pure false := by rfl) : Tr c σ (.Assign [.Tuple elts k tpos] value pos :: rest) Q :=
  tr_cons fun A s hA hw => Assign_Tuple_swapped (names := xs) (ev_of h hA hw.toSt fun v s₁ k₁ r₁ => by
    obtain ⟨a, vs, rfl, _, p, q⟩ := r₁
    have hn := carried_len q
    rw [Array.length_toList] at hn
    rw [show xs.length = vs.size by omega]
    refine wpAny_unpackItems_tuple hA.hh p fun h' he => ?_
    have kk : KK c.q s₁ { s₁ with heap := h' } := KK.heap' fun b o e => he b o (fun z => by subst z; rw [none_size] at e; cases e) e
    have hw2 := (hw.up k₁).up kk
    refine stw_puts (xs := xs.reverse) (ds := ds.reverse) (ρ := σ.ρ) hw2 ?_ hp (by simpa using hl) (fun x m => List.all_eq_true.mp hk x (List.mem_reverse.mp m)) (by simp) (fun i h1 h2 v s Q h => ?_) fun s' hs' => ⟨.next, _, hs', trivial, ht⟩
    · have : ∀ {l : List Value} {ds : List PyData}, CarriedAll l ds → CarriedAll l.reverse ds.reverse := fun {l ds} h => by
        induction h with
        | nil => exact .nil
        | cons c h ih => rw [List.reverse_cons, List.reverse_cons]; exact carried_app ih (.cons c .nil)
      exact this q
    · simp only [List.getElem_map]
      exact wpAny_bindName h) hs (swapped_of hsw hw.eo)
theorem tup_each {A : Around} : ∀ (xs : List Str) (ps : List Pos), ps.length = xs.length → (assignEach (List.zipWith Expr.Name xs ps) c.env).length = xs.length ∧ (assignEach (List.zipWith Expr.Name xs ps) c.env).findIdx? (fun q => q.1) = none ∧
    ∀ ts : List (Value → Sem Unit), ts = List.map (fun (q : Bool × (Value → Sem Unit)) => q.2) (assignEach (List.zipWith Expr.Name xs ps) c.env) → ts.length = xs.length ∧ ∀ i (h1 : i < xs.length) (h2 : i < ts.length) v s (Q : Unit → Shared → Prop), wpAny c.M A (storeName c.env xs[i] v) Q (fun _ _ => False) s → wpAny c.M A (ts[i] v) Q (fun _ _ => False) s := by
  intro xs
  induction xs with
  | nil => intro ps _; exact ⟨rfl, rfl, fun ts e => ⟨by subst e; rfl, fun i h1 => by cases h1⟩⟩
  | cons x xs ih => intro ps hps; cases ps with
    | nil => cases hps
    | cons pp ps =>
      obtain ⟨h1, h2, h3⟩ := ih ps (by simpa using hps)
      have ee : assignEach (List.zipWith Expr.Name (x :: xs) (pp :: ps)) c.env = (false, assign (.Name x pp) c.env) :: assignEach (List.zipWith Expr.Name xs ps) c.env := rfl
      rw [ee]
      refine ⟨by simp [h1], by simp [List.findIdx?_cons, h2], fun ts e => ?_⟩
      obtain ⟨h4, h5⟩ := h3 _ rfl
      subst e
      refine ⟨by simpa using h4, fun i hi1 hi2 v s Q h => ?_⟩
      cases i with
      | zero => exact PyProof.Rows.assign_Name h
      | succ i => exact h5 i (by simpa using hi1) (by simpa using hi2) v s Q (by simpa using h)
-- x, y := a tuple
theorem tr_tup {xs : List Str} {ps : List Pos} {k : Nat} {tpos pos : Pos} {value : Expr} {ds : List PyData} {rest : List Stmt} {ρ' : List PV} (h : Ev c σ value (.tup ds)) (hsw : swappedStores [.Tuple (List.zipWith Expr.Name xs ps) k tpos] value (envOf .function c.nm) = pure none)
    (hp : Puts c.ns σ.ρ (xs.zip ds) ρ') (hl : xs.length = ds.length) (hps : ps.length = xs.length) (hk : (xs.all fun x => c.nm.lookup x == some .local || c.nm.lookup x == some .cell) = true)
    (ht : Tr c ⟨ρ', σ.own⟩ rest Q) (hs : swapsWithSole [.Tuple (List.zipWith Expr.Name xs ps) k tpos] value pos.line c.env = pure false := by rfl) : Tr c σ (.Assign [.Tuple (List.zipWith Expr.Name xs ps) k tpos] value pos :: rest) Q :=
  tr_cons fun A s hA hw => Assign_Tuple (ev_of h hA hw.toSt fun v s₁ k₁ r₁ => by
    obtain ⟨a, vs, rfl, _, p, q⟩ := r₁
    have hn := carried_len q
    rw [Array.length_toList] at hn
    obtain ⟨h1, h2, h3⟩ := tup_each (c := c) (A := A) xs ps hps
    obtain ⟨h4, h5⟩ := h3 _ rfl
    refine wpAny_assign_Tuple hA.hh p (by omega) h2 fun h' he => ?_
    have kk : KK c.q s₁ { s₁ with heap := h' } := KK.heap' fun b o e => he b o (fun z => by subst z; rw [none_size] at e; cases e) e
    have hw2 := (hw.up k₁).up kk
    exact stw_puts (xs := xs) (ds := ds) (ρ := σ.ρ) hw2 q hp hl (fun x m => List.all_eq_true.mp hk x m) h4 h5 fun s' hs' => ⟨.next, _, hs', trivial, ht⟩) hs (swapped_of hsw hw.eo)
end
end Mine
end
section
open PySem PySem.W PyProof.Rows PySem.Calls PySem.SeqAt
set_option maxRecDepth 4000
namespace Mine
section
variable {M : Model} {A : Around} {R : GenEnd} {Y : Protocol} {n : Nat} {s₀ : Shared} {c : Code} {fs : List Frame} {s : Shared} {env : Env}
  {K : Flow → Sem Fin} {H : Value → Sem Fin} {gd : Bool → Bool} {lv : List Value → List Value}
theorem seg_If {test : Expr} {body orelse : List Stmt} {pos : Pos}
    (h : wpAny M (A.over c fs) (isTrue test env (eval test env)) (fun b s' => if b = true then Seg M A R Y n s₀ c ((execs body env).wrap K H gd lv) fs s' else Seg M A R Y n s₀ c ((execs orelse env).wrap K H gd lv) fs s') (fun _ _ => False) s) :
    Seg M A R Y n s₀ c ((exec (.If test body orelse pos) env).wrap K H gd lv) fs s := by
  show Seg M A R Y n s₀ c (.at pos fun _ => ((isTrue test env (eval test env)) >>= fun b => if b = true then execs body env else execs orelse env).wrap K H gd lv) fs s
  refine seg_at ?_
  rw [Sem.bind_eq_wrap', Sem.wrap_wrap]
  refine seg_wrap (wpAny_mono h (fun b s' hb => ?_) fun _ _ f => f.elim)
  cases b with
  | true => exact hb
  | false => exact hb
theorem seg_plain {st : Stmt} (h : wpAny M (A.over c fs) (exec st env) (fun f s' => Seg M A R Y n s₀ c (K f) fs s') (fun _ _ => False) s) : Seg M A R Y n s₀ c ((exec st env).wrap K H gd lv) fs s :=
  seg_wrap (wpAny_mono h (fun _ _ x => x) fun _ _ f => f.elim)
theorem seg_For {target iter : Expr} {body orelse : List Stmt} {pos : Pos}
    (h : wpAny M (A.over c fs) (eval iter env) (fun x s₁ => wpAny M (A.over c fs) (pyIter x) (fun it s₂ => ∀ p, Seg M A R Y n s₀ (.forLoop target it body orelse env) (M.den (.forLoop target it body orelse env))
      (.ret (fun r => ((match r with | .ok f => (.pure f : Sem Flow) | .error e => .raise e).onRaise fun (x : Value) => do
        if (← field x 1) == Value.none then unsupported "frame.own-activation:exception-without-traceback"
        setFlight x env.frame).wrap K H gd lv) none (gd false) (lv []) c p [] :: fs) s₂) (fun _ _ => False) s₁) (fun _ _ => False) s)
    (hs : ∀ x, foldedSetIterable iter env x = pure x := by intro _; rfl) :
    Seg M A R Y n s₀ c ((exec (.For target iter body orelse pos) env).wrap K H gd lv) fs s := by
  rw [exec_For]
  show Seg M A R Y n s₀ c (.at pos fun _ => (eval iter env >>= fun v => foldedSetIterable iter env v >>= fun x => standAt iter.pos >>= fun _ => holding [x] (pyIter x) >>= fun it => runOwn (.forLoop target it body orelse env) env).wrap K H gd lv) fs s
  refine seg_at ?_
  rw [Sem.bind_eq_wrap', Sem.wrap_wrap]
  refine seg_wrap (wpAny_mono h (fun x s₁ h₁ => ?_) fun _ _ f => f.elim)
  rw [hs]
  show Seg M A R Y n s₀ c (.at iter.pos fun _ => (holding [x] (pyIter x) >>= fun it => runOwn (.forLoop target it body orelse env) env).wrap K H gd lv) fs s₁
  refine seg_at ?_
  rw [Sem.bind_eq_wrap', Sem.wrap_wrap]
  refine seg_wrap (wpAny_holding (wpAny_mono h₁ (fun it s₂ h₂ => ?_) fun _ _ f => f.elim))
  exact seg_call h₂
end
section
variable {prog : Program} {w : World} {A : Around} {R : GenEnd} {Y : Protocol} {n : Nat} {s₀ : Shared} {fs : List Frame} {s : Shared} {env : Env}
noncomputable abbrev noted (env : Env) (e : Value) : Sem Fin := (do noteFrame e env; theTreesLotGoes e : Sem Unit).wrap (fun _ => .raise e) .raise id id
theorem seg_forLoop {target : Expr} {it : Value} {body orelse : List Stmt}
    (h : wpAny (model prog w) (A.over (.forLoop target it body orelse env) fs) (pyNext it) (fun r s₁ => match r with
      | none => Seg (model prog w) A R Y n s₀ (.forLoop target it body orelse env) (.pure (.again (.block orelse env))) fs s₁
      | some v => wpAny (model prog w) (A.over (.forLoop target it body orelse env) fs) (letOwnedTupleGo target it v) (fun _ s₂ => wpAny (model prog w) (A.over (.forLoop target it body orelse env) fs) (assign target env v) (fun _ s₃ =>
          Seg (model prog w) A R Y n s₀ (.forLoop target it body orelse env) ((execs body env).wrap (fun f => match f with
            | .next | .cont => .pure (.again (.forLoop target it body orelse env))
            | .brk => .pure (.done .next)
            | .ret v => .pure (.done (.ret v))) (noted env) id id) fs s₃) (fun _ _ => False) s₂) (fun _ _ => False) s₁) (fun _ _ => False) s) :
    Seg (model prog w) A R Y n s₀ (.forLoop target it body orelse env) ((model prog w).den (.forLoop target it body orelse env)) fs s := by
  show Seg _ A R Y n s₀ _ ((forTurn target it body orelse env).onRaise (fun x => do noteFrame x env; theTreesLotGoes x)) fs s
  rw [Sem.onRaise_eq_wrap]
  show Seg _ A R Y n s₀ _ (.at target.pos fun _ => (((pyNext it).onRaise (fun _ => standAt { target.pos with line := 0 })) >>= fun r => match r with
    | none => again (.block orelse env)
    | some v => letOwnedTupleGo target it v >>= fun _ => assign target env v >>= fun _ => execs body env >>= fun f => match f with
      | .next | .cont => again (.forLoop target it body orelse env)
      | .brk => pure (.done .next)
      | .ret v => pure (.done (.ret v))).wrap .pure (fun e => (do noteFrame e env; theTreesLotGoes e : Sem Unit).bind fun _ => .raise e) id id) fs s
  refine seg_at ?_
  rw [Sem.bind_eq_wrap', Sem.wrap_wrap, Sem.onRaise_eq_wrap, Sem.wrap_wrap]
  refine seg_wrap (wpAny_mono h (fun r s₁ h₁ => ?_) fun _ _ f => f.elim)
  cases r with
  | none => exact h₁
  | some v =>
    show Seg _ A R Y n s₀ _ ((letOwnedTupleGo target it v >>= fun _ => assign target env v >>= fun _ => execs body env >>= fun f => match f with
      | .next | .cont => again (.forLoop target it body orelse env)
      | .brk => pure (.done .next)
      | .ret v => pure (.done (.ret v))).wrap .pure (fun e => (do noteFrame e env; theTreesLotGoes e : Sem Unit).bind fun _ => .raise e) id id) fs s₁
    rw [Sem.bind_eq_wrap', Sem.wrap_wrap]
    refine seg_wrap (wpAny_mono h₁ (fun _ s₂ h₂ => ?_) fun _ _ f => f.elim)
    rw [Sem.bind_eq_wrap', Sem.wrap_wrap]
    refine seg_wrap (wpAny_mono h₂ (fun _ s₃ h₃ => ?_) fun _ _ f => f.elim)
    rw [Sem.bind_eq_wrap', Sem.wrap_wrap]
    rw [Sem.wrap_congr (execs body env) _ _ (K' := fun f => match f with
            | .next | .cont => .pure (.again (.forLoop target it body orelse env))
            | .brk => .pure (.done .next)
            | .ret v => .pure (.done (.ret v))) (H' := noted env)
        (fun f => by cases f <;> rfl)
        (fun e => by show (do noteFrame e env; theTreesLotGoes e : Sem Unit).bind (fun _ => .raise e) = _; rw [Sem.bind_eq_wrap])]
    exact h₃
end
section
variable {M : Model} {A : Around} {R : GenEnd} {Y : Protocol} {s₀ : Shared} {c : Code} {fs : List Frame} {s : Shared} {env : Env}
  {K : Flow → Sem Fin} {H : Value → Sem Fin} {gd : Bool → Bool} {lv : List Value → List Value}
theorem seg_yield0 {v g l} {k : Resume → Sem Fin} (hfs : splitAtGen fs = none) (hg : g = false) (hfg : fs.any Frame.guarded = false)
    (h : Y 0 s₀ v s fun _ _ => False) : Seg M A R Y 0 s₀ c (.yield v g l k) fs s := by
  rintro Γ p rfl _
  exact ⟨_, s, Runs.yield' fs hfs, And.intro (by simp [End.quiet, hg, hfg]) h⟩
theorem seg_Expr_Yield0 {e : Expr} {ypos pos : Pos} (hfs : splitAtGen fs = none) (hgd : gd false = false) (hfg : fs.any Frame.guarded = false)
    (h : wpAny M (A.over c fs) (eval e env) (fun v s' => Y 0 s₀ v s' fun _ _ => False) (fun _ _ => False) s) (hco : env.scope.isCoroutine = false) (hi : interactive env = false) :
    Seg M A R Y 0 s₀ c ((exec (.Expr (.Yield (some e) ypos) pos) env).wrap K H gd lv) fs s := by
  rw [exec_Expr env _ pos hi rfl]
  show Seg M A R Y 0 s₀ c (.at pos fun _ => ((eval e env >>= fun v => (standAt ypos >>= fun _ => yieldOut env v)) >>= fun x =>
    dropValue (.Yield (some e) ypos) pos x).wrap K H gd lv) fs s
  have hy : ∀ v, yieldOut env v = yieldValue v := fun v => by simp only [yieldOut, hco, Bool.false_eq_true, if_false]
  simp only [hy]
  refine seg_at ?_
  rw [Sem.bind_eq_wrap', Sem.bind_eq_wrap', Sem.wrap_wrap, Sem.wrap_wrap]
  refine seg_wrap (wpAny_mono h (fun v s' h' => ?_) fun _ _ f => f.elim)
  exact seg_at (seg_yield0 hfs hgd hfg h')
end
end Mine
end
section
open PySem PySem.W PyProof.Rows PySem.Calls PySem.SeqAt
set_option maxRecDepth 4000
namespace Mine
-- one turn of a generator, seen from without
noncomputable def GMoved (wr : List Addr) (g : Nat) (s s' : Shared) : Prop := ∃ h' tk gs, s' = { s with heap := h', toks := tk, gens := gs } ∧ (∀ b o, b ∉ wr → s.heap.get? b = some o → h'.get? b = some o) ∧ GenOnlyQ g s.gens gs
-- the ground is laid, and nothing that the walk writes belongs to it
noncomputable def OkB (Ω : Wo) (wr : List Addr) (h : Heap) : Prop := ∃ hb, Ω.ok hb ∧ Up hb h ∧ ∀ b ∈ wr, hb.get? b = none
structure GWalks (Ω : Wo) (A : Around) (a : Addr) (g : Nat) (fp wr : List Addr) (items : Nat → Option Int) (N : Nat) (St : Nat → Shared → Prop) : Prop where
  frame : ∀ i (s s' : Shared), St i s → (∀ b ∈ fp, ∀ o, s.heap.get? b = some o → s'.heap.get? b = some o) → (∀ (j : Nat) (x : GenState), s.gens[j]? = some x → s'.gens[j]? = some x) → St i s'
  item : ∀ i (s : Shared) (x : Int) (Q : Option Value → Shared → Prop) (E : Value → Shared → Prop), items i = some x → i < N → St i s → OkB Ω wr s.heap →
    (∀ v s', (∃ t, v = .int x t) → St (i + 1) s' → GMoved wr g s s' → Q (some v) s') → wpAny (model Ω.prog Ω.w) A (pyNext (.ref a)) Q E s
  done : ∀ i (s : Shared) (Q : Option Value → Shared → Prop) (E : Value → Shared → Prop), items i = none → i < N → St i s → OkB Ω wr s.heap → (∀ s', GMoved wr g s s' → Q none s') → wpAny (model Ω.prog Ω.w) A (pyNext (.ref a)) Q E s
  live : ∀ i (s : Shared), St i s → ∀ b ∈ wr, (s.heap.get? b).isSome = true
structure GWalkOk (c : Cx) (O : List Addr) (items : Nat → Option Int) (N : Nat) (A : Around) (s s' : Shared) (a : Addr) (g : Nat) (fp wr : List Addr) (St : Nat → Shared → Prop) : Prop where
  kk : KK c.q s s'
  walks : GWalks c.Ω A a g fp wr items N St
  st : St 1 s'
  fpl : ∀ b ∈ fp, (s'.heap.get? b).isSome = true ∧ b ∉ O ∧ (s.heap.get? b = none ∨ Flat1 s.heap b)
  new : ∀ b ∈ wr, s.heap.get? b = none
  gnew : s.gens.size ≤ g
-- a call that gives a generator of the items; the first one is asked at once
structure ItG (c : Cx) (σ : Sg) (e : Expr) (items : Nat → Option Int) (N : Nat) : Prop where
  run : ∀ A s (Q : Value → Shared → Prop) (E : Value → Shared → Prop), AOk c.d A → St c σ s →
  (∀ s' a, KK c.q s s' → (∀ (Q' : Option Value → Shared → Prop) (E' : Value → Shared → Prop), (∀ x t s'' g fp wr Wt, items 0 = some x → GWalkOk c (σ.all c) items N A s s'' a g fp wr Wt → Q' (some (.int x t)) s'') →
    (items 0 = none → ∀ s'', KK c.q s s'' → Q' none s'') → wpAny c.M A (pyNext (.ref a)) Q' E' s') → Q (.ref a) s') → wpAny c.M A (eval e c.env) (fun x s₁ => wpAny c.M A (pyIter x) Q E s₁) E s
section
variable {c : Cx} {σ : Sg} {s s' : Shared} {Q : Post} {A : Around} {a : Addr} {g N : Nat} {fp wr : List Addr} {items : Nat → Option Int} {Wt : Nat → Shared → Prop}
noncomputable abbrev Cx.gwalk (c : Cx) (fp wr : List Addr) (Wt : Nat → Shared → Prop) (i : Nat) : Cx := c.walk (wr ++ c.O) fp (fun s => Wt i s)
theorem gwalk_in (hi : c.fp = []) (h : StW c σ s) (w : GWalkOk c (σ.all c) items N A s s' a g fp wr Wt) : StW (c.gwalk fp wr Wt 1) σ s' := by
  have k := w.kk
  have hWl := w.walks.live 1 _ w.st
  have away : ∀ b ∈ wr, (s'.heap.get? b).isSome = true ∧ b ∉ σ.own.map (·.1) ∧ b ≠ c.env.locals ∧ ∀ x k, c.env.cells.lookup x = some k → b ≠ k := fun b m => by
    have hn := w.new b m
    refine ⟨hWl b m, fun e => ?_, fun e => ?_, fun x k e z => ?_⟩
    · obtain ⟨⟨a, v⟩, ma, e⟩ := List.mem_map.mp e
      subst e
      have := (h.own a v ma).1.live
      rw [hn] at this; cases this
    · obtain ⟨m, _, _, _, ho, _⟩ := h.loc.1
      rw [← e, hn] at ho; cases ho
    · obtain ⟨_, _, ho, _⟩ := (h.cel x k e).1
      rw [← z, hn] at ho; cases ho
  refine StW.mk ⟨h.eo, h.kk.trans k, h.wd, fun x X e n => ?_, fun b v m => ?_, h.nodup, fun b m => ?_, w.st, fun s₁ s₂ hi hb hg => w.walks.frame _ _ _ hi hb hg, fun b m => ?_⟩ h.nsn
    ⟨let ⟨m, e⟩ := h.loc.1; ⟨m, e.keeps k.up⟩, h.loc.2⟩ (fun x a e => ⟨let ⟨v, q⟩ := (h.cel x a e).1; ⟨v, q.keeps k.up⟩, (h.cel x a e).2⟩) h.apart
  · obtain ⟨u, p, r⟩ := h.vars x X e n
    exact ⟨u, p.up k.up, ((r.mores wr w.new).sub fun b m => mem_all_walk m).up k.up⟩
  · obtain ⟨p, q⟩ := h.own b v m
    exact ⟨((p.mores wr w.new).sub fun b m => mem_all_walk m).up k.up, q⟩
  · rcases List.mem_append.mp m with m | m
    · exact away b m
    · exact ⟨isSome_up k.up (h.old b m).1, (h.old b m).2⟩
  · obtain ⟨h1, h2, h3⟩ := w.fpl b m
    refine ⟨h1, fun e => h2 (List.mem_append_left _ e), ?_⟩
    rcases h3 with hn | hf
    · refine ⟨fun e => ?_, fun x k e z => ?_⟩
      · obtain ⟨m, _, _, _, ho, _⟩ := h.loc.1
        rw [← e, hn] at ho; cases ho
      · obtain ⟨_, _, ho, _⟩ := (h.cel x k e).1
        rw [← z, hn] at ho; cases ho
    · refine ⟨?_, fun x k e => ?_⟩
      · obtain ⟨m, hm⟩ := h.loc.1; exact flat_ns hf hm
      · obtain ⟨v, hv⟩ := (h.cel x k e).1; exact flat_cell hf hv
theorem gens_moved {q : Bool} {b gs gs' : Array GenState} {g : Nat} (hq : q = false) (h : GensOk q b gs) (hg : b.size ≤ g) (m : GenOnlyQ g gs gs') : GensOk q b gs' := by
  refine ⟨fun e => (by rw [hq] at e; cases e), fun i x e => ?_, fun hb => m.bare (h.2.2 hb)⟩
  have h1 := h.2.1 i x e
  rcases m with rfl | ⟨⟨_, ho⟩, _⟩
  · exact h1
  · have hne : i ≠ g := fun z => by
      subst z
      have := (Array.getElem?_eq_some_iff.mp e).1
      omega
    rw [ho i hne]; exact h1
theorem gwalk_step {i j : Nat} (hq : c.q = false) (hb : ∀ b ∈ wr, c.b.heap.get? b = none) (hgn : c.b.gens.size ≤ g) (W : GWalks c.Ω A a g fp wr items N Wt) (hst : Wt j s') (m : GMoved wr g s s') (h : StW (c.gwalk fp wr Wt i) σ s) : StW (c.gwalk fp wr Wt j) σ s' := by
  have hl := W.live _ _ hst
  obtain ⟨h', tk, gs, rfl, hk, hgm⟩ := m
  have inO : ∀ b ∈ wr, b ∈ σ.all (c.gwalk fp wr Wt i) := fun b m => List.mem_append_right _ (List.mem_append_left _ m)
  have off := fun b (m : b ∈ wr) => h.old b (List.mem_append_left _ m)
  have hlive : ∀ b, (s.heap.get? b).isSome = true → (h'.get? b).isSome = true := fun b e => by
    by_cases hw : b ∈ wr
    · exact hl b hw
    · obtain ⟨o, e⟩ := Option.isSome_iff_exists.mp e
      rw [hk b o hw e]; rfl
  obtain ⟨h₁, tk₁, gs₁, es, u, g₁⟩ := h.kk
  have eg : gs₁ = s.gens := by rw [es]
  refine StW.mk ⟨h.eo, ⟨h', tk, gs, by rw [es], fun b o e => ?_, gens_moved hq (eg ▸ g₁) hgn hgm⟩, h.wd, fun x X e n => ?_, fun b v m => ?_, h.nodup, fun b m => ⟨hlive b (h.old b m).1, (h.old b m).2⟩,
    hst, fun s₁ s₂ hi hb hg => W.frame _ _ _ hi hb hg,
    fun b m => ⟨hlive b (h.fpl b m).1, (h.fpl b m).2⟩⟩ h.nsn ⟨?_, h.loc.2⟩ (fun x a e => ⟨?_, (h.cel x a e).2⟩) h.apart
  · refine hk b o (fun m => ?_) (h.kk.up b o e)
    rw [hb b m] at e; cases e
  · obtain ⟨v, p, r⟩ := h.vars x X e n
    refine ⟨v, ?_, r.off hk inO⟩
    rcases p with ⟨q, m, ⟨o, es, ep, ho, r⟩, e'⟩ | ⟨q, k, e', ⟨o, ho, hd⟩⟩
    · exact .inl ⟨q, m, ⟨o, es, ep, hk _ _ (fun z => (off _ z).2.2.1 rfl) ho, r⟩, e'⟩
    · exact .inr ⟨q, k, e', o, hk _ _ (fun z => (off _ z).2.2.2 x k e' rfl) ho, hd⟩
  · obtain ⟨p, q⟩ := h.own b v m
    exact ⟨p.off hk inO fun z => (off b z).2.1 (List.mem_map_of_mem (f := (·.1)) m), q⟩
  · obtain ⟨m, o, es, ep, ho, r⟩ := h.loc.1
    exact ⟨m, o, es, ep, hk _ _ (fun z => (off _ z).2.2.1 rfl) ho, r⟩
  · obtain ⟨v, o, ho, hd⟩ := (h.cel x a e).1
    exact ⟨v, o, hk _ _ (fun z => (off _ z).2.2.2 x a e rfl) ho, hd⟩
theorem gwalk_out {i : Nat} (hi : c.fp = []) (hiv : c.inv = fun _ => True) (hq : c.q = false) (hb : ∀ b ∈ wr, c.b.heap.get? b = none) (hgn : c.b.gens.size ≤ g) (hO : ∀ b ∈ c.O, b ∉ wr) (m : GMoved wr g s s') (h : StW (c.gwalk fp wr Wt i) σ s) : StW c σ s' := by
  obtain ⟨h', tk, gs, rfl, hk, hgm⟩ := m
  have inO : ∀ b ∈ wr, b ∈ σ.all (c.gwalk fp wr Wt i) := fun b m => List.mem_append_right _ (List.mem_append_left _ m)
  have off := fun b (m : b ∈ wr) => h.old b (List.mem_append_left _ m)
  have hlive : ∀ b, b ∉ wr → (s.heap.get? b).isSome = true → (h'.get? b).isSome = true := fun b hw e => by
    obtain ⟨o, e⟩ := Option.isSome_iff_exists.mp e
    rw [hk b o hw e]; rfl
  obtain ⟨h₁, tk₁, gs₁, es, u, g₁⟩ := h.kk
  have eg : gs₁ = s.gens := by rw [es]
  refine StW.mk ⟨h.eo, ⟨h', tk, gs, by rw [es], fun b o e => ?_, gens_moved hq (eg ▸ g₁) hgn hgm⟩, h.wd, fun x X e n => ?_, fun b v m => ?_, h.nodup, fun b m => ⟨hlive b (hO b m) (h.old b (List.mem_append_right _ m)).1, (h.old b (List.mem_append_right _ m)).2⟩,
    by rw [hiv]; trivial, fun _ _ _ _ _ => by rw [hiv]; trivial, fun b m => by rw [hi] at m; cases m⟩ h.nsn ⟨?_, h.loc.2⟩ (fun x a e => ⟨?_, (h.cel x a e).2⟩) h.apart
  · refine hk b o (fun m => ?_) (h.kk.up b o e)
    rw [hb b m] at e; cases e
  · obtain ⟨v, p, r⟩ := h.vars x X e n
    refine ⟨v, ?_, (r.off hk inO).sub fun b m => all_sub_walk m⟩
    rcases p with ⟨q, m, ⟨o, es, ep, ho, r⟩, e'⟩ | ⟨q, k, e', ⟨o, ho, hd⟩⟩
    · exact .inl ⟨q, m, ⟨o, es, ep, hk _ _ (fun z => (off _ z).2.2.1 rfl) ho, r⟩, e'⟩
    · exact .inr ⟨q, k, e', o, hk _ _ (fun z => (off _ z).2.2.2 x k e' rfl) ho, hd⟩
  · obtain ⟨p, q⟩ := h.own b v m
    exact ⟨(p.off hk inO fun z => (off b z).2.1 (List.mem_map_of_mem (f := (·.1)) m)).sub fun b m => all_sub_walk m, q⟩
  · obtain ⟨m, o, es, ep, ho, r⟩ := h.loc.1
    exact ⟨m, o, es, ep, hk _ _ (fun z => (off _ z).2.2.1 rfl) ho, r⟩
  · obtain ⟨v, o, ho, hd⟩ := (h.cel x a e).1
    exact ⟨v, o, hk _ _ (fun z => (off _ z).2.2.2 x a e rfl) ho, hd⟩
theorem GMoved.refl (wr : List Addr) (g : Nat) (s : Shared) : GMoved wr g s s := ⟨s.heap, s.toks, s.gens, rfl, fun _ _ _ e => e, .inl rfl⟩
-- for x in a generator: body
theorem tr_forgen {x : Str} {p pos : Pos} {it : Expr} {body rest : List Stmt} (h : ItG c σ it items N) (hi : c.fp = []) (hiv : c.inv = fun _ => True) (hq : c.q = false) (hkind : c.nm.lookup x = some .local ∨ c.nm.lookup x = some .cell) (J : Nat → Sg → Prop) (h0 : J 0 σ) (hJ : ∀ i σ', J i σ' → i < N)
    (hbody : ∀ (O : List Addr) (fp : List Addr) (inv : Shared → Prop) i σ' n, items i = some n → J i σ' → ∃ ρ', Put c.ns σ'.ρ x (pI n) ρ' ∧ Tr (c.walk O fp inv) ⟨ρ', σ'.own⟩ body (fun pf σ'' => match pf with
      | .next | .cont => J (i + 1) σ''
      | .brk => Tr c σ'' rest Q
      | .ret X => Q (.ret X) σ''))
    (hend : ∀ i σ', items i = none → J i σ' → Tr c σ' rest Q) (hs : ∀ v, foldedSetIterable it c.env v = pure v := by intro _; rfl) : Tr c σ (.For (.Name x p) it body [] pos :: rest) Q :=
  tr_cons fun A s hA hw => wpAny_For (h.run A s _ _ hA hw.toSt fun s' a k' hfirst => by
    have hgs : c.b.gens.size ≤ s.gens.size := by
      by_cases hz : c.b.gens.size = 0
      · omega
      · have h1 := hw.kk.gens.2.1 (c.b.gens.size - 1) (c.b.gens[c.b.gens.size - 1]'(by omega)) (Array.getElem?_eq_getElem (by omega))
        have := (Array.getElem?_eq_some_iff.mp h1).1
        omega
    have key : ∀ {s g fp wr Wt} (s'' : Shared) (hw : StW c σ s) (hgs : c.b.gens.size ≤ s.gens.size) (w : GWalkOk c (σ.all c) items N A s s'' a g fp wr Wt), (∀ b ∈ wr, c.b.heap.get? b = none) ∧ (∀ b ∈ c.O, b ∉ wr) ∧ c.b.gens.size ≤ g := fun {s g fp wr Wt} s'' hw hgs w =>
      ⟨fun b m => none_down hw.kk.up (w.new b m), fun b m mw => (by
        have := (hw.old b m).1
        rw [w.new b mw] at this; cases this), Nat.le_trans hgs w.gnew⟩
    have turn : ∀ {g fp wr Wt} (W : GWalks c.Ω A a g fp wr items N Wt) (hb : ∀ b ∈ wr, c.b.heap.get? b = none) (hO : ∀ b ∈ c.O, b ∉ wr) (hgn : c.b.gens.size ≤ g) {i k : Nat} {σ' : Sg} {n : Int} {t : Tok} {s₂ : Shared}, items i = some n → J i σ' → i + (k + 1) = N → 
        StW (c.gwalk fp wr Wt (i + 1)) σ' s₂ → wpAny c.M A (assign (.Name x p) c.env (.int n t)) (fun _ s₃ => wpAny c.M A (execs body c.env) (fun f s₄ => match f with
            | .next | .cont => ∃ m, m < k + 1 ∧ ((m = N ∧ s₄ = s') ∨ ∃ g fp wr Wt i σ', (∀ b ∈ wr, c.b.heap.get? b = none) ∧ (∀ b ∈ c.O, b ∉ wr) ∧ c.b.gens.size ≤ g ∧ GWalks c.Ω A a g fp wr items N Wt ∧ i + m = N ∧ J i σ' ∧ StW (c.gwalk fp wr Wt i) σ' s₄)
            | .brk => ∃ pf σ', StW c σ' s₄ ∧ FRep c.O s₄.heap .next pf ∧ Then c rest Q pf σ'
            | .ret v => ∃ pf σ', StW c σ' s₄ ∧ FRep c.O s₄.heap (.ret v) pf ∧ Then c rest Q pf σ') (fun _ _ => False) s₃) (fun _ _ => False) s₂ := by
      intro g fp wr Wt W hb hO hgn i k σ' n t s₂ hit hJi hik hst'
      obtain ⟨ρ', hput, htr⟩ := hbody (wr ++ c.O) fp (fun s => Wt (i + 1) s) i σ' n hit hJi
      refine wpAny_assign_Name (stw_store hst' (X := pI n) (.int _ _) hput hkind fun s₃ hs₃ => ?_)
      refine wpAny_mono (htr.run A s₃ hA hs₃) (fun f s₄ ⟨pf, σ'', a, b, q⟩ => ?_) fun _ _ f => f.elim
      cases f <;> cases pf <;> first | exact b.elim | skip
      · exact ⟨k, by omega, .inr ⟨g, fp, wr, Wt, i + 1, σ'', hb, hO, hgn, W, by omega, q, a⟩⟩
      · exact ⟨.next, σ'', gwalk_out hi hiv hq hb hgn hO (.refl _ _ _) a, trivial, q⟩
      · exact ⟨k, by omega, .inr ⟨g, fp, wr, Wt, i + 1, σ'', hb, hO, hgn, W, by omega, q, a⟩⟩
      · exact ⟨.ret _, σ'', gwalk_out hi hiv hq hb hgn hO (.refl _ _ _) a, Rep.sub (fun b m => List.mem_append_right _ m) b, q⟩
    refine codeAny_forLoop_any (fun k s₄ => (k = N ∧ s₄ = s') ∨ ∃ g fp wr Wt i σ', (∀ b ∈ wr, c.b.heap.get? b = none) ∧ (∀ b ∈ c.O, b ∉ wr) ∧ c.b.gens.size ≤ g ∧ GWalks c.Ω A a g fp wr items N Wt ∧ i + k = N ∧ J i σ' ∧ StW (c.gwalk fp wr Wt i) σ' s₄) (fun k s₁ hI => ?_) N (.inl ⟨rfl, rfl⟩)
    rcases hI with ⟨rfl, rfl⟩ | ⟨g, fp, wr, Wt, i, σ', hb, hO, hgn, W, hik, hJi, hst⟩
    · have hN := hJ 0 σ h0
      refine hfirst _ _ (fun n t s'' g fp wr Wt hit w => ?_) fun hn s'' k'' => ?_
      · obtain ⟨hb, hO, hgn⟩ := key s'' hw hgs w
        show wpAny _ A (pure ()) _ _ _
        refine wpAny_pure (wpAny_mono (turn w.walks hb hO hgn (k := k - 1) hit h0 (by omega) (gwalk_in hi hw w)) (fun _ s₃ h₃ => wpAny_mono h₃ (fun f s₄ h₄ => ?_) fun _ _ f => f.elim) fun _ _ f => f.elim)
        rw [show k - 1 + 1 = k by omega] at h₄
        exact h₄
      · exact wpAny_execs_nil ⟨.next, σ, hw.up k'', trivial, hend 0 σ hn h0⟩
    · have hlt := hJ i σ' hJi
      cases hit : items i with
      | some n =>
        refine W.item i s₁ n _ _ hit hlt hst.hold ⟨_, hst.wd, hst.kk.up, hb⟩ fun v s₂ hv hW hm => ?_
        have hst' := gwalk_step (j := i + 1) hq hb hgn W hW hm hst
        obtain ⟨t, rfl⟩ := hv
        show wpAny _ A (pure ()) _ _ _
        refine wpAny_pure (wpAny_mono (turn W hb hO hgn (k := k - 1) hit hJi (by omega) hst') (fun _ s₃ h₃ => wpAny_mono h₃ (fun f s₄ h₄ => ?_) fun _ _ f => f.elim) fun _ _ f => f.elim)
        rw [show k - 1 + 1 = k by omega] at h₄
        exact h₄
      | none =>
        refine W.done i s₁ _ _ hit hlt hst.hold ⟨_, hst.wd, hst.kk.up, hb⟩ fun s₂ hm => ?_
        exact wpAny_execs_nil ⟨.next, σ', gwalk_out hi hiv hq hb hgn hO hm hst, trivial, hend i σ' hit hJi⟩) hs
end
end Mine
end
section
open PySem PySem.W PyProof.Rows PySem.Calls PySem.SeqAt
set_option maxRecDepth 4000
namespace Mine
-- the next item of a generator function
theorem next_fn {prog : Program} {w : World} {A : Around} {E : Value → Shared → Prop} {s : Shared} {a : Addr} {g n : Nat} {gs : GenState} {P : Nat → Shared → Shared → Prop} {Y : Protocol} {Q : Option Value → Shared → Prop} (hh : A.handled = none)
    (hl : s.heap.NoLimit) (hroom : A.depth < recursionLimit) (hg : s.heap.IsGen a g) (hgs : s.gens[g]? = some gs)
    (hgo : gs.Goes (model prog w) A.in1 (fun n s₀ r s₁ => r = .ok (.ret .none) ∧ P n s₀ s₁) Y n (.send .none) (s.setGen g .running))
    (hY : ∀ v s₁ gs', gs'.bare = true → Y (n - 1) (s.setGen g .running) v s₁ (fun r' s'' => match n with
        | 0 => False
        | m + 1 => gs'.Goes (model prog w) A.in1 (fun n s₀ r s₁ => r = .ok (.ret .none) ∧ P n s₀ s₁) Y m r' s'') → Q (some v) (s₁.setGen g gs'))
    (hP : ∀ s₁, P n (s.setGen g .running) s₁ → ∀ h', Up s₁.heap h' → Q none { s₁.setGen g .finished with heap := h' }) : wpAny (model prog w) A (pyNext (.ref a)) Q E s := by
  unfold pyNext
  refine wpAny_bind (wpAny_attempt (wpAny_callSpecial?_slot (name := Str.ofString "__next__") hg.typeIs slot_gen_next (wpAny_call_entry slot_gen_next hg.typeIs entry_gen_next ?_ (args_gen_next _))))
  show wpAny _ A.in1 (Builtin.Generator.genWake (.ref a) (.send .none)) _ _ s
  unfold Builtin.Generator.genWake
  refine wpAny_bind (wpAny_holding (wpAny_genNumber hg (wpAny_bind (wpAny_genState hgs ?_))))
  cases gs with
  | running => exact hgo.elim
  | finished => exact hgo.elim
  | _ =>
    refine wpAny_bind (wpAny_roomToWake hl hroom ?_)
    show wpAny _ A.in1 (.resume g (.send .none) [] _) _ _ s
    refine wpAny_resumeQ hgs hgo (fun x s₁ hx => ?_) (fun v s₁ gs' hb hv => wpAny_pure ⟨v, rfl, wpAny_pure (hY v s₁ gs' hb hv)⟩)
    obtain ⟨rfl, hp⟩ := hx
    show wpAny _ A.in1 (newExc (.type "StopIteration") [] >>= _) _ _ _
    refine wpAny_bind ?_
    simp only [newExc, newTuple]
    refine wpAny_bind (wpAny_newObj_type ?_ (by size_fits))
    refine wpAny_bind (m := firstArgMember _ _) (wpAny_of_eq (a := Value.none) (by first | rfl | (simp only [firstArgMember]; rfl)) ?_)
    refine wpAny_newObj_type ?_ (by size_fits)
    simp only [raiseNew]
    refine wpAny_bind (wpAny_bind (wpAny_handled ?_))
    first | rw [show A.in1.handled = none from hh] | rw [hh]
    refine wpAny_throw ?_
    refine wpAny_bind (wpAny_isInstance (T := "StopIteration") (b := true) ⟨_, Heap.get?_push_size _ rfl, rfl⟩ isSubtype_stop ?_)
    exact wpAny_pure (hP s₁ hp _ fun b o hb => Heap.get?_push_of_some _ (Heap.get?_push_of_some _ hb))

-- the ruler's items
noncomputable def gnth : Option Int → List Int → Nat → Option Int
  | _, [], _ => none
  | last, x :: r, k => if x = 127 then none else if x = 0 then last else match k with
    | 0 => some x
    | k + 1 => gnth (some x) r k
-- no nought in front
noncomputable def gok : Option Int → List Int → Bool
  | _, [] => true
  | last, x :: r => if x = 127 then true else if x = 0 then last.isSome else gok (some x) r
noncomputable def LastIs : Option Int → Value → Prop
  | none, v => v = .none
  | some l, v => ∃ t, v = .int l t
noncomputable def lastPV : Option Int → PV
  | none => pN
  | some l => pI l
-- what a run of the generator changes
noncomputable def Chg (wr : List Addr) (s s' : Shared) : Prop := ∃ h' tk, s' = { s with heap := h', toks := tk } ∧ ∀ b o, b ∉ wr → s.heap.get? b = some o → h'.get? b = some o
theorem Chg.refl (wr : List Addr) (s : Shared) : Chg wr s s := ⟨s.heap, s.toks, rfl, fun _ _ _ e => e⟩
theorem Chg.trans {wr : List Addr} {a b c : Shared} (x : Chg wr a b) (y : Chg wr b c) : Chg wr a c := by
  obtain ⟨h, t, rfl, k⟩ := x
  obtain ⟨h', t', rfl, k'⟩ := y
  exact ⟨h', t', rfl, fun b o n e => k' b o n (k b o n e)⟩
theorem Chg.of_kk {wr : List Addr} {s s' : Shared} (k : KK true s s') : Chg wr s s' := by
  obtain ⟨h', tk, rfl, u⟩ := k.keeps
  exact ⟨h', tk, rfl, fun b o _ e => u b o e⟩
theorem OkB.chg {Ω : Wo} {wr : List Addr} {s s' : Shared} (x : OkB Ω wr s.heap) (k : Chg wr s s') : OkB Ω wr s'.heap := by
  obtain ⟨hb, h1, h2, h3⟩ := x
  obtain ⟨h', tk, rfl, kk⟩ := k
  exact ⟨hb, h1, fun b o e => kk b o (fun m => by rw [h3 b m] at e; cases e) (h2 b o e), h3⟩
theorem OkB.ok {Ω : Wo} {wr : List Addr} {h : Heap} (x : OkB Ω wr h) : Ω.ok h := let ⟨hb, h1, h2, _⟩ := x; Ω.keeps _ _ h1 h2
-- a frame whose names are read alone
theorem gst {Ω : Wo} {d : Nat} {env : Env} {nm : List (Str × NameKind)} {ns : List Str} {ρ : List PV} {s : Shared} (eo : EnvOk env nm) (ok : Ω.ok s.heap) (vars : ∀ x X, At ns ρ x X → X ≠ .unb → ∃ v, VarAt env s.heap x v ∧ Rep [] s.heap v X) :
    St ⟨Ω, true, d, nm, ns, env, s, [], [], fun _ => True⟩ ⟨ρ, []⟩ s := ⟨eo, KK.refl _ _, ok, vars, fun a w m => (nomatch m), List.nodup_nil, fun b m => (nomatch m), trivial, fun _ _ _ _ _ => trivial, fun b m => (nomatch m)⟩
end Mine
end
section
open PySem PySem.W PyProof.Rows PySem.Calls
namespace Mine

structure LawOk (q : Program) (ls : List Str) (x : Str) (a : Addr) (es : List DictEntry) (Ω : Wo) : Prop where
  top : ∃ mean, ∀ h, Ω.ok h → Top q (looseW q ls) mean Ω.mg Ω.mb h
  dict : Ω.mg x = some (.ref a) ∧ ∀ h, Ω.ok h → h.get? a = some (Hd.dObj es)
  some : ∃ h, Ω.ok h
  nb : ∀ h, Ω.ok h → NoneBooked h

noncomputable def woOf (p q : Program) (ls : List Str) (a : Addr) (es : List DictEntry) (w : World) (mean : ExcName → Option Value) (mg mb : Str → Option Value) : Wo where
  prog := p
  w := w
  mg := mg
  mb := mb
  ok h := Top q (looseW q ls) mean mg mb h ∧ h.get? a = some (Hd.dObj es) ∧ NoneBooked h
  keeps h h' x k := ⟨x.1.keeps k, k _ _ x.2.1, let ⟨m, e, n⟩ := x.2.2; ⟨m, e.keeps k, n⟩⟩
  g h x := x.1.g
  b h x := x.1.b
  nolim h x := x.1.nolimit

namespace Hd
theorem y1 (s : Shared) (w : World) (h : yF s = yA w) : (s.heap.get? 43 = some (dObj dTab) ∧ ∃ m, s.heap.Ns mainGlobals m ∧ m bNm = some (.ref 43)) ∧ NoneBooked s.heap := by
  unfold yF yA at h
  obtain ⟨h1, h2⟩ := Prod.mk.inj h
  obtain ⟨h2, h3⟩ := Prod.mk.inj h2
  obtain ⟨h3, h4⟩ := Prod.mk.inj h3
  obtain ⟨h4, h5⟩ := Prod.mk.inj h4
  exact ⟨⟨h1, _, Heap.Ns.of_isNs h2, h3⟩, _, Heap.Ns.of_isNs h4, h5⟩
end Hd
end Mine
namespace Mine
open Hd
theorem wellAll_one {P : Params} {h : Heap} {vs : List Value} {d : WData} (x : WellAll P h vs [d]) : ∃ v, vs = [v] ∧ Well P h v d := by
  cases x with | cons a b => cases b; exact ⟨_, rfl, a⟩
theorem well_ints {P : Params} {h : Heap} : ∀ {ns : List Int} {vs : List Value}, WellAll P h vs (ns.map .int) → CarriedAll vs (ns.map .int)
  | [], _, x => by cases x; exact .nil
  | n :: r, _, x => by
    cases x with | cons a b =>
    cases a
    exact .cons (.int _ _) (well_ints b)

theorem items_ints {R : WRecords} : ∀ {xs : List WData}, WShape.hasItems R xs .int = true → ∃ ns : List Int, xs = ns.map .int
  | [], _ => ⟨[], rfl⟩
  | x :: r, h => by
    rw [WShape.hasItems, Bool.and_eq_true] at h
    obtain ⟨i, rfl⟩ := hasW_int h.1
    obtain ⟨ns, rfl⟩ := items_ints h.2
    exact ⟨i :: ns, rfl⟩
theorem law_pre {most : Nat} {R : WRecords} {args : List WData} (hs : WShape.hasAll R args [.list .int] = true) (hc : (WTm.and (.not (.lt (.lit (.int most)) (.len (.arg 0)))) (.lit (.bool true))).holds R { args := args } = true) :
    ∃ ns : List Int, args = [.list (ns.map .int)] ∧ ns.length ≤ most := by
  obtain ⟨d, r, rfl, h1, h2⟩ := hasAllW_cons hs
  cases hasAllW_nil h2
  obtain ⟨xs, rfl, h3⟩ := hasW_list h1
  obtain ⟨ns, rfl⟩ := items_ints h3
  refine ⟨ns, rfl, ?_⟩
  have h4 := (holds_andW hc).1
  by_cases hn : ns.length ≤ most
  · exact hn
  · have hb : (decide ((most : Int) < (ns.length : Int))) = true := decide_eq_true (by omega)
    simp [WTm.holds, WTm.value, less?, Num.less?] at h4
    rw [decide_eq_true (by omega : most < ns.length)] at h4
    cases h4

-- the contract of the law itself, asked by the row alone
noncomputable def FnC (Ω : Wo) (f : Str) (Xs : List PV) (Y : PV) : Prop :=
  ∃ a, Ω.mg f = some (.ref a) ∧ ∀ s vs, Ω.ok s.heap → Paired (Rep [] s.heap) vs Xs →
    codeAny (model Ω.prog Ω.w) callerA (.call (.ref a) ⟨vs, []⟩) (fun r s' => ∃ v, r = .ok (.ret v) ∧ KK false s s' ∧ Rep [] s'.heap v Y) s
-- the law's contract closes a law's walk
theorem walk_law {p q : Program} {ls : List Str} {XP : (Str → Option Value) → Heap → Prop} {x : Str} {a : Addr} {es : List DictEntry} {r : RowW} {d : DefRec} {most : Nat}
    (hp : r.prog = p) (hx : (looseW q ls) = looseW q ls)
    (e1 : r.records = []) (e2 : r.args = [.list .int]) (e3 : r.pre = .and (.not (.lt (.lit (.int most)) (.len (.arg 0)))) (.lit (.bool true))) (e4 : r.returns = .bool) (e5 : r.post = .eq .res (.lit (.bool true))) (e6 : r.raises = []) (e7 : r.mutates = [])
    (H : ∀ (Ω : Wo), Ω.prog = p → LawOk q ls x a es Ω → ∀ ns : List Int, ns.length ≤ most → FnC Ω d.name [.list (ns.map .int)] (pB true)) :
    WalkO q ls XP (fun _ h => (h.get? a = some (Hd.dObj es) ∧ ∃ m, h.Ns mainGlobals m ∧ m x = some (.ref a)) ∧ NoneBooked h) r d [] fun f vs => PySem.call f vs := by
  intro w s₀ s₁ mg mb G Y fa o pm cd doc dV kV ho hd hcd hD hmg hg args vals as hpre hlay hrd hwl hlo
  refine Ground.open G fun T _ _ _ _ => ?_
  obtain ⟨hs, hc⟩ := pre_splitW hpre
  rw [e1, e2] at hs
  rw [e1, e3] at hc
  obtain ⟨ns, rfl, hn⟩ := law_pre hs hc
  obtain ⟨v, rfl, hv⟩ := wellAll_one hwl
  cases hv
  rename_i la vs hl hwv
  obtain ⟨⟨hY, m, hm, hmx⟩, hnb⟩ := Y
  have em : m = mg := ns_unique hm T.g
  subst em
  obtain ⟨a', h1, h3⟩ := H (woOf p q ls a es w (ExcName.means s₀.heap) m mb) rfl ⟨⟨_, fun h x => x.1⟩, ⟨hmx, fun h x => x.2.1⟩, ⟨_, T, hY, hnb⟩, fun h x => x.2.2⟩ ns hn
  have ea : a' = fa := by
    have : m d.name = some (.ref a') := h1
    rw [hmg] at this
    cases this; rfl
  subst ea
  rw [hp]
  refine enter_call (codeAny_mono (h3 s₁ [.ref la] ⟨T, hY, hnb⟩ (.cons ⟨la, vs.toArray, rfl, nofun, ⟨_, hl⟩, ?_⟩ .nil)) fun res s' ⟨v, ev, k, rv⟩ => ?_)
  · exact well_ints hwv
  · subst ev
    cases rv
    obtain ⟨h', tk, gs, rfl, up, gk⟩ := k
    refine ⟨.inl ⟨.bool true, .bool true, [], rfl, raisesW_false (by rw [e6]; exact allW_false_nil), ReadsW.bool _, postW_of (X := true) (by rw [e4, e1]; rfl) (by rw [e5]; simp [WTm.value, same]; try rfl) rfl, fun _ => ⟨List.nodup_nil, fun a m => nomatch m⟩⟩, OldK.of_keep up, rfl, gk.2.2 (.of_eq hg)⟩
end Mine
namespace Mine
open Hd
@[irreducible] noncomputable def dLaw1 : DefRec := ((recsOf q1).find? fun d => d.name == Str.ofString "law").getD ⟨Str.ofString "law", default, [], default, default⟩
set_option maxRecDepth 100000
theorem f_pw : PySem.Challenge.rw_wr0039_01.row.prog = pw := by unfold pw; rfl
theorem xT_parts {s : Shared} (e : xT s = true) : xlAt q1 [] s = true ∧ recOk [] s = true := by unfold xT at e; exact Bool.and_eq_true_iff.mp e
theorem top1 (H : ∀ (Ω : Wo), Ω.prog = pw → LawOk q1 [bNm] bNm 43 dTab Ω → ∀ ns : List Int, ns.length ≤ 63 → FnC Ω dLaw1.name [.list (ns.map .int)] (pB true)) :
    PySem.Challenge.rw_wr0039_01.Holds := by
  w_on
  refine PySem.W.holds_law ?wsaid fun said => ?_
  case wsaid => kernel_rfl
  refine PySem.W.holds_open (q := q1) (loose := [bNm]) (Xt := xT) (XP := XL q1 []) (Yf := yF) (Ya := yA) (YP := fun _ h => (h.get? 43 = some (Hd.dObj dTab) ∧ ∃ m, h.Ns mainGlobals m ∧ m bNm = some (.ref 43)) ∧ NoneBooked h) (N := fuel) (d := dLaw1) (kwd := [])
    ?left (fun w s h => y1 s w h) (fun w h h' x k => ⟨⟨k _ _ x.1.1, let ⟨m, a, b⟩ := x.1.2; ⟨m, a.keeps k, b⟩⟩, let ⟨m, e, n⟩ := x.2; ⟨m, e.keeps k, n⟩⟩) ?hx XL.keeps ?hdef ?hp ?hk ?rf (by rfl) (by first | assumption | decide +kernel) (by decide +kernel) ⟨rfl, rfl, rfl, rfl, rfl, by decide +kernel⟩ ?hw ?hc
  case hw => w_witness2
  case left => rw [f_pw]; exact left1
  case hx => exact fun s e => xl_of s (xT_parts e).1
  case hdef => kernel_rfl
  case hp => kernel_rfl
  case hk => kernel_rfl
  case rf => exact fun s e => recFacts_of (xT_parts e).2
  case hc => exact walk_law rfl rfl rfl rfl rfl rfl rfl rfl rfl (by rw [f_pw]; exact H)
end Mine
end
section
open PySem PySem.W PyProof.Rows PySem.Calls
namespace Mine
noncomputable abbrev st1 (i : Nat) : Stmt := PySem.Challenge.pw_wr0039_01.main.body.getD i (.Pass default)
noncomputable def fnName : Stmt → Str
  | .FunctionDef n _ _ _ _ _ _ _ _ _ => n
  | _ => Str.empty
noncomputable def fnParams : Stmt → Arguments
  | .FunctionDef _ a _ _ _ _ _ _ _ _ => a
  | _ => default
noncomputable def fnBody : Stmt → List Stmt
  | .FunctionDef _ _ b _ _ _ _ _ _ _ => b
  | _ => []
noncomputable def fnScope : Stmt → Scope
  | .FunctionDef _ _ _ _ _ _ s _ _ _ => s
  | _ => default
noncomputable def fnPos : Stmt → Pos
  | .FunctionDef _ _ _ _ _ _ _ _ _ p => p
  | _ => default
noncomputable abbrev recOf (s : Stmt) : DefRec := ⟨fnName s, fnParams s, fnBody s, fnScope s, fnPos s⟩
theorem fnrec_of {q : Program} {ls : List Str} {x : Str} {a : Addr} {es : List DictEntry} {Ω : Wo} (L : LawOk q ls x a es Ω) {d : DefRec} (h : (recsOf q).find? (fun e => e.name == d.name) = some d) : FnRec Ω d.name d.params d.body d.scope := by
  have hm := List.mem_of_find?_eq_some h
  obtain ⟨mean, ht⟩ := L.top
  obtain ⟨h₀, ok₀⟩ := L.some
  obtain ⟨a, o, pm, cd, doc, h1, h2, h3, h4⟩ := (ht h₀ ok₀).fn d hm
  refine ⟨a, h1, fun h ok => ?_⟩
  obtain ⟨a', o, pm, cd, doc, h1', h2, h3, h4⟩ := (ht h ok).fn d hm
  rw [h1] at h1'
  cases h1'
  exact ⟨o, pm, cd, doc, h2, h3, h4⟩
theorem bname_of {q : Program} {ls : List Str} {x : Str} {a : Addr} {es : List DictEntry} {Ω : Wo} (L : LawOk q ls x a es Ω) {n : Str} {v : Value} (h1 : n ∉ startupNames) (h2 : n ∉ looseW q ls) (h3 : n ∉ (recsOf q).map (·.name)) (h4 : n ∉ (litsOf q).map (·.1)) (h5 : n ∉ (clssOf q (looseW q ls)).map (·.name))
    (hb : bootBuiltins n = some v) (hn : n ≠ "__name__") : Ω.mg n = none ∧ Ω.mb n = some v := by
  obtain ⟨mean, ht⟩ := L.top
  obtain ⟨h₀, ok₀⟩ := L.some
  have T := ht h₀ ok₀
  exact ⟨T.free n h1 h2 h3 h4 h5, (T.builtins n hn).trans hb⟩
theorem cval_of {q : Program} {ls : List Str} {x : Str} {a : Addr} {es : List DictEntry} {Ω : Wo} (L : LawOk q ls x a es Ω) {n : Str} {d : PyData} (h : valOf q n = some d) : ∃ v, Ω.mg n = some v ∧ ∀ h, Reads h v d [] := by
  obtain ⟨mean, ht⟩ := L.top
  obtain ⟨h₀, ok₀⟩ := L.some
  exact (ht h₀ ok₀).const n d h
set_option maxRecDepth 100000
open Hd
end Mine
end
section
open PySem PySem.W PyProof.Rows PySem.Calls
namespace Mine
open Hd
set_option maxRecDepth 100000
noncomputable def cmp3 (a b : List Nat) : Int := b2i (decide (b < a)) - b2i (decide (a < b))
noncomputable abbrev Law1 (Ω : Wo) : Prop := LawOk q1 [bNm] bNm 43 dTab Ω
theorem f_strcoll {Ω : Wo} (L : Law1 Ω) {q : Bool} {d : Nat} {a b : List Nat} : Fn Ω q (d + 1) (Str.ofString "_strcoll") [pL a, pL b] (pI (cmp3 a b)) := by
  refine fn_intro (ps := [Str.ofString "a", Str.ofString "b"]) (ls := []) (fnrec_of (d := recOf (st1 6)) L (by kernel_rfl)) rfl (fun pm cd doc vs hv => ?_) (by kernel_rfl) (by decide +kernel) (fun env bs O => ?_)
  · exact ba2 (fun _ _ => rfl) vs hv
  · show Tr _ _ (fnBody (st1 6)) _
    refine tr_ret (X := pI (cmp3 a b)) ?_ (.inl rfl)
    exact ev_binop (ev_compare (ev_var .here) (ev_var (.there .here)) pr_sgt) (ev_compare (ev_var .here) (ev_var (.there .here)) pr_slt) pr_bsub
end Mine
end
section
open PySem PySem.W PyProof.Rows PySem.Calls PySem.SeqAt
set_option maxRecDepth 100000
namespace Mine
open Hd
noncomputable def forBody : Stmt → List Stmt
  | .For _ _ b _ _ => b
  | _ => []
noncomputable def ifBody : Stmt → List Stmt
  | .If _ b _ _ => b
  | _ => []
noncomputable def whTest : Stmt → Expr
  | .While t _ _ _ => t
  | _ => .Constant .none 0 default
noncomputable def whBody : Stmt → List Stmt
  | .While _ b _ _ => b
  | _ => []
noncomputable def forTgt : Stmt → Expr
  | .For t _ _ _ _ => t
  | _ => .Constant .none 0 default
noncomputable abbrev gSt : Stmt := st1 8
noncomputable abbrev gFor : Stmt := (fnBody gSt).getD 1 (.Pass default)
noncomputable abbrev gB : List Stmt := forBody gFor
noncomputable abbrev gW : Stmt := (ifBody (gB.getD 1 (.Pass default))).getD 1 (.Pass default)
noncomputable abbrev lastN : Str := Str.ofString "last_interval"
noncomputable abbrev intN : Str := Str.ofString "interval"
noncomputable abbrev gnm : List (Str × NameKind) := (fnScope gSt).names
noncomputable def gR (items : Nat → Option Int) (N : Nat) (wr : List Addr) : GenEnd := fun n s₀ r s₁ => r = .ok (.ret .none) ∧ items (N - n) = none ∧ Chg wr s₀ s₁
noncomputable def gY (Ω : Wo) (items : Nat → Option Int) (N : Nat) (wr fp : List Addr) : Protocol := fun m s₀ v s' kap => ∃ x t, v = .int x t ∧ Chg wr s₀ s' ∧ (∀ b ∈ wr, (s'.heap.get? b).isSome = true) ∧
  (m ≠ 0 → items (N - 1 - m) = some x ∧ ∀ s'', (∀ b ∈ fp, ∀ o, s'.heap.get? b = some o → s''.heap.get? b = some o) → OkB Ω wr s''.heap → kap (.send .none) s'')
section
variable {Ω : Wo} {env : Env} {A : Around} {wr fp : List Addr} {items : Nat → Option Int} {N : Nat}
theorem var_at {h : Heap} {m : Str → Option Value} {x : Str} {v : Value} (eo : EnvOk env gnm) (hm : h.Ns env.locals m) (hx : m x = some v) (hk : gnm.lookup x = some .local) : VarAt env h x v := .inl ⟨eo.kinds _ _ hk (by decide), m, hm, hx⟩
theorem last_rep {last : Option Int} {v : Value} (h : LastIs last v) (O : List Addr) (hp : Heap) : Rep O hp v (lastPV last) := by
  cases last with
  | none => have e : v = .none := h; subst e; exact Carried.none
  | some l => obtain ⟨t, rfl⟩ := h; exact Carried.int _ _
noncomputable abbrev c2 (env : Env) : Code := .whileLoop (whTest gW) (whBody gW) [] env
theorem gi_rep (eo : EnvOk env gnm) (hco : env.scope.isCoroutine = false) {fs : List Frame} (hA : AOk 2 (A.over (c2 env) fs)) (hfs : splitAtGen fs = none) (hfg : fs.any Frame.guarded = false) (hL : env.locals ∈ fp) (hsub : ∀ b ∈ wr, b ∈ fp) (l : Int) :
    ∀ n s₀ s, n ≤ N → (∀ k, N - n ≤ k → items k = some l) → Chg wr s₀ s → OkB Ω wr s.heap → (∀ b ∈ wr, (s.heap.get? b).isSome = true) → (∃ m lv, s.heap.Ns env.locals m ∧ m lastN = some lv ∧ LastIs (some l) lv) →
      Seg (model Ω.prog Ω.w) A (gR items N wr) (gY Ω items N wr fp) n s₀ (c2 env) ((model Ω.prog Ω.w).den (c2 env)) fs s := by
  have hi : interactive env = false := by unfold interactive; rw [eo.kind]; rfl
  have st : ∀ s : Shared, OkB Ω wr s.heap → (∃ m lv, s.heap.Ns env.locals m ∧ m lastN = some lv ∧ LastIs (some l) lv) → St ⟨Ω, true, 2, gnm, [lastN], env, s, [], [], fun _ => True⟩ ⟨[pI l], []⟩ s := fun s ok ⟨m, lv, hm, hx, hl⟩ =>
    gst eo ok.ok fun x X a _ => by
      cases a with
      | here => exact ⟨lv, var_at eo hm hx (by kernel_rfl), last_rep hl _ _⟩
      | there a => cases a
  intro n
  induction n with
  | zero =>
    intro s₀ s hn hit hc ok hlv hl
    refine seg_whileLoop (evb_of (c := ⟨Ω, true, 2, gnm, [lastN], env, s, [], [], fun _ => True⟩) (σ := ⟨[pI l], []⟩) (b := true) (evb_plain ev_bool tv_bool) hA (st s ok hl) fun s₁ k => ?_)
    rw [if_pos rfl]
    refine seg_execs_cons ?_
    refine seg_Expr_Yield0 hfs rfl hfg (ev_of (c := ⟨Ω, true, 2, gnm, [lastN], env, s, [], [], fun _ => True⟩) (σ := ⟨[pI l], []⟩) (ev_var .here) hA ((st s ok hl).up k) fun v s₂ k₂ r => ?_) hco hi
    cases r
    exact ⟨l, _, rfl, (hc.trans (.of_kk k)).trans (.of_kk k₂), fun b m => isSome_up (k.trans k₂).up (hlv b m), fun h => absurd rfl h⟩
  | succ n ih =>
    intro s₀ s hn hit hc ok hlv hl
    refine seg_whileLoop (evb_of (c := ⟨Ω, true, 2, gnm, [lastN], env, s, [], [], fun _ => True⟩) (σ := ⟨[pI l], []⟩) (b := true) (evb_plain ev_bool tv_bool) hA (st s ok hl) fun s₁ k => ?_)
    rw [if_pos rfl]
    refine seg_execs_cons ?_
    refine seg_Expr_Yield hfs rfl hfg (ev_of (c := ⟨Ω, true, 2, gnm, [lastN], env, s, [], [], fun _ => True⟩) (σ := ⟨[pI l], []⟩) (ev_var .here) hA ((st s ok hl).up k) fun v s₂ k₂ r kap hk => ?_) hco hi
    cases r
    refine ⟨l, _, rfl, (hc.trans (.of_kk k)).trans (.of_kk k₂), fun b m => isSome_up (k.trans k₂).up (hlv b m), fun h => ⟨hit _ (by omega), fun s'' hkeep hok => hk .none s'' ?_⟩⟩
    refine seg_execs_nil (seg_again (by rfl) (ih s'' s'' (by omega) (fun k hk => hit k (by omega)) (Chg.refl _ _) hok (fun b m => by
      obtain ⟨o, e⟩ := Option.isSome_iff_exists.mp (isSome_up (k.trans k₂).up (hlv b m))
      rw [hkeep b (hsub b m) o e]; rfl) ?_))
    obtain ⟨m, lv, hm, hx, hl⟩ := hl
    have hm2 : s₂.heap.Ns env.locals m := (hm.keeps k.up).keeps k₂.up
    obtain ⟨o, es, ep, ho, r⟩ := hm2
    exact ⟨m, lv, ⟨o, es, ep, hkeep _ hL o ho, r⟩, hx, hl⟩
theorem char_max (L : Law1 Ω) : ∃ v, Ω.mg (Str.ofString "CHAR_MAX") = some v ∧ Carried v (.int 127) := by
  obtain ⟨v, h1, h2⟩ := cval_of L (n := Str.ofString "CHAR_MAX") (d := .int 127) (by kernel_rfl)
  refine ⟨v, h1, ?_⟩
  have := h2 default
  cases this
  exact .int _ _
noncomputable abbrev c1 (env : Env) (I : Addr) : Code := .forLoop (forTgt gFor) (.ref I) gB [] env
noncomputable abbrev kF (env : Env) (I : Addr) : Flow → Sem Fin := fun f => match f with
  | .next | .cont => .pure (.again (c1 env I))
  | .brk => .pure (.done .next)
  | .ret v => .pure (.done (.ret v))
theorem gi_turn (L : Law1 Ω) (eo : EnvOk env gnm) (hco : env.scope.isCoroutine = false) {I l : Addr} {vs : Array Value} {fs : List Frame} (hA : AOk 2 (A.over (c1 env I) fs)) (hA2 : ∀ k lv p, AOk 2 (A.over (c2 env) (.ret k none false lv (c1 env I) p [] :: fs)))
    (hfs : splitAtGen fs = none) (hfg : fs.any Frame.guarded = false) (hfp : fp = [env.locals, I, l]) (hwr : wr = [env.locals, I]) (hLI : env.locals ≠ I) (hLl : env.locals ≠ l)
    (hexit : ∀ c n s₀ s (f : Flow), (f = .next ∨ f = .ret .none) → gR items N wr n s₀ (.ok (.ret .none)) s → Seg (model Ω.prog Ω.w) A (gR items N wr) (gY Ω items N wr fp) n s₀ c (.pure (.done f)) fs s)
    {x : Int} {r : List Int} {last : Option Int} {j : Nat} (hok : gok last (x :: r) = true)
    (ih : ∀ n s₀ s, gok (some x) r = true → n ≤ N → (∀ k, items (N - n + k) = gnth (some x) r k) → Chg wr s₀ s → OkB Ω wr s.heap → (∃ m lv, s.heap.Ns env.locals m ∧ m lastN = some lv ∧ LastIs (some x) lv) → s.heap.IsListIter I l (j + 1) → s.heap.IsList l vs →
      Seg (model Ω.prog Ω.w) A (gR items N wr) (gY Ω items N wr fp) n s₀ (c1 env I) ((model Ω.prog Ω.w).den (c1 env I)) fs s)
    {n : Nat} {s₀ s3 : Shared} (hnN : n ≤ N) (hit : ∀ k, items (N - n + k) = gnth last (x :: r) k) (hc : Chg wr s₀ s3) (ok3 : OkB Ω wr s3.heap) {m3 : Str → Option Value} {v lv : Value} (hn3 : s3.heap.Ns env.locals m3) (hv3 : m3 intN = some v) (cv : Carried v (.int x)) (hx3 : m3 lastN = some lv) (hlast : LastIs last lv)
    (hI3 : s3.heap.IsListIter I l (j + 1)) (hl3 : s3.heap.IsList l vs) :
    Seg (model Ω.prog Ω.w) A (gR items N wr) (gY Ω items N wr fp) n s₀ (c1 env I) ((execs gB env).wrap (kF env I) (noted env) id id) fs s3 := by
  have hi : interactive env = false := by unfold interactive; rw [eo.kind]; rfl
  obtain ⟨vm, hvm, cvm⟩ := char_max L
  have st3 : ∀ s' : Shared, KK true s3 s' → St ⟨Ω, true, 2, gnm, [intN, lastN], env, s3, [], [], fun _ => True⟩ ⟨[pI x, lastPV last], []⟩ s' := fun s' k => (gst eo ok3.ok fun y Y a _ => by
      cases a with
      | here => exact ⟨v, var_at eo hn3 hv3 (by kernel_rfl), cv⟩
      | there a =>
        cases a with
        | here => exact ⟨lv, var_at eo hn3 hx3 (by kernel_rfl), last_rep hlast _ _⟩
        | there a => cases a).up k
  have old : ∀ {s' : Shared}, KK true s3 s' → s'.heap.Ns env.locals m3 ∧ s'.heap.IsListIter I l (j + 1) ∧ s'.heap.IsList l vs := fun k => ⟨hn3.keeps k.up, let ⟨o, e, q⟩ := hI3; ⟨o, k.up _ _ e, q⟩, let ⟨o, e, q⟩ := hl3; ⟨o, k.up _ _ e, q⟩⟩
  have lv3 : ∀ {s' : Shared}, KK true s3 s' → ∀ b ∈ wr, (s'.heap.get? b).isSome = true := fun k b m => by
    obtain ⟨⟨o, es, ep, ho, _⟩, ⟨o', ho', _⟩, _⟩ := old k
    rw [hwr] at m
    rcases List.mem_cons.mp m with rfl | m
    · rw [ho]; rfl
    · rw [List.mem_singleton] at m; subst m; rw [ho']; rfl
  refine seg_execs_cons (seg_If ?_)
  refine evb_of (c := ⟨Ω, true, 2, gnm, [intN, lastN], env, s3, [], [], fun _ => True⟩) (σ := ⟨[pI x, lastPV last], []⟩) (b := x == 127) ?_ hA (st3 _ (KK.refl _ _)) fun s₁ k₁ => ?_
  · exact evb_compare (ev_var .here) (ev_global hvm cvm (by kernel_rfl)) pr_eq
  have hc1 := hc.trans (.of_kk k₁)
  by_cases h127 : x = 127
  · rw [if_pos (by simp [h127])]
    refine seg_execs_cons (seg_plain (wpAny_Return_none ?_))
    exact hexit _ n s₀ _ (.ret .none) (.inr rfl) ⟨rfl, by have := hit 0; simpa [gnth, h127] using this, hc1⟩
  rw [if_neg (by simp [h127])]
  refine seg_execs_nil (seg_execs_cons (seg_If ?_))
  refine evb_of (c := ⟨Ω, true, 2, gnm, [intN, lastN], env, s3, [], [], fun _ => True⟩) (σ := ⟨[pI x, lastPV last], []⟩) (b := x == 0) ?_ hA (st3 _ k₁) fun s₂ k₂ => ?_
  · exact evb_compare (ev_var .here) ev_int pr_eq
  have k12 := k₁.trans k₂
  have hc2 := hc1.trans (.of_kk k₂)
  by_cases h0 : x = 0
  · rw [if_pos (by simp [h0])]
    unfold gok at hok
    rw [if_neg h127, if_pos h0] at hok
    obtain ⟨q, rfl⟩ := Option.isSome_iff_exists.mp hok
    refine seg_execs_cons (seg_If ?_)
    refine evb_of (c := ⟨Ω, true, 2, gnm, [intN, lastN], env, s3, [], [], fun _ => True⟩) (σ := ⟨[pI x, pI q], []⟩) (b := false) ?_ hA (st3 _ k12) fun s₄ k₄ => ?_
    · exact evb_compare (ev_var (.there .here)) ev_none pr_isNone
    rw [if_neg (by decide)]
    refine seg_execs_nil (seg_execs_cons (seg_While fun p => ?_))
    have k := k12.trans k₄
    exact gi_rep eo hco (hA2 _ _ p) (by simpa [splitAtGen] using hfs) (by simpa [Frame.guarded] using hfg) (by rw [hfp]; simp) (by rw [hfp, hwr]; simp) q n s₀ s₄ hnN (fun k hk => by
      have := hit (k - (N - n))
      rw [show N - n + (k - (N - n)) = k by omega] at this
      rw [this]
      simp [gnth, h127, h0]) (hc2.trans (.of_kk k₄)) (ok3.chg (.of_kk k)) (lv3 k) ⟨m3, lv, (old k).1, hx3, hlast⟩
  rw [if_neg (by simp [h0])]
  refine seg_execs_nil (seg_execs_cons ?_)
  cases n with
  | zero =>
    refine seg_Expr_Yield0 hfs rfl hfg (ev_of (c := ⟨Ω, true, 2, gnm, [intN, lastN], env, s3, [], [], fun _ => True⟩) (σ := ⟨[pI x, lastPV last], []⟩) (ev_var .here) hA (st3 _ k12) fun v s₄ k₄ r => ?_) hco hi
    cases r
    exact ⟨x, _, rfl, hc2.trans (.of_kk k₄), lv3 (k12.trans k₄), fun h => absurd rfl h⟩
  | succ n =>
    refine seg_Expr_Yield hfs rfl hfg (ev_of (c := ⟨Ω, true, 2, gnm, [intN, lastN], env, s3, [], [], fun _ => True⟩) (σ := ⟨[pI x, lastPV last], []⟩) (ev_var .here) hA (st3 _ k12) fun v' s₄ k₄ r kap hkap => ?_) hco hi
    cases r
    refine ⟨x, _, rfl, hc2.trans (.of_kk k₄), lv3 (k12.trans k₄), fun hne => ⟨?_, fun s'' hkeep hok'' => hkap .none s'' ?_⟩⟩
    · have := hit 0
      rw [show N - (n + 1) + 0 = N - 1 - n by omega] at this
      simpa [gnth, h127, h0] using this
    · obtain ⟨hn4, hI4, hl4⟩ := old (k12.trans k₄)
      have kp : ∀ b, b = env.locals ∨ b = I ∨ b = l → ∀ o, s₄.heap.get? b = some o → s''.heap.get? b = some o := fun b hb => hkeep b (by rw [hfp]; simpa using hb)
      have hn5 : s''.heap.Ns env.locals m3 := let ⟨o, es, ep, ho, q⟩ := hn4; ⟨o, es, ep, kp _ (.inl rfl) _ ho, q⟩
      have hI5 : s''.heap.IsListIter I l (j + 1) := let ⟨o, ho, q⟩ := hI4; ⟨o, kp _ (.inr (.inl rfl)) _ ho, q⟩
      have hl5 : s''.heap.IsList l vs := let ⟨o, ho, q⟩ := hl4; ⟨o, kp _ (.inr (.inr rfl)) _ ho, q⟩
      have st5 : St ⟨Ω, true, 2, gnm, [intN], env, s'', [], [], fun _ => True⟩ ⟨[pI x], []⟩ s'' := gst eo hok''.ok fun y Y a _ => by
        cases a with
        | here => exact ⟨v, var_at eo hn5 hv3 (by kernel_rfl), cv⟩
        | there a => cases a
      refine seg_execs_cons (seg_plain (wpAny_Assign_Name (ev_of (c := ⟨Ω, true, 2, gnm, [intN], env, s'', [], [], fun _ => True⟩) (σ := ⟨[pI x], []⟩) (ev_var .here) hA st5 fun u s6 k6 r6 => ?_) (by rfl)))
      cases r6
      rename_i t6
      refine wpAny_storeName_local (eo.kinds _ _ (by kernel_rfl) (by decide)) (hn5.keeps k6.up) (fun h7 hn7 hs7 => ?_) (by rw [eo.kind]; rfl)
      refine seg_execs_nil (seg_again (by rfl) ?_)
      have hgk : gok (some x) r = true := by unfold gok at hok; rw [if_neg h127, if_neg h0] at hok; exact hok
      refine ih n s'' _ hgk (by omega) (fun k => ?_) ((Chg.of_kk k6).trans ⟨h7, _, rfl, fun b o nb e => hs7.extBut b o (fun z => nb (by rw [hwr, z]; simp)) e⟩) ?_ ⟨_, .int x t6, hn7, by simp, t6, rfl⟩ ?_ ?_
      · have := hit (k + 1)
        rw [show N - (n + 1) + (k + 1) = N - n + k by omega] at this
        simpa [gnth, h127, h0] using this
      · exact hok''.chg ((Chg.of_kk k6).trans ⟨h7, _, rfl, fun b o nb e => hs7.extBut b o (fun z => nb (by rw [hwr, z]; simp)) e⟩)
      · exact (show s6.heap.IsListIter I l (j + 1) from let ⟨o, ho, q⟩ := hI5; ⟨o, k6.up _ _ ho, q⟩).extBut hs7.extBut hLI.symm
      · exact (show s6.heap.IsList l vs from let ⟨o, ho, q⟩ := hl5; ⟨o, k6.up _ _ ho, q⟩).extBut hs7.extBut hLl.symm
theorem gi_scan (L : Law1 Ω) (eo : EnvOk env gnm) (hco : env.scope.isCoroutine = false) {I l : Addr} {vs : Array Value} {ruler : List Int} {fs : List Frame} (hA : AOk 2 (A.over (c1 env I) fs)) (hA2 : ∀ k lv p, AOk 2 (A.over (c2 env) (.ret k none false lv (c1 env I) p [] :: fs)))
    (hfs : splitAtGen fs = none) (hfg : fs.any Frame.guarded = false) (hfp : fp = [env.locals, I, l]) (hwr : wr = [env.locals, I]) (hne : l ≠ I) (hLI : env.locals ≠ I) (hLl : env.locals ≠ l) (hv : CarriedAll vs.toList (ruler.map .int))
    (hexit : ∀ c n s₀ s (f : Flow), (f = .next ∨ f = .ret .none) → gR items N wr n s₀ (.ok (.ret .none)) s → Seg (model Ω.prog Ω.w) A (gR items N wr) (gY Ω items N wr fp) n s₀ c (.pure (.done f)) fs s) :
    ∀ rest j last n s₀ s, rest = ruler.drop j → j ≤ ruler.length → gok last rest = true → n ≤ N → (∀ k, items (N - n + k) = gnth last rest k) → Chg wr s₀ s → OkB Ω wr s.heap → (∃ m lv, s.heap.Ns env.locals m ∧ m lastN = some lv ∧ LastIs last lv) → s.heap.IsListIter I l j → s.heap.IsList l vs →
      Seg (model Ω.prog Ω.w) A (gR items N wr) (gY Ω items N wr fp) n s₀ (c1 env I) ((model Ω.prog Ω.w).den (c1 env I)) fs s := by
  have hi : interactive env = false := by unfold interactive; rw [eo.kind]; rfl
  have hn := carried_len hv
  rw [Array.length_toList, List.length_map] at hn
  obtain ⟨vm, hvm, cvm⟩ := char_max L
  have W := Walks.list (prog := Ω.prog) (w := Ω.w) (A := A.over (c1 env I) fs) hA.hh I l hne vs
  intro rest
  induction rest with
  | nil =>
    intro j last n s₀ s hr hjl _ hnN hit hc ok _ hI hl
    have hj : vs.size ≤ j := by
      have := congrArg List.length hr
      simp at this
      omega
    have hje : j = vs.size := by omega
    subst hje
    refine seg_forLoop (W.done s _ _ ⟨hI, hl⟩ fun h' tk hk => ?_)
    refine seg_again (by rfl) (hexit _ n s₀ _ .next (.inl rfl) ⟨rfl, by have := hit 0; simpa [gnth] using this, hc.trans ⟨h', tk, rfl, fun b o nb e => hk b o (fun m => nb (by rw [hwr]; rw [List.mem_singleton] at m; rw [m]; simp)) e⟩⟩)
  | cons x r ih =>
    intro j last n s₀ s hr hjl hok hnN hit hc ok hl hI hlist
    have hj : ruler[j]? = some x := by
      have : (ruler.drop j)[0]? = some x := by rw [← hr]; rfl
      simpa using this
    have hlt : j < ruler.length := (List.getElem?_eq_some_iff.mp hj).1
    have hr' : r = ruler.drop (j + 1) := by
      have := congrArg (List.drop 1) hr
      simpa [List.drop_drop] using this
    refine seg_forLoop (W.item j s _ _ (by omega) ⟨hI, hlist⟩ fun v h' tk hP hst hk => ?_)
    obtain ⟨u, hu, cu⟩ := carried_at hv (n := j) (d := .int x) (by simp [hj])
    have hvu : v = u := by
      rw [Array.getElem?_toList] at hu
      rw [hu] at hP; cases hP; rfl
    subst hvu
    show wpAny _ _ (pure ()) _ _ _
    refine wpAny_pure (wpAny_assign_Name ?_)
    obtain ⟨m, lv, hm, hx, hlast⟩ := hl
    have hm1 : h'.Ns env.locals m := by
      obtain ⟨o, es, ep, ho, q⟩ := hm
      exact ⟨o, es, ep, hk _ _ (by simpa using hLI) ho, q⟩
    refine wpAny_storeName_local (eo.kinds _ _ (by kernel_rfl) (by decide)) hm1 (fun h'' hn'' hs'' => ?_) (by rw [eo.kind]; rfl)
    have hIs : h'.IsListIter I l (j + 1) := hst.1
    have hls : h'.IsList l vs := hst.2
    have hI3 : h''.IsListIter I l (j + 1) := hIs.extBut hs''.extBut hLI.symm
    have hl3 : h''.IsList l vs := hls.extBut hs''.extBut hLl.symm
    have hc3 : Chg wr s { s with heap := h'', toks := tk + 1 } := ⟨h'', _, rfl, fun b o nb e => hs''.extBut b o (fun z => nb (by rw [hwr, z]; simp)) (hk b o (fun m => nb (by rw [hwr]; rw [List.mem_singleton] at m; rw [m]; simp)) e)⟩
    have ok3 : OkB Ω wr h'' := ok.chg hc3
    have hx3 : (fun z => if z = intN then some v else m z) lastN = some lv := by
      show (if lastN = intN then some v else m lastN) = some lv
      rw [if_neg (by decide +kernel)]; exact hx
    exact gi_turn L eo hco hA hA2 hfs hfg hfp hwr hLI hLl hexit (j := j) (vs := vs) hok (fun n s₀ s h1 h2 h3 h4 h5 h6 h7 h8 => ih (j + 1) (some x) n s₀ s hr' (by omega) h1 h2 h3 h4 h5 h6 h7 h8) hnN hit (hc.trans hc3) ok3 hn'' (by simp) cu hx3 hlast hI3 hl3
end
end Mine
end
section
open PySem PySem.W PyProof.Rows PySem.Calls PySem.SeqAt
set_option maxRecDepth 100000
namespace Mine
open Hd
-- the generator between two items
noncomputable def GiAt (Ω : Wo) (A : Around) (a : Addr) (g : Nat) (items : Nat → Option Int) (N : Nat) (fp wr : List Addr) (i : Nat) (s : Shared) : Prop :=
  s.heap.IsGen a g ∧ (∀ b ∈ wr, (s.heap.get? b).isSome = true) ∧ ∃ gs, s.gens[g]? = some gs ∧ ∀ s'' : Shared, (∀ b ∈ fp, ∀ o, s.heap.get? b = some o → s''.heap.get? b = some o) → OkB Ω wr s''.heap →
    gs.Goes (model Ω.prog Ω.w) A.in1 (gR items (N + 2) wr) (gY Ω items (N + 2) wr fp) (N + 2 - i) (.send .none) s''
section
variable {Ω : Wo} {A : Around} {a : Addr} {g N : Nat} {fp wr : List Addr} {items : Nat → Option Int}
-- one turn
theorem gi_item (hh : A.handled = none) (hroom : A.depth < recursionLimit) (ha : a ∉ wr) (hsub : ∀ b ∈ wr, b ∈ fp) {i : Nat} {s : Shared} {gs : GenState} (hi : i < N) (hg : s.heap.IsGen a g) (hgs : s.gens[g]? = some gs) (ok : OkB Ω wr s.heap)
    (hgo : gs.Goes (model Ω.prog Ω.w) A.in1 (gR items (N + 2) wr) (gY Ω items (N + 2) wr fp) (N + 2 - i) (.send .none) (s.setGen g .running)) {Q : Option Value → Shared → Prop} {E : Value → Shared → Prop}
    (hQ : ∀ x, items i = some x → ∀ t s', GiAt Ω A a g items N fp wr (i + 1) s' → GMoved wr g s s' → Q (some (.int x t)) s') (hD : items i = none → ∀ s', GMoved wr g s s' → Q none s') : wpAny (model Ω.prog Ω.w) A (pyNext (.ref a)) Q E s := by
  refine next_fn (P := fun n s₀ s₁ => items (N + 2 - n) = none ∧ Chg wr s₀ s₁) (Y := gY Ω items (N + 2) wr fp) hh (Ω.nolim _ ok.ok) hroom hg hgs hgo (fun v s₁ gs' hb hv => ?_) (fun s₁ hp h' hk => ?_)
  · obtain ⟨x, t, rfl, hc, hl', hk⟩ := hv
    obtain ⟨hit, hkap⟩ := hk (by omega)
    rw [show N + 2 - 1 - (N + 2 - i - 1) = i by omega] at hit
    obtain ⟨h', tk, rfl, hkk⟩ := hc
    refine hQ x hit t _ ⟨let ⟨o, nm, qn, ho, r⟩ := hg; ⟨o, nm, qn, hkk a o ha ho, r⟩, hl', gs', setGen_self (gs := .running) (setGen_self hgs), fun s'' hkeep hok => ?_⟩ ⟨h', tk, _, rfl, hkk, GenOnlyQ.of ((GenOnly.setGen s g .running).trans (GenOnly.setGen _ g gs')) (setGen_self (gs := .running) (setGen_self hgs)) hb⟩
    have := hkap s'' hkeep hok
    obtain ⟨m, hm⟩ : ∃ m, N + 2 - i = m + 1 := ⟨N + 1 - i, by omega⟩
    rw [hm] at this
    rw [show N + 2 - (i + 1) = m by omega]
    exact this
  · obtain ⟨hit, h₁, tk, rfl, hkk⟩ := hp
    rw [show N + 2 - (N + 2 - i) = i by omega] at hit
    exact hD hit _ ⟨h', tk, _, rfl, fun b o nb e => hk b o (hkk b o nb e), GenOnlyQ.of ((GenOnly.setGen s g .running).trans (GenOnly.setGen _ g .finished)) (setGen_self (gs := .running) (setGen_self hgs)) rfl⟩
theorem gi_walks (hh : A.handled = none) (hroom : A.depth < recursionLimit) (ha : a ∉ wr) (hsub : ∀ b ∈ wr, b ∈ fp) : GWalks Ω A a g (a :: fp) wr items N (GiAt Ω A a g items N fp wr) where
  frame := fun i s s' st hk hg => by
    obtain ⟨h1, h2, gs, h3, h4⟩ := st
    refine ⟨let ⟨o, nm, qn, ho, r⟩ := h1; ⟨o, nm, qn, hk a (.head _) o ho, r⟩, fun b m => ?_, gs, hg _ _ h3, fun s'' hkeep hok => h4 s'' (fun b m o e => hkeep b m o (hk b (.tail _ m) o e)) hok⟩
    obtain ⟨o, e⟩ := Option.isSome_iff_exists.mp (h2 b m)
    rw [hk b (.tail _ (hsub b m)) o e]; rfl
  item := fun i s x Q E hit hi st ok hQ => by
    obtain ⟨h1, h2, gs, h3, h4⟩ := st
    exact gi_item hh hroom ha hsub hi h1 h3 ok (h4 (s.setGen g .running) (fun _ _ _ e => e) ok) (fun y hy t s' hst hm => by
      rw [hit] at hy; cases hy; exact hQ _ s' ⟨t, rfl⟩ hst hm) fun hn => by rw [hit] at hn; cases hn
  done := fun i s Q E hit hi st ok hQ => by
    obtain ⟨h1, h2, gs, h3, h4⟩ := st
    exact gi_item hh hroom ha hsub hi h1 h3 ok (h4 (s.setGen g .running) (fun _ _ _ e => e) ok) (fun y hy => by rw [hit] at hy; cases hy) fun _ s' hm => hQ s' hm
  live := fun i s st => st.2.1
noncomputable abbrev gName : Str := Str.ofString "_grouping_intervals"
noncomputable abbrev grpN : Str := Str.ofString "grouping"
theorem bindL_one {kind : Str → Option NameKind} {x : Str} {v : Value} (hk : kind x = some .local) : bindL kind [(x, v)] (fun _ => none) x = some v := bindL_at hk _ _ (by simp) (by simp)
-- the frames of the generator's loop
theorem over_loop {A : Around} {d : Nat} (hA : AOk (d + 4) A) {env : Env} {I : Addr} {k : Result → Sem PySem.Fin} {lv : List Value} {body : List Stmt} {p : Pos} : AOk d (A.in1.over (c1 env I) [.ret k none false lv (.func body env) p []]) := by
  have e1 : (A.in1.over (c1 env I) [.ret k none false lv (.func body env) p []]).depth = A.depth + 1 := rfl
  have e2 : (A.in1.over (c1 env I) [.ret k none false lv (.func body env) p []]).units = A.units + 4 := by
    show A.units + 1 + (3 + 0) + 0 = _
    omega
  exact ⟨hA.hh, by rw [e1]; have := hA.depth; omega, by rw [e2]; have := hA.units; omega⟩
theorem over_while {A : Around} {d : Nat} (hA : AOk (d + 4) A) {env : Env} {I : Addr} {k k' : Result → Sem PySem.Fin} {lv lv' : List Value} {body : List Stmt} {p p' : Pos} : AOk d (A.in1.over (c2 env) [.ret k' none false lv' (c1 env I) p' [], .ret k none false lv (.func body env) p []]) := by
  have e1 : (A.in1.over (c2 env) [.ret k' none false lv' (c1 env I) p' [], .ret k none false lv (.func body env) p []]).depth = A.depth + 1 := rfl
  have e2 : (A.in1.over (c2 env) [.ret k' none false lv' (c1 env I) p' [], .ret k none false lv (.func body env) p []]).units = A.units + 4 := by
    show A.units + 1 + (0 + (3 + 0)) + 0 = _
    omega
  exact ⟨hA.hh, by rw [e1]; have := hA.depth; omega, by rw [e2]; have := hA.units; omega⟩
end
end Mine
end
section
open PySem PySem.W PyProof.Rows PySem.Calls PySem.SeqAt
set_option maxRecDepth 100000
namespace Mine
open Hd
section
variable {Ω : Wo} {A : Around}
-- the first turn: the frame is entered, the loop begun
theorem gi_first (L : Law1 Ω) (hA : AOk 6 A) {env : Env} (eo : EnvOk env gnm) (hco : env.scope.isCoroutine = false) {l : Addr} {vs : Array Value} {ruler : List Int} {N : Nat} {s : Shared} {m : Str → Option Value} (hm : s.heap.Ns env.locals m) (hg : m grpN = some (.ref l)) (hl : s.heap.PlainList l vs) (hv : CarriedAll vs.toList (ruler.map .int)) (hok : gok none ruler = true)
    (okB : OkB Ω [env.locals, s.heap.objs.size] s.heap) :
    Seg (model Ω.prog Ω.w) A.in1 (gR (gnth none ruler) N [env.locals, s.heap.objs.size]) (gY Ω (gnth none ruler) N [env.locals, s.heap.objs.size] [env.locals, s.heap.objs.size, l]) N s (.func (fnBody gSt) env) ((model Ω.prog Ω.w).den (.func (fnBody gSt) env)) [] s := by
  refine seg_func ?_
  refine seg_execs_cons (seg_plain (wpAny_Assign_Name (wpAny_pure ?_) (by rfl)))
  refine wpAny_storeName_local (eo.kinds _ _ (by kernel_rfl) (by decide)) hm (fun h4 hn4 hs4 => ?_) (by rw [eo.kind]; rfl)
  have hLl : env.locals ≠ l := (list_ne_ns hl hm).symm
  have hIs : l ≠ s.heap.objs.size := fun z => by obtain ⟨n, e⟩ := hl; rw [z, none_size] at e; cases e
  have hLI : env.locals ≠ s.heap.objs.size := fun z => by obtain ⟨o, es, ep, e, _⟩ := hm; rw [z, none_size] at e; cases e
  have hl4 : h4.PlainList l vs := let ⟨n, e⟩ := hl; ⟨n, (hs4.2 l hLl.symm).trans e⟩
  have hsz : h4.objs.size = s.heap.objs.size := hs4.1
  refine seg_execs_cons (seg_For ?_)
  refine wpAny_Name (wpAny_loadName_local eo.kind (eo.kinds _ _ (by kernel_rfl) (by decide)) hn4 (v := .ref l) ?_ ?_) (by decide +kernel)
  · show (if grpN = lastN then some Value.none else m grpN) = some (.ref l)
    rw [if_neg (by decide +kernel)]; exact hg
  refine wpAny_pyIter_list hl4.isList fun p => ?_
  show Seg _ _ _ _ N s (.forLoop _ (.ref h4.objs.size) _ _ env) _ _ _
  rw [hsz]
  have hpush : ∀ b o, b ∉ [env.locals, s.heap.objs.size] → s.heap.get? b = some o → (h4.push { cls := .type "list_iterator", data := .fields #[.ref l, .int 0 0] }).get? b = some o := fun b o nb e =>
    Heap.get?_push_of_some _ ((hs4.2 b (fun z => nb (by rw [z]; simp))).trans e)
  have hc : ∀ tk, Chg [env.locals, s.heap.objs.size] s { s with heap := h4.push { cls := .type "list_iterator", data := .fields #[.ref l, .int 0 0] }, toks := tk } := fun tk => ⟨_, tk, rfl, hpush⟩
  have hit : (h4.push { cls := .type "list_iterator", data := .fields #[.ref l, .int 0 0] }).IsListIter s.heap.objs.size l 0 := by
    rw [← hsz]; exact ⟨_, Heap.get?_push_size _ rfl, rfl, rfl⟩
  refine gi_scan (A := A.in1) L eo hco (I := s.heap.objs.size) (l := l) (vs := vs) (ruler := ruler) (over_loop hA) (fun k lv p' => over_while hA) (by rfl) (by rfl) rfl rfl hIs hLI hLl hv (fun c n s₀ s' f hf hR => ?_) ruler 0 none N s _ rfl (Nat.zero_le _) hok (Nat.le_refl _) (fun k => by simp) (hc _) (okB.chg (hc _)) ⟨_, .none, hn4.push _, by simp, rfl⟩ hit (plain_up (up_push _) hl4).isList
  refine seg_leaf (.ok f) ?_
  rcases hf with rfl | rfl
  · exact seg_end (.ok (.ret .none)) hR
  · exact seg_end (.ok (.ret .none)) hR
end
end Mine
namespace Mine
open Hd
section
-- a call of the generator function
theorem gi_it {c : Cx} {σ : Sg} (L : Law1 c.Ω) {d : Nat} (hd : c.d = d + 12) (hq : c.q = false) {e : Expr} {ruler : List Int} (he : Ev c σ e (.list (ruler.map .int))) (hok : gok none ruler = true) {p pos : Pos} {N : Nat} (hN : 0 < N) (hx : c.nm.lookup gName = some .globalImplicit) (hst : noStar [e] = true := by rfl) :
    ItG c σ (.Call (.Name gName p) [e] [] pos) (gnth none ruler) N := .mk fun A s Q E hA hs hQ => by
  obtain ⟨fa, hmg, hrec⟩ := (fnrec_of (d := recOf gSt) L (by kernel_rfl)).at_
  obtain ⟨o, pm, cd, doc, ho, hdata, hcd⟩ := hrec _ hs.ok
  refine wpAny_Call_NameR (Name_function_global hs.eo.kind (hs.eo.kinds _ _ hx (by decide)) (loadGlobal_global (by rw [hs.eo.glob]; exact c.Ω.g _ hs.ok) hmg ?_) (by decide +kernel))
  refine callWith_function (o := o) (fd := _) (evalArgs_of hst (spliced_more (ev_of he hA hs fun v s₁ k r => spliced_none ⟨⟨k.up _ _ ho, hdata⟩, ?_⟩) (by cases e <;> first | rfl | (simp at hst))))
  obtain ⟨l, vs, rfl, nl, hl, hv⟩ := r
  refine wpAny_call (codeAny_call_generator (by have := hA.depth; omega) (k.up _ _ ho) hdata (by rfl) (by rfl) (body := fnBody gSt) (by rfl) (hcd.keeps k.up) ?_)
  refine wpAny_of_eq (a := [(grpN, .ref l)]) (by rfl) ?_
  refine wpAny_newFunctionEnv_cells (by rfl) (fun y hy => by rw [List.mem_singleton] at hy; subst hy; exact .inl (by kernel_rfl)) fun env henv s₂ x => ⟨c.Ω.nolim _ (c.Ω.keeps _ _ hs.ok ?_), ?_⟩
  · obtain ⟨h', tk, rfl, u⟩ := x.done
    exact Up.trans k.up u
  have hsc : env.scope = fnScope gSt := by rw [henv]; rfl
  have eo : EnvOk env gnm := ⟨by rw [hsc]; rfl, by rw [hsc], by rw [henv]; rfl, by rw [henv]; rfl, fun y k e _ => by show env.scope.names.lookup y = _; rw [hsc]; exact e, fun y e => by
    exfalso
    have : ∀ y, gnm.lookup y ≠ some .cell := fun y h => by
      have hm := lookup_mem h
      have : (gnm.all fun p => p.2 != .cell) = true := by kernel_rfl
      have := List.all_eq_true.mp this _ hm
      simp at this
    exact this y e⟩
  have hco : env.scope.isCoroutine = false := by rw [hsc]; rfl
  have hL : env.locals = s₁.heap.objs.size := by rw [henv]; rfl
  have hns := x.toInCall.ns
  have hgrp : bindL env.kindOf [(grpN, Value.ref l)] (fun _ => none) grpN = some (.ref l) := bindL_one (eo.kinds _ _ (by kernel_rfl) (by decide))
  obtain ⟨h₂, tk₂, es₂, u₂⟩ := x.done
  show wpAny c.M A (pyIter (.ref s₂.heap.objs.size)) Q E _
  suffices main : ∀ s₃ : Shared, s₃ = ({ s₂ with gens := s₂.gens.push (.fresh (.func (fnBody gSt) env)), toks := s₂.toks + 1 + 1, heap := s₂.heap.push { cls := .type "generator", data := .fields #[.int s₂.gens.size 0, .str (fnName gSt) s₂.toks, .str (fnName gSt) (s₂.toks + 1)] } } : Shared) → wpAny c.M A (pyIter (.ref s₂.heap.objs.size)) Q E s₃ from main _ rfl
  intro s₃ hs3'
  have hs3 := hs3'.symm
  have hG : s₃.heap.IsGen s₂.heap.objs.size s₂.gens.size := by rw [← hs3]; exact ⟨_, _, _, Heap.get?_push_size _ rfl, rfl, rfl, rfl⟩
  have hgs : s₃.gens[s₂.gens.size]? = some (.fresh (.func (fnBody gSt) env)) := by rw [← hs3]; exact Array.getElem?_push_size ..
  have hgens : s₂.gens = s₁.gens := by rw [es₂]
  have u3 : Up s₂.heap s₃.heap := by rw [← hs3]; exact up_push _
  have u12 : Up s₁.heap s₂.heap := by rw [es₂]; exact u₂
  have kk3 : KK c.q s₁ s₃ := by
    refine ⟨s₃.heap, s₃.toks, s₃.gens, by rw [← hs3, es₂], u12.trans u3, fun e => (by rw [hq] at e; cases e), fun i y e => ?_, fun hb => ?_⟩
    · rw [← hs3]
      show (s₂.gens.push _)[i]? = some y
      rw [hgens, Array.getElem?_push]
      have := (Array.getElem?_eq_some_iff.mp e).1
      rw [if_neg (by omega)]; exact e
    · rw [← hs3]
      show AllBare (s₂.gens.push _)
      rw [hgens]; exact hb.push rfl
  have kk : KK c.q s s₃ := k.trans kk3
  refine wpAny_pyIter_gen hG (hQ s₃ s₂.heap.objs.size kk fun Q' E' hsome hnone => ?_)
  have hsz3 : s₃.heap.objs.size = s₂.heap.objs.size + 1 := by rw [← hs3]; exact Heap.size_push _ _
  have hLlt : env.locals < s₂.heap.objs.size := hns.lt
  have nL : s.heap.get? env.locals = none := by rw [hL]; exact none_down k.up (none_size _)
  have nI : s.heap.get? s₃.heap.objs.size = none := none_down kk.up (none_size _)
  have na : s.heap.get? s₂.heap.objs.size = none := none_down (k.up.trans u12) (none_size _)
  have nw : ∀ b ∈ [env.locals, s₃.heap.objs.size], s.heap.get? b = none := fun b m => by
    rcases List.mem_cons.mp m with rfl | m
    · exact nL
    · rw [List.mem_singleton] at m; subst m; exact nI
  have hgsz : s.gens.size ≤ s₂.gens.size := by
    rw [hgens]
    by_cases hz : s.gens.size = 0
    · omega
    · have h1 := k.gens.2.1 (s.gens.size - 1) (s.gens[s.gens.size - 1]'(by omega)) (Array.getElem?_eq_getElem (by omega))
      have := (Array.getElem?_eq_some_iff.mp h1).1
      omega
  have kk' : ∀ s' : Shared, GMoved [env.locals, s₃.heap.objs.size] s₂.gens.size s₃ s' → KK c.q s s' := fun s' ⟨h', tk, gs, e', hk', hm'⟩ => by
    have g3 := kk.gens
    obtain ⟨h₃, tk₃, gs₃, e3, uu, _⟩ := id kk
    exact ⟨h', tk, gs, by rw [e', e3], fun b o e => hk' b o (fun m => by rw [nw b m] at e; cases e) (kk.up b o e), gens_moved hq g3 hgsz hm'⟩
  have ha : s₂.heap.objs.size ∉ [env.locals, s₃.heap.objs.size] := fun m => by
    rcases List.mem_cons.mp m with e | m
    · rw [← e] at hLlt; exact Nat.lt_irrefl _ hLlt
    · rw [List.mem_singleton, hsz3] at m; omega
  have hsub : ∀ b ∈ [env.locals, s₃.heap.objs.size], b ∈ [env.locals, s₃.heap.objs.size, l] := fun b m => by
    rcases List.mem_cons.mp m with rfl | m
    · simp
    · rw [List.mem_singleton] at m; subst m; simp
  have hl3 : s₃.heap.PlainList l vs := plain_up (u12.trans u3) hl
  have okB : OkB c.Ω [env.locals, s₃.heap.objs.size] s₃.heap := ⟨s.heap, hs.ok, kk.up, nw⟩
  have fst := gi_first (A := A) (N := N + 2) (s := s₃.setGen s₂.gens.size .running) L ⟨hA.hh, by have := hA.depth; omega, by have := hA.units; omega⟩ eo hco (hns.keeps u3) hgrp hl3 hv hok okB
  refine gi_item (Ω := c.Ω) (A := A) (a := s₂.heap.objs.size) (g := s₂.gens.size) (N := N) (fp := [env.locals, s₃.heap.objs.size, l]) (wr := [env.locals, s₃.heap.objs.size]) (items := gnth none ruler) (i := 0) hA.hh (by have := hA.depth; omega) ha hsub hN hG hgs okB ⟨rfl, fst⟩ (fun y hy t s' hst hm => ?_) (fun hn s' hm => hnone hn s' (kk' s' hm))
  have away : ∀ b, s.heap.get? b = none → b ∉ σ.all c := fun b hb m => by
    have := hs.live b m
    rw [hb] at this; cases this
  refine hsome y t s' s₂.gens.size (s₂.heap.objs.size :: [env.locals, s₃.heap.objs.size, l]) [env.locals, s₃.heap.objs.size] _ hy ⟨kk' s' hm, gi_walks hA.hh (by have := hA.depth; omega) ha hsub, hst, fun b m => ?_, nw, hgsz⟩
  obtain ⟨hG', hlv, _⟩ := hst
  rcases List.mem_cons.mp m with rfl | m
  · obtain ⟨o, _, _, ho, _⟩ := hG'
    exact ⟨by rw [ho]; rfl, away _ na, .inl na⟩
  rcases List.mem_cons.mp m with rfl | m
  · exact ⟨hlv _ (by simp), away _ nL, .inl nL⟩
  rcases List.mem_cons.mp m with rfl | m
  · exact ⟨hlv _ (by simp), away _ nI, .inl nI⟩
  rw [List.mem_singleton] at m; subst m
  obtain ⟨h', tk, gs, e', hk', hm'⟩ := hm
  obtain ⟨n, e⟩ := hl3
  have nlw : b ∉ [env.locals, s₃.heap.objs.size] := fun m => by
    rcases List.mem_cons.mp m with z | m
    · exact list_ne_ns ⟨n, e⟩ (hns.keeps u3) z
    · rw [List.mem_singleton] at m; subst m; rw [none_size] at e; cases e
  exact ⟨by rw [e']; show (h'.get? b).isSome = true; rw [hk' b _ nlw e]; rfl, nl, flat_down k.up (list_flat hl)⟩
end
end Mine
end
section
open PySem PySem.W PyProof.Rows PySem.Calls PySem.SeqAt
set_option maxRecDepth 100000
namespace Mine
open Hd
-- a text cut by the items
noncomputable def pcs (items : Nat → Option Int) : Nat → List Nat → Nat → List (List Nat)
  | _, _, 0 => []
  | i, t, f + 1 => match items i with
    | none => []
    | some n => t.take n.toNat :: (if t.drop n.toNat = [] then [] else pcs items (i + 1) (t.drop n.toNat) f)
theorem pcs_fuel {items : Nat → Option Int} (hp : ∀ i x, items i = some x → 1 ≤ x) : ∀ (f f' i : Nat) (t : List Nat), t.length < f → t.length < f' → pcs items i t f = pcs items i t f'
  | 0, _, _, _, h, _ => by omega
  | _, 0, _, _, _, h => by omega
  | f + 1, f' + 1, i, t, h, h' => by
    unfold pcs
    cases hi : items i with
    | none => rfl
    | some n =>
      have hn := hp i n hi
      dsimp only
      by_cases hd : t.drop n.toNat = []
      · rw [if_pos hd, if_pos hd]
      · rw [if_neg hd, if_neg hd]
        have : 0 < (t.drop n.toNat).length := List.length_pos_iff.mpr hd
        rw [List.length_drop] at this
        rw [pcs_fuel hp f f' (i + 1) (t.drop n.toNat) (by rw [List.length_drop]; omega) (by rw [List.length_drop]; omega)]
theorem sl_to {α : Type} {l : List α} {n : Int} (h : 0 ≤ n) : sl none (some n) l = l.take n.toNat := by
  unfold sl
  show (l.drop 0).take (cl l.length n - 0) = _
  rw [List.drop_zero, Nat.sub_zero, cl_nn h]
  exact List.take_eq_take_min.symm
theorem sl_from {α : Type} {l : List α} {n : Int} (h : 0 ≤ n) : sl (some n) none l = l.drop n.toNat := by
  unfold sl
  show (l.drop (cl l.length n)).take (l.length - cl l.length n) = _
  rw [List.take_of_length_le (by rw [List.length_drop]; omega)]
  rw [cl_nn h]
  by_cases hl : n.toNat ≤ l.length
  · rw [Nat.min_eq_left hl]
  · rw [Nat.min_eq_right (Nat.le_of_not_le hl), List.drop_of_length_le (Nat.le_refl _), List.drop_of_length_le (Nat.le_of_not_le hl)]
theorem ev_strl {c : Cx} {σ : Sg} {x : Str} {l : List Nat} {k : Nat} {pos : Pos} (h : x = mk l) : Ev c σ (.Constant (.str x) k pos) (pL l) := by subst h; exact ev_str
theorem setOwn_one {a : Addr} {u v : OV} : setOwn a v [(a, u)] = [(a, v)] := by unfold setOwn; rw [if_pos rfl]
noncomputable abbrev pSt : Stmt := st1 16
theorem f_pieces {Ω : Wo} (L : Law1 Ω) {d : Nat} {t : List Nat} {ruler : List Int} (hok : gok none ruler = true) (hpos : ∀ i x, gnth none ruler i = some x → 1 ≤ x) (hl : t.length ≤ 100000) :
    Fn Ω false (d + 13) (Str.ofString "_law_pieces") [pL t, .list (ruler.map .int)] (.list (txts (pcs (gnth none ruler) 0 t (t.length + 1)))) := by
  refine fn_intro (ps := [Str.ofString "text", Str.ofString "ruler"]) (ls := [Str.ofString "pieces", Str.ofString "size"]) (fnrec_of (d := recOf pSt) L (by kernel_rfl)) rfl (fun pm cd doc vs hv => ?_) (by kernel_rfl) (by decide +kernel) (fun env bs O => ?_)
  · exact ba2 (fun _ _ => rfl) vs hv
  show Tr _ _ (fnBody pSt) _
  refine tr_own (x := Str.ofString "pieces") (evn_list (ds := []) evl_nil) (fun a => .there (.there .here)) (.inl (by kernel_rfl)) (by rfl) fun a => ?_
  generalize hT : pcs (gnth none ruler) 0 t (t.length + 1) = total
  refine tr_forgen (N := t.length + 2) (gi_it (d := d) L rfl rfl (ev_var (.there .here)) hok (by omega) (by kernel_rfl)) rfl rfl rfl (.inl (by kernel_rfl))
    (fun i σ => ∃ ti done X, σ = ⟨[pL ti, .list (ruler.map .int), .val (.ref a), X], [(a, .lst (txts done))]⟩ ∧ i + ti.length ≤ t.length ∧ done.length = i ∧ done ++ pcs (gnth none ruler) i ti (ti.length + 1) = total)
    ⟨t, [], .unb, rfl, by omega, rfl, hT⟩ (fun i σ' ⟨ti, done, X, _, h, _⟩ => by omega) (fun O fp inv i σ' n hit hJ => ?_) (fun i σ' hit hJ => ?_)
  · obtain ⟨ti, done, X, rfl, hlen, hdl, htot⟩ := hJ
    have hn := hpos i n hit
    refine ⟨_, .there (.there (.there .here)), ?_⟩
    refine tr_append (a := a) (ds := txts done) (.there (.there .here)) (.head _) (ev_slice (ev_var .here) (lo := none) (hi := some n) trivial (ev_var (.there (.there (.there .here)))) (gs_str (by omega))) (by simp; omega) ?_
    refine tr_set (ev_slice (ev_var .here) (lo := some n) (hi := none) (ev_var (.there (.there (.there .here)))) trivial (gs_str (by omega))) .here ?_
    have h1 : sl none (some n) ti = ti.take n.toNat := sl_to (by omega)
    have h2 : sl (some n) none ti = ti.drop n.toNat := sl_from (by omega)
    rw [h1, h2, setOwn_one]
    have e1 : txts done ++ [.str (mk (ti.take n.toNat))] = txts (done ++ [ti.take n.toNat]) := by simp
    rw [e1]
    unfold pcs at htot
    rw [hit] at htot
    dsimp only at htot
    refine tr_if (evb_compare (ev_var .here) (ev_strl (l := []) (by decide +kernel)) pr_seq) (fun hb => ?_) (fun hb => ?_)
    · have hb : ti.drop n.toNat = [] := by simpa using hb
      refine tr_brk ?_
      rw [if_pos hb] at htot
      subst htot
      exact tr_freeze (x := Str.ofString "pieces") rfl (.there (.there .here)) (.there (.there .here)) (tr_ret (ev_var (.there (.there .here))) (.inl rfl))
    · have hb : ti.drop n.toNat ≠ [] := by simpa using hb
      refine tr_nil (tr_nil ⟨ti.drop n.toNat, done ++ [ti.take n.toNat], _, rfl, ?_, by simp [hdl], ?_⟩)
      · rw [List.length_drop]
        have : 1 ≤ ti.length - n.toNat := by
          have := List.length_pos_iff.mpr hb
          rw [List.length_drop] at this; omega
        omega
      · rw [if_neg hb] at htot
        rw [← htot, List.append_assoc]
        congr 1
        show [ti.take n.toNat] ++ pcs (gnth none ruler) (i + 1) (ti.drop n.toNat) ((ti.drop n.toNat).length + 1) = _
        have hlt : 0 < (ti.drop n.toNat).length := List.length_pos_iff.mpr hb
        rw [List.length_drop] at hlt
        rw [pcs_fuel hpos ((ti.drop n.toNat).length + 1) ti.length (i + 1) (ti.drop n.toNat) (by omega) (by rw [List.length_drop]; omega)]
        rfl
  · obtain ⟨ti, done, X, rfl, hlen, hdl, htot⟩ := hJ
    unfold pcs at htot
    rw [hit] at htot
    rw [List.append_nil] at htot
    subst htot
    exact tr_freeze (x := Str.ofString "pieces") rfl (.there (.there .here)) (.there (.there .here)) (tr_ret (ev_var (.there (.there .here))) (.inl rfl))
end Mine
end
section
open PySem PySem.W PyProof.Rows PySem.Calls PySem.SeqAt
set_option maxRecDepth 100000
namespace Mine
open Hd
-- the names of the built-ins
noncomputable def bchk (x : Str) : Option Value := if (startupNames.contains x || (looseW q1 [bNm]).contains x || ((recsOf q1).map (·.name)).contains x || ((litsOf q1).map (·.1)).contains x || ((clssOf q1 (looseW q1 [bNm])).map (·.name)).contains x || x == "__name__") = true then none else bootBuiltins x
theorem bchk_of {Ω : Wo} (L : Law1 Ω) {x : Str} {v : Value} (h : bchk x = some v) : Ω.mg x = none ∧ Ω.mb x = some v := by
  unfold bchk at h
  split at h
  · cases h
  · rename_i hn
    simp only [Bool.or_eq_true, List.contains_iff_mem, beq_iff_eq, not_or] at hn
    obtain ⟨⟨⟨⟨⟨h1, h2⟩, h3⟩, h4⟩, h5⟩, h6⟩ := hn
    exact bname_of L h1 h2 h3 h4 h5 h h6
noncomputable def bList : List (Str × Value) := [(Str.ofString "len", .builtin "len"), (Str.ofString "chr", .builtin "chr"), (Str.ofString "ord", .builtin "ord"), (Str.ofString "abs", .builtin "abs"), (Str.ofString "int", .type "int"), (Str.ofString "divmod", .builtin "divmod"), (Str.ofString "range", .type "range"), (Str.ofString "isinstance", .builtin "isinstance"), (Str.ofString "bytes", .type "bytes"), (Str.ofString "bool", .type "bool"), (Str.ofString "sum", .builtin "sum"), (Str.ofString "min", .builtin "min"), (Str.ofString "ValueError", .type "ValueError")]
theorem b_all : (bList.map fun p => bchk p.1) = bList.map fun p => some p.2 := by kernel_rfl
theorem b_len : bchk (Str.ofString "len") = some (.builtin "len") := Option.some.inj (congrArg (fun l => l[0]?) b_all)
theorem b_chr : bchk (Str.ofString "chr") = some (.builtin "chr") := Option.some.inj (congrArg (fun l => l[1]?) b_all)
theorem b_ord : bchk (Str.ofString "ord") = some (.builtin "ord") := Option.some.inj (congrArg (fun l => l[2]?) b_all)
theorem b_abs : bchk (Str.ofString "abs") = some (.builtin "abs") := Option.some.inj (congrArg (fun l => l[3]?) b_all)
theorem b_int : bchk (Str.ofString "int") = some (.type "int") := Option.some.inj (congrArg (fun l => l[4]?) b_all)
theorem b_divmod : bchk (Str.ofString "divmod") = some (.builtin "divmod") := Option.some.inj (congrArg (fun l => l[5]?) b_all)
theorem b_range : bchk (Str.ofString "range") = some (.type "range") := Option.some.inj (congrArg (fun l => l[6]?) b_all)
theorem b_isinstance : bchk (Str.ofString "isinstance") = some (.builtin "isinstance") := Option.some.inj (congrArg (fun l => l[7]?) b_all)
theorem b_bytes : bchk (Str.ofString "bytes") = some (.type "bytes") := Option.some.inj (congrArg (fun l => l[8]?) b_all)
theorem b_bool : bchk (Str.ofString "bool") = some (.type "bool") := Option.some.inj (congrArg (fun l => l[9]?) b_all)
theorem b_value : bchk (Str.ofString "ValueError") = some (.type "ValueError") := Option.some.inj (congrArg (fun l => l[12]?) b_all)
theorem bn {c : Cx} (L : Law1 c.Ω) {x : Str} {v : Value} (h : bchk x = some v) (hx : c.nm.lookup x = some .globalImplicit := by kernel_rfl) (hd : (x == ("__debug__" : Str)) = false := by decide +kernel) : BName c x v := ⟨(bchk_of L h).1, (bchk_of L h).2, hx, hd⟩
-- the typed sign
noncomputable def tabS : List Int := [0, 1, 2, 4, 7, 8, 9, 10, 11, 12]
noncomputable def signN (octet style : Int) : Nat := if style.fmod 12 < 2 then (octet + 32 * style.fmod 12).toNat else (119808 + 52 * tabS.getD (style.fmod 12 - 2).toNat 0 + octet - 65).toNat
end Mine
end
section
open PySem PySem.W PyProof.Rows PySem.Calls PySem.SeqAt
set_option maxRecDepth 100000
namespace Mine
open Hd
section
variable {c : Cx} {σ : Sg} {O : List Addr}
theorem ev_bytes {x : List UInt8} {k : Nat} {pos : Pos} : Ev c σ (.Constant (.bytes x) k pos) (.bytes x.toArray) := .mk fun A s hA hs => Constant_bytes ⟨kk_tok _, _, rfl⟩
theorem pr_badd {x y : Array UInt8} (h : x.size + y.size ≤ 1000000) : Pr c O (bin .Add) [.bytes x, .bytes y] (.bytes (x ++ y)) := pr2 fun A s v u hA ok r r₂ => by
  obtain ⟨t, rfl⟩ := r
  obtain ⟨t', rfl⟩ := r₂
  exact PySem.W.KBy.add_bytes (by omega) fun t' k => ⟨kk_tok _, _, rfl⟩
theorem gs_bytes {x y : Array UInt8} {lo hi : Option Int} (hn : PySem.W.KBy.whole x lo hi = false) (hy : PySem.W.KBy.picked x lo hi = y) (hz : y.size ≤ 1000000) : Gs c O (.bytes x) lo hi (.bytes y) := ⟨"bytes", _, FB.slot_bytes_getitem.lookup, fun A s v a vl vu hA ok r pl pu hs => by
  obtain ⟨t, rfl⟩ := r
  refine ⟨typeIs_bytes _ _ _, getItem_meets (typeIs_bytes _ _ _) (by decide) FB.slot_bytes_getitem FB.entry_bytes_getitem (FB.args_bytes_getitem_2 _ _) (PySem.W.KBy.meets_slice x t a pl pu hn) ⟨hs, by rw [hy]; exact big_size hz, kk_tok _, ?_⟩⟩
  rw [hy]; exact ⟨_, rfl⟩⟩
end
-- the figures to the base 16, the highest first
noncomputable def dg (n : Nat) : List Nat := if h : n = 0 then [] else dg (n / 16) ++ [n % 16]
noncomputable def apB (l : List Nat) : Array UInt8 := (l.map fun d => UInt8.ofNat (65 + d)).toArray
theorem dg_lt : ∀ n, ∀ d ∈ dg n, d < 16 := by
  intro n
  induction n using Nat.strongRecOn with
  | ind n ih =>
    intro d hd
    unfold dg at hd
    split at hd
    · cases hd
    · rcases List.mem_append.mp hd with h | h
      · exact ih (n / 16) (by omega) d h
      · rw [List.mem_singleton] at h; omega
theorem dg_len : ∀ k n, n < 16 ^ k → (dg n).length ≤ k := by
  intro k
  induction k with
  | zero => intro n h; have : n = 0 := by simpa using h
            subst this; unfold dg; simp
  | succ k ih =>
    intro n h
    unfold dg
    split
    · simp
    · have := ih (n / 16) (by rw [Nat.pow_succ] at h; omega)
      simp; omega
theorem ap_pick : ∀ m : Nat, m < 16 → PySem.W.KBy.whole #[65, 66, 67, 68, 69, 70, 71, 72, 73, 74, 75, 76, 77, 78, 79, 80] (some (m : Int)) (some ((m : Int) + 1)) = false ∧
    PySem.W.KBy.picked #[65, 66, 67, 68, 69, 70, 71, 72, 73, 74, 75, 76, 77, 78, 79, 80] (some (m : Int)) (some ((m : Int) + 1)) = apB [m] := by decide +kernel
theorem ap_app (a b : List Nat) : apB a ++ apB b = apB (a ++ b) := by simp [apB]
theorem f_int2ap {Ω : Wo} (L : Law1 Ω) {q : Bool} {d : Nat} {num : Int} (hn : num.natAbs < 16 ^ 20) : Fn Ω q (d + 1) (Str.ofString "Int2AP") [pI num] (.bytes (apB (dg num.natAbs))) := by
  refine fn_intro (ps := [Str.ofString "num"]) (ls := [Str.ofString "val", Str.ofString "AP", Str.ofString "mod"]) (fnrec_of (d := recOf (st1 4)) L (by kernel_rfl)) rfl (fun pm cd doc vs hv => ?_) (by kernel_rfl) (by decide +kernel) (fun env bs O => ?_)
  · exact ba1 (fun _ => rfl) vs hv
  show Tr _ _ (fnBody (st1 4)) _
  refine tr_set ev_bytes (.there .here) ?_
  refine tr_set ev_bytes (.there (.there .here)) ?_
  refine tr_set (X := pI (num.natAbs : Int)) (ev_tcall (bn L b_int) (evl_cons (ev_bcall (bn L b_abs) (evl_cons (ev_var .here) evl_nil) pr_abs) evl_nil) (pr_int.to ?_)) .here ?_
  · congr 2; split <;> omega
  refine tr_while (fun k σ => ∃ val X, σ = ⟨[pI (k : Int), .bytes (apB val), .bytes #[65, 66, 67, 68, 69, 70, 71, 72, 73, 74, 75, 76, 77, 78, 79, 80], X], []⟩ ∧ dg num.natAbs = dg k ++ val ∧ val.length + (dg k).length ≤ 20) num.natAbs ⟨[], .unb, rfl, by simp, by simpa using dg_len 20 _ hn⟩ (fun k σ' hJ => ?_)
  obtain ⟨val, X, rfl, hval, hlen⟩ := hJ
  refine ⟨_, evb_plain (ev_var .here) tv_int, fun hb => ?_, fun hb => ?_⟩
  · have hk : k ≠ 0 := by simpa using hb
    have hdg : dg k = dg (k / 16) ++ [k % 16] := by rw [dg, dif_neg hk]
    refine tr_tup (xs := [Str.ofString "num", Str.ofString "mod"]) (ps := [_, _]) (ds := [.int ((k / 16 : Nat) : Int), .int ((k % 16 : Nat) : Int)]) ?_ (by rfl) (.cons .here (.cons (.there (.there (.there .here))) .nil)) rfl rfl (by kernel_rfl) ?_
    · refine ev_bcall (bn L b_divmod) (evl_cons (ev_var .here) (evl_cons ev_int evl_nil)) ((pr_divmod (by decide) (PyProof.noPylong_small (by decide))).to ?_)
      have e1 : (k : Int).fdiv 16 = ((k / 16 : Nat) : Int) := by rw [Int.fdiv_eq_ediv_of_nonneg _ (by decide)]; rfl
      have e2 : (k : Int).fmod 16 = ((k % 16 : Nat) : Int) := by rw [Int.fmod_eq_emod_of_nonneg _ (by decide)]; rfl
      rw [e1, e2]
    · have hm : k % 16 < 16 := Nat.mod_lt _ (by decide)
      obtain ⟨p1, p2⟩ := ap_pick (k % 16) hm
      refine tr_set (X := .bytes (apB (k % 16 :: val))) ?_ (.there .here) ?_
      · refine ev_binop (ev_slice (lo := some ((k % 16 : Nat) : Int)) (hi := some (((k % 16 : Nat) : Int) + 1)) (ev_var (.there (.there .here))) (ev_var (.there (.there (.there .here)))) (ev_binop (ev_var (.there (.there (.there .here)))) ev_int pr_add) (gs_bytes p1 p2 (by simp [apB]))) (ev_var (.there .here)) ((pr_badd ?_).to ?_)
        · simp [apB]; omega
        · rw [ap_app]; rfl
      · refine tr_nil ⟨k / 16, by omega, k % 16 :: val, _, rfl, ?_, ?_⟩
        · rw [hval, hdg, List.append_assoc]; rfl
        · rw [hdg] at hlen; simp at hlen ⊢; omega
  · have hk : k = 0 := by simpa using hb
    subst hk
    have e : dg num.natAbs = val := by rw [hval]; unfold dg; simp
    rw [e]
    exact tr_ret (ev_var (.there .here)) (.inl rfl)
end Mine
end
section
open PySem PySem.W PyProof.Rows PySem.Calls PySem.SeqAt PyProof.V
set_option maxRecDepth 100000
namespace Mine
open Hd
theorem hash_small {i : Int} (h0 : 0 ≤ i) (h1 : i < 2000000) : hashInt i = i := by
  have e : rawHash i = i := by
    unfold rawHash
    have e1 : (i.natAbs : Int) % ((2 ^ 61 - 1 : Nat) : Int) = i := by omega
    dsimp only
    rw [e1, if_neg (by omega : ¬ i < 0)]
    have : (i == -1) = false := by simp; omega
    rw [this]; rfl
  unfold hashInt
  rw [e]
  have : (i == -1) = false := by simp; omega
  rw [this]; rfl
-- entries that stand for pairs
inductive EntsOf : List DictEntry → List (Int × Str) → Prop
  | nil : EntsOf [] []
  | cons {i : Int} {x : Str} {t t' : Tok} {es : List DictEntry} {l : List (Int × Str)} : EntsOf es l → EntsOf (⟨i, .int i t, .str x t'⟩ :: es) ((i, x) :: l)
theorem entsOf_ents : ∀ (t : Nat) (l : List (Int × Str)), EntsOf (ents t l) l
  | _, [] => .nil
  | t, (i, x) :: r => .cons (entsOf_ents (t + 3) r)
theorem entsOf_ents2 : ∀ (t : Nat) (l : List (Int × Str)), EntsOf (ents2 t l) l
  | _, [] => .nil
  | t, (i, x) :: r => .cons (entsOf_ents2 (t + 2) r)
theorem EntsOf.app {a b : List DictEntry} {l m : List (Int × Str)} (h : EntsOf a l) (k : EntsOf b m) : EntsOf (a ++ b) (l ++ m) := by
  induction h with
  | nil => exact k
  | cons h ih => exact .cons ih
theorem EntsOf.facts {prog : Program} {w : World} {es : List DictEntry} {l : List (Int × Str)} (h : EntsOf es l) : ∀ {b : Int}, Rising b l → -1 ≤ b →
    (∀ e ∈ es, ∃ k, (intKind prog w).is k e.key = true ∧ e.hash = (intKind prog w).hash k) ∧ ∃ kvs, Pairs (intKind prog w) es kvs ∧ (kvs.map (·.1)).Nodup ∧ (∀ k ∈ kvs.map (·.1), b < k) ∧ FlatPairs PyData.int kvs (l.map fun p => (.int p.1, .str p.2)) := by
  induction h with
  | nil => intro b _ _; exact ⟨fun e m => (nomatch m), [], .nil, List.nodup_nil, fun k m => (nomatch m), .nil⟩
  | cons h ih =>
    rename_i i x t t' es l
    intro b hr hb
    obtain ⟨h1, h2, h3⟩ := hr
    obtain ⟨a1, kvs, a2, a3, a4, a5⟩ := ih h3 (by omega)
    refine ⟨fun e m => ?_, (i, .str x t') :: kvs, .cons (by show Value.isInt i (.int i t) = true; simp [Value.isInt]) rfl a2, ?_, fun k m => ?_, .cons (Flat.str x t') a5⟩
    · rcases List.mem_cons.mp m with rfl | m
      · exact ⟨i, by show Value.isInt i (.int i t) = true; simp [Value.isInt], (hash_small (by omega) h2).symm⟩
      · exact a1 e m
    · rw [List.map_cons, List.nodup_cons]
      exact ⟨fun m => by have := a4 _ m; simp at this, a3⟩
    · rw [List.map_cons] at m
      rcases List.mem_cons.mp m with rfl | m
      · exact h1
      · have := a4 k m; omega
theorem intTab_of {prog : Program} {w : World} {h : Heap} {d : Addr} {es : List DictEntry} {l : List (Int × Str)} (ho : h.get? d = some (dObj es)) (he : EntsOf es l) (hr : Rising (-1) l) (hd : (d == sysModules) = false) : IntTab prog w h d (l.map fun p => (.int p.1, .str p.2)) := by
  obtain ⟨a1, kvs, a2, a3, _, a5⟩ := he.facts (prog := prog) (w := w) hr (by omega)
  exact ⟨hd, kvs, ⟨_, es.toArray, es.length, ho, ⟨rfl, rfl, rfl⟩, rfl, fun e m => a1 e (by simpa using m), by simpa using a2, a3⟩, a5⟩
-- what the table tells
noncomputable def b3L : List (Int × Str) := dC ++ dCs.flatten ++ dLast
theorem b3_ents : EntsOf dTab b3L := by unfold dTab b3L; exact (entsOf_ents _ _).app (entsOf_ents2 _ _)
theorem b3_rising : Rising (-1) b3L := by unfold b3L; rw [List.append_assoc]; exact rising_of f_ris
end Mine
end
section
open PySem PySem.W PyProof.Rows PySem.Calls PySem.SeqAt PyProof.V
set_option maxRecDepth 100000
namespace Mine
open Hd
noncomputable def b3D : List (PyData × PyData) := b3L.map fun p => (.int p.1, .str p.2)
noncomputable def b3get (n : Nat) : PyData := (Spec.lookup (.int n) b3D).getD .none
noncomputable def isN : PyData → Bool
  | .none => true
  | _ => false
theorem flat_carried {v : Value} {d : PyData} (h : Flat v d) (hd : ∃ x, d = .str x ∨ d = .none) : Carried v d := by
  obtain ⟨x, rfl | rfl⟩ := hd
  · have := h default
    cases this; exact .str _ _
  · have := h default
    cases this; exact .none
theorem lookup_str {k : PyData} : ∀ {l : List (Int × Str)}, ∃ x, ((Spec.lookup k (l.map fun p => (PyData.int p.1, PyData.str p.2))).getD .none) = .str x ∨ ((Spec.lookup k (l.map fun p => (PyData.int p.1, PyData.str p.2))).getD .none) = .none
  | [] => ⟨Str.empty, .inr rfl⟩
  | (i, x) :: r => by
    obtain ⟨y, hy⟩ := @lookup_str k r
    rw [List.map_cons, Spec.lookup]
    split
    · exact ⟨x, .inl rfl⟩
    · exact ⟨y, hy⟩
theorem pr_isnotNone {c : Cx} {O : List Addr} {d : PyData} : Pr c O (cmp .IsNot) [.dat d, pN] (pB (!isN d)) := pr2 fun A s v u hA ok r r₂ => by
  cases r₂; cases r <;> exact isnot_none_gen ⟨KK.refl _ _, .bool _⟩
-- a sign prepared
noncomputable def prep (n : Nat) : PyData := if isN (b3get n) = true then .str (Txt.lower (mk [n])) else b3get n
theorem f_b3 {Ω : Wo} (L : Law1 Ω) {q : Bool} {d : Nat} {n : Nat} : Fn Ω q (d + 1) (Str.ofString "map_table_b3") [pL [n]] (.dat (prep n)) := by
  refine fn_intro (ps := [Str.ofString "code"]) (ls := [Str.ofString "r"]) (fnrec_of (d := recOf (st1 11)) L (by kernel_rfl)) rfl (fun pm cd doc vs hv => ?_) (by kernel_rfl) (by decide +kernel) (fun env bs O => ?_)
  · exact ba1 (fun _ => rfl) vs hv
  show Tr _ _ (fnBody (st1 11)) _
  refine tr_set (X := .dat (b3get n)) ?_ (.there .here) ?_
  · refine .mk fun A s hA hs => ?_
    have T : ∀ s' : Shared, KK q s s' → IntTab Ω.prog Ω.w s'.heap 43 b3D := fun s' k => intTab_of (L.dict.2 _ (hs.up k).ok) b3_ents b3_rising (by decide)
    refine methodCall_KW (pl := _) (Name_function_global hs.eo.kind (hs.eo.kinds _ _ (by kernel_rfl) (by decide)) (loadGlobal_global (by rw [hs.eo.glob]; exact Ω.g _ hs.ok) L.dict.1 ?_) (by decide +kernel)) (by rfl)
    refine getMethod_intTab_get (T s (KK.refl _ _)) ?_
    refine callWith_builtin (starEach_plain (by rfl)) (evalArgs_of (by rfl) (spliced_more (ev_of (ev_bcall (bn L b_ord) (evl_cons (ev_var .here) evl_nil) pr_ord) hA hs fun v s₁ k r => spliced_none ?_) (by rfl)))
    cases r
    refine call_get1_intTab (T s₁ k) fun v hv => ⟨k.trans (kk_tok _), flat_carried hv ?_⟩
    exact lookup_str
  refine tr_if (evb_compare (ev_var (.there .here)) ev_none pr_isnotNone) (fun hb => ?_) (fun hb => ?_)
  · refine tr_ret (ev_var (.there .here)) (.inl ?_)
    unfold prep; rw [if_neg (by simpa using hb)]
  · refine tr_nil (tr_ret (X := .dat (.str (Txt.lower (mk [n])))) (ev_mcall (ev_var .here) mt_lower evl_nil (pr_lower (by simp))) (.inl ?_))
    unfold prep; rw [if_pos (by simpa using hb)]
end Mine
end
section
open PySem PySem.W PyProof.Rows PySem.Calls PySem.SeqAt PyProof.V
set_option maxRecDepth 100000
namespace Mine
open Hd
noncomputable def isStrOf (l : List Nat) : PyData → Bool
  | .str x => x == mk l
  | _ => false
theorem of_isStr {l : List Nat} {d : PyData} (h : isStrOf l d = true) : d = .str (mk l) := by
  cases d <;> first | (cases h) | skip
  rename_i x
  have : x = mk l := by simpa [isStrOf] using h
  rw [this]
-- the pairs stand in the table, in this order
noncomputable def subl : List (Nat × Nat) → List (Int × Str) → Bool
  | [], _ => true
  | _ :: _, [] => false
  | p :: r, q :: t => if q.1 = (p.1 : Int) then q.2 == mk [p.2] && subl r t else subl (p :: r) t
theorem subl_mem : ∀ {l : List (Int × Str)} {L : List (Nat × Nat)}, subl L l = true → ∀ p ∈ L, ((p.1 : Int), mk [p.2]) ∈ l
  | _, [], _, p, hp => by cases hp
  | [], _ :: _, h, _, _ => by cases h
  | q :: t, p :: r, h, p', hp => by
    have h : (if q.1 = (p.1 : Int) then q.2 == mk [p.2] && subl r t else subl (p :: r) t) = true := h
    split at h
    · rename_i e
      rw [Bool.and_eq_true, beq_iff_eq] at h
      rcases List.mem_cons.mp hp with rfl | hp
      · rw [← e, ← h.1]; exact .head _
      · exact .tail _ (subl_mem h.2 p' hp)
    · exact .tail _ (subl_mem h p' hp)
noncomputable def tabN : List Nat := [0, 1, 2, 4, 7, 8, 9, 10, 11, 12]
noncomputable def need : List (Nat × Nat) := tabN.flatMap fun r => (List.range 16).map fun f => (119808 + 52 * r + f, 97 + f)
theorem need_ok : subl need b3L = true := by kernel_rfl
theorem rising_gt : ∀ {l : List (Int × Str)} {b : Int}, Rising b l → ∀ p ∈ l, b < p.1
  | (i, y) :: r, b, h, p, hp => by
    rcases List.mem_cons.mp hp with rfl | hp
    · exact h.1
    · have := rising_gt h.2.2 p hp
      have := h.1
      omega
theorem same_int (a b : Int) : Spec.same (.int a) (.int b) = (a == b) := by simp [Spec.same]
theorem look_mem : ∀ {l : List (Int × Str)} {b k : Int} {x : Str}, Rising b l → (k, x) ∈ l → Spec.lookup (.int k) (l.map fun p => (PyData.int p.1, PyData.str p.2)) = some (.str x)
  | (i, y) :: r, b, k, x, h, hm => by
    rw [List.map_cons, Spec.lookup, same_int]
    rcases List.mem_cons.mp hm with e | hm
    · cases e; rw [if_pos (beq_self_eq_true _)]
    · have := rising_gt h.2.2 _ hm
      rw [if_neg (by rw [beq_iff_eq]; omega)]
      exact look_mem h.2.2 hm
theorem look_none : ∀ {l : List (Int × Str)} {b n : Int}, Rising b l → n ≤ b → Spec.lookup (.int n) (l.map fun p => (PyData.int p.1, PyData.str p.2)) = none
  | [], _, _, _, _ => rfl
  | (i, y) :: r, b, n, h, hn => by
    have := h.1
    rw [List.map_cons, Spec.lookup, same_int, if_neg (by rw [beq_iff_eq]; omega)]
    exact look_none h.2.2 (by omega)
theorem rising_up : ∀ {l : List (Int × Str)} {b c : Int}, Rising b l → (match l with | [] => true | q :: _ => decide (c < q.1)) = true → Rising c l
  | [], _, _, _, _ => trivial
  | (i, y) :: r, b, c, h, hc => ⟨of_decide_eq_true hc, h.2⟩
theorem b3_hd : (match b3L with | [] => true | q :: _ => decide (130 < q.1)) = true := by kernel_rfl
noncomputable def lowAll : Bool := (List.range 16).all fun f => Txt.lower (mk [65 + f]) == mk [97 + f] && Txt.lower (mk [97 + f]) == mk [97 + f]
theorem low_all : lowAll = true := by kernel_rfl
theorem prep_tab {n a : Nat} (h : (n, a) ∈ need) : prep n = .str (mk [a]) := by
  have e : b3get n = .str (mk [a]) := by
    unfold b3get b3D
    rw [look_mem b3_rising (subl_mem need_ok _ h)]; rfl
  unfold prep
  rw [e]; rfl
theorem prep_low {n a : Nat} (hn : n ≤ 130) (h : Txt.lower (mk [n]) = mk [a]) : prep n = .str (mk [a]) := by
  have e : b3get n = .none := by
    unfold b3get b3D
    rw [look_none (rising_up b3_rising b3_hd) (by omega)]; rfl
  unfold prep
  rw [e, ← h]; rfl
noncomputable def sgN (f k : Nat) : Nat := if k = 0 then 65 + f else if k = 1 then 97 + f else 119808 + 52 * tabN.getD (k - 2) 0 + f
theorem sg_all : ((List.range 16).all fun f => (List.range 12).all fun k => signN (65 + f) k == sgN f k) = true := by kernel_rfl
theorem sg_at {f k : Nat} (hf : f < 16) (hk : k < 12) : signN (65 + f) k = sgN f k :=
  eq_of_beq (List.all_eq_true.mp (List.all_eq_true.mp sg_all f (List.mem_range.mpr hf)) k (List.mem_range.mpr hk))
theorem signN_mod {o s : Int} {k : Nat} (h : s.fmod 12 = k) (hk : (k : Int) < 12) : signN o s = signN o k := by
  have e : ((k : Int)).fmod 12 = k := by
    rw [Int.fmod_eq_emod_of_nonneg _ (by decide)]
    exact Int.emod_eq_of_lt (Int.natCast_nonneg k) hk
  unfold signN
  rw [h, e]
theorem le_130 {f : Nat} (hf : f < 16) : 97 + f ≤ 130 := by omega
theorem prep_letter {f : Nat} (hf : f < 16) (s : Int) : prep (signN (65 + f) s) = .str (mk [97 + f]) := by
  obtain ⟨k, hk⟩ := Int.eq_ofNat_of_zero_le (Int.fmod_nonneg_of_pos s (b := 12) (by decide))
  have h1 : (k : Int) < 12 := hk ▸ Int.fmod_lt_of_pos s (by decide)
  have hk12 : k < 12 := Int.ofNat_lt.mp h1
  have hl := low_all
  unfold lowAll at hl
  have hl := List.all_eq_true.mp hl f (List.mem_range.mpr hf)
  rw [Bool.and_eq_true, beq_iff_eq, beq_iff_eq] at hl
  rw [signN_mod hk h1, sg_at hf hk12]
  unfold sgN
  split
  · exact prep_low (Nat.le_trans (Nat.add_le_add_right (by decide) f) (le_130 hf)) hl.1
  · split
    · exact prep_low (le_130 hf) hl.2
    · have hr : k - 2 < tabN.length := Nat.sub_lt_right_of_lt_add (by omega) hk12
      refine prep_tab (List.mem_flatMap.mpr ⟨tabN.getD (k - 2) 0, ?_, List.mem_map.mpr ⟨f, List.mem_range.mpr hf, rfl⟩⟩)
      rw [List.getD_eq_getElem?_getD, List.getElem?_eq_getElem hr]
      exact List.getElem_mem _
theorem prep_lig : isStrOf [102, 102] (prep 64256) && isStrOf [102, 105] (prep 64257) && isStrOf [102, 102, 105] (prep 64259) = true := by kernel_rfl
end Mine
end
section
open PySem PySem.W PyProof.Rows PySem.Calls PySem.SeqAt PyProof.V
set_option maxRecDepth 100000
namespace Mine
open Hd
noncomputable def datI : PyData → Int
  | .int i => i
  | _ => 0
noncomputable abbrev dInts (l : List Int) : List PyData := l.map .int
noncomputable def sdStep (m : Nat) (ns : List Int) (s : List Int) (p : Nat) : List Int := s.set (p % m) (s.getD (p % m) 0 + ns.getD p 0)
noncomputable def sdAt (s₀ : List Int) (ns : List Int) : Nat → List Int
  | 0 => s₀
  | i + 1 => sdStep s₀.length ns (sdAt s₀ ns i) i
theorem sdAt_len (s₀ ns : List Int) : ∀ i, (sdAt s₀ ns i).length = s₀.length
  | 0 => rfl
  | i + 1 => by unfold sdAt sdStep; rw [List.length_set]; exact sdAt_len s₀ ns i
noncomputable def seedsF (s₀ ns : List Int) : List Int := (sdAt s₀ ns ns.length).map fun x => x.fmod 1000000
theorem seedsF_len (s₀ ns : List Int) : (seedsF s₀ ns).length = s₀.length := by unfold seedsF; rw [List.length_map]; exact sdAt_len _ _ _
theorem seedsF_lt (s₀ ns : List Int) : ∀ x ∈ seedsF s₀ ns, 0 ≤ x ∧ x < 1000000 := fun x hx => by
  unfold seedsF at hx
  obtain ⟨y, _, rfl⟩ := List.mem_map.mp hx
  exact ⟨Int.fmod_nonneg_of_pos _ (by decide), Int.fmod_lt_of_pos _ (by decide)⟩
theorem rangeD_ofNat (n : Nat) : rangeD 0 n 1 = (List.range n).map fun (i : Nat) => .int (i : Int) := by
  unfold rangeD
  rw [rangeSize_one]
  by_cases h : n = 0
  · subst h; rfl
  · rw [if_pos (by omega)]
    rw [show ((n : Int) - 0).toNat = n by omega]
    exact List.map_congr_left fun i _ => by simp
theorem ItE.to {c : Cx} {σ : Sg} {e : Expr} {ds es : List PyData} (h : ItE c σ e ds) (e' : ds = es) : ItE c σ e es := e' ▸ h
noncomputable abbrev nats (n : Nat) : List PyData := (List.range n).map fun (i : Nat) => .int (i : Int)
theorem ite_range {c : Cx} {σ : Sg} (L : Law1 c.Ω) {e : Expr} {n : Nat} {p pos : Pos} (h : Ev c σ e (pI (n : Int))) (hn : n ≤ 1000000) (hx : c.nm.lookup (Str.ofString "range") = some .globalImplicit := by kernel_rfl) (hst : notStar e = true := by rfl) (hst' : noStar [e] = true := by rfl) :
    ItE c σ (.Call (.Name (Str.ofString "range") p) [e] [] pos) (nats n) :=
  (ite_rng (ev_tcall (bn L b_range hx) (evl_cons h evl_nil hst) pr_range1 hst') (small_ok (by omega) (by omega) (by omega) (by omega) (by decide) (by decide))).to (rangeD_ofNat n)
theorem nats_at {n i : Nat} {d : PyData} (h : (nats n)[i]? = some d) : i < n ∧ d = .int (i : Int) := by
  have hi : i < n := by
    have := (List.getElem?_eq_some_iff.mp h).1
    simpa using this
  rw [List.getElem?_map, List.getElem?_range hi] at h
  cases h; exact ⟨hi, rfl⟩
theorem nats_len (n : Nat) : (nats n).length = n := by simp
theorem filter_all {α : Type} (l : List α) : l.filter (fun _ => true) = l := by simp
noncomputable abbrev S0 : List Int := [4, 769, 768, 29, 63]
theorem f_seeds {Ω : Wo} (L : Law1 Ω) {q : Bool} {d : Nat} {ns : List Int} (hl : ns.length ≤ 63) : Fn Ω q (d + 1) (Str.ofString "_law_seeds") [.list (dInts ns)] (.list (dInts (seedsF S0 ns))) := by
  refine fn_intro (ps := [Str.ofString "script"]) (ls := [Str.ofString "seeds", Str.ofString "place"]) (fnrec_of (d := recOf (st1 13)) L (by kernel_rfl)) rfl (fun pm cd doc vs hv => ?_) (by kernel_rfl) (by decide +kernel) (fun env bs O => ?_)
  · exact ba1 (fun _ => rfl) vs hv
  show Tr _ _ (fnBody (st1 13)) _
  refine tr_own (ds := dInts S0) (evn_list (evl_cons ev_int (evl_cons ev_int (evl_cons ev_int (evl_cons ev_int (evl_cons ev_int evl_nil)))))) (fun a => .there .here) (.inl (by kernel_rfl)) (by rfl) fun a => ?_
  refine tr_for (ds := nats ns.length) ?_ (.inl (by kernel_rfl)) (fun i σ => ∃ X, σ = ⟨[.list (dInts ns), .val (.ref a), X], [(a, .lst (dInts (sdAt S0 ns i)))]⟩) ⟨.unb, rfl⟩ (fun O fp inv i σ' dd hd hJ => ?_) (fun σ' hJ => ?_)
  · exact ite_range L ((ev_bcall (bn L b_len) (evl_cons (ev_var .here) evl_nil) (pr_llen (by rw [List.length_map]; omega))).to (by rw [List.length_map])) (by omega)
  · obtain ⟨X, rfl⟩ := hJ
    obtain ⟨hi, rfl⟩ := nats_at hd
    have hlen := sdAt_len S0 ns i
    have hk : i % 5 < (sdAt S0 ns i).length := by rw [hlen]; exact Nat.mod_lt _ (by decide)
    have e1 : ((i : Int)).fmod 5 = ((i % 5 : Nat) : Int) := by rw [Int.fmod_eq_emod_of_nonneg _ (by decide)]; rfl
    refine ⟨_, .there (.there .here), ?_⟩
    refine tr_augitem (a := a) (ds := dInts (sdAt S0 ns i)) (n := ((i % 5 : Nat) : Int)) (k := i % 5) (d := .int ((sdAt S0 ns i).getD (i % 5) 0)) (e := .int ((sdAt S0 ns i).getD (i % 5) 0 + ns.getD i 0)) (Y := pI (ns.getD i 0)) (.there .here) (.head _) ((ev_binop (ev_var (.there (.there .here))) ev_int (pr_mod (by decide))).to (by rw [e1]))
      (ev_item (ev_var .here) (ev_var (.there (.there .here))) (gi_list ?_ (by rw [List.length_map]; omega) (by omega) (by rw [List.length_map]; omega))) ?_ ?_ pr_iadd (by simp [hlen]) (tr_nil ⟨pI (i : Int), ?_⟩)
    · rw [if_neg (by omega)]
      simp [List.getD, hi]
    · rw [List.length_map]
      exact seq_nat hk
    · simp [List.getD, hk]
    · rw [setOwn_one]
      refine congrArg (fun l => (⟨_, [(a, .lst l)]⟩ : Sg)) ?_
      show _ = dInts (sdStep 5 ns (sdAt S0 ns i) i)
      unfold sdStep dInts
      rw [List.map_set]
  · obtain ⟨X, rfl⟩ := hJ
    rw [nats_len]
    refine tr_freeze (x := Str.ofString "seeds") rfl (.there .here) (.there .here) ?_
    refine tr_ret (EvN.ev (evn_comp (fv := []) (fun _ => true) (fun d => .int ((datI d).fmod 1000000)) (ite_list (ev_var (.there .here))) (by simp [sdAt_len]) rfl (by kernel_rfl) .nil (fun env b O d hd => .nil) (fun env b O d hd _ => ?_))) (.inl ?_)
    · obtain ⟨x, _, rfl⟩ := List.mem_map.mp hd
      exact ev_binop (ev_var .here) ev_int (pr_mod (by decide))
    · rw [filter_all]
      unfold seedsF dInts
      rw [List.map_map, List.map_map]
      rfl
end Mine
end
section
open PySem PySem.W PyProof.Rows PySem.Calls PySem.SeqAt PyProof.V
set_option maxRecDepth 100000
namespace Mine
open Hd
section
variable {c : Cx} {σ : Sg} {e : Expr} {X Y Z : PV}
theorem ev_to (e' : X = Y) (h : Ev c σ e X) : Ev c σ e Y := e' ▸ h
theorem ev_upto {value upper : Expr} {p pos : Pos} {n : Int} (hv : Ev c σ value X) (hu : Ev c σ upper (pI n)) (hp : Gs c (σ.all c) X none (some n) Z) : Ev c σ (.Subscript value (.Slice none (some upper) none p) pos) Z := ev_slice (lo := none) (hi := some n) hv trivial hu hp
theorem ev_from {value lower : Expr} {p pos : Pos} {n : Int} (hv : Ev c σ value X) (hu : Ev c σ lower (pI n)) (hp : Gs c (σ.all c) X (some n) none Z) : Ev c σ (.Subscript value (.Slice (some lower) none none p) pos) Z := ev_slice (lo := some n) (hi := none) hv hu trivial hp
theorem ev_both {value lower upper : Expr} {p pos : Pos} {n m : Int} (hv : Ev c σ value X) (hl : Ev c σ lower (pI n)) (hu : Ev c σ upper (pI m)) (hp : Gs c (σ.all c) X (some n) (some m) Z) : Ev c σ (.Subscript value (.Slice (some lower) (some upper) none p) pos) Z := ev_slice (lo := some n) (hi := some m) hv hl hu hp
theorem ev_list {es : List Expr} {pos : Pos} {ds : List PyData} (h : EvL c σ es (ds.map .dat)) (hl : ds.length ≤ 1000000) : Ev c σ (.List es pos) (.list ds) := (evn_list h hl).ev
end
theorem rep_map {α β : Type} (f : α → β) (n : Int) (l : List α) : rep n (l.map f) = (rep n l).map f := by
  unfold rep
  rw [List.map_flatten, List.map_replicate]
theorem rep_len {α : Type} (n : Int) (l : List α) : (rep n l).length = n.toNat * l.length := by unfold rep; simp
theorem dInts_app (a b : List Int) : dInts a ++ dInts b = dInts (a ++ b) := by simp
theorem dInts_len (a : List Int) : (dInts a).length = a.length := by simp
noncomputable def grPiece (f : List Int) (s : Int) : List Int := if f ++ sl none (some (s.fmod 3)) [(s.fdiv 3).fmod 16, (s.fdiv 48).fmod 16] = [] then [(s.fdiv 3).fmod 16] else sl none (some (s.fmod 3)) [(s.fdiv 3).fmod 16, (s.fdiv 48).fmod 16]
noncomputable def grStep (f : List Int) (s : Int) : List Int := sl none (some 13) (rep (1 + (s.fdiv 768).fmod 2) (f ++ grPiece f s) ++ f)
noncomputable def grAt (ss : List Int) : Nat → List Int
  | 0 => []
  | i + 1 => grStep (grAt ss i) (ss.getD i 0)
theorem sl13 {α : Type} (l : List α) : sl none (some 13) l = l.take 13 := sl_to (by decide)
theorem grAt_len (ss : List Int) : ∀ i, (grAt ss i).length ≤ 13
  | 0 => by unfold grAt; simp
  | i + 1 => by unfold grAt grStep; rw [sl13, List.length_take]; omega
theorem f_grown {Ω : Wo} (L : Law1 Ω) {q : Bool} {d : Nat} {ss : List Int} (hl : ss.length ≤ 63) : Fn Ω q (d + 1) (Str.ofString "_law_grown") [.list (dInts ss)] (.list (dInts (grAt ss ss.length))) := by
  refine fn_intro (ps := [Str.ofString "seeds"]) (ls := [Str.ofString "figures", Str.ofString "seed", Str.ofString "piece"]) (fnrec_of (d := recOf (st1 14)) L (by kernel_rfl)) rfl (fun pm cd doc vs hv => ?_) (by kernel_rfl) (by decide +kernel) (fun env bs O => ?_)
  · exact ba1 (fun _ => rfl) vs hv
  show Tr _ _ (fnBody (st1 14)) _
  refine tr_set (evn_list (ds := []) evl_nil).ev (.there .here) ?_
  refine tr_for (ite_list (ev_var .here)) (.inl (by kernel_rfl)) (fun i σ => ∃ X Y, σ = ⟨[.list (dInts ss), .list (dInts (grAt ss i)), X, Y], []⟩) ⟨.unb, .unb, rfl⟩ (fun O fp inv i σ' dd hd hJ => ?_) (fun σ' hJ => ?_)
  · obtain ⟨X, Y, rfl⟩ := hJ
    rw [List.getElem?_map] at hd
    obtain ⟨s, hs, rfl⟩ := Option.map_eq_some_iff.mp hd
    have hsi : ss.getD i 0 = s := by simp [List.getD, hs]
    have hlen := grAt_len ss i
    have h3 : 0 ≤ s.fmod 3 := Int.fmod_nonneg_of_pos _ (by decide)
    have h3' : s.fmod 3 < 3 := Int.fmod_lt_of_pos _ (by decide)
    have h2 : 0 ≤ (s.fdiv 768).fmod 2 := Int.fmod_nonneg_of_pos _ (by decide)
    have h2' : (s.fdiv 768).fmod 2 < 2 := Int.fmod_lt_of_pos _ (by decide)
    refine ⟨_, .there (.there .here), ?_⟩
    refine tr_set (X := .list (dInts (sl none (some (s.fmod 3)) [(s.fdiv 3).fmod 16, (s.fdiv 48).fmod 16]))) ?_ (.there (.there (.there .here))) ?_
    · refine ev_to (X := .list (sl none (some (s.fmod 3)) (dInts [(s.fdiv 3).fmod 16, (s.fdiv 48).fmod 16]))) (by rw [sl_map]) (ev_upto (ev_list (ds := dInts [(s.fdiv 3).fmod 16, (s.fdiv 48).fmod 16]) ?_ (by simp)) (ev_binop (ev_var (.there (.there .here))) ev_int (pr_mod (by decide))) (gs_list (by simp)))
      exact evl_cons (ev_binop (ev_binop (ev_var (.there (.there .here))) ev_int (pr_div (by decide))) ev_int (pr_mod (by decide))) (evl_cons (ev_binop (ev_binop (ev_var (.there (.there .here))) ev_int (pr_div (by decide))) ev_int (pr_mod (by decide))) evl_nil)
    have hp2 : (sl none (some (s.fmod 3)) [(s.fdiv 3).fmod 16, (s.fdiv 48).fmod 16]).length ≤ 2 := sl_len _ _ _
    generalize hP1 : sl none (some (s.fmod 3)) [(s.fdiv 3).fmod 16, (s.fdiv 48).fmod 16] = P1 at hp2
    have hgp : grPiece (grAt ss i) s = if grAt ss i ++ P1 = [] then [(s.fdiv 3).fmod 16] else P1 := by unfold grPiece; rw [hP1]
    have hst : grAt ss (i + 1) = sl none (some 13) (rep (1 + (s.fdiv 768).fmod 2) (grAt ss i ++ grPiece (grAt ss i) s) ++ grAt ss i) := by
      show grStep (grAt ss i) (ss.getD i 0) = _
      rw [hsi]; rfl
    refine tr_if (b := grAt ss i ++ P1 == []) ?_ (fun hb => ?_) (fun hb => ?_)
    · refine evb_compare (ev_binop (ev_var (.there .here)) (ev_var (.there (.there (.there .here)))) (pr_ladd (by simp; omega))) (ev_list (ds := dInts []) evl_nil (by simp)) (pr_leq.to ?_)
      rw [dInts_app, datEq_ints]
    · have hb' : grAt ss i ++ P1 = [] := by simpa using hb
      have h0 : grAt ss i = [] := (List.append_eq_nil_iff.mp hb').1
      rw [if_pos hb'] at hgp
      refine tr_set (ev_list (ds := dInts [(s.fdiv 3).fmod 16]) (evl_cons (ev_binop (ev_binop (ev_var (.there (.there .here))) ev_int (pr_div (by decide))) ev_int (pr_mod (by decide))) evl_nil) (by simp)) (.there (.there (.there .here))) ?_
      refine tr_nil ?_
      show Tr _ ⟨[_, _, _, _], []⟩ [_] _
      refine tr_set (X := .list (dInts (grAt ss (i + 1)))) ?_ (.there .here) ?_
      · refine ev_to (X := .list (sl none (some 13) (rep (1 + (s.fdiv 768).fmod 2) (dInts (grAt ss i) ++ dInts [(s.fdiv 3).fmod 16]) ++ dInts (grAt ss i)))) (by rw [dInts_app, rep_map, dInts_app, sl_map, hst, hgp]) ?_
        refine ev_upto (ev_binop (ev_binop (X := .list (dInts (grAt ss i) ++ dInts [(s.fdiv 3).fmod 16])) (Y := pI (1 + (s.fdiv 768).fmod 2)) (ev_binop (ev_var (.there .here)) (ev_var (.there (.there (.there .here)))) (pr_ladd ?_)) ?_ (pr_lmul ?_ ?_ ?_)) (ev_var (.there .here)) (pr_ladd ?_)) ev_int (gs_list ?_)
        rotate_left
        · exact ev_binop ev_int (ev_binop (ev_binop (ev_var (.there (.there .here))) ev_int (pr_div (by decide))) ev_int (pr_mod (by decide))) pr_add
        all_goals generalize (s.fdiv 768).fmod 2 = u at h2 h2'
        all_goals have hu : u = 0 ∨ u = 1 := by omega
        all_goals (rcases hu with rfl | rfl <;> simp [rep_len] <;> omega)
      exact tr_nil ⟨pI s, .list (dInts [(s.fdiv 3).fmod 16]), rfl⟩
    · have hb' : ¬ grAt ss i ++ P1 = [] := by simpa using hb
      rw [if_neg hb'] at hgp
      refine tr_nil ?_
      show Tr _ ⟨[_, _, _, _], []⟩ [_] _
      refine tr_set (X := .list (dInts (grAt ss (i + 1)))) ?_ (.there .here) ?_
      · refine ev_to (X := .list (sl none (some 13) (rep (1 + (s.fdiv 768).fmod 2) (dInts (grAt ss i) ++ dInts P1) ++ dInts (grAt ss i)))) (by rw [dInts_app, rep_map, dInts_app, sl_map, hst, hgp]) ?_
        refine ev_upto (ev_binop (ev_binop (X := .list (dInts (grAt ss i) ++ dInts P1)) (Y := pI (1 + (s.fdiv 768).fmod 2)) (ev_binop (ev_var (.there .here)) (ev_var (.there (.there (.there .here)))) (pr_ladd ?_)) ?_ (pr_lmul ?_ ?_ ?_)) (ev_var (.there .here)) (pr_ladd ?_)) ev_int (gs_list ?_)
        rotate_left
        · exact ev_binop ev_int (ev_binop (ev_binop (ev_var (.there (.there .here))) ev_int (pr_div (by decide))) ev_int (pr_mod (by decide))) pr_add
        all_goals generalize (s.fdiv 768).fmod 2 = u at h2 h2'
        all_goals have hu : u = 0 ∨ u = 1 := by omega
        all_goals (rcases hu with rfl | rfl <;> simp [rep_len] <;> omega)
      exact tr_nil ⟨pI s, .list (dInts P1), rfl⟩
  · obtain ⟨X, Y, rfl⟩ := hJ
    rw [List.length_map]
    exact tr_ret (ev_var (.there .here)) (.inl rfl)
end Mine
end
section
open PySem PySem.W PyProof.Rows PySem.Calls PySem.SeqAt PyProof.V
open PySem.Builtin.Str (occurrences subAt strSub partsBetween strKind)
set_option maxRecDepth 100000
namespace Mine
-- does w stand in t at i
noncomputable def occ (t w : List Nat) (i : Nat) : Bool := (t.drop i).take w.length == w
theorem subAt_mk (t w : List Nat) (i : Nat) : subAt (mk t) (mk w) i = occ t w i := by
  rw [StrLaws.subAt_eq, mk_len]; rfl
noncomputable def fnd (t w : List Nat) (lo hi : Nat) : Option Nat := (List.range' lo (hi + 1 - lo)).find? fun i => decide (i + w.length ≤ hi) && occ t w i
theorem occ_fnd (t w : List Nat) (lo hi : Nat) : (occurrences (mk t) (mk w) lo hi 1).head? = fnd t w lo hi := by
  rw [StrLaws.occ_eq]
  unfold fnd
  rcases StrLaws.occ_first (mk t) (mk w) hi 1 (Nat.le_refl 1) (List.range' lo (hi + 1 - lo)) lo (fun i h => by have := List.mem_range'_1.mp h; omega) with ⟨h0, hn⟩ | ⟨pre, a, post, e, h0, ha, hn⟩
  · rw [h0]
    symm
    rw [show (#[] : Array Nat).toList.head? = none from rfl, List.find?_eq_none]
    intro i hi' hc
    rw [Bool.and_eq_true, decide_eq_true_eq, ← subAt_mk] at hc
    exact hn i hi' ⟨by rw [mk_len]; exact hc.1, hc.2⟩
  · rw [e, List.find?_append, List.find?_eq_none.mpr (fun i hi' hc => by
      rw [Bool.and_eq_true, decide_eq_true_eq, ← subAt_mk] at hc
      exact hn i hi' ⟨by rw [mk_len]; exact hc.1, hc.2⟩)]
    have h2 : (decide (a + w.length ≤ hi) && occ t w a) = true := by
      rw [Bool.and_eq_true, decide_eq_true_eq, ← subAt_mk]
      have h3 := ha.1
      rw [mk_len] at h3
      exact ⟨h3, ha.2⟩
    rw [List.find?_cons_of_pos (by exact h2), e] at *
    rw [List.head?_eq_getElem?, Array.getElem?_toList, h0]; rfl
theorem fnd_le {t w : List Nat} {lo hi k : Nat} (h : fnd t w lo hi = some k) : lo ≤ k ∧ k + w.length ≤ hi ∧ occ t w k = true := by
  unfold fnd at h
  have h1 := List.find?_some h
  have h2 := List.mem_of_find?_eq_some h
  rw [Bool.and_eq_true, decide_eq_true_eq] at h1
  have := List.mem_range'_1.mp h2
  exact ⟨by omega, h1.1, h1.2⟩
theorem find4_fnd {t w : List Nat} {i j : Nat} (hi : i ≤ t.length) (hj : j ≤ t.length) : find4 (mk t) (mk w) i j = match fnd t w i j with | some k => (k : Int) | none => -1 := by
  have e : ∀ k : Nat, k ≤ t.length → cl (mk t).length (k : Int) = k := fun k hk => by rw [cl_nat, mk_len, Nat.min_eq_left hk]
  unfold find4
  rw [e i hi, e j hj, ← occ_fnd]
  cases occurrences (mk t) (mk w) i j 1 <;> rfl
noncomputable def dots : List Nat := [46, 46, 46]
noncomputable def swith (t w : List Nat) : Bool := t.take w.length == w
noncomputable def ewith (t w : List Nat) : Bool := decide (w.length ≤ t.length) && t.drop (t.length - w.length) == w
theorem starts_mk (t w : List Nat) : Txt.startswith (mk t) (mk w) = swith t w := by
  unfold Txt.startswith swith
  rw [subAt_mk, mk_len, mk_len]
  unfold occ
  rw [List.drop_zero]
  cases h : (t.take w.length == w) with
  | false => simp
  | true =>
    have := congrArg List.length (eq_of_beq h)
    rw [List.length_take] at this
    simp; omega
theorem ends_mk (t w : List Nat) : Txt.endswith (mk t) (mk w) = ewith t w := by
  unfold Txt.endswith ewith
  rw [subAt_mk, mk_len, mk_len]
  unfold occ
  by_cases h : w.length ≤ t.length
  · rw [List.take_of_length_le (by rw [List.length_drop]; omega), Nat.zero_add]
  · simp [h]
noncomputable def hasd (w : List Nat) : Bool := Txt.contains (mk w) (mk dots)
noncomputable def spl (w : List Nat) : List (List Nat) := (Txt.split (mk w) (mk dots)).map fun x => x.cps.toList
theorem spl_mk (w : List Nat) : (Txt.split (mk w) (mk dots)).map PyData.str = txts (spl w) := by
  unfold spl
  show _ = List.map _ (List.map _ _)
  rw [List.map_map]
  exact List.map_congr_left fun x _ => by show _ = PyData.str (mk x.cps.toList); rw [mk_of]
theorem kind_dots (x : Str) : decide (Builtin.Str.strKind x < Builtin.Str.strKind (mk dots)) = false := by
  have : Builtin.Str.strKind (mk dots) = 1 := by decide +kernel
  rw [this]
  unfold Builtin.Str.strKind
  split
  · rfl
  · split <;> rfl
theorem spl_two {w : List Nat} (h : hasd w = true) : 2 ≤ (spl w).length := by
  unfold hasd Txt.contains at h
  unfold spl Txt.split
  obtain ⟨i, h1, h2⟩ := (StrLaws.found_iff _ _).mp h
  have h3 : decide ((mk w).length < (mk dots).length) = false := by rw [decide_eq_false_iff_not]; omega
  rw [h3, kind_dots]
  have h4 : occurrences (mk w) (mk dots) 0 (mk w).length ((mk w).length + 1) ≠ [] := by
    rcases StrLaws.occ_head (mk w) (mk dots) ((mk w).length + 1) (by omega) with ⟨_, hn⟩ | ⟨i, r, e, _⟩
    · exact absurd ⟨h1, h2⟩ (hn i)
    · rw [e]; simp
  have h5 : (occurrences (mk w) (mk dots) 0 (mk w).length ((mk w).length + 1)).isEmpty = false := by
    rw [List.isEmpty_eq_false_iff]; exact h4
  rw [h5]
  have h6 := List.length_pos_iff.mpr h4
  simp [Bool.or_self, length_partsBetween]
  omega
-- the match
noncomputable def emF (t : List Nat) (ep : Nat) : List (List Nat) → Nat → Bool
  | [], _ => true
  | w :: r, sp => match fnd t w sp ep with
    | none => false
    | some p => emF t ep r (p + w.length)
noncomputable def em3 (t : List Nat) (ws : List (List Nat)) (sp ep : Nat) : Bool := if sp > ep then false else emF t ep ws sp
noncomputable def em2 (t : List Nat) (ws : List (List Nat)) (sp : Nat) : Bool :=
  if (ws.getLastD []).length = 0 then em3 t ws sp t.length
  else if ewith t (ws.getLastD []) then em3 t ws.dropLast sp (t.length - (ws.getLastD []).length) else false
noncomputable def em (w t : List Nat) : Bool :=
  if hasd w then
    (if ((spl w).headD []).length = 0 then em2 t (spl w) 0
     else if swith t ((spl w).headD []) then em2 t (spl w).tail ((spl w).headD []).length else false)
  else w == t
end Mine
end
section
open PySem PySem.W PyProof.Rows PySem.Calls PySem.SeqAt PyProof.V
set_option maxRecDepth 100000
namespace Mine
open Hd
section
variable {c : Cx} {σ : Sg}
theorem evn_split {o arg : Expr} {apos pos : Pos} {x y : List Nat} (ho : Ev c σ o (pL x)) (ha : Ev c σ arg (pL y)) (hx : x.length ≤ 1000000) (hy : y ≠ [])
    (he : ∃ pl : Sem Bool, eval (.Call (.Attribute o (Str.ofString "split") apos) [arg] [] pos) c.env = (do
      let ov ← eval o c.env
      standAt apos.atName
      let (f, first) ← holding [ov] (getMethod ov (Str.ofString "split") pl)
      callWith pos f first (backTo pos (starEach [arg] c.env)) (backToKw pos (keywordEach [] c.env))) := by exact ⟨_, rfl⟩)
    (hst : noStar [arg] = true := by rfl) : EvN c σ (.Call (.Attribute o (Str.ofString "split") apos) [arg] [] pos) ((Txt.split (mk x) (mk y)).map .str) := .mk fun A s hA hs => by
  obtain ⟨pl, he⟩ := he
  refine mcall_at (Xs := [pL y]) ho mt_split (evl_cons ha evl_nil (hn := by cases arg <;> first | rfl | (simp at hst))) hA hs (fun vs s₂ k r => ?_) he hst
  cases r with | cons r p => cases p with | cons r₂ p =>
  cases p
  cases r; cases r₂
  refine call_split (by rw [mk_len]; have := List.length_pos_iff.mpr hy; simp; omega) (by rw [mk_len]; exact hx) fun ws n cw => ⟨k.trans (KK.heap (up_push _) n), _, _, rfl, none_down k.up (none_size _), ⟨0, Heap.get?_push_size _ rfl⟩, cw⟩
end
end Mine
end
section
open PySem PySem.W PyProof.Rows PySem.Calls PySem.SeqAt PyProof.V
set_option maxRecDepth 100000
namespace Mine
open Hd
noncomputable abbrev emNs : List Str := [Str.ofString "want", Str.ofString "got"] ++ [Str.ofString "ws", Str.ofString "startpos", Str.ofString "endpos", Str.ofString "w"]
noncomputable abbrev emC (Ω : Wo) (q : Bool) (d : Nat) (env : Env) (b : Shared) (O : List Addr) : Cx := ⟨Ω, q, d, (recOf (st1 2)).scope.names, emNs, env, b, O, [], fun _ => True⟩
noncomputable abbrev retP (Y : PV) : Post := fun pf σ => pf = .ret Y ∨ (pf = .next ∧ Y = pN)
section
variable {Ω : Wo} {q : Bool} {d : Nat} {env : Env} {b : Shared} {O : List Addr} {w t : List Nat}
theorem em_loop (L : Law1 Ω) {a : Addr} {ws : List (List Nat)} {sp ep : Nat} {X : PV} (ht : t.length ≤ 100000) (hw : ∀ w ∈ ws, w.length ≤ 100000) (hn : ws.length ≤ 1000000) (hep : ep ≤ t.length) :
    Tr (emC Ω q d env b O) ⟨[pL w, pL t, .val (.ref a), pI sp, pI ep, X], [(a, .lst (txts ws))]⟩ ((fnBody (st1 2)).drop 8) (retP (pB (em3 t ws sp ep))) := by
  show Tr _ _ [_, _, _] _
  unfold em3
  refine tr_if (evb_compare (ev_var (.there (.there (.there .here)))) (ev_var (.there (.there (.there (.there .here))))) pr_gt) (fun hb => ?_) (fun hb => ?_)
  · have hb : sp > ep := by simp at hb; omega
    rw [if_pos hb]
    exact tr_ret ev_bool (.inl rfl)
  · have hb : ¬ sp > ep := by simp at hb; omega
    rw [if_neg hb]
    refine tr_nil ?_
    refine tr_freeze (x := Str.ofString "ws") rfl (.there (.there .here)) (.there (.there .here)) ?_
    generalize hR : emF t ep ws sp = R
    refine tr_for (ite_list (ev_var (.there (.there .here)))) (.inl (by kernel_rfl)) (fun i σ => ∃ sp' X, σ = ⟨[pL w, pL t, .list (txts ws), pI (sp' : Nat), pI ep, X], []⟩ ∧ sp' ≤ ep ∧ emF t ep (ws.drop i) sp' = R) ⟨sp, X, rfl, by omega, hR⟩ (fun O fp inv i σ' dd hd hJ => ?_) (fun σ' hJ => ?_)
    · obtain ⟨sp', X, rfl, hsp, hJ⟩ := hJ
      rw [List.getElem?_map] at hd
      obtain ⟨v, hv, rfl⟩ := Option.map_eq_some_iff.mp hd
      have hil : i < ws.length := by
        rcases Nat.lt_or_ge i ws.length with h | h
        · exact h
        · rw [List.getElem?_eq_none h] at hv; cases hv
      have hvi : ws.drop i = v :: ws.drop (i + 1) := by
        rw [List.drop_eq_getElem_cons hil]
        rw [List.getElem?_eq_getElem hil] at hv
        rw [Option.some.inj hv]
      have hvl := hw v (List.mem_of_getElem? hv)
      rw [hvi] at hJ
      unfold emF at hJ
      refine ⟨_, .there (.there (.there (.there (.there .here)))), ?_⟩
      have hfv := find4_fnd (t := t) (w := v) (i := sp') (j := ep) (by omega) hep
      cases hf : fnd t v sp' ep with
      | none =>
        rw [hf] at hJ hfv
        refine tr_set (ev_to (Y := pI (-1)) (by rw [hfv]) (ev_mcall (ev_var (.there .here)) mt_find (evl_cons (ev_var (.there (.there (.there (.there (.there .here)))))) (evl_cons (ev_var (.there (.there (.there .here)))) (evl_cons (ev_var (.there (.there (.there (.there .here))))) evl_nil))) (pr_find4 (by omega)))) (.there (.there (.there .here))) ?_
        refine tr_if (b := true) (evb_compare (ev_var (.there (.there (.there .here)))) ev_int pr_lt) (fun hb => ?_) (fun hb => by cases hb)
        subst hJ
        exact tr_ret ev_bool (.inl rfl)
      | some k =>
        rw [hf] at hJ hfv
        have hk := fnd_le hf
        refine tr_set (ev_to (Y := pI k) (by rw [hfv]) (ev_mcall (ev_var (.there .here)) mt_find (evl_cons (ev_var (.there (.there (.there (.there (.there .here)))))) (evl_cons (ev_var (.there (.there (.there .here)))) (evl_cons (ev_var (.there (.there (.there (.there .here))))) evl_nil))) (pr_find4 (by omega)))) (.there (.there (.there .here))) ?_
        refine tr_if (b := false) (evb_compare (ev_var (.there (.there (.there .here)))) ev_int (pr_lt.to (by simp))) (fun hb => by cases hb) (fun hb => tr_nil ?_)
        refine tr_aug (Z := pI ((k + v.length : Nat) : Int)) (.there (.there (.there .here))) (ev_bcall (bn L b_len) (evl_cons (ev_var (.there (.there (.there (.there (.there .here)))))) evl_nil) (pr_slen (by omega))) (pr_iadd.to (by simp)) (.there (.there (.there .here))) (.inl (by kernel_rfl)) ?_
        exact tr_nil ⟨k + v.length, _, rfl, hk.2.1, hJ⟩
    · obtain ⟨sp', X, rfl, hsp, hJ⟩ := hJ
      rw [List.length_map, List.drop_length] at hJ
      subst hJ
      exact tr_ret ev_bool (.inl rfl)

theorem last_at {ws : List (List Nat)} (h : ws ≠ []) : (txts ws)[(if (-1 : Int) < 0 then (-1 : Int) + ((txts ws).length : Int) else -1).toNat]? = some (.str (mk (ws.getLastD []))) := by
  have hp := List.length_pos_iff.mpr h
  have e : (if (-1 : Int) < 0 then (-1 : Int) + ((txts ws).length : Int) else -1).toNat = ws.length - 1 := by
    rw [if_pos (by decide), List.length_map]; omega
  rw [e, List.getElem?_map, List.getElem?_eq_getElem (by omega)]
  rw [List.getLastD_eq_getLast?, List.getLast?_eq_getElem?, List.getElem?_eq_getElem (by omega)]; rfl
theorem em_back (L : Law1 Ω) {a : Addr} {ws : List (List Nat)} {sp : Nat} {X : PV} (ht : t.length ≤ 100000) (hw : ∀ w ∈ ws, w.length ≤ 100000) (hn : ws.length ≤ 1000000) (h0 : ws ≠ []) :
    Tr (emC Ω q d env b O) ⟨[pL w, pL t, .val (.ref a), pI sp, pI t.length, X], [(a, .lst (txts ws))]⟩ ((fnBody (st1 2)).drop 6) (retP (pB (em2 t ws sp))) := by
  show Tr _ _ [_, _, _, _, _] _
  unfold em2
  have hp := List.length_pos_iff.mpr h0
  refine tr_set (ev_own_item (a := a) (ds := txts ws) (.there (.there .here)) (.head _) (ev_unary ev_int pr_neg) (gi_list (last_at h0) (by simp; omega) (by decide) (by simp; omega))) (.there (.there (.there (.there (.there .here))))) ?_
  have hl : (ws.getLastD []).length ≤ 100000 := by
    rw [List.getLastD_eq_getLast?, List.getLast?_eq_some_getLast h0]
    exact hw _ (List.getLast_mem h0)
  generalize hx : ws.getLastD [] = x at *
  refine tr_if (evb_plain (ev_var (.there (.there (.there (.there (.there .here)))))) (tv_str (by rw [mk_len]; omega))) (fun hb => ?_) (fun hb => ?_)
  · have hb : ¬ x.length = 0 := by rw [mk_len] at hb; simp at hb; simpa using hb
    rw [if_neg hb]
    refine tr_if (b := ewith t x) (evb_plain (ev_mcall (ev_var (.there .here)) mt_ends (evl_cons (ev_var (.there (.there (.there (.there (.there .here)))))) evl_nil) pr_ends) (by rw [ends_mk]; exact tv_bool)) (fun hc => ?_) (fun hc => ?_)
    · rw [if_pos hc]
      have hlt : x.length ≤ t.length := by unfold ewith at hc; simp at hc; exact hc.1
      refine tr_aug (Z := pI ((t.length - x.length : Nat) : Int)) (.there (.there (.there (.there .here)))) (ev_bcall (bn L b_len) (evl_cons (ev_var (.there (.there (.there (.there (.there .here)))))) evl_nil) (pr_slen (by omega))) (pr_isub.to (by congr 1; omega)) (.there (.there (.there (.there .here)))) (.inl (by kernel_rfl)) ?_
      refine tr_del (a := a) (ds := txts ws) (n := -1) (k := ws.length - 1) (.there (.there .here)) (.head _) (ev_unary ev_int pr_neg) (by simp; omega) (by decide +kernel) ?_ ?_
      · unfold seqIndex?
        dsimp only
        rw [List.length_map]
        rw [show (if (-1 : Int) < 0 then (-1 : Int) + (ws.length : Int) else -1) = -1 + (ws.length : Int) from if_pos (by decide)]
        have h1 : (decide (0 ≤ -1 + (ws.length : Int)) && decide (-1 + (ws.length : Int) < (ws.length : Int))) = true := by simp; omega
        rw [if_pos h1]
        congr 1; omega
      · refine tr_nil (tr_nil ?_)
        rw [setOwn_one]
        have e : (txts ws).eraseIdx (ws.length - 1) = txts ws.dropLast := by
          rw [List.eraseIdx_eq_take_drop_succ, List.drop_of_length_le (by rw [List.length_map]; omega), List.append_nil, ← List.map_take, List.dropLast_eq_take]
        rw [e]
        exact em_loop L ht (fun w hm => hw w (List.dropLast_subset _ hm)) (by rw [List.length_dropLast]; omega) (by omega)
    · rw [hc]
      exact tr_ret ev_bool (.inl rfl)
  · have hb : x.length = 0 := by rw [mk_len] at hb; simp at hb; simpa using hb
    rw [if_pos hb]
    exact tr_nil (em_loop L ht hw hn (by omega))

end
theorem spl_len (w : List Nat) : ∀ x ∈ spl w, x.length ≤ w.length := by
  intro x hx
  unfold spl Txt.split at hx
  obtain ⟨y, hy, rfl⟩ := List.mem_map.mp hx
  show y.length ≤ w.length
  split at hy
  · rw [List.mem_singleton.mp hy, mk_len]; exact Nat.le_refl _
  · split at hy
    · rw [List.mem_singleton.mp hy, mk_len]; exact Nat.le_refl _
    · rw [StrLaws.partsBetween_eq] at hy
      revert hy
      generalize Builtin.Str.occurrences (mk w) (mk dots) 0 (mk w).length ((mk w).length + 1) = cuts
      generalize 0 = a
      induction cuts generalizing a with
      | nil =>
        intro hy
        rw [List.mem_singleton.mp hy]
        show (Builtin.Str.strSub _ _ _).cps.toList.length ≤ _
        rw [StrLaws.strSub_toList, List.length_take, List.length_drop, mk_list]; omega
      | cons c r ih =>
        intro hy
        rcases List.mem_cons.mp hy with e | e
        · rw [e]
          show (Builtin.Str.strSub _ _ _).cps.toList.length ≤ _
          rw [StrLaws.strSub_toList, List.length_take, List.length_drop, mk_list]; omega
        · exact ih _ e
theorem spl_num (w : List Nat) : (spl w).length ≤ w.length + 2 := by
  unfold spl Txt.split
  rw [List.length_map]
  split
  · simp
  · split
    · simp
    · rw [length_partsBetween]
      have := StrLaws.occ_length_le (mk w) (mk dots) 0 (mk w).length ((mk w).length + 1)
      rw [mk_len] at *
      omega
theorem f_em {Ω : Wo} (L : Law1 Ω) {q : Bool} {d : Nat} {w t : List Nat} (hw : w.length ≤ 100000) (ht : t.length ≤ 100000) : Fn Ω q (d + 1) (Str.ofString "_ellipsis_match") [pL w, pL t] (pB (em w t)) := by
  refine fn_intro (ps := [Str.ofString "want", Str.ofString "got"]) (ls := [Str.ofString "ws", Str.ofString "startpos", Str.ofString "endpos", Str.ofString "w"]) (fnrec_of (d := recOf (st1 2)) L (by kernel_rfl)) rfl (fun pm cd doc vs hv => ?_) (by kernel_rfl) (by decide +kernel) (fun env bs O => ?_)
  · exact ba2 (fun _ _ => rfl) vs hv
  show Tr _ _ (fnBody (st1 2)) _
  obtain ⟨vm, hvm, cvm⟩ := cval_of L (n := Str.ofString "ELLIPSIS_MARKER") (d := .str (mk dots)) (by kernel_rfl)
  have cvm' : Carried vm (.str (mk dots)) := by
    have := cvm default
    cases this
    exact .str _ _
  have MK : ∀ {σ pos}, Ev (emC Ω q d env bs O) σ (.Name (Str.ofString "ELLIPSIS_MARKER") pos) (pL dots) := ev_global hvm cvm' (by kernel_rfl)
  unfold em
  refine tr_if (b := !hasd w) (evb_compare MK (ev_var .here) pr_snotin) (fun hb => ?_) (fun hb => ?_)
  · have hb : hasd w = false := by simpa using hb
    rw [hb]
    exact tr_ret (ev_compare (ev_var .here) (ev_var (.there .here)) pr_seq) (.inl rfl)
  · have hb : hasd w = true := by simpa using hb
    rw [hb]
    rw [if_pos rfl]
    have h2 := spl_two hb
    have h3 := spl_len w
    have h4 := spl_num w
    refine tr_nil ?_
    refine tr_own (x := Str.ofString "ws") (ds := txts (spl w)) ?_ (fun a => .there (.there .here)) (.inl (by kernel_rfl)) (by rfl) fun a => ?_
    · rw [← spl_mk]
      exact evn_split (ev_var .here) MK (by omega) (by decide)
    generalize hs : spl w = ws at *
    refine tr_assert (evb_compare (ev_own_len (a := a) (bn L b_len) (.there (.there .here)) (.head _) (by simp; omega)) ev_int (pr_ge.to (by simp; omega))) ?_
    refine tr_tup_sw (xs := [Str.ofString "startpos", Str.ofString "endpos"]) (ds := [.int 0, .int t.length]) (ev_tuple (evl_cons ev_int (evl_cons (ev_bcall (bn L b_len) (evl_cons (ev_var (.there .here)) evl_nil) (pr_slen (by omega))) evl_nil)) (by simp)) (by kernel_rfl) (.cons (.there (.there (.there (.there .here)))) (.cons (.there (.there (.there .here))) .nil)) rfl (by kernel_rfl) ?_
    have hne : ws ≠ [] := fun e => by rw [e] at h2; simp at h2
    obtain ⟨x, r, rfl⟩ := List.exists_cons_of_ne_nil hne
    have hxl := h3 x (List.mem_cons_self ..)
    refine tr_set (ev_own_item (a := a) (ds := txts (x :: r)) (d := .str (mk x)) (.there (.there .here)) (.head _) ev_int (gi_list rfl (by simp; omega) (by decide) (by simp at h4 ⊢; omega))) (.there (.there (.there (.there (.there .here))))) ?_
    have hrl : r.length ≤ 1000000 := by simp at h4; omega
    rw [List.headD_cons, List.tail_cons]
    refine tr_if (evb_plain (ev_var (.there (.there (.there (.there (.there .here)))))) (tv_str (by rw [mk_len]; omega))) (fun hb => ?_) (fun hb => ?_)
    · have hb : ¬ x.length = 0 := by rw [mk_len] at hb; simp at hb; simpa using hb
      rw [if_neg hb]
      refine tr_if (b := swith t x) (evb_plain (ev_mcall (ev_var (.there .here)) mt_starts (evl_cons (ev_var (.there (.there (.there (.there (.there .here)))))) evl_nil) pr_starts) (by rw [starts_mk]; exact tv_bool)) (fun hc => ?_) (fun hc => ?_)
      · rw [if_pos hc]
        refine tr_set (ev_bcall (bn L b_len) (evl_cons (ev_var (.there (.there (.there (.there (.there .here)))))) evl_nil) (pr_slen (by omega))) (.there (.there (.there .here))) ?_
        refine tr_del (a := a) (ds := txts (x :: r)) (n := 0) (k := 0) (.there (.there .here)) (.head _) ev_int (by simp at h4 ⊢; omega) (by decide +kernel) (by unfold seqIndex?; simp) ?_
        refine tr_nil (tr_nil ?_)
        rw [setOwn_one]
        refine em_back L ht (ws := r) (fun w hm => Nat.le_trans (h3 w (.tail _ hm)) hw) hrl (fun e => by subst e; simp at h2)
      · rw [hc]
        exact tr_ret ev_bool (.inl rfl)
    · have hb : x.length = 0 := by rw [mk_len] at hb; simp at hb; simpa using hb
      rw [if_pos hb]
      exact tr_nil (em_back L ht (fun w hm => Nat.le_trans (h3 w hm) hw) (by simp at h4 ⊢; omega) hne)
end Mine
end
section
open PySem PySem.W PyProof.Rows PySem.Calls PySem.SeqAt PyProof.V
set_option maxRecDepth 100000
namespace Mine
open Hd
theorem rangeD_from (a n : Nat) : rangeD a n 1 = (List.range (n - a)).map fun (i : Nat) => .int ((a + i : Nat) : Int) := by
  unfold rangeD
  rw [rangeSize_one]
  by_cases h : n ≤ a
  · rw [if_neg (by omega), Nat.sub_eq_zero_of_le h]; rfl
  · rw [if_pos (by omega)]
    rw [show ((n : Int) - (a : Int)).toNat = n - a by omega]
    exact List.map_congr_left fun i _ => by simp
noncomputable abbrev natsFrom (a n : Nat) : List PyData := (List.range (n - a)).map fun (i : Nat) => .int ((a + i : Nat) : Int)
theorem natsFrom_at {a n i : Nat} {d : PyData} (h : (natsFrom a n)[i]? = some d) : a + i < n ∧ d = .int ((a + i : Nat) : Int) := by
  have hi : i < n - a := by
    have := (List.getElem?_eq_some_iff.mp h).1
    simpa using this
  rw [List.getElem?_map, List.getElem?_range hi] at h
  cases h; exact ⟨by omega, rfl⟩
theorem natsFrom_len (a n : Nat) : (natsFrom a n).length = n - a := by simp
theorem ite_range2 {c : Cx} {σ : Sg} (L : Law1 c.Ω) {e₁ e₂ : Expr} {a n : Nat} {p pos : Pos} (h₁ : Ev c σ e₁ (pI (a : Int))) (h₂ : Ev c σ e₂ (pI (n : Int))) (ha : a ≤ 1000000) (hn : n ≤ 1000000) (hx : c.nm.lookup (Str.ofString "range") = some .globalImplicit := by kernel_rfl) (hst : notStar e₁ = true := by rfl) (hst' : notStar e₂ = true := by rfl) (hst2 : noStar [e₁, e₂] = true := by rfl) :
    ItE c σ (.Call (.Name (Str.ofString "range") p) [e₁, e₂] [] pos) (natsFrom a n) :=
  (ite_rng (ev_tcall (bn L b_range hx) (evl_cons h₁ (evl_cons h₂ evl_nil hst') hst) pr_range2 hst2) (small_ok (by omega) (by omega) (by omega) (by omega) (by decide) (by decide))).to (rangeD_from a n)
theorem ev_callg {c : Cx} {σ : Sg} {f : Str} {p pos : Pos} {args : List Expr} {Xs : List PV} {Y : PV} (hf : Fn c.Ω c.q c.d f Xs Y) (ha : EvL c σ args Xs) (hx : c.nm.lookup f = some .globalImplicit := by kernel_rfl)
    (hst : noStar args = true := by rfl) (hd : (f == ("__debug__" : Str)) = false := by decide +kernel) : Ev c σ (.Call (.Name f p) args [] pos) Y := ev_call hf ha hx hst hd
-- what is asked at k
noncomputable def holdsAt (t : List Nat) (laps : List Nat) (k : Nat) : Prop :=
  em (dots ++ t.take k) t = decide (k ∈ laps) ∧ em (t.drop (t.length - k) ++ dots) t = decide (k ∈ laps) ∧ em (t.take k) (t.drop (t.length - k)) = decide (k ∈ laps) ∧ em (t.take k) t = false ∧
  em (t.take k ++ dots ++ t.take k) t = (decide (k ∈ laps) && decide (2 * k ≤ t.length))
noncomputable def HoldsF (t : List Nat) (laps : List Nat) : Prop := ∀ k, 1 ≤ k → k < t.length → holdsAt t laps k
noncomputable abbrev dNats (l : List Nat) : List PyData := l.map fun (k : Nat) => .int (k : Int)
theorem any_nats (l : List Nat) (k : Nat) : ((dNats l).any fun x => datEq x (.int (k : Int))) = decide (k ∈ l) := by
  rw [Bool.eq_iff_iff, List.any_eq_true, decide_eq_true_eq]
  constructor
  · rintro ⟨x, hx, he⟩
    obtain ⟨j, hj, rfl⟩ := List.mem_map.mp hx
    have : (j : Int) = k := by simpa [datEq] using he
    rw [show k = j by omega]; exact hj
  · intro h
    exact ⟨_, List.mem_map.mpr ⟨k, h, rfl⟩, by simp [datEq]⟩
theorem f_holds {Ω : Wo} (L : Law1 Ω) {q : Bool} {d : Nat} {t laps : List Nat} (ht : t.length ≤ 100) (H : HoldsF t laps) : Fn Ω q (d + 2) (Str.ofString "_law_holds") [pL t, .list (dNats laps)] (pB true) := by
  refine fn_intro (ps := [Str.ofString "text", Str.ofString "laps"]) (ls := [Str.ofString "k", Str.ofString "front", Str.ofString "end", Str.ofString "lap"]) (fnrec_of (d := recOf (st1 18)) L (by kernel_rfl)) rfl (fun pm cd doc vs hv => ?_) (by kernel_rfl) (by decide +kernel) (fun env bs O₀ => ?_)
  · exact ba2 (fun _ _ => rfl) vs hv
  show Tr _ _ (fnBody (st1 18)) _
  refine tr_for (ite_range2 L (a := 1) (n := t.length) ev_int (ev_bcall (bn L b_len) (evl_cons (ev_var .here) evl_nil) (pr_slen (by omega))) (by decide) (by omega)) (.inl (by kernel_rfl)) (fun i σ => ∃ X₁ X₂ X₃ X₄, σ = ⟨[pL t, .list (dNats laps), X₁, X₂, X₃, X₄], []⟩) ⟨.unb, .unb, .unb, .unb, rfl⟩ (fun O fp inv i σ' dd hd hJ => ?_) (fun σ' hJ => ?_)
  · obtain ⟨X₁, X₂, X₃, X₄, rfl⟩ := hJ
    obtain ⟨hi, rfl⟩ := natsFrom_at hd
    obtain ⟨h1, h2, h3, h4, h5⟩ := H (1 + i) (by omega) hi
    generalize 1 + i = k at *
    have hb := any_nats laps k
    generalize decide (k ∈ laps) = lap at *
    have e1 : sl none (some (k : Int)) t = t.take k := by rw [sl_to (by omega)]; simp
    have e2 : sl (some ((t.length - k : Nat) : Int)) none t = t.drop (t.length - k) := by rw [sl_from (by omega)]; simp
    refine ⟨_, .there (.there .here), ?_⟩
    refine tr_tup_sw (xs := [Str.ofString "front", Str.ofString "end", Str.ofString "lap"]) (ds := [.str (mk (t.take k)), .str (mk (t.drop (t.length - k))), .bool lap]) (ev_tuple (evl_cons ?_ (evl_cons ?_ (evl_cons ?_ evl_nil))) (by simp)) (by kernel_rfl) (.cons (.there (.there (.there (.there (.there .here))))) (.cons (.there (.there (.there (.there .here)))) (.cons (.there (.there (.there .here))) .nil))) rfl (by kernel_rfl) ?_
    · exact ev_to (by rw [e1]) (ev_upto (ev_var .here) (ev_var (.there (.there .here))) (gs_str (by omega)))
    · exact ev_to (by rw [e2]) (ev_from (n := ((t.length - k : Nat) : Int)) (ev_var .here) (ev_binop (ev_bcall (bn L b_len) (evl_cons (ev_var .here) evl_nil) (pr_slen (by omega))) (ev_var (.there (.there .here))) (pr_sub.to (by congr 1; omega))) (gs_str (by omega)))
    · exact ev_compare (ev_var (.there (.there .here))) (ev_var (.there .here)) (pr_lin.to (by rw [hb]))
    have hk : k ≤ t.length := by omega
    have DT : ∀ {σ : Sg} {k : Nat} {pos : Pos}, Ev ((⟨Ω, q, d + 1, (recOf (st1 18)).scope.names, [Str.ofString "text", Str.ofString "laps"] ++ [Str.ofString "k", Str.ofString "front", Str.ofString "end", Str.ofString "lap"], env, bs, O₀, [], fun _ => True⟩ : Cx).walk O fp inv) σ (.Constant (.str ⟨#[46, 46, 46]⟩) k pos) (pL dots) := ev_strl rfl
    have lt1 : (t.take k).length ≤ 100 := by rw [List.length_take]; omega
    have lt2 : (t.drop (t.length - k)).length ≤ 100 := by rw [List.length_drop]; omega
    have dl : dots.length = 3 := rfl
    generalize t.take k = F at *
    generalize t.drop (t.length - k) = E at *
    refine tr_if (b := false) (evb_or (a := false) (b := false) (evb_compare (ev_callg (f_em L (w := dots ++ F) (t := t) (by rw [List.length_append]; omega) (by omega)) (evl_cons (ev_binop DT (ev_var (.there (.there (.there .here)))) (pr_sadd (by omega))) (evl_cons (ev_var .here) evl_nil))) (ev_var (.there (.there (.there (.there (.there .here)))))) (pr_isnot.to (by rw [h1]; cases lap <;> rfl)))
      fun _ => evb_or (a := false) (b := false) (evb_compare (ev_callg (f_em L (w := E ++ dots) (t := t) (by rw [List.length_append]; omega) (by omega)) (evl_cons (ev_binop (ev_var (.there (.there (.there (.there .here))))) DT (pr_sadd (by omega))) (evl_cons (ev_var .here) evl_nil))) (ev_var (.there (.there (.there (.there (.there .here)))))) (pr_isnot.to (by rw [h2]; cases lap <;> rfl))) fun _ => evb_or_nil) (fun hb => by cases hb) (fun hb => tr_nil ?_)
    refine tr_if (b := false) (evb_or (a := false) (b := false) (evb_compare (ev_callg (f_em L (w := F) (t := E) (by omega) (by omega)) (evl_cons (ev_var (.there (.there (.there .here)))) (evl_cons (ev_var (.there (.there (.there (.there .here))))) evl_nil))) (ev_var (.there (.there (.there (.there (.there .here)))))) (pr_isnot.to (by rw [h3]; cases lap <;> rfl)))
      fun _ => evb_or (a := false) (b := false) (evb_compare (ev_callg (f_em L (w := F) (t := t) (by omega) (by omega)) (evl_cons (ev_var (.there (.there (.there .here)))) (evl_cons (ev_var .here) evl_nil))) ev_bool (pr_isnot.to (by rw [h4]; rfl))) fun _ => evb_or_nil) (fun hb => by cases hb) (fun hb => tr_nil ?_)
    refine tr_if (b := false) (evb_compare (Y := pB (lap && decide (2 * k ≤ t.length))) (ev_callg (f_em L (w := F ++ dots ++ F) (t := t) (by rw [List.length_append, List.length_append]; omega) (by omega)) (evl_cons (ev_binop (ev_binop (ev_var (.there (.there (.there .here)))) DT (pr_sadd (by omega))) (ev_var (.there (.there (.there .here)))) (pr_sadd (by rw [List.length_append]; omega))) (evl_cons (ev_var .here) evl_nil)))
      (ev_and (ev_var (.there (.there (.there (.there (.there .here)))))) fun _ => ev_and1 (ev_compare (ev_binop ev_int (ev_var (.there (.there .here))) (pr_mul (IntMulOk.of_left (by decide)))) (ev_bcall (bn L b_len) (evl_cons (ev_var .here) evl_nil) (pr_slen (by omega))) (pr_le.to (by congr 1; rw [decide_eq_decide]; omega)))) (pr_isnot.to (by rw [h5]; cases (lap && decide (2 * k ≤ t.length)) <;> rfl))) (fun hb => by cases hb) (fun hb => tr_nil ?_)
    exact tr_nil ⟨_, _, _, _, rfl⟩
  · obtain ⟨X₁, X₂, X₃, X₄, rfl⟩ := hJ
    exact tr_ret ev_bool (.inl rfl)
end Mine
end
section
open PySem PySem.W PyProof.Rows PySem.Calls PySem.SeqAt PyProof.V
set_option maxRecDepth 100000
namespace Mine
open Hd
-- the word that is laid
noncomputable def laidW (front : List Nat) (step m wish : Nat) : List Nat :=
  let middle := front ++ List.replicate (step - m - 1) 105
  let whole := middle ++ [wish]
  if em (dots ++ whole ++ dots) (sl (some 1) (some (-1)) (whole ++ whole)) then middle ++ [if wish == 102 then 105 else 102] else whole
noncomputable def laidF : Nat → Nat → List Nat → Nat → List Nat
  | 0, _, _, _ => []
  | fuel + 1, size, laps, wish =>
    let L := laps.filter fun k => decide (k < size)
    match L.getLast? with
    | none => 102 :: List.replicate (size - 1) 105
    | some m =>
      if m ≥ size - m then (rep size ((laidF fuel (size - m + size % (size - m)) L wish).take (size - m))).take size
      else laidW (laidF fuel m L wish) (size - m) m wish ++ laidF fuel m L wish
theorem laidW_len {front : List Nat} {step m wish : Nat} (h : front.length = m) (hs : m < step) : (laidW front step m wish).length = step := by
  unfold laidW
  dsimp only
  split <;> simp <;> omega
theorem laidF_len : ∀ (fuel size : Nat) (laps : List Nat) (wish : Nat), size ≤ fuel → 1 ≤ size → (∀ k ∈ laps, 1 ≤ k) → (laidF fuel size laps wish).length = size
  | 0, size, _, _, h, h1, _ => by omega
  | fuel + 1, size, laps, wish, h, h1, hl => by
    unfold laidF
    dsimp only
    have hL : ∀ k ∈ laps.filter (fun k => decide (k < size)), 1 ≤ k ∧ k < size := fun k hk => by
      have := List.mem_filter.mp hk
      exact ⟨hl k this.1, by simpa using this.2⟩
    generalize laps.filter (fun k => decide (k < size)) = L at hL
    cases hg : L.getLast? with
    | none => simp; omega
    | some m =>
      have hm := hL m (List.mem_of_getLast? hg)
      dsimp only
      by_cases hc : m ≥ size - m
      · rw [if_pos hc]
        have hmod : size % (size - m) < m := by
          have := Nat.mod_lt size (show size - m > 0 by omega)
          omega
        rw [List.length_take, rep_len, List.length_take, laidF_len fuel (size - m + size % (size - m)) L wish (by omega) (by omega) (fun k hk => (hL k hk).1)]
        rw [Nat.min_eq_left (show size - m ≤ size - m + size % (size - m) by omega)]
        have : 1 * size ≤ (size - m) * size := Nat.mul_le_mul_right _ (by omega)
        simp only [Int.toNat_natCast]
        rw [Nat.mul_comm size (size - m)]
        omega
      · rw [if_neg hc]
        have hf := laidF_len fuel m L wish (by omega) hm.1 (fun k hk => (hL k hk).1)
        rw [List.length_append, laidW_len hf (by omega), hf]; omega
end Mine
end
section
open PySem PySem.W PyProof.Rows PySem.Calls PySem.SeqAt PyProof.V
set_option maxRecDepth 100000
namespace Mine
open Hd
theorem datN_filter (laps : List Nat) (size : Nat) : ((dNats laps).filter fun d => decide (datI d < (size : Int))).map (fun d => d) = dNats (laps.filter fun k => decide (k < size)) := by
  rw [List.map_id']
  induction laps with
  | nil => rfl
  | cons a r ih =>
    show List.filter _ (PyData.int (a : Int) :: dNats r) = _
    rw [List.filter_cons, List.filter_cons, ih]
    by_cases h : a < size
    · rw [if_pos (by show decide ((a : Int) < (size : Int)) = true; simp; omega), if_pos (by simpa using h)]; rfl
    · rw [if_neg (by show ¬ decide ((a : Int) < (size : Int)) = true; simp; omega), if_neg (by simpa using h)]
theorem rep_one (n : Int) (x : Nat) : rep n [x] = List.replicate n.toNat x := by
  unfold rep
  induction n.toNat with
  | zero => rfl
  | succ k ih => rw [List.replicate_succ, List.flatten_cons, ih, List.replicate_succ]; rfl
theorem f_laid {Ω : Wo} (L : Law1 Ω) {q : Bool} : ∀ (fuel : Nat) {d size : Nat} {laps : List Nat} {wish : Nat} (hf : size ≤ fuel) (h1 : 1 ≤ size) (h13 : size ≤ 13) (hl : ∀ k ∈ laps, 1 ≤ k) (hn : laps.length ≤ 100),
    Fn Ω q (d + fuel + 1) (Str.ofString "_law_laid") [pI size, .list (dNats laps), pL [wish]] (pL (laidF fuel size laps wish))
  | 0, d, size, laps, wish, hf, h1, _, _, _ => by omega
  | fuel + 1, d, size, laps, wish, hf, h1, h13, hl, hn => by
    have IH := @f_laid Ω L q fuel
    refine fn_intro (d := d + (fuel + 1)) (ps := [Str.ofString "size", Str.ofString "laps", Str.ofString "wish"]) (ls := [Str.ofString "step", Str.ofString "front", Str.ofString "middle", Str.ofString "whole"]) (fnrec_of (d := recOf (st1 19)) L (by kernel_rfl)) rfl (fun pm cd doc vs hv => ?_) (by kernel_rfl) (by decide +kernel) (fun env bs O₀ => ?_)
    · exact ba3 (fun _ _ _ => rfl) vs hv
    show Tr _ _ (fnBody (st1 19)) _
    refine tr_own_comp (fv := [Str.ofString "size"]) (Xs := [pI size]) (fun d => decide (datI d < (size : Int))) (fun d => d) (ite_list (ev_var (.there .here))) (by simp; omega) (by kernel_rfl) (by kernel_rfl) (by kernel_rfl) rfl (by kernel_rfl) (.cons .here .nil) (fun env b O d hd => .one ?_) (fun env b O d hd _ => ev_var .here) (fun a => .there .here) (fun a => ?_)
    · obtain ⟨x, _, rfl⟩ := List.mem_map.mp hd
      exact evb_compare (ev_var .here) (ev_var (.there .here)) pr_lt
    refine tr_freeze (x := Str.ofString "laps") rfl (.there .here) (.there .here) ?_
    rw [datN_filter]
    have hL : ∀ k ∈ laps.filter (fun k => decide (k < size)), 1 ≤ k ∧ k < size := fun k hk => by
      have := List.mem_filter.mp hk
      exact ⟨hl k this.1, by simpa using this.2⟩
    have hLn : (laps.filter (fun k => decide (k < size))).length ≤ 100 := Nat.le_trans (List.length_filter_le _ _) hn
    unfold laidF
    dsimp only
    generalize laps.filter (fun k => decide (k < size)) = M at *
    refine tr_if (b := M == []) (evb_compare (ev_var (.there .here)) (ev_list (ds := dNats []) evl_nil (by simp)) (pr_leq.to ?_)) (fun hb => ?_) (fun hb => ?_)
    · cases M with
      | nil => rfl
      | cons x r => rfl
    · have hb : M = [] := by simpa using hb
      subst hb
      refine tr_ret (X := pL ([102] ++ rep ((size : Int) - 1) [105])) ?_ (.inl ?_)
      · exact ev_binop (ev_strl (l := [102]) (by decide +kernel)) (ev_binop (ev_strl (l := [105]) (by decide +kernel)) (ev_binop (ev_var .here) ev_int pr_sub) (pr_smul (by simp; omega) (by omega) (by omega))) (pr_sadd (by simp [rep_len]; omega))
      · rw [rep_one, show ((size : Int) - 1).toNat = size - 1 by omega]; rfl
    · have hb : M ≠ [] := by simpa using hb
      refine tr_nil ?_
      have hg := List.getLast?_eq_some_getLast hb
      have hmem := List.getLast_mem hb
      generalize M.getLast hb = m at hg hmem
      have hm := hL m hmem
      rw [hg]
      dsimp only
      have hp := List.length_pos_iff.mpr hb
      have LAST : (dNats M)[(if (-1 : Int) < 0 then (-1 : Int) + ((dNats M).length : Int) else -1).toNat]? = some (.int (m : Int)) := by
        have e : (if (-1 : Int) < 0 then (-1 : Int) + ((dNats M).length : Int) else -1).toNat = M.length - 1 := by
          rw [if_pos (by decide), List.length_map]; omega
        rw [e, List.getElem?_map, ← List.getLast?_eq_getElem?, hg]; rfl
      have GL : ∀ {cc : Cx} {O : List Addr}, Gi cc O (.list (dNats M)) (pI (-1)) (.dat (.int (m : Int))) := gi_list LAST (by simp; omega) (by decide) (by simp; omega)
      refine tr_set (X := pI ((size - m : Nat) : Int)) (ev_binop (ev_var .here) (ev_item (ev_var (.there .here)) (ev_unary ev_int pr_neg) GL) (pr_sub.to (by congr 1; omega))) (.there (.there (.there .here))) ?_
      have hmod : size % (size - m) < size - m := Nat.mod_lt size (by omega)
      refine tr_if (b := decide (m ≥ size - m)) (evb_compare (ev_item (ev_var (.there .here)) (ev_unary ev_int pr_neg) GL) (ev_var (.there (.there (.there .here)))) (pr_ge.to (by congr 1; rw [decide_eq_decide]; omega))) (fun hc => ?_) (fun hc => ?_)
      · have hc : m ≥ size - m := by simpa using hc
        rw [if_pos hc]
        have hlen := laidF_len fuel (size - m + size % (size - m)) M wish (by omega) (by omega) (fun k hk => (hL k hk).1)
        have F := IH (d := d) (size := size - m + size % (size - m)) (laps := M) (wish := wish) (by omega) (by omega) (by omega) (fun k hk => (hL k hk).1) hLn
        generalize laidF fuel (size - m + size % (size - m)) M wish = W at *
        have e1 : sl none (some ((size - m : Nat) : Int)) W = W.take (size - m) := by rw [sl_to (by omega)]; simp
        have e2 : sl none (some (size : Int)) (rep size (W.take (size - m))) = (rep size (W.take (size - m))).take size := by rw [sl_to (by omega)]; simp
        have e3 : (size : Int).fmod ((size - m : Nat) : Int) = ((size % (size - m) : Nat) : Int) := by rw [Int.fmod_eq_emod_of_nonneg _ (by omega)]; rfl
        have hb2 : (W.take (size - m)).length ≤ 13 := by rw [List.length_take]; omega
        have hb3 : (W.take (size - m)).length * size ≤ 13 * 13 := Nat.mul_le_mul hb2 h13
        refine tr_ret (X := pL ((rep size (W.take (size - m))).take size)) ?_ (.inl rfl)
        refine ev_to (by rw [e2]) (ev_upto (X := pL (rep size (W.take (size - m)))) ?_ (ev_var .here) (gs_str (by rw [rep_len, Int.toNat_natCast, Nat.mul_comm]; omega)))
        refine ev_binop (X := pL (W.take (size - m))) ?_ (ev_var .here) (pr_smul (by rw [Int.toNat_natCast]; omega) (by omega) (by omega))
        refine ev_to (by rw [e1]) (ev_upto (X := pL W) (ev_callg F ?_) (ev_var (.there (.there (.there .here)))) (gs_str (by omega)))
        exact evl_cons (ev_to (X := pI (((size - m : Nat) : Int) + (size : Int).fmod ((size - m : Nat) : Int))) (by rw [e3]; rfl) (ev_binop (ev_var (.there (.there (.there .here)))) (ev_binop (ev_var .here) (ev_var (.there (.there (.there .here)))) (pr_mod (by omega))) pr_add)) (evl_cons (ev_var (.there .here)) (evl_cons (ev_var (.there (.there .here))) evl_nil))
      · have hc : ¬ m ≥ size - m := by simpa using hc
        rw [if_neg hc]
        refine tr_nil ?_
        have hlen := laidF_len fuel m M wish (by omega) (by omega) (fun k hk => (hL k hk).1)
        have F := IH (d := d) (size := m) (laps := M) (wish := wish) (by omega) (by omega) (by omega) (fun k hk => (hL k hk).1) hLn
        generalize laidF fuel m M wish = W at *
        refine tr_set (X := pL W) (ev_callg F (evl_cons (ev_item (ev_var (.there .here)) (ev_unary ev_int pr_neg) GL) (evl_cons (ev_var (.there .here)) (evl_cons (ev_var (.there (.there .here))) evl_nil)))) (.there (.there (.there (.there .here)))) ?_
        have er : rep (((size - m : Nat) : Int) - (m : Int) - 1) [105] = List.replicate (size - m - m - 1) 105 := by
          rw [rep_one]; congr 1; omega
        refine tr_set (X := pL (W ++ List.replicate (size - m - m - 1) 105)) ?_ (.there (.there (.there (.there (.there .here))))) ?_
        · refine ev_to (by rw [er]) (ev_binop (ev_var (.there (.there (.there (.there .here))))) (ev_binop (ev_strl (l := [105]) (by decide +kernel)) (ev_binop (ev_binop (ev_var (.there (.there (.there .here)))) (ev_item (ev_var (.there .here)) (ev_unary ev_int pr_neg) GL) pr_sub) ev_int pr_sub) (pr_smul (by simp; omega) (by omega) (by omega))) (pr_sadd (by rw [er, List.length_replicate]; omega)))
        unfold laidW
        dsimp only
        have hml : (W ++ List.replicate (size - m - m - 1) 105).length ≤ 30 := by rw [List.length_append, List.length_replicate]; omega
        generalize W ++ List.replicate (size - m - m - 1) 105 = Md at *
        refine tr_set (ev_binop (ev_var (.there (.there (.there (.there (.there .here)))))) (ev_var (.there (.there .here))) (pr_sadd (by simp; omega))) (.there (.there (.there (.there (.there (.there .here)))))) ?_
        have hwl : (Md ++ [wish]).length ≤ 31 := by rw [List.length_append]; simp; omega
        generalize hWh : Md ++ [wish] = Wh at *
        have hsl : (sl (some 1) (some (-1)) (Wh ++ Wh)).length ≤ 62 := Nat.le_trans (sl_len _ _ _) (by rw [List.length_append]; omega)
        have dl : dots.length = 3 := rfl
        refine tr_if (b := em (dots ++ Wh ++ dots) (sl (some 1) (some (-1)) (Wh ++ Wh))) (evb_plain (ev_callg (f_em L (w := dots ++ Wh ++ dots) (t := sl (some 1) (some (-1)) (Wh ++ Wh)) (by rw [List.length_append, List.length_append]; omega) (by omega)) (evl_cons (ev_binop (ev_binop (ev_strl (l := dots) (by decide +kernel)) (ev_var (.there (.there (.there (.there (.there (.there .here))))))) (pr_sadd (by omega))) (ev_strl (l := dots) (by decide +kernel)) (pr_sadd (by rw [List.length_append]; omega)))
          (evl_cons (ev_both (X := pL (Wh ++ Wh)) (ev_binop (ev_var (.there (.there (.there (.there (.there (.there .here))))))) (ev_var (.there (.there (.there (.there (.there (.there .here))))))) (pr_sadd (by omega))) ev_int (ev_unary ev_int pr_neg) (gs_str (by rw [List.length_append]; omega))) evl_nil))) tv_bool) (fun he => ?_) (fun he => ?_)
        · rw [if_pos he]
          refine tr_set (X := pL (Md ++ [if wish == 102 then 105 else 102])) ?_ (.there (.there (.there (.there (.there (.there .here)))))) (tr_nil ?_)
          · refine ev_binop (ev_var (.there (.there (.there (.there (.there .here)))))) (Y := pL [if wish == 102 then 105 else 102]) ?_ (pr_sadd (by simp; omega))
            refine ev_to ?_ (ev_ifexp (b := [wish] == [102]) (X := pL [105]) (Y := pL [102]) (evb_compare (ev_var (.there (.there .here))) (ev_strl (l := [102]) (by decide +kernel)) pr_seq) (fun _ => ev_strl (by decide +kernel)) (fun _ => ev_strl (by decide +kernel)))
            by_cases hw : wish = 102
            · subst hw; rfl
            · simp [hw]
          · exact tr_ret (ev_binop (ev_var (.there (.there (.there (.there (.there (.there .here))))))) (ev_var (.there (.there (.there (.there .here))))) (pr_sadd (by simp; omega))) (.inl rfl)
        · rw [if_neg (by rw [he]; simp)]
          exact tr_nil (tr_ret (ev_binop (ev_var (.there (.there (.there (.there (.there (.there .here))))))) (ev_var (.there (.there (.there (.there .here))))) (pr_sadd (by omega))) (.inl rfl))
end Mine
end
section
open PySem PySem.W PyProof.Rows PySem.Calls PySem.SeqAt PyProof.V
set_option maxRecDepth 4000
namespace Mine
theorem value_not_stop : isSubtype (.type "ValueError") (.type "StopIteration") = pure false := by rw [isSubtype_type]; kernel_rfl
-- the next item of a generator function that raises
theorem next_raise {prog : Program} {w : World} {A : Around} {E : Value → Shared → Prop} {s : Shared} {a : Addr} {g n : Nat} {gs : GenState} {R : GenEnd} {Q : Option Value → Shared → Prop} (hh : A.handled = none)
    (hl : s.heap.NoLimit) (hroom : A.depth < recursionLimit) (hg : s.heap.IsGen a g) (hgs : s.gens[g]? = some gs)
    (hgo : gs.Goes (model prog w) A.in1 R (fun _ _ _ _ _ => False) n (.send .none) (s.setGen g .running))
    (hR : ∀ x s₁, R n (s.setGen g .running) x s₁ → s₁.heap.IsGen a g ∧ ∃ e o, x = .error (.ref e) ∧ s₁.heap.get? e = some o ∧ o.cls = .type "ValueError" ∧ E (.ref e) (s₁.setGen g .finished)) : wpAny (model prog w) A (pyNext (.ref a)) Q E s := by
  unfold pyNext
  refine wpAny_bind (wpAny_attempt (wpAny_callSpecial?_slot (name := Str.ofString "__next__") hg.typeIs slot_gen_next (wpAny_call_entry slot_gen_next hg.typeIs entry_gen_next ?_ (args_gen_next _))))
  show wpAny _ A.in1 (Builtin.Generator.genWake (.ref a) (.send .none)) _ _ s
  unfold Builtin.Generator.genWake
  refine wpAny_bind (wpAny_holding (wpAny_genNumber hg (wpAny_bind (wpAny_genState hgs ?_))))
  cases gs with
  | running => exact hgo.elim
  | finished => exact hgo.elim
  | _ =>
    refine wpAny_bind (wpAny_roomToWake hl hroom ?_)
    show wpAny _ A.in1 (.resume g (.send .none) [] _) _ _ s
    refine wpAny_resumeQ hgs hgo (fun x s₁ hx => ?_) (fun v s₁ gs' hb hv => hv.elim)
    obtain ⟨hG, e, o, rfl, ho, hc, hE⟩ := hR _ _ hx
    show wpAny _ A.in1 (Builtin.Generator.genLeft (.ref a) (.ref e)) _ _ _
    unfold Builtin.Generator.genLeft Builtin.Generator.madeByALambda
    obtain ⟨og, nm, qn, hog, hgc, hgd, hgr⟩ := hG
    refine wpAny_bind (wpAny_bind (wpAny_load hog (wpAny_pure ?_)))
    refine wpAny_bind (wpAny_isInstance (T := "ValueError") (b := false) ⟨_, ho, hc⟩ value_not_stop ?_)
    rw [Bool.and_false, if_neg (by decide)]
    show wpAny _ A.in1 (Builtin.Generator.genEscaped (.ref e)) _ _ _
    unfold Builtin.Generator.genEscaped
    refine wpAny_bind (wpAny_isInstance (T := "ValueError") (b := false) ⟨_, ho, hc⟩ value_not_stop ?_)
    refine wpAny_throw ?_
    show wpAny _ A (isInstance (.ref e) (.type "StopIteration") >>= _) _ _ _
    refine wpAny_bind (wpAny_isInstance (T := "ValueError") (b := false) ⟨_, ho, hc⟩ value_not_stop ?_)
    exact wpAny_throw hE
end Mine
end
section
open PySem PySem.W PyProof.Rows PySem.Calls PySem.SeqAt PyProof.V
set_option maxRecDepth 4000
namespace Mine
section
variable {M : Model} {A : Around} {E : Value → Shared → Prop} {s : Shared}
-- a new exception is noted at the frame that raised it
theorem looks_made {base h : Heap} {env : Env} {outer : List Env} {L e : Addr} {cls : String} {args : List Value} {Q : Unit → Shared → Prop} (hfr : A.frames = some (env :: outer)) (hf : env.frame = some L) (hkb : base.StaysIn h) (hl : h.FunFrames base (env :: outer)) (hx : Heap.MadeExc h s.heap e cls args)
    (hQ : ∀ h' a0, Heap.HeldW base (env :: outer) e (.type cls) a0 L h' → h.UpToSlots h' → Q () { s with heap := h' }) : wpAny M A (noteFrame (.ref e) env) Q E s := by
  obtain ⟨t, he, htn, ht⟩ := hx.there
  have fresh : ∀ b, h.get? b = none → base.get? b = none := fun b hb => by
    cases hq : base.get? b with
    | none => rfl
    | some o' => have := hkb b o' hq; rw [hb] at this; cases this
  unfold noteFrame
  simp only [hf]
  refine wpAny_bind (wpAny_field he rfl (x := .none) rfl ?_)
  rw [if_neg (by decide)]
  refine wpAny_entryW (a0 := .ref t) (base := base) hfr (hl.of_keeps fun b o hb _ => ⟨o, hx.keeps b o hb, rfl⟩) hf he (fun b o hb => hx.keeps b o (hkb b o hb)) (fresh e hx.new) rfl (by show 1 < 6; decide) rfl fun h' hN => ?_
  obtain ⟨k1, k2, k3, k4⟩ := hN
  exact hQ h' _ ⟨k1, fresh e hx.new, k2, k3⟩ ((Heap.UpToSlots.of_keeps hx.keeps).trans k4)
theorem flies_again {base : Heap} {l : List Env} {e L : Addr} {cls a0 : Value} {Q : Unit → Shared → Prop} (hh : Heap.HeldW base l e cls a0 L s.heap)
    (hQ : ∀ h', Heap.HeldW base l e cls a0 L h' → s.heap.UpToSlots h' → Q () { s with heap := h' }) : wpAny M A (setFlight (.ref e) (some L)) Q E s := by
  obtain ⟨hkb, hen, hl, oe, vs, T, oT, ts, he, hcls, hd, h1, hnT, hTe, hT, hdT, h3⟩ := hh
  have hsz3 : 3 < ts.size := (Array.getElem?_eq_some_iff.mp h3).1
  have other : ∀ b, b ≠ T → (s.heap.update T (Obj.mapFields (·.setIfInBounds 3 ((some L : Option Addr).elim Value.none fun f => rawInt f)))).get? b = s.heap.get? b :=
    fun b hb => Heap.get?_update_other _ _ (Ne.symm hb)
  have noRecord : ∀ b o, s.heap.get? b = some o → (∀ vs, o.data ≠ .fields vs) → b ≠ T := fun b o hb hnf q => by
    rw [q, hT] at hb; injection hb with hb; subst hb; exact hnf ts hdT
  unfold setFlight
  refine wpAny_bind (wpAny_field he hd h1 ?_)
  rw [if_pos (show (Value.ref T != Value.none) = true from by simp)]
  refine wpAny_setField hT hdT hsz3 (hQ _ ⟨fun b o hbo => (other b fun q => by rw [q, hnT] at hbo; cases hbo).trans (hkb b o hbo), hen,
    hl.of_keeps fun b o hb hnf => ⟨o, (other b (noRecord b o hb hnf)).trans hb, rfl⟩, ?_⟩ fun b o hb hnf => ⟨o.slots, (other b (noRecord b o hb hnf)).trans hb⟩)
  exact ⟨oe, vs, T, _, _, (other e (Ne.symm hTe)).trans he, hcls, hd, h1, hnT, hTe, Heap.get?_update_self _ hT (Obj.isFreed_of_fields (Obj.data_mapFields hdT _)), Obj.data_mapFields hdT _, by simp [hsz3]⟩
theorem leaves_held {base : Heap} {env : Env} {outer : List Env} {L e : Addr} {cls a0 : Value} {Q : Unit → Shared → Prop} (hf : env.frame = some L)
    (hh : Heap.HeldW base (env :: outer) e cls a0 L s.heap) (hQ : ∀ h', Heap.FlyingW base outer e cls a0 h' → s.heap.UpToSlots h' → Q () { s with heap := h' }) : wpAny M A (leaving env (.ref e)) Q E s := by
  unfold leaving
  refine wpAny_bind (wpAny_noteFrame_againW hf hh.2.2.2 ?_)
  refine wpAny_landsW hh fun h' hfl hu => ?_
  obtain ⟨k1, k2, ⟨_, _, k3⟩, k4⟩ := hfl
  exact hQ h' ⟨k1, k2, k3, k4⟩ hu
end
end Mine
end
section
open PySem PySem.W PyProof.Rows PySem.Calls PySem.SeqAt PyProof.V
set_option maxRecDepth 100000
namespace Mine
open Hd
-- up to the slots of one object
noncomputable def SK (L : Addr) (h h' : Heap) : Prop := ∀ o, h.get? L = some o → (∀ vs, o.data ≠ .fields vs) → ∃ sl, h'.get? L = some { o with slots := sl }
theorem SK.trans {L : Addr} {a b c : Heap} (x : SK L a b) (y : SK L b c) : SK L a c := fun o e hn => by
  obtain ⟨sl, e1⟩ := x o e hn
  obtain ⟨sl', e2⟩ := y _ e1 hn
  exact ⟨sl', e2⟩
theorem SK.of_slots {L : Addr} {a b : Heap} (x : a.UpToSlots b) : SK L a b := fun o e hn => x L o e hn
theorem SK.of_eq {L : Addr} {a b : Heap} (x : ∀ o, a.get? L = some o → b.get? L = some o) : SK L a b := fun o e _ => ⟨o.slots, x o e⟩
-- how the generator ends
noncomputable def rX (base : Heap) (outer : List Env) (Ls : List Addr) : GenEnd := fun _ s₀ r s₁ => ∃ e a0, r = .error (.ref e) ∧ Heap.FlyingW base outer e (.type "ValueError") a0 s₁.heap ∧ (∃ h' tk, s₁ = { s₀ with heap := h', toks := tk }) ∧ ∀ L ∈ Ls, SK L s₀.heap s₁.heap
noncomputable abbrev yX : Protocol := fun _ _ _ _ _ => False
end Mine
end
section
open PySem PySem.W PyProof.Rows PySem.Calls PySem.SeqAt PyProof.V
set_option maxRecDepth 100000
namespace Mine
open Hd
section
variable {Ω : Wo} {env : Env} {A : Around} {R : GenEnd} {wr : List Addr} {n : Nat} {s₀ : Shared} {fs : List Frame}
theorem gr_turn (L : Law1 Ω) (eo : EnvOk env gnm) {I : Addr} (hA : AOk 2 (A.over (c1 env I) fs)) {base : Heap} {outer : List Env} (hfr : (A.over (c1 env I) fs).frames = some (env :: outer)) (hff : env.frame = some env.locals)
    {s3 : Shared} (hkb : base.StaysIn s3.heap) (hFF : s3.heap.FunFrames base (env :: outer)) (ok3 : OkB Ω wr s3.heap) {m3 : Str → Option Value} {v : Value} (hn3 : s3.heap.Ns env.locals m3) (hv3 : m3 intN = some v) (cv : Carried v (.int 0)) (hx3 : m3 lastN = some .none)
    (hexit : ∀ s' e a0, Heap.HeldW base (env :: outer) e (.type "ValueError") a0 env.locals s'.heap → (∃ h' tk, s' = { s3 with heap := h', toks := tk }) → s3.heap.UpToSlots s'.heap → Seg (model Ω.prog Ω.w) A R yX n s₀ (c1 env I) (.raise (.ref e)) fs s') :
    Seg (model Ω.prog Ω.w) A R yX n s₀ (c1 env I) ((execs gB env).wrap (kF env I) (noted env) id id) fs s3 := by
  have hi : interactive env = false := by unfold interactive; rw [eo.kind]; rfl
  obtain ⟨vm, hvm, cvm⟩ := char_max L
  have st3 : ∀ s' : Shared, KK true s3 s' → St ⟨Ω, true, 2, gnm, [intN, lastN], env, s3, [], [], fun _ => True⟩ ⟨[pI 0, pN], []⟩ s' := fun s' k => (gst eo ok3.ok fun y Y a _ => by
      cases a with
      | here => exact ⟨v, var_at eo hn3 hv3 (by kernel_rfl), cv⟩
      | there a =>
        cases a with
        | here => exact ⟨.none, var_at eo hn3 hx3 (by kernel_rfl), .none⟩
        | there a => cases a).up k
  refine seg_execs_cons (seg_If ?_)
  refine evb_of (c := ⟨Ω, true, 2, gnm, [intN, lastN], env, s3, [], [], fun _ => True⟩) (σ := ⟨[pI 0, pN], []⟩) (b := false) ?_ hA (st3 _ (KK.refl _ _)) fun s₁ k₁ => ?_
  · exact evb_compare (ev_var .here) (ev_global hvm cvm (by kernel_rfl)) pr_eq
  rw [if_neg (by decide)]
  refine seg_execs_nil (seg_execs_cons (seg_If ?_))
  refine evb_of (c := ⟨Ω, true, 2, gnm, [intN, lastN], env, s3, [], [], fun _ => True⟩) (σ := ⟨[pI 0, pN], []⟩) (b := true) ?_ hA (st3 _ k₁) fun s₂ k₂ => ?_
  · exact evb_compare (ev_var .here) ev_int pr_eq
  rw [if_pos rfl]
  refine seg_execs_cons (seg_If ?_)
  refine evb_of (c := ⟨Ω, true, 2, gnm, [intN, lastN], env, s3, [], [], fun _ => True⟩) (σ := ⟨[pI 0, pN], []⟩) (b := true) ?_ hA (st3 _ (k₁.trans k₂)) fun s₃ k₃ => ?_
  · exact evb_compare (ev_var (.there .here)) ev_none pr_isNone
  rw [if_pos rfl]
  have k := (k₁.trans k₂).trans k₃
  refine seg_execs_cons (seg_wrap (Raise_madeB PySem.F.excCall_ValueError PySem.F.excRaise_ValueError hA.hh (bname_at (c := ⟨Ω, true, 2, gnm, [intN, lastN], env, s3, [], [], fun _ => True⟩) (bn L b_value) (st3 _ k) ⟨rfl, ?_⟩)))
  refine spliced_more (ev_of (ev_strl (l := "invalid grouping".toList.map Char.toNat) (by decide +kernel)) hA (st3 _ k) fun u s₄ k₄ r => spliced_none ⟨by show 1 ≤ _; decide, fun h' e hx => ?_⟩)
  have k34 := k.trans k₄
  refine seg_wrap (wpAny_bind (looks_made (h := s₄.heap) hfr hff (fun b o hb => k34.up b o (hkb b o hb)) (hFF.of_keeps fun b o hb _ => ⟨o, k34.up b o hb, rfl⟩) hx fun h'' a0 hh hu => ?_))
  refine wpAny_theTreesLotGoes ?_
  obtain ⟨h₄, tk₄, e₄, u₄⟩ := k34.keeps
  refine hexit _ e a0 hh ⟨h'', tk₄, by rw [e₄]⟩ ((Heap.UpToSlots.of_keeps k34.up).trans hu)
end
end Mine
end
section
open PySem PySem.W PyProof.Rows PySem.Calls PySem.SeqAt PyProof.V
set_option maxRecDepth 100000
namespace Mine
open Hd
section
variable {Ω : Wo} {A : Around}
theorem ff_but {h h' base : Heap} {a : Addr} (hk : ∀ b o, b ≠ a → h.get? b = some o → (∀ vs, o.data ≠ .fields vs) → ∃ o', h'.get? b = some o' ∧ o'.data = o.data) (hn : ∃ o, h'.get? a = some o ∧ ∀ vs, o.data ≠ .fields vs) : ∀ {l : List Env}, h.FunFrames base l → h'.FunFrames base l
  | [], _ => trivial
  | env :: r, ⟨h1, ⟨L, o, e1, e2, e3, e4⟩, h3⟩ => by
    refine ⟨h1, ?_, ff_but hk hn h3⟩
    by_cases z : L = a
    · subst z
      obtain ⟨o', e5, e6⟩ := hn
      exact ⟨L, o', e1, e2, e5, e6⟩
    · obtain ⟨o', e5, e6⟩ := hk L o z e3 e4
      exact ⟨L, o', e1, e2, e5, fun vs => by rw [e6]; exact e4 vs⟩
theorem ns_plain {h : Heap} {a : Addr} {m : Str → Option Value} (x : h.Ns a m) : ∃ o, h.get? a = some o ∧ ∀ vs, o.data ≠ .fields vs := by
  obtain ⟨o, es, ep, ho, hd, _⟩ := x
  exact ⟨o, ho, fun vs z => by rw [hd] at z; cases z⟩
theorem gr_scan (L : Law1 Ω) {env : Env} (eo : EnvOk env gnm) {R : GenEnd} {n : Nat} {s₀ s : Shared} {fs : List Frame} {I l : Addr} {vs : Array Value} {ruler : List Int} (hA : AOk 2 (A.over (c1 env I) fs)) {base : Heap} {outer : List Env} (hfr : (A.over (c1 env I) fs).frames = some (env :: outer)) (hff : env.frame = some env.locals)
    (hne : l ≠ I) (hLI : env.locals ≠ I) (hLl : env.locals ≠ l) (hv : CarriedAll vs.toList ((0 :: ruler).map .int)) (hkb : base.StaysIn s.heap) (hFF : s.heap.FunFrames base (env :: outer)) (hbI : base.get? I = none) (okB : OkB Ω [env.locals, I] s.heap) {m : Str → Option Value} (hm : s.heap.Ns env.locals m) (hx : m lastN = some .none) (hI : s.heap.IsListIter I l 0) (hl : s.heap.IsList l vs)
    (hexit : ∀ s' e a0, Heap.HeldW base (env :: outer) e (.type "ValueError") a0 env.locals s'.heap → (∃ h' tk, s' = { s with heap := h', toks := tk }) → (∀ b, b ≠ env.locals → b ≠ I → SK b s.heap s'.heap) → Seg (model Ω.prog Ω.w) A R yX n s₀ (c1 env I) (.raise (.ref e)) fs s') :
    Seg (model Ω.prog Ω.w) A R yX n s₀ (c1 env I) ((model Ω.prog Ω.w).den (c1 env I)) fs s := by
  have hn := carried_len hv
  rw [Array.length_toList, List.length_map] at hn
  have W := Walks.list (prog := Ω.prog) (w := Ω.w) (A := A.over (c1 env I) fs) hA.hh I l hne vs
  refine seg_forLoop (W.item 0 s _ _ (by rw [hn]; simp) ⟨hI, hl⟩ fun v h' tk hP hst hk => ?_)
  obtain ⟨u, hu, cu⟩ := carried_at hv (n := 0) (d := .int 0) rfl
  have hvu : v = u := by
    rw [Array.getElem?_toList] at hu
    rw [hu] at hP; cases hP; rfl
  subst hvu
  show wpAny _ _ (pure ()) _ _ _
  refine wpAny_pure (wpAny_assign_Name ?_)
  have hm1 : h'.Ns env.locals m := by
    obtain ⟨o, es, ep, ho, q⟩ := hm
    exact ⟨o, es, ep, hk _ _ (by simpa using hLI) ho, q⟩
  refine wpAny_storeName_local (eo.kinds _ _ (by kernel_rfl) (by decide)) hm1 (fun h'' hn'' hs'' => ?_) (by rw [eo.kind]; rfl)
  have hbL : base.get? env.locals = none := by
    obtain ⟨_, ⟨L', o, e1, e2, _⟩, _⟩ := hFF
    rw [hff] at e1; cases e1; exact e2
  have kI : ∀ b o, b ≠ I → s.heap.get? b = some o → h'.get? b = some o := fun b o nb e => hk b o (by simpa using nb) e
  have kA : ∀ b o, b ≠ env.locals → b ≠ I → s.heap.get? b = some o → h''.get? b = some o := fun b o n1 n2 e => hs''.extBut b o n1 (kI b o n2 e)
  have hsk : ∀ b, b ≠ env.locals → b ≠ I → SK b s.heap h'' := fun b n1 n2 => SK.of_eq fun o e => kA b o n1 n2 e
  have hkb'' : base.StaysIn h'' := fun b o e => kA b o (fun z => by rw [z, hbL] at e; cases e) (fun z => by rw [z, hbI] at e; cases e) (hkb b o e)
  refine gr_turn L eo hA hfr hff (base := base) (wr := [env.locals, I]) hkb'' ?_ ?_ hn'' (by simp) cu ?_ fun s' e a0 hh ⟨h1, tk1, es⟩ hu => hexit s' e a0 hh ⟨h1, tk1, by rw [es]⟩ fun b n1 n2 => (hsk b n1 n2).trans (.of_slots hu)
  · refine ff_but (a := env.locals) (fun b o nb e hnf => ⟨o, kA b o nb (fun z => ?_) e, rfl⟩) (ns_plain hn'') hFF
    subst z
    obtain ⟨o', e1, _, e2⟩ := hI
    rw [e] at e1; cases e1
    exact hnf _ e2
  · exact okB.chg (s' := { s with heap := h'', toks := tk }) ⟨h'', _, rfl, fun b o nb e => kA b o (fun z => nb (by rw [z]; simp)) (fun z => nb (by rw [z]; simp)) e⟩
  · show (if lastN = intN then some v else m lastN) = some .none
    rw [if_neg (by decide +kernel)]; exact hx
theorem gr_first (L : Law1 Ω) (hA : AOk 6 A) {env : Env} (eo : EnvOk env gnm) {outer : List Env} (hfr : A.frames = some outer) (hff : env.frame = some env.locals) {l : Addr} {vs : Array Value} {ruler : List Int} {N : Nat} {s : Shared} {m : Str → Option Value} (hm : s.heap.Ns env.locals m) (hg : m grpN = some (.ref l)) (hl : s.heap.PlainList l vs) (hv : CarriedAll vs.toList ((0 :: ruler).map .int))
    (okB : OkB Ω [env.locals, s.heap.objs.size] s.heap) {base : Heap} (hkb : base.StaysIn s.heap) (hFF : s.heap.FunFrames base outer) (hbL : base.get? env.locals = none) {Ls : List Addr} (hLs : ∀ b ∈ Ls, b ≠ env.locals ∧ (s.heap.get? b).isSome = true) (hkd : env.scope.kind = .function) :
    Seg (model Ω.prog Ω.w) A.in1 (rX base outer Ls) yX N s (.func (fnBody gSt) env) ((model Ω.prog Ω.w).den (.func (fnBody gSt) env)) [] s := by
  refine seg_func ?_
  refine seg_execs_cons (seg_plain (wpAny_Assign_Name (wpAny_pure ?_) (by rfl)))
  refine wpAny_storeName_local (eo.kinds _ _ (by kernel_rfl) (by decide)) hm (fun h4 hn4 hs4 => ?_) (by rw [eo.kind]; rfl)
  have hLl : env.locals ≠ l := (list_ne_ns hl hm).symm
  have hIs : l ≠ s.heap.objs.size := fun z => by obtain ⟨n, e⟩ := hl; rw [z, none_size] at e; cases e
  have hLI : env.locals ≠ s.heap.objs.size := fun z => by obtain ⟨o, es, ep, e, _⟩ := hm; rw [z, none_size] at e; cases e
  have hl4 : h4.PlainList l vs := let ⟨n, e⟩ := hl; ⟨n, (hs4.2 l hLl.symm).trans e⟩
  have hsz : h4.objs.size = s.heap.objs.size := hs4.1
  refine seg_execs_cons (seg_For ?_)
  refine wpAny_Name (wpAny_loadName_local eo.kind (eo.kinds _ _ (by kernel_rfl) (by decide)) hn4 (v := .ref l) ?_ ?_) (by decide +kernel)
  · show (if grpN = lastN then some Value.none else m grpN) = some (.ref l)
    rw [if_neg (by decide +kernel)]; exact hg
  refine wpAny_pyIter_list hl4.isList fun p => ?_
  show Seg _ _ _ _ N s (.forLoop _ (.ref h4.objs.size) _ _ env) _ _ _
  rw [hsz]
  have hit : (h4.push { cls := .type "list_iterator", data := .fields #[.ref l, .int 0 0] }).IsListIter s.heap.objs.size l 0 := by
    rw [← hsz]; exact ⟨_, Heap.get?_push_size _ rfl, rfl, rfl⟩
  have hl5 : (h4.push { cls := .type "list_iterator", data := .fields #[.ref l, .int 0 0] }).PlainList l vs := plain_up (up_push _) hl4
  have kA : ∀ b o, b ≠ env.locals → s.heap.get? b = some o → (h4.push { cls := .type "list_iterator", data := .fields #[.ref l, .int 0 0] }).get? b = some o := fun b o nb e =>
    Heap.get?_push_of_some _ ((hs4.2 b nb).trans e)
  have hpush : ∀ b o, b ∉ [env.locals, s.heap.objs.size] → s.heap.get? b = some o → (h4.push { cls := .type "list_iterator", data := .fields #[.ref l, .int 0 0] }).get? b = some o := fun b o nb e =>
    kA b o (fun z => nb (by rw [z]; simp)) e
  have hn5 := hn4.push { cls := .type "list_iterator", data := .fields #[.ref l, .int 0 0] }
  refine gr_scan (A := A.in1) L eo (I := s.heap.objs.size) (l := l) (vs := vs) (ruler := ruler) (R := rX base outer Ls) (n := N) (s₀ := s) (over_loop hA) (base := base) (outer := outer) ?_ hff hIs hLI hLl hv
    (fun b o e => kA b o (fun z => by rw [z, hbL] at e; cases e) (hkb b o e)) ⟨by rw [hkd]; decide, ?_, ?_⟩ hkb.fresh (okB.chg (s := s) (s' := { s with heap := h4.push { cls := .type "list_iterator", data := .fields #[.ref l, .int 0 0] } }) ⟨_, _, rfl, hpush⟩) hn5 (by simp) hit hl5.isList
    fun s' e a0 hh ⟨h1, tk1, es⟩ hsk => ?_
  · show pushEnvs [] (pushEnvs [env] A.frames) = _
    rw [hfr]; rfl
  · obtain ⟨o, ho, hnf⟩ := ns_plain hn5
    exact ⟨_, o, hff, hbL, ho, hnf⟩
  · exact ff_but (a := env.locals) (fun b o nb e _ => ⟨o, kA b o nb e, rfl⟩) (ns_plain hn5) hFF
  · refine seg_leaf (.error (.ref e)) ?_
    show Seg _ _ _ _ _ _ _ (((Sem.raise (Value.ref e)).onRaise _).wrap _ _ _ _) _ _
    rw [Sem.onRaise_eq_wrap, Sem.wrap_wrap]
    refine seg_wrap (wpAny_throw ?_)
    rw [Sem.bind_eq_wrap, Sem.wrap_wrap]
    obtain ⟨f1, f2, f3, oe, ve, T, oT, ts, he, hcl, hd, h1', hr⟩ := id hh
    refine seg_wrap (wpAny_bind (wpAny_field he hd h1' ?_))
    rw [if_neg (by simp)]
    rw [hff]
    refine flies_again hh fun h2 hh2 hu2 => ?_
    show Seg _ _ _ _ _ _ _ ((leaving env (.ref e)).wrap _ _ _ _) _ _
    refine seg_wrap (leaves_held (s := { s' with heap := h2 }) hff hh2 fun h3 hfl hu3 => ?_)
    refine seg_end (.error (.ref e)) ⟨e, a0, rfl, hfl, ⟨h3, tk1, by rw [es]⟩, fun b hb => ?_⟩
    obtain ⟨n1, n2⟩ := hLs b hb
    have hbI : b ≠ s.heap.objs.size := fun z => by rw [z, none_size] at n2; cases n2
    exact (SK.of_eq fun o e => kA b o n1 e).trans ((hsk b n1 hbI).trans ((SK.of_slots hu2).trans (.of_slots hu3)))
end
end Mine
end
section
open PySem PySem.W PyProof.Rows PySem.Calls PySem.SeqAt PyProof.V
set_option maxRecDepth 100000
namespace Mine
open Hd
theorem ff_base {h base base' : Heap} : ∀ {l : List Env}, (∀ L ∈ l.filterMap (·.frame), base'.get? L = none) → h.FunFrames base l → h.FunFrames base' l
  | [], _, _ => trivial
  | env :: r, hn, ⟨h1, ⟨L, o, e1, e2, e3, e4⟩, h3⟩ => ⟨h1, ⟨L, o, e1, hn L (by rw [List.filterMap_cons, e1]; exact .head _), e3, e4⟩, ff_base (fun L m => hn L (by rw [List.filterMap_cons, e1]; exact .tail _ m)) h3⟩
theorem ff_none {h base : Heap} : ∀ {l : List Env}, h.FunFrames base l → ∀ L ∈ l.filterMap (·.frame), base.get? L = none
  | [], _, L, m => nomatch m
  | env :: r, ⟨h1, ⟨L, o, e1, e2, e3, e4⟩, h3⟩, L', m => by
    rw [List.filterMap_cons, e1] at m
    rcases List.mem_cons.mp m with rfl | m
    · exact e2
    · exact ff_none h3 L' m
theorem none_stays {base base' : Heap} (k : base.StaysIn base') {b : Addr} (n : base'.get? b = none) : base.get? b = none := by
  cases e : base.get? b with
  | none => rfl
  | some o => have := k b o e; rw [n] at this; cases this
theorem flying_base {base base' h : Heap} {l : List Env} {e : Addr} {cls a0 : Value} (k : base.StaysIn base') (x : Heap.FlyingW base' l e cls a0 h) : Heap.FlyingW base l e cls a0 h := by
  obtain ⟨h1, h2, h3, oe, vs, T, oT, ts, he, hc, hd, h4, h5, h6⟩ := x
  exact ⟨fun b o e => h1 b o (k b o e), none_stays k h2, ff_base (fun L m => none_stays k (ff_none h3 L m)) h3, oe, vs, T, oT, ts, he, hc, hd, h4, none_stays k h5, h6⟩
-- a call that ended by an exception on its way
noncomputable def KX (q : Bool) (base : Heap) (Ls : List Addr) (s s' : Shared) : Prop := ∃ h' tk gs, s' = { s with heap := h', toks := tk, gens := gs } ∧ GensOk q s.gens gs ∧ base.StaysIn h' ∧ ∀ b ∈ Ls, SK b s.heap h'
section
-- a call of the generator function that refuses
theorem gr_it {c : Cx} {σ : Sg} (L : Law1 c.Ω) {d : Nat} (hd : c.d = d + 12) (hq : c.q = false) {e : Expr} {ruler : List Int} (he : Ev c σ e (.list ((0 :: ruler).map .int))) {p pos : Pos} (hx : c.nm.lookup gName = some .globalImplicit)
    {A : Around} {s : Shared} (hA : AOk c.d A) (hs : St c σ s) {outer : List Env} (hfr : A.frames = some outer) {base : Heap} (hkb : base.StaysIn s.heap) (hFF : s.heap.FunFrames base outer) {Ls : List Addr} (hLs : ∀ b ∈ Ls, (s.heap.get? b).isSome = true) {Q : Value → Shared → Prop} {E : Value → Shared → Prop}
    (hQ : ∀ s' a, KK c.q s s' → (∀ (Q' : Option Value → Shared → Prop) (E' : Value → Shared → Prop), (∀ e a0 s'', Heap.FlyingW base outer e (.type "ValueError") a0 s''.heap → KX c.q base Ls s s'' → E' (.ref e) s'') → wpAny c.M A (pyNext (.ref a)) Q' E' s') → Q (.ref a) s')
    (hst : noStar [e] = true := by rfl) : wpAny c.M A (eval (.Call (.Name gName p) [e] [] pos) c.env) (fun x s₁ => wpAny c.M A (pyIter x) Q E s₁) E s := by
  obtain ⟨fa, hmg, hrec⟩ := (fnrec_of (d := recOf gSt) L (by kernel_rfl)).at_
  obtain ⟨o, pm, cd, doc, ho, hdata, hcd⟩ := hrec _ hs.ok
  refine wpAny_Call_NameR (Name_function_global hs.eo.kind (hs.eo.kinds _ _ hx (by decide)) (loadGlobal_global (by rw [hs.eo.glob]; exact c.Ω.g _ hs.ok) hmg ?_) (by decide +kernel))
  refine callWith_function (o := o) (fd := _) (evalArgs_of hst (spliced_more (ev_of he hA hs fun v s₁ k r => spliced_none ⟨⟨k.up _ _ ho, hdata⟩, ?_⟩) (by cases e <;> first | rfl | (simp at hst))))
  obtain ⟨l, vs, rfl, nl, hl, hv⟩ := r
  refine wpAny_call (codeAny_call_generator (by have := hA.depth; omega) (k.up _ _ ho) hdata (by rfl) (by rfl) (body := fnBody gSt) (by rfl) (hcd.keeps k.up) ?_)
  refine wpAny_of_eq (a := [(grpN, .ref l)]) (by rfl) ?_
  refine wpAny_newFunctionEnv_cells (by rfl) (fun y hy => by rw [List.mem_singleton] at hy; subst hy; exact .inl (by kernel_rfl)) fun env henv s₂ x => ⟨c.Ω.nolim _ (c.Ω.keeps _ _ hs.ok ?_), ?_⟩
  · obtain ⟨h', tk, rfl, u⟩ := x.done
    exact Up.trans k.up u
  have hsc : env.scope = fnScope gSt := by rw [henv]; rfl
  have eo : EnvOk env gnm := ⟨by rw [hsc]; rfl, by rw [hsc], by rw [henv]; rfl, by rw [henv]; rfl, fun y k e _ => by show env.scope.names.lookup y = _; rw [hsc]; exact e, fun y e => by
    exfalso
    have : ∀ y, gnm.lookup y ≠ some .cell := fun y h => by
      have hm := lookup_mem h
      have : (gnm.all fun p => p.2 != .cell) = true := by kernel_rfl
      have := List.all_eq_true.mp this _ hm
      simp at this
    exact this y e⟩
  have hco : env.scope.isCoroutine = false := by rw [hsc]; rfl
  have hL : env.locals = s₁.heap.objs.size := by rw [henv]; rfl
  have hff : env.frame = some env.locals := by rw [henv]; rfl
  have hns := x.toInCall.ns
  have hgrp : bindL env.kindOf [(grpN, Value.ref l)] (fun _ => none) grpN = some (.ref l) := bindL_one (eo.kinds _ _ (by kernel_rfl) (by decide))
  obtain ⟨h₂, tk₂, es₂, u₂⟩ := x.done
  show wpAny c.M A (pyIter (.ref s₂.heap.objs.size)) Q E _
  suffices main : ∀ s₃ : Shared, s₃ = ({ s₂ with gens := s₂.gens.push (.fresh (.func (fnBody gSt) env)), toks := s₂.toks + 1 + 1, heap := s₂.heap.push { cls := .type "generator", data := .fields #[.int s₂.gens.size 0, .str (fnName gSt) s₂.toks, .str (fnName gSt) (s₂.toks + 1)] } } : Shared) → wpAny c.M A (pyIter (.ref s₂.heap.objs.size)) Q E s₃ from main _ rfl
  intro s₃ hs3'
  have hs3 := hs3'.symm
  have hG : s₃.heap.IsGen s₂.heap.objs.size s₂.gens.size := by rw [← hs3]; exact ⟨_, _, _, Heap.get?_push_size _ rfl, rfl, rfl, rfl⟩
  have hgs : s₃.gens[s₂.gens.size]? = some (.fresh (.func (fnBody gSt) env)) := by rw [← hs3]; exact Array.getElem?_push_size ..
  have hgens : s₂.gens = s₁.gens := by rw [es₂]
  have u3 : Up s₂.heap s₃.heap := by rw [← hs3]; exact up_push _
  have u12 : Up s₁.heap s₂.heap := by rw [es₂]; exact u₂
  have kk3 : KK c.q s₁ s₃ := by
    refine ⟨s₃.heap, s₃.toks, s₃.gens, by rw [← hs3, es₂], u12.trans u3, fun e => (by rw [hq] at e; cases e), fun i y e => ?_, fun hb => ?_⟩
    · rw [← hs3]
      show (s₂.gens.push _)[i]? = some y
      rw [hgens, Array.getElem?_push]
      have := (Array.getElem?_eq_some_iff.mp e).1
      rw [if_neg (by omega)]; exact e
    · rw [← hs3]
      show AllBare (s₂.gens.push _)
      rw [hgens]; exact hb.push rfl
  have kk : KK c.q s s₃ := k.trans kk3
  refine wpAny_pyIter_gen hG (hQ s₃ s₂.heap.objs.size kk fun Q' E' hE => ?_)
  have hLlt : env.locals < s₂.heap.objs.size := hns.lt
  have nL : s.heap.get? env.locals = none := by rw [hL]; exact none_down k.up (none_size _)
  have nI : s.heap.get? s₃.heap.objs.size = none := none_down kk.up (none_size _)
  have nw : ∀ b ∈ [env.locals, s₃.heap.objs.size], s.heap.get? b = none := fun b m => by
    rcases List.mem_cons.mp m with rfl | m
    · exact nL
    · rw [List.mem_singleton] at m; subst m; exact nI
  have hgsz : s.gens.size ≤ s₂.gens.size := by
    rw [hgens]
    by_cases hz : s.gens.size = 0
    · omega
    · have h1 := k.gens.2.1 (s.gens.size - 1) (s.gens[s.gens.size - 1]'(by omega)) (Array.getElem?_eq_getElem (by omega))
      have := (Array.getElem?_eq_some_iff.mp h1).1
      omega
  have hl3 : s₃.heap.PlainList l vs := plain_up (u12.trans u3) hl
  have okB : OkB c.Ω [env.locals, s₃.heap.objs.size] s₃.heap := ⟨s.heap, hs.ok, kk.up, nw⟩
  -- what must not change on the way
  let fl := env.locals :: outer.filterMap (·.frame)
  have hbL : base.get? env.locals = none := none_stays hkb nL
  have hfn : ∀ b ∈ fl, base.get? b = none := fun b m => by
    rcases List.mem_cons.mp m with rfl | m
    · exact hbL
    · exact ff_none hFF b m
  have kb : base.StaysIn (TI.gone s₃.heap fl) := fun b o e => (TI.gone_get fun m => by rw [hfn b m] at e; cases e).trans (kk.up b o (hkb b o e))
  have kb3 : (TI.gone s₃.heap fl).StaysIn s₃.heap := fun b o e => (TI.gone_some e).2
  have hFF3 : s₃.heap.FunFrames (TI.gone s₃.heap fl) outer := ff_base (fun b m => TI.gone_none (.tail _ m)) (hFF.of_keeps fun b o e _ => ⟨o, kk.up b o e, rfl⟩)
  have ha : s₂.heap.objs.size ∉ fl := fun m => by
    rcases List.mem_cons.mp m with e | m
    · rw [← e] at hLlt; exact Nat.lt_irrefl _ hLlt
    · obtain ⟨_, o, ho, _⟩ := hFF.mem m
      have := kk.up _ _ ho
      obtain ⟨og, _, _, hog, hgd⟩ := hG
      have na : s.heap.get? s₂.heap.objs.size = none := none_down (k.up.trans u12) (none_size _)
      rw [na] at ho; cases ho
  refine next_raise (g := s₂.gens.size) (n := 0) (gs := .fresh (.func (fnBody gSt) env)) hA.hh (c.Ω.nolim _ okB.ok) (by have := hA.depth; omega) hG hgs (R := rX (TI.gone s₃.heap fl) outer Ls)
    ⟨rfl, gr_first (A := A) (N := 0) (s := s₃.setGen s₂.gens.size .running) L ⟨hA.hh, by have := hA.depth; omega, by have := hA.units; omega⟩ eo hfr hff (hns.keeps u3) hgrp hl3 hv okB kb3 hFF3 (TI.gone_none (.head _)) (fun b m => ?_) (by rw [hsc]; rfl)⟩ fun y s₄ hR => ?_
  · have h1 := hLs b m
    exact ⟨fun z => (by rw [z, nL] at h1; cases h1), isSome_up kk.up (hLs b m)⟩
  · obtain ⟨ee, a0, rfl, hfl, ⟨h', tk, rfl⟩, hsk⟩ := hR
    obtain ⟨oe, hoe, hce⟩ := hfl.there
    have hst : (TI.gone s₃.heap fl).StaysIn h' := hfl.1
    refine ⟨?_, ee, oe, rfl, hoe, hce, hE ee a0 _ (flying_base kb hfl) ?_⟩
    · obtain ⟨og, nm, qn, hog, r⟩ := hG
      exact ⟨og, nm, qn, hst _ _ ((TI.gone_get ha).trans hog), r⟩
    · obtain ⟨h₃, tk₃, gs₃, e3, uu, g3⟩ := id kk
      refine ⟨h', tk, ((s₃.setGen s₂.gens.size .running).setGen s₂.gens.size .finished).gens, ?_, ?_, fun b o e => hst b o (kb b o e), fun b m => (SK.of_eq fun o e => kk.up b o e).trans (hsk b m)⟩
      · rw [e3]; rfl
      · exact gens_moved hq kk.gens hgsz (GenOnlyQ.of ((GenOnly.setGen s₃ s₂.gens.size .running).trans (GenOnly.setGen _ s₂.gens.size .finished)) (setGen_self (gs := .running) (setGen_self hgs)) rfl)
end
end Mine
end
section
open PySem PySem.W PyProof.Rows PySem.Calls PySem.SeqAt PyProof.V
set_option maxRecDepth 100000
namespace Mine
theorem execs_append (env : Env) (a b : List Stmt) : execs (a ++ b) env = (do match ← execs a env with | .next => execs b env | f => pure f) := by
  induction a with
  | nil => rfl
  | cons st r ih =>
    show execs (st :: (r ++ b)) env = _
    rw [execs_cons, execs_cons, LawfulMonad.bind_assoc]
    congr 1
    funext f
    cases f <;> first | exact ih | rfl
theorem wpAny_execs_append {M : Model} {A : Around} {E : Value → Shared → Prop} {s : Shared} {env : Env} {a b : List Stmt} {Q : Flow → Shared → Prop}
    (h : wpAny M A (execs a env) (fun f s' => match f with | .next => wpAny M A (execs b env) Q E s' | f => Q f s') E s) : wpAny M A (execs (a ++ b) env) Q E s := by
  rw [execs_append]
  refine wpAny_bind (wpAny_mono h (fun f s' h' => ?_) fun _ _ x => x)
  cases f <;> first | exact h' | exact wpAny_pure h'
theorem KX.of_kk {q : Bool} {base : Heap} {Ls : List Addr} {s s₁ s' : Shared} (k : KK q s s₁) (x : KX q base Ls s₁ s') : KX q base Ls s s' := by
  obtain ⟨h₁, tk₁, gs₁, rfl, u, g⟩ := k
  obtain ⟨h', tk, gs, rfl, g', st, sk⟩ := x
  exact ⟨h', tk, gs, rfl, g.trans g', st, fun b m => (SK.of_eq fun o e => u b o e).trans (sk b m)⟩
theorem KX.slots {q : Bool} {base : Heap} {Ls : List Addr} {s s' : Shared} {h' : Heap} (x : KX q base Ls s s') (st : base.StaysIn h') (u : s'.heap.UpToSlots h') : KX q base Ls s { s' with heap := h' } := by
  obtain ⟨h₁, tk, gs, rfl, g', _, sk⟩ := x
  exact ⟨h', tk, gs, rfl, g', st, fun b m => (sk b m).trans (.of_slots u)⟩
theorem stays_up {base h h' : Heap} (k : base.StaysIn h) (u : Up h h') : base.StaysIn h' := fun b o e => u b o (k b o e)
-- the frames, one more
theorem ff_more {c : Cx} {σ : Sg} {s : Shared} (h : StW c σ s) (hff : c.env.frame = some c.env.locals) {base : Heap} {outer : List Env} (hkb : base.StaysIn c.b.heap) (hFF : c.b.heap.FunFrames base outer) : s.heap.FunFrames base (c.env :: outer) := by
  obtain ⟨⟨m, hm⟩, hb⟩ := h.loc
  obtain ⟨o, ho, hnf⟩ := ns_plain hm
  exact ⟨by rw [h.eo.kind]; decide, ⟨_, o, hff, none_stays hkb hb, ho, hnf⟩, hFF.of_keeps fun b o e _ => ⟨o, h.kk.up b o e, rfl⟩⟩
open Hd
set_option maxHeartbeats 1000000
theorem pieces_raise {Ω : Wo} (L : Law1 Ω) {d : Nat} {t : List Nat} {ruler : List Int} : ∃ a, Ω.mg (Str.ofString "_law_pieces") = some (.ref a) ∧ (∀ h, Ω.ok h → ∃ o fd, h.get? a = some o ∧ o.data = .func fd) ∧
    ∀ A s O vs, AOk (d + 12 + 1) A → Ω.ok s.heap → (∀ b ∈ O, (s.heap.get? b).isSome = true) → Paired (Rep O s.heap) vs [pL t, .list ((0 :: ruler).map .int)] → ∀ outer base Ls, A.frames = some outer → base.StaysIn s.heap → s.heap.FunFrames base outer → (∀ b ∈ Ls, (s.heap.get? b).isSome = true) →
      codeAny (model Ω.prog Ω.w) A (.call (.ref a) ⟨vs, []⟩) (fun r s' => ∃ e a0, r = .error (.ref e) ∧ Heap.FlyingW base outer e (.type "ValueError") a0 s'.heap ∧ KX false base Ls s s') s := by
  obtain ⟨a, h1, h2, h3⟩ := fn_enter (q := false) (d := d + 12) (Xs := [pL t, .list ((0 :: ruler).map .int)]) (ps := [Str.ofString "text", Str.ofString "ruler"]) (ls := [Str.ofString "pieces", Str.ofString "size"]) (fnrec_of (d := recOf pSt) L (by kernel_rfl)) rfl (fun pm cd doc vs hv => by
    exact ba2 (fun _ _ => rfl) vs hv) (by kernel_rfl) (by decide +kernel)
  refine ⟨a, h1, h2, fun A s O vs hA ok hO hp outer base Ls hfr hkb hFF hLs => ?_⟩
  refine h3 A s O vs hA ok hO hp _ fun env s₁ hff hsc hAd hw kk _ => ?_
  show wpAny _ _ (execs (fnBody pSt) env) _ _ s₁
  have hfr' : (A.deeper env).frames = some (env :: outer) := Around.frames_deeper hfr
  refine wpAny_execs_append (a := [(fnBody pSt).getD 0 (.Pass default)]) (b := (fnBody pSt).drop 1) ?_
  have T : Tr ⟨Ω, false, d + 12, (fnScope pSt).names, [Str.ofString "text", Str.ofString "ruler"] ++ [Str.ofString "pieces", Str.ofString "size"], env, s, O, [], fun _ => True⟩ ⟨[pL t, .list ((0 :: ruler).map .int)] ++ unbs 2, []⟩ [(fnBody pSt).getD 0 (.Pass default)]
      (fun pf σ => pf = .next ∧ ∃ a, σ = ⟨[pL t, .list ((0 :: ruler).map .int), .val (.ref a), .unb], [(a, .lst [])]⟩) := by
    refine tr_own (x := Str.ofString "pieces") (evn_list (ds := []) evl_nil) (fun a => .there (.there .here)) (.inl (by kernel_rfl)) (by rfl) fun a => ?_
    exact tr_nil ⟨rfl, a, rfl⟩
  refine wpAny_mono (T.run (A.deeper env) s₁ hAd hw) (fun f s₂ ⟨pf, σ', hw2, hf, e1, a', e2⟩ => ?_) fun _ _ f => f.elim
  subst e1; subst e2
  cases f <;> first | exact hf.elim | skip
  refine wpAny_execs_cons (wpAny_For ?_)
  have kk2 := hw2.kk
  refine gr_it (c := ⟨Ω, false, d + 12, (fnScope pSt).names, [Str.ofString "text", Str.ofString "ruler"] ++ [Str.ofString "pieces", Str.ofString "size"], env, s, O, [], fun _ => True⟩) (σ := ⟨[pL t, .list ((0 :: ruler).map .int), .val (.ref a'), .unb], [(a', .lst [])]⟩) (d := d) L rfl rfl (ruler := ruler) (ev_var (.there .here)) (by kernel_rfl) hAd hw2.toSt hfr' (base := base) (stays_up hkb kk2.up) (ff_more hw2 hff hkb hFF) (Ls := Ls) (fun b m => isSome_up kk2.up (hLs b m)) fun s₃ it k₃ hraise => ?_
  refine codeAny_forLoop_any (fun _ s => s = s₃) (fun n s₄ e => ?_) 0 rfl
  subst e
  refine hraise _ _ fun e a0 s₅ hfl hx => ?_
  refine wpAny_looks_onW hfr' hff hfl fun h₆ hh hu => ?_
  obtain ⟨f1, f2, f3, oe, ve, T', oT, ts, he, hcl, hd, h1', hr⟩ := id hh
  refine wpAny_bind (wpAny_field he hd h1' ?_)
  rw [if_neg (by simp)]
  rw [hff]
  refine flies_again hh fun h₇ hh7 hu7 => ?_
  refine leaves_held (s := { s₅ with heap := h₇ }) hff hh7 fun h₈ hfl8 hu8 => ?_
  refine ⟨e, a0, rfl, hfl8, ?_⟩
  have x1 := KX.of_kk kk2 hx
  have x2 := x1.slots f1 hu
  have x3 := x2.slots hh7.1 hu7
  exact x3.slots hfl8.1 hu8
end Mine
end
section
open PySem PySem.W PyProof.Rows PySem.Calls PySem.SeqAt PyProof.V
set_option maxRecDepth 100000
namespace Mine
theorem bname_ok {c : Cx} {x : Str} {pos : Pos} {v : Value} (h : BName c x v) (eo : EnvOk c.env c.nm) {A : Around} {s : Shared} (ok : c.Ω.ok s.heap) {Q : Value → Shared → Prop} {E : Value → Shared → Prop} (hQ : Q v s) : wpAny c.M A (eval (.Name x pos) c.env) Q E s :=
  Name_function_global eo.kind (eo.kinds _ _ h.2.2.1 (by decide)) (loadGlobal_builtin (by rw [eo.glob]; exact c.Ω.g _ ok) h.1 (by rw [eo.blt]; exact c.Ω.b _ ok) h.2.1 hQ) h.2.2.2
theorem value_base : isSubtype (.type "ValueError") (.type "BaseException") = pure true := by rw [isSubtype_type]; kernel_rfl
theorem value_value : isSubtype (.type "ValueError") (.type "ValueError") = pure true := by rw [isSubtype_type]; kernel_rfl
theorem value_meta : isSubtype (.type ((Manifest.find? "ValueError").elim "type" fun x => x.metatype)) (.type "tuple") = pure false := by rw [isSubtype_type]; kernel_rfl
open Hd
noncomputable abbrev rSt : Stmt := st1 17
theorem f_refused {Ω : Wo} (L : Law1 Ω) {d : Nat} {t : List Nat} : ∃ a, Ω.mg (Str.ofString "_law_refused") = some (.ref a) ∧ (∀ h, Ω.ok h → ∃ o fd, h.get? a = some o ∧ o.data = .func fd) ∧
    ∀ A s O vs, AOk (d + 13 + 1) A → Ω.ok s.heap → (∀ b ∈ O, (s.heap.get? b).isSome = true) → Paired (Rep O s.heap) vs [pL t] → ∀ outer base Ls, A.frames = some outer → Ω.ok base → base.StaysIn s.heap → s.heap.FunFrames base outer → (∀ b ∈ Ls, (s.heap.get? b).isSome = true) →
      codeAny (model Ω.prog Ω.w) A (.call (.ref a) ⟨vs, []⟩) (fun r s' => r = .ok (.ret (.bool true)) ∧ KX false base Ls s s') s := by
  obtain ⟨a, h1, h2, h3⟩ := fn_enter (q := false) (d := d + 13) (Xs := [pL t]) (ps := [Str.ofString "text"]) (ls := []) (fnrec_of (d := recOf rSt) L (by kernel_rfl)) rfl (fun pm cd doc vs hv => by
    exact ba1 (fun _ => rfl) vs hv) (by kernel_rfl) (by decide +kernel)
  refine ⟨a, h1, h2, fun A s O vs hA ok hO hp outer base Ls hfr okb hkb hFF hLs => ?_⟩
  refine h3 A s O vs hA ok hO hp _ fun env s₁ hff hsc hAd hw kk _ => ?_
  show wpAny _ _ (execs (fnBody rSt) env) _ _ s₁
  have hfr' : (A.deeper env).frames = some (env :: outer) := Around.frames_deeper hfr
  let c : Cx := ⟨Ω, false, d + 13, (fnScope rSt).names, [Str.ofString "text"] ++ [], env, s, O, [], fun _ => True⟩
  refine wpAny_execs_cons (wpAny_Try_except ?_)
  refine wpAny_execs_cons (wpAny_Expr_any ?_ (by unfold interactive; rw [hw.eo.kind]; rfl) (by rfl))
  obtain ⟨fa, g1, g2, g3⟩ := pieces_raise L (d := d) (t := t) (ruler := [3])
  obtain ⟨o, fd, ho, hfd⟩ := g2 _ hw.toSt.ok
  refine wpAny_Call_NameR (Name_function_global hw.eo.kind (hw.eo.kinds _ _ (by kernel_rfl) (by decide)) (loadGlobal_global (by rw [hw.eo.glob]; exact Ω.g _ hw.toSt.ok) g1 ?_) (by decide +kernel))
  refine callWith_function (o := o) (fd := fd) (evalArgs_of (by rfl) (wpAny_mono (EvL.run (c := c) (σ := ⟨[pL t], []⟩) (Xs := [pL t, .list (([0, 3] : List Int).map .int)]) (by exact evl_cons (ev_var .here) (evl_cons (ev_list (ds := ([0, 3] : List Int).map .int) (evl_cons ev_int (evl_cons ev_int evl_nil)) (by decide)) evl_nil)) (A.deeper env) s₁ _ hAd hw.toSt) (fun vs' s₂ ⟨k, r⟩ => ⟨⟨k.up _ _ ho, hfd⟩, ?_⟩) fun _ _ f => f.elim))
  have hw2 := hw.up k
  refine wpAny_call (codeAny_mono (g3 (A.deeper env) s₂ _ vs' hAd hw2.toSt.ok hw2.toSt.live r (env :: outer) base Ls hfr' (stays_up hkb hw2.kk.up) (ff_more hw2 hff hkb hFF) fun b m => isSome_up hw2.kk.up (hLs b m)) fun r s₃ hr => ?_)
  obtain ⟨e, a0, rfl, hfl, hx⟩ := hr
  refine wpAny_looks_onW hfr' hff hfl fun h₄ hh hu => ?_
  refine wpAny_landsW (s := { s₃ with heap := h₄ }) hh fun h₅ hfl5 hu5 => ?_
  have ok5 : Ω.ok h₅ := Ω.keeps _ _ okb hfl5.1
  refine wpAny_handleBy_builtin (X := "ValueError") (T := "ValueError") (b := true) value_base value_meta value_value (bname_ok (c := c) (bn L b_value) hw.eo (s := { s₃ with heap := h₅ }) ok5 ⟨rfl, hfl5.there, ?_⟩)
  rw [if_pos rfl]
  refine wpAny_setFlight_noneW (s := { s₃ with heap := h₅ }) hfl5.1 hfl5.2.2.1 hfl5.2.2.2.at fun h₆ k1 k2 k3 k4 => ?_
  refine wpAny_execs_cons (wpAny_Return_some (wpAny_pure ?_ : wpAny c.M _ (pure (Value.bool true)) _ _ _))
  refine ⟨rfl, ?_⟩
  exact (((KX.of_kk hw2.kk hx).slots hh.1 hu).slots hfl5.1 hu5).slots k1 fun b o e hn => ⟨o.slots, k4 b o e hn⟩
end Mine
end
section
open PySem PySem.W PyProof.Rows PySem.Calls PySem.SeqAt
set_option maxRecDepth 100000
namespace Mine
-- an expression whose value is known by its token too
structure EvT (c : Cx) (σ : Sg) (n : Nat) (e : Expr) (Φ : Shared → Value → Shared → Prop) : Prop where
  run : ∀ A s, AOk c.d A → St c σ s → n ≤ s.toks → wpAny c.M A (eval e c.env) (fun v s' => KK c.q s s' ∧ Φ s v s') (fun _ _ => False) s
-- an elder text
noncomputable def OldS (l : List Nat) : Shared → Value → Shared → Prop := fun _ v s' => ∃ t, v = .str (mk l) t ∧ 1 ≤ t ∧ t < s'.toks
-- a fresh text
noncomputable def NewS (l : List Nat) : Shared → Value → Shared → Prop := fun s v _ => ∃ t, v = .str (mk l) t ∧ s.toks ≤ t
structure TrP (c : Cx) (σ : Sg) (n : Nat) (ss : List Stmt) (Φ : Flow → Shared → Prop) : Prop where
  run : ∀ A s, AOk c.d A → StW c σ s → n ≤ s.toks → wpAny c.M A (execs ss c.env) Φ (fun _ _ => False) s
noncomputable def ThenP (c : Cx) (n : Nat) (rest : List Stmt) (Φ : Flow → Shared → Prop) : Flow → Shared → Prop := fun f s => match f with
  | .next => ∃ σ', StW c σ' s ∧ TrP c σ' n rest Φ
  | f => Φ f s
section
variable {c : Cx} {σ : Sg} {n : Nat} {Φ : Flow → Shared → Prop} {Q : Post}
theorem trp_nil (h : ∀ s, StW c σ s → n ≤ s.toks → Φ .next s) : TrP c σ n [] Φ := .mk fun A s hA hs hn => wpAny_execs_nil (h s hs hn)
theorem trp_of {ss : List Stmt} (h : Tr c σ ss Q) (k : ∀ f pf σ' s', StW c σ' s' → FRep c.O s'.heap f pf → Q pf σ' → Φ f s') : TrP c σ n ss Φ := .mk fun A s hA hs hn =>
  wpAny_mono (h.run A s hA hs) (fun f s' ⟨pf, σ', hw, hf, q⟩ => k f pf σ' s' hw hf q) fun _ _ f => f
theorem trp_step {st : Stmt} {rest : List Stmt} {R : Sg → Prop} (h : Tr c σ [st] (fun pf σ' => pf = .next ∧ R σ')) (k : ∀ σ', R σ' → TrP c σ' n rest Φ) : TrP c σ n (st :: rest) Φ := .mk fun A s hA hs hn =>
  wpAny_execs_append (a := [st]) (wpAny_with_toks hn (wpAny_mono (h.run A s hA hs) (fun f s' ⟨pf, σ', hw, hf, e, r⟩ hn' => by
    subst e
    cases f <;> first | exact hf.elim | exact (k σ' r).run A s' hA hw hn') fun _ _ f => f.elim))
theorem trp_if {test : Expr} {body orelse rest : List Stmt} {pos : Pos} {b : Bool} (h : EvB c σ test b) (h1 : b = true → TrP c σ n body (ThenP c n rest Φ)) (h2 : b = false → TrP c σ n orelse (ThenP c n rest Φ)) : TrP c σ n (.If test body orelse pos :: rest) Φ := .mk fun A s hA hs hn => by
  have key : ∀ (ss : List Stmt) (s' : Shared), KK c.q s s' → n ≤ s'.toks → TrP c σ n ss (ThenP c n rest Φ) → wpAny c.M A (execs ss c.env) (fun f s'' => n ≤ s''.toks ∧ ThenP c n rest Φ f s'') (fun _ _ => False) s' := fun ss s' k hn' h =>
    wpAny_with_toks hn' (wpAny_mono (h.run A s' hA (hs.up k) hn') (fun f s'' h hn'' => ⟨hn'', h⟩) fun _ _ f => f.elim)
  refine wpAny_execs_cons (wpAny_mono (Q := fun f s'' => n ≤ s''.toks ∧ ThenP c n rest Φ f s'') (E := fun _ _ => False) (wpAny_If (wpAny_with_toks hn (evb_of h hA hs.toSt fun s' k hn' => ?_))) (fun f s' h => ?_) fun _ _ f => f)
  · cases b with
    | true => exact key _ s' k hn' (h1 rfl)
    | false => exact key _ s' k hn' (h2 rfl)
  · obtain ⟨hn', h⟩ := h
    cases f <;> first | exact h | (obtain ⟨σ', hw, ht⟩ := h; exact ht.run A s' hA hw hn')
theorem trp_ret {e : Expr} {Ψ : Shared → Value → Shared → Prop} {pos : Pos} {rest : List Stmt} (h : EvT c σ n e Ψ) (hΦ : ∀ s v s', StW c σ s' → n ≤ s.toks → Ψ s v s' → Φ (.ret v) s') : TrP c σ n (.Return (some e) pos :: rest) Φ := .mk fun A s hA hs hn =>
  wpAny_execs_cons (wpAny_Return_some (wpAny_mono (h.run A s hA hs.toSt hn) (fun v s' ⟨k, p⟩ => hΦ s v s' (hs.up k) hn p) fun _ _ f => f.elim))
theorem trp_assign {x : Str} {e : Expr} {X : PV} {p pos : Pos} {rest : List Stmt} {ρ' : List PV} {Ψ : Shared → Value → Shared → Prop} (h : EvT c σ n e Ψ) (hX : ∀ s v s', StW c σ s' → Ψ s v s' → Rep (σ.all c) s'.heap v X) (hp : Put c.ns σ.ρ x X ρ') (hk : c.nm.lookup x = some .local ∨ c.nm.lookup x = some .cell)
    (hs : swapsWith e (some (.Name x p)) pos.line c.env = pure false) (ht : TrP c ⟨ρ', σ.own⟩ n rest Φ) : TrP c σ n (.Assign [.Name x p] e pos :: rest) Φ := .mk fun A s hA hw hn =>
  wpAny_execs_cons (wpAny_with_toks hn (wpAny_Assign_Name (wpAny_mono (h.run A s hA hw.toSt hn) (fun v s' ⟨k, pp⟩ => stw_store (hw.up k) (hX s v s' (hw.up k) pp) hp hk fun s'' hs'' hn'' => ht.run A s'' hA hs'' hn'') fun _ _ f => f.elim) hs))
theorem evt_of {e : Expr} {X : PV} (h : Ev c σ e X) : EvT c σ n e (fun _ v s' => Rep (σ.all c) s'.heap v X) := .mk fun A s hA hs _ => h.run A s hA hs
-- a written text is elder than what comes
theorem evt_str {x : Str} {l : List Nat} {k : Nat} {pos : Pos} (hx : x = mk l) (hn : 1 ≤ n) : EvT c σ n (.Constant (.str x) k pos) (OldS l) := .mk fun A s hA hs h => Constant_str ⟨KK.tok _ _ _, s.toks, by rw [hx], Nat.le_trans hn h, Nat.lt_succ_self _⟩
theorem evt_var {x : Str} {l : List Nat} {t : Tok} {pos : Pos} (h : At c.ns σ.ρ x (.val (.str (mk l) t))) (h1 : 1 ≤ t) (h2 : t < n) (hd : (x == ("__debug__" : Str)) = false := by decide +kernel) : EvT c σ n (.Name x pos) (OldS l) := .mk fun A s hA hs hn =>
  wpAny_Name (ld_var h (by nofun) hd hs fun v r => by cases r; exact ⟨KK.refl _ _, t, rfl, h1, Nat.lt_of_lt_of_le h2 hn⟩) hd
theorem evt_chr {p pos : Pos} {arg : Expr} {i : Int} (L : Law1 c.Ω) (ha : Ev c σ arg (pI i)) (h0 : 0 ≤ i) (h1 : i ≤ 0x10FFFF) (hx : c.nm.lookup (Str.ofString "chr") = some .globalImplicit := by kernel_rfl) (hst : noStar [arg] = true := by rfl) :
    EvT c σ n (.Call (.Name (Str.ofString "chr") p) [arg] [] pos) (NewS [i.toNat]) := .mk fun A s hA hs hn =>
  wpAny_Call_NameR (bname_at (bn L b_chr hx) hs (callWith_builtin (starEach_plain hst) (evalArgs_of hst (wpAny_with_toks (Nat.le_refl s.toks) (wpAny_mono ((evl_cons ha evl_nil (hn := by cases arg <;> first | rfl | (simp at hst))).run A s pos hA hs) (fun vs s₁ ⟨k, r⟩ ht => by
    cases r with | cons r r' =>
    cases r'; cases r
    exact P.chr_of_int (by simp; omega) ⟨k.trans (KK.tok _ _ _), s₁.toks, rfl, ht⟩) fun _ _ f => f.elim)))))
-- a def that gives a fresh text
noncomputable def FnS (Ω : Wo) (q : Bool) (d : Nat) (f : Str) (Xs : List PV) (l : List Nat) : Prop :=
  ∃ a, Ω.mg f = some (.ref a) ∧ (∀ h, Ω.ok h → ∃ o fd, h.get? a = some o ∧ o.data = .func fd) ∧
    ∀ A s O vs, AOk d A → Ω.ok s.heap → (∀ b ∈ O, (s.heap.get? b).isSome = true) → Paired (Rep O s.heap) vs Xs →
      codeAny (model Ω.prog Ω.w) A (.call (.ref a) ⟨vs, []⟩) (fun r s' => ∃ t, r = .ok (.ret (.str (mk l) t)) ∧ s.toks ≤ t ∧ KK q s s') s
theorem evt_call {f : Str} {p pos : Pos} {args : List Expr} {Xs : List PV} {l : List Nat} (hf : FnS c.Ω c.q c.d f Xs l) (ha : EvL c σ args Xs) (hx : c.nm.lookup f = some .globalImplicit := by kernel_rfl)
    (hst : noStar args = true := by rfl) (hd : (f == ("__debug__" : Str)) = false := by decide +kernel) : EvT c σ n (.Call (.Name f p) args [] pos) (NewS l) := .mk fun A s hA hs hn => by
  obtain ⟨a, h1, h2, h3⟩ := hf
  obtain ⟨o, fd, ho, hfd⟩ := h2 _ hs.ok
  refine wpAny_Call_NameR (Name_function_global hs.eo.kind (hs.eo.kinds _ _ hx (by decide)) (loadGlobal_global (by rw [hs.eo.glob]; exact c.Ω.g _ hs.ok) h1 ?_) hd)
  refine callWith_function (o := o) (fd := fd) (evalArgs_of hst (wpAny_with_toks (Nat.le_refl s.toks) (wpAny_mono (ha.run A s pos hA hs) (fun vs s₁ ⟨k, r⟩ ht => ⟨⟨k.up _ _ ho, hfd⟩, ?_⟩) fun _ _ f => f.elim)))
  exact wpAny_call (codeAny_mono (h3 A s₁ _ vs hA (hs.up k).ok (hs.up k).live r) fun r s₂ ⟨t, e, ht', k'⟩ => by subst e; exact ⟨k.trans k', t, rfl, Nat.le_trans ht ht'⟩)
-- o.replace(a, b)
noncomputable def replF (x y z : List Nat) : List Nat := (Txt.replace (mk x) (mk y) (mk z)).cps.toList
theorem evt_replace (L : Law1 c.Ω) {o a b : Expr} {apos pos : Pos} {x y z : List Nat} {Ψ : Shared → Value → Shared → Prop} (ho : EvT c σ n o Ψ) (hΨ : ∀ s v s', Ψ s v s' → ∃ t, v = .str (mk x) t) (ha : EvT c σ n a (OldS y)) (hb : EvT c σ n b (NewS z)) (hl : x.length + (x.length + 1) * z.length ≤ 16777216)
    {pl : Sem Bool} (he : eval (.Call (.Attribute o (Str.ofString "replace") apos) [a, b] [] pos) c.env = (do
      let ov ← eval o c.env
      standAt apos.atName
      let (f, first) ← holding [ov] (getMethod ov (Str.ofString "replace") pl)
      callWith pos f first (backTo pos (starEach [a, b] c.env)) (backToKw pos (keywordEach [] c.env))) := by rfl) (hst : noStar [a, b] = true := by rfl) :
    EvT c σ n (.Call (.Attribute o (Str.ofString "replace") apos) [a, b] [] pos) (fun _ v s' => Rep (σ.all c) s'.heap v (pL (replF x y z))) := .mk fun A s hA hs hn =>
  methodCall_KW (wpAny_with_toks hn (wpAny_mono (ho.run A s hA hs hn) (fun v s₁ ⟨k₁, r₁⟩ hn1 => by
    obtain ⟨t₁, rfl⟩ := hΨ _ _ _ r₁
    refine mt_replace (c := c) (x := mk x) A s₁ (σ.all c) _ _ _ _ (.str _ _) ?_
    show wpAny c.M A (callWith pos (.builtin "str.replace") [.str (mk x) t₁] (backTo pos (starEach [a, b] c.env)) []) _ _ s₁
    have h1 : notStar a = true := by cases a <;> first | rfl | (simp at hst)
    have h2 : notStar b = true := by cases b <;> first | rfl | (simp at hst)
    refine callWith_builtin (starEach_plain hst) (evalArgs_of hst (spliced_more (wpAny_with_toks hn1 (wpAny_mono (ha.run A s₁ hA (hs.up k₁) hn1) (fun va s₂ ⟨k₂, t₂, e₂, g1, g2⟩ hn2 => ?_) fun _ _ f => f.elim)) (starEach_cons h1)))
    refine spliced_more (wpAny_mono (hb.run A s₂ hA ((hs.up k₁).up k₂) hn2) (fun vb s₃ ⟨k₃, t₃, e₃, g3⟩ => spliced_none ?_) fun _ _ f => f.elim) (starEach_cons h2)
    subst e₂; subst e₃
    exact SC.replaceA (Nat.ne_of_gt g1) (Nat.ne_of_gt (Nat.lt_of_lt_of_le g1 (Nat.le_of_lt (Nat.lt_of_lt_of_le g2 g3)))) (Nat.ne_of_lt (Nat.lt_of_lt_of_le g2 g3)) (by simpa [mk_len] using hl) (fun t' k => ⟨((k₁.trans k₂).trans k₃).trans (KK.tok _ _ _), .str _ _⟩) (L.nb _ (((hs.up k₁).up k₂).up k₃).ok)) fun _ _ f => f.elim)) he
end
end Mine
end
section
open PySem PySem.W PyProof.Rows PySem.Calls PySem.SeqAt
set_option maxRecDepth 100000
namespace Mine
open Hd
theorem f_signS {Ω : Wo} (L : Law1 Ω) {q : Bool} {d : Nat} {octet style : Int} (ho : 65 ≤ octet) (ho' : octet ≤ 90) : FnS Ω q (d + 1) (Str.ofString "_law_sign") [pI octet, pI style] [signN octet style] := by
  obtain ⟨a, h1, h2, h3⟩ := fn_enter (q := q) (d := d) (Xs := [pI octet, pI style]) (ps := [Str.ofString "octet", Str.ofString "style"]) (ls := []) (fnrec_of (d := recOf (st1 15)) L (by kernel_rfl)) rfl (fun pm cd doc vs hv => by
    exact ba2 (fun _ _ => rfl) vs hv) (by kernel_rfl) (by decide +kernel)
  refine ⟨a, h1, h2, fun A s O vs hA ok hO hp => h3 A s O vs hA ok hO hp _ fun env s₁ hff hsc hAd hw kk ht => ?_⟩
  have h0 : 0 ≤ style.fmod 12 := Int.fmod_nonneg_of_pos _ (by decide)
  have h1' : style.fmod 12 < 12 := Int.fmod_lt_of_pos _ (by decide)
  have T : TrP ⟨Ω, q, d, (fnScope (st1 15)).names, [Str.ofString "octet", Str.ofString "style"] ++ [], env, s, O, [], fun _ => True⟩ ⟨[pI octet, pI style] ++ unbs 0, []⟩ s.toks (fnBody (st1 15)) (fun f s' => ∃ t : Tok, f = .ret (.str (mk [signN octet style]) t) ∧ s.toks ≤ t ∧ KK q s s') := by
    refine trp_step (R := fun σ => σ = ⟨[pI octet, pI (style.fmod 12)], []⟩) (tr_set (ev_binop (ev_var (.there .here)) ev_int (pr_mod (by decide))) (.there .here) (tr_nil ⟨rfl, rfl⟩)) fun σ' e => ?_
    subst e
    refine trp_if (evb_compare (ev_var (.there .here)) ev_int pr_lt) (fun hb => ?_) (fun hb => ?_)
    · have hb : style.fmod 12 < 2 := by simpa using hb
      refine trp_ret (evt_chr (i := octet + 32 * style.fmod 12) L (ev_binop (ev_var .here) (ev_binop ev_int (ev_var (.there .here)) (pr_mul (IntMulOk.of_left (by decide)))) pr_add) (by omega) (by omega)) fun s₂ v s₃ hw2 hn ⟨t, e, ht⟩ => ?_
      subst e
      refine ⟨t, ?_, Nat.le_trans hn ht, hw2.kk⟩
      unfold signN; rw [if_pos hb]
    · have hb : ¬ style.fmod 12 < 2 := by simpa using hb
      refine trp_nil fun s₂ hw2 hn2 => ⟨_, hw2, ?_⟩
      have hk : (style.fmod 12 - 2).toNat < tabS.length := by show _ < 10; omega
      have htab : ∀ k, k < tabS.length → 0 ≤ tabS.getD k 0 ∧ tabS.getD k 0 ≤ 12 := by decide
      have ht := htab _ hk
      have hd : (tabS.map PyData.int)[(style.fmod 12 - 2).toNat]? = some (.int (tabS.getD (style.fmod 12 - 2).toNat 0)) := by
        rw [List.getElem?_map, List.getElem?_eq_getElem hk, List.getD_eq_getElem?_getD, List.getElem?_eq_getElem hk]; rfl
      have e0 : signN octet style = (119808 + 52 * tabS.getD (style.fmod 12 - 2).toNat 0 + octet - 65).toNat := by unfold signN; rw [if_neg hb]
      rw [e0]
      generalize tabS.getD (style.fmod 12 - 2).toNat 0 = tb at *
      have hd' : ([.int 0, .int 1, .int 2, .int 4, .int 7, .int 8, .int 9, .int 10, .int 11, .int 12] : List PyData)[(style.fmod 12 - 2).toNat]? = some (.int tb) := hd
      refine trp_ret (evt_chr (i := 119808 + 52 * tb + octet - 65) L ?_ (by omega) (by omega)) fun s₂ v s₃ hw2 hn ⟨t, e, ht⟩ => by subst e; exact ⟨t, rfl, Nat.le_trans hn ht, hw2.kk⟩
      refine ev_binop (ev_binop (ev_binop ev_int (ev_binop ev_int (X := pI 52) (Y := pI tb) ?_ (pr_mul (IntMulOk.of_left (by decide)))) pr_add) (ev_var .here) pr_add) ev_int pr_sub
      refine ev_item (X := .tup [.int 0, .int 1, .int 2, .int 4, .int 7, .int 8, .int 9, .int 10, .int 11, .int 12]) ?_ (ev_binop (ev_var (.there .here)) ev_int pr_sub) (gi_tup hd' (by omega) (by omega))
      exact ev_tuple (evl_cons ev_int (evl_cons ev_int (evl_cons ev_int (evl_cons ev_int (evl_cons ev_int (evl_cons ev_int (evl_cons ev_int (evl_cons ev_int (evl_cons ev_int (evl_cons ev_int evl_nil))))))))))
  exact wpAny_mono (T.run _ s₁ hAd hw ht) (fun f s' ⟨t, e, h, k⟩ => by subst e; exact ⟨t, rfl, h, k⟩) fun _ _ f => f.elim
theorem f_sign {Ω : Wo} (L : Law1 Ω) {q : Bool} {d : Nat} {octet style : Int} (ho : 65 ≤ octet) (ho' : octet ≤ 90) : Fn Ω q (d + 1) (Str.ofString "_law_sign") [pI octet, pI style] (pL [signN octet style]) := by
  obtain ⟨a, h1, h2, h3⟩ := f_signS L (q := q) (d := d) (style := style) ho ho'
  exact ⟨a, h1, h2, fun A s O vs hA ok hO hp => codeAny_mono (h3 A s O vs hA ok hO hp) fun r s' ⟨t, e, _, k⟩ => ⟨_, e, k, .str _ _⟩⟩
end Mine
end
section
open PySem PySem.W PyProof.Rows PySem.Calls PySem.SeqAt
set_option maxRecDepth 100000
namespace Mine
section
variable {c : Cx} {σ : Sg} {s s' : Shared} {Q : Post} {fp wr : List Addr} {Wt : Nat → Heap → Prop}
theorem walk_in2 (h : StW c σ s) (k : KK c.q s s') (hWl : ∀ b ∈ wr, (s'.heap.get? b).isSome = true) (hst : Wt 0 s'.heap) (hfr : ∀ h h', Wt 0 h → (∀ b ∈ fp, ∀ o, h.get? b = some o → h'.get? b = some o) → Wt 0 h')
    (hfp : ∀ b ∈ fp, (s'.heap.get? b).isSome = true ∧ s.heap.get? b = none) (hnew : ∀ b ∈ wr, s.heap.get? b = none) : StW (c.walk (wr ++ c.O) (fp ++ c.fp) (fun s => c.inv s ∧ Wt 0 s.heap)) σ s' := by
  have off : ∀ b, s.heap.get? b = none → b ∉ σ.own.map (·.1) ∧ b ≠ c.env.locals ∧ ∀ x k, c.env.cells.lookup x = some k → b ≠ k := fun b hn => by
    refine ⟨fun e => ?_, fun e => ?_, fun x k e z => ?_⟩
    · obtain ⟨⟨a, v⟩, ma, e⟩ := List.mem_map.mp e
      subst e
      have := (h.own a v ma).1.live
      rw [hn] at this; cases this
    · obtain ⟨m, _, _, _, ho, _⟩ := h.loc.1
      rw [← e, hn] at ho; cases ho
    · obtain ⟨_, _, ho, _⟩ := (h.cel x k e).1
      rw [← z, hn] at ho; cases ho
  refine StW.mk ⟨h.eo, h.kk.trans k, h.wd, fun x X e n => ?_, fun b v m => ?_, h.nodup, fun b m => ?_, ⟨h.hfr _ _ h.hold (fun b _ o e => k.up b o e) k.gens.2.1, hst⟩, fun h₁ h₂ hi hb hg => ⟨h.hfr _ _ hi.1 (fun b m => hb b (List.mem_append_right _ m)) hg, hfr _ _ hi.2 fun b m => hb b (List.mem_append_left _ m)⟩, fun b m => ?_⟩ h.nsn
    ⟨let ⟨m, e⟩ := h.loc.1; ⟨m, e.keeps k.up⟩, h.loc.2⟩ (fun x a e => ⟨let ⟨v, q⟩ := (h.cel x a e).1; ⟨v, q.keeps k.up⟩, (h.cel x a e).2⟩) h.apart
  · obtain ⟨u, p, r⟩ := h.vars x X e n
    exact ⟨u, p.up k.up, ((r.mores wr hnew).sub fun b m => mem_all_walk m).up k.up⟩
  · obtain ⟨p, q⟩ := h.own b v m
    exact ⟨((p.mores wr hnew).sub fun b m => mem_all_walk m).up k.up, q⟩
  · rcases List.mem_append.mp m with m | m
    · exact ⟨hWl b m, off b (hnew b m)⟩
    · exact ⟨isSome_up k.up (h.old b m).1, (h.old b m).2⟩
  · rcases List.mem_append.mp m with m | m
    · exact ⟨(hfp b m).1, off b (hfp b m).2⟩
    · exact ⟨isSome_up k.up (h.fpl b m).1, (h.fpl b m).2⟩
-- a pair of a text and an int, written out
theorem pair_tup {x : Str} {i : Int} {k k1 k2 : Nat} {pos p1 p2 : Pos} {env : Env} {M : Model} {A : Around} {E : Value → Shared → Prop} {q : Bool} {s : Shared} {Q : Value → Shared → Prop}
    (h : ∀ s' a u, KK q s s' → s.heap.get? a = none → IsTup s'.heap a #[.str x s.toks, .int i u] → s.toks + 2 ≤ s'.toks → Q (.ref a) s') :
    wpAny M A (eval (.Tuple [.Constant (.str x) k1 p1, .Constant (.int i) k2 p2] k pos) env) Q E s :=
  wpAny_Tuple (spliced_more (Constant_str (spliced_more (wpAny_Constant_int (spliced_none ⟨Nat.le_trans (by decide : 2 ≤ 1000000) (by decide), h _ _ (s.toks + 1) (KK.heap (up_push _) _) (none_size _) ⟨_, Heap.get?_push_size _ rfl, rfl, 0, rfl⟩ (Nat.le_refl _)⟩)) rfl)) rfl)
theorem wpAny_letOwnedTupleGo_tupleiter {prog : Program} {w : World} {A : Around} {E : Value → Shared → Prop} {s : Shared} {elts : List Expr} {x1} {pos : Pos} {I l T : Addr} {i : Nat} {Q : Unit → Shared → Prop} (hit : s.heap.IsTupleIter I l i) (hQ : Q () s) :
    wpAny (model prog w) A (letOwnedTupleGo (.Tuple elts x1 pos) (.ref I) (.ref T)) Q E s := by
  obtain ⟨o, ho, hc, hd⟩ := hit
  unfold letOwnedTupleGo
  refine wpAny_bind (wpAny_load ho ?_)
  rw [hc, hd]
  show wpAny _ A (if (["enumerate", "zip", "dict_itemiterator", "dict_reverseitemiterator", "odict_iterator", "itertools.zip_longest", "itertools.pairwise"].contains "tuple_iterator" &&
      (#[.ref l, .int i 0] : Array Value)[0]? == some (rawInt T)) = true then _ else _) Q E s
  rw [if_neg (by
    intro h
    rw [show (["enumerate", "zip", "dict_itemiterator", "dict_reverseitemiterator", "odict_iterator", "itertools.zip_longest", "itertools.pairwise"].contains "tuple_iterator") = false from by decide, Bool.false_and] at h
    cases h)]
  exact wpAny_pure hQ
noncomputable def at3 {α : Type} (a b c : α) : Nat → α
  | 0 => a
  | 1 => b
  | _ => c
structure Pairs3 (q : Bool) (s s' : Shared) (aT : Addr) (as : Nat → Addr) (ts : Nat → Tok) (us : Nat → Tok) (xs : Nat → Str) (is : Nat → Int) : Prop where
  kk : KK q s s'
  tup : IsTup s'.heap aT #[.ref (as 0), .ref (as 1), .ref (as 2)]
  pair : ∀ i, i < 3 → IsTup s'.heap (as i) #[.str (xs i) (ts i), .int (is i) (us i)]
  newT : s.heap.get? aT = none
  new : ∀ i, i < 3 → s.heap.get? (as i) = none
  tok : ∀ i, i < 3 → s.toks ≤ ts i ∧ ts i < s'.toks
theorem all3 {P : Nat → Prop} (h0 : P 0) (h1 : P 1) (h2 : P 2) : ∀ i, i < 3 → P i
  | 0, _ => h0
  | 1, _ => h1
  | 2, _ => h2
  | n + 3, h => absurd h (by omega)
theorem three_pairs {x0 x1 x2 : Str} {i0 i1 i2 : Int} {p0 p1 p2 q00 q01 q10 q11 q20 q21 ip : Pos} {k1 k2 k3 k4 r00 r01 r10 r11 r20 r21 : Nat} {env : Env} {M : Model} {A : Around} {E : Value → Shared → Prop} {q : Bool} {s : Shared} {Q : Value → Shared → Prop}
    (h : ∀ s' aT as ts us, Pairs3 q s s' aT as ts us (at3 x0 x1 x2) (at3 i0 i1 i2) → Q (.ref aT) s') :
    wpAny M A (eval (.Tuple [.Tuple [.Constant (.str x0) r00 q00, .Constant (.int i0) r01 q01] k1 p0, .Tuple [.Constant (.str x1) r10 q10, .Constant (.int i1) r11 q11] k2 p1, .Tuple [.Constant (.str x2) r20 q20, .Constant (.int i2) r21 q21] k3 p2] k4 ip) env) Q E s := by
  refine wpAny_Tuple (spliced_more (pair_tup (q := q) fun s₁ a0 u0 K0 n0 T0 t0 => spliced_more (pair_tup (q := q) fun s₂ a1 u1 K1 n1 T1 t1 => spliced_more (pair_tup (q := q) fun s₃ a2 u2 K2 n2 T2 t2 => spliced_none ⟨Nat.le_trans (by decide : 3 ≤ 1000000) (by decide), ?_⟩) rfl) rfl) rfl)
  have K3 : KK q s₃ { s₃ with heap := s₃.heap.push { cls := .type "tuple", data := .seq #[.ref a0, .ref a1, .ref a2] } } := KK.heap' (up_push _)
  have u0' := K0.up
  have u1' := K1.up
  have u2' := K2.up
  refine h _ s₃.heap.objs.size (at3 a0 a1 a2) (at3 s.toks s₁.toks s₂.toks) (at3 u0 u1 u2) ⟨((K0.trans K1).trans K2).trans K3, ⟨_, Heap.get?_push_size _ rfl, rfl, 0, rfl⟩, all3 ?_ ?_ ?_, none_down ((u0'.trans u1').trans u2') (none_size _), all3 n0 (none_down u0' n1) (none_down (u0'.trans u1') n2), all3 ⟨Nat.le_refl _, ?_⟩ ⟨?_, ?_⟩ ⟨?_, ?_⟩⟩
  · exact tup_up ((u1'.trans u2').trans K3.up) T0
  · exact tup_up (u2'.trans K3.up) T1
  · exact tup_up K3.up T2
  · show s.toks < s₃.toks; omega
  · show s.toks ≤ s₁.toks; omega
  · show s₁.toks < s₃.toks; omega
  · show s.toks ≤ s₂.toks; omega
  · show s₂.toks < s₃.toks; omega
-- a walk over three pairs
theorem trp_for3 {n : Nat} {Φ : Flow → Shared → Prop} {x y : Str} {px py tp ip p0 p1 p2 q00 q01 q10 q11 q20 q21 pos : Pos} {k0 k1 k2 k3 k4 r00 r01 r10 r11 r20 r21 : Nat} {l0 l1 l2 : List Nat} {x0 x1 x2 : Str} {i0 i1 i2 : Int} {body rest : List Stmt}
    (e0 : x0 = mk l0) (e1 : x1 = mk l1) (e2 : x2 = mk l2) (hn1 : 1 ≤ n) (hkx : c.nm.lookup x = some .local ∨ c.nm.lookup x = some .cell) (hky : c.nm.lookup y = some .local ∨ c.nm.lookup y = some .cell) (J : Nat → Sg → Prop) (h0 : J 0 σ)
    (hbody : ∀ (O : List Addr) (fp : List Addr) (inv : Shared → Prop) n' i σ' t, i < 3 → 1 ≤ t → t < n' → J i σ' → ∃ ρ' ρ'', Put c.ns σ'.ρ x (.val (.str (mk (at3 l0 l1 l2 i)) t)) ρ' ∧ Put c.ns ρ' y (pI (at3 i0 i1 i2 i)) ρ'' ∧ TrP (c.walk O fp inv) ⟨ρ'', σ'.own⟩ n' body (fun f s' => f = .next ∧ ∃ σ'', StW (c.walk O fp inv) σ'' s' ∧ J (i + 1) σ''))
    (hend : ∀ σ', J 3 σ' → TrP c σ' n rest Φ) :
    TrP c σ n (.For (.Tuple [.Name x px, .Name y py] k0 tp) (.Tuple [.Tuple [.Constant (.str x0) r00 q00, .Constant (.int i0) r01 q01] k1 p0, .Tuple [.Constant (.str x1) r10 q10, .Constant (.int i1) r11 q11] k2 p1, .Tuple [.Constant (.str x2) r20 q20, .Constant (.int i2) r21 q21] k3 p2] k4 ip) body [] pos :: rest) Φ := .mk fun A s hA hw hn => by
  subst e0; subst e1; subst e2
  refine wpAny_execs_cons ?_
  refine wpAny_For ?_ ?_
  rotate_left
  · intro v; rfl
  refine three_pairs (q := c.q) fun s₄ aT as ts us P => ?_
  refine wpAny_pyIter_tuple P.tup ?_
  have hI0 : s.heap.get? s₄.heap.objs.size = none := none_down P.kk.up (none_size _)
  have hne : aT ≠ s₄.heap.objs.size := by obtain ⟨o, ho, _⟩ := P.tup; exact Nat.ne_of_lt (Heap.lt_size ho)
  have hasI : ∀ k, k < 3 → as k ≠ s₄.heap.objs.size := fun k hk => by obtain ⟨o, ho, _⟩ := P.pair k hk; exact Nat.ne_of_lt (Heap.lt_size ho)
  have hmk : ∀ k, k < 3 → at3 (mk l0) (mk l1) (mk l2) k = mk (at3 l0 l1 l2 k) := all3 rfl rfl rfl
  have hpair : ∀ k, k < 3 → IsTup s₄.heap (as k) #[.str (mk (at3 l0 l1 l2 k)) (ts k), .int (at3 i0 i1 i2 k) (us k)] := fun k hk => by rw [← hmk k hk]; exact P.pair k hk
  have htok := P.tok
  have hn4 : n ≤ s₄.toks := by have := htok 0 (by decide); exact Nat.le_trans hn (Nat.le_trans this.1 (Nat.le_of_lt this.2))
  have h1t : ∀ k, k < 3 → 1 ≤ ts k := fun k hk => Nat.le_trans hn1 (Nat.le_trans hn (htok k hk).1)
  have hup : Up s₄.heap (s₄.heap.push { cls := .type "tuple_iterator", data := .fields #[.ref aT, .int 0 0] }) := up_push _
  have hit : (s₄.heap.push { cls := .type "tuple_iterator", data := .fields #[.ref aT, .int 0 0] }).IsTupleIter s₄.heap.objs.size aT 0 := ⟨_, Heap.get?_push_size _ rfl, rfl, rfl⟩
  have kk5 : KK c.q s { s₄ with heap := s₄.heap.push { cls := .type "tuple_iterator", data := .fields #[.ref aT, .int 0 0] } } := P.kk.trans (KK.heap' hup)
  have newT := P.newT
  have newA := P.new
  have tupT := P.tup
  generalize hIe : s₄.heap.objs.size = I at *
  generalize (s₄.heap.push { cls := .type "tuple_iterator", data := .fields #[.ref aT, .int 0 0] }) = h5 at *
  let Wt : Nat → Heap → Prop := fun i h => (h.IsTupleIter I aT i ∧ h.IsTuple aT #[.ref (as 0), .ref (as 1), .ref (as 2)]) ∧ ∀ k, k < 3 → IsTup h (as k) #[.str (mk (at3 l0 l1 l2 k)) (ts k), .int (at3 i0 i1 i2 k) (us k)]
  let fp : List Addr := [I, aT, as 0, as 1, as 2]
  have hfpm : ∀ k, k < 3 → as k ∈ fp := all3 (by simp [fp]) (by simp [fp]) (by simp [fp])
  have frame : ∀ j h h', Wt j h → (∀ b ∈ fp, ∀ o, h.get? b = some o → h'.get? b = some o) → Wt j h' := fun j h h' ⟨⟨⟨o, e1, r1⟩, ⟨o2, e2, r2⟩⟩, hp⟩ hk =>
    ⟨⟨⟨o, hk _ (by simp [fp]) _ e1, r1⟩, ⟨o2, hk _ (by simp [fp]) _ e2, r2⟩⟩, fun k hk3 => let ⟨o3, e3, r3⟩ := hp k hk3; ⟨o3, hk _ (hfpm k hk3) _ e3, r3⟩⟩
  have W := Walks.tuple (prog := c.Ω.prog) (w := c.Ω.w) (A := A) hA.hh I aT hne #[.ref (as 0), .ref (as 1), .ref (as 2)]
  have w5 : Wt 0 h5 := ⟨⟨hit, tup_up hup tupT⟩, fun k hk => tup_up hup (hpair k hk)⟩
  have live5 : ∀ b ∈ fp, (h5.get? b).isSome = true ∧ s.heap.get? b = none := fun b m => by
    obtain ⟨⟨⟨o, e1, _⟩, ⟨o2, e2, _⟩⟩, hp⟩ := w5
    have hp' : ∀ k, k < 3 → (h5.get? (as k)).isSome = true ∧ s.heap.get? (as k) = none := fun k hk => by
      obtain ⟨o3, e3, _⟩ := hp k hk
      exact ⟨by rw [e3]; rfl, newA k hk⟩
    simp only [fp, List.mem_cons, List.not_mem_nil, or_false] at m
    rcases m with rfl | rfl | rfl | rfl | rfl
    · exact ⟨by rw [e1]; rfl, hI0⟩
    · exact ⟨by rw [e2]; rfl, newT⟩
    · exact hp' 0 (by decide)
    · exact hp' 1 (by decide)
    · exact hp' 2 (by decide)
  have hb : ∀ b ∈ [I], c.b.heap.get? b = none := fun b m => by rw [List.mem_singleton] at m; subst m; exact none_down hw.kk.up hI0
  have hf : ∀ b ∈ c.fp, b ∉ [I] := fun b m mw => by
    rw [List.mem_singleton] at mw; subst mw
    have := (hw.fpl b m).1
    rw [hI0] at this; cases this
  have hO : ∀ b ∈ c.O, b ∉ [I] := fun b m mw => by
    rw [List.mem_singleton] at mw; subst mw
    have := (hw.old b m).1
    rw [hI0] at this; cases this
  have hlive : ∀ j h, Wt j h → ∀ b ∈ [I], (h.get? b).isSome = true := fun j h ⟨⟨⟨o, e1, _⟩, _⟩, _⟩ b m => by rw [List.mem_singleton] at m; subst m; rw [e1]; rfl
  have st5 : StW (c.walk ([I] ++ c.O) (fp ++ c.fp) (fun s => c.inv s ∧ Wt 0 s.heap)) σ { s₄ with heap := h5 } := walk_in2 hw kk5 (hlive 0 _ w5) w5 (frame 0) live5 fun b m => by rw [List.mem_singleton] at m; subst m; exact hI0
  refine codeAny_forLoop_any (fun k s' => ∃ i σ', i + k = 3 ∧ s₄.toks ≤ s'.toks ∧ J i σ' ∧ StW (c.walk ([I] ++ c.O) (fp ++ c.fp) (fun s => c.inv s ∧ Wt i s.heap)) σ' s') (fun k s₁ hIn => ?_) 3 ⟨0, σ, rfl, Nat.le_refl _, h0, st5⟩
  obtain ⟨i, σ', hi, htk, hJ, hst⟩ := hIn
  by_cases hlt : i < 3
  · refine wpAny_with_toks htk (W.item i s₁ _ _ hlt hst.hold.2.1 fun v h' tk hP hW hk htk' => ?_)
    have hv : v = .ref (as i) := by
      have h3 : ∀ k, k < 3 → (#[.ref (as 0), .ref (as 1), .ref (as 2)] : Array Value)[k]? = some (.ref (as k)) := all3 rfl rfl rfl
      rw [h3 i hlt] at hP; exact (Option.some.inj hP).symm
    subst hv
    have hW2 : Wt (i + 1) h' := ⟨hW, fun k hk3 => let ⟨o3, e3, r3⟩ := hst.hold.2.2 k hk3; ⟨o3, hk _ _ (fun m => hasI k hk3 (List.mem_singleton.mp m)) e3, r3⟩⟩
    have hst' := walk_step (j := i + 1) (h' := h') (tk := tk) hb hf (hlive _ _ hW2) hW2 hk hst hw.hfr fun h₁ h₂ => frame (i + 1) h₁ h₂
    refine wpAny_letOwnedTupleGo_tupleiter hW.1 ?_
    refine wpAny_with_toks (n := s₄.toks) htk' (wpAny_assign_Tuple hA.hh (hW2.2 i hlt) rfl rfl fun h'' hx => ?_)
    have hst'' := hst'.up (s' := { s₁ with heap := h'', toks := tk }) (KK.heap' fun b o e => hx b o (Nat.ne_of_lt (Heap.lt_size e)) e)
    obtain ⟨ρ', ρ'', p1, p2, hT⟩ := hbody ([I] ++ c.O) (fp ++ c.fp) (fun s => c.inv s ∧ Wt (i + 1) s.heap) s₄.toks i σ' (ts i) hlt (h1t i hlt) (htok i hlt).2 hJ
    refine wpAny_assignInOrder_more (wpAny_assign_Name (stw_store hst'' (X := .val (.str (mk (at3 l0 l1 l2 i)) (ts i))) rfl p1 hkx fun s₃ hs₃ => ?_))
    refine wpAny_assignInOrder_more (wpAny_assign_Name (stw_store (σ := ⟨ρ', σ'.own⟩) hs₃ (X := pI (at3 i0 i1 i2 i)) (.int _ _) p2 hky fun s₆ hs₆ => ?_))
    refine wpAny_pure fun hn6 => ?_
    refine wpAny_with_toks hn6 (wpAny_mono (hT.run A s₆ hA hs₆ hn6) (fun f s₇ ⟨ef, σ'', hw7, hJ7⟩ hn7 => ?_) fun _ _ f => f.elim)
    subst ef
    exact ⟨k - 1, by omega, i + 1, σ'', by omega, hn7, hJ7, hw7⟩
  · have hi' : i = 3 := by omega
    subst hi'
    refine wpAny_with_toks htk (W.done s₁ _ _ hst.hold.2.1 fun h' tk hk htk' => ?_)
    exact wpAny_execs_nil ((hend σ' hJ).run A _ hA (walk_out hb hf hO hk hst hw.hfr) (Nat.le_trans hn4 htk'))
end
end Mine
end
section
open PySem PySem.W PyProof.Rows PySem.Calls PySem.SeqAt
open PySem.Builtin.Str (strSliceIndices occurrences subAt strSub partsBetween lastOccurrence strKind glued)
set_option maxRecDepth 100000
namespace Mine
open Hd
theorem glued_glue (g : List Nat) (P : List Str) : (glued (mk g) P).cps.toList = glue g (P.map fun x => x.cps.toList) := by
  have h := join_glue g (P.map fun x => x.cps.toList)
  have e : (P.map fun x => x.cps.toList).map mk = P := by
    rw [List.map_map]
    have : (mk ∘ fun x : Str => x.cps.toList) = id := by funext x; rfl
    rw [this, List.map_id]
  rw [e] at h
  unfold Txt.join at h
  rw [h]; rfl
theorem repl_parts (x y z : List Nat) : replF x y z = x ∨ ∃ parts, x = glue y parts ∧ replF x y z = glue z parts := by
  unfold replF Txt.replace
  split
  · exact .inl rfl
  · right
    refine ⟨_, ?_, glued_glue z _⟩
    rw [← glued_glue y, StrLaws.glued_between_self]; rfl
theorem glue_map {g : Nat → List Nat} {y z : List Nat} (h : y.flatMap g = z.flatMap g) : ∀ ps, (glue y ps).flatMap g = (glue z ps).flatMap g
  | [] => rfl
  | [x] => rfl
  | x :: x' :: r => by
    show (x ++ y ++ glue y (x' :: r)).flatMap g = (x ++ z ++ glue z (x' :: r)).flatMap g
    rw [List.flatMap_append, List.flatMap_append, List.flatMap_append, List.flatMap_append, h, glue_map h (x' :: r)]
theorem glue_len {y z : List Nat} (h : z.length ≤ y.length) : ∀ ps, (glue z ps).length ≤ (glue y ps).length
  | [] => Nat.le_refl _
  | [x] => Nat.le_refl _
  | x :: x' :: r => by
    show (x ++ z ++ glue z (x' :: r)).length ≤ (x ++ y ++ glue y (x' :: r)).length
    have := glue_len h (x' :: r)
    simp only [List.length_append]
    omega
theorem repl_map {g : Nat → List Nat} {x y z : List Nat} (h : y.flatMap g = z.flatMap g) : (replF x y z).flatMap g = x.flatMap g := by
  rcases repl_parts x y z with e | ⟨ps, e1, e2⟩
  · rw [e]
  · rw [e2]
    conv => rhs; rw [e1]
    exact (glue_map h ps).symm
theorem repl_len {x y z : List Nat} (h : z.length ≤ y.length) : (replF x y z).length ≤ x.length := by
  rcases repl_parts x y z with e | ⟨ps, e1, e2⟩
  · rw [e]; exact Nat.le_refl _
  · rw [e2]
    conv => rhs; rw [e1]
    exact glue_len h ps
noncomputable abbrev tyP : Nat → List Nat := at3 [102, 102, 105] [102, 102] [102, 105]
noncomputable abbrev tyC : Nat → Int := at3 64259 64256 64257
theorem tyC_ok (i : Nat) : 0 ≤ tyC i ∧ tyC i ≤ 0x10FFFF := by
  match i with
  | 0 => decide
  | 1 => decide
  | n + 2 => exact (by decide : (0 : Int) ≤ 64257 ∧ (64257 : Int) ≤ 0x10FFFF)
noncomputable def tyAt (w : List Nat) (sd : Int) : Nat → List Nat × Int
  | 0 => (w, sd)
  | i + 1 => (if (tyAt w sd i).2.fmod 2 = 1 then replF (tyAt w sd i).1 (tyP i) [(tyC i).toNat] else (tyAt w sd i).1, (tyAt w sd i).2.fdiv 2)
noncomputable def typedF (w : List Nat) (sd : Int) : List Nat := replF (replF (tyAt w sd 3).1 [102] [signN 70 (tyAt w sd 3).2]) [105] [signN 73 (tyAt w sd 3).2]
theorem tyP_len (i : Nat) : 1 ≤ (tyP i).length := by
  match i with
  | 0 => decide
  | 1 => decide
  | n + 2 => exact (by decide : 1 ≤ [102, 105].length)
theorem tyAt_len (w : List Nat) (sd : Int) : ∀ i, (tyAt w sd i).1.length ≤ w.length
  | 0 => Nat.le_refl _
  | i + 1 => by
    have ih := tyAt_len w sd i
    unfold tyAt
    dsimp only
    split
    · exact Nat.le_trans (repl_len (tyP_len i)) ih
    · exact ih
theorem typedF_len (w : List Nat) (sd : Int) : (typedF w sd).length ≤ w.length :=
  Nat.le_trans (repl_len (Nat.le_refl 1)) (Nat.le_trans (repl_len (Nat.le_refl 1)) (tyAt_len w sd 3))
-- a def, asked when a token has been given
noncomputable def FnT (Ω : Wo) (q : Bool) (d : Nat) (f : Str) (Xs : List PV) (Y : PV) : Prop :=
  ∃ a, Ω.mg f = some (.ref a) ∧ (∀ h, Ω.ok h → ∃ o fd, h.get? a = some o ∧ o.data = .func fd) ∧
    ∀ A s O vs, AOk d A → Ω.ok s.heap → (∀ b ∈ O, (s.heap.get? b).isSome = true) → Paired (Rep O s.heap) vs Xs → 1 ≤ s.toks →
      codeAny (model Ω.prog Ω.w) A (.call (.ref a) ⟨vs, []⟩) (fun r s' => ∃ v, r = .ok (.ret v) ∧ KK q s s' ∧ Rep O s'.heap v Y) s
-- a def by its body, the tokens counted
theorem fnt_intro {Ω : Wo} {q : Bool} {d : Nat} {f : Str} {params : Arguments} {body : List Stmt} {scope : Scope} {ps ls : List Str} {Xs : List PV} {Y : PV} (F : FnRec Ω f params body scope)
    (hl : ps.length = Xs.length) (hbind : ∀ pm cd doc (vs : List Value), vs.length = ps.length → bindArgs (docDef f params body scope pm cd doc) ⟨vs, []⟩ = pure (ps.zip vs))
    (hps : (ps.all fun x => scope.names.lookup x == some .local || scope.names.lookup x == some .cell) = true)
    (hnd : (ps ++ ls).Nodup)
    (hbody : ∀ env b O n, 1 ≤ n → TrP ⟨Ω, q, d, scope.names, ps ++ ls, env, b, O, [], fun _ => True⟩ ⟨Xs ++ unbs ls.length, []⟩ n body (fun f s' => ∃ v, f = .ret v ∧ KK q b s' ∧ Rep O s'.heap v Y))
    (hco : scope.isCoroutine = false := by rfl) (hgen : scope.isGenerator = false := by rfl) (hk : scope.kind = .function := by rfl) : FnT Ω q (d + 1) f Xs Y := by
  obtain ⟨a, h1, h2, h3⟩ := fn_enter (q := q) (d := d) (Xs := Xs) F hl hbind hps hnd hco hgen hk
  refine ⟨a, h1, h2, fun A s O vs hA ok hO hp h1t => h3 A s O vs hA ok hO hp _ fun env s₁ hff hsc hAd hw kk ht => ?_⟩
  exact wpAny_mono ((hbody env s O s.toks h1t).run (A.deeper env) s₁ hAd hw ht) (fun f s' ⟨v, e, k, r⟩ => by subst e; exact ⟨v, rfl, k, r⟩) fun _ _ f => f.elim
theorem rep_dat {O : List Addr} {h : Heap} {v : Value} {l : List Nat} (r : Rep O h v (pL l)) : ∃ t, v = .str (mk l) t := by cases r; exact ⟨_, rfl⟩
theorem f_typed {Ω : Wo} (L : Law1 Ω) {q : Bool} {d : Nat} {w : List Nat} {sd : Int} (hl : w.length ≤ 1000) : FnT Ω q (d + 2) (Str.ofString "_law_typed") [pL w, pI sd] (pL (typedF w sd)) := by
  refine fnt_intro (d := d + 1) (ps := [Str.ofString "word", Str.ofString "seed"]) (ls := [Str.ofString "part", Str.ofString "code"]) (fnrec_of (d := recOf (st1 20)) L (by kernel_rfl)) rfl (fun pm cd doc vs hv => ?_) (by kernel_rfl) (by decide +kernel) (fun env bs O n h1t => ?_)
  · exact ba2 (fun _ _ => rfl) vs hv
  show TrP _ _ _ (fnBody (st1 20)) _
  refine trp_for3 (l0 := [102, 102, 105]) (l1 := [102, 102]) (l2 := [102, 105]) (by decide +kernel) (by decide +kernel) (by decide +kernel) h1t (.inl (by kernel_rfl)) (.inl (by kernel_rfl)) (fun i σ => ∃ X Y, σ = ⟨[pL (tyAt w sd i).1, pI (tyAt w sd i).2, X, Y], []⟩) ⟨_, _, rfl⟩ (fun O fp inv n' i σ' t hi ht1 ht2 hJ => ?_) fun σ' hJ => ?_
  · obtain ⟨X, Y, rfl⟩ := hJ
    refine ⟨_, _, .there (.there .here), .there (.there (.there .here)), ?_⟩
    have hlen := tyAt_len w sd i
    have e0 : tyAt w sd (i + 1) = (if (tyAt w sd i).2.fmod 2 = 1 then replF (tyAt w sd i).1 (tyP i) [(tyC i).toNat] else (tyAt w sd i).1, (tyAt w sd i).2.fdiv 2) := rfl
    have hC : 0 ≤ tyC i ∧ tyC i ≤ 0x10FFFF := tyC_ok i
    generalize tyAt w sd i = st at *
    have hPv : at3 [102, 102, 105] [102, 102] [102, 105] i = tyP i := rfl
    have hCv : at3 64259 64256 64257 i = tyC i := rfl
    rw [hPv, hCv]
    generalize tyP i = pt at *
    generalize tyC i = cd at *
    refine trp_if (b := st.2.fmod 2 == 1) (evb_compare (ev_binop (ev_var (.there .here)) ev_int (pr_mod (by decide))) ev_int pr_eq) (fun hb => ?_) (fun hb => ?_)
    · have hb : st.2.fmod 2 = 1 := by simpa using hb
      rw [if_pos hb] at e0
      refine trp_assign (X := pL (replF st.1 pt [cd.toNat])) (evt_replace L (evt_of (ev_var .here)) (fun _ _ _ r => rep_dat r) (evt_var (.there (.there .here)) ht1 ht2) (evt_chr L (ev_var (.there (.there (.there .here)))) hC.1 hC.2) (by simp; omega)) (fun _ _ _ _ r => r) .here (.inl (by kernel_rfl)) (by rfl) ?_
      refine trp_nil fun s₂ hw2 hn2 => ⟨_, hw2, ?_⟩
      refine trp_of (tr_set (ev_binop (ev_var (.there .here)) ev_int (pr_div (by decide))) (.there .here) (tr_nil (Q := fun pf σ' => pf = .next ∧ ∃ X Y, σ' = ⟨[pL (tyAt w sd (i + 1)).1, pI (tyAt w sd (i + 1)).2, X, Y], []⟩) ⟨rfl, _, _, by rw [e0]⟩)) fun f pf σ'' s' hw' hf ⟨e, q⟩ => ?_
      subst e
      cases f <;> first | exact hf.elim | exact ⟨rfl, _, hw', q⟩
    · have hb : ¬ st.2.fmod 2 = 1 := by simpa using hb
      rw [if_neg hb] at e0
      refine trp_nil fun s₂ hw2 hn2 => ⟨_, hw2, ?_⟩
      refine trp_of (tr_set (ev_binop (ev_var (.there .here)) ev_int (pr_div (by decide))) (.there .here) (tr_nil (Q := fun pf σ' => pf = .next ∧ ∃ X Y, σ' = ⟨[pL (tyAt w sd (i + 1)).1, pI (tyAt w sd (i + 1)).2, X, Y], []⟩) ⟨rfl, _, _, by rw [e0]⟩)) fun f pf σ'' s' hw' hf ⟨e, q⟩ => ?_
      subst e
      cases f <;> first | exact hf.elim | exact ⟨rfl, _, hw', q⟩
  · obtain ⟨X, Y, rfl⟩ := hJ
    have hlen := tyAt_len w sd 3
    have hlen2 : (replF (tyAt w sd 3).1 [102] [signN 70 (tyAt w sd 3).2]).length ≤ w.length := Nat.le_trans (repl_len (Nat.le_refl 1)) hlen
    refine trp_ret (evt_replace L (x := replF (tyAt w sd 3).1 [102] [signN 70 (tyAt w sd 3).2]) (y := [105]) (z := [signN 73 (tyAt w sd 3).2]) (evt_replace L (x := (tyAt w sd 3).1) (y := [102]) (z := [signN 70 (tyAt w sd 3).2]) (evt_of (ev_var .here)) (fun _ _ _ r => rep_dat r) (evt_str (by decide +kernel) h1t) (evt_call (f_signS L (by decide) (by decide)) (evl_cons ev_int (evl_cons (ev_var (.there .here)) evl_nil))) (by simp; omega)) (fun _ _ _ r => rep_dat r) (evt_str (by decide +kernel) h1t) (evt_call (f_signS L (by decide) (by decide)) (evl_cons ev_int (evl_cons (ev_var (.there .here)) evl_nil))) (by simp; omega)) fun s₂ v s₃ hw3 hn3 r => ⟨v, rfl, hw3.kk, r⟩
end Mine
end
section
open PySem PySem.W PyProof.Rows PySem.Calls PySem.SeqAt
set_option maxRecDepth 100000
namespace Mine
open Hd
theorem ns_slots {h h' : Heap} {a : Addr} {m : Str → Option Value} (k : SK a h h') (hn : h.Ns a m) : h'.Ns a m := by
  obtain ⟨o, es, ep, ho, hd, r⟩ := hn
  obtain ⟨sl, hs⟩ := k o ho fun vs q => by rw [hd] at q; cases q
  exact ⟨_, es, ep, hs, hd, r⟩
-- the frame's own object has had its slots written, nothing else
theorem stw_slots {c : Cx} {σ : Sg} {s s' : Shared} (h : StW c σ s) (x : KX c.q (TI.gone s.heap [c.env.locals]) [c.env.locals] s s') : StW c σ s' := by
  obtain ⟨h', tk, gs, rfl, g, st, sk⟩ := x
  have sk' : SK c.env.locals s.heap h' := sk _ (.head _)
  have keep : Heap.ExtBut c.env.locals s.heap h' := fun b o nb e => st b o ((TI.gone_get fun m => nb (List.mem_singleton.mp m)).trans e)
  obtain ⟨⟨m, hm⟩, hb⟩ := h.loc
  have nl := ns_no_list hm
  have hlive : ∀ b, b ≠ c.env.locals → (s.heap.get? b).isSome = true → (h'.get? b).isSome = true := fun b nb e => by
    obtain ⟨o, e⟩ := Option.isSome_iff_exists.mp e
    rw [keep b o nb e]; rfl
  have kk : KK c.q c.b { s with heap := h', toks := tk, gens := gs } := by
    obtain ⟨h₁, tk₁, gs₁, e₁, u, g₁⟩ := h.kk
    have eg : gs₁ = s.gens := by rw [e₁]
    exact ⟨h', tk, gs, by rw [e₁], fun b o e => keep b o (fun z => by rw [z, hb] at e; cases e) (h.kk.up b o e), (eg ▸ g₁).trans g⟩
  refine StW.mk ⟨h.eo, kk, h.wd, fun y Y e nu => ?_, fun a ds ma => ⟨(h.own a ds ma).1.but keep (.inr nl.1) (h.own a ds ma).2.2.1, (h.own a ds ma).2⟩, h.nodup, fun b mb => ⟨hlive b (h.old b mb).2.2.1 (h.old b mb).1, (h.old b mb).2⟩, h.hfr _ _ h.hold (fun b mb o e => keep b o (h.fpl b mb).2.2.1 e) g.2.1, h.hfr, fun b mb => ⟨hlive b (h.fpl b mb).2.2.1 (h.fpl b mb).1, (h.fpl b mb).2⟩⟩ h.nsn
    ⟨⟨m, ns_slots sk' hm⟩, hb⟩ (fun y k e => ⟨?_, (h.cel y k e).2⟩) h.apart
  · obtain ⟨u, hu, hr⟩ := h.vars y Y e nu
    refine ⟨u, ?_, hr.but keep (.inr nl)⟩
    rcases hu with ⟨q, m', hm', e'⟩ | ⟨q, k, e', o, ho, hd⟩
    · exact .inl ⟨q, m', ns_slots sk' hm', e'⟩
    · exact .inr ⟨q, k, e', o, keep k o (cell_ne_ns ⟨o, ho, hd⟩ hm) ho, hd⟩
  · obtain ⟨u, o, ho, hd⟩ := (h.cel y k e).1
    exact ⟨u, o, keep k o (cell_ne_ns ⟨o, ho, hd⟩ hm) ho, hd⟩
-- statements of a frame that is the only one
structure Tf (c : Cx) (σ : Sg) (ss : List Stmt) (Q : Post) : Prop where
  run : ∀ A s, AOk c.d A → A.frames = some [c.env] → c.env.frame = some c.env.locals → StW c σ s → wpAny c.M A (execs ss c.env) (fun f s' => ∃ pf σ', StW c σ' s' ∧ FRep c.O s'.heap f pf ∧ Q pf σ') (fun _ _ => False) s
section
variable {c : Cx} {σ : Sg} {Q : Post}
theorem tf_of {ss : List Stmt} (h : Tr c σ ss Q) : Tf c σ ss Q := .mk fun A s hA _ _ hs => h.run A s hA hs
theorem tf_append {a b : List Stmt} (h : Tr c σ a (fun pf σ' => pf = .next ∧ Tf c σ' b Q)) : Tf c σ (a ++ b) Q := .mk fun A s hA hf hl hs =>
  wpAny_execs_append (wpAny_mono (h.run A s hA hs) (fun f s' ⟨pf, σ', hw, hr, e, t⟩ => by
    subst e
    cases f <;> first | exact hr.elim | exact t.run A s' hA hf hl hw) fun _ _ f => f.elim)
theorem tf_refused (L : Law1 c.Ω) {d : Nat} (hd : c.d = d + 13 + 1) (hq : c.q = false) {x : Str} {t : List Nat} {cmp : Expr} {p p' pos1 pos2 pos3 pos4 : Pos} {body rest : List Stmt} (hc : EvB c σ cmp false) (hx : At c.ns σ.ρ x (pL t)) (hxd : (x == ("__debug__" : Str)) = false) (hn : c.nm.lookup (Str.ofString "_law_refused") = some .globalImplicit)
    (h : Tf c σ rest Q) : Tf c σ (.If (.BoolOp .Or [cmp, .UnaryOp .Not (.Call (.Name (Str.ofString "_law_refused") p) [.Name x p'] [] pos1) pos2] pos3) body [] pos4 :: rest) Q := .mk fun A s hA hf hl hs => by
  refine wpAny_execs_cons (wpAny_If (isTrue_or (evb_of hc hA hs.toSt fun s₁ k₁ => ?_)))
  have hs1 := hs.up k₁
  show wpAny c.M A _ _ _ s₁
  refine isTrue_or (isTrue_not (isTrue_plain ?_ (by rfl)))
  obtain ⟨fa, g1, g2, g3⟩ := f_refused L (d := d) (t := t)
  obtain ⟨o, fd, ho, hfd⟩ := g2 _ hs1.toSt.ok
  refine wpAny_Call_NameR (Name_function_global hs1.eo.kind (hs1.eo.kinds _ _ hn (by decide)) (loadGlobal_global (by rw [hs1.eo.glob]; exact c.Ω.g _ hs1.toSt.ok) g1 ?_) (by decide +kernel))
  refine callWith_function (o := o) (fd := fd) (evalArgs_of (by rfl) (wpAny_mono (EvL.run (c := c) (σ := σ) (Xs := [pL t]) (by exact evl_cons (ev_var hx (by nofun) hxd) evl_nil) A s₁ _ hA hs1.toSt) (fun vs' s₂ ⟨k, r⟩ => ⟨⟨k.up _ _ ho, hfd⟩, ?_⟩) fun _ _ f => f.elim))
  have hs2 := hs1.up k
  obtain ⟨⟨m, hm⟩, hb⟩ := hs2.loc
  obtain ⟨oL, hoL, hnf⟩ := ns_plain hm
  have okb : c.Ω.ok (TI.gone s₂.heap [c.env.locals]) := c.Ω.keeps _ _ hs2.wd fun b o e => (TI.gone_get fun mm => by rw [List.mem_singleton.mp mm, hb] at e; cases e).trans (hs2.kk.up b o e)
  refine wpAny_call (codeAny_mono (g3 A s₂ (σ.all c) vs' (by rw [← hd]; exact hA) hs2.toSt.ok hs2.toSt.live r [c.env] (TI.gone s₂.heap [c.env.locals]) [c.env.locals] hf okb (fun b o e => (TI.gone_some e).2)
    ⟨by rw [hs2.eo.kind]; decide, ⟨_, oL, hl, TI.gone_none (.head _), hoL, hnf⟩, trivial⟩ fun b mb => by rw [List.mem_singleton.mp mb, hoL]; rfl) fun r s₃ hr => ?_)
  obtain ⟨rfl, hx⟩ := hr
  have hs3 : StW c σ s₃ := stw_slots hs2 (by rw [hq]; exact hx)
  show wpAny c.M A (truthy (.bool true)) _ _ s₃
  refine wpAny_truthy_bool ?_
  show wpAny c.M A _ _ _ s₃
  refine isTrue_or_nil ?_
  refine wpAny_execs_nil ?_
  exact h.run A s₃ hA hf hl hs3
end
end Mine
end
section
open PySem PySem.W PyProof.Rows PySem.Calls PySem.SeqAt
set_option maxRecDepth 100000
namespace Mine
open Hd
section
variable {c : Cx} {σ : Sg} {O : List Addr}
theorem ev_bname {x : Str} {pos : Pos} {v : Value} (h : BName c x v) : Ev c σ (.Name x pos) (.val v) := .mk fun A s hA hs => bname_at h hs ⟨KK.refl _ _, rfl⟩
theorem pr_isbytes {b : Array UInt8} : Pr c O (bcall "isinstance") [.bytes b, .val (.type "bytes")] (pB true) := pr2 fun A s v u hA ok r r₂ => by
  obtain ⟨t, rfl⟩ := r
  have e : u = .type "bytes" := r₂
  subst e
  exact PySem.call_isinstance (isinstance_true (Tx := "bytes") F.isi_meta_bytes F.sub_bytes_bytes) ⟨rfl, KK.refl _ _, .bool _⟩
theorem pr_intbool {i : Int} : Pr c O (bcall "isinstance") [pI i, .val (.type "bool")] (pB false) := pr2 fun A s v u hA ok r r₂ => by
  cases r
  have e : u = .type "bool" := r₂
  subst e
  exact IsiPair.int_bool ⟨kk_tok _, .bool _⟩
-- _law_typed of a word and a quotient
theorem ev_typed (L : Law1 c.Ω) {d : Nat} (hd : c.d = d + 2) {w : List Nat} {a : Int} {e1 e2 : Expr} {p p2 pb pos : Pos} {k : Nat} (hw : w.length ≤ 1000) (h1 : Ev c σ e1 (pL w)) (h2 : Ev c σ e2 (pI a)) (ha : a.natAbs < 2 ^ 32) (hx : c.nm.lookup (Str.ofString "_law_typed") = some .globalImplicit) (hs1 : notStar e1 = true := by rfl) :
    Ev c σ (.Call (.Name (Str.ofString "_law_typed") p) [e1, .BinOp e2 .FloorDiv (.Constant (.int 2) k p2) pb] [] pos) (pL (typedF w (a.fdiv 2))) := .mk fun A s hA hs => by
  obtain ⟨fa, g1, g2, g3⟩ := f_typed L (q := c.q) (d := d) (w := w) (sd := a.fdiv 2) hw
  obtain ⟨o, fd, ho, hfd⟩ := g2 _ hs.ok
  refine wpAny_Call_NameR (Name_function_global hs.eo.kind (hs.eo.kinds _ _ hx (by decide)) (loadGlobal_global (by rw [hs.eo.glob]; exact c.Ω.g _ hs.ok) g1 ?_) (by decide +kernel))
  have hst : noStar [e1, .BinOp e2 .FloorDiv (.Constant (.int 2) k p2) pb] = true := by
    cases e1 <;> first | rfl | (cases hs1)
  refine callWith_function (o := o) (fd := fd) (evalArgs_of hst (spliced_more (ev_of h1 hA hs fun v s₁ k₁ r₁ => ?_) (starEach_cons hs1)))
  refine spliced_more (wpAny_BinOp (ev_of h2 hA (hs.up k₁) fun b s₂ k₂ r₂ => ?_)) rfl
  refine wpAny_Constant_int ?_
  have kc : KK c.q s₂ { s₂ with toks := s₂.toks + 1 } := KK.tok _ _ _
  have hs3 := ((hs.up k₁).up k₂).up kc
  refine wpAny_with_toks (n := 1) (Nat.le_add_left 1 _) (wpAny_mono ((pr_div (c := c) (O := σ.all c) (a := a) (b := 2) (by decide) (PyProof.noPylong_small (by decide))).run A { s₂ with toks := s₂.toks + 1 } [b, _] hA hs3.rdy (.cons (r₂.up kc.up) (.cons (.int 2 s₂.toks) .nil))) (fun u s₄ h ht => ?_) fun _ _ f => f.elim)
  obtain ⟨k₄, r₄⟩ := h
  have kk := ((k₁.trans k₂).trans kc).trans k₄
  refine spliced_none ⟨⟨kk.up _ _ ho, hfd⟩, ?_⟩
  have hs4 := hs.up kk
  refine wpAny_call (codeAny_mono (g3 A s₄ (σ.all c) [v, u] (by rw [← hd]; exact hA) hs4.ok hs4.live (.cons (r₁.up ((k₂.trans kc).trans k₄).up) (.cons r₄ .nil)) ht) fun r s₅ hr => ?_)
  obtain ⟨y, rfl, k₅, r₅⟩ := hr
  exact ⟨kk.trans k₅, r₅⟩
end
end Mine
end
section
namespace Mine
noncomputable def numF (fs : List Nat) : Nat := fs.foldl (fun n f => 16 * n + f) 0
theorem numF_snoc (fs : List Nat) (x : Nat) : numF (fs ++ [x]) = 16 * numF fs + x := by unfold numF; rw [List.foldl_append]; rfl
theorem snoc_ind {α : Type} {P : List α → Prop} (h0 : P []) (h1 : ∀ l x, P l → P (l ++ [x])) : ∀ l, P l := fun l => by
  have : ∀ r : List α, P r.reverse := fun r => by
    induction r with
    | nil => exact h0
    | cons x r ih => rw [List.reverse_cons]; exact h1 _ _ ih
  rw [← List.reverse_reverse l]; exact this _
theorem numF_lt : ∀ fs : List Nat, (∀ f ∈ fs, f < 16) → numF fs < 16 ^ fs.length := by
  refine snoc_ind (fun _ => by decide) fun l x ih h => ?_
  have h1 := ih fun f m => h f (List.mem_append_left _ m)
  have h2 := h x (by simp)
  rw [numF_snoc, List.length_append, List.length_singleton, Nat.pow_succ]
  omega
theorem dg_pos {n : Nat} (h : n ≠ 0) : dg n = dg (n / 16) ++ [n % 16] := by rw [dg, dif_neg h]
theorem dg_zero : dg 0 = [] := by rw [dg, dif_pos rfl]
theorem dropWhile_snoc (l : List Nat) (x : Nat) : (l ++ [x]).dropWhile (· == 0) = if l.dropWhile (· == 0) = [] then [x].dropWhile (· == 0) else l.dropWhile (· == 0) ++ [x] := by
  induction l with
  | nil => rfl
  | cons a r ih =>
    rw [List.cons_append, List.dropWhile_cons, List.dropWhile_cons]
    split
    · exact ih
    · rw [if_neg (by simp)]; rfl
theorem dg_num : ∀ fs : List Nat, (∀ f ∈ fs, f < 16) → dg (numF fs) = fs.dropWhile (· == 0) := by
  refine snoc_ind (fun _ => dg_zero) fun l x ih h => ?_
  have h1 := ih fun f m => h f (List.mem_append_left _ m)
  have h2 := h x (by simp)
  rw [numF_snoc, dropWhile_snoc, ← h1]
  by_cases hz : numF l = 0
  · rw [hz, dg_zero, if_pos rfl]
    by_cases hx : x = 0
    · subst hx; rw [show 16 * 0 + 0 = 0 from rfl, dg_zero]; rfl
    · rw [dg_pos (by omega), show (16 * 0 + x) / 16 = 0 by omega, dg_zero, show (16 * 0 + x) % 16 = x by omega]
      rw [List.dropWhile_cons, if_neg (by simpa using hx)]; rfl
  · rw [dg_pos (by omega), show (16 * numF l + x) / 16 = numF l by omega, show (16 * numF l + x) % 16 = x by omega, if_neg]
    intro e
    rw [dg_pos hz] at e
    simp at e
theorem pow_dg (n : Nat) : ∀ k, 16 ^ k ≤ n ↔ k < (dg n).length := by
  induction n using Nat.strongRecOn with
  | ind n ih =>
    intro k
    by_cases hz : n = 0
    · subst hz
      rw [dg_zero]
      have : 0 < 16 ^ k := Nat.pow_pos (by decide)
      simp
    · rw [dg_pos hz, List.length_append, List.length_singleton]
      cases k with
      | zero => simp; omega
      | succ k =>
        have h := ih (n / 16) (by omega) k
        rw [Nat.le_div_iff_mul_le (by decide), ← Nat.pow_succ] at h
        rw [h, Nat.succ_lt_succ_iff]
noncomputable def bareF (fs : List Nat) : Nat := ((List.range fs.length).filter fun k => decide (16 ^ k ≤ numF fs)).length
theorem filter_lt (m : Nat) : ∀ n, ((List.range n).filter fun k => decide (k < m)).length = min m n
  | 0 => by simp
  | n + 1 => by
    rw [List.range_succ, List.filter_append, List.length_append, filter_lt m n]
    by_cases h : n < m
    · rw [List.filter_cons_of_pos (by simpa using h)]; simp; omega
    · rw [List.filter_cons_of_neg (by simpa using h)]; simp; omega
theorem bareF_eq {fs : List Nat} (h : ∀ f ∈ fs, f < 16) : bareF fs = (dg (numF fs)).length := by
  unfold bareF
  rw [show (fun k => decide (16 ^ k ≤ numF fs)) = fun k => decide (k < (dg (numF fs)).length) from by funext k; rw [decide_eq_decide]; exact pow_dg _ k, filter_lt]
  have := dg_len fs.length (numF fs) (numF_lt fs h)
  omega
theorem bareF_le (fs : List Nat) : bareF fs ≤ fs.length := by
  unfold bareF
  refine Nat.le_trans (List.length_filter_le _ _) ?_
  simp
theorem suffix_drop {l m : List Nat} (h : m <:+ l) : m = l.drop (l.length - m.length) := by
  obtain ⟨t, rfl⟩ := h
  simp
theorem dg_drop {fs : List Nat} (h : ∀ f ∈ fs, f < 16) : dg (numF fs) = fs.drop (fs.length - bareF fs) := by
  rw [bareF_eq h]
  conv => lhs; rw [dg_num fs h]
  rw [dg_num fs h]
  exact suffix_drop (List.dropWhile_suffix _)
theorem takeWhile_zeros (l : List Nat) : l.takeWhile (· == 0) = List.replicate (l.takeWhile (· == 0)).length 0 := by
  induction l with
  | nil => rfl
  | cons a r ih =>
    rw [List.takeWhile_cons]
    split
    · rename_i h
      have : a = 0 := by simpa using h
      subst this
      rw [List.length_cons, List.replicate_succ, ← ih]
    · rfl
theorem zeros_dg {fs : List Nat} (h : ∀ f ∈ fs, f < 16) : List.replicate (fs.length - bareF fs) 0 ++ dg (numF fs) = fs := by
  rw [bareF_eq h, dg_num fs h]
  have e := List.takeWhile_append_dropWhile (p := (· == 0)) (l := fs)
  have hl := congrArg List.length e
  rw [List.length_append] at hl
  rw [show fs.length - (fs.dropWhile (· == 0)).length = (fs.takeWhile (· == 0)).length by omega, ← takeWhile_zeros]
  exact e
end Mine
end
section
open PySem PySem.W PyProof.Rows PySem.Calls PySem.SeqAt
set_option maxRecDepth 100000
namespace Mine
open Hd
section
variable {ns : List Str} {ρ ρ' : List PV} {x y1 y2 y3 y4 y5 y6 y7 y8 : Str} {X Y1 Y2 Y3 Y4 Y5 Y6 Y7 Y8 : PV}
theorem At.t2 (h : At ns ρ x X) : At (y1 :: y2 :: ns) (Y1 :: Y2 :: ρ) x X := .there (.there h)
theorem At.t4 (h : At ns ρ x X) : At (y1 :: y2 :: y3 :: y4 :: ns) (Y1 :: Y2 :: Y3 :: Y4 :: ρ) x X := .there (.there (.there (.there h)))
theorem At.t8 (h : At ns ρ x X) : At (y1 :: y2 :: y3 :: y4 :: y5 :: y6 :: y7 :: y8 :: ns) (Y1 :: Y2 :: Y3 :: Y4 :: Y5 :: Y6 :: Y7 :: Y8 :: ρ) x X := .t4 (.t4 h)
theorem Put.t2 (h : Put ns ρ x X ρ') : Put (y1 :: y2 :: ns) (Y1 :: Y2 :: ρ) x X (Y1 :: Y2 :: ρ') := .there (.there h)
theorem Put.t4 (h : Put ns ρ x X ρ') : Put (y1 :: y2 :: y3 :: y4 :: ns) (Y1 :: Y2 :: Y3 :: Y4 :: ρ) x X (Y1 :: Y2 :: Y3 :: Y4 :: ρ') := .there (.there (.there (.there h)))
theorem Put.t8 (h : Put ns ρ x X ρ') : Put (y1 :: y2 :: y3 :: y4 :: y5 :: y6 :: y7 :: y8 :: ns) (Y1 :: Y2 :: Y3 :: Y4 :: Y5 :: Y6 :: Y7 :: Y8 :: ρ) x X (Y1 :: Y2 :: Y3 :: Y4 :: Y5 :: Y6 :: Y7 :: Y8 :: ρ') := .t4 (.t4 h)
end
noncomputable abbrev lSt : Stmt := st1 21
noncomputable abbrev lPs : List Str := [Str.ofString "script"]
noncomputable abbrev lLs : List Str := [Str.ofString "seeds", Str.ofString "figures", Str.ofString "style", Str.ofString "size", Str.ofString "number", Str.ofString "figure", Str.ofString "told", Str.ofString "octets", Str.ofString "k", Str.ofString "bare", Str.ofString "text", Str.ofString "laps", Str.ofString "step", Str.ofString "quotient", Str.ofString "rest", Str.ofString "pieces", Str.ofString "signs", Str.ofString "word", Str.ofString "again"]
-- the law's frame
noncomputable abbrev lCx (Ω : Wo) (env : Env) (b : Shared) (O : List Addr) : Cx := ⟨Ω, false, 60, (recOf lSt).scope.names, lPs ++ lLs, env, b, O, [], fun _ => True⟩
structure Good (fs : List Nat) : Prop where
  lt : ∀ f ∈ fs, f < 16
  lo : 4 ≤ fs.length
  hi : fs.length ≤ 13
noncomputable abbrev txt (fs : List Nat) : List Nat := fs.map fun f => 97 + f
theorem numF_bound {fs : List Nat} (g : Good fs) : numF fs < 2 ^ 52 := by
  have h1 := numF_lt fs g.lt
  have h2 : 16 ^ fs.length ≤ 16 ^ 13 := Nat.pow_le_pow_right (by decide) g.hi
  have h3 : 16 ^ 13 = 2 ^ 52 := by decide
  omega
theorem dNats_len (l : List Nat) : (dNats l).length = l.length := by simp
theorem dNats_app (a b : List Nat) : dNats a ++ dNats b = dNats (a ++ b) := by simp
theorem datEq_nats (xs ys : List Nat) : datEqs (dNats xs) (dNats ys) = (xs == ys) := by
  have h := datEq_ints (xs.map fun k : Nat => (k : Int)) (ys.map fun k : Nat => (k : Int))
  rw [List.map_map, List.map_map] at h
  refine h.trans ?_
  rw [Bool.eq_iff_iff, beq_iff_eq, beq_iff_eq]
  refine ⟨fun e => ?_, fun e => by rw [e]⟩
  exact List.map_inj_right (fun a b h => Int.ofNat.inj h) |>.mp e
theorem ap_items {l : List Nat} (h : ∀ f ∈ l, f < 16) : ((apB l).toList.map fun x => PyData.int x.toNat) = dNats (l.map fun f => 65 + f) := by
  unfold apB
  rw [List.toList_toArray, List.map_map]
  show _ = List.map _ (List.map _ l)
  rw [List.map_map]
  refine List.map_congr_left fun f hf => ?_
  have := h f hf
  show PyData.int ((UInt8.ofNat (65 + f)).toNat : Int) = PyData.int ((65 + f : Nat) : Int)
  rw [UInt8.toNat_ofNat']
  congr 2
  omega
theorem glue_nil : ∀ l : List (List Nat), glue [] l = l.flatten
  | [] => rfl
  | [x] => by simp [glue]
  | x :: y :: r => by
    show x ++ [] ++ glue [] (y :: r) = _
    rw [glue_nil (y :: r)]; simp
theorem flat_singles (l : List Nat) : (l.map fun x => [x]).flatten = l := by
  induction l with
  | nil => rfl
  | cons a r ih => rw [List.map_cons, List.flatten_cons, ih]; rfl
theorem bare_len (fs : List Nat) : (((nats fs.length).filter fun d => decide ((16 : Int) ^ (datI d).toNat ≤ (numF fs : Int))).map fun d => d).length = bareF fs := by
  rw [List.map_id']
  unfold bareF
  rw [List.filter_map, List.length_map]
  congr 1
  refine List.filter_congr fun k _ => ?_
  show decide ((16 : Int) ^ ((k : Nat) : Int).toNat ≤ (numF fs : Int)) = decide (16 ^ k ≤ numF fs)
  rw [Int.toNat_natCast, decide_eq_decide]
  have : (16 : Int) ^ k = ((16 ^ k : Nat) : Int) := by rw [Int.natCast_pow]; rfl
  rw [this, Int.ofNat_le]
theorem rep_nats (n : Nat) (l : List Nat) : rep (n : Int) (dNats [65]) ++ dNats l = dNats (List.replicate n 65 ++ l) := by
  rw [rep_map, rep_one, dNats_app, Int.toNat_natCast]
theorem octs_eq {fs : List Nat} (h : ∀ f ∈ fs, f < 16) : List.replicate (fs.length - bareF fs) 65 ++ (dg (numF fs)).map (fun f => 65 + f) = fs.map fun f => 65 + f := by
  conv => rhs; rw [← zeros_dg h]
  rw [List.map_append, List.map_replicate]
theorem range_getD (fs : List Nat) : ((List.range fs.length).map fun k => [97 + fs.getD k 0]) = fs.map fun f => [97 + f] := by
  apply List.ext_getElem
  · simp
  · intro i h1 h2
    simp at h1
    simp [List.getD, h1]
theorem text_items (fs : List Nat) : (((nats fs.length).filter fun _ => true).map fun d => PyData.str (mk [97 + fs.getD (datI d).toNat 0])) = txts (fs.map fun f => [97 + f]) := by
  rw [filter_all, ← range_getD, List.map_map]
  show _ = List.map _ (List.map _ _)
  rw [List.map_map]
  rfl
section
variable {Ω : Wo} {env : Env} {b : Shared} {O : List Addr} {Q : Post}
-- from the figures to the text
theorem lawA2 (L : Law1 Ω) {X0 X1 : PV} {ss : List Int} {s3 : Int} {fs : List Nat} {style : Int} (hX1 : X1 = .list (dInts ss)) (hs3 : (dInts ss)[3]? = some (.int s3)) (h3 : 0 ≤ s3 ∧ s3 < 1000000) (hlen : ss.length = 5) (g : Good fs)
    (hQ : ∀ X6 X7 X8 X10, Q .next ⟨[X0, X1, .list (dNats fs), pI style, pI fs.length, pI (numF fs), X6, X7, X8, .unb, X10, pL (txt fs), .unb, .unb, .unb, .unb, .unb, .unb, .unb, .unb], []⟩) :
    Tr (lCx Ω env b O) ⟨[X0, X1, .list (dNats fs), pI style, .unb, .unb, .unb, .unb, .unb, .unb, .unb, .unb, .unb, .unb, .unb, .unb, .unb, .unb, .unb, .unb], []⟩ (((fnBody lSt).drop 4).take 9) Q := by
  subst hX1
  have hlo := g.lo
  have hhi := g.hi
  have hn1 : fs.length ≤ 1000 := Nat.le_trans hhi (by decide)
  have hd1 : (dNats fs).length ≤ 1000000 := by rw [dNats_len]; exact Nat.le_trans hn1 (by decide)
  have hb := numF_bound g
  refine tr_set ((ev_bcall (bn L b_len) (evl_cons (ev_var (.t2 .here)) evl_nil) (pr_llen hd1)).to (by rw [dNats_len])) (.t4 .here) ?_
  refine tr_set ev_int (.t4 (.there .here)) ?_
  refine tr_for (ite_list (ev_var (.t2 .here))) (.inl (by kernel_rfl)) (fun i σ => ∃ X6, σ = ⟨[X0, .list (dInts ss), .list (dNats fs), pI style, pI fs.length, pI (numF (fs.take i)), X6, .unb, .unb, .unb, .unb, .unb, .unb, .unb, .unb, .unb, .unb, .unb, .unb, .unb], []⟩) ⟨_, rfl⟩ (fun O' fp inv i σ' dd hd hJ => ?_) (fun σ' hJ => ?_)
  · obtain ⟨X6, rfl⟩ := hJ
    rw [List.getElem?_map] at hd
    obtain ⟨f, hf, rfl⟩ := Option.map_eq_some_iff.mp hd
    refine ⟨_, .t4 (.t2 .here), ?_⟩
    refine tr_set (X := pI (numF (fs.take (i + 1)))) ((ev_binop (ev_binop ev_int (ev_var (.t4 (.there .here))) (pr_mul (IntMulOk.of_left (by decide)))) (ev_var (.t4 (.t2 .here))) pr_add).to ?_) (.t4 (.there .here)) (tr_nil ⟨_, rfl⟩)
    rw [List.take_add_one, hf]
    show _ = pI (numF (fs.take i ++ [f]))
    rw [numF_snoc]; congr 2
  obtain ⟨X6, rfl⟩ := hJ
  rw [dNats_len, List.take_length]
  -- told
  have e2 : 0 ≤ (s3.fdiv 4).fmod 2 := Int.fmod_nonneg_of_pos _ (by decide)
  have e2' : (s3.fdiv 4).fmod 2 < 2 := Int.fmod_lt_of_pos _ (by decide)
  have habs : ((numF fs : Int) * (1 - 2 * ((s3.fdiv 4).fmod 2))).natAbs = numF fs := by
    generalize (s3.fdiv 4).fmod 2 = e at e2 e2'
    have : e = 0 ∨ e = 1 := by omega
    rcases this with rfl | rfl <;> omega
  refine tr_set (X := .bytes (apB (dg (numF fs)))) (ev_to (by rw [habs]) (ev_callg (f_int2ap L (num := (numF fs : Int) * (1 - 2 * ((s3.fdiv 4).fmod 2))) (by rw [habs]; exact Nat.lt_trans hb (by decide)))
    (evl_cons (ev_binop (ev_var (.t4 (.there .here))) (ev_binop ev_int (ev_binop ev_int (ev_binop (ev_binop (ev_item (ev_var (.there .here)) ev_int (gi_nat (j := 3) hs3 (by rw [dInts_len, hlen]; decide))) ev_int (pr_div (by decide))) ev_int (pr_mod (by decide))) (pr_mul (IntMulOk.of_left (by decide)))) pr_sub) (pr_mul (IntMulOk.of_left (intBits_le_64 (by omega) (by omega))))) evl_nil))) (.t4 (.t2 (.there .here))) ?_
  -- octets
  have hdl : ∀ f ∈ dg (numF fs), f < 16 := dg_lt _
  have hdn : (dg (numF fs)).length ≤ 13 := by have := dg_len fs.length (numF fs) (numF_lt fs g.lt); omega
  refine tr_setc (X := .list (dNats ((dg (numF fs)).map fun f => 65 + f))) (ev_to (by rw [filter_all, List.map_id', ap_items hdl]) (EvN.ev (evn_comp (fv := []) (Xs := []) (fun _ => true) (fun d => d) (ite_bytes (ev_var (.t4 (.t2 (.there .here))))) (by rw [List.length_map]; simp [apB]; omega) rfl (by kernel_rfl) .nil (fun env b O d hd => .nil) (fun env b O d hd _ => ev_var .here)))) (.t8 .here) ?_
  -- bare
  have hbl := bareF_le fs
  refine tr_set (X := pI (bareF fs)) (ev_to (by rw [bare_len]) (ev_bcall (bn L b_len) (evl_cons (EvN.ev (evn_comp (fv := [Str.ofString "number"]) (Xs := [pI (numF fs)]) (fun d => decide ((16 : Int) ^ (datI d).toNat ≤ (numF fs : Int))) (fun d => d) (ite_range L (ev_var (.t4 .here)) (Nat.le_trans hn1 (by decide))) (by rw [nats_len]; exact Nat.le_trans hn1 (by decide)) rfl (by kernel_rfl) (.cons (.t4 (.there .here)) .nil)
    (fun env b O d hd => .one ?_) (fun env b O d hd _ => ev_var .here))) evl_nil) (pr_llen (by rw [bare_len]; omega)))) (.t8 (.t2 .here)) ?_
  · obtain ⟨k, hk, rfl⟩ := List.mem_map.mp hd
    have := List.mem_range.mp hk
    exact evb_compare (ev_binop ev_int (ev_var .here) (pr_pow (by omega) (by omega) (by decide))) (ev_var (.there .here)) pr_le
  -- the digits are the figures
  have hdrop := dg_drop g.lt
  have eSB : ((fs.length : Int) - (bareF fs : Int)) = ((fs.length - bareF fs : Nat) : Int) := by omega
  refine tr_if (b := false) (evb_or (a := false) (b := false) (evb_not (b := true) (evb_plain (ev_bcall (bn L b_isinstance) (evl_cons (ev_var (.t4 (.t2 (.there .here)))) (evl_cons (ev_bname (bn L b_bytes)) evl_nil)) pr_isbytes) tv_bool)) fun _ => evb_or (a := false) (b := false) (evb_compare (ev_var (.t8 .here)) (Y := .list (dNats ((fs.drop (fs.length - bareF fs)).map fun f => 65 + f))) ?_ (pr_lne.to ?_)) fun _ => evb_or_nil) (fun h => by cases h) fun _ => ?_
  · refine ev_to ?_ (EvN.ev (evn_comp (ds := dNats (fs.drop (fs.length - bareF fs))) (fv := []) (Xs := []) (fun _ => true) (fun d => .int (65 + datI d)) (ite_list (ev_to ?_ (ev_from (n := ((fs.length - bareF fs : Nat) : Int)) (ev_var (.t2 .here)) ((ev_binop (ev_var (.t4 .here)) (ev_var (.t8 (.t2 .here))) pr_sub).to (by rw [eSB])) (gs_list hd1)))) (by rw [dNats_len, List.length_drop]; omega) rfl (by kernel_rfl) .nil (fun env b O d hd => .nil) (fun env b O d hd _ => ?_)))
    · rw [filter_all, List.map_map]
      show _ = PV.list (List.map _ (List.map _ _))
      rw [List.map_map]
      congr 1
    · rw [sl_from (by omega), Int.toNat_natCast]
      show PV.list (List.drop _ (List.map _ fs)) = PV.list (List.map _ (List.drop _ fs))
      rw [List.map_drop]
    · obtain ⟨k, hk, rfl⟩ := List.mem_map.mp hd
      exact ev_binop ev_int (ev_var .here) pr_add
  · rw [datEq_nats, ← hdrop]; simp
  refine tr_nil ?_
  show Tr _ ⟨_, []⟩ [_, _] _
  refine tr_set (X := .list (dNats (fs.map fun f => 65 + f))) (ev_to ?_ (ev_binop (ev_binop (ev_list (ds := dNats [65]) (evl_cons ev_int evl_nil) (by decide)) ((ev_binop (ev_var (.t4 .here)) (ev_var (.t8 (.t2 .here))) pr_sub).to (by rw [eSB])) (pr_lmul ?_ (by omega) (by omega))) (ev_var (.t8 .here)) (pr_ladd ?_))) (.t8 .here) ?_
  · rw [rep_nats, octs_eq g.lt]
  · show 1 * _ ≤ _
    rw [Int.toNat_natCast]; omega
  · rw [rep_len]
    simp only [dNats_len, List.length_map, Int.toNat_natCast, List.length_cons, List.length_nil]
    omega
  refine tr_set (X := pL (txt fs)) (ev_to ?_ (ev_mcall (ev_strl (l := []) (by decide +kernel)) mt_join (evl_cons (ev_to ?_ (EvN.ev (evn_comp (ds := nats fs.length) (fv := [Str.ofString "octets", Str.ofString "style"]) (Xs := [.list (dNats (fs.map fun f => 65 + f)), pI style]) (fun _ => true) (fun d => .str (mk [97 + fs.getD (datI d).toNat 0])) (ite_range L (ev_var (.t4 .here)) (Nat.le_trans hn1 (by decide))) (by rw [nats_len]; exact Nat.le_trans hn1 (by decide)) rfl (by kernel_rfl) (.cons (.t8 .here) (.cons (.t2 (.there .here)) .nil)) (fun env b O d hd => .nil) (fun env b O d hd _ => ?_)))) evl_nil) (pr_join (l := fs.map fun f => [97 + f]) ?_))) (.t8 (.t2 (.there .here))) ?_
  · rw [glue_nil, ← flat_singles (txt fs), List.map_map]; rfl
  · rw [text_items]
  · obtain ⟨k, hk, rfl⟩ := List.mem_map.mp hd
    have hk := List.mem_range.mp hk
    have hf : fs[k]? = some fs[k] := List.getElem?_eq_getElem hk
    have hlt := g.lt _ (List.getElem_mem hk)
    have hg : fs.getD k 0 = fs[k] := by simp [List.getD, hk]
    show Ev _ _ _ (.dat (.str (mk [97 + fs.getD ((k : Nat) : Int).toNat 0])))
    rw [Int.toNat_natCast, hg]
    generalize fs[k] = f at *
    refine ev_to (by rw [Int.natCast_add]; exact congrArg _ (prep_letter hlt _)) (ev_callg (f_b3 L (n := signN ((65 + f : Nat) : Int) (style + 5 * (k : Int)))) (evl_cons (ev_callg (f_sign L (octet := ((65 + f : Nat) : Int)) (style := style + 5 * (k : Int)) (by omega) (by omega)) (evl_cons (ev_item (ev_var (.there .here)) (ev_var .here) (gi_nat (d := .int ((65 + f : Nat) : Int)) ?_ ?_)) (evl_cons (ev_binop (ev_var (.t2 .here)) (ev_binop ev_int (ev_var .here) (pr_mul (IntMulOk.of_left (by decide)))) pr_add) evl_nil))) evl_nil))
    · simp [hf]
    · rw [dNats_len, List.length_map]; exact hn1
  · have : (fs.map fun f => [97 + f]).map List.length = fs.map fun _ => 1 := by rw [List.map_map]; rfl
    rw [this, List.map_const', List.sum_replicate_nat]
    simp; omega
  exact tr_nil (hQ _ _ _ _)
end
end Mine
end
section
open PySem PySem.W PyProof.Rows PySem.Calls PySem.SeqAt
set_option maxRecDepth 100000
namespace Mine
open Hd
theorem rep_mem {α : Type} {n : Int} {l : List α} {x : α} (h : x ∈ rep n l) : x ∈ l := by
  unfold rep at h
  obtain ⟨m, h1, h2⟩ := List.mem_flatten.mp h
  rw [(List.mem_replicate.mp h1).2] at h2; exact h2
theorem grPiece_mem {f : List Int} {s x : Int} (h : x ∈ grPiece f s) : 0 ≤ x ∧ x < 16 := by
  have key : ∀ y : Int, 0 ≤ y.fmod 16 ∧ y.fmod 16 < 16 := fun y => ⟨Int.fmod_nonneg_of_pos _ (by decide), Int.fmod_lt_of_pos _ (by decide)⟩
  unfold grPiece at h
  split at h
  · rw [List.mem_singleton] at h; subst h; exact key _
  · have h3 : 0 ≤ s.fmod 3 := Int.fmod_nonneg_of_pos _ (by decide)
    rw [sl_to h3] at h
    have h := List.mem_of_mem_take h
    simp only [List.mem_cons, List.not_mem_nil, or_false] at h
    rcases h with rfl | rfl <;> exact key _
theorem grAt_mem (ss : List Int) : ∀ i, ∀ x ∈ grAt ss i, 0 ≤ x ∧ x < 16
  | 0, x, h => by cases h
  | i + 1, x, h => by
    have ih := grAt_mem ss i
    unfold grAt grStep at h
    rw [sl13] at h
    have h := List.mem_of_mem_take h
    rcases List.mem_append.mp h with h | h
    · rcases List.mem_append.mp (rep_mem h) with h | h
      · exact ih x h
      · exact grPiece_mem h
    · exact ih x h
theorem grStep_len (f : List Int) (s : Int) : min 13 (2 * f.length + (grPiece f s).length) ≤ (grStep f s).length := by
  have h0 : 0 ≤ (s.fdiv 768).fmod 2 := Int.fmod_nonneg_of_pos _ (by decide)
  unfold grStep
  rw [sl13, List.length_take, List.length_append, rep_len, List.length_append]
  have : 1 * (f.length + (grPiece f s).length) ≤ (1 + (s.fdiv 768).fmod 2).toNat * (f.length + (grPiece f s).length) := Nat.mul_le_mul_right _ (by omega)
  omega
theorem grPiece_nil (s : Int) : 1 ≤ (grPiece [] s).length := by
  unfold grPiece
  split
  · simp
  · rename_i h
    have := List.length_pos_iff.mpr (show _ ≠ [] from h)
    exact Nat.succ_le_of_lt (by simpa using this)
theorem grAt_lo (ss : List Int) : 4 ≤ (grAt ss 3).length := by
  have h1 := grStep_len (grAt ss 0) (ss.getD 0 0)
  have h2 := grStep_len (grAt ss 1) (ss.getD 1 0)
  have h3 := grStep_len (grAt ss 2) (ss.getD 2 0)
  have e1 : grAt ss 1 = grStep (grAt ss 0) (ss.getD 0 0) := rfl
  have e2 : grAt ss 2 = grStep (grAt ss 1) (ss.getD 1 0) := rfl
  have e3 : grAt ss 3 = grStep (grAt ss 2) (ss.getD 2 0) := rfl
  have h0 : 1 ≤ (grPiece (grAt ss 0) (ss.getD 0 0)).length := grPiece_nil _
  rw [← e1] at h1
  rw [← e2] at h2
  rw [← e3] at h3
  omega
-- the figures as grown
noncomputable def fs0 (ss : List Int) : List Nat := (grAt (ss.take 3) 3).map Int.toNat
theorem fs0_good (ss : List Int) : Good (fs0 ss) := ⟨fun f hf => by
  obtain ⟨x, hx, rfl⟩ := List.mem_map.mp hf
  have := grAt_mem _ _ x hx
  omega, by unfold fs0; rw [List.length_map]; exact grAt_lo _, by unfold fs0; rw [List.length_map]; exact grAt_len _ _⟩
theorem fs0_eq (ss : List Int) : dInts (grAt (ss.take 3) 3) = dNats (fs0 ss) := by
  unfold fs0
  show List.map _ _ = List.map _ (List.map _ _)
  rw [List.map_map]
  refine List.map_congr_left fun x hx => ?_
  have := grAt_mem _ _ x hx
  show PyData.int x = PyData.int ((x.toNat : Nat) : Int)
  congr 1; omega
-- another last figure
noncomputable def fsL (fs : List Nat) (style : Int) : List Nat := fs.dropLast ++ [(((fs.getLastD 0 : Nat) : Int) + 1 + style.fmod 15).fmod 16 |>.toNat]
theorem fsL_good {fs : List Nat} (g : Good fs) (style : Int) : Good (fsL fs style) := by
  have h1 := g.lo
  have h2 := g.hi
  have key : ∀ y : Int, (y.fmod 16).toNat < 16 := fun y => by
    have := Int.fmod_nonneg_of_pos y (b := 16) (by decide)
    have := Int.fmod_lt_of_pos y (b := 16) (by decide)
    omega
  have hl : (fsL fs style).length = fs.length := by unfold fsL; rw [List.length_append, List.length_dropLast, List.length_singleton]; omega
  refine ⟨fun f hf => ?_, by omega, by omega⟩
  unfold fsL at hf
  rcases List.mem_append.mp hf with h | h
  · exact g.lt f ((List.dropLast_subset _ h))
  · rw [List.mem_singleton] at h; subst h; exact key _
noncomputable def lawFs (ss : List Int) : List Nat := if (ss.getD 3 0).fmod 4 = 0 then fsL (fs0 ss) ((ss.getD 3 0).fdiv 8) else fs0 ss
theorem lawFs_good (ss : List Int) : Good (lawFs ss) := by
  unfold lawFs
  split
  · exact fsL_good (fs0_good ss) _
  · exact fs0_good ss
theorem sl_m1 {α : Type} (l : List α) : sl none (some (-1)) l = l.dropLast := by
  unfold sl
  show (l.drop 0).take (cl l.length (-1) - 0) = _
  rw [List.drop_zero, Nat.sub_zero, List.dropLast_eq_take]
  rw [cl_m1]
section
variable {Ω : Wo} {env : Env} {b : Shared} {O : List Addr} {Q : Post}
theorem lawA1 (L : Law1 Ω) {xs : List Int} (hl : xs.length ≤ 63) (hQ : Q .next ⟨[.list (dInts xs), .list (dInts (seedsF S0 xs)), .list (dNats (lawFs (seedsF S0 xs))), pI (((seedsF S0 xs).getD 3 0).fdiv 8), .unb, .unb, .unb, .unb, .unb, .unb, .unb, .unb, .unb, .unb, .unb, .unb, .unb, .unb, .unb, .unb], []⟩) :
    Tr (lCx Ω env b O) ⟨[.list (dInts xs)] ++ unbs 19, []⟩ ((fnBody lSt).take 4) Q := by
  refine tr_set (ev_callg (f_seeds L hl) (evl_cons (ev_var .here) evl_nil)) (.there .here) ?_
  have hlen : (seedsF S0 xs).length = 5 := seedsF_len _ _
  generalize seedsF S0 xs = ss at *
  have h3l : (ss.take 3).length = 3 := by rw [List.length_take]; omega
  have h3 : ss[3]? = some (ss.getD 3 0) := by rw [List.getElem?_eq_getElem (by omega), List.getD_eq_getElem?_getD, List.getElem?_eq_getElem (by omega)]; rfl
  have hs3 : (dInts ss)[3]? = some (.int (ss.getD 3 0)) := by rw [List.getElem?_map, h3]; rfl
  have hit : ∀ {σ : Sg} {p pos : Pos}, At (lPs ++ lLs) σ.ρ (Str.ofString "seeds") (.list (dInts ss)) → Ev (lCx Ω env b O) σ (.Subscript (.Name (Str.ofString "seeds") p) (.Constant (.int 3) 0 pos) pos) (pI (ss.getD 3 0)) := fun h => ev_item (ev_var h) ev_int (gi_nat (j := 3) hs3 (by rw [dInts_len, hlen]; decide))
  refine tr_set (X := .list (dNats (fs0 ss))) (ev_to ?_ (ev_callg (f_grown L (ss := ss.take 3) (by omega)) (evl_cons (ev_to ?_ (ev_upto (ev_var (.there .here)) ev_int (gs_list (by rw [dInts_len]; omega)))) evl_nil))) (.t2 .here) ?_
  · rw [h3l, fs0_eq]
  · rw [sl_to (by decide)]
    show PV.list (List.take 3 (List.map _ ss)) = PV.list (List.map _ (List.take 3 ss))
    rw [List.map_take]
  refine tr_set (X := pI ((ss.getD 3 0).fdiv 8)) (ev_binop (ev_item (ev_var (.there .here)) ev_int (gi_nat (j := 3) hs3 (by rw [dInts_len, hlen]; decide))) ev_int (pr_div (by decide))) (.t2 (.there .here)) ?_
  have g0 := fs0_good ss
  have g0l := g0.lo
  have g0h := g0.hi
  refine tr_if (b := (ss.getD 3 0).fmod 4 == 0) (evb_compare (ev_binop (ev_item (ev_var (.there .here)) ev_int (gi_nat (j := 3) hs3 (by rw [dInts_len, hlen]; decide))) ev_int (pr_mod (by decide))) ev_int pr_eq) (fun hb => ?_) (fun hb => ?_)
  · have hb : (ss.getD 3 0).fmod 4 = 0 := by simpa using hb
    unfold lawFs at hQ
    rw [if_pos hb] at hQ
    generalize fs0 ss = fs at *
    generalize (ss.getD 3 0).fdiv 8 = style at *
    have hne : fs ≠ [] := fun e => by rw [e] at g0l; simp at g0l
    have hlast : (dNats fs)[(if (-1 : Int) < 0 then (-1 : Int) + ((dNats fs).length : Int) else -1).toNat]? = some (.int ((fs.getLastD 0 : Nat) : Int)) := by
      rw [if_pos (by decide), dNats_len, show ((-1 : Int) + (fs.length : Int)).toNat = fs.length - 1 by omega, List.getElem?_map, ← List.getLast?_eq_getElem?, List.getLast?_eq_some_getLast hne, List.getLastD_eq_getLast?, List.getLast?_eq_some_getLast hne]; rfl
    have hnn : 0 ≤ (((fs.getLastD 0 : Nat) : Int) + 1 + style.fmod 15).fmod 16 := Int.fmod_nonneg_of_pos _ (by decide)
    refine tr_set (X := .list (dNats (fsL fs style))) (ev_to ?_ (ev_binop (ev_upto (n := -1) (ev_var (.t2 .here)) (ev_unary ev_int pr_neg) (gs_list (by rw [dNats_len]; omega))) (ev_list (ds := [.int ((((fs.getLastD 0 : Nat) : Int) + 1 + style.fmod 15).fmod 16)]) (evl_cons (ev_binop (ev_binop (ev_binop (ev_item (ev_var (.t2 .here)) (ev_unary ev_int pr_neg) (gi_list hlast (by rw [dNats_len]; omega) (by decide) (by rw [dNats_len]; omega))) ev_int pr_add) (ev_binop (ev_var (.t2 (.there .here))) ev_int (pr_mod (by decide))) pr_add) ev_int (pr_mod (by decide))) evl_nil) (by simp)) (pr_ladd ?_))) (.t2 .here) (tr_nil (tr_nil hQ))
    · rw [sl_m1]
      unfold fsL
      show PV.list (List.dropLast (List.map _ fs) ++ _) = PV.list (List.map _ (_ ++ [_]))
      rw [List.map_append, List.map_dropLast, List.map_singleton]
      congr 3
      congr 1; omega
    · have := sl_len none (some (-1)) (dNats fs)
      rw [dNats_len] at this
      simp; omega
  · have hb : ¬ (ss.getD 3 0).fmod 4 = 0 := by simpa using hb
    unfold lawFs at hQ
    rw [if_neg hb] at hQ
    exact tr_nil (tr_nil hQ)
end
end Mine
end
section
open PySem PySem.W PyProof.Rows PySem.Calls PySem.SeqAt
set_option maxRecDepth 100000
namespace Mine
open Hd
-- the pieces for k
noncomputable def pk (fs : List Nat) (k : Nat) : List (List Nat) := pcs (gnth none [((fs.length - k : Nat) : Int), 0, 3]) 0 (txt fs) ((txt fs).length + 1)
noncomputable def qk (fs : List Nat) (k : Nat) : Nat := numF fs / 16 ^ (fs.length - k)
noncomputable def rk (fs : List Nat) (k : Nat) : Nat := numF fs % 16 ^ k
noncomputable def sgk (P : List (List Nat)) (j : Nat) : Int := cmp3 (P.getD (j + 1) []) ((P.getD j []).take (P.getD (j + 1) []).length)
noncomputable def sgs (P : List (List Nat)) : List Int := (List.range (P.length - 1)).map (sgk P)
noncomputable def lapsTo (fs : List Nat) (m : Nat) : List Nat := (List.range (m + 1)).filter fun k => decide (1 ≤ k) && (rk fs k == qk fs k)
theorem lapsTo_succ (fs : List Nat) (m : Nat) : lapsTo fs (m + 1) = if rk fs (m + 1) = qk fs (m + 1) then lapsTo fs m ++ [m + 1] else lapsTo fs m := by
  unfold lapsTo
  rw [List.range_succ (n := m + 1), List.filter_append]
  split
  · rename_i h
    rw [List.filter_cons_of_pos (by simp [h])]; rfl
  · rename_i h
    rw [List.filter_cons_of_neg (by simp [h])]; simp
structure LK (fs : List Nat) (k : Nat) : Prop where
  p3 : txts (pk fs k) = (rangeD 0 fs.length ((fs.length - k : Nat) : Int)).map fun d => .str (mk (sl (some (datI d)) (some (datI d + ((fs.length - k : Nat) : Int))) (txt fs)))
  len : 2 ≤ (pk fs k).length ∧ (pk fs k).length ≤ 13
  sum : ((pk fs k).map List.length).sum ≤ 13
  sg : ((sgs (pk fs k)).filter fun x => x != 0).headD 0 = b2i (decide (qk fs k < rk fs k)) - b2i (decide (rk fs k < qk fs k))
  em1 : em (glue dots (pk fs k)) (txt fs) = true
  em2 : em (glue dots (pk fs k ++ (pk fs k).drop ((pk fs k).length - 1))) (txt fs) = false
theorem sl_last {α : Type} (l : List α) : sl (some (-1)) none l = l.drop (l.length - 1) := by
  unfold sl
  show (l.drop (cl l.length (-1))).take (l.length - cl l.length (-1)) = _
  rw [List.take_of_length_le (by rw [List.length_drop]; exact Nat.le_refl _)]
  rw [cl_m1]
theorem glue_len_eq (g : List Nat) : ∀ l : List (List Nat), (glue g l).length ≤ (l.map List.length).sum + l.length * g.length
  | [] => by simp [glue]
  | [x] => by simp [glue]
  | x :: y :: r => by
    have ih := glue_len_eq g (y :: r)
    show (x ++ g ++ glue g (y :: r)).length ≤ _
    rw [List.length_append, List.length_append, List.map_cons, List.sum_cons, List.length_cons, Nat.add_mul]
    omega
theorem milI {m : Nat} (h : m ≤ 1000) : (m : Int) ≤ 1000000 := by omega
theorem mil {m : Nat} (h : m ≤ 1000) : m ≤ 1000000 := Nat.le_trans h (by decide)
theorem mem_sum : ∀ {l : List Nat} {x : Nat}, x ∈ l → x ≤ l.sum
  | a :: r, x, h => by
    rw [List.sum_cons]
    rcases List.mem_cons.mp h with rfl | h
    · omega
    · have := mem_sum h; omega
theorem gk_ok {s : Int} (h1 : 1 ≤ s) (h2 : s < 127) : gok none [s, 0, 3] = true := by
  unfold gok
  rw [if_neg (by omega), if_neg (by omega)]; rfl
theorem gk_at {s : Int} (h1 : 1 ≤ s) (h2 : s < 127) (i : Nat) : gnth none [s, 0, 3] i = some s := by
  unfold gnth
  rw [if_neg (by omega), if_neg (by omega)]
  cases i <;> rfl
section
variable {Ω : Wo} {env : Env} {b : Shared} {O : List Addr} {O' fp : List Addr} {inv : Shared → Prop} {Q : Post}
-- one turn of the law's loop
theorem lawK (L : Law1 Ω) {X0 X1 X6 X7 X8 X10 X13 X14 X15 X16 X17 X18 X19 : PV} {fs laps : List Nat} {style : Int} {k : Nat} (hk1 : 1 ≤ k) (hk : k < fs.length) (g : Good fs) (F : LK fs k) (hlaps : laps.length ≤ 100)
    (hQ : ∀ X13 X14 X15 X16 X17, Q .next ⟨[X0, X1, .list (dNats fs), pI style, pI fs.length, pI (numF fs), X6, X7, X8, pI k, X10, pL (txt fs), .list (dNats (if rk fs k = qk fs k then laps ++ [k] else laps)), X13, X14, X15, X16, X17, X18, X19], []⟩) :
    Tr ((lCx Ω env b O).walk O' fp inv) ⟨[X0, X1, .list (dNats fs), pI style, pI fs.length, pI (numF fs), X6, X7, X8, pI k, X10, pL (txt fs), .list (dNats laps), X13, X14, X15, X16, X17, X18, X19], []⟩ (forBody ((fnBody lSt).getD 17 (.Pass default))) Q := by
  have hlo := g.lo
  have hhi := g.hi
  have htl : (txt fs).length = fs.length := by simp
  have hn1 : fs.length ≤ 1000 := Nat.le_trans hhi (by decide)
  have ht1 : (txt fs).length ≤ 1000 := Nat.le_trans (Nat.le_of_eq htl) hn1
  have hk1' : k ≤ 1000 := Nat.le_trans (Nat.le_of_lt hk) hn1
  have hS1 : fs.length - k ≤ 1000 := Nat.le_trans (Nat.sub_le _ _) hn1
  have eS : ((fs.length : Int) - (k : Int)) = ((fs.length - k : Nat) : Int) := by omega
  refine tr_set (X := pI ((fs.length - k : Nat) : Int)) ((ev_binop (ev_var (.t4 .here)) (ev_var (.t8 (.there .here))) pr_sub).to (by rw [eS])) (.t8 (.t4 (.there .here))) ?_
  have eq1 : (numF fs : Int).fdiv ((16 : Int) ^ (((fs.length - k : Nat) : Int)).toNat) = (qk fs k : Int) := by
    rw [Int.toNat_natCast, show (16 : Int) ^ (fs.length - k) = ((16 ^ (fs.length - k) : Nat) : Int) by rw [Int.natCast_pow]; rfl, Int.fdiv_eq_ediv_of_nonneg _ (Int.natCast_nonneg _)]; rfl
  have eq2 : (numF fs : Int).fmod ((16 : Int) ^ ((k : Int)).toNat) = (rk fs k : Int) := by
    rw [Int.toNat_natCast, show (16 : Int) ^ k = ((16 ^ k : Nat) : Int) by rw [Int.natCast_pow]; rfl, Int.fmod_eq_emod_of_nonneg _ (Int.natCast_nonneg _)]; rfl
  have pos16 : ∀ j : Nat, (16 : Int) ^ j ≠ 0 := fun j => Int.pow_ne_zero (by decide)
  have small : ∀ j : Nat, j ≤ 13 → (16 : Int) ^ j < 2 ^ 60 := fun j hj => by
    have : (16 : Nat) ^ j ≤ 16 ^ 13 := Nat.pow_le_pow_right (by decide) hj
    rw [show (16 : Int) ^ j = ((16 ^ j : Nat) : Int) by rw [Int.natCast_pow]; rfl]
    have h3 : (16 : Nat) ^ 13 < 2 ^ 60 := by decide
    omega
  refine tr_tup_sw (xs := [Str.ofString "quotient", Str.ofString "rest"]) (ds := [.int (qk fs k), .int (rk fs k)]) (ev_tuple (evl_cons (ev_to (by rw [eq1]) (ev_binop (ev_var (.t4 (.there .here))) (ev_binop ev_int (ev_var (.t8 (.t4 (.there .here)))) (pr_pow (Int.natCast_nonneg _) (milI hS1) (by decide))) (pr_div (pos16 _) ?_))) (evl_cons (ev_to (by rw [eq2]) (ev_binop (ev_var (.t4 (.there .here))) (ev_binop ev_int (ev_var (.t8 (.there .here))) (pr_pow (Int.natCast_nonneg _) (milI hk1') (by decide))) (pr_mod (pos16 _)))) evl_nil)) (by simp)) (by kernel_rfl) (.cons (.t8 (.t4 (.t2 (.there .here)))) (.cons (.t8 (.t4 (.t2 .here))) .nil)) rfl (by kernel_rfl) ?_
  · refine PyProof.noPylong_of_log2 ?_
    rw [Int.toNat_natCast]
    have h1 := small (fs.length - k) (by omega)
    have h2 := pos16 (fs.length - k)
    have h3 : 0 ≤ (16 : Int) ^ (fs.length - k) := Int.pow_nonneg (by decide)
    generalize (16 : Int) ^ (fs.length - k) = z at *
    exact Nat.lt_trans ((Nat.log2_lt (by omega)).mpr (show z.natAbs < 2 ^ 60 by omega)) (by decide)
  -- pieces
  have hs1 : 1 ≤ fs.length - k := by omega
  refine tr_set (X := .list (txts (pk fs k))) (ev_callg (f_pieces L (d := 47) (t := txt fs) (ruler := [((fs.length - k : Nat) : Int), 0, 3]) (gk_ok (by omega) (by omega)) (fun i x h => by
      rw [gk_at (by omega) (by omega)] at h
      cases h; omega) (by omega)) (evl_cons (ev_var (.t8 (.t2 (.there .here)))) (evl_cons (ev_list (ds := dInts [((fs.length - k : Nat) : Int), 0, 3]) (evl_cons (ev_var (.t8 (.t4 (.there .here)))) (evl_cons ev_int (evl_cons ev_int evl_nil))) (by simp)) evl_nil))) (.t8 (.t8 .here)) ?_
  obtain ⟨p3, ⟨len2, len13⟩, sum13, sg, em1, em2⟩ := F
  generalize pk fs k = P at *
  generalize hS : fs.length - k = S at *
  refine tr_if (b := false) (evb_compare (Y := .list (txts P)) (ev_var (.t8 (.t8 .here))) (ev_to ?_ (EvN.ev (evn_comp (fv := [Str.ofString "step", Str.ofString "text"]) (Xs := [pI S, pL (txt fs)]) (fun _ => true) (fun d => .str (mk (sl (some (datI d)) (some (datI d + (S : Int))) (txt fs))))
    (ite_rng (ev_tcall (bn L b_range) (evl_cons ev_int (evl_cons (ev_var (.t4 .here)) (evl_cons (ev_var (.t8 (.t4 (.there .here)))) evl_nil))) (pr_range3 (by omega) (by omega))) (small_nat (a := 0) (Nat.zero_le _) hn1 hs1 hS1)) ?_ rfl (by kernel_rfl) (.cons (.t8 (.t4 (.there .here))) (.cons (.t8 (.t2 (.there .here))) .nil)) (fun env b O d hd => .nil) (fun env b O d hd _ => ?_)))) (pr_lne.to ?_)) (fun h => by cases h) fun _ => tr_nil ?_
  · rw [filter_all, p3]
  · have := congrArg List.length p3
    rw [List.length_map, List.length_map] at this
    omega
  · obtain ⟨i, _, rfl⟩ := List.mem_map.mp hd
    exact ev_both (ev_var (.there (.there .here))) (ev_var .here) (ev_binop (ev_var .here) (ev_var (.there .here)) pr_add) (gs_str (mil ht1))
  · rw [datEq_strs]; simp
  -- signs
  have hPat : ∀ j, j < P.length → (txts P)[j]? = some (.str (mk (P.getD j []))) := fun j hj => by
    rw [List.getElem?_map, List.getElem?_eq_getElem hj, List.getD_eq_getElem?_getD, List.getElem?_eq_getElem hj]; rfl
  have hpl : ∀ j, j < P.length → (P.getD j []).length ≤ 13 := fun j hj => by
    rw [List.getD_eq_getElem?_getD, List.getElem?_eq_getElem hj]
    have h1 : P[j].length ∈ P.map List.length := List.mem_map_of_mem (List.getElem_mem hj)
    have := mem_sum h1
    show P[j].length ≤ 13
    omega
  have htx : (txts P).length = P.length := by simp
  have hP1 : (txts P).length ≤ 1000 := Nat.le_trans (Nat.le_of_eq htx) (Nat.le_trans len13 (by decide))
  refine tr_own_comp (y := Str.ofString "signs") (ds := nats (P.length - 1)) (fv := [Str.ofString "pieces"]) (Xs := [.list (txts P)]) (fun _ => true) (fun d => .int (sgk P (datI d).toNat))
    (ite_range L ((ev_binop (ev_bcall (bn L b_len) (evl_cons (ev_var (.t8 (.t8 .here))) evl_nil) (pr_llen (mil hP1))) ev_int pr_sub).to (by rw [htx]; congr 1; omega)) (mil (Nat.le_trans (Nat.sub_le _ _) (Nat.le_trans len13 (by decide))))) (by rw [nats_len]; exact mil (Nat.le_trans (Nat.sub_le _ _) (Nat.le_trans len13 (by decide)))) (by kernel_rfl) (by kernel_rfl) (by kernel_rfl) rfl (by kernel_rfl) (.cons (.t8 (.t8 .here)) .nil) (fun env b O d hd => .nil) (fun env b O d hd _ => ?_) (fun a => .t8 (.t8 (.there .here))) (fun a => ?_)
  · obtain ⟨j, hj, rfl⟩ := List.mem_map.mp hd
    have hj := List.mem_range.mp hj
    have j1 : j + 1 < P.length := by omega
    have j0 : j < P.length := Nat.lt_of_succ_lt j1
    have i1 := hPat _ j1
    have i0 := hPat _ j0
    have l1 : (P.getD (j + 1) []).length ≤ 1000 := Nat.le_trans (hpl (j + 1) j1) (by decide)
    have l0 : (P.getD j []).length ≤ 1000 := Nat.le_trans (hpl j j0) (by decide)
    show Ev _ _ _ (pI (sgk P ((j : Nat) : Int).toNat))
    rw [Int.toNat_natCast]
    unfold sgk
    generalize P.getD (j + 1) [] = p1 at *
    generalize P.getD j [] = p0 at *
    refine ev_callg (f_strcoll L) (evl_cons (ev_item (ev_var (.there .here)) (ev_binop (ev_var .here) ev_int pr_add) (gi_nat1 i1 hP1)) (evl_cons (ev_to ?_ (ev_upto (n := (p1.length : Int)) (ev_item (ev_var (.there .here)) (ev_var .here) (gi_nat i0 hP1)) (ev_bcall (bn L b_len) (evl_cons (ev_item (ev_var (.there .here)) (ev_binop (ev_var .here) ev_int pr_add) (gi_nat1 i1 hP1)) evl_nil) (pr_slen (mil l1))) (gs_str (mil l0)))) evl_nil))
    rw [sl_to (Int.natCast_nonneg _), Int.toNat_natCast]
  refine tr_freeze (x := Str.ofString "signs") rfl (.t8 (.t8 (.there .here))) (.t8 (.t8 (.there .here))) ?_
  have eS2 : (((nats (P.length - 1)).filter fun _ => true).map fun d => PyData.int (sgk P (datI d).toNat)) = dInts (sgs P) := by
    rw [filter_all, List.map_map]
    unfold sgs
    show _ = List.map _ (List.map _ _)
    rw [List.map_map]; rfl
  rw [eS2]
  have hsl : (sgs P).length ≤ 13 := by unfold sgs; simp; omega
  have hT1 : (sgs P).length ≤ 1000000 := Nat.le_trans hsl (by decide)
  generalize sgs P = T at *
  refine tr_if (b := false) (evb_compare ev_bool (EvN.ev (evn_comp (ds := dInts T) (fv := []) (Xs := []) (fun _ => true) (fun _ => .bool false) (ite_list (ev_var (.t8 (.t8 (.there .here))))) (by rw [dInts_len]; exact hT1) rfl (by kernel_rfl) .nil (fun env b O d hd => .nil) (fun env b O d hd _ => ?_))) (pr_lin.to ?_)) (fun h => by cases h) fun _ => tr_nil ?_
  · obtain ⟨x, _, rfl⟩ := List.mem_map.mp hd
    exact ev_bcall (bn L b_isinstance) (evl_cons (ev_var .here) (evl_cons (ev_bname (bn L b_bool)) evl_nil)) pr_intbool
  · congr 1
    rw [List.any_eq_false]
    intro x hx
    obtain ⟨y, _, rfl⟩ := List.mem_map.mp hx
    decide
  have eF : (((dInts T).filter fun d => datI d != 0).map fun d => d) = dInts (T.filter fun x => x != 0) := by
    rw [List.map_id']
    show List.filter _ (List.map _ T) = List.map _ (List.filter _ T)
    rw [List.filter_map]; rfl
  have hfl : (T.filter fun x => x != 0).length ≤ 13 := Nat.le_trans (List.length_filter_le _ _) hsl
  have eC : (b2i (decide ((rk fs k : Int) > (qk fs k : Int))) - b2i (decide ((rk fs k : Int) < (qk fs k : Int)))) = (T.filter fun x => x != 0).headD 0 := by
    rw [sg]
    congr 2
    · rw [decide_eq_decide]; omega
    · rw [decide_eq_decide]; omega
  refine tr_if (b := false) (evb_compare (X := pI ((T.filter fun x => x != 0).headD 0)) (ev_item (X := .list (dInts ((T.filter fun x => x != 0) ++ [0]))) (ev_to ?_ (ev_binop (EvN.ev (evn_comp (ds := dInts T) (fv := []) (Xs := []) (fun d => datI d != 0) (fun d => d) (ite_list (ev_var (.t8 (.t8 (.there .here))))) (by rw [dInts_len]; exact hT1) rfl (by kernel_rfl) .nil (fun env b O d hd => .one ?_) (fun env b O d hd _ => ev_var .here))) (ev_list (ds := dInts [0]) (evl_cons ev_int evl_nil) (by simp)) (pr_ladd ?_))) ev_int (gi_list ?_ ?_ (by decide) ?_))
    (ev_to (by rw [eC]) (ev_binop (ev_compare (ev_var (.t8 (.t4 (.t2 (.there .here))))) (ev_var (.t8 (.t4 (.t2 .here)))) pr_gt) (ev_compare (ev_var (.t8 (.t4 (.t2 (.there .here))))) (ev_var (.t8 (.t4 (.t2 .here)))) pr_lt) pr_bsub)) (pr_ne.to (by simp))) (fun h => by cases h) fun _ => tr_nil ?_
  · rw [eF, dInts_app]
  · obtain ⟨x, _, rfl⟩ := List.mem_map.mp hd
    exact evb_compare (ev_var .here) ev_int pr_ne
  · rw [eF, dInts_len, dInts_len]; simp; omega
  · rw [if_neg (by decide)]
    show (List.map _ _)[0]? = _
    cases (T.filter fun x => x != 0) with
    | nil => rfl
    | cons a r => rfl
  · rw [dInts_len]; omega
  · rw [dInts_len]; simp; omega
  -- the matches
  have DT : ∀ {σ : Sg} {k : Nat} {pos : Pos}, Ev ((lCx Ω env b O).walk O' fp inv) σ (.Constant (.str ⟨#[46, 46, 46]⟩) k pos) (pL dots) := ev_strl rfl
  have dl : dots.length = 3 := rfl
  have gl := glue_len_eq dots P
  refine tr_if (b := false) (evb_compare (Y := pB true) (ev_callg (f_em L (w := glue dots P) (t := txt fs) (by rw [dl] at gl; omega) (Nat.le_trans ht1 (by decide))) (evl_cons (ev_mcall DT mt_join (evl_cons (ev_var (.t8 (.t8 .here))) evl_nil) (pr_join (by rw [dl]; omega))) (evl_cons (ev_var (.t8 (.t2 (.there .here)))) evl_nil))) ev_bool (pr_isnot.to (by rw [em1]; rfl))) (fun h => by cases h) fun _ => tr_nil ?_
  have eA : PV.list (txts P ++ sl (some (-1)) none (txts P)) = PV.list (txts (P ++ P.drop (P.length - 1))) := by
    rw [sl_last, htx]
    show PV.list (List.map _ P ++ List.drop _ (List.map _ P)) = PV.list (List.map _ _)
    rw [List.map_append, List.map_drop]
  have hdl : ((P.drop (P.length - 1)).map List.length).sum ≤ 13 := by
    rw [List.map_drop]
    refine Nat.le_trans ?_ sum13
    conv => rhs; rw [← List.take_append_drop (P.length - 1) (P.map List.length), List.sum_append]
    omega
  have hdn : (P.drop (P.length - 1)).length ≤ 13 := by rw [List.length_drop]; omega
  have gl2 := glue_len_eq dots (P ++ P.drop (P.length - 1))
  rw [List.map_append, List.sum_append, List.length_append, dl] at gl2
  refine tr_if (b := false) (evb_compare (Y := pB false) (ev_callg (f_em L (w := glue dots (P ++ P.drop (P.length - 1))) (t := txt fs) (by omega) (Nat.le_trans ht1 (by decide))) (evl_cons (ev_mcall DT mt_join (evl_cons (ev_to eA (ev_binop (ev_var (.t8 (.t8 .here))) (ev_from (n := -1) (ev_var (.t8 (.t8 .here))) (ev_unary ev_int pr_neg) (gs_list (mil hP1))) (pr_ladd ?_))) evl_nil) (pr_join ?_)) (evl_cons (ev_var (.t8 (.t2 (.there .here)))) evl_nil))) ev_bool (pr_isnot.to (by rw [em2]; rfl))) (fun h => by cases h) fun _ => tr_nil ?_
  · have := sl_len (some (-1)) none (txts P)
    omega
  · rw [List.map_append, List.sum_append, List.length_append, dl]; omega
  refine tr_if (b := rk fs k == qk fs k) (evb_compare (ev_var (.t8 (.t4 (.t2 (.there .here))))) (ev_var (.t8 (.t4 (.t2 .here)))) (pr_eq.to ?_)) (fun hb => ?_) (fun hb => ?_)
  · congr 1
    rw [Bool.eq_iff_iff, beq_iff_eq, beq_iff_eq]; omega
  · have hb : rk fs k = qk fs k := by simpa using hb
    rw [if_pos hb] at hQ
    refine tr_set (X := .list (dNats (laps ++ [k]))) (ev_to ?_ (ev_binop (ev_var (.t8 (.t4 .here))) (ev_list (ds := dNats [k]) (evl_cons (ev_var (.t8 (.there .here))) evl_nil) (by simp)) (pr_ladd ?_))) (.t8 (.t4 .here)) (tr_nil (tr_nil (hQ _ _ _ _ _)))
    · rw [dNats_app]
    · rw [dNats_len]; simp; omega
  · have hb : ¬ rk fs k = qk fs k := by simpa using hb
    rw [if_neg hb] at hQ
    exact tr_nil (tr_nil (hQ _ _ _ _ _))
end
end Mine
end
section
open PySem PySem.W PyProof.Rows PySem.Calls PySem.SeqAt
set_option maxRecDepth 100000
namespace Mine
open Hd
theorem pcs_le {items : Nat → Option Int} : ∀ {f i : Nat} {t : List Nat} {m : Nat}, f ≤ m → (pcs items i t f).length ≤ m
  | 0, i, t, m, h => Nat.zero_le _
  | f + 1, i, t, m, h => by
    unfold pcs
    cases items i with
    | none => exact Nat.zero_le _
    | some n =>
      dsimp only
      split
      · simp; omega
      · rw [List.length_cons]
        have := @pcs_le items f (i + 1) (t.drop n.toNat) (m - 1) (by omega)
        omega
noncomputable def prepL (n : Nat) : List Nat := match prep n with
  | .str x => x.cps.toList
  | _ => []
theorem prep_str (n : Nat) : prep n = .str (mk (prepL n)) := by
  have key : ∃ x, prep n = .str x := by
    unfold prep
    split
    · exact ⟨_, rfl⟩
    · rename_i h
      obtain ⟨x, e | e⟩ := lookup_str (k := .int n) (l := b3L)
      · exact ⟨x, e⟩
      · have e' : b3get n = .none := e
        rw [e'] at h
        exact absurd rfl h
  obtain ⟨x, e⟩ := key
  unfold prepL
  rw [e]
  show PyData.str x = PyData.str (mk x.cps.toList)
  rw [mk_of]
noncomputable def prepD : PyData → PyData
  | .str x => prep (x.cps.toList.headD 0)
  | d => d
theorem prep_items (T : List Nat) : (((chars T).filter fun _ => true).map prepD) = txts (T.map prepL) := by
  rw [filter_all]
  show List.map _ (List.map _ T) = List.map _ (List.map _ T)
  rw [List.map_map, List.map_map]
  exact List.map_congr_left fun n _ => prep_str n
theorem g1_pos : ∀ i x, gnth none [1, 2, 0, 3] i = some x → 1 ≤ x := fun i x h => by
  match i with
  | 0 => cases h; decide
  | 1 => cases h; decide
  | n + 2 => cases h; decide
theorem g2_pos : ∀ i x, gnth none [1, 2, 127, 3] i = some x → 1 ≤ x := fun i x h => by
  match i with
  | 0 => cases h; decide
  | 1 => cases h; decide
  | n + 2 => cases h
structure LF (fs : List Nat) (s4 : Int) : Prop where
  p1 : txts (pcs (gnth none [1, 2, 0, 3]) 0 (txt fs) ((txt fs).length + 1)) = .str (mk ((txt fs).take 1)) :: (rangeD 1 fs.length 2).map fun d => .str (mk (sl (some (datI d)) (some (datI d + 2)) (txt fs)))
  p2 : pcs (gnth none [1, 2, 127, 3]) 0 (txt fs) ((txt fs).length + 1) = [(txt fs).take 1, sl (some 1) (some 3) (txt fs)]
  k : ∀ k, 1 ≤ k → k < fs.length → LK fs k
  h1 : HoldsF (txt fs) (lapsTo fs (fs.length - 1))
  h2 : HoldsF (laidF 13 fs.length (lapsTo fs (fs.length - 1)) (if s4.fmod 2 = 0 then 102 else 105)) (lapsTo fs (fs.length - 1))
  w : (typedF (laidF 13 fs.length (lapsTo fs (fs.length - 1)) (if s4.fmod 2 = 0 then 102 else 105)) (s4.fdiv 2)).flatMap prepL = laidF 13 fs.length (lapsTo fs (fs.length - 1)) (if s4.fmod 2 = 0 then 102 else 105)
theorem lapsTo_len (fs : List Nat) (m : Nat) : (lapsTo fs m).length ≤ m + 1 := by
  unfold lapsTo
  refine Nat.le_trans (List.length_filter_le _ _) ?_
  simp
theorem lapsTo_pos (fs : List Nat) (m : Nat) : ∀ k ∈ lapsTo fs m, 1 ≤ k := fun k h => by
  have := (List.mem_filter.mp h).2
  rw [Bool.and_eq_true, decide_eq_true_eq] at this
  exact this.1
section
variable {Ω : Wo} {env : Env} {b : Shared} {O : List Addr}
theorem lawB (L : Law1 Ω) {X0 X6 X7 X8 X10 : PV} {ss : List Int} {s4 : Int} {fs : List Nat} {style : Int} (hs4 : (dInts ss)[4]? = some (.int s4)) (h4 : 0 ≤ s4 ∧ s4 < 1000000) (hlen : ss.length = 5) (g : Good fs) (F : LF fs s4) :
    Tr (lCx Ω env b O) ⟨[X0, .list (dInts ss), .list (dNats fs), pI style, pI fs.length, pI (numF fs), X6, X7, X8, .unb, X10, pL (txt fs), .unb, .unb, .unb, .unb, .unb, .unb, .unb, .unb], []⟩ ((fnBody lSt).drop 14) (fun pf σ => pf = .ret (pB true) ∨ (pf = .next ∧ pB true = pN)) := by
  have hlo := g.lo
  have hhi := g.hi
  have htl : (txt fs).length = fs.length := by simp
  have hn1 : fs.length ≤ 1000 := Nat.le_trans hhi (by decide)
  have ht1 : (txt fs).length ≤ 1000 := Nat.le_trans (Nat.le_of_eq htl) hn1
  have ht2 : (txt fs).length ≤ 100000 := Nat.le_trans ht1 (by decide)
  have hd1 : (dInts ss).length ≤ 1000000 := by rw [dInts_len, hlen]; decide
  obtain ⟨p1, p2, hk, hH1, hH2, hw⟩ := F
  have hR : (rangeD 1 fs.length 2).length ≤ 14 := by
    have h := congrArg List.length p1
    have h2 : (pcs (gnth none [1, 2, 0, 3]) 0 (txt fs) ((txt fs).length + 1)).length ≤ 14 := pcs_le (by omega)
    have h3 : (txts (pcs (gnth none [1, 2, 0, 3]) 0 (txt fs) ((txt fs).length + 1))).length = (pcs (gnth none [1, 2, 0, 3]) 0 (txt fs) ((txt fs).length + 1)).length := List.length_map ..
    rw [h, List.length_cons, List.length_map] at h3
    omega
  refine tr_if (b := false) (evb_compare (ev_callg (f_pieces L (d := 47) (t := txt fs) (ruler := [1, 2, 0, 3]) rfl g1_pos ht2) (evl_cons (ev_var (.t8 (.t2 (.there .here)))) (evl_cons (ev_list (ds := dInts [1, 2, 0, 3]) (evl_cons ev_int (evl_cons ev_int (evl_cons ev_int (evl_cons ev_int evl_nil)))) (by simp)) evl_nil)))
    (ev_binop (ev_list (ds := [.str (mk ((txt fs).take 1))]) (evl_cons (ev_to ?_ (ev_upto (n := 1) (ev_var (.t8 (.t2 (.there .here)))) ev_int (gs_str (mil ht1)))) evl_nil) (by simp)) (EvN.ev (evn_comp (fv := [Str.ofString "text"]) (Xs := [pL (txt fs)]) (fun _ => true) (fun d => .str (mk (sl (some (datI d)) (some (datI d + 2)) (txt fs))))
      (ite_rng (ev_tcall (bn L b_range) (evl_cons ev_int (evl_cons (ev_var (.t4 .here)) (evl_cons ev_int evl_nil))) (pr_range3 (by decide) (by decide))) (small_nat (a := 1) (s := 2) (by decide) hn1 (by decide) (by decide))) ?_ rfl (by kernel_rfl) (.cons (.t8 (.t2 (.there .here))) .nil) (fun env b O d hd => .nil) (fun env b O d hd _ => ?_))) (pr_ladd ?_)) (pr_lne.to ?_)) (fun h => by cases h) fun _ => tr_nil ?_
  · rw [sl_to (by decide)]; rfl
  · exact Nat.le_trans hR (by decide)
  · obtain ⟨i, _, rfl⟩ := List.mem_map.mp hd
    exact ev_both (ev_var (.there .here)) (ev_var .here) (ev_binop (ev_var .here) ev_int pr_add) (gs_str (mil ht1))
  · rw [filter_all, List.length_map, List.length_singleton]
    omega
  · rw [filter_all, List.singleton_append, ← p1, datEq_strs]; simp
  -- the letter and two alone
  refine tr_if (b := false) (evb_compare (ev_callg (f_pieces L (d := 47) (t := txt fs) (ruler := [1, 2, 127, 3]) rfl g2_pos ht2) (evl_cons (ev_var (.t8 (.t2 (.there .here)))) (evl_cons (ev_list (ds := dInts [1, 2, 127, 3]) (evl_cons ev_int (evl_cons ev_int (evl_cons ev_int (evl_cons ev_int evl_nil)))) (by simp)) evl_nil)))
    (ev_list (ds := txts [(txt fs).take 1, sl (some 1) (some 3) (txt fs)]) (evl_cons (ev_to ?_ (ev_upto (n := 1) (ev_var (.t8 (.t2 (.there .here)))) ev_int (gs_str (mil ht1)))) (evl_cons (ev_both (ev_var (.t8 (.t2 (.there .here)))) ev_int ev_int (gs_str (mil ht1))) evl_nil)) (by simp)) (pr_lne.to ?_)) (fun h => by cases h) fun _ => tr_nil ?_
  · rw [sl_to (by decide)]; rfl
  · rw [p2, datEq_strs]; simp
  refine tr_set (X := .list (dNats [])) (ev_list (ds := dNats []) evl_nil (by simp)) (.t8 (.t4 .here)) ?_
  -- the loop
  refine tr_for (ite_range2 L (a := 1) (n := fs.length) ev_int (ev_var (.t4 .here)) (by decide) (mil hn1)) (.inl (by kernel_rfl)) (fun i σ => ∃ X9 X13 X14 X15 X16 X17, σ = ⟨[X0, .list (dInts ss), .list (dNats fs), pI style, pI fs.length, pI (numF fs), X6, X7, X8, X9, X10, pL (txt fs), .list (dNats (lapsTo fs i)), X13, X14, X15, X16, X17, .unb, .unb], []⟩) ⟨_, _, _, _, _, _, rfl⟩ (fun O' fp inv i σ' dd hd hJ => ?_) (fun σ' hJ => ?_)
  · obtain ⟨X9, X13, X14, X15, X16, X17, rfl⟩ := hJ
    obtain ⟨hi, rfl⟩ := natsFrom_at hd
    refine ⟨_, .t8 (.there .here), ?_⟩
    have e1 : lapsTo fs (i + 1) = if rk fs (1 + i) = qk fs (1 + i) then lapsTo fs i ++ [1 + i] else lapsTo fs i := by rw [lapsTo_succ, Nat.add_comm i 1]
    have hl := lapsTo_len fs i
    refine lawK L (k := 1 + i) (laps := lapsTo fs i) (by omega) hi g (hk _ (by omega) hi) (by omega) fun Y13 Y14 Y15 Y16 Y17 => ?_
    rw [← e1]
    exact ⟨_, _, _, _, _, _, rfl⟩
  obtain ⟨X9, X13, X14, X15, X16, X17, rfl⟩ := hJ
  rw [natsFrom_len]
  have hl := lapsTo_len fs (fs.length - 1)
  have hpos := lapsTo_pos fs (fs.length - 1)
  generalize lapsTo fs (fs.length - 1) = laps at *
  have e2 : 0 ≤ s4.fmod 2 := Int.fmod_nonneg_of_pos _ (by decide)
  have e2' : s4.fmod 2 < 2 := Int.fmod_lt_of_pos _ (by decide)
  have hwl := laidF_len 13 fs.length laps (if s4.fmod 2 = 0 then 102 else 105) hhi (by omega) hpos
  have hit4 : ∀ {σ : Sg} {p q pos : Pos} {k : Nat}, At (lPs ++ lLs) σ.ρ (Str.ofString "seeds") (.list (dInts ss)) → Ev (lCx Ω env b O) σ (.Subscript (.Name (Str.ofString "seeds") p) (.Constant (.int 4) k q) pos) (pI s4) := fun h => ev_item (ev_var h) ev_int (gi_nat (j := 4) hs4 (by rw [dInts_len, hlen]; decide))
  refine tr_set (X := pL (laidF 13 fs.length laps (if s4.fmod 2 = 0 then 102 else 105))) (ev_callg (f_laid L 13 (d := 46) hhi (by omega) hhi hpos (by omega)) (evl_cons (ev_var (.t4 .here)) (evl_cons (ev_var (.t8 (.t4 .here))) (evl_cons (ev_item (X := pL [102, 105]) (ev_strl (l := [102, 105]) (by decide +kernel)) (ev_binop (hit4 (.there .here)) ev_int (pr_mod (by decide))) (gi_str ?_ ?_ ?_ (by decide))) evl_nil)))) (.t8 (.t8 (.t2 .here))) ?_
  · generalize s4.fmod 2 = e at e2 e2'
    have : e = 0 ∨ e = 1 := by omega
    rcases this with rfl | rfl <;> rfl
  · show -(2 : Int) ≤ _; omega
  · show _ < (2 : Int); omega
  generalize laidF 13 fs.length laps (if s4.fmod 2 = 0 then 102 else 105) = W at *
  have htyl := typedF_len W (s4.fdiv 2)
  refine tr_set (X := pL W) (ev_to ?_ (ev_mcall (ev_strl (l := []) (by decide +kernel)) mt_join (evl_cons (ev_to (by rw [prep_items]) (EvN.ev (evn_comp (ds := chars (typedF W (s4.fdiv 2))) (fv := []) (Xs := []) (fun _ => true) prepD (ite_str (ev_typed L (d := 58) rfl (by omega) (ev_var (.t8 (.t8 (.t2 .here)))) (hit4 (.there .here)) (by omega) (by kernel_rfl))) (by simp; omega) rfl (by kernel_rfl) .nil (fun env b O d hd => .nil) (fun env b O d hd _ => ?_)))) evl_nil) (pr_join (g := []) (l := (typedF W (s4.fdiv 2)).map prepL) ?_))) (.t8 (.t8 (.t2 (.there .here)))) ?_
  · rw [glue_nil, ← List.flatMap_def, hw]
  · obtain ⟨n, _, rfl⟩ := List.mem_map.mp hd
    exact ev_callg (f_b3 L (n := n)) (evl_cons (ev_var .here) evl_nil)
  · have h1 := congrArg List.length hw
    rw [List.flatMap_def, List.length_flatten] at h1
    rw [h1]
    simp; omega
  have hA := f_holds (d := 58) (q := false) L (t := txt fs) (laps := laps) (by omega) hH1
  have hB := f_holds (d := 58) (q := false) L (t := W) (laps := laps) (by omega) hH2
  refine tr_ret (X := pB true) (ev_to ?_ (ev_and (a := true) (b := true) (ev_callg hA (evl_cons (ev_var (.t8 (.t2 (.there .here)))) (evl_cons (ev_var (.t8 (.t4 .here))) evl_nil))) fun _ => ev_to ?_ (ev_and (a := true) (b := true) (ev_compare (ev_var (.t8 (.t8 (.t2 (.there .here))))) (ev_var (.t8 (.t8 (.t2 .here)))) (pr_seq.to (by simp))) fun _ => ev_and1 (ev_callg hB (evl_cons (ev_var (.t8 (.t8 (.t2 (.there .here))))) (evl_cons (ev_var (.t8 (.t4 .here))) evl_nil)))))) (.inl rfl)
  · rfl
  · rfl
end
end Mine
end
section
open PySem PySem.W PyProof.Rows PySem.Calls PySem.SeqAt
set_option maxRecDepth 100000
namespace Mine
open Hd
-- the law, asked by the row
theorem fnc_intro {Ω : Wo} {f : Str} {params : Arguments} {body : List Stmt} {scope : Scope} {ps ls : List Str} {Xs : List PV} {Y : PV} (F : FnRec Ω f params body scope)
    (hl : ps.length = Xs.length) (hbind : ∀ pm cd doc (vs : List Value), vs.length = ps.length → bindArgs (docDef f params body scope pm cd doc) ⟨vs, []⟩ = pure (ps.zip vs))
    (hps : (ps.all fun x => scope.names.lookup x == some .local || scope.names.lookup x == some .cell) = true)
    (hnd : (ps ++ ls).Nodup)
    (hbody : ∀ env b, Tf ⟨Ω, false, 60, scope.names, ps ++ ls, env, b, [], [], fun _ => True⟩ ⟨Xs ++ unbs ls.length, []⟩ body (fun pf σ => pf = .ret Y ∨ (pf = .next ∧ Y = pN)))
    (hco : scope.isCoroutine = false := by rfl) (hgen : scope.isGenerator = false := by rfl) (hk : scope.kind = .function := by rfl) : FnC Ω f Xs Y := by
  obtain ⟨a, h1, h2, h3⟩ := fn_enter (q := false) (d := 60) (Xs := Xs) F hl hbind hps hnd hco hgen hk
  refine ⟨a, h1, fun s vs ok hp => h3 callerA s [] vs ⟨rfl, by decide, by decide⟩ ok (fun b m => nomatch m) hp _ fun env s₁ hff hsc hAd hw kk ht => ?_⟩
  refine wpAny_mono ((hbody env s).run (callerA.deeper env) s₁ hAd (Around.frames_deeper rfl) hff hw) (fun fl s' ⟨pf, σ', hw, hr, hq⟩ => ?_) fun _ _ f => f.elim
  rcases hq with rfl | ⟨rfl, rfl⟩
  · cases fl <;> first | exact hr.elim | exact ⟨_, rfl, hw.kk, hr⟩
  · cases fl <;> first | exact hr.elim | exact ⟨_, rfl, hw.kk, .none⟩
theorem ss_at {ss : List Int} {i : Nat} (h : i < ss.length) : (dInts ss)[i]? = some (.int (ss.getD i 0)) := by
  rw [List.getElem?_map, List.getElem?_eq_getElem h, List.getD_eq_getElem?_getD, List.getElem?_eq_getElem h]; rfl
theorem ss_in {ss : List Int} {i : Nat} (h : i < ss.length) (hb : ∀ x ∈ ss, 0 ≤ x ∧ x < 1000000) : 0 ≤ ss.getD i 0 ∧ ss.getD i 0 < 1000000 := by
  refine hb _ ?_
  rw [List.getD_eq_getElem?_getD, List.getElem?_eq_getElem h]
  exact List.getElem_mem h
theorem chr_items (fs : List Nat) : (((dNats fs).filter fun _ => true).map fun d => PyData.str (mk [(97 + datI d).toNat])) = txts (fs.map fun f => [97 + f]) := by
  rw [filter_all]
  show List.map _ (List.map _ fs) = List.map _ (List.map _ fs)
  rw [List.map_map, List.map_map]
  refine List.map_congr_left fun f _ => ?_
  show PyData.str (mk [((97 : Int) + ((f : Nat) : Int)).toNat]) = PyData.str (mk [97 + f])
  rw [show ((97 : Int) + ((f : Nat) : Int)).toNat = 97 + f by omega]
theorem f_law {Ω : Wo} (L : Law1 Ω) {xs : List Int} (hl : xs.length ≤ 63) (F : LF (lawFs (seedsF S0 xs)) ((seedsF S0 xs).getD 4 0)) : FnC Ω (Str.ofString "law") [.list (xs.map .int)] (pB true) := by
  refine fnc_intro (ps := lPs) (ls := lLs) (fnrec_of (d := recOf lSt) L (by kernel_rfl)) rfl (fun pm cd doc vs hv => ?_) (by kernel_rfl) (by decide +kernel) (fun env b => ?_)
  · exact ba1 (fun _ => rfl) vs hv
  have hlen : (seedsF S0 xs).length = 5 := seedsF_len _ _
  have hin := seedsF_lt S0 xs
  have hsplit : (fnBody lSt) = (fnBody lSt).take 4 ++ (((fnBody lSt).drop 4).take 9 ++ (fnBody lSt).drop 13) := by
    rw [show (fnBody lSt).drop 13 = ((fnBody lSt).drop 4).drop 9 by rw [List.drop_drop], List.take_append_drop, List.take_append_drop]
  show Tf _ _ (fnBody lSt) _
  rw [hsplit]
  refine tf_append (lawA1 L hl ⟨rfl, tf_append ?_⟩)
  have g := lawFs_good (seedsF S0 xs)
  refine lawA2 L rfl (ss_at (by omega)) (ss_in (by omega) hin) hlen g fun X6 X7 X8 X10 => ⟨rfl, ?_⟩
  have hlo := g.lo
  have hhi := g.hi
  refine tf_refused L (d := 46) (t := txt (lawFs (seedsF S0 xs))) rfl rfl ?_ (.t8 (.t2 (.there .here))) (by decide +kernel) (by kernel_rfl) (tf_of (lawB L (ss_at (by omega)) (ss_in (by omega) hin) hlen g F))
  refine evb_compare (ev_var (.t8 (.t2 (.there .here)))) (ev_mcall (ev_strl (l := []) (by decide +kernel)) mt_join (evl_cons (ev_to (by rw [chr_items]) (EvN.ev (evn_comp (ds := dNats (lawFs (seedsF S0 xs))) (fv := []) (Xs := []) (fun _ => true) (fun d => .str (mk [(97 + datI d).toNat])) (ite_list (ev_var (.t2 .here))) (by rw [dNats_len]; omega) rfl (by kernel_rfl) .nil (fun env b O d hd => .nil) (fun env b O d hd _ => ?_)))) evl_nil) (pr_join (g := []) (l := (lawFs (seedsF S0 xs)).map fun f => [97 + f]) ?_)) (pr_sne.to ?_)
  · obtain ⟨f, hf, rfl⟩ := List.mem_map.mp hd
    have := g.lt f hf
    exact ev_bcall (bn L b_chr) (evl_cons (ev_binop ev_int (ev_var .here) pr_add) evl_nil) (pr_chr (by show 0 ≤ 97 + (f : Int); omega) (by show 97 + (f : Int) ≤ 1114111; omega))
  · have : ((lawFs (seedsF S0 xs)).map fun f => [97 + f]).map List.length = (lawFs (seedsF S0 xs)).map fun _ => 1 := by rw [List.map_map]; rfl
    rw [this, List.map_const', List.sum_replicate_nat]
    simp; omega
  · rw [glue_nil]
    have : ((lawFs (seedsF S0 xs)).map fun f => [97 + f]).flatten = txt (lawFs (seedsF S0 xs)) := by
      conv => rhs; rw [← flat_singles (txt (lawFs (seedsF S0 xs))), List.map_map]
      rfl
    rw [this]; simp
end Mine
end
section
open PySem PySem.W PyProof.Rows PySem.Calls PySem.SeqAt PyProof.V
open PySem.Builtin.Str (occurrences subAt strSub partsBetween strKind)
namespace Mine
noncomputable abbrev AtD (w : List Nat) (k : Nat) : Prop := StrLaws.At (mk w) (mk dots) (mk w).length k
theorem atD_iff (w : List Nat) (k : Nat) : AtD w k ↔ k + 3 ≤ w.length ∧ (w.drop k).take 3 = dots := by
  unfold AtD StrLaws.At
  rw [subAt_mk, mk_len, mk_len]
  unfold occ
  show k + 3 ≤ w.length ∧ ((w.drop k).take 3 == dots) = true ↔ _
  rw [beq_iff_eq]
theorem atD_head {w : List Nat} {k : Nat} (h : AtD w k) : ∃ r, w.drop k = 46 :: r := by
  obtain ⟨_, h⟩ := (atD_iff w k).mp h
  cases e : w.drop k with
  | nil => rw [e] at h; cases h
  | cons a r =>
    rw [e] at h
    have h2 : a = 46 := by
      have := congrArg List.head? h
      simpa [dots] using this
    exact ⟨r, by rw [h2]⟩
theorem sub_list (x : List Nat) (a b : Nat) : (strSub (mk x) a b).cps.toList = (x.drop a).take (b - a) := StrLaws.strSub_toList _ _ _
theorem parts_of {w : List Nat} : ∀ {ps : List (List Nat)}, ps ≠ [] → (∀ p ∈ ps, 46 ∉ p) → ∀ {a : Nat} {cuts : List Nat} {f : Nat}, w.drop a = glue dots ps → a ≤ w.length → StrLaws.ChainG (mk w) (mk dots) (mk w).length a cuts f → (∀ k, f ≤ k → ¬ AtD w k) →
    (StrLaws.partsFrom (mk w) 3 a cuts).map (fun x => x.cps.toList) = ps
  | [], h, _, _, _, _, _, _, _, _ => (h rfl).elim
  | [p], _, hf, a, cuts, f, hd, ha, hc, hn => by
    have hd : w.drop a = p := hd
    have no : ∀ k, a ≤ k → ¬ AtD w k := fun k hk h => by
      obtain ⟨r, e⟩ := atD_head h
      refine hf p (.head _) ?_
      rw [← hd]
      have : w.drop k = (w.drop a).drop (k - a) := by rw [List.drop_drop]; congr 1; omega
      rw [this] at e
      exact List.mem_of_mem_drop (i := k - a) (by rw [e]; exact .head _)
    cases cuts with
    | cons c r => exact absurd hc.2.1 (no c hc.1)
    | nil =>
      show [(strSub (mk w) a (mk w).length).cps.toList] = [p]
      rw [sub_list, mk_len, hd, ← hd, List.take_of_length_le (by rw [List.length_drop]; exact Nat.le_refl _)]
  | p :: q :: r, _, hf, a, cuts, f, hd, ha, hc, hn => by
    have hd : w.drop a = p ++ dots ++ glue dots (q :: r) := hd
    have hlen := congrArg List.length hd
    rw [List.length_drop, List.length_append, List.length_append] at hlen
    have dl : dots.length = 3 := rfl
    have yes : AtD w (a + p.length) := by
      rw [atD_iff]
      refine ⟨by omega, ?_⟩
      rw [← List.drop_drop, hd, List.append_assoc, List.drop_left]
      rfl
    have no : ∀ k, a ≤ k → k < a + p.length → ¬ AtD w k := fun k hk hk2 h => by
      obtain ⟨s, e⟩ := atD_head h
      refine hf p (.head _) ?_
      have h3 : w.drop k = (w.drop a).drop (k - a) := by rw [List.drop_drop]; congr 1; omega
      rw [h3, hd, List.append_assoc, List.drop_append_of_le_length (by omega)] at e
      have h4 : 0 < (p.drop (k - a)).length := by rw [List.length_drop]; omega
      cases e5 : p.drop (k - a) with
      | nil => rw [e5] at h4; simp at h4
      | cons x y =>
        rw [e5] at e
        have : x = 46 := (List.cons.inj e).1
        refine List.mem_of_mem_drop (i := k - a) ?_
        rw [e5, this]; exact .head _
    cases cuts with
    | nil =>
      have e : f = a := hc
      exact absurd yes (hn _ (by omega))
    | cons c r' =>
      obtain ⟨h1, h2, h3, h4⟩ := hc
      have hc1 : ¬ c < a + p.length := fun z => no c h1 z h2
      have hc2 : ¬ a + p.length < c := fun z => h3 _ (by omega) z yes
      have ec : c = a + p.length := by omega
      subst ec
      have ih := parts_of (w := w) (ps := q :: r) (by simp) (fun x hx => hf x (.tail _ hx)) (a := a + p.length + 3) (cuts := r') (f := f) (by
        rw [Nat.add_assoc, ← List.drop_drop, hd, ← dl, ← List.length_append, List.drop_left]) (by omega) h4 hn
      show (strSub (mk w) a (a + p.length)).cps.toList :: (StrLaws.partsFrom (mk w) 3 (a + p.length + 3) r').map _ = _
      rw [ih, sub_list, hd, List.append_assoc, show a + p.length - a = p.length by omega, List.take_left]
theorem hasd_iff (w : List Nat) : hasd w = true ↔ ∃ k, AtD w k := by
  unfold hasd Txt.contains
  refine (StrLaws.found_iff _ _).trans ⟨fun ⟨i, h1, h2⟩ => ⟨i, h1, h2⟩, fun ⟨i, h1, h2⟩ => ⟨i, h1, h2⟩⟩
theorem hasd_no {w : List Nat} (h : 46 ∉ w) : hasd w = false := by
  cases e : hasd w with
  | false => rfl
  | true =>
    obtain ⟨k, hk⟩ := (hasd_iff w).mp e
    obtain ⟨r, e2⟩ := atD_head hk
    exact absurd (List.mem_of_mem_drop (i := k) (by rw [e2]; exact .head _)) h
theorem hasd_glue (p q : List Nat) (r : List (List Nat)) : hasd (glue dots (p :: q :: r)) = true := by
  rw [hasd_iff]
  refine ⟨p.length, ?_⟩
  rw [atD_iff]
  have e : glue dots (p :: q :: r) = p ++ dots ++ glue dots (q :: r) := rfl
  have dl : dots.length = 3 := rfl
  rw [e]
  refine ⟨by rw [List.length_append, List.length_append]; omega, ?_⟩
  rw [List.append_assoc, List.drop_left]; rfl
theorem spl_glue (p q : List Nat) (r : List (List Nat)) (hf : ∀ x ∈ p :: q :: r, 46 ∉ x) : spl (glue dots (p :: q :: r)) = p :: q :: r := by
  have hh := hasd_glue p q r
  obtain ⟨k, hk⟩ := (hasd_iff _).mp hh
  generalize hw : glue dots (p :: q :: r) = w at *
  obtain ⟨f, hG, hn⟩ := StrLaws.occ_tight (mk w) (mk dots) (by decide)
  unfold spl Txt.split
  have h1 := ((atD_iff w k).mp hk).1
  have h3 : decide ((mk w).length < (mk dots).length) = false := by rw [decide_eq_false_iff_not, mk_len, mk_len]; show ¬ w.length < 3; omega
  rw [h3, kind_dots]
  have h4 : occurrences (mk w) (mk dots) 0 (mk w).length ((mk w).length + 1) ≠ [] := by
    rcases StrLaws.occ_head (mk w) (mk dots) ((mk w).length + 1) (by omega) with ⟨_, hn⟩ | ⟨i, r, e, _⟩
    · exact absurd hk (hn k)
    · rw [e]; simp
  have h5 : (occurrences (mk w) (mk dots) 0 (mk w).length ((mk w).length + 1)).isEmpty = false := by
    rw [List.isEmpty_eq_false_iff]; exact h4
  rw [h5]
  show List.map _ (partsBetween (mk w) _ 3) = _
  rw [StrLaws.partsBetween_eq]
  exact parts_of (by simp) hf (by rw [List.drop_zero, hw]) (Nat.zero_le _) hG hn
end Mine
end
section
namespace Mine
theorem fnd_here {t w : List Nat} {lo hi : Nat} (h1 : lo + w.length ≤ hi) (h2 : occ t w lo = true) : fnd t w lo hi = some lo := by
  unfold fnd
  rw [show hi + 1 - lo = (hi - lo) + 1 by omega, List.range'_succ]
  exact List.find?_cons_of_pos (by simp [h1, h2])
theorem occ_nil (t : List Nat) (i : Nat) : occ t [] i = true := by unfold occ; simp
theorem em_two {a b : List Nat} (ha : 46 ∉ a) (hb : 46 ∉ b) (t : List Nat) : em (glue dots [a, b]) t =
    if a.length = 0 then em2 t [a, b] 0 else if swith t a then em2 t [b] a.length else false := by
  unfold em
  rw [hasd_glue, if_pos rfl, spl_glue a b [] (fun x hx => by
    rcases List.mem_cons.mp hx with rfl | hx
    · exact ha
    · rw [List.mem_singleton] at hx; subst hx; exact hb)]
  rfl
theorem em_front {F : List Nat} (h0 : F ≠ []) (hf : 46 ∉ F) (t : List Nat) : em (dots ++ F) t = ewith t F := by
  have e : dots ++ F = glue dots [[], F] := rfl
  have hl : F.length ≠ 0 := fun z => h0 (List.length_eq_zero_iff.mp z)
  rw [e, em_two (by simp) hf, if_pos (show ([] : List Nat).length = 0 from rfl)]
  unfold em2
  rw [show ([[], F] : List (List Nat)).getLastD [] = F from rfl, if_neg hl]
  cases he : ewith t F with
  | false => rfl
  | true =>
    rw [if_pos rfl]
    unfold ewith at he
    rw [Bool.and_eq_true, decide_eq_true_eq] at he
    show em3 t [[]] 0 (t.length - F.length) = true
    unfold em3
    rw [if_neg (by omega)]
    unfold emF
    rw [fnd_here (by simp) (occ_nil _ _)]; rfl
theorem em_bk {E : List Nat} (h0 : E ≠ []) (hf : 46 ∉ E) (t : List Nat) : em (E ++ dots) t = swith t E := by
  have e : E ++ dots = glue dots [E, []] := by show _ = E ++ dots ++ []; rw [List.append_nil]
  have hl : E.length ≠ 0 := fun z => h0 (List.length_eq_zero_iff.mp z)
  rw [e, em_two hf (by simp), if_neg hl]
  cases he : swith t E with
  | false => rfl
  | true =>
    rw [if_pos rfl]
    unfold swith at he
    have := congrArg List.length (eq_of_beq he)
    rw [List.length_take] at this
    unfold em2
    rw [show ([[]] : List (List Nat)).getLastD [] = [] from rfl, if_pos (show ([] : List Nat).length = 0 from rfl)]
    unfold em3
    rw [if_neg (by omega)]
    unfold emF
    rw [fnd_here (by show E.length + 0 ≤ _; omega) (occ_nil _ _)]; rfl
theorem em_mid {F : List Nat} (h0 : F ≠ []) (hf : 46 ∉ F) (t : List Nat) (hs : swith t F = true) : em (F ++ dots ++ F) t = (ewith t F && decide (2 * F.length ≤ t.length)) := by
  have e : F ++ dots ++ F = glue dots [F, F] := rfl
  have hl : F.length ≠ 0 := fun z => h0 (List.length_eq_zero_iff.mp z)
  rw [e, em_two hf hf, if_neg hl, hs, if_pos rfl]
  unfold em2
  rw [show ([F] : List (List Nat)).getLastD [] = F from rfl, if_neg hl]
  cases he : ewith t F with
  | false => rfl
  | true =>
    rw [if_pos rfl]
    unfold ewith at he
    rw [Bool.and_eq_true, decide_eq_true_eq] at he
    show em3 t [] F.length (t.length - F.length) = _
    unfold em3
    by_cases h2 : 2 * F.length ≤ t.length
    · rw [if_neg (by omega), decide_eq_true h2]; rfl
    · rw [if_pos (by omega), decide_eq_false h2]; rfl
theorem em_no {w : List Nat} (h : 46 ∉ w) (t : List Nat) : em w t = (w == t) := by unfold em; rw [hasd_no h]; rfl
-- the borders tell all
theorem holds_of_borders {t laps : List Nat} (hd : 46 ∉ t) (hb : ∀ k, 1 ≤ k → k < t.length → (k ∈ laps ↔ t.drop (t.length - k) = t.take k)) : HoldsF t laps := fun k h1 h2 => by
  have hk := hb k h1 h2
  have lF : (t.take k).length = k := by rw [List.length_take]; omega
  have lE : (t.drop (t.length - k)).length = k := by rw [List.length_drop]; omega
  have nF : 46 ∉ t.take k := fun m => hd (List.mem_of_mem_take m)
  have nE : 46 ∉ t.drop (t.length - k) := fun m => hd (List.mem_of_mem_drop m)
  have zF : t.take k ≠ [] := fun z => by rw [z] at lF; simp at lF; omega
  have zE : t.drop (t.length - k) ≠ [] := fun z => by rw [z] at lE; simp at lE; omega
  have eW : ewith t (t.take k) = decide (k ∈ laps) := by
    unfold ewith
    rw [lF, decide_eq_true (by omega), Bool.true_and, Bool.eq_iff_iff, beq_iff_eq, decide_eq_true_eq, hk]
  have sW : swith t (t.take k) = true := by unfold swith; rw [lF]; simp
  refine ⟨by rw [em_front zF nF, eW], ?_, ?_, ?_, by rw [em_mid zF nF t sW, eW, lF]⟩
  · rw [em_bk zE nE]
    unfold swith
    rw [lE, Bool.eq_iff_iff, beq_iff_eq, decide_eq_true_eq, hk]
    exact eq_comm
  · rw [em_no nF, Bool.eq_iff_iff, beq_iff_eq, decide_eq_true_eq, hk]
    exact eq_comm
  · rw [em_no nF]
    rw [beq_eq_false_iff_ne]
    intro e
    have := congrArg List.length e
    omega
-- what matches is no longer than the text
theorem emF_sum {t : List Nat} {ep : Nat} : ∀ {ws : List (List Nat)} {sp : Nat}, sp ≤ ep → emF t ep ws sp = true → sp + (ws.map List.length).sum ≤ ep
  | [], sp, h, _ => by simp; exact h
  | w :: r, sp, h, he => by
    unfold emF at he
    cases hf : fnd t w sp ep with
    | none => rw [hf] at he; cases he
    | some p =>
      rw [hf] at he
      obtain ⟨h1, h2, _⟩ := fnd_le hf
      have := emF_sum (ws := r) (sp := p + w.length) h2 he
      rw [List.map_cons, List.sum_cons]; omega
theorem em3_sum {t : List Nat} {ep sp : Nat} {ws : List (List Nat)} (h : em3 t ws sp ep = true) : sp + (ws.map List.length).sum ≤ ep := by
  unfold em3 at h
  split at h
  · cases h
  · exact emF_sum (by omega) h
theorem sum_last : ∀ (ws : List (List Nat)), ((ws.dropLast).map List.length).sum + (ws.getLastD []).length = (ws.map List.length).sum
  | [] => rfl
  | [w] => by simp
  | w :: v :: r => by
    have ih := sum_last (v :: r)
    rw [List.dropLast_cons_cons, List.map_cons, List.sum_cons, List.map_cons, List.sum_cons]
    have e : (w :: v :: r).getLastD [] = (v :: r).getLastD [] := rfl
    rw [e]; omega
theorem em2_sum {t : List Nat} {sp : Nat} {ws : List (List Nat)} (h : em2 t ws sp = true) : sp + (ws.map List.length).sum ≤ t.length := by
  unfold em2 at h
  split at h
  · exact em3_sum h
  · split at h
    · rename_i he
      have := em3_sum h
      have h2 := sum_last ws
      unfold ewith at he
      rw [Bool.and_eq_true, decide_eq_true_eq] at he
      omega
    · cases h
theorem em_sum {p q : List Nat} {r : List (List Nat)} {t : List Nat} (hf : ∀ x ∈ p :: q :: r, 46 ∉ x) (h : em (glue dots (p :: q :: r)) t = true) : ((p :: q :: r).map List.length).sum ≤ t.length := by
  unfold em at h
  rw [hasd_glue, if_pos rfl, spl_glue p q r hf] at h
  show _ ≤ _
  split at h
  · have := em2_sum h; omega
  · split at h
    · have h3 := em2_sum h
      rw [List.map_cons, List.sum_cons]
      exact h3
    · cases h
-- pieces end to end match
theorem emF_flat {t : List Nat} {ep : Nat} : ∀ {ws : List (List Nat)} {sp : Nat} {rest : List Nat}, t.drop sp = ws.flatten ++ rest → sp + (ws.map List.length).sum ≤ ep → emF t ep ws sp = true
  | [], _, _, _, _ => rfl
  | w :: r, sp, rest, h, hl => by
    rw [List.map_cons, List.sum_cons] at hl
    unfold emF
    rw [fnd_here (by omega) (by unfold occ; rw [h, List.flatten_cons, List.append_assoc, List.take_left]; simp)]
    refine emF_flat (rest := rest) ?_ (by omega)
    rw [← List.drop_drop, h, List.flatten_cons, List.append_assoc, List.drop_left]
theorem em_flat {p q : List Nat} {r : List (List Nat)} (hf : ∀ x ∈ p :: q :: r, 46 ∉ x) (hp : p ≠ []) (hl : ((q :: r).getLastD []) ≠ []) : em (glue dots (p :: q :: r)) (p :: q :: r).flatten = true := by
  have hpl : p.length ≠ 0 := fun z => hp (List.length_eq_zero_iff.mp z)
  have hll : ((q :: r).getLastD []).length ≠ 0 := fun z => hl (List.length_eq_zero_iff.mp z)
  have hlast : (q :: r).dropLast.flatten ++ (q :: r).getLastD [] = (q :: r).flatten := by
    have e : (q :: r).getLastD [] = (q :: r).getLast (by simp) := by rw [List.getLastD_eq_getLast?, List.getLast?_eq_some_getLast (by simp)]; rfl
    rw [e]
    conv => rhs; rw [← List.dropLast_concat_getLast (l := q :: r) (by simp)]
    rw [List.flatten_append]; simp
  have hs := sum_last (q :: r)
  unfold em
  rw [hasd_glue, if_pos rfl, spl_glue p q r hf]
  show (if p.length = 0 then _ else if swith _ p = true then em2 _ (q :: r) p.length else false) = true
  rw [if_neg hpl, if_pos (by unfold swith; rw [List.flatten_cons, List.take_left]; simp)]
  unfold em2
  rw [if_neg hll]
  have hfl : (p :: q :: r).flatten.length = p.length + ((q :: r).map List.length).sum := by rw [List.flatten_cons, List.length_append, List.length_flatten]
  rw [if_pos]
  · unfold em3
    rw [if_neg (by omega)]
    exact emF_flat (rest := (q :: r).getLastD []) (by rw [List.flatten_cons, List.drop_left, hlast]) (by omega)
  · unfold ewith
    rw [Bool.and_eq_true, decide_eq_true_eq]
    refine ⟨by omega, ?_⟩
    rw [beq_iff_eq, List.flatten_cons, ← hlast, ← List.append_assoc]
    have : (p ++ (q :: r).dropLast.flatten ++ (q :: r).getLastD []).length - ((q :: r).getLastD []).length = (p ++ (q :: r).dropLast.flatten).length := by rw [List.length_append (as := p ++ _)]; omega
    rw [this, List.drop_left]
end Mine
end
section
open PySem PySem.W PyProof.Rows PySem.Calls PySem.SeqAt
set_option maxRecDepth 10000
namespace Mine
-- the chunks of a size
noncomputable def ckM (n s : Nat) : Nat := (n + s - 1) / s
noncomputable def ck (s : Nat) (t : List Nat) : List (List Nat) := (List.range (ckM t.length s)).map fun i => (t.drop (i * s)).take s
theorem ckM_one {n s : Nat} (h0 : 1 ≤ n) (h : n ≤ s) : ckM n s = 1 := by
  unfold ckM
  rw [Nat.div_eq_of_lt_le] <;> omega
theorem ckM_more {n s : Nat} (h1 : 1 ≤ s) (h : s < n) : ckM n s = ckM (n - s) s + 1 := by
  unfold ckM
  rw [show n + s - 1 = (n - s + s - 1) + s by omega, Nat.add_div_right _ (by omega)]
theorem ck_one {s : Nat} {t : List Nat} (h0 : t ≠ []) (h : t.length ≤ s) : ck s t = [t] := by
  have hl := List.length_pos_iff.mpr h0
  unfold ck
  rw [ckM_one (by omega) h]
  show [(t.drop (0 * s)).take s] = [t]
  rw [Nat.zero_mul, List.drop_zero, List.take_of_length_le h]
theorem ck_more {s : Nat} {t : List Nat} (h1 : 1 ≤ s) (h : s < t.length) : ck s t = t.take s :: ck s (t.drop s) := by
  unfold ck
  rw [ckM_more h1 h, List.range_succ_eq_map, List.map_cons, List.map_map, Nat.zero_mul, List.drop_zero, List.length_drop]
  congr 1
  refine List.map_congr_left fun i _ => ?_
  show (t.drop ((i + 1) * s)).take s = ((t.drop s).drop (i * s)).take s
  rw [List.drop_drop, Nat.add_mul, Nat.one_mul, Nat.add_comm s]
-- induction over the chunks
theorem ck_ind {s : Nat} (h1 : 1 ≤ s) {P : List Nat → Prop} (h0 : ∀ t, t ≠ [] → t.length ≤ s → P t) (h : ∀ t : List Nat, s < t.length → P (t.drop s) → P t) : ∀ t : List Nat, t ≠ [] → P t := by
  have key : ∀ n, ∀ t : List Nat, t.length = n → t ≠ [] → P t := by
    intro n
    induction n using Nat.strongRecOn with
    | ind n ih =>
      intro t hn ht
      by_cases hs : t.length ≤ s
      · exact h0 t ht hs
      · refine h t (by omega) (ih (t.drop s).length (by rw [List.length_drop]; omega) _ rfl fun z => ?_)
        have := congrArg List.length z
        rw [List.length_drop] at this
        simp at this; omega
  exact fun t ht => key _ t rfl ht
theorem pcs_ck {items : Nat → Option Int} {s : Nat} (h1 : 1 ≤ s) : ∀ t : List Nat, t ≠ [] → ∀ i f, (∀ j, i ≤ j → items j = some (s : Int)) → t.length < f → pcs items i t f = ck s t := by
  refine ck_ind h1 (fun t h0 hs i f hi hf => ?_) (fun t hs ih i f hi hf => ?_)
  · cases f with
    | zero => omega
    | succ f =>
      unfold pcs
      rw [hi i (Nat.le_refl _)]
      dsimp only
      rw [Int.toNat_natCast, List.drop_of_length_le hs, if_pos rfl, List.take_of_length_le hs, ck_one h0 hs]
  · cases f with
    | zero => omega
    | succ f =>
      have hne : t.drop s ≠ [] := fun z => by
        have := congrArg List.length z
        rw [List.length_drop] at this
        simp at this; omega
      unfold pcs
      rw [hi i (Nat.le_refl _)]
      dsimp only
      rw [Int.toNat_natCast, if_neg hne, ck_more h1 hs, ih (i + 1) f (fun j hj => hi j (by omega)) (by rw [List.length_drop]; omega)]
theorem ck_flat {s : Nat} (h1 : 1 ≤ s) : ∀ t : List Nat, t ≠ [] → (ck s t).flatten = t := by
  refine ck_ind h1 (fun t h0 hs => ?_) (fun t hs ih => ?_)
  · rw [ck_one h0 hs]; simp
  · rw [ck_more h1 hs, List.flatten_cons, ih, List.take_append_drop]
theorem ck_ne {s : Nat} (h1 : 1 ≤ s) : ∀ t : List Nat, t ≠ [] → ∀ x ∈ ck s t, x ≠ [] := by
  refine ck_ind h1 (fun t h0 hs => ?_) (fun t hs ih => ?_)
  · rw [ck_one h0 hs]
    intro x hx
    rw [List.mem_singleton] at hx; subst hx; exact h0
  · rw [ck_more h1 hs]
    intro x hx
    rcases List.mem_cons.mp hx with rfl | hx
    · intro z
      have := congrArg List.length z
      rw [List.length_take, List.length_nil] at this
      omega
    · exact ih x hx
theorem ck_mem {s : Nat} {t : List Nat} {x : List Nat} (hx : x ∈ ck s t) : ∀ y ∈ x, y ∈ t := fun y hy => by
  unfold ck at hx
  obtain ⟨i, _, rfl⟩ := List.mem_map.mp hx
  exact List.mem_of_mem_drop (List.mem_of_mem_take hy)
theorem ck_len (s : Nat) (t : List Nat) : (ck s t).length = ckM t.length s := by unfold ck; simp
theorem ckM_le {n s : Nat} (h1 : 1 ≤ s) : ckM n s ≤ n := by
  unfold ckM
  rw [Nat.div_le_iff_le_mul_add_pred h1]
  have : n ≤ s * n := Nat.le_mul_of_pos_left _ h1
  omega
theorem ckM_two {n s : Nat} (h1 : 1 ≤ s) (h : s < n) : 2 ≤ ckM n s := by
  rw [ckM_more h1 h]
  have : 1 ≤ ckM (n - s) s := by
    unfold ckM
    rw [Nat.le_div_iff_mul_le h1]; omega
  omega
theorem rangeSize_pos {a n s : Nat} (h1 : 1 ≤ s) (h : a < n) : (Builtin.Range.rangeSize (a : Int) n s).toNat = ckM (n - a) s := by
  unfold Builtin.Range.rangeSize ckM
  rw [if_pos (by omega), if_pos (by omega)]
  have e : ((n : Int) - a - 1) / (s : Int) + 1 = (((n - a - 1) / s + 1 : Nat) : Int) := by
    rw [Int.natCast_add, Int.natCast_ediv]
    congr 2
    omega
  rw [e, Int.toNat_natCast, show n - a + s - 1 = (n - a - 1) + s by omega, Nat.add_div_right _ (by omega)]
theorem sl_nat {t : List Nat} {a s : Nat} : sl (some (a : Int)) (some ((a : Int) + s)) t = (t.drop a).take s := by
  unfold sl
  show (t.drop (cl t.length a)).take (cl t.length ((a : Int) + s) - cl t.length a) = _
  have e1 : cl t.length (a : Int) = min a t.length := cl_nat _ _
  have e2 : cl t.length ((a : Int) + s) = min (a + s) t.length := cl_nat _ (a + s)
  rw [e1, e2]
  by_cases h : a ≤ t.length
  · rw [Nat.min_eq_left h]
    by_cases h2 : a + s ≤ t.length
    · rw [Nat.min_eq_left h2]; congr 1; omega
    · rw [Nat.min_eq_right (by omega), List.take_of_length_le (by rw [List.length_drop]; exact Nat.le_refl _), List.take_of_length_le (by rw [List.length_drop]; omega)]
  · rw [show min a t.length = t.length by omega, List.drop_of_length_le (Nat.le_refl _), List.drop_of_length_le (show t.length ≤ a by omega)]; simp
theorem range_ck {a n s : Nat} {t : List Nat} (h1 : 1 ≤ s) (h : a < n) (hn : t.length = n) :
    ((rangeD (a : Int) n s).map fun d => PyData.str (mk (sl (some (datI d)) (some (datI d + (s : Int))) t))) = txts (ck s (t.drop a)) := by
  unfold rangeD ck
  rw [rangeSize_pos h1 h]
  show List.map _ (List.map _ _) = List.map _ (List.map _ _)
  rw [List.map_map, List.map_map, List.length_drop, hn]
  refine List.map_congr_left fun i _ => ?_
  show PyData.str (mk (sl (some ((a : Int) + (i : Int) * s)) (some ((a : Int) + (i : Int) * s + s)) t)) = PyData.str (mk (((t.drop a).drop (i * s)).take s))
  have e : (a : Int) + (i : Int) * s = ((a + i * s : Nat) : Int) := by rw [Int.natCast_add, Int.natCast_mul]
  rw [e, sl_nat, List.drop_drop]
-- comparison sign by sign
noncomputable def cmpL : List Nat → List Nat → Int
  | [], _ => 0
  | _ :: _, [] => 0
  | x :: a, y :: b => if x < y then -1 else if y < x then 1 else cmpL a b
theorem cmpL_cons (x y : Nat) (a b : List Nat) : cmpL (x :: a) (y :: b) = if x < y then -1 else if y < x then 1 else cmpL a b := rfl
theorem cmp3_eq : ∀ {a b : List Nat}, a.length = b.length → cmp3 a b = cmpL a b
  | [], [], _ => rfl
  | x :: a, y :: b, h => by
    have ih := cmp3_eq (a := a) (b := b) (by simpa using h)
    unfold cmpL
    rw [← ih]
    unfold cmp3
    simp only [List.cons_lt_cons_iff]
    by_cases h1 : x < y
    · rw [if_pos h1, decide_eq_false (by omega), decide_eq_true (.inl h1)]; rfl
    · rw [if_neg h1]
      by_cases h2 : y < x
      · rw [if_pos h2, decide_eq_true (.inl h2), decide_eq_false (by omega)]; rfl
      · rw [if_neg h2]
        have e : x = y := by omega
        subst e
        simp
theorem cmpL_app : ∀ {a b a' b' : List Nat}, a.length = b.length → cmpL (a ++ a') (b ++ b') = if cmpL a b = 0 then cmpL a' b' else cmpL a b
  | [], [], a', b', _ => by simp [cmpL]
  | x :: a, y :: b, a', b', h => by
    have ih := cmpL_app (a := a) (b := b) (a' := a') (b' := b') (by simpa using h)
    rw [List.cons_append, List.cons_append, cmpL_cons, cmpL_cons]
    by_cases h1 : x < y
    · rw [if_pos h1, if_pos h1, if_neg (by decide)]
    · rw [if_neg h1, if_neg h1]
      by_cases h2 : y < x
      · rw [if_pos h2, if_pos h2, if_neg (by decide)]
      · rw [if_neg h2, if_neg h2]; exact ih
theorem numF_app (a b : List Nat) : numF (a ++ b) = numF a * 16 ^ b.length + numF b := by
  have key : ∀ (b : List Nat) (n : Nat), b.foldl (fun n f => 16 * n + f) n = n * 16 ^ b.length + numF b := by
    refine snoc_ind (fun n => by simp [numF]) fun l x ih n => ?_
    rw [List.foldl_append, ih, numF_snoc, List.length_append, List.length_singleton, Nat.pow_succ]
    show 16 * _ + x = _
    rw [Nat.mul_add, ← Nat.mul_assoc n, Nat.mul_comm _ 16]; omega
  unfold numF
  rw [List.foldl_append]
  exact key b _
theorem cmpL_num : ∀ {a b : List Nat}, a.length = b.length → (∀ x ∈ a, x < 16) → (∀ x ∈ b, x < 16) → b2i (decide (numF b < numF a)) - b2i (decide (numF a < numF b)) = cmpL a b
  | [], [], _, _, _ => rfl
  | x :: a, y :: b, h, ha, hb => by
    have hl : a.length = b.length := by simpa using h
    have ha' : ∀ z ∈ a, z < 16 := fun z m => ha z (.tail _ m)
    have hb' : ∀ z ∈ b, z < 16 := fun z m => hb z (.tail _ m)
    have ih := cmpL_num hl ha' hb'
    have e1 : numF (x :: a) = x * 16 ^ a.length + numF a := by rw [show x :: a = [x] ++ a from rfl, numF_app]; simp [numF]
    have e2 : numF (y :: b) = y * 16 ^ a.length + numF b := by rw [show y :: b = [y] ++ b from rfl, numF_app, hl]; simp [numF]
    have l1 := numF_lt a ha'
    have l2 := numF_lt b hb'
    rw [← hl] at l2
    unfold cmpL
    rw [← ih, e1, e2]
    generalize 16 ^ a.length = M at *
    by_cases h1 : x < y
    · have : (x + 1) * M ≤ y * M := Nat.mul_le_mul_right _ h1
      rw [Nat.add_mul, Nat.one_mul] at this
      rw [if_pos h1, decide_eq_false (by omega), decide_eq_true (by omega)]; rfl
    · rw [if_neg h1]
      by_cases h2 : y < x
      · have : (y + 1) * M ≤ x * M := Nat.mul_le_mul_right _ h2
        rw [Nat.add_mul, Nat.one_mul] at this
        rw [if_pos h2, decide_eq_true (by omega), decide_eq_false (by omega)]; rfl
      · rw [if_neg h2]
        have e : x = y := by omega
        subst e
        simp
theorem cmpL_map : ∀ (a b : List Nat), cmpL (a.map fun f => 97 + f) (b.map fun f => 97 + f) = cmpL a b
  | [], _ => rfl
  | _ :: _, [] => rfl
  | x :: a, y :: b => by
    rw [List.map_cons, List.map_cons]
    unfold cmpL
    rw [cmpL_map a b]
    simp
-- the first sign that is not 0
noncomputable def fnz (T : List Int) : Int := (T.filter fun x => x != 0).headD 0
theorem fnz_cons (c : Int) (T : List Int) : fnz (c :: T) = if c = 0 then fnz T else c := by
  unfold fnz
  by_cases h : c = 0
  · subst h; rfl
  · rw [if_neg h, List.filter_cons_of_pos (by simpa using h)]; rfl
theorem sgs_cons (p0 p1 : List Nat) (r : List (List Nat)) : sgs (p0 :: p1 :: r) = cmp3 p1 (p0.take p1.length) :: sgs (p1 :: r) := by
  unfold sgs
  rw [show (p0 :: p1 :: r).length - 1 = (p1 :: r).length - 1 + 1 by simp, List.range_succ_eq_map, List.map_cons, List.map_map]
  rfl
theorem ck_head {s : Nat} {t : List Nat} (h1 : 1 ≤ s) (h0 : t ≠ []) : ∃ r, ck s t = t.take s :: r := by
  by_cases h : t.length ≤ s
  · exact ⟨[], by rw [ck_one h0 h, List.take_of_length_le h]⟩
  · exact ⟨_, ck_more h1 (by omega)⟩
theorem sgs_ck {s : Nat} (h1 : 1 ≤ s) : ∀ t : List Nat, t ≠ [] → fnz (sgs (ck s t)) = cmpL (t.drop s) (t.take (t.length - s)) := by
  refine ck_ind h1 (fun t h0 hs => ?_) (fun t hs ih => ?_)
  · rw [ck_one h0 hs, List.drop_of_length_le hs]; rfl
  · have hne : t.drop s ≠ [] := fun z => by
      have := congrArg List.length z
      rw [List.length_drop] at this
      simp at this; omega
    have hul : (t.drop s).length = t.length - s := List.length_drop ..
    obtain ⟨r, hr⟩ := ck_head h1 hne
    rw [ck_more h1 hs]
    rw [hr] at ih ⊢
    rw [sgs_cons, fnz_cons, ih, List.take_take, List.length_take, hul]
    have hm : ((t.drop s).take s).length = (t.take (min (min s (t.length - s)) s)).length := by rw [List.length_take, List.length_take, hul]; omega
    rw [cmp3_eq hm]
    conv => rhs; rw [← List.take_append_drop s (t.drop s)]
    have e : t.take (t.length - s) = t.take (min (min s (t.length - s)) s) ++ (t.drop s).take (t.length - s - s) := by
      by_cases h2 : t.length - s ≤ s
      · rw [show t.length - s - s = 0 by omega, List.take_zero, List.append_nil]
        congr 1; omega
      · rw [show min (min s (t.length - s)) s = s by omega]
        conv => lhs; rw [show t.length - s = s + (t.length - s - s) by omega, List.take_add]
    rw [e, cmpL_app hm]
end Mine
end
section
open PySem PySem.W PyProof.Rows PySem.Calls PySem.SeqAt
set_option maxRecDepth 10000
namespace Mine
theorem txt_len (fs : List Nat) : (txt fs).length = fs.length := by simp
theorem txt_no (fs : List Nat) : 46 ∉ txt fs := fun h => by
  obtain ⟨f, _, e⟩ := List.mem_map.mp h
  omega
theorem txt_ne {fs : List Nat} (g : Good fs) : txt fs ≠ [] := fun z => by
  have := congrArg List.length z
  rw [txt_len] at this
  have h2 := g.lo
  simp at this
  rw [this] at h2; simp at h2
theorem qk_eq {fs : List Nat} (h : ∀ f ∈ fs, f < 16) {k : Nat} (hk : k ≤ fs.length) : qk fs k = numF (fs.take k) := by
  unfold qk
  have e := numF_app (fs.take k) (fs.drop k)
  rw [List.take_append_drop, List.length_drop] at e
  have h2 := numF_lt (fs.drop k) fun f m => h f (List.mem_of_mem_drop m)
  rw [List.length_drop] at h2
  rw [e, Nat.add_comm, Nat.add_mul_div_right _ _ (Nat.pow_pos (by decide)), Nat.div_eq_of_lt h2, Nat.zero_add]
theorem rk_eq {fs : List Nat} (h : ∀ f ∈ fs, f < 16) {k : Nat} (hk : k ≤ fs.length) : rk fs k = numF (fs.drop (fs.length - k)) := by
  unfold rk
  have e := numF_app (fs.take (fs.length - k)) (fs.drop (fs.length - k))
  have hl : (fs.drop (fs.length - k)).length = k := by rw [List.length_drop]; omega
  rw [List.take_append_drop, hl] at e
  have h2 := numF_lt (fs.drop (fs.length - k)) fun f m => h f (List.mem_of_mem_drop m)
  rw [hl] at h2
  rw [e, Nat.add_comm, Nat.add_mul_mod_self_right, Nat.mod_eq_of_lt h2]
theorem cmpL_zero : ∀ {a b : List Nat}, a.length = b.length → cmpL a b = 0 → a = b
  | [], [], _, _ => rfl
  | x :: a, y :: b, h, e => by
    rw [cmpL_cons] at e
    split at e
    · cases e
    · split at e
      · cases e
      · rw [cmpL_zero (by simpa using h) e, show x = y by omega]
theorem numF_inj {a b : List Nat} (h : a.length = b.length) (ha : ∀ x ∈ a, x < 16) (hb : ∀ x ∈ b, x < 16) (e : numF a = numF b) : a = b := by
  refine cmpL_zero h ?_
  rw [← cmpL_num h ha hb, e]; simp
theorem map97_inj {a b : List Nat} : txt a = txt b ↔ a = b := List.map_inj_right (fun x y h => by omega)
theorem laps_iff {fs : List Nat} (g : Good fs) {k : Nat} (h1 : 1 ≤ k) (h2 : k < fs.length) : k ∈ lapsTo fs (fs.length - 1) ↔ (txt fs).drop (fs.length - k) = (txt fs).take k := by
  unfold lapsTo
  rw [List.mem_filter, List.mem_range, Bool.and_eq_true, decide_eq_true_eq, beq_iff_eq, rk_eq g.lt (by omega), qk_eq g.lt (by omega), ← List.map_drop, ← List.map_take]
  have hd : ∀ x ∈ fs.drop (fs.length - k), x < 16 := fun f m => g.lt f (List.mem_of_mem_drop m)
  have ht : ∀ x ∈ fs.take k, x < 16 := fun f m => g.lt f (List.mem_of_mem_take m)
  have hl : (fs.drop (fs.length - k)).length = (fs.take k).length := by rw [List.length_drop, List.length_take]; omega
  refine Iff.trans ?_ map97_inj.symm
  constructor
  · rintro ⟨_, _, e⟩
    exact numF_inj hl hd ht e
  · intro e
    exact ⟨by omega, h1, by rw [e]⟩
theorem text_holds {fs : List Nat} (g : Good fs) : HoldsF (txt fs) (lapsTo fs (fs.length - 1)) := by
  refine holds_of_borders (txt_no fs) fun k h1 h2 => ?_
  rw [txt_len] at h2 ⊢
  exact laps_iff g h1 h2
theorem lf_p1 {fs : List Nat} (g : Good fs) : txts (pcs (gnth none [1, 2, 0, 3]) 0 (txt fs) ((txt fs).length + 1)) = .str (mk ((txt fs).take 1)) :: (rangeD 1 fs.length 2).map fun d => .str (mk (sl (some (datI d)) (some (datI d + 2)) (txt fs))) := by
  have hl := txt_len fs
  have hlo := g.lo
  have hne : (txt fs).drop 1 ≠ [] := fun z => by
    have := congrArg List.length z
    rw [List.length_drop, hl, List.length_nil] at this
    omega
  have e1 : pcs (gnth none [1, 2, 0, 3]) 0 (txt fs) ((txt fs).length + 1) = (txt fs).take 1 :: ck 2 ((txt fs).drop 1) := by
    unfold pcs
    show (txt fs).take 1 :: (if (txt fs).drop 1 = [] then [] else pcs (gnth none [1, 2, 0, 3]) 1 ((txt fs).drop 1) (txt fs).length) = _
    rw [if_neg hne, pcs_ck (s := 2) (by decide) _ hne 1 _ (fun j hj => ?_) (by rw [List.length_drop]; omega)]
    match j, hj with
    | 1, _ => rfl
    | n + 2, _ => rfl
  rw [e1]
  show PyData.str _ :: txts (ck 2 ((txt fs).drop 1)) = _
  congr 1
  exact (range_ck (a := 1) (s := 2) (by decide) (by omega) hl).symm
theorem lf_p2 {fs : List Nat} (g : Good fs) : pcs (gnth none [1, 2, 127, 3]) 0 (txt fs) ((txt fs).length + 1) = [(txt fs).take 1, sl (some 1) (some 3) (txt fs)] := by
  have hl := txt_len fs
  have hlo := g.lo
  have hne : (txt fs).drop 1 ≠ [] := fun z => by
    have := congrArg List.length z
    rw [List.length_drop, hl, List.length_nil] at this
    omega
  have e2 : sl (some 1) (some 3) (txt fs) = ((txt fs).drop 1).take 2 := sl_nat (a := 1) (s := 2)
  rw [e2, hl]
  obtain ⟨n, hn⟩ : ∃ n, fs.length = n + 2 := ⟨fs.length - 2, by omega⟩
  rw [hn]
  show (txt fs).take 1 :: (if (txt fs).drop 1 = [] then [] else ((txt fs).drop 1).take 2 :: (if ((txt fs).drop 1).drop 2 = [] then [] else pcs (gnth none [1, 2, 127, 3]) 2 (((txt fs).drop 1).drop 2) (n + 1))) = _
  rw [if_neg hne]
  have e3 : pcs (gnth none [1, 2, 127, 3]) 2 (((txt fs).drop 1).drop 2) (n + 1) = [] := rfl
  rw [e3]
  simp
theorem drop_last {l : List (List Nat)} (h : l ≠ []) : l.drop (l.length - 1) = [l.getLast h] := by
  have e := List.dropLast_concat_getLast h
  have hl : l.dropLast.length = l.length - 1 := List.length_dropLast ..
  conv => lhs; rw [← e]
  rw [List.length_append, List.length_singleton, Nat.add_sub_cancel, List.drop_left]
theorem lf_k {fs : List Nat} (g : Good fs) {k : Nat} (h1 : 1 ≤ k) (h2 : k < fs.length) : LK fs k := by
  have hl := txt_len fs
  have hlo := g.lo
  have hhi := g.hi
  have hne := txt_ne g
  have hs1 : 1 ≤ fs.length - k := by omega
  have epk : pk fs k = ck (fs.length - k) (txt fs) := pcs_ck hs1 _ hne 0 _ (fun j _ => gk_at (by omega) (by omega) j) (Nat.lt_succ_self _)
  have hflat := ck_flat hs1 (txt fs) hne
  have hnes := ck_ne hs1 (txt fs) hne
  have hlen := ck_len (fs.length - k) (txt fs)
  rw [hl] at hlen
  have two := ckM_two hs1 (show fs.length - k < fs.length by omega)
  have le := ckM_le (n := fs.length) hs1
  have hsum : ((ck (fs.length - k) (txt fs)).map List.length).sum = fs.length := by rw [← List.length_flatten, hflat, hl]
  have hno : ∀ x ∈ ck (fs.length - k) (txt fs), 46 ∉ x := fun x hx m => txt_no fs (ck_mem hx _ m)
  have hsg := sgs_ck hs1 (txt fs) hne
  refine ⟨?_, by rw [epk]; omega, by rw [epk]; omega, ?_, ?_, ?_⟩
  · rw [epk]
    exact (range_ck (a := 0) hs1 (by omega) hl).symm
  · rw [epk]
    refine hsg.trans ?_
    rw [hl, show fs.length - (fs.length - k) = k by omega, ← List.map_drop, ← List.map_take, cmpL_map, rk_eq g.lt (by omega), qk_eq g.lt (by omega)]
    exact (cmpL_num (by rw [List.length_drop, List.length_take]; omega) (fun f m => g.lt f (List.mem_of_mem_drop m)) (fun f m => g.lt f (List.mem_of_mem_take m))).symm
  · rw [epk]
    match hP : ck (fs.length - k) (txt fs) with
    | [] => rw [hP] at hlen; simp at hlen; omega
    | [p] => rw [hP] at hlen; simp at hlen; omega
    | p :: q :: r =>
      rw [hP] at hflat hnes hno
      conv => lhs; rw [← hflat]
      refine em_flat hno (hnes p (.head _)) (hnes _ (.tail _ ?_))
      rw [List.getLastD_eq_getLast?, List.getLast?_eq_some_getLast (by simp)]
      exact List.getLast_mem _
  · rw [epk]
    match hP : ck (fs.length - k) (txt fs) with
    | [] => rw [hP] at hlen; simp at hlen; omega
    | [p] => rw [hP] at hlen; simp at hlen; omega
    | p :: q :: r =>
      rw [hP] at hno hsum hnes
      have hd : (p :: q :: r).drop ((p :: q :: r).length - 1) = [(p :: q :: r).getLast (by simp)] := drop_last (by simp)
      have hlast := hnes _ (List.getLast_mem (l := p :: q :: r) (by simp))
      have hlast' := hno _ (List.getLast_mem (l := p :: q :: r) (by simp))
      rw [hd]
      generalize (p :: q :: r).getLast (by simp) = z at hlast hlast'
      have hzl : z.length ≠ 0 := fun e => hlast (List.length_eq_zero_iff.mp e)
      cases he : em (glue dots (p :: q :: r ++ [z])) (txt fs) with
      | false => rfl
      | true =>
        have := em_sum (p := p) (q := q) (r := r ++ [z]) (fun x hx => by
          have hx : x ∈ (p :: q :: r) ++ [z] := hx
          rcases List.mem_append.mp hx with hx | hx
          · exact hno x hx
          · rw [List.mem_singleton] at hx; subst hx; exact hlast') he
        have e : ((p :: q :: (r ++ [z])).map List.length).sum = ((p :: q :: r).map List.length).sum + z.length := by
          show (((p :: q :: r) ++ [z]).map List.length).sum = _
          rw [List.map_append, List.sum_append]; simp
        rw [e, hsum, hl] at this
        omega
end Mine
end
section
open PySem PySem.W PyProof.Rows PySem.Calls PySem.SeqAt
set_option maxRecDepth 10000
namespace Mine
-- the laps that a text of n letters can have
noncomputable def lapTab : List (List (List Nat)) := [
  [[]],
  [[]],
  [[], [1]],
  [[], [1], [1, 2]],
  [[], [1], [2], [1, 2, 3]],
  [[], [1], [2], [1, 2], [1, 3], [1, 2, 3, 4]],
  [[], [1], [2], [1, 2], [3], [1, 3], [2, 4], [1, 2, 3, 4, 5]],
  [[], [1], [2], [1, 2], [3], [1, 3], [1, 2, 3], [1, 4], [1, 3, 5], [1, 2, 3, 4, 5, 6]],
  [[], [1], [2], [1, 2], [3], [1, 3], [1, 2, 3], [4], [1, 4], [2, 5], [1, 2, 5], [2, 4, 6], [1, 2, 3, 4, 5, 6, 7]],
  [[], [1], [2], [1, 2], [3], [1, 3], [1, 2, 3], [4], [1, 4], [2, 4], [1, 2, 3, 4], [1, 5], [1, 2, 5], [3, 6], [1, 3, 6], [1, 3, 5, 7], [1, 2, 3, 4, 5, 6, 7, 8]],
  [[], [1], [2], [1, 2], [3], [1, 3], [1, 2, 3], [4], [1, 4], [2, 4], [1, 2, 3, 4], [5], [1, 5], [2, 5], [1, 2, 5], [1, 3, 5], [2, 6], [1, 2, 6], [1, 4, 7], [2, 4, 6, 8], [1, 2, 3, 4, 5, 6, 7, 8, 9]],
  [[], [1], [2], [1, 2], [3], [1, 3], [1, 2, 3], [4], [1, 4], [2, 4], [1, 2, 3, 4], [5], [1, 5], [2, 5], [1, 2, 5], [1, 3, 5], [1, 2, 3, 4, 5], [1, 6], [1, 2, 6], [1, 3, 6], [3, 7], [1, 3, 7], [1, 2, 3, 7], [2, 5, 8], [1, 2, 5, 8], [1, 3, 5, 7, 9], [1, 2, 3, 4, 5, 6, 7, 8, 9, 10]],
  [[], [1], [2], [1, 2], [3], [1, 3], [1, 2, 3], [4], [1, 4], [2, 4], [1, 2, 3, 4], [5], [1, 5], [2, 5], [1, 2, 5], [1, 3, 5], [1, 2, 3, 4, 5], [6], [1, 6], [2, 6], [1, 2, 6], [2, 7], [1, 2, 7], [1, 2, 3, 7], [4, 8], [1, 4, 8], [3, 6, 9], [1, 3, 6, 9], [2, 4, 6, 8, 10], [1, 2, 3, 4, 5, 6, 7, 8, 9, 10, 11]],
  [[], [1], [2], [1, 2], [3], [1, 3], [1, 2, 3], [4], [1, 4], [2, 4], [1, 2, 3, 4], [5], [1, 5], [2, 5], [1, 2, 5], [1, 3, 5], [1, 2, 3, 4, 5], [6], [1, 6], [2, 6], [1, 2, 6], [3, 6], [1, 3, 6], [2, 4, 6], [1, 2, 3, 4, 5, 6], [1, 7], [1, 2, 7], [1, 3, 7], [1, 2, 3, 7], [3, 8], [1, 3, 8], [1, 2, 3, 8], [1, 5, 9], [1, 2, 5, 9], [1, 4, 7, 10], [1, 3, 5, 7, 9, 11], [1, 2, 3, 4, 5, 6, 7, 8, 9, 10, 11, 12]]]
noncomputable def lapT (n : Nat) : List (List Nat) := lapTab.getD n []
noncomputable def lapOk (n m : Nat) (S : List Nat) : Bool := decide (m < n - m) || ((n - m == m || S.contains (m - (n - m))) && S.all fun s => !(decide (m - s < n - m) && (n - m) % (m - s) == 0))
noncomputable def tabOk : Bool := (List.range 14).all fun n => (lapT n).contains [] && (List.range n).all fun m => m == 0 || (lapT m).all fun S => !lapOk n m S || (lapT n).contains (S ++ [m])
theorem tab_ok : tabOk = true := by decide +kernel
theorem tab_nil {n : Nat} (h : n ≤ 13) : [] ∈ lapT n := by
  have := List.all_eq_true.mp tab_ok n (List.mem_range.mpr (by omega))
  rw [Bool.and_eq_true] at this
  exact List.contains_iff_mem.mp this.1
theorem tab_step {n m : Nat} (h : n ≤ 13) (h1 : 1 ≤ m) (h2 : m < n) {S : List Nat} (hS : S ∈ lapT m) (hok : lapOk n m S = true) : S ++ [m] ∈ lapT n := by
  have := List.all_eq_true.mp tab_ok n (List.mem_range.mpr (by omega))
  rw [Bool.and_eq_true] at this
  have := List.all_eq_true.mp this.2 m (List.mem_range.mpr h2)
  rw [Bool.or_eq_true, beq_iff_eq] at this
  rcases this with e | e
  · omega
  · have := List.all_eq_true.mp e S hS
    rw [hok] at this
    exact List.contains_iff_mem.mp (by simpa using this)
noncomputable abbrev Bd (t : List Nat) (k : Nat) : Prop := t.drop (t.length - k) = t.take k
noncomputable def lapsB (t : List Nat) : List Nat := (List.range t.length).filter fun k => decide (1 ≤ k) && (t.drop (t.length - k) == t.take k)
theorem lapsB_iff {t : List Nat} {k : Nat} : k ∈ lapsB t ↔ 1 ≤ k ∧ k < t.length ∧ Bd t k := by
  unfold lapsB
  rw [List.mem_filter, List.mem_range, Bool.and_eq_true, decide_eq_true_eq, beq_iff_eq]
  exact ⟨fun ⟨a, b, c⟩ => ⟨b, a, c⟩, fun ⟨a, b, c⟩ => ⟨b, a, c⟩⟩
theorem bd_iff {t : List Nat} {k : Nat} (h : k ≤ t.length) : Bd t k ↔ ∀ i, i < k → t[t.length - k + i]? = t[i]? := by
  constructor
  · intro e i hi
    have := congrArg (fun l => l[i]?) e
    rw [List.getElem?_drop, List.getElem?_take_of_lt hi] at this
    exact this
  · intro e
    apply List.ext_getElem?
    intro i
    rw [List.getElem?_drop]
    by_cases hi : i < k
    · rw [List.getElem?_take_of_lt hi, e i hi]
    · rw [List.getElem?_eq_none (by omega), List.getElem?_eq_none (by rw [List.length_take]; omega)]
theorem filter_last {q : Nat → Bool} {m : Nat} (hq : q m = true) : ∀ {n : Nat}, m < n → (∀ k, m < k → k < n → q k = false) → (List.range n).filter q = (List.range m).filter q ++ [m]
  | 0, h, _ => by omega
  | n + 1, h, hn => by
    rw [List.range_succ, List.filter_append]
    by_cases e : m = n
    · subst e
      rw [List.filter_cons_of_pos (by simpa using hq)]; rfl
    · rw [List.filter_cons_of_neg (by simpa using hn n (by omega) (by omega)), List.filter_nil, List.append_nil]
      exact filter_last hq (by omega) fun k a b => hn k a (by omega)
theorem max_of (q : Nat → Bool) : ∀ n, (∀ k, k < n → q k = false) ∨ ∃ m, m < n ∧ q m = true ∧ ∀ k, m < k → k < n → q k = false
  | 0 => .inl fun k h => by omega
  | n + 1 => by
    cases e : q n with
    | true => exact .inr ⟨n, by omega, e, fun k a b => by omega⟩
    | false =>
      rcases max_of q n with h | ⟨m, h1, h2, h3⟩
      · exact .inl fun k hk => by
          by_cases z : k = n
          · rw [z]; exact e
          · exact h k (by omega)
      · exact .inr ⟨m, by omega, h2, fun k a b => by
          by_cases z : k = n
          · rw [z]; exact e
          · exact h3 k a (by omega)⟩
theorem per_mod {t : List Nat} {p : Nat} (hp : 1 ≤ p) (h : ∀ i, i + p < t.length → t[i + p]? = t[i]?) : ∀ i, i < t.length → t[i]? = t[i % p]? := by
  intro i
  induction i using Nat.strongRecOn with
  | ind i ih =>
    intro hi
    by_cases hlt : i < p
    · rw [Nat.mod_eq_of_lt hlt]
    · have h1 := h (i - p) (by omega)
      rw [show i - p + p = i by omega] at h1
      rw [h1, ih (i - p) (by omega) (by omega)]
      congr 1
      conv => rhs; rw [show i = (i - p) + p by omega, Nat.add_mod_right]
theorem per_of_bd {t : List Nat} {m p : Nat} (h : Bd t m) (e : t.length = m + p) : ∀ i, i + p < t.length → t[i + p]? = t[i]? := fun i hi => by
  have := (bd_iff (by omega)).mp h i (by omega)
  rw [show t.length - m + i = i + p by omega] at this
  exact this
theorem bd_of_per {t : List Nat} {m p : Nat} (e : t.length = m + p) (h : ∀ i, i + p < t.length → t[i + p]? = t[i]?) : Bd t m := by
  rw [bd_iff (by omega)]
  intro i hi
  rw [show t.length - m + i = i + p by omega]
  exact h i (by omega)
theorem bd_sub {t : List Nat} {m k : Nat} (h : Bd t m) (hm : m ≤ t.length) (hk : k ≤ m) : (t.take m).drop (m - k) = (t.take m).take k ↔ Bd t k := by
  have h : t.drop (t.length - m) = t.take m := h
  unfold Bd
  rw [List.take_take, Nat.min_eq_left hk, ← h, List.drop_drop, show t.length - m + (m - k) = t.length - k by omega]
theorem bd_less {t : List Nat} {m p q : Nat} (h : Bd t m) (e : t.length = m + p) (hp : m = p + q) : Bd t q := by
  have hper := per_of_bd h e
  refine bd_of_per (p := p + p) (by omega) fun i hi => ?_
  rw [← Nat.add_assoc, hper (i + p) (by omega), hper i (by omega)]
theorem bd_div {t : List Nat} {m p s g q : Nat} (h : Bd t m) (e : t.length = m + p) (hs : Bd (t.take m) s) (em : m = s + g) (hpm : p ≤ m) (hg1 : 1 ≤ g) (hgp : g < p) (hd : g ∣ p) (eq : t.length = q + g) : Bd t q := by
  have hl : (t.take m).length = s + g := by rw [List.length_take]; omega
  have hmu := per_mod hg1 (per_of_bd hs hl)
  have hmt := per_mod (Nat.lt_of_le_of_lt (Nat.zero_le g) hgp) (per_of_bd h e)
  have key : ∀ i, i < t.length → t[i]? = t[i % g]? := fun i hi => by
    have lt : i % p < p := Nat.mod_lt _ (Nat.lt_of_le_of_lt (Nat.zero_le g) hgp)
    have lt2 : i % p < m := Nat.lt_of_lt_of_le lt hpm
    have a2 := hmu (i % p) (by rw [hl, ← em]; exact lt2)
    rw [List.getElem?_take_of_lt lt2, List.getElem?_take_of_lt (Nat.lt_of_le_of_lt (Nat.mod_le _ _) lt2)] at a2
    rw [hmt i hi, a2, Nat.mod_mod_of_dvd _ hd]
  refine bd_of_per eq fun i hi => ?_
  rw [key (i + g) hi, key i (Nat.lt_of_le_of_lt (Nat.le_add_right _ _) hi), Nat.add_mod_right]
theorem lapOk_of {t : List Nat} {n m : Nat} (hn : t.length = n) (h1 : 1 ≤ m) (h2 : m < n) (hbd : Bd t m) (hno : ∀ k, m < k → k < n → ¬ Bd t k) : lapOk n m (lapsB (t.take m)) = true := by
  have hul : (t.take m).length = m := by rw [List.length_take]; omega
  unfold lapOk
  by_cases hc : m < n - m
  · rw [decide_eq_true hc]; rfl
  rw [decide_eq_false hc, Bool.false_or, Bool.and_eq_true]
  constructor
  · by_cases hpm : n - m = m
    · rw [hpm]; simp
    · rw [Bool.or_eq_true, List.contains_iff_mem, lapsB_iff, hul]
      refine .inr ⟨by omega, by omega, ?_⟩
      unfold Bd
      rw [hul, bd_sub hbd (by omega) (Nat.sub_le _ _)]
      exact bd_less hbd (p := n - m) (by omega) (by omega)
  · rw [List.all_eq_true]
    intro s hs
    obtain ⟨hs1, hs2, hs3⟩ := lapsB_iff.mp hs
    rw [hul] at hs2
    rw [Bool.not_eq_true', Bool.and_eq_false_iff]
    by_cases hg : m - s < n - m
    · refine .inr (beq_eq_false_iff_ne.mpr fun hdiv => hno (n - (m - s)) (by omega) (by omega) ?_)
      exact bd_div hbd (p := n - m) (s := s) (g := m - s) (by omega) hs3 (by omega) (Nat.le_of_not_lt hc) (by omega) hg (Nat.dvd_of_mod_eq_zero hdiv) (by omega)
    · exact .inl (decide_eq_false hg)
-- the laps of any text stand in the table
theorem laps_tab : ∀ n, n ≤ 13 → ∀ t : List Nat, t.length = n → lapsB t ∈ lapT n := by
  intro n
  induction n using Nat.strongRecOn with
  | ind n ih =>
    intro hn t ht
    rcases max_of (fun k => decide (1 ≤ k) && (t.drop (t.length - k) == t.take k)) n with h | ⟨m, h1, h2, h3⟩
    · have e : lapsB t = [] := by
        unfold lapsB
        rw [List.filter_eq_nil_iff]
        intro k hk
        have := h k (by rw [← ht]; exact List.mem_range.mp hk)
        simp only [this]; decide
      rw [e]; exact tab_nil hn
    · have hm : 1 ≤ m ∧ Bd t m := by
        rw [Bool.and_eq_true, decide_eq_true_eq, beq_iff_eq] at h2
        exact h2
      have hno : ∀ k, m < k → k < n → ¬ Bd t k := fun k a b hb => by
        have := h3 k a b
        rw [decide_eq_true (show 1 ≤ k by omega), Bool.true_and, beq_eq_false_iff_ne] at this
        exact this hb
      have hml : m ≤ t.length := by omega
      have hul : (t.take m).length = m := by rw [List.length_take]; exact Nat.min_eq_left hml
      have eL : lapsB t = lapsB (t.take m) ++ [m] := by
        unfold lapsB
        rw [hul, filter_last (q := fun k => decide (1 ≤ k) && (t.drop (t.length - k) == t.take k)) (m := m) h2 (by omega) (by rw [ht] at h3 ⊢; exact h3)]
        congr 1
        refine List.filter_congr fun k hk => ?_
        have := bd_sub hm.2 hml (Nat.le_of_lt (List.mem_range.mp hk))
        rw [Bool.eq_iff_iff, Bool.and_eq_true, Bool.and_eq_true, beq_iff_eq, beq_iff_eq, this]
      rw [eL]
      exact tab_step hn hm.1 h1 (ih m h1 (by omega) _ hul) (lapOk_of ht hm.1 h1 hm.2 hno)
end Mine
end
section
open PySem PySem.W PyProof.Rows PySem.Calls PySem.SeqAt
set_option maxRecDepth 10000
namespace Mine
noncomputable def inT (w t : List Nat) : Bool := (fnd t w 0 t.length).isSome
theorem em_in {w t : List Nat} (h : 46 ∉ w) : em (dots ++ w ++ dots) t = inT w t := by
  have e : dots ++ w ++ dots = glue dots [[], w, []] := by
    show dots ++ w ++ dots = [] ++ dots ++ (w ++ dots ++ [])
    simp
  rw [e]
  unfold em
  rw [hasd_glue, if_pos rfl, spl_glue [] w [[]] (fun x hx => by
    simp only [List.mem_cons, List.not_mem_nil, or_false] at hx
    rcases hx with rfl | rfl | rfl
    · simp
    · exact h
    · simp)]
  show em2 t [[], w, []] 0 = _
  show em3 t [[], w, []] 0 t.length = _
  unfold em3
  rw [if_neg (by omega)]
  unfold emF
  rw [fnd_here (by simp) (occ_nil _ _)]
  show emF t t.length [w, []] 0 = _
  unfold emF inT
  cases hf : fnd t w 0 t.length with
  | none => rfl
  | some p =>
    obtain ⟨h1, h2, _⟩ := fnd_le hf
    show emF t t.length [[]] (p + w.length) = true
    unfold emF
    rw [fnd_here (by simpa using h2) (occ_nil _ _)]; rfl
theorem sl_inner {α : Type} (l : List α) : sl (some 1) (some (-1)) l = (l.drop 1).dropLast := by
  unfold sl
  show (l.drop (cl l.length 1)).take (cl l.length (-1) - cl l.length 1) = _
  rw [List.dropLast_eq_take, List.length_drop]
  have e1 : cl l.length 1 = min 1 l.length := cl_nat _ 1
  have e2 : cl l.length (-1) = l.length - 1 := cl_m1 _
  rw [e1, e2]
  by_cases h : 1 ≤ l.length
  · rw [Nat.min_eq_left h]
  · have : l = [] := List.length_eq_zero_iff.mp (by omega)
    subst this; rfl
noncomputable def laidX (front : List Nat) (step m wish : Nat) : List Nat :=
  let middle := front ++ List.replicate (step - m - 1) 105
  let whole := middle ++ [wish]
  if inT whole (((whole ++ whole).drop 1).dropLast) then middle ++ [if wish == 102 then 105 else 102] else whole
noncomputable def laidG : Nat → Nat → List Nat → Nat → List Nat
  | 0, _, _, _ => []
  | fuel + 1, size, laps, wish =>
    let L := laps.filter fun k => decide (k < size)
    match L.getLast? with
    | none => 102 :: List.replicate (size - 1) 105
    | some m =>
      if m ≥ size - m then ((List.replicate size ((laidG fuel (size - m + size % (size - m)) L wish).take (size - m))).flatten).take size
      else laidX (laidG fuel m L wish) (size - m) m wish ++ laidG fuel m L wish
theorem rep_eq {α : Type} (n : Nat) (l : List α) : rep (n : Int) l = (List.replicate n l).flatten := by unfold rep; rw [Int.toNat_natCast]
theorem laidX_mem {front : List Nat} {step m wish : Nat} (hw : wish = 102 ∨ wish = 105) (hf : ∀ c ∈ front, c = 102 ∨ c = 105) : ∀ c ∈ laidX front step m wish, c = 102 ∨ c = 105 := fun c hc => by
  unfold laidX at hc
  dsimp only at hc
  have key : ∀ z : Nat, (z = 102 ∨ z = 105) → c ∈ front ++ List.replicate (step - m - 1) 105 ++ [z] → c = 102 ∨ c = 105 := fun z hz h => by
    rcases List.mem_append.mp h with h | h
    · rcases List.mem_append.mp h with h | h
      · exact hf c h
      · exact .inr (List.mem_replicate.mp h).2
    · rw [List.mem_singleton] at h; subst h; exact hz
  split at hc
  · exact key _ (by split <;> simp) hc
  · exact key _ hw hc
theorem laidG_mem {wish : Nat} (hw : wish = 102 ∨ wish = 105) : ∀ (fuel size : Nat) (laps : List Nat), ∀ c ∈ laidG fuel size laps wish, c = 102 ∨ c = 105
  | 0, size, laps, c, hc => by cases hc
  | fuel + 1, size, laps, c, hc => by
    unfold laidG at hc
    dsimp only at hc
    split at hc
    · rcases List.mem_cons.mp hc with h | h
      · exact .inl h
      · exact .inr (List.mem_replicate.mp h).2
    · split at hc
      · obtain ⟨l, h1, h2⟩ := List.mem_flatten.mp (List.mem_of_mem_take hc)
        rw [(List.mem_replicate.mp h1).2] at h2
        exact laidG_mem hw fuel _ _ c (List.mem_of_mem_take h2)
      · rcases List.mem_append.mp hc with h | h
        · exact laidX_mem hw (laidG_mem hw fuel _ _) c h
        · exact laidG_mem hw fuel _ _ c h
theorem laidW_eq {front : List Nat} {step m wish : Nat} (hw : wish = 102 ∨ wish = 105) (hf : ∀ c ∈ front, c = 102 ∨ c = 105) : laidW front step m wish = laidX front step m wish := by
  unfold laidW laidX
  dsimp only
  rw [sl_inner, em_in]
  intro h
  rcases List.mem_append.mp h with h | h
  · rcases List.mem_append.mp h with h | h
    · rcases hf _ h with h | h <;> cases h
    · have := (List.mem_replicate.mp h).2; cases this
  · rw [List.mem_singleton] at h; omega
theorem laidF_eq {wish : Nat} (hw : wish = 102 ∨ wish = 105) : ∀ (fuel size : Nat) (laps : List Nat), laidF fuel size laps wish = laidG fuel size laps wish
  | 0, size, laps => rfl
  | fuel + 1, size, laps => by
    unfold laidF laidG
    dsimp only
    generalize (laps.filter fun k => decide (k < size)).getLast? = o
    cases o with
    | none => rfl
    | some m =>
      dsimp only
      rw [laidF_eq hw fuel, laidF_eq hw fuel, rep_eq, laidW_eq hw (laidG_mem hw fuel _ _)]
noncomputable def laidChk (n : Nat) : Bool := (lapT n).all fun L => lapsB (laidG 13 n L 102) == L && lapsB (laidG 13 n L 105) == L
theorem chk4 : laidChk 4 = true := by decide +kernel
theorem chk5 : laidChk 5 = true := by decide +kernel
theorem chk6 : laidChk 6 = true := by decide +kernel
theorem chk7 : laidChk 7 = true := by decide +kernel
theorem chk8 : laidChk 8 = true := by decide +kernel
theorem chk9 : laidChk 9 = true := by decide +kernel
theorem chk10 : laidChk 10 = true := by decide +kernel
theorem chk11 : laidChk 11 = true := by decide +kernel
theorem chk12 : laidChk 12 = true := by decide +kernel
theorem chk13 : laidChk 13 = true := by decide +kernel
theorem laid_chk {n : Nat} (h1 : 4 ≤ n) (h2 : n ≤ 13) : laidChk n = true := by
  match n, h1, h2 with
  | 4, _, _ => exact chk4
  | 5, _, _ => exact chk5
  | 6, _, _ => exact chk6
  | 7, _, _ => exact chk7
  | 8, _, _ => exact chk8
  | 9, _, _ => exact chk9
  | 10, _, _ => exact chk10
  | 11, _, _ => exact chk11
  | 12, _, _ => exact chk12
  | 13, _, _ => exact chk13
theorem laid_laps {t : List Nat} (h1 : 4 ≤ t.length) (h2 : t.length ≤ 13) {wish : Nat} (hw : wish = 102 ∨ wish = 105) : lapsB (laidF 13 t.length (lapsB t) wish) = lapsB t := by
  rw [laidF_eq hw]
  have := List.all_eq_true.mp (laid_chk h1 h2) _ (laps_tab _ h2 t rfl)
  rw [Bool.and_eq_true, beq_iff_eq, beq_iff_eq] at this
  rcases hw with rfl | rfl
  · exact this.1
  · exact this.2
-- a text's laps, as the law finds them
theorem lapsTo_B {fs : List Nat} (g : Good fs) : lapsTo fs (fs.length - 1) = lapsB (txt fs) := by
  have hlo := g.lo
  unfold lapsTo lapsB
  rw [txt_len, show fs.length - 1 + 1 = fs.length by omega]
  refine List.filter_congr fun k hk => ?_
  have hk := List.mem_range.mp hk
  rw [Bool.eq_iff_iff, Bool.and_eq_true, Bool.and_eq_true, decide_eq_true_eq, beq_iff_eq, beq_iff_eq]
  by_cases h1 : 1 ≤ k
  · have := laps_iff g h1 hk
    unfold lapsTo at this
    rw [List.mem_filter, List.mem_range, Bool.and_eq_true, decide_eq_true_eq, beq_iff_eq] at this
    constructor
    · rintro ⟨a, b⟩; exact ⟨a, this.mp ⟨by omega, a, b⟩⟩
    · rintro ⟨a, b⟩; exact ⟨a, (this.mpr b).2.2⟩
  · exact ⟨fun h => absurd h.1 h1, fun h => absurd h.1 h1⟩
theorem word_holds {fs : List Nat} (g : Good fs) {wish : Nat} (hw : wish = 102 ∨ wish = 105) : HoldsF (laidF 13 fs.length (lapsTo fs (fs.length - 1)) wish) (lapsTo fs (fs.length - 1)) := by
  have hl : (laidF 13 fs.length (lapsTo fs (fs.length - 1)) wish).length = fs.length := laidF_len 13 _ _ _ g.hi (Nat.le_trans (by decide) g.lo) (lapsTo_pos _ _)
  have hB := lapsTo_B g
  have hL := laid_laps (t := txt fs) (by rw [txt_len]; exact g.lo) (by rw [txt_len]; exact g.hi) hw
  rw [txt_len, ← hB] at hL
  refine holds_of_borders (fun h => ?_) fun k h1 h2 => ?_
  · rw [laidF_eq hw] at h
    rcases laidG_mem hw _ _ _ _ h with h | h <;> cases h
  · conv => lhs; rw [← hL, lapsB_iff]
    exact ⟨fun h => h.2.2, fun h => ⟨h1, h2, h⟩⟩
-- the word typed and prepared
theorem prepL_of {n : Nat} {l : List Nat} (h : prep n = .str (mk l)) : prepL n = l := by unfold prepL; rw [h]; rfl
theorem prep_f (s : Int) : prepL (signN 70 s) = [102] := prepL_of (prep_letter (f := 5) (by decide) s)
theorem prep_i (s : Int) : prepL (signN 73 s) = [105] := prepL_of (prep_letter (f := 8) (by decide) s)
theorem prep_102 : prepL 102 = [102] := prep_f 1
theorem prep_105 : prepL 105 = [105] := prep_i 1
theorem prep_ligs : prepL 64256 = [102, 102] ∧ prepL 64257 = [102, 105] ∧ prepL 64259 = [102, 102, 105] := by
  have := prep_lig
  rw [Bool.and_eq_true, Bool.and_eq_true] at this
  exact ⟨prepL_of (of_isStr this.1.1), prepL_of (of_isStr this.1.2), prepL_of (of_isStr (of_decide_eq_true this.2))⟩
theorem tyAt_map (w : List Nat) (sd : Int) : ∀ i, i ≤ 3 → (tyAt w sd i).1.flatMap prepL = w.flatMap prepL
  | 0, _ => rfl
  | i + 1, h => by
    have ih := tyAt_map w sd i (by omega)
    have e : (tyAt w sd (i + 1)).1 = if (tyAt w sd i).2.fmod 2 = 1 then replF (tyAt w sd i).1 (tyP i) [(tyC i).toNat] else (tyAt w sd i).1 := rfl
    rw [e]
    split
    · rw [repl_map, ih]
      obtain ⟨p1, p2, p3⟩ := prep_ligs
      match i, h with
      | 0, _ =>
        show prepL 102 ++ (prepL 102 ++ (prepL 105 ++ [])) = prepL 64259 ++ []
        rw [prep_102, prep_105, p3]; rfl
      | 1, _ =>
        show prepL 102 ++ (prepL 102 ++ []) = prepL 64256 ++ []
        rw [prep_102, p1]; rfl
      | 2, _ =>
        show prepL 102 ++ (prepL 105 ++ []) = prepL 64257 ++ []
        rw [prep_102, prep_105, p2]; rfl
    · exact ih
theorem typed_map {w : List Nat} (hw : ∀ c ∈ w, c = 102 ∨ c = 105) (sd : Int) : (typedF w sd).flatMap prepL = w := by
  unfold typedF
  rw [repl_map (y := [105]) (z := [signN 73 _]) (by show prepL 105 ++ [] = prepL (signN 73 _) ++ []; rw [prep_105, prep_i]), repl_map (y := [102]) (z := [signN 70 _]) (by show prepL 102 ++ [] = prepL (signN 70 _) ++ []; rw [prep_102, prep_f]), tyAt_map w sd 3 (Nat.le_refl _)]
  induction w with
  | nil => rfl
  | cons a r ih =>
    rw [List.flatMap_cons, ih fun c m => hw c (.tail _ m)]
    rcases hw a (.head _) with rfl | rfl
    · rw [prep_102]; rfl
    · rw [prep_105]; rfl
theorem lf_all {fs : List Nat} (g : Good fs) (s4 : Int) : LF fs s4 := by
  have hw : (if s4.fmod 2 = 0 then 102 else 105) = 102 ∨ (if s4.fmod 2 = 0 then 102 else 105) = (105 : Nat) := by split <;> simp
  refine ⟨lf_p1 g, lf_p2 g, fun k h1 h2 => lf_k g h1 h2, text_holds g, word_holds g hw, ?_⟩
  refine typed_map ?_ _
  rw [laidF_eq hw]
  exact laidG_mem hw _ _ _
end Mine
end
section
open PySem PySem.W PyProof.Rows PySem.Calls PySem.SeqAt
set_option maxRecDepth 100000
namespace Mine
open Hd
theorem dLaw_name : dLaw1.name = Str.ofString "law" := by unfold dLaw1; kernel_rfl
end Mine
theorem PySem.Challenge.cw_wr0039_01_holds : PySem.Challenge.rw_wr0039_01.Holds :=
  Mine.top1 fun Ω _ L ns hn => by rw [Mine.dLaw_name]; exact Mine.f_law L hn (Mine.lf_all (Mine.lawFs_good _) _)
end
