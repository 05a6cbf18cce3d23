import PyProof.Rows.All
import Wide.FinOn
import OpenK.AllK
import Wide.All
import PySem.Challenge.RW_uc0048_02
set_option Elab.async false
set_option linter.unusedVariables false
set_option maxRecDepth 100000
section
open PySem PyProof.Rows
namespace Mine
inductive SV where
 | none
 | bool (b : Bool)
 | int (i : Int)
 | str (s : Str)
 | type (n : String)
 | bi (id : String)
 | ref (a : Addr)
 | tup (vs : List SV)
 deriving Inhabited
def Imm (o : Obj) : Prop := (o.cls = .type "tuple" ∧ ∃ xs n, o.data = .seq xs n) ∨ (o.cls = .type "function" ∧ ∃ f, o.data = .func f) ∨ (o.cls = .type "code" ∧ ∃ vs, o.data = .fields vs)
def Keep (h h' : Heap) : Prop := ∀ b o, h.get? b = some o → Imm o → h'.get? b = some o
theorem notImm_dict {o : Obj} {es n} (h : o.data = .dict es n) : ¬ Imm o := by
 rintro (⟨_, xs, m, e⟩ | ⟨_, f, e⟩ | ⟨_, f, e⟩) <;> · rw [h] at e; cases e
theorem notImm_fields {o : Obj} {vs} (h : o.data = .fields vs) (hc : o.cls ≠ .type "code") : ¬ Imm o := by
 rintro (⟨_, xs, m, e⟩ | ⟨_, f, e⟩ | ⟨q, f, e⟩)
 ·rw [h] at e; cases e
 ·rw [h] at e; cases e
 ·exact hc q
theorem notImm_cell {o : Obj} {v} (h : o.data = .cell v) : ¬ Imm o := by
 rintro (⟨_, xs, m, e⟩ | ⟨_, f, e⟩ | ⟨_, f, e⟩) <;> · rw [h] at e; cases e
theorem notImm_ref {o : Obj} {C : Addr} (h : o.cls = .ref C) : ¬ Imm o := by
 rintro (⟨e, _⟩ | ⟨e, _⟩ | ⟨e, _⟩) <;> · rw [h] at e; cases e
theorem notImm_list {o : Obj} {xs n} (h : o.data = .seq xs n) (hc : o.cls = .type "list") : ¬ Imm o := by
 rintro (⟨e, _⟩ | ⟨_, f, e⟩ | ⟨_, f, e⟩)
 ·rw [hc] at e; injection e with e; exact absurd e (by decide)
 ·rw [h] at e; cases e
 ·rw [h] at e; cases e
theorem Keep.refl (h : Heap) : Keep h h := fun _ _ e _ => e
theorem Keep.trans {h h' h'' : Heap} (x : Keep h h') (y : Keep h' h'') : Keep h h'' := fun b o e i => y b o (x b o e i) i
mutual
def Rep (h : Heap) : SV → Value → Prop
 | .none, v => v = .none
 | .bool b, v => v = .bool b
 | .int i, v => ∃ t, v = .int i t
 | .str x, v => ∃ t, v = .str x t
 | .type n, v => v = .type n
 | .bi n, v => v = .builtin n
 | .ref a, v => v = .ref a
 | .tup xs, v => ∃ a vs, v = .ref a ∧ h.IsTuple a vs ∧ Reps h xs vs.toList
def Reps (h : Heap) : List SV → List Value → Prop
 | [], vs => vs = []
 | x :: xs, vs => ∃ v r, vs = v :: r ∧ Rep h x v ∧ Reps h xs r
end
theorem IsTuple.keep {h h' : Heap} (k : Keep h h') {a : Addr} {vs : Array Value} (x : h.IsTuple a vs) : h'.IsTuple a vs :=
 let ⟨o, ho, hc, n, r⟩ := x; ⟨o, k a o ho (.inl ⟨hc, _, n, r⟩), hc, n, r⟩
mutual
theorem Rep.keep {h h' : Heap} (k : Keep h h') : ∀ (x : SV) {v : Value}, Rep h x v → Rep h' x v
 | .none, v, r => by simpa only [Rep] using r
 | .bool b, v, r => by simpa only [Rep] using r
 | .int i, v, r => by simpa only [Rep] using r
 | .str x, v, r => by simpa only [Rep] using r
 | .type n, v, r => by simpa only [Rep] using r
 | .bi n, v, r => by simpa only [Rep] using r
 | .ref a, v, r => by simpa only [Rep] using r
 | .tup xs, v, r => by
   simp only [Rep] at r ⊢
   obtain ⟨a, vs, e, t, rs⟩ := r
   exact ⟨a, vs, e, IsTuple.keep k t, Reps.keep k xs rs⟩
theorem Reps.keep {h h' : Heap} (k : Keep h h') : ∀ (xs : List SV) {vs : List Value}, Reps h xs vs → Reps h' xs vs
 | [], vs, r => by simpa only [Reps] using r
 | x :: xs, vs, r => by
   simp only [Reps] at r ⊢
   obtain ⟨v, r', e, a, b⟩ := r
   exact ⟨v, r', e, Rep.keep k x a, Reps.keep k xs b⟩
end
theorem Reps.length {h : Heap} : ∀ {xs : List SV} {vs : List Value}, Reps h xs vs → vs.length = xs.length
 | [], vs, r => by simp only [Reps] at r; subst r; rfl
 | x :: xs, vs, r => by
   simp only [Reps] at r
   obtain ⟨v, r', e, a, b⟩ := r
   subst e; simp [b.length]
theorem Reps.get {h : Heap} : ∀ {xs : List SV} {vs : List Value}, Reps h xs vs → ∀ {i : Nat} {x : SV}, xs[i]? = some x → ∃ v, vs[i]? = some v ∧ Rep h x v
 | [], vs, r, i, x, hx => by simp at hx
 | y :: xs, vs, r, i, x, hx => by
   simp only [Reps] at r
   obtain ⟨v, r', e, a, b⟩ := r
   subst e
   cases i with
   | zero => simp at hx; subst hx; exact ⟨v, rfl, a⟩
   | succ i => simp at hx; obtain ⟨w, hw, q⟩ := b.get hx; exact ⟨w, by simpa using hw, q⟩
theorem Reps.append {h : Heap} : ∀ {xs ys : List SV} {vs ws : List Value}, Reps h xs vs → Reps h ys ws → Reps h (xs ++ ys) (vs ++ ws)
 | [], ys, vs, ws, r, q => by simp only [Reps] at r; subst r; exact q
 | x :: xs, ys, vs, ws, r, q => by
   simp only [Reps] at r
   obtain ⟨v, r', e, a, b⟩ := r
   subst e
   simp only [List.cons_append, Reps]
   exact ⟨v, r' ++ ws, rfl, a, b.append q⟩
theorem Reps.one {h : Heap} {x : SV} {v : Value} (r : Rep h x v) : Reps h [x] [v] := by
 simp only [Reps]; exact ⟨v, [], rfl, r, rfl⟩
theorem Reps.cons {h : Heap} {x : SV} {v : Value} {xs : List SV} {vs : List Value} (r : Rep h x v) (q : Reps h xs vs) : Reps h (x :: xs) (v :: vs) := by
 simp only [Reps]; exact ⟨v, vs, rfl, r, q⟩
theorem Reps.nil {h : Heap} : Reps h [] [] := by simp only [Reps]
theorem Reps.uncons {h : Heap} {x : SV} {xs : List SV} {vs : List Value} (r : Reps h (x :: xs) vs) : ∃ v ws, vs = v :: ws ∧ Rep h x v ∧ Reps h xs ws := by
 simpa only [Reps] using r
theorem Reps.set {h : Heap} {y : SV} {w : Value} (hy : Rep h y w) : ∀ {xs : List SV} {vs : List Value} (n : Nat), Reps h xs vs → Reps h (xs.set n y) (vs.set n w)
 | [], vs, n, r => by simp only [Reps] at r; subst r; simp [Reps]
 | x :: xs, vs, 0, r => by obtain ⟨v, ws, rfl, p, q⟩ := r.uncons; simpa using Reps.cons hy q
 | x :: xs, vs, n + 1, r => by obtain ⟨v, ws, rfl, p, q⟩ := r.uncons; simpa using Reps.cons p (q.set hy n)
theorem Reps.reverse {h : Heap} : ∀ {xs : List SV} {vs : List Value}, Reps h xs vs → Reps h xs.reverse vs.reverse
 | [], vs, r => by simp only [Reps] at r; subst r; simp [Reps]
 | x :: xs, vs, r => by obtain ⟨v, ws, rfl, p, q⟩ := r.uncons; simpa using q.reverse.append (Reps.one p)
structure Fact where
 keys : List Addr
 holds : Heap → Prop
 stable : ∀ h h', holds h → Keep h h' → (∀ k ∈ keys, ∀ o, h.get? k = some o → h'.get? k = some o) → holds h'
 own : ∀ h, holds h → ∀ k ∈ keys, ∃ o, h.get? k = some o ∧ ¬ Imm o
structure Tab where
 c : Addr
 P : Addr
 pos : Pos
 qual : Str
def CodeI (h : Heap) (cv : Value) (q : Str) : Prop := ∃ c' o vs t, cv = .ref c' ∧ h.get? c' = some o ∧ o.cls = .type "code" ∧ o.data = .fields vs ∧ vs[1]? = some (.str q t)
theorem CodeI.keep {h h' : Heap} {cv : Value} {q : Str} (x : CodeI h cv q) (k : Keep h h') : CodeI h' cv q :=
 let ⟨c', o, vs, t, e, ho, hc, hd, r⟩ := x; ⟨c', o, vs, t, e, k _ _ ho (.inr (.inr ⟨hc, vs, hd⟩)), hc, hd, r⟩
theorem CodeI.rec_ {h : Heap} {cv : Value} {q : Str} (x : CodeI h cv q) : h.CodeRec cv q :=
 let ⟨c', o, vs, t, e, ho, _, hd, r⟩ := x; ⟨c', o, vs, t, e, ho, hd, r⟩
def TabOk (t : Tab) (h : Heap) (keys : List Addr) : Prop := ∃ ps, h.get? t.P = some (PySem.W.tabObj ps) ∧ TriplesOk ps.toList ∧
 (codeAmong t.pos ps.toList = none ∨ ∃ c', codeAmong t.pos ps.toList = some (.ref c') ∧ CodeI h (.ref c') t.qual ∧ c' ∉ keys)
structure Cx where
 prog : Program
 w : World
 h0 : Heap
 os0 : OsState
 big : ∃ o, h0.get? cStatics = some o
 mg : Str → Option Value
 mb : Str → Option Value
 hg : ∀ h, OldK h0 h → h.Ns mainGlobals mg
 hb : ∀ h, OldK h0 h → h.Ns builtinsNs mb
 hbm : ∀ h, OldK h0 h → ∀ P, P ≠ mainGlobals → (∃ ps, h.get? P = some (PySem.W.tabObj ps)) → h.BuiltinsAt mg P
 tabs : List Tab
 tabHd : ∀ t ∈ tabs, ∀ h, OldK h0 h → PySem.W.CodeHd h t.c t.P
 tabAt : ∀ t ∈ tabs, (∃ ps, h0.TableAt t.c t.P ps) ∧ t.P ≠ cStatics ∧ t.P ≠ mainGlobals
 tabOne : ∀ t ∈ tabs, ∀ t' ∈ tabs, t.P = t'.P → t = t'
 base : Array GenState
def Cx.at (c : Cx) (B : Array GenState) : Cx := { c with base := B }
structure GOk (base gens : Array GenState) : Prop where
 all : AllBare gens
 ext : ∀ i, i < base.size → gens[i]? = base[i]?
theorem GOk.push {b g : Array GenState} (h : GOk b g) {y : GenState} (hy : y.bare = true) : GOk b (g.push y) := by
 refine ⟨h.all.push hy, fun i hi => ?_⟩
 have e := h.ext i hi
 rw [← e]
 have : i < g.size := by
  rw [Array.getElem?_eq_getElem hi] at e
  exact (Array.getElem?_eq_some_iff.mp e).1
 rw [Array.getElem?_push_lt this, Array.getElem?_eq_getElem this]
theorem GOk.size {b g : Array GenState} (h : GOk b g) : b.size ≤ g.size := by
 rcases Nat.lt_or_ge g.size b.size with q | q
 ·have e := h.ext g.size q
  rw [Array.getElem?_eq_none (Nat.le_refl _), Array.getElem?_eq_getElem q] at e
  cases e
 ·exact q
theorem GOk.trans {a b g : Array GenState} (h : GOk a b) (h' : GOk b g) : GOk a g :=
 ⟨h'.all, fun i hi => (h'.ext i (Nat.lt_of_lt_of_le hi h.size)).trans (h.ext i hi)⟩
abbrev Cx.M (c : Cx) : Model := model c.prog c.w
structure Kn (c : Cx) (K : List Fact) (s : Shared) : Prop where
 old : OldK c.h0 s.heap
 lim : s.heap.NoLimit
 os : s.os = c.os0
 bare : GOk c.base s.gens
 facts : ∀ f ∈ K, f.holds s.heap
 nodup : (K.flatMap Fact.keys).Nodup
 fresh : ∀ f ∈ K, ∀ k ∈ f.keys, c.h0.get? k = none
 tabs : ∀ t ∈ c.tabs, TabOk t s.heap (K.flatMap Fact.keys)
theorem OldK.none_ {h0 h : Heap} (o : OldK h0 h) {a : Addr} (e : h.get? a = none) : h0.get? a = none := by
 cases q : h0.get? a with
 | none => rfl
 | some x => obtain ⟨y, hy⟩ := o.there a x q; rw [e] at hy; cases hy
section
variable {c : Cx} {K K' : List Fact} {f f' : Fact} {s s' : Shared}
theorem TabOk.keys {t : Tab} {h : Heap} {ks ks' : List Addr} (x : TabOk t h ks) (hs : ∀ a ∈ ks', a ∈ ks) : TabOk t h ks' := by
 obtain ⟨ps, e, ho, h1 | ⟨c', h1, h2, h3⟩⟩ := x
 ·exact ⟨ps, e, ho, .inl h1⟩
 ·exact ⟨ps, e, ho, .inr ⟨c', h1, h2, fun hc => h3 (hs _ hc)⟩⟩
theorem TabOk.step {t : Tab} {h h' : Heap} {ks ks' : List Addr} (x : TabOk t h ks) (hP : t.P ∉ ks) (hb : ∀ b o, b ∉ ks → h.get? b = some o → h'.get? b = some o) (hs : ∀ a ∈ ks', a ∈ ks ∨ h.get? a = none) : TabOk t h' ks' := by
 obtain ⟨ps, e, ho, h1 | ⟨c', h1, h2, h3⟩⟩ := x
 ·exact ⟨ps, hb _ _ hP e, ho, .inl h1⟩
 ·refine ⟨ps, hb _ _ hP e, ho, .inr ⟨c', h1, ?_, fun hc => ?_⟩⟩
  ·obtain ⟨d, o, vs, tq, e, ho, r⟩ := h2
   cases e; exact ⟨_, o, vs, tq, rfl, hb _ _ h3 ho, r⟩
  ·rcases hs _ hc with q | q
   ·exact h3 q
   ·obtain ⟨d, o, vs, tq, e, ho, _⟩ := h2
    cases e; rw [q] at ho; cases ho
theorem Kn.perm (k : Kn c K s) (p : K.Perm K') : Kn c K' s :=
 ⟨k.old, k.lim, k.os, k.bare, fun f hf => k.facts f (p.mem_iff.mpr hf), (p.flatMap_right _).nodup_iff.mp k.nodup, fun f hf => k.fresh f (p.mem_iff.mpr hf), fun t ht => (k.tabs t ht).keys fun a ha => (p.flatMap_right _).mem_iff.mpr ha⟩
theorem sublist_keys {K K' : List Fact} (p : K'.Sublist K) : (K'.flatMap Fact.keys).Sublist (K.flatMap Fact.keys) := by
 induction p with
 | slnil => exact List.Sublist.refl _
 | cons a _ ih => rw [List.flatMap_cons]; exact ih.trans (List.sublist_append_right _ _)
 | cons_cons a _ ih => rw [List.flatMap_cons, List.flatMap_cons]; exact ih.append_left _
theorem Kn.sub (k : Kn c K s) (p : K'.Sublist K) : Kn c K' s :=
 ⟨k.old, k.lim, k.os, k.bare, fun f hf => k.facts f (p.subset hf), List.Nodup.sublist (sublist_keys p) k.nodup, fun f hf => k.fresh f (p.subset hf), fun t ht => (k.tabs t ht).keys fun a ha => (sublist_keys p).subset ha⟩
theorem Kn.lt (k : Kn c K s) (hf : f ∈ K) {a : Addr} (ha : a ∈ f.keys) : a < s.heap.objs.size :=
 let ⟨_, ho, _⟩ := f.own _ (k.facts f hf) a ha; Heap.lt_size ho
theorem Kn.tabP (k : Kn c K s) {t : Tab} (ht : t ∈ c.tabs) : t.P ∉ K.flatMap Fact.keys := fun h => by
 obtain ⟨f, hf, hk⟩ := List.mem_flatMap.mp h
 obtain ⟨ps, _, hp⟩ := (c.tabAt t ht).1
 rw [k.fresh f hf _ hk] at hp; cases hp
theorem Kn.grow (k : Kn c K s) (hk : ∀ b o, s.heap.get? b = some o → s'.heap.get? b = some o) (ho : s'.os = s.os) (hg : GOk c.base s'.gens) : Kn c K s' :=
 ⟨k.old.step_keeps hk, k.lim.keeps hk, ho.trans k.os, hg, fun f hf => f.stable _ _ (k.facts f hf) (fun b o e _ => hk b o e) (fun b _ o e => hk b o e), k.nodup, k.fresh,
  fun t ht => (k.tabs t ht).step (k.tabP ht) (fun b o _ e => hk b o e) fun a ha => .inl ha⟩
theorem Kn.toks (k : Kn c K s) (n : Nat) : Kn c K { s with toks := n } := k.grow (s' := { s with toks := n }) (fun _ _ e => e) rfl k.bare
theorem Kn.push (k : Kn c K s) (o : Obj) (n : Nat) : Kn c K { s with heap := s.heap.push o, toks := n } :=
 k.grow (s' := { s with heap := s.heap.push o, toks := n }) (fun _ _ e => Heap.get?_push_of_some o e) rfl k.bare
theorem Kn.addAllN (k : Kn c K s) {fs : List Fact} (hk : ∀ b o, s.heap.get? b = some o → s'.heap.get? b = some o) (ho : s'.os = s.os) (hg : GOk c.base s'.gens)
  (hf : ∀ f ∈ fs, f.holds s'.heap) (hn : (fs.flatMap Fact.keys).Nodup) (hy : ∀ a ∈ fs.flatMap Fact.keys, s.heap.get? a = none) : Kn c (fs ++ K) s' := by
 have k1 := k.grow (s' := s') hk ho hg
 have hlv : ∀ a ∈ K.flatMap Fact.keys, ∃ o, s.heap.get? a = some o := fun a ha => by
  obtain ⟨g, hg', hag⟩ := List.mem_flatMap.mp ha
  obtain ⟨o, e, _⟩ := g.own _ (k.facts g hg') a hag
  exact ⟨o, e⟩
 refine ⟨k1.old, k1.lim, k1.os, hg, fun g hg' => ?_, ?_, fun g hg' b hb => ?_, fun t ht => ?_⟩
 ·rcases List.mem_append.mp hg' with h | h
  ·exact hf g h
  ·exact k1.facts g h
 ·rw [List.flatMap_append, List.nodup_append]
  refine ⟨hn, k.nodup, fun a ha b hb e => ?_⟩
  subst e
  obtain ⟨o, e⟩ := hlv a hb
  rw [hy a ha] at e; cases e
 ·rcases List.mem_append.mp hg' with h | h
  ·exact OldK.none_ k.old (hy b (List.mem_flatMap.mpr ⟨g, h, hb⟩))
  ·exact k.fresh g h b hb
 ·refine (k.tabs t ht).step (k.tabP ht) (fun b o _ e => hk b o e) fun a ha => ?_
  rw [List.flatMap_append] at ha
  rcases List.mem_append.mp ha with h | h
  ·exact .inr (hy a h)
  ·exact .inl h
theorem Kn.addAll (k : Kn c K s) {fs : List Fact} (hk : ∀ b o, s.heap.get? b = some o → s'.heap.get? b = some o) (ho : s'.os = s.os) (hg : GOk c.base s'.gens)
  (hf : ∀ f ∈ fs, f.holds s'.heap) (hn : (fs.flatMap Fact.keys).Nodup) (hy : ∀ a ∈ fs.flatMap Fact.keys, s.heap.objs.size ≤ a) : Kn c (fs ++ K) s' :=
 k.addAllN hk ho hg hf hn fun a ha => Heap.get?_none_of_le (hy a ha)
theorem Kn.add (k : Kn c K s) (hk : ∀ b o, s.heap.get? b = some o → s'.heap.get? b = some o) (ho : s'.os = s.os) (hg : GOk c.base s'.gens)
  (hf : f.holds s'.heap) (hn : f.keys.Nodup) (hy : ∀ a ∈ f.keys, s.heap.objs.size ≤ a) : Kn c (f :: K) s' :=
 k.addAll (fs := [f]) hk ho hg (fun g hg' => by rw [List.mem_singleton.mp hg']; exact hf) (by simpa using hn) (by simpa using hy)
theorem Kn.change (k : Kn c (f :: K) s) (hb : ∀ b o, b ∉ f.keys → s.heap.get? b = some o → s'.heap.get? b = some o)
  (ho : s'.os = s.os) (hg : GOk c.base s'.gens) (hf : f'.holds s'.heap) (hkeys : ∀ a ∈ f'.keys, a ∈ f.keys ∨ s.heap.objs.size ≤ a) (hn : f'.keys.Nodup) : Kn c (f' :: K) s' := by
 have hyk := k.fresh f List.mem_cons_self
 have hold : ∀ b o, c.h0.get? b = some o → b ∉ f.keys := fun b o e hb' => by rw [hyk b hb'] at e; cases e
 have hnd := k.nodup
 rw [List.flatMap_cons, List.nodup_append] at hnd
 have hdis : ∀ g ∈ K, ∀ a ∈ g.keys, a ∉ f.keys := fun g hg a ha hf' => hnd.2.2 a hf' a (List.mem_flatMap.mpr ⟨g, hg, ha⟩) rfl
 have keep : Keep s.heap s'.heap := fun b o e i => hb b o (fun hbk => by
  obtain ⟨o', ho', hi⟩ := f.own _ (k.facts f List.mem_cons_self) b hbk
  rw [e] at ho'; cases ho'; exact hi i) e
 refine ⟨?_, ?_, ho.trans k.os, hg, fun g hg' => ?_, ?_, fun g hg' => ?_, fun t ht => ?_⟩
 ·refine ⟨fun b o e => ?_, fun b o e => ?_⟩
  ·have hne := hold b o e
   rcases k.old.old b o e with x | ⟨t, hc, vs, more, hv, x⟩ | ⟨rfl, hc, ⟨o', es, n, ho', r⟩, z⟩
   ·exact .inl (hb _ _ hne x)
   ·exact .inr (.inl ⟨t, hc, vs, more, hv, hb _ _ hne x⟩)
   ·exact .inr (.inr ⟨rfl, hc, ⟨o', es, n, hb _ _ hne ho', r⟩, fun key => by
     rw [OldK.staticOf_congr ((hb _ _ hne ho').trans ho'.symm) key]; exact z key⟩)
  ·obtain ⟨o', ho'⟩ := k.old.there b o e
   exact ⟨o', hb _ _ (hold b o e) ho'⟩
 ·obtain ⟨mc, ⟨o, es, ep, ho', r⟩, q⟩ := k.lim
  exact ⟨mc, ⟨o, es, ep, hb _ _ (let ⟨o0, e0⟩ := c.big; hold _ o0 e0) ho', r⟩, q⟩
 ·rcases List.mem_cons.mp hg' with rfl | hg'
  ·exact hf
  ·exact g.stable _ _ (k.facts g (List.mem_cons_of_mem _ hg')) keep (fun a ha o e => hb a o (hdis g hg' a ha) e)
 ·rw [List.flatMap_cons, List.nodup_append]
  refine ⟨hn, hnd.2.1, fun a ha b hb' e => ?_⟩
  subst e
  obtain ⟨g, hg', hag⟩ := List.mem_flatMap.mp hb'
  rcases hkeys a ha with h | h
  ·exact hdis g hg' a hag h
  ·exact Nat.lt_irrefl _ (Nat.lt_of_lt_of_le (k.lt (List.mem_cons_of_mem _ hg') hag) h)
 ·rcases List.mem_cons.mp hg' with rfl | hg'
  ·intro a ha
   rcases hkeys a ha with h | h
   ·exact hyk a h
   ·exact OldK.none_ k.old (Heap.get?_none_of_le h)
  ·exact k.fresh g (List.mem_cons_of_mem _ hg')
 ·refine (k.tabs t ht).step (k.tabP ht) (fun b o hb' e => hb b o (fun q => hb' (List.mem_flatMap.mpr ⟨f, List.mem_cons_self, q⟩)) e) fun a ha => ?_
  rw [List.flatMap_cons] at ha ⊢
  rcases List.mem_append.mp ha with h | h
  ·rcases hkeys a h with q | q
   ·exact .inl (List.mem_append_left _ q)
   ·exact .inr (Heap.get?_none_of_le q)
  ·exact .inl (List.mem_append_right _ h)
theorem Kn.change_keep (k : Kn c (f :: K) s) (hb : ∀ b o, b ∉ f.keys → s.heap.get? b = some o → s'.heap.get? b = some o) : Keep s.heap s'.heap := fun b o e i => hb b o (fun hbk => by
  obtain ⟨o', ho', hi⟩ := f.own _ (k.facts f List.mem_cons_self) b hbk
  rw [e] at ho'; cases ho'; exact hi i) e
theorem keep_push (h : Heap) (o : Obj) : Keep h (h.push o) := fun _ _ e _ => Heap.get?_push_of_some o e
theorem Kn.tabNew (k : Kn c K s) {t : Tab} (ht : t ∈ c.tabs) {ps : Array Value} {c' : Addr} {h' : Heap} {tk : Nat} (hP : s.heap.get? t.P = some (PySem.W.tabObj ps)) (htr : TriplesOk ps.toList) (hnf : codeAmong t.pos ps.toList = none)
  (hx : Heap.ExtBut t.P s.heap h') (hP' : h'.get? t.P = some (PySem.W.tabObj (ps ++ #[rawInt t.pos.line, rawInt t.pos.col, .ref c']))) (hc' : s.heap.objs.size ≤ c') (hcode : CodeI h' (.ref c') t.qual) :
  Kn c K { s with heap := h', toks := tk } ∧ Keep s.heap h' := by
 obtain ⟨⟨ps0, ht0⟩, hst, hgl⟩ := c.tabAt t ht
 have hpk := k.tabP ht
 have kp : Keep s.heap h' := fun b o e i => hx b o (fun q => by
  subst q; rw [hP] at e; cases e
  exact notImm_fields (o := PySem.W.tabObj ps) rfl (by intro q; cases q) i) e
 have htab := (c.tabHd t ht _ k.old).tab hP
 have htab' : h'.TableAt t.c t.P (ps ++ #[rawInt t.pos.line, rawInt t.pos.col, .ref c']) := by
  obtain ⟨⟨o, vs, e, r⟩, _⟩ := htab
  refine ⟨⟨o, vs, hx _ _ (fun q => ?_) e, r⟩, hP'⟩
  rw [q, hP] at e; cases e; exact absurd r.1 (by intro q; cases q)
 refine ⟨⟨k.old.step_table ht0 htab htab' hx hst, k.lim.extBut hx (fun q => hst q.symm), k.os, k.bare, fun f hf => ?_, k.nodup, k.fresh, fun t' ht' => ?_⟩, kp⟩
 ·exact f.stable _ _ (k.facts f hf) kp fun a ha o e => hx a o (fun q => hpk (q ▸ List.mem_flatMap.mpr ⟨f, hf, ha⟩)) e
 ·by_cases hq : t'.P = t.P
  ·obtain rfl := c.tabOne _ ht' _ ht hq
   have hl : (ps ++ #[rawInt t'.pos.line, rawInt t'.pos.col, Value.ref c']).toList = ps.toList ++ [rawInt t'.pos.line, rawInt t'.pos.col, .ref c'] := by simp
   refine ⟨_, hP', by rw [hl]; exact TriplesOk_snoc _ _ _ _ htr, .inr ⟨c', by rw [hl]; exact codeAmong_snoc _ htr hnf, hcode, fun hk => ?_⟩⟩
   obtain ⟨f, hf, hak⟩ := List.mem_flatMap.mp hk
   exact Nat.lt_irrefl _ (Nat.lt_of_lt_of_le (k.lt hf hak) hc')
  ·obtain ⟨ps', e, ho, h1 | ⟨d, h1, h2, h3⟩⟩ := k.tabs t' ht'
   ·exact ⟨ps', hx _ _ hq e, ho, .inl h1⟩
   ·exact ⟨ps', hx _ _ hq e, ho, .inr ⟨d, h1, h2.keep kp, h3⟩⟩
end
abbrev Loc := List (Str × Option SV)
def LocOk (h : Heap) (m : Str → Option Value) (p : Str × Option SV) : Prop :=
 match p.2 with
 | some x => ∃ v, m p.1 = some v ∧ Rep h x v
 | none => m p.1 = none
theorem LocOk.keep {h h' : Heap} (k : Keep h h') {m} {p : Str × Option SV} (x : LocOk h m p) : LocOk h' m p := by
 obtain ⟨n, o⟩ := p
 cases o with
 | none => exact x
 | some y => obtain ⟨v, e, r⟩ := x; exact ⟨v, e, r.keep k y⟩
def FFr (L : Addr) (ρ : Loc) : Fact where
 keys := [L]
 holds h := (ρ.map Prod.fst).Nodup ∧ ∃ m, h.Ns L m ∧ ∀ p ∈ ρ, LocOk h m p
 stable := by
  rintro h h' ⟨hn, m, ⟨o, es, ep, ho, r⟩, hl⟩ k hk
  exact ⟨hn, m, ⟨o, es, ep, hk L (by simp) o ho, r⟩, fun p hp => (hl p hp).keep k⟩
 own := by
  rintro h ⟨hn, m, ⟨o, es, ep, ho, hd, r⟩, hl⟩ k hk
  obtain rfl : k = L := by simpa using hk
  exact ⟨o, ho, notImm_dict hd⟩
structure Room (A : Around) (n : Nat) : Prop where
 hh : A.handled = none
 depth : A.depth + n < recursionLimit
 units : A.units + 8 * n + 40 < cLine
theorem Room.le {A : Around} {n m : Nat} (r : Room A n) (h : m ≤ n) : Room A m := ⟨r.hh, by have := r.depth; omega, by have := r.units; omega⟩
theorem Room.deeper {A : Around} {n : Nat} (r : Room A (n + 1)) (env : Env) : Room (A.deeper env) n :=
 ⟨r.hh, by have := r.depth; show A.depth + 1 + n < _; omega, by have := r.units; show A.units + 3 + 8 * n + 40 < _; omega⟩
structure Okay (A : Around) (env : Env) (ns : List Str) : Prop where
 room : Room A 0
 kind : env.scope.kind = .function
 loc : ∀ x ∈ ns, env.kindOf x = some .local
 dbg : ∀ x ∈ ns, (x == ("__debug__" : Str)) = false
 glob : env.globals = mainGlobals
 blt : env.builtins = builtinsNs
def names (ρ : Loc) : List Str := ρ.map Prod.fst
def Post {α β : Type} (R : Heap → β → α → Prop) (c : Cx) (L : Addr) (ns : List Str) (h : Heap) (Φ : β → Loc → List Fact → Prop) (v : α) (s' : Shared) : Prop :=
 ∃ x ρ' K', Kn c (FFr L ρ' :: K') s' ∧ names ρ' = ns ∧ R s'.heap x v ∧ Keep h s'.heap ∧ Φ x ρ' K'
def nope {α : Type} : α → Shared → Prop := fun _ _ => False
section
variable {α β : Type} (R : Heap → β → α → Prop) (c : Cx) (A : Around) (env : Env) (ρ : Loc) (K : List Fact)
def U0 (t : Sem α) (Φ : β → Loc → List Fact → Prop) : Prop :=
 Okay A env (names ρ) → ∀ s, Kn c (FFr env.locals ρ :: K) s → wpAny c.M A t (Post R c env.locals (names ρ) s.heap Φ) nope s
def U1 (x : SV) (t : Value → Sem α) (Φ : β → Loc → List Fact → Prop) : Prop :=
 Okay A env (names ρ) → ∀ s v, Kn c (FFr env.locals ρ :: K) s → Rep s.heap x v → wpAny c.M A (t v) (Post R c env.locals (names ρ) s.heap Φ) nope s
def U2 (x y : SV) (t : Value → Value → Sem α) (Φ : β → Loc → List Fact → Prop) : Prop :=
 Okay A env (names ρ) → ∀ s v w, Kn c (FFr env.locals ρ :: K) s → Rep s.heap x v → Rep s.heap y w → wpAny c.M A (t v w) (Post R c env.locals (names ρ) s.heap Φ) nope s
end
def RB (_ : Heap) (b b' : Bool) : Prop := b' = b
def RU (_ : Heap) (_ : Unit) (_ : Unit) : Prop := True
inductive SFl where
 | next | brk | cont | ret (v : SV)
def RF (h : Heap) : SFl → Flow → Prop
 | .next, f => f = .next
 | .brk, f => f = .brk
 | .cont, f => f = .cont
 | .ret x, f => ∃ v, f = .ret v ∧ Rep h x v
abbrev TE := U0 Rep
abbrev TB := U0 RB
abbrev TS := U0 RF
section
variable {α β γ δ : Type} {R : Heap → β → α → Prop} {S : Heap → δ → γ → Prop} {c : Cx} {A : Around} {env : Env} {ρ : Loc} {K : List Fact} {Φ : β → Loc → List Fact → Prop} {Ψ : δ → Loc → List Fact → Prop}
theorem Okay.to {ns ns' : List Str} (o : Okay A env ns) (h : ns' = ns) : Okay A env ns' := h ▸ o
theorem wp_step {L : Addr} {ns : List Str} {t : Sem α} {h : Heap} {s : Shared} {Q : α → Shared → Prop}
  (ht : wpAny c.M A t (Post R c L ns s.heap Φ) nope s) (hk : Keep h s.heap)
  (next : ∀ v s' x ρ' K', Kn c (FFr L ρ' :: K') s' → names ρ' = ns → R s'.heap x v → Keep h s'.heap → Keep s.heap s'.heap → Φ x ρ' K' → Q v s') : wpAny c.M A t Q nope s :=
 wpAny_mono ht (fun v s' ⟨x, ρ', K', k, n, r, kp, p⟩ => next v s' x ρ' K' k n r (hk.trans kp) kp p) (fun _ _ e => e)
theorem Post.from {L : Addr} {ns ns' : List Str} {h h' : Heap} {v : α} {s' : Shared} (p : Post R c L ns' h' Φ v s') (e : ns' = ns) (k : Keep h h') : Post R c L ns h Φ v s' := by
 subst e
 obtain ⟨x, ρ', K', a, b, r, kp, q⟩ := p
 exact ⟨x, ρ', K', a, b, r, k.trans kp, q⟩
theorem U0.mono {Φ' : β → Loc → List Fact → Prop} {t : Sem α} (h : U0 R c A env ρ K t Φ) (hi : ∀ x ρ' K', Φ x ρ' K' → Φ' x ρ' K') : U0 R c A env ρ K t Φ' := fun ok s k =>
 wp_step (h ok s k) (Keep.refl _) fun v s' x ρ' K' a b r kp _ q => ⟨x, ρ', K', a, b, r, kp, hi _ _ _ q⟩
end
structure Quiet (s s' : Shared) : Prop where
 keeps : ∀ b o, s.heap.get? b = some o → s'.heap.get? b = some o
 os : s'.os = s.os
 gens : s'.gens = s.gens
theorem Quiet.refl (s : Shared) : Quiet s s := ⟨fun _ _ e => e, rfl, rfl⟩
theorem Quiet.toks (s : Shared) (n : Nat) : Quiet s { s with toks := n } := ⟨fun _ _ e => e, rfl, rfl⟩
theorem Quiet.push (s : Shared) (o : Obj) (n : Nat) : Quiet s { s with heap := s.heap.push o, toks := n } := ⟨fun _ _ e => Heap.get?_push_of_some o e, rfl, rfl⟩
theorem Quiet.keep {s s' : Shared} (q : Quiet s s') : Keep s.heap s'.heap := fun b o e _ => q.keeps b o e
theorem Kn.quiet {c : Cx} {K : List Fact} {s s' : Shared} (k : Kn c K s) (q : Quiet s s') : Kn c K s' := k.grow q.keeps q.os (q.gens ▸ k.bare)
def Op1 (f : Value → Sem Value) (a r : SV) : Prop := ∀ (prog : Program) (w : World) (A : Around) (s : Shared) (v : Value) (Q : Value → Shared → Prop), Room A 0 → Rep s.heap a v →
 (∀ v' s', Quiet s s' → Rep s'.heap r v' → Q v' s') → wpAny (model prog w) A (f v) Q nope s
def Op2 (f : Value → Value → Sem Value) (a b r : SV) : Prop := ∀ (prog : Program) (w : World) (A : Around) (s : Shared) (v u : Value) (Q : Value → Shared → Prop), Room A 0 → Rep s.heap a v → Rep s.heap b u →
 (∀ v' s', Quiet s s' → Rep s'.heap r v' → Q v' s') → wpAny (model prog w) A (f v u) Q nope s
def OpB (f : Value → Sem Bool) (a : SV) (r : Bool) : Prop := ∀ (prog : Program) (w : World) (A : Around) (s : Shared) (v : Value) (Q : Bool → Shared → Prop), Room A 0 → Rep s.heap a v →
 (∀ s', Quiet s s' → Q r s') → wpAny (model prog w) A (f v) Q nope s
section
variable {c : Cx} {A : Around} {env : Env} {ρ : Loc} {K : List Fact} {Φ : SV → Loc → List Fact → Prop}
theorem U1.op {f : Value → Sem Value} {a r : SV} (o : Op1 f a r) (h : Φ r ρ K) : U1 Rep c A env ρ K a f Φ := fun ok s v k ra =>
 o _ _ _ _ _ _ ok.room ra fun v' s' q r' => ⟨r, ρ, K, k.quiet q, rfl, r', q.keep, h⟩
theorem U2.op {f : Value → Value → Sem Value} {a b r : SV} (o : Op2 f a b r) (h : Φ r ρ K) : U2 Rep c A env ρ K a b f Φ := fun ok s v u k ra rb =>
 o _ _ _ _ _ _ _ ok.room ra rb fun v' s' q r' => ⟨r, ρ, K, k.quiet q, rfl, r', q.keep, h⟩
theorem U1.opB {f : Value → Sem Bool} {a : SV} {r : Bool} {Φ : Bool → Loc → List Fact → Prop} (o : OpB f a r) (h : Φ r ρ K) : U1 RB c A env ρ K a f Φ := fun ok s v k ra =>
 o _ _ _ _ _ _ ok.room ra fun s' q => ⟨r, ρ, K, k.quiet q, rfl, rfl, q.keep, h⟩
end
section
variable {α β : Type} {R : Heap → β → α → Prop} {c : Cx} {A : Around} {env : Env} {ρ : Loc} {K : List Fact} {Φ : SV → Loc → List Fact → Prop} {ΦB : Bool → Loc → List Fact → Prop} {ΦS : SFl → Loc → List Fact → Prop}
theorem E_Name {x : Str} {pos : Pos} {v : SV} (hm : (x, some v) ∈ ρ) (hq : Φ v ρ K) : TE c A env ρ K (eval (.Name x pos) env) Φ := fun ok s k => by
 obtain ⟨hn, m, hns, hl⟩ := k.facts _ List.mem_cons_self
 obtain ⟨u, hu, hr⟩ := hl _ hm
 exact wpAny_Name (wpAny_loadName_local ok.kind (ok.loc x (List.mem_map.mpr ⟨_, hm, rfl⟩)) hns hu ⟨v, ρ, K, k, rfl, hr, Keep.refl _, hq⟩) (ok.dbg x (List.mem_map.mpr ⟨_, hm, rfl⟩))
theorem E_int {i : Int} {n : Nat} {pos : Pos} (hq : Φ (.int i) ρ K) : TE c A env ρ K (eval (.Constant (.int i) n pos) env) Φ := fun ok s k =>
 wpAny_Constant_int ⟨.int i, ρ, K, k.quiet (.toks ..), rfl, by simp only [Rep]; exact ⟨_, rfl⟩, Keep.refl _, hq⟩
theorem E_str {x : Str} {n : Nat} {pos : Pos} (hq : Φ (.str x) ρ K) : TE c A env ρ K (eval (.Constant (.str x) n pos) env) Φ := fun ok s k =>
 wpAny_Constant_str ⟨.str x, ρ, K, k.quiet (.toks ..), rfl, by simp only [Rep]; exact ⟨_, rfl⟩, Keep.refl _, hq⟩
theorem E_bool {b : Bool} {n : Nat} {pos : Pos} (hq : Φ (.bool b) ρ K) : TE c A env ρ K (eval (.Constant (.bool b) n pos) env) Φ := fun ok s k =>
 wpAny_Constant_bool ⟨.bool b, ρ, K, k, rfl, by simp only [Rep], Keep.refl _, hq⟩
theorem E_none {n : Nat} {pos : Pos} (hq : Φ .none ρ K) : TE c A env ρ K (eval (.Constant .none n pos) env) Φ := fun ok s k =>
 wpAny_Constant_none ⟨.none, ρ, K, k, rfl, by simp only [Rep], Keep.refl _, hq⟩
theorem E_BinOp {l r : Expr} {op : Operator} {pos : Pos}
  (h : TE c A env ρ K (eval l env) fun a ρ1 K1 => TE c A env ρ1 K1 (eval r env) fun b ρ2 K2 => U2 Rep c A env ρ2 K2 a b (binaryOp op) Φ) : TE c A env ρ K (eval (.BinOp l op r pos) env) Φ := fun ok s k =>
 wpAny_BinOp (wp_step (h ok s k) (Keep.refl _) fun v s1 x ρ1 K1 k1 n1 r1 kp1 _ h1 =>
  wp_step (h1 (ok.to n1) s1 k1) kp1 fun u s2 y ρ2 K2 k2 n2 r2 kp2 kq2 h2 =>
   wp_step (h2 (ok.to (n2.trans n1)) s2 v u k2 (r1.keep kq2) r2) kp2 fun z s3 zz ρ3 K3 k3 n3 r3 kp3 _ h3 => ⟨zz, ρ3, K3, k3, n3.trans (n2.trans n1), r3, kp3, h3⟩)
theorem E_Compare {l r : Expr} {op : CmpOp} {pos : Pos}
  (h : TE c A env ρ K (eval l env) fun a ρ1 K1 => TE c A env ρ1 K1 (eval r env) fun b ρ2 K2 => U2 Rep c A env ρ2 K2 a b (compareOp op) Φ)
  (hm : behindInMarks op r = false := by with_unfolding_all rfl) : TE c A env ρ K (eval (.Compare l [op] [r] pos) env) Φ := fun ok s k =>
 wpAny_Compare1 (wp_step (h ok s k) (Keep.refl _) fun v s1 x ρ1 K1 k1 n1 r1 kp1 _ h1 =>
  wp_step (h1 (ok.to n1) s1 k1) kp1 fun u s2 y ρ2 K2 k2 n2 r2 kp2 kq2 h2 =>
   wp_step (h2 (ok.to (n2.trans n1)) s2 v u k2 (r1.keep kq2) r2) kp2 fun z s3 zz ρ3 K3 k3 n3 r3 kp3 _ h3 => ⟨zz, ρ3, K3, k3, n3.trans (n2.trans n1), r3, kp3, h3⟩) hm
theorem E_UnaryOp {x : Expr} {op : UnaryOp} {pos : Pos} (h : TE c A env ρ K (eval x env) fun a ρ1 K1 => U1 Rep c A env ρ1 K1 a (unaryOp op) Φ) :
  TE c A env ρ K (eval (.UnaryOp op x pos) env) Φ := fun ok s k =>
 wpAny_UnaryOp (wp_step (h ok s k) (Keep.refl _) fun v s1 x ρ1 K1 k1 n1 r1 kp1 _ h1 =>
  wp_step (h1 (ok.to n1) s1 v k1 r1) kp1 fun z s3 zz ρ3 K3 k3 n3 r3 kp3 _ h3 => ⟨zz, ρ3, K3, k3, n3.trans n1, r3, kp3, h3⟩)
theorem E_IfExp {test body orelse : Expr} {pos : Pos}
  (h : TB c A env ρ K (isTrue test env (eval test env)) fun b ρ1 K1 => (b = true → TE c A env ρ1 K1 (eval body env) Φ) ∧ (b = false → TE c A env ρ1 K1 (eval orelse env) Φ)) :
  TE c A env ρ K (eval (.IfExp test body orelse pos) env) Φ := fun ok s k =>
 wpAny_IfExp (wp_step (h ok s k) (Keep.refl _) fun b s1 x ρ1 K1 k1 n1 r1 kp1 _ h1 => by
  obtain rfl : b = x := r1
  cases b
  ·exact wp_step (h1.2 rfl (ok.to n1) s1 k1) kp1 fun z s3 zz ρ3 K3 k3 n3 r3 kp3 _ h3 => ⟨zz, ρ3, K3, k3, n3.trans n1, r3, kp3, h3⟩
  ·exact wp_step (h1.1 rfl (ok.to n1) s1 k1) kp1 fun z s3 zz ρ3 K3 k3 n3 r3 kp3 _ h3 => ⟨zz, ρ3, K3, k3, n3.trans n1, r3, kp3, h3⟩)
theorem B_Compare {l r : Expr} {op : CmpOp} {pos : Pos} {whole : Sem Value}
  (h : TE c A env ρ K (eval l env) fun a ρ1 K1 => TE c A env ρ1 K1 (eval r env) fun b ρ2 K2 => U2 Rep c A env ρ2 K2 a b (compareOp op) fun v ρ3 K3 => U1 RB c A env ρ3 K3 v truthy ΦB)
  (hm : behindInMarks op r = false := by with_unfolding_all rfl) : TB c A env ρ K (isTrue (.Compare l [op] [r] pos) env whole) ΦB := fun ok s k =>
 wpAny_isTrue_Compare1 (wp_step (h ok s k) (Keep.refl _) fun v s1 x ρ1 K1 k1 n1 r1 kp1 _ h1 =>
  wp_step (h1 (ok.to n1) s1 k1) kp1 fun u s2 y ρ2 K2 k2 n2 r2 kp2 kq2 h2 =>
   wp_step (h2 (ok.to (n2.trans n1)) s2 v u k2 (r1.keep kq2) r2) kp2 fun z s3 zz ρ3 K3 k3 n3 r3 kp3 _ h3 =>
    wp_step (h3 (ok.to (n3.trans (n2.trans n1))) s3 z k3 r3) kp3 fun b s4 bb ρ4 K4 k4 n4 r4 kp4 _ h4 => ⟨bb, ρ4, K4, k4, n4.trans (n3.trans (n2.trans n1)), r4, kp4, h4⟩) hm
theorem B_value {e : Expr} (h : TE c A env ρ K (eval e env) fun v ρ3 K3 => U1 RB c A env ρ3 K3 v truthy ΦB)
  (he : isTrue e env (eval e env) = (do let v ← eval e env; standAt e.pos; holding [v] (truthy v)) := by rfl) : TB c A env ρ K (isTrue e env (eval e env)) ΦB := fun ok s k =>
 wpAny_isTrue_value (wp_step (h ok s k) (Keep.refl _) fun v s1 x ρ1 K1 k1 n1 r1 kp1 _ h1 =>
  wp_step (h1 (ok.to n1) s1 v k1 r1) kp1 fun b s4 bb ρ4 K4 k4 n4 r4 kp4 _ h4 => ⟨bb, ρ4, K4, k4, n4.trans n1, r4, kp4, h4⟩) he
theorem B_BoolOp {op : BoolOp} {values : List Expr} {pos : Pos} {whole : Sem Value} (h : TB c A env ρ K (allTrue op values env) ΦB) : TB c A env ρ K (isTrue (.BoolOp op values pos) env whole) ΦB := fun ok s k =>
 wpAny_isTrue_BoolOp (h ok s k)
theorem B_and_nil (h : ΦB true ρ K) : TB c A env ρ K (allTrue .And [] env) ΦB := fun ok s k => wpAny_allTrue_And_nil ⟨true, ρ, K, k, rfl, rfl, Keep.refl _, h⟩
theorem B_or_nil (h : ΦB false ρ K) : TB c A env ρ K (allTrue .Or [] env) ΦB := fun ok s k => wpAny_allTrue_Or_nil ⟨false, ρ, K, k, rfl, rfl, Keep.refl _, h⟩
theorem B_and {x : Expr} {rest : List Expr} (h : TB c A env ρ K (isTrue x env (eval x env)) fun b ρ1 K1 => (b = true → TB c A env ρ1 K1 (allTrue .And rest env) ΦB) ∧ (b = false → ΦB false ρ1 K1)) :
  TB c A env ρ K (allTrue .And (x :: rest) env) ΦB := fun ok s k =>
 wpAny_allTrue_And_cons (wp_step (h ok s k) (Keep.refl _) fun b s1 x ρ1 K1 k1 n1 r1 kp1 _ h1 => by
  obtain rfl : b = x := r1
  cases b
  ·exact ⟨false, ρ1, K1, k1, n1, rfl, kp1, h1.2 rfl⟩
  ·exact wp_step (h1.1 rfl (ok.to n1) s1 k1) kp1 fun z s3 zz ρ3 K3 k3 n3 r3 kp3 _ h3 => ⟨zz, ρ3, K3, k3, n3.trans n1, r3, kp3, h3⟩)
theorem B_or {x : Expr} {rest : List Expr} (h : TB c A env ρ K (isTrue x env (eval x env)) fun b ρ1 K1 => (b = true → ΦB true ρ1 K1) ∧ (b = false → TB c A env ρ1 K1 (allTrue .Or rest env) ΦB)) :
  TB c A env ρ K (allTrue .Or (x :: rest) env) ΦB := fun ok s k =>
 wpAny_allTrue_Or_cons (wp_step (h ok s k) (Keep.refl _) fun b s1 x ρ1 K1 k1 n1 r1 kp1 _ h1 => by
  obtain rfl : b = x := r1
  cases b
  ·exact wp_step (h1.2 rfl (ok.to n1) s1 k1) kp1 fun z s3 zz ρ3 K3 k3 n3 r3 kp3 _ h3 => ⟨zz, ρ3, K3, k3, n3.trans n1, r3, kp3, h3⟩
  ·exact ⟨true, ρ1, K1, k1, n1, rfl, kp1, h1.1 rfl⟩)
theorem S_nil (h : ΦS .next ρ K) : TS c A env ρ K (execs [] env) ΦS := fun ok s k => wpAny_execs_nil ⟨.next, ρ, K, k, rfl, rfl, Keep.refl _, h⟩
def Then (c : Cx) (A : Around) (env : Env) (rest : List Stmt) (ΦS : SFl → Loc → List Fact → Prop) : SFl → Loc → List Fact → Prop
 | .next, ρ1, K1 => TS c A env ρ1 K1 (execs rest env) ΦS
 | f, ρ1, K1 => ΦS f ρ1 K1
theorem Then.nx {rest : List Stmt} (h : TS c A env ρ K (execs rest env) ΦS) : Then c A env rest ΦS .next ρ K := h
theorem Then.rt {rest : List Stmt} {v : SV} (h : ΦS (.ret v) ρ K) : Then c A env rest ΦS (.ret v) ρ K := h
theorem Then.ct {rest : List Stmt} (h : ΦS .cont ρ K) : Then c A env rest ΦS .cont ρ K := h
theorem S_cons {st : Stmt} {rest : List Stmt}
  (h : TS c A env ρ K (exec st env) (Then c A env rest ΦS)) : TS c A env ρ K (execs (st :: rest) env) ΦS := fun ok s k =>
 wpAny_execs_cons (wp_step (h ok s k) (Keep.refl _) fun f s1 x ρ1 K1 k1 n1 r1 kp1 _ h1 => by
  cases x with
  | next =>
   obtain rfl : f = .next := r1
   exact wp_step (h1 (ok.to n1) s1 k1) kp1 fun z s3 zz ρ3 K3 k3 n3 r3 kp3 _ h3 => ⟨zz, ρ3, K3, k3, n3.trans n1, r3, kp3, h3⟩
  | brk => obtain rfl : f = .brk := r1; exact ⟨.brk, ρ1, K1, k1, n1, rfl, kp1, h1⟩
  | cont => obtain rfl : f = .cont := r1; exact ⟨.cont, ρ1, K1, k1, n1, rfl, kp1, h1⟩
  | ret v => obtain ⟨u, rfl, hu⟩ := r1; exact ⟨.ret v, ρ1, K1, k1, n1, ⟨u, rfl, hu⟩, kp1, h1⟩)
theorem S_last {st : Stmt} (h : TS c A env ρ K (exec st env) ΦS) : TS c A env ρ K (execs [st] env) ΦS :=
 S_cons (h.mono fun x ρ' K' q => by cases x <;> first | exact q | exact S_nil q)
theorem S_If {test : Expr} {body orelse : List Stmt} {pos : Pos}
  (h : TB c A env ρ K (isTrue test env (eval test env)) fun b ρ1 K1 => (b = true → TS c A env ρ1 K1 (execs body env) ΦS) ∧ (b = false → TS c A env ρ1 K1 (execs orelse env) ΦS)) :
  TS c A env ρ K (exec (.If test body orelse pos) env) ΦS := fun ok s k =>
 wpAny_If (wp_step (h ok s k) (Keep.refl _) fun b s1 x ρ1 K1 k1 n1 r1 kp1 _ h1 => by
  obtain rfl : b = x := r1
  cases b
  ·exact wp_step (h1.2 rfl (ok.to n1) s1 k1) kp1 fun z s3 zz ρ3 K3 k3 n3 r3 kp3 _ h3 => ⟨zz, ρ3, K3, k3, n3.trans n1, r3, kp3, h3⟩
  ·exact wp_step (h1.1 rfl (ok.to n1) s1 k1) kp1 fun z s3 zz ρ3 K3 k3 n3 r3 kp3 _ h3 => ⟨zz, ρ3, K3, k3, n3.trans n1, r3, kp3, h3⟩)
theorem S_Return {e : Expr} {pos : Pos} (h : TE c A env ρ K (eval e env) fun v ρ1 K1 => ΦS (.ret v) ρ1 K1) : TS c A env ρ K (exec (.Return (some e) pos) env) ΦS := fun ok s k =>
 wpAny_Return_some (wp_step (h ok s k) (Keep.refl _) fun v s1 x ρ1 K1 k1 n1 r1 kp1 _ h1 => ⟨.ret x, ρ1, K1, k1, n1, ⟨v, rfl, r1⟩, kp1, h1⟩)
theorem S_Return_none {pos : Pos} (h : ΦS (.ret .none) ρ K) : TS c A env ρ K (exec (.Return none pos) env) ΦS := fun ok s k =>
 wpAny_Return_none ⟨.ret .none, ρ, K, k, rfl, ⟨.none, rfl, by simp only [Rep]⟩, Keep.refl _, h⟩
theorem S_Continue {pos : Pos} (h : ΦS .cont ρ K) : TS c A env ρ K (exec (.Continue pos) env) ΦS := fun ok s k =>
 wpAny_Continue ⟨.cont, ρ, K, k, rfl, rfl, Keep.refl _, h⟩
inductive Put (x : Str) (v : SV) : Loc → Loc → Prop
 | here {o ρ} : Put x v ((x, o) :: ρ) ((x, some v) :: ρ)
 | there {p ρ ρ'} : Put x v ρ ρ' → Put x v (p :: ρ) (p :: ρ')
theorem Put.names {x v ρ ρ'} (p : Put x v ρ ρ') : Mine.names ρ' = Mine.names ρ := by
 induction p with
 | here => rfl
 | there _ ih => simpa [Mine.names] using ih
theorem Put.mem {x v ρ ρ'} (p : Put x v ρ ρ') : x ∈ Mine.names ρ := by
 induction p with
 | here => simp [Mine.names]
 | there _ ih => exact List.mem_cons_of_mem _ ih
theorem Put.cases {x v ρ ρ'} (p : Put x v ρ ρ') (hn : (Mine.names ρ).Nodup) : ∀ q ∈ ρ', q = (x, some v) ∨ (q ∈ ρ ∧ q.1 ≠ x) := by
 induction p with
 | here =>
  intro q hq
  rcases List.mem_cons.mp hq with rfl | hq
  ·exact .inl rfl
  ·refine .inr ⟨List.mem_cons_of_mem _ hq, fun e => ?_⟩
   have := (List.nodup_cons.mp hn).1
   exact this (e ▸ List.mem_map.mpr ⟨q, hq, rfl⟩)
 | @there p ρ ρ' hp ih =>
  intro q hq
  rcases List.mem_cons.mp hq with rfl | hq
  ·refine .inr ⟨List.mem_cons_self, fun e => ?_⟩
   have := (List.nodup_cons.mp hn).1
   exact this (e ▸ hp.mem)
  ·rcases ih (List.nodup_cons.mp hn).2 q hq with h | ⟨h, h'⟩
   ·exact .inl h
   ·exact .inr ⟨List.mem_cons_of_mem _ h, h'⟩
theorem store {x : Str} {a : SV} {ρ' : Loc} (p : Put x a ρ ρ') {s : Shared} {v : Value} {Q : Unit → Shared → Prop} (ok : Okay A env (names ρ)) (k : Kn c (FFr env.locals ρ :: K) s) (r : Rep s.heap a v)
  (h : ∀ s', Kn c (FFr env.locals ρ' :: K) s' → Keep s.heap s'.heap → Q () s') : wpAny c.M A (storeName env x v) Q nope s := by
 obtain ⟨hn, m, hns, hl⟩ := k.facts _ List.mem_cons_self
 refine wpAny_storeName_local (ok.loc x p.mem) hns (fun h' hns' hs => ?_) (by rw [ok.kind]; rfl)
 have hb : ∀ b o, b ∉ (FFr env.locals ρ).keys → s.heap.get? b = some o → h'.get? b = some o := fun b o hb e => (hs.2 b (by simpa [FFr] using hb)).trans e
 have kp : Keep s.heap h' := k.change_keep (s' := { s with heap := h', toks := s.toks + 1 }) hb
 refine h _ (k.change hb rfl k.bare ?_ (fun a ha => .inl ha) (by simp [FFr])) kp
 refine ⟨?_, _, hns', fun q hq => ?_⟩
 ·have := p.names; unfold names at this; rw [this]; exact hn
 ·rcases p.cases hn q hq with rfl | ⟨hq, hne⟩
  ·exact ⟨v, by simp, r.keep kp a⟩
  ·have := (hl q hq).keep kp
   obtain ⟨n, o⟩ := q
   cases o with
   | none => show (if n = x then some v else m n) = none; rw [if_neg hne]; exact this
   | some y => obtain ⟨u, hu, hr⟩ := this; exact ⟨u, by show (if n = x then some v else m n) = some u; rw [if_neg hne]; exact hu, hr⟩
theorem S_Assign {x : Str} {pos' pos : Pos} {value : Expr}
  (h : TE c A env ρ K (eval value env) fun v ρ1 K1 => ∃ ρ2, Put x v ρ1 ρ2 ∧ ΦS .next ρ2 K1)
  (hs : swapsWith value (some (.Name x pos')) pos.line env = pure false := by rfl) : TS c A env ρ K (exec (.Assign [.Name x pos'] value pos) env) ΦS := fun ok s k =>
 wpAny_Assign_Name (wp_step (h ok s k) (Keep.refl _) fun v s1 a ρ1 K1 k1 n1 r1 kp1 _ ⟨ρ2, p, h1⟩ =>
  store p (ok.to n1) k1 r1 fun s2 k2 kp2 => ⟨.next, ρ2, K1, k2, p.names.trans n1, rfl, kp1.trans kp2, h1⟩) hs
theorem S_AugAssign {x : Str} {pos' pos : Pos} {op : Operator} {value : Expr} {v : SV} (hm : (x, some v) ∈ ρ)
  (h : TE c A env ρ K (eval value env) fun u ρ1 K1 => U2 Rep c A env ρ1 K1 v u (inplaceOp op) fun z ρ2 K2 => ∃ ρ3, Put x z ρ2 ρ3 ∧ ΦS .next ρ3 K2) :
  TS c A env ρ K (exec (.AugAssign (.Name x pos') op value pos) env) ΦS := fun ok s k => by
 obtain ⟨hn, m, hns, hl⟩ := k.facts _ List.mem_cons_self
 obtain ⟨u, hu, hr⟩ := hl _ hm
 refine wpAny_AugAssign_Name (wpAny_loadName_local ok.kind (ok.loc x (List.mem_map.mpr ⟨_, hm, rfl⟩)) hns hu ?_)
 exact wp_step (h ok s k) (Keep.refl _) fun v s1 a ρ1 K1 k1 n1 r1 kp1 _ h1 =>
  wp_step (h1 (ok.to n1) s1 u v k1 (hr.keep kp1) r1) kp1 fun z s2 zz ρ2 K2 k2 n2 r2 kp2 _ ⟨ρ3, p, h2⟩ =>
   store p (ok.to (n2.trans n1)) k2 r2 fun s3 k3 kp3 => ⟨.next, ρ3, K2, k3, p.names.trans (n2.trans n1), rfl, kp2.trans kp3, h2⟩
end
section
variable {α β : Type} {R : Heap → β → α → Prop} {c : Cx} {A : Around} {env : Env} {ρ : Loc} {K : List Fact} {Φ : SV → Loc → List Fact → Prop} {ΦB : Bool → Loc → List Fact → Prop} {ΦS : SFl → Loc → List Fact → Prop}
 {ΦL : List SV → Loc → List Fact → Prop}
def Gl (c : Cx) (x : Str) (v : SV) : Prop := (x == ("__debug__" : Str)) = false ∧ ∃ u, (c.mg x = some u ∨ (c.mg x = none ∧ c.mb x = some u)) ∧ ∀ h, Rep h v u
theorem E_Glob {x : Str} {pos : Pos} {v : SV} {gs : List Str} {tops : List (Str × SV)} (hG : ∀ x ∈ gs, env.kindOf x = some .globalImplicit) (hT : ∀ p ∈ tops, Gl c p.1 p.2) (hx : x ∈ gs) (hv : (x, v) ∈ tops) (hq : Φ v ρ K) :
  TE c A env ρ K (eval (.Name x pos) env) Φ := fun ok s k => by
 obtain ⟨hd, u, hm, hr⟩ := hT _ hv
 have hk := hG _ hx
 have hmg := c.hg _ k.old
 have hmb := c.hb _ k.old
 have p : Post Rep c env.locals (names ρ) s.heap Φ u s := ⟨v, ρ, K, k, rfl, hr _, Keep.refl _, hq⟩
 refine Calls.Name_function_global ok.kind hk ?_ hd
 rcases hm with hm | ⟨hm, hb⟩
 ·exact Calls.loadGlobal_global (ok.glob ▸ hmg) hm p
 ·exact Calls.loadGlobal_builtin (ok.glob ▸ hmg) hm (ok.blt ▸ hmb) hb p
theorem A_nil {pos : Pos} (h : ΦL [] ρ K) : U0 Reps c A env ρ K (spliced (backTo pos (starEach [] env))) ΦL := fun ok s k =>
 wpAny_items_nil ⟨[], ρ, K, k, rfl, Reps.nil, Keep.refl _, h⟩
theorem A_cons {pos : Pos} {e : Expr} {rest : List Expr}
  (h : TE c A env ρ K (eval e env) fun a ρ1 K1 => U0 Reps c A env ρ1 K1 (spliced (backTo pos (starEach rest env))) fun as ρ2 K2 => ΦL (a :: as) ρ2 K2)
  (he : starEach (e :: rest) env = (false, eval e env) :: starEach rest env := by rfl) : U0 Reps c A env ρ K (spliced (backTo pos (starEach (e :: rest) env))) ΦL := fun ok s k =>
 wpAny_items_cons (wp_step (h ok s k) (Keep.refl _) fun v s1 x ρ1 K1 k1 n1 r1 kp1 _ h1 =>
  wp_step (h1 (ok.to n1) s1 k1) kp1 fun vs s2 xs ρ2 K2 k2 n2 r2 kp2 kq2 h2 => ⟨x :: xs, ρ2, K2, k2, n2.trans n1, Reps.cons (r1.keep kq2) r2, kp2, h2⟩) he
theorem evalArgs_all {M : Model} {f : Value} {args : List (Bool × Sem Value)} {Q : Args → Shared → Prop} {E : Value → Shared → Prop} {s : Shared} (hp : args.any (·.1) = false)
  (h : wpAny M A (spliced args) (fun vs s' => Q ⟨vs, []⟩ s') E s) : wpAny M A (evalArgs f true args []) Q E s := by
 cases args with
 | nil =>
  unfold evalArgs
  show wpAny M A (spliced [] >>= _) Q E s
  refine wpAny_bind (wpAny_mono h (fun vs s' h' => ?_) fun _ _ x => x)
  refine wpAny_bind (wpAny_pure ?_)
  refine wpAny_holding ?_
  exact wpAny_bind (wpAny_pure (wpAny_bind (wpAny_pure (wpAny_pure h'))))
 | cons x rest =>
  obtain ⟨b, x⟩ := x
  have hb : b = false := by
   cases b
   ·rfl
   ·simp at hp
  subst hb
  exact Calls.evalArgs_plain h
def CPost (c : Cx) (h : Heap) (Φ : SV → List Fact → Prop) (v : Value) (s' : Shared) : Prop := ∃ x K', Kn c K' s' ∧ Rep s'.heap x v ∧ Keep h s'.heap ∧ Φ x K'
def TCall (c : Cx) (A : Around) (K : List Fact) (f : SV) (xs : List SV) (Φ : SV → List Fact → Prop) : Prop :=
 Room A 0 → ∀ s fv vs, Kn c K s → Rep s.heap f fv → Reps s.heap xs vs → wpAny c.M A (call fv vs) (CPost c s.heap Φ) nope s
theorem TCall.mono {f : SV} {xs : List SV} {Φ Φ' : SV → List Fact → Prop} (h : TCall c A K f xs Φ) (hi : ∀ x K', Φ x K' → Φ' x K') : TCall c A K f xs Φ' := fun r s fv vs k rf rs =>
 wpAny_mono (h r s fv vs k rf rs) (fun v s' ⟨x, K', a, b, kp, q⟩ => ⟨x, K', a, b, kp, hi _ _ q⟩) fun _ _ e => e
def Fx (L : Addr) (ρ : Loc) (Φ : SV → Loc → List Fact → Prop) : SV → List Fact → Prop := fun v K3 => ∃ K4, K3 = FFr L ρ :: K4 ∧ Φ v ρ K4
def CallK (c : Cx) (A : Around) (env : Env) (ρ : Loc) (K : List Fact) (pos : Pos) (f : SV) (first : List SV) (args : List Expr) (Φ : SV → Loc → List Fact → Prop) : Prop :=
 Okay A env (names ρ) → ∀ s fv fs, Kn c (FFr env.locals ρ :: K) s → Rep s.heap f fv → Reps s.heap first fs →
  wpAny c.M A (callWith pos fv fs (backTo pos (starEach args env)) []) (Post Rep c env.locals (names ρ) s.heap Φ) nope s
theorem CallK.end {f : SV} {xs : List SV} {K2 : List Fact} {ρ2 : Loc} {h : Heap} {s2 : Shared} {fv : Value} {vs : List Value} (ok : Okay A env (names ρ)) (n2 : names ρ2 = names ρ)
  (k2 : Kn c (FFr env.locals ρ2 :: K2) s2) (rf : Rep s2.heap f fv) (r2 : Reps s2.heap xs vs) (kp : Keep h s2.heap) (hc : TCall c A (FFr env.locals ρ2 :: K2) f xs (Fx env.locals ρ2 Φ)) :
  wpAny c.M A (call fv vs) (Post Rep c env.locals (names ρ) h Φ) nope s2 :=
 wpAny_mono (hc ok.room s2 fv vs k2 rf r2) (fun v s' ⟨x, K', a, b, kp', K4, e, q⟩ => ⟨x, ρ2, K4, e ▸ a, n2, b, kp.trans kp', q⟩) fun _ _ e => e
theorem CallK_bi {pos : Pos} {id : String} {first : List SV} {args : List Expr}
  (h : U0 Reps c A env ρ K (spliced (backTo pos (starEach args env))) fun xs ρ2 K2 => TCall c A (FFr env.locals ρ2 :: K2) (.bi id) (first ++ xs) (Fx env.locals ρ2 Φ))
  (hp : (backTo pos (starEach args env)).any (·.1) = false := by rfl) : CallK c A env ρ K pos (.bi id) first args Φ := fun ok s fv fs k rf rfs => by
 obtain rfl : fv = .builtin id := rf
 exact Calls.callWith_builtin hp (evalArgs_all hp (wp_step (h ok s k) (Keep.refl _) fun vs s2 xs ρ2 K2 k2 n2 r2 kp2 _ h2 => CallK.end (f := .bi id) ok n2 k2 rfl (Reps.append (Reps.keep kp2 _ rfs) r2) kp2 h2))
theorem CallK_type {pos : Pos} {T : String} {first : List SV} {args : List Expr}
  (h : U0 Reps c A env ρ K (spliced (backTo pos (starEach args env))) fun xs ρ2 K2 => TCall c A (FFr env.locals ρ2 :: K2) (.type T) (first ++ xs) (Fx env.locals ρ2 Φ))
  (hp : (backTo pos (starEach args env)).any (·.1) = false := by rfl) : CallK c A env ρ K pos (.type T) first args Φ := fun ok s fv fs k rf rfs => by
 obtain rfl : fv = .type T := rf
 exact PyProof.Rows.callWith_type hp (evalArgs_all hp (wp_step (h ok s k) (Keep.refl _) fun vs s2 xs ρ2 K2 k2 n2 r2 kp2 _ h2 => CallK.end (f := .type T) ok n2 k2 rfl (Reps.append (Reps.keep kp2 _ rfs) r2) kp2 h2))
theorem CallK_fn {pos : Pos} {a : Addr} {first : List SV} {args : List Expr} (o : Obj) (fd : FuncData) (hd : o.data = .func fd)
  (h : U0 Reps c A env ρ K (spliced (backTo pos (starEach args env))) fun xs ρ2 K2 => (∀ s, Kn c (FFr env.locals ρ2 :: K2) s → s.heap.get? a = some o) ∧ TCall c A (FFr env.locals ρ2 :: K2) (.ref a) (first ++ xs) (Fx env.locals ρ2 Φ))
  (hp : (backTo pos (starEach args env)).any (·.1) = false := by rfl) : CallK c A env ρ K pos (.ref a) first args Φ := fun ok s fv fs k rf rfs => by
 obtain rfl : fv = .ref a := rf
 exact Calls.callWith_function (o := o) (fd := fd) (evalArgs_all hp (wp_step (h ok s k) (Keep.refl _) fun vs s2 xs ρ2 K2 k2 n2 r2 kp2 _ h2 =>
  ⟨⟨h2.1 _ k2, hd⟩, CallK.end (f := .ref a) ok n2 k2 rfl (Reps.append (Reps.keep kp2 _ rfs) r2) kp2 h2.2⟩))
structure FnAt (c : Cx) (a : Addr) (o : Obj) (fd : FuncData) : Prop where
 data : o.data = .func fd
 cls : o.cls = .type "function"
 at_ : ∀ h, OldK c.h0 h → h.get? a = some o
 code : ∀ h, OldK c.h0 h → h.CodeRec fd.code fd.qualname
theorem CallK_def {pos : Pos} {a : Addr} {first : List SV} {args : List Expr} {o : Obj} {fd : FuncData} (F : FnAt c a o fd)
  (h : U0 Reps c A env ρ K (spliced (backTo pos (starEach args env))) fun xs ρ2 K2 => TCall c A (FFr env.locals ρ2 :: K2) (.ref a) (first ++ xs) (Fx env.locals ρ2 Φ))
  (hp : (backTo pos (starEach args env)).any (·.1) = false := by rfl) : CallK c A env ρ K pos (.ref a) first args Φ :=
 CallK_fn o fd F.data (h.mono fun xs ρ2 K2 hc => ⟨fun s k => F.at_ _ k.old, hc⟩) hp
theorem E_Call {x : Str} {np pos : Pos} {args : List Expr} (h : TE c A env ρ K (eval (.Name x np) env) fun f ρ1 K1 => CallK c A env ρ1 K1 pos f [] args Φ) :
  TE c A env ρ K (eval (.Call (.Name x np) args [] pos) env) Φ := fun ok s k =>
 wpAny_Call_NameR (wp_step (h ok s k) (Keep.refl _) fun fv s1 f ρ1 K1 k1 n1 r1 kp1 _ h1 =>
  wpAny_mono (h1 (ok.to n1) s1 fv [] k1 r1 Reps.nil) (fun v s' p => p.from n1 kp1) fun _ _ e => e)
theorem E_CallM {o : Expr} {name : Str} {apos pos : Pos} {args : List Expr} (T id : String)
  (pa : PlainAttrs T) (slot : Slot T name id) (hty : typeOf (.builtin id) = pure (.type "method_descriptor"))
  (h : TE c A env ρ K (eval o env) fun f ρ1 K1 => (∀ s v, Kn c (FFr env.locals ρ1 :: K1) s → Rep s.heap f v → s.TypeIs v T ∧ (∀ a, v = .ref a → ∃ ob, s.heap.get? a = some ob ∧ ob.dict = none)) ∧ CallK c A env ρ1 K1 pos (.bi id) [f] args Φ)
  (hbase : attributeBase o name env (eval o env) = eval o env := by rfl)
  (hfew : ((backTo pos (starEach args env)).all (fun x => !x.1) && (backToKw pos (keywordEach [] env)).all (fun x => x.1.isSome)
   && decide (args.length + ([] : List Keyword).length + (if ([] : List Keyword).isEmpty then 0 else 1) < 30)) = true := by rfl)
  (hline : (apos.endLine == pos.line) = true := by rfl) : TE c A env ρ K (eval (.Call (.Attribute o name apos) args [] pos) env) Φ := fun ok s k =>
 wpAny_Call_method hbase hfew hline pa slot hty (wp_step (h ok s k) (Keep.refl _) fun fv s1 f ρ1 K1 k1 n1 r1 kp1 _ h1 =>
  ⟨(h1.1 s1 fv k1 r1).1, (h1.1 s1 fv k1 r1).2, wpAny_mono (h1.2 (ok.to n1) s1 (.builtin id) [fv] k1 rfl (Reps.one r1)) (fun v s' p => p.from n1 kp1) fun _ _ e => e⟩)
def OpC (f : SV) (xs : List SV) (r : SV) : Prop := ∀ (prog : Program) (w : World) (A : Around) (s : Shared) (fv : Value) (vs : List Value) (Q : Value → Shared → Prop), Room A 0 → Rep s.heap f fv → Reps s.heap xs vs →
 (∀ v' s', Quiet s s' → Rep s'.heap r v' → Q v' s') → wpAny (model prog w) A (call fv vs) Q nope s
theorem TCall.op {f : SV} {xs : List SV} {r : SV} {Φ : SV → List Fact → Prop} (o : OpC f xs r) (h : Φ r K) : TCall c A K f xs Φ := fun rm s fv vs k rf rs =>
 o _ _ _ _ _ _ _ rm rf rs fun v' s' q r' => ⟨r, K, k.quiet q, r', q.keep, h⟩
theorem TCall.opx {f : SV} {xs : List SV} {r : SV} {L : Addr} (o : OpC f xs r) (h : Φ r ρ K) : TCall c A (FFr L ρ :: K) f xs (Fx L ρ Φ) := TCall.op o ⟨K, rfl, h⟩
def ROpt (h : Heap) : Option SV → Option Value → Prop
 | none, o => o = none
 | some x, o => ∃ v, o = some v ∧ Rep h x v
def Turn (I : Nat → Loc → List Fact → Prop) (n : Nat) (ΦS : SFl → Loc → List Fact → Prop) : SFl → Loc → List Fact → Prop
 | .next, ρ, K => ∃ m, m < n ∧ I m ρ K
 | .cont, ρ, K => ∃ m, m < n ∧ I m ρ K
 | .brk, ρ, K => ΦS .next ρ K
 | .ret v, ρ, K => ΦS (.ret v) ρ K
theorem Turn.nx {I n} (m : Nat) (hm : m < n) (h : I m ρ K) : Turn I n ΦS .next ρ K := ⟨m, hm, h⟩
theorem S_While {test : Expr} {body orelse : List Stmt} {pos : Pos} (I : Nat → Loc → List Fact → Prop) (n : Nat) (h0 : I n ρ K)
  (turn : ∀ n ρ1 K1, I n ρ1 K1 → names ρ1 = names ρ → TB c A env ρ1 K1 (isTrue test env (eval test env)) fun b ρ2 K2 =>
   (b = true → TS c A env ρ2 K2 (execs body env) (Turn I n ΦS)) ∧
   (b = false → TS c A env ρ2 K2 (execs orelse env) ΦS)) : TS c A env ρ K (exec (.While test body orelse pos) env) ΦS := fun ok s k => by
 refine wpAny_While (codeAny_whileLoop (fun n s' => ∃ ρ1 K1, Kn c (FFr env.locals ρ1 :: K1) s' ∧ names ρ1 = names ρ ∧ Keep s.heap s'.heap ∧ I n ρ1 K1) ?_ n ⟨ρ, K, k, rfl, Keep.refl _, h0⟩)
 rintro n s1 ⟨ρ1, K1, k1, n1, kp1, hI⟩
 refine wpAny_mono (wp_step (turn n ρ1 K1 hI n1 (ok.to n1) s1 k1) kp1 ?_) (fun _ _ e => e) (fun _ _ e => e.elim)
 rintro b s2 x ρ2 K2 k2 n2 r2 kp2 _ h2
 obtain rfl : b = x := r2
 cases b with
 | false =>
  simp only [Bool.false_eq_true, if_false]
  refine wpAny_mono (wp_step (h2.2 rfl (ok.to (n2.trans n1)) s2 k2) kp2 fun f s3 y ρ3 K3 k3 n3 r3 kp3 _ h3 => ?_) (fun _ _ e => e) (fun _ _ e => e.elim)
  exact ⟨y, ρ3, K3, k3, n3.trans (n2.trans n1), r3, kp3, h3⟩
 | true =>
  simp only [if_true]
  refine wpAny_mono (wp_step (h2.1 rfl (ok.to (n2.trans n1)) s2 k2) kp2 fun f s3 y ρ3 K3 k3 n3 r3 kp3 _ h3 => ?_) (fun _ _ e => e) (fun _ _ e => e.elim)
  cases y with
  | next => obtain rfl : f = .next := r3; obtain ⟨m, hm, h3⟩ := h3; exact ⟨m, hm, ρ3, K3, k3, n3.trans (n2.trans n1), kp3, h3⟩
  | cont => obtain rfl : f = .cont := r3; obtain ⟨m, hm, h3⟩ := h3; exact ⟨m, hm, ρ3, K3, k3, n3.trans (n2.trans n1), kp3, h3⟩
  | brk => obtain rfl : f = .brk := r3; exact ⟨.next, ρ3, K3, k3, n3.trans (n2.trans n1), rfl, kp3, h3⟩
  | ret v => obtain ⟨u, rfl, hu⟩ := r3; exact ⟨.ret v, ρ3, K3, k3, n3.trans (n2.trans n1), ⟨u, rfl, hu⟩, kp3, h3⟩
theorem S_For {target iter : Expr} {body orelse : List Stmt} {pos : Pos}
  (h : TE c A env ρ K (eval iter env) fun x ρ1 K1 => U1 Rep c A env ρ1 K1 x pyIter fun it ρ2 K2 => ∃ (I : Nat → Loc → List Fact → Prop) (n : Nat), I n ρ2 K2 ∧
   ∀ n ρ3 K3, I n ρ3 K3 → names ρ3 = names ρ → U1 ROpt c A env ρ3 K3 it pyNext fun o ρ4 K4 => match o with
    | none => TS c A env ρ4 K4 (execs orelse env) ΦS
    | some v => U2 RU c A env ρ4 K4 it v (letOwnedTupleGo target) fun _ ρ4' K4' => U1 RU c A env ρ4' K4' v (assign target env) fun _ ρ5 K5 => TS c A env ρ5 K5 (execs body env) (Turn I n ΦS))
  (hs : ∀ x, foldedSetIterable iter env x = pure x := by intro _; rfl) : TS c A env ρ K (exec (.For target iter body orelse pos) env) ΦS := fun ok s k => by
 refine wpAny_For (wp_step (h ok s k) (Keep.refl _) fun xv sa x ρ1 K1 k1 n1 r1 kp1 _ h1 => wp_step (h1 (ok.to n1) sa xv k1 r1) kp1 fun itv sb it ρ2 K2 k2 n2 r2 kp2 _ h2 => ?_) hs
 obtain ⟨I, n, h0, turn⟩ := h2
 refine codeAny_forLoop_any (fun n s' => ∃ ρ1 K1, Kn c (FFr env.locals ρ1 :: K1) s' ∧ names ρ1 = names ρ ∧ Keep s.heap s'.heap ∧ Rep s'.heap it itv ∧ I n ρ1 K1) ?_ n ⟨ρ2, K2, k2, n2.trans n1, kp2, r2, h0⟩
 rintro n s3 ⟨ρ3, K3, k3, n3, kp3, r3, hI⟩
 refine wpAny_mono (wp_step (turn n ρ3 K3 hI n3 (ok.to n3) s3 itv k3 r3) kp3 ?_) (fun _ _ e => e) (fun _ _ e => e.elim)
 rintro o s4 y ρ4 K4 k4 n4 r4 kp4 kq4 h4
 cases y with
 | none =>
  obtain rfl : o = none := r4
  refine wpAny_mono (wp_step (h4 (ok.to (n4.trans n3)) s4 k4) kp4 fun f s5 y ρ5 K5 k5 n5 r5 kp5 _ h5 => ?_) (fun _ _ e => e) (fun _ _ e => e.elim)
  exact ⟨y, ρ5, K5, k5, n5.trans (n4.trans n3), r5, kp5, h5⟩
 | some v =>
  obtain ⟨u, rfl, hu⟩ := r4
  refine wpAny_mono (wp_step (h4 (ok.to (n4.trans n3)) s4 itv u k4 (r3.keep kq4) hu) kp4 ?_) (fun _ _ e => e) (fun _ _ e => e.elim)
  rintro _ s4' _ ρ4' K4' k4' n4' _ kp4' kq4' h4'
  refine wpAny_mono (wp_step (h4' (ok.to (n4'.trans (n4.trans n3))) s4' u k4' (hu.keep kq4')) kp4' ?_) (fun _ _ e => e) (fun _ _ e => e.elim)
  rintro _ s5 _ ρ5 K5 k5 n5 _ kp5 kq5 h5
  refine wpAny_mono (wp_step (h5 (ok.to (n5.trans (n4'.trans (n4.trans n3)))) s5 k5) kp5 fun f s6 y ρ6 K6 k6 n6 r6 kp6 kq6 h6 => ?_) (fun _ _ e => e) (fun _ _ e => e.elim)
  have hn : names ρ6 = names ρ := n6.trans (n5.trans (n4'.trans (n4.trans n3)))
  have hr : Rep s6.heap it itv := r3.keep (((kq4.trans kq4').trans kq5).trans kq6)
  cases y with
  | next => obtain rfl : f = .next := r6; obtain ⟨m, hm, h6⟩ := h6; exact ⟨m, hm, ρ6, K6, k6, hn, kp6, hr, h6⟩
  | cont => obtain rfl : f = .cont := r6; obtain ⟨m, hm, h6⟩ := h6; exact ⟨m, hm, ρ6, K6, k6, hn, kp6, hr, h6⟩
  | brk => obtain rfl : f = .brk := r6; exact ⟨.next, ρ6, K6, k6, hn, rfl, kp6, h6⟩
  | ret v => obtain ⟨u, rfl, hu⟩ := r6; exact ⟨.ret v, ρ6, K6, k6, hn, ⟨u, rfl, hu⟩, kp6, h6⟩
theorem G_Name {x : Str} {pos : Pos} {v : SV} {ΦU : Unit → Loc → List Fact → Prop} {ρ' : Loc} (p : Put x v ρ ρ') (h : ΦU () ρ' K) : U1 RU c A env ρ K v (assign (.Name x pos) env) ΦU := fun ok s u k r =>
 PyProof.Rows.assign_Name (store p ok k r fun s' k' kp => ⟨(), ρ', K, k', p.names, trivial, kp, h⟩)
theorem G_own_name {x : Str} {pos : Pos} {it v : SV} {ΦU : Unit → Loc → List Fact → Prop} (h : ΦU () ρ K) : U2 RU c A env ρ K it v (letOwnedTupleGo (.Name x pos)) ΦU := fun ok s u w k _ _ =>
 wpAny_of_eq (a := ()) rfl ⟨(), ρ, K, k, rfl, trivial, Keep.refl _, h⟩
inductive PutAll : List Str → List SV → Loc → Loc → Prop
 | nil {ρ : Loc} : PutAll [] [] ρ ρ
 | cons {x : Str} {xs : List Str} {v : SV} {vs : List SV} {ρ ρ' ρ'' : Loc} : Put x v ρ ρ' → PutAll xs vs ρ' ρ'' → PutAll (x :: xs) (v :: vs) ρ ρ''
theorem stores {ts : List (Value → Sem Unit)} {xs : List Str} {as : List SV} (ht : ts = xs.map fun x v => bindName env x v) {ρ' : Loc} (p : PutAll xs as ρ ρ') {s : Shared} {vs : List Value} {Q : Unit → Shared → Prop} (ok : Okay A env (names ρ)) (k : Kn c (FFr env.locals ρ :: K) s)
  (r : Reps s.heap as vs) (h : ∀ s', Kn c (FFr env.locals ρ' :: K) s' → names ρ' = names ρ → Keep s.heap s'.heap → Q () s') : wpAny c.M A (assignInOrder ts vs) Q nope s := by
 induction p generalizing ts s vs with
 | nil => subst ht; exact PyProof.Rows.assignInOrder_nil (h s k rfl (Keep.refl _))
 | cons p1 p2 ih =>
  subst ht
  obtain ⟨v, ws, rfl, r1, r2⟩ := r.uncons
  refine PyProof.Rows.assignInOrder_cons (PyProof.Rows.bindName_ (store p1 ok k r1 fun s1 k1 kp1 => ?_))
  exact ih rfl (ok.to p1.names) k1 (Reps.keep kp1 _ r2) fun s2 k2 n2 kp2 => h s2 k2 (n2.trans p1.names) (kp1.trans kp2)
end
section
variable {α β : Type} {R : Heap → β → α → Prop} {c : Cx} {A : Around} {env : Env} {ρ : Loc} {K : List Fact} {Φ : SV → Loc → List Fact → Prop} {ΦB : Bool → Loc → List Fact → Prop} {ΦS : SFl → Loc → List Fact → Prop}
 {ΦL : List SV → Loc → List Fact → Prop} {ΦU : Unit → Loc → List Fact → Prop}
theorem E_Tuple {elts : List Expr} {n : Nat} {pos : Pos} (h : U0 Reps c A env ρ K (spliced (backTo pos (starEach elts env))) fun xs ρ1 K1 => xs.length ≤ sizeLine ∧ Φ (.tup xs) ρ1 K1) :
  TE c A env ρ K (eval (.Tuple elts n pos) env) Φ := fun ok s k =>
 wpAny_Tuple (wp_step (h ok s k) (Keep.refl _) fun vs s1 xs ρ1 K1 k1 n1 r1 kp1 _ ⟨hl, h1⟩ => by
  refine ⟨by rw [r1.length]; exact hl, .tup xs, ρ1, K1, k1.push _ _, n1, ?_, kp1.trans (keep_push _ _), h1⟩
  simp only [Rep]
  exact ⟨_, vs.toArray, rfl, ⟨_, Heap.get?_push_size _ rfl, rfl, _, rfl⟩, Reps.keep (keep_push _ _) _ r1⟩)
inductive PutE : List Expr → List SV → Loc → Loc → Prop
 | nil {ρ : Loc} : PutE [] [] ρ ρ
 | cons {x : Str} {pos : Pos} {xs : List Expr} {v : SV} {vs : List SV} {ρ ρ' ρ'' : Loc} : Put x v ρ ρ' → PutE xs vs ρ' ρ'' → PutE (.Name x pos :: xs) (v :: vs) ρ ρ''
theorem PutE.length {es vs ρ ρ'} (p : PutE es vs ρ ρ') (env : Env) : (assignEach es env).length = vs.length := by
 induction p with
 | nil => rfl
 | cons _ _ ih => show (assignEach _ env).length + 1 = _; rw [ih]; rfl
theorem PutE.star {es vs ρ ρ'} (p : PutE es vs ρ ρ') (env : Env) : (assignEach es env).findIdx? (·.1) = none := by
 induction p with
 | nil => rfl
 | @cons x pos xs v vs ρ ρ' ρ'' _ _ ih =>
  show List.findIdx? (·.1) ((false, assign (.Name x pos) env) :: assignEach xs env) = none
  rw [List.findIdx?_cons]
  simp [ih]
theorem storesE {es : List Expr} {as : List SV} {ρ' : Loc} (p : PutE es as ρ ρ') {s : Shared} {vs : List Value} {Q : Unit → Shared → Prop} (ok : Okay A env (names ρ)) (k : Kn c (FFr env.locals ρ :: K) s)
  (r : Reps s.heap as vs) (h : ∀ s', Kn c (FFr env.locals ρ' :: K) s' → names ρ' = names ρ → Keep s.heap s'.heap → Q () s') : wpAny c.M A (assignInOrder ((assignEach es env).map (·.2)) vs) Q nope s := by
 induction p generalizing s vs with
 | nil => exact PyProof.Rows.assignInOrder_nil (h s k rfl (Keep.refl _))
 | @cons x pos xs v vs ρ ρ' ρ'' p1 p2 ih =>
  obtain ⟨v, ws, rfl, r1, r2⟩ := r.uncons
  show wpAny c.M A (assignInOrder (assign (.Name x pos) env :: (assignEach xs env).map (·.2)) (v :: ws)) Q nope s
  refine PyProof.Rows.assignInOrder_cons (PyProof.Rows.assign_Name (store p1 ok k r1 fun s1 k1 kp1 => ?_))
  exact ih (ok.to p1.names) k1 (Reps.keep kp1 _ r2) fun s2 k2 n2 kp2 => h s2 k2 (n2.trans p1.names) (kp1.trans kp2)
theorem Kn.ext (k : Kn c K s) {h' : Heap} (he : Heap.ExtBut s.heap.objs.size s.heap h') : Kn c K { s with heap := h' } ∧ Keep s.heap h' := by
 have hk : ∀ b o, s.heap.get? b = some o → h'.get? b = some o := fun b o e => he b o (Nat.ne_of_lt (Heap.lt_size e)) e
 exact ⟨k.grow (s' := { s with heap := h' }) hk rfl k.bare, fun b o e _ => hk b o e⟩
theorem G_Tuple {es : List Expr} {n : Nat} {pos : Pos} {as : List SV} {ρ' : Loc} (p : PutE es as ρ ρ') (h : ΦU () ρ' K) : U1 RU c A env ρ K (.tup as) (assign (.Tuple es n pos) env) ΦU := fun ok s u k r => by
 simp only [Rep] at r
 obtain ⟨a, vs, rfl, ht, rs⟩ := r
 refine wpAny_assign_Tuple ok.room.hh ht (by rw [p.length, ← rs.length, Array.length_toList]) (p.star env) fun h' he => ?_
 obtain ⟨k', kp⟩ := k.ext he
 exact storesE p ok k' (Reps.keep kp _ rs) fun s' k'' n' kp' => ⟨(), ρ', K, k'', n', trivial, kp.trans kp', h⟩
theorem S_AssignT {es : List Expr} {n : Nat} {tpos pos : Pos} {value : Expr}
  (h : TE c A env ρ K (eval value env) fun v ρ1 K1 => U1 RU c A env ρ1 K1 v (assign (.Tuple es n tpos) env) fun _ ρ2 K2 => ΦS .next ρ2 K2)
  (hs : swapsWithSole [.Tuple es n tpos] value pos.line env = pure false := by rfl) (hw : swappedStores [.Tuple es n tpos] value env = pure none := by rfl) :
  TS c A env ρ K (exec (.Assign [.Tuple es n tpos] value pos) env) ΦS := fun ok s k =>
 PyProof.Rows.Assign_Tuple (wp_step (h ok s k) (Keep.refl _) fun u s1 v ρ1 K1 k1 n1 r1 kp1 _ h1 =>
  wp_step (h1 (ok.to n1) s1 u k1 r1) kp1 fun _ s2 _ ρ2 K2 k2 n2 _ kp2 _ h2 => ⟨.next, ρ2, K2, k2, n2.trans n1, rfl, kp2, h2⟩) hs hw
theorem storesN {xs : List Str} {as : List SV} {ρ' : Loc} (p : PutAll xs as ρ ρ') {s : Shared} {vs : List Value} {Q : Unit → Shared → Prop} (ok : Okay A env (names ρ)) (k : Kn c (FFr env.locals ρ :: K) s)
  (r : Reps s.heap as vs) (h : ∀ s', Kn c (FFr env.locals ρ' :: K) s' → names ρ' = names ρ → Keep s.heap s'.heap → Q () s') : wpAny c.M A (assignInOrder (xs.map fun n => bindName env n) vs) Q nope s :=
 stores rfl p ok k r h
theorem S_AssignX {es : List Expr} {n : Nat} {tpos pos : Pos} {value : Expr} (ns : List Str)
  (h : TE c A env ρ K (eval value env) fun v ρ1 K1 => ∃ as ρ2, v = .tup as ∧ as.length = ns.length ∧ PutAll ns.reverse as.reverse ρ1 ρ2 ∧ ΦS .next ρ2 K1)
  (hs : swapsWithSole [.Tuple es n tpos] value pos.line env = pure false := by rfl) (hw : swappedStores [.Tuple es n tpos] value env = pure (some ns) := by rfl) :
  TS c A env ρ K (exec (.Assign [.Tuple es n tpos] value pos) env) ΦS := fun ok s k =>
 PyProof.Rows.Assign_Tuple_swapped (wp_step (h ok s k) (Keep.refl _) fun u s1 v ρ1 K1 k1 n1 r1 kp1 _ ⟨as, ρ2, ev, hl, p, h1⟩ => by
  subst ev
  simp only [Rep] at r1
  obtain ⟨a, vs, rfl, ht, rs⟩ := r1
  have hlen : ns.length = vs.size := by rw [← hl, ← rs.length, Array.length_toList]
  rw [hlen]
  refine PyProof.Rows.unpackItems_tuple ok.room.hh ht fun h' he => ?_
  obtain ⟨k', kp⟩ := k1.ext he
  exact storesN p (ok.to n1) k' (Reps.reverse (Reps.keep kp _ rs)) fun s' k'' n' kp' => ⟨.next, ρ2, K1, k'', n'.trans n1, rfl, kp1.trans (kp.trans kp'), h1⟩) hs hw
theorem S_Expr {e : Expr} {pos : Pos} (h : TE c A env ρ K (eval e env) fun v ρ1 K1 => v = .none ∧ ΦS .next ρ1 K1)
  (hi : interactive env = false := by rfl) (hs : swapsWith e none pos.line env = pure false := by rfl) : TS c A env ρ K (exec (.Expr e pos) env) ΦS := fun ok s k =>
 wpAny_Expr (wp_step (h ok s k) (Keep.refl _) fun u s1 v ρ1 K1 k1 n1 r1 kp1 _ ⟨ev, h1⟩ => by
  subst ev
  obtain rfl : u = .none := r1
  exact ⟨.next, ρ1, K1, k1, n1, rfl, kp1, h1⟩) hi hs
end
theorem ex_put {x : Str} {v : SV} {ρ ρ' : Loc} {P : Loc → Prop} (p : Put x v ρ ρ') (h : P ρ') : ∃ ρ2, Put x v ρ ρ2 ∧ P ρ2 := ⟨ρ', p, h⟩
theorem S_AssignX2 {es : List Expr} {n : Nat} {tpos pos : Pos} {value : Expr} {x y : Str} {c : Cx} {A : Around} {env : Env} {ρ : Loc} {K : List Fact} {ΦS : SFl → Loc → List Fact → Prop}
  (h : TE c A env ρ K (eval value env) fun v ρ1 K1 => ∃ a b ρ2 ρ3, v = .tup [a, b] ∧ Put y b ρ1 ρ2 ∧ Put x a ρ2 ρ3 ∧ ΦS .next ρ3 K1)
  (hs : swapsWithSole [.Tuple es n tpos] value pos.line env = pure false) (hw : swappedStores [.Tuple es n tpos] value env = pure (some [x, y])) :
  TS c A env ρ K (exec (.Assign [.Tuple es n tpos] value pos) env) ΦS :=
 S_AssignX [x, y] (U0.mono h fun v ρ1 K1 ⟨a, b, ρ2, ρ3, e, p1, p2, q⟩ => ⟨[a, b], ρ3, e, rfl, .cons p1 (.cons p2 .nil), q⟩) hs hw
theorem ex_put2 {x y : Str} {a b : SV} {ρ ρ2 ρ3 : Loc} {P : Loc → Prop} (p1 : Put y b ρ ρ2) (p2 : Put x a ρ2 ρ3) (h : P ρ3) :
  ∃ a' b' ρ2 ρ3, SV.tup [a, b] = .tup [a', b'] ∧ Put y b' ρ ρ2 ∧ Put x a' ρ2 ρ3 ∧ P ρ3 := ⟨a, b, ρ2, ρ3, rfl, p1, p2, h⟩
theorem lookup_zip {ps : List Str} {vs : List Value} {i : Nat} {x : Str} {v : Value} (hn : ps.Nodup) (hx : ps[i]? = some x) (hv : vs[i]? = some v) : (ps.zip vs).reverse.lookup x = some v := by
 induction ps generalizing vs i with
 | nil => simp at hx
 | cons p ps ih =>
  cases vs with
  | nil => simp at hv
  | cons u vs =>
   have hp := List.nodup_cons.mp hn
   simp only [List.zip_cons_cons, List.reverse_cons, List.lookup_append]
   cases i with
   | zero =>
    simp at hx hv
    subst hx; subst hv
    have : (ps.zip vs).reverse.lookup p = none := by
     rw [List.lookup_eq_none_iff]
     rintro ⟨q, w⟩ hm
     have := List.of_mem_zip (List.mem_reverse.mp hm)
     simp
     rintro rfl
     exact hp.1 this.1
    rw [this]; simp
   | succ i =>
    simp at hx hv
    rw [ih hp.2 hx hv]; simp
theorem lookup_zip_none {ps : List Str} {vs : List Value} {x : Str} (hx : x ∉ ps) : (ps.zip vs).reverse.lookup x = none := by
 rw [List.lookup_eq_none_iff]
 rintro ⟨q, w⟩ hm
 have := List.of_mem_zip (List.mem_reverse.mp hm)
 simp
 rintro rfl
 exact hx this.1
def binds (ps : List Str) (xs : List SV) (rest : List Str) : Loc := (ps.zip xs).map (fun p => (p.1, some p.2)) ++ rest.map fun x => (x, none)
theorem names_binds {ps : List Str} {xs : List SV} {rest : List Str} (h : xs.length = ps.length) : names (binds ps xs rest) = ps ++ rest := by
 unfold names binds
 simp only [List.map_append, List.map_map]
 congr 1
 ·induction ps generalizing xs with
  | nil => rfl
  | cons p ps ih =>
   cases xs with
   | nil => simp at h
   | cons x xs => simpa using ih (by simpa using h)
 ·induction rest with
  | nil => rfl
  | cons r rest ih => simpa using ih
theorem binds_ok {h : Heap} {ps : List Str} {xs : List SV} {rest : List Str} {vs : List Value} (hn : (ps ++ rest).Nodup) (hl : xs.length = ps.length) (r : Reps h xs vs) :
  ∀ p ∈ binds ps xs rest, LocOk h (fun x => (ps.zip vs).reverse.lookup x) p := by
 intro p hp
 rcases List.mem_append.mp hp with hp | hp
 ·obtain ⟨⟨q, x⟩, hq, rfl⟩ := List.mem_map.mp hp
  obtain ⟨i, hi⟩ := List.getElem?_of_mem hq
  rw [List.getElem?_zip_eq_some] at hi
  obtain ⟨v, hv, hr⟩ := r.get hi.2
  exact ⟨v, lookup_zip (List.nodup_append.mp hn).1 hi.1 hv, hr⟩
 ·obtain ⟨x, hx, rfl⟩ := List.mem_map.mp hp
  exact lookup_zip_none fun hm => (List.nodup_append.mp hn).2.2 x hm x hx rfl
def fnEnv (fd : FuncData) (a L : Addr) : Env := newEnv fd.scope L fd.globals fd.closure (fd.qualname ++ ".<locals>.") (some a) fd.code none fd.builtins
structure Plain (fd : FuncData) (body : List Stmt) (ps rest gs : List Str) : Prop where
 co : fd.scope.isCoroutine = false
 gen : fd.scope.isGenerator = false
 body : fd.body = .stmts body
 glob : fd.globals = mainGlobals
 blt : fd.builtins = builtinsNs
 kind : fd.scope.kind = .function
 cell : ∀ x ∈ fd.scope.names, x.2 ≠ .cell
 loc : ∀ x ∈ ps ++ rest, fd.scope.names.lookup x = some .local
 nodup : (ps ++ rest).Nodup
 dbg : ∀ x ∈ ps ++ rest, (x == ("__debug__" : Str)) = false
 gl : ∀ x ∈ gs, fd.scope.names.lookup x = some .globalImplicit
 bind : ∀ vs : List Value, vs.length = ps.length → bindArgs fd ⟨vs, []⟩ = pure (ps.zip vs)
def Ret (Φ : SV → List Fact → Prop) : SFl → Loc → List Fact → Prop
 | .ret v, _, K => ∃ K', K'.Sublist K ∧ Φ v K'
 | .next, _, K => ∃ K', K'.Sublist K ∧ Φ .none K'
 | _, _, _ => False
theorem Ret.rt {Φ : SV → List Fact → Prop} {v : SV} {ρ : Loc} {K : List Fact} (h : Φ v K) : Ret Φ (.ret v) ρ K := ⟨K, .refl _, h⟩
theorem Ret.nx {Φ : SV → List Fact → Prop} {ρ : Loc} {K : List Fact} (h : Φ .none K) : Ret Φ .next ρ K := ⟨K, .refl _, h⟩
theorem Ret.rtw {Φ : SV → List Fact → Prop} {v : SV} {ρ : Loc} {K K' : List Fact} (hs : K'.Sublist K) (h : Φ v K') : Ret Φ (.ret v) ρ K := ⟨K', hs, h⟩
theorem call_def {c : Cx} {A : Around} {K : List Fact} {a : Addr} {fd : FuncData} {body : List Stmt} {ps rest gs : List Str} {xs : List SV} {Φ : SV → List Fact → Prop}
  (hf : ∀ s, Kn c K s → (∃ o, s.heap.get? a = some o ∧ o.data = .func fd) ∧ s.heap.CodeRec fd.code fd.qualname) (P : Plain fd body ps rest gs) (hl : xs.length = ps.length) (hroom : Room A 1)
  (h : ∀ L, (∀ x ∈ gs, (fnEnv fd a L).kindOf x = some .globalImplicit) → TS c (A.deeper (fnEnv fd a L)) (fnEnv fd a L) (binds ps xs rest) K (execs body (fnEnv fd a L)) (Ret Φ)) :
  TCall c A K (.ref a) xs Φ := fun _ s fv vs k rf rs => by
 obtain rfl : fv = .ref a := rf
 obtain ⟨⟨o, hf1, hd⟩, hf2⟩ := hf s k
 refine wpAny_call (codeAny_call_function (by have := hroom.depth; show A.depth < recursionLimit; omega) hf1 hd P.co P.gen P.body hf2 ?_)
 refine wpAny_of_eq (P.bind vs (by rw [rs.length]; exact hl)) ?_
 refine wpAny_newFunctionEnv P.cell (fun x hx => P.loc _ (List.mem_append_left _ (List.of_mem_zip hx).1)) (fun h' hns hsb => ?_) P.kind
 have hk : ∀ b o, s.heap.get? b = some o → h'.get? b = some o := fun b o e => hsb.extBut b o (Nat.ne_of_lt (Heap.lt_size e)) (Heap.get?_push_of_some _ e)
 have kp : Keep s.heap h' := fun b o e _ => hk b o e
 refine ⟨k.lim.keeps hk, codeAny_func ?_⟩
 have k2 : Kn c (FFr (fnEnv fd a s.heap.objs.size).locals (binds ps xs rest) :: K) { s with heap := h', toks := s.toks + (ps.zip vs).length } := by
  refine k.add hk rfl k.bare ?_ (by simp [FFr]) ?_
  ·refine ⟨?_, _, hns, binds_ok P.nodup hl (Reps.keep kp _ rs)⟩
   have := names_binds (rest := rest) hl
   unfold names at this
   rw [this]; exact P.nodup
  ·intro b hb
   obtain rfl : b = s.heap.objs.size := List.mem_singleton.mp hb
   exact Nat.le_refl _
 have ok : Okay (A.deeper (fnEnv fd a s.heap.objs.size)) (fnEnv fd a s.heap.objs.size) (names (binds ps xs rest)) :=
  ⟨hroom.deeper _, P.kind, fun x hx => P.loc x (by rw [names_binds hl] at hx; exact hx), fun x hx => P.dbg x (by rw [names_binds hl] at hx; exact hx), P.glob, P.blt⟩
 refine wpAny_mono (wp_step (h s.heap.objs.size P.gl ok _ k2) kp fun f s3 y ρ3 K3 k3 n3 r3 kp3 _ h3 => ?_) (fun _ _ e => e) fun _ _ e => e.elim
 have k4 := k3.sub (K' := K3) (List.sublist_cons_self _ _)
 cases y with
 | next => obtain rfl : f = .next := r3; obtain ⟨K', hs, h3⟩ := h3; exact ⟨.none, K', k4.sub hs, rfl, kp3, h3⟩
 | brk => exact h3.elim
 | cont => exact h3.elim
 | ret v => obtain ⟨u, rfl, hu⟩ := r3; obtain ⟨K', hs, h3⟩ := h3; exact ⟨v, K', k4.sub hs, hu, kp3, h3⟩
theorem call_fn {c : Cx} {A : Around} {K : List Fact} {a : Addr} {o : Obj} {fd : FuncData} {body : List Stmt} {ps rest gs : List Str} {xs : List SV} {Φ : SV → List Fact → Prop}
  (F : FnAt c a o fd) (P : Plain fd body ps rest gs) (hl : xs.length = ps.length) (hroom : Room A 1)
  (h : ∀ L, (∀ x ∈ gs, (fnEnv fd a L).kindOf x = some .globalImplicit) → TS c (A.deeper (fnEnv fd a L)) (fnEnv fd a L) (binds ps xs rest) K (execs body (fnEnv fd a L)) (Ret Φ)) :
  TCall c A K (.ref a) xs Φ := call_def (fun s k => ⟨⟨o, F.at_ _ k.old, F.data⟩, F.code _ k.old⟩) P hl hroom h
theorem o_add (a b : Int)  : Op2 (binaryOp .Add) (.int a) (.int b) (.int (a + b)) := by
 intro prog w A s v u Q hr ha hb h
 obtain ⟨t, rfl⟩ := ha
 obtain ⟨t', rfl⟩ := hb
 exact PyProof.Rows.add_int (h _ _ (Quiet.toks ..) ⟨_, rfl⟩)
theorem o_sub (a b : Int)  : Op2 (binaryOp .Sub) (.int a) (.int b) (.int (a - b)) := by
 intro prog w A s v u Q hr ha hb h
 obtain ⟨t, rfl⟩ := ha
 obtain ⟨t', rfl⟩ := hb
 exact PyProof.Rows.sub_int (h _ _ (Quiet.toks ..) ⟨_, rfl⟩)
theorem o_mul (a b : Int) (hm : IntMulOk a b) : Op2 (binaryOp .Mult) (.int a) (.int b) (.int (a * b)) := by
 intro prog w A s v u Q hr ha hb h
 obtain ⟨t, rfl⟩ := ha
 obtain ⟨t', rfl⟩ := hb
 exact PyProof.Rows.mul_int (h _ _ (Quiet.toks ..) ⟨_, rfl⟩) hm
theorem o_div (a b : Int) (hz : b ≠ 0) (hp : Builtin.divisionGoesByPylong a b = false) : Op2 (binaryOp .FloorDiv) (.int a) (.int b) (.int (a.fdiv b)) := by
 intro prog w A s v u Q hr ha hb h
 obtain ⟨t, rfl⟩ := ha
 obtain ⟨t', rfl⟩ := hb
 exact PyProof.Rows.floordiv_int hz (h _ _ (Quiet.toks ..) ⟨_, rfl⟩) (.inl hp)
theorem o_mod (a b : Int) (hz : b ≠ 0) : Op2 (binaryOp .Mod) (.int a) (.int b) (.int (a.fmod b)) := by
 intro prog w A s v u Q hr ha hb h
 obtain ⟨t, rfl⟩ := ha
 obtain ⟨t', rfl⟩ := hb
 exact PyProof.Rows.mod_int' hz (h _ _ (Quiet.toks ..) ⟨_, rfl⟩)
theorem o_pow (a b : Int) (hn : 0 ≤ b) (hz : (Builtin.Int.intBits a : Int) * b ≤ 2 ^ 27) : Op2 (binaryOp .Pow) (.int a) (.int b) (.int (a ^ b.toNat)) := by
 intro prog w A s v u Q hr ha hb h
 obtain ⟨t, rfl⟩ := ha
 obtain ⟨t', rfl⟩ := hb
 exact PyProof.Rows.pow_int hn hz (h _ _ (Quiet.toks ..) ⟨_, rfl⟩)
theorem o_shl (a b : Int) (hn : 0 ≤ b) (hz : (Builtin.Int.intBits a : Int) + b ≤ 2 ^ 27) : Op2 (binaryOp .LShift) (.int a) (.int b) (.int (a * 2 ^ b.toNat)) := by
 intro prog w A s v u Q hr ha hb h
 obtain ⟨t, rfl⟩ := ha
 obtain ⟨t', rfl⟩ := hb
 exact PyProof.Rows.lshift_int hn hz (h _ _ (Quiet.toks ..) ⟨_, rfl⟩)
theorem o_shr (a b : Int) (hn : 0 ≤ b) : Op2 (binaryOp .RShift) (.int a) (.int b) (.int (a.fdiv (2 ^ b.toNat))) := by
 intro prog w A s v u Q hr ha hb h
 obtain ⟨t, rfl⟩ := ha
 obtain ⟨t', rfl⟩ := hb
 exact PyProof.Rows.rshift_int hn (h _ _ (Quiet.toks ..) ⟨_, rfl⟩)
theorem o_and (a b : Int)  : Op2 (binaryOp .BitAnd) (.int a) (.int b) (.int (Builtin.bitAnd a b)) := by
 intro prog w A s v u Q hr ha hb h
 obtain ⟨t, rfl⟩ := ha
 obtain ⟨t', rfl⟩ := hb
 exact PyProof.Rows.and_int (h _ _ (Quiet.toks ..) ⟨_, rfl⟩)
theorem o_or (a b : Int)  : Op2 (binaryOp .BitOr) (.int a) (.int b) (.int (Builtin.bitOr a b)) := by
 intro prog w A s v u Q hr ha hb h
 obtain ⟨t, rfl⟩ := ha
 obtain ⟨t', rfl⟩ := hb
 exact PyProof.Rows.or_int (h _ _ (Quiet.toks ..) ⟨_, rfl⟩)
theorem o_xor (a b : Int)  : Op2 (binaryOp .BitXor) (.int a) (.int b) (.int (Builtin.bitXor a b)) := by
 intro prog w A s v u Q hr ha hb h
 obtain ⟨t, rfl⟩ := ha
 obtain ⟨t', rfl⟩ := hb
 exact PyProof.Rows.xor_int (h _ _ (Quiet.toks ..) ⟨_, rfl⟩)
theorem o_iadd (a b : Int)  : Op2 (inplaceOp .Add) (.int a) (.int b) (.int (a + b)) := by
 intro prog w A s v u Q hr ha hb h
 obtain ⟨t, rfl⟩ := ha
 obtain ⟨t', rfl⟩ := hb
 exact PyProof.Rows.iadd_int (h _ _ (Quiet.toks ..) ⟨_, rfl⟩)
theorem o_isub (a b : Int)  : Op2 (inplaceOp .Sub) (.int a) (.int b) (.int (a - b)) := by
 intro prog w A s v u Q hr ha hb h
 obtain ⟨t, rfl⟩ := ha
 obtain ⟨t', rfl⟩ := hb
 exact PyProof.Rows.isub_int (h _ _ (Quiet.toks ..) ⟨_, rfl⟩)
theorem o_ishl (a b : Int) (hn : 0 ≤ b) (hz : (Builtin.Int.intBits a : Int) + b ≤ 2 ^ 27) : Op2 (inplaceOp .LShift) (.int a) (.int b) (.int (a * 2 ^ b.toNat)) := by
 intro prog w A s v u Q hr ha hb h
 obtain ⟨t, rfl⟩ := ha
 obtain ⟨t', rfl⟩ := hb
 exact PyProof.Rows.ilshift_int hn hz (h _ _ (Quiet.toks ..) ⟨_, rfl⟩)
theorem o_ishr (a b : Int) (hn : 0 ≤ b) : Op2 (inplaceOp .RShift) (.int a) (.int b) (.int (a.fdiv (2 ^ b.toNat))) := by
 intro prog w A s v u Q hr ha hb h
 obtain ⟨t, rfl⟩ := ha
 obtain ⟨t', rfl⟩ := hb
 exact PyProof.Rows.irshift_int hn (h _ _ (Quiet.toks ..) ⟨_, rfl⟩)
theorem o_eq (a b : Int)  : Op2 (compareOp .Eq) (.int a) (.int b) (.bool (a == b)) := by
 intro prog w A s v u Q hr ha hb h
 obtain ⟨t, rfl⟩ := ha
 obtain ⟨t', rfl⟩ := hb
 exact PyProof.Rows.eq_int (h _ _ (Quiet.refl _) rfl)
theorem o_ne (a b : Int)  : Op2 (compareOp .NotEq) (.int a) (.int b) (.bool (a != b)) := by
 intro prog w A s v u Q hr ha hb h
 obtain ⟨t, rfl⟩ := ha
 obtain ⟨t', rfl⟩ := hb
 exact PyProof.Rows.ne_int (h _ _ (Quiet.refl _) rfl)
theorem o_lt (a b : Int)  : Op2 (compareOp .Lt) (.int a) (.int b) (.bool (decide (a < b))) := by
 intro prog w A s v u Q hr ha hb h
 obtain ⟨t, rfl⟩ := ha
 obtain ⟨t', rfl⟩ := hb
 exact PyProof.Rows.lt_int (h _ _ (Quiet.refl _) rfl)
theorem o_le (a b : Int)  : Op2 (compareOp .LtE) (.int a) (.int b) (.bool (decide (a ≤ b))) := by
 intro prog w A s v u Q hr ha hb h
 obtain ⟨t, rfl⟩ := ha
 obtain ⟨t', rfl⟩ := hb
 exact PyProof.Rows.le_int (h _ _ (Quiet.refl _) rfl)
theorem o_gt (a b : Int)  : Op2 (compareOp .Gt) (.int a) (.int b) (.bool (decide (b < a))) := by
 intro prog w A s v u Q hr ha hb h
 obtain ⟨t, rfl⟩ := ha
 obtain ⟨t', rfl⟩ := hb
 exact PyProof.Rows.gt_int (h _ _ (Quiet.refl _) rfl)
theorem o_neg (a : Int) : Op1 (unaryOp .USub) (.int a) (.int (-a)) := by
 intro prog w A s v Q hr ha h
 obtain ⟨t, rfl⟩ := ha
 exact PyProof.Rows.neg_int (h _ _ (Quiet.toks ..) ⟨_, rfl⟩)
theorem o_inv (a : Int) : Op1 (unaryOp .Invert) (.int a) (.int (Builtin.bitNot a)) := by
 intro prog w A s v Q hr ha h
 obtain ⟨t, rfl⟩ := ha
 exact PyProof.Rows.invert_int (h _ _ (Quiet.toks ..) ⟨_, rfl⟩)
theorem t_bool (b : Bool) : OpB truthy (.bool b) b := by
 intro prog w A s v Q hr ha h
 obtain rfl : v = .bool b := ha
 exact wpAny_truthy_bool (h _ (Quiet.refl _))
theorem t_int (a : Int) : OpB truthy (.int a) (a != 0) := by
 intro prog w A s v Q hr ha h
 obtain ⟨t, rfl⟩ := ha
 exact PySem.P.truthy_int (h _ (Quiet.refl _))
theorem o_isNone (x : SV) (b : Bool) (hb : ∀ h v, Rep h x v → (v == .none) = b) : Op2 (compareOp .Is) x .none (.bool b) := by
 intro prog w A s v u Q hr ha hb' h
 obtain rfl : u = .none := hb'
 exact is_none (hb _ _ ha ▸ h _ _ (Quiet.refl _) rfl)
theorem o_isNotNone (x : SV) (b : Bool) (hb : ∀ h v, Rep h x v → (v == .none) = b) : Op2 (compareOp .IsNot) x .none (.bool (!b)) := by
 intro prog w A s v u Q hr ha hb' h
 obtain rfl : u = .none := hb'
 exact isNot_none (hb _ _ ha ▸ h _ _ (Quiet.refl _) rfl)
theorem o_isnt_bool (x y : Bool) : Op2 (compareOp .IsNot) (.bool x) (.bool y) (.bool (!(x == y))) := by
 intro prog w A s v u Q hr ha hb' h
 obtain rfl : v = .bool x := ha
 obtain rfl : u = .bool y := hb'
 refine wpAny_bind (m := isSame (.bool x) (.bool y)) (wpAny_of_eq (a := x == y) ?_ (wpAny_pure (h _ _ (Quiet.refl _) rfl)))
 cases x <;> cases y <;> rfl
theorem c_bits (a : Int) : OpC (.bi "int.bit_length") [.int a] (.int (Builtin.Int.intBits a)) := by
 intro prog w A s fv vs Q hr hf ha h
 obtain rfl : fv = .builtin "int.bit_length" := hf
 obtain ⟨v, ws, rfl, ⟨t, rfl⟩, ht⟩ := ha.uncons
 obtain rfl : ws = [] := ht
 exact call_int_bit_length (h _ _ (Quiet.toks ..) ⟨_, rfl⟩)
theorem ty_int {c : Cx} {K : List Fact} {a : Int} : ∀ s v, Kn c K s → Rep s.heap (.int a) v → s.TypeIs v "int" ∧ (∀ a, v = .ref a → ∃ ob, s.heap.get? a = some ob ∧ ob.dict = none) := by
 rintro s v _ ⟨t, rfl⟩
 exact ⟨typeIs_int s a t, by intro _ e; cases e⟩
theorem c_divmod (a b : Int) (hz : b ≠ 0) (hp : Builtin.divisionGoesByPylong a b = false) : OpC (.bi "divmod") [.int a, .int b] (.tup [.int (a.fdiv b), .int (a.fmod b)]) := by
 intro prog w A s fv vs Q hr hf ha h
 obtain rfl : fv = .builtin "divmod" := hf
 obtain ⟨v, ws, rfl, ⟨t, rfl⟩, ht⟩ := ha.uncons
 obtain ⟨v, ws, rfl, ⟨t', rfl⟩, ht2⟩ := ht.uncons
 obtain rfl : ws = [] := ht2
 refine divmod_int hz (h _ _ (Quiet.push ..) ?_) (.inl hp)
 simp only [Rep, Reps]
 exact ⟨_, _, rfl, ⟨_, Heap.get?_push_size _ rfl, rfl, _, rfl⟩, _, _, rfl, ⟨_, rfl⟩, _, _, rfl, ⟨_, rfl⟩, rfl⟩
theorem bits_le {x : Int} {m : Nat} (h : x.natAbs < 2 ^ m) : Builtin.Int.intBits x ≤ m := by
 unfold Builtin.Int.intBits
 split
 ·exact Nat.zero_le _
 ·rename_i hx
  have h0 : x.natAbs ≠ 0 := by simpa using hx
  have := (Nat.log2_lt h0).mpr h
  omega
theorem bits_of_lt {x : Int} {m : Nat} (h0 : 0 ≤ x) (h : x < 2 ^ m) : Builtin.Int.intBits x ≤ m := by
 refine bits_le ?_
 have e : ((2 ^ m : Nat) : Int) = 2 ^ m := by simp
 omega
theorem lt_of_bits {x : Int} (h0 : 0 ≤ x) : x < 2 ^ Builtin.Int.intBits x := by
 unfold Builtin.Int.intBits
 split
 ·rename_i hx; have : x = 0 := by simpa using hx
  subst this; decide
 ·have := Nat.lt_log2_self (n := x.natAbs)
  have e : ((2 ^ (x.natAbs.log2 + 1) : Nat) : Int) = 2 ^ (x.natAbs.log2 + 1) := by simp
  omega
theorem pow_mono {m n : Nat} (h : m ≤ n) : (2 : Int) ^ m ≤ 2 ^ n := by
 have := Nat.pow_le_pow_right (n := 2) (by decide) h
 exact_mod_cast this
theorem mul_ok {a b : Int} (h : Builtin.Int.intBits a + Builtin.Int.intBits b ≤ 2 ^ 27) : IntMulOk a b := by
 unfold IntMulOk
 have : Builtin.Int.intTooBig (Builtin.Int.intBits a + Builtin.Int.intBits b) = false := by
  unfold Builtin.Int.intTooBig
  refine decide_eq_false ?_
  show ¬ ((Builtin.Int.intBits a : Int) + Builtin.Int.intBits b > ((2 ^ 27 : Nat) : Int))
  omega
 rw [this]; simp
theorem noPylong {a b : Int} {d : Nat} (hb : b ≠ 0) (h : Builtin.Int.intBits a ≤ Builtin.Int.intBits b + 4000) : Builtin.divisionGoesByPylong a b = false := by
 unfold Builtin.divisionGoesByPylong
 unfold Builtin.Int.intBits at h
 have hb' : (b == 0) = false := by simpa using hb
 simp only [hb', Bool.false_eq_true, if_false] at h ⊢
 rw [Bool.and_eq_false_iff]
 right
 refine decide_eq_false ?_
 cases ha : (a == 0)
 ·rw [ha] at h
  simp only [Bool.false_eq_true, if_false] at h ⊢
  omega
 ·simp
theorem and_mask {x : Int} {m : Nat} (h0 : 0 ≤ x) : Builtin.bitAnd x (1 * 2 ^ m - 1) = x % 2 ^ m := by
 have hm : (0 : Int) ≤ 1 * 2 ^ m - 1 := by have : (0 : Int) < 2 ^ m := Int.pow_pos (by decide); omega
 unfold Builtin.bitAnd
 simp only [decide_eq_true h0, decide_eq_true hm]
 have e : (1 * 2 ^ m - 1 : Int).toNat = 2 ^ m - 1 := by
  have e : ((2 ^ m : Nat) : Int) = 2 ^ m := by simp
  omega
 rw [e, Nat.and_two_pow_sub_one_eq_mod]
 have : x = (x.toNat : Int) := (Int.toNat_of_nonneg h0).symm
 rw [this]; simp
theorem and_one {x : Int} (h0 : 0 ≤ x) : Builtin.bitAnd x 1 = x % 2 := by
 have := and_mask (x := x) (m := 1) h0
 simpa using this
theorem or_low {x y : Int} {m : Nat} (hx : 0 ≤ x) (hy : 0 ≤ y) (h : y < 2 ^ m) : Builtin.bitOr (x * 2 ^ m) y = x * 2 ^ m + y := by
 have hp : (0 : Int) ≤ x * 2 ^ m := Int.mul_nonneg hx (Int.le_of_lt (Int.pow_pos (by decide)))
 have nn : ∀ z : Int, 0 ≤ z → Builtin.bitNot z < 0 := fun z hz => by unfold Builtin.bitNot; omega
 unfold Builtin.bitOr Builtin.bitAnd
 have h1 : decide (0 ≤ Builtin.bitNot (x * 2 ^ m)) = false := decide_eq_false (by have := nn _ hp; omega)
 have h2 : decide (0 ≤ Builtin.bitNot y) = false := decide_eq_false (by have := nn _ hy; omega)
 simp only [h1, h2]
 have nnn : ∀ z : Int, Builtin.bitNot (Builtin.bitNot z) = z := fun z => by unfold Builtin.bitNot; omega
 rw [nnn, nnn, nnn]
 obtain ⟨a, rfl⟩ := Int.eq_ofNat_of_zero_le hx
 obtain ⟨b, rfl⟩ := Int.eq_ofNat_of_zero_le hy
 have hb : b < 2 ^ m := by exact_mod_cast h
 have e : ((a : Int) * 2 ^ m).toNat = 2 ^ m * a := by
  have : (a : Int) * 2 ^ m = ((2 ^ m * a : Nat) : Int) := by push_cast; rw [Int.mul_comm]
  rw [this]; exact Int.toNat_natCast _
 rw [e, Int.toNat_natCast, ← Nat.two_pow_add_eq_or_of_lt hb]
 push_cast
 rw [Int.mul_comm]
def lst (vs : Array Value) (n : Nat) : Obj := { cls := .type "list", dict := none, data := .seq vs n, slots := #[] }
def FList (a : Addr) (xs : List SV) : Fact where
 keys := [a]
 holds h := ∃ vs n, h.get? a = some (lst vs n) ∧ Reps h xs vs.toList
 stable := by
  rintro h h' ⟨vs, n, e, r⟩ k hk
  exact ⟨vs, n, hk a (by simp) _ e, Reps.keep k _ r⟩
 own := by
  rintro h ⟨vs, n, e, r⟩ k hk
  obtain rfl : k = a := List.mem_singleton.mp hk
  exact ⟨_, e, notImm_list rfl rfl⟩
inductive Chg (f f' : Fact) : List Fact → List Fact → Prop
 | here {K : List Fact} : Chg f f' (f :: K) (f' :: K)
 | there {g : Fact} {K K' : List Fact} : Chg f f' K K' → Chg f f' (g :: K) (g :: K')
theorem Chg.perm {f f' : Fact} {K K' : List Fact} (h : Chg f f' K K') : ∃ R, K.Perm (f :: R) ∧ (f' :: R).Perm K' := by
 induction h with
 | here => exact ⟨_, .refl _, .refl _⟩
 | there _ ih =>
  obtain ⟨R, p, q⟩ := ih
  exact ⟨_ :: R, (p.cons _).trans (.swap ..), (List.Perm.swap ..).trans (q.cons _)⟩
section
variable {α β : Type} {R : Heap → β → α → Prop} {c : Cx} {A : Around} {env : Env} {ρ : Loc} {K K' : List Fact} {Φ : SV → Loc → List Fact → Prop} {ΦB : Bool → Loc → List Fact → Prop} {ΦS : SFl → Loc → List Fact → Prop}
 {ΦL : List SV → Loc → List Fact → Prop} {ΦU : Unit → Loc → List Fact → Prop} {s : Shared} {f f' : Fact}
theorem Kn.chg (k : Kn c K s) (h : Chg f f' K K') {s' : Shared} (hb : ∀ b o, b ∉ f.keys → s.heap.get? b = some o → s'.heap.get? b = some o)
  (ho : s'.os = s.os) (hg : GOk c.base s'.gens) (hf : f'.holds s'.heap) (hkeys : ∀ a ∈ f'.keys, a ∈ f.keys ∨ s.heap.objs.size ≤ a) (hn : f'.keys.Nodup) : Kn c K' s' ∧ Keep s.heap s'.heap := by
 obtain ⟨R, p, q⟩ := h.perm
 exact ⟨((k.perm p).change hb ho hg hf hkeys hn).perm q, (k.perm p).change_keep hb⟩
theorem Kn.list (k : Kn c K s) {a : Addr} {xs : List SV} (h : FList a xs ∈ K) : ∃ vs n, s.heap.get? a = some (lst vs n) ∧ Reps s.heap xs vs.toList := k.facts _ h
theorem isList_of {h : Heap} {a : Addr} {vs : Array Value} {n : Nat} (e : h.get? a = some (lst vs n)) : h.IsList a vs := ⟨_, e, rfl, _, rfl⟩
theorem mapSeq_lst (g : Array Value → Array Value) (vs : Array Value) (n : Nat) : ∃ n', (lst vs n).mapSeq g = lst (g vs) n' := ⟨_, rfl⟩
theorem Kn.listSet (k : Kn c K s) {a : Addr} {xs ys : List SV} (h : Chg (FList a xs) (FList a ys) K K') {vs : Array Value} {n : Nat} (e : s.heap.get? a = some (lst vs n)) (g : Array Value → Array Value)
  (r : ∀ hp, Keep s.heap hp → Reps hp ys (g vs).toList) (tk : Nat) : Kn c K' { s with heap := s.heap.update a (Obj.mapSeq g), toks := tk } ∧ Keep s.heap (s.heap.update a (Obj.mapSeq g)) := by
 have hb : ∀ b o, b ∉ (FList a xs).keys → s.heap.get? b = some o → (s.heap.update a (Obj.mapSeq g)).get? b = some o := fun b o hb e => ((Heap.SameBut.update s.heap a _).2 b (fun q => hb (q ▸ List.mem_singleton.mpr rfl))).trans e
 have kp : Keep s.heap (s.heap.update a (Obj.mapSeq g)) := by
  obtain ⟨R, p, q⟩ := h.perm
  exact (k.perm p).change_keep (s' := { s with heap := s.heap.update a (Obj.mapSeq g), toks := tk }) hb
 obtain ⟨n', hn'⟩ := mapSeq_lst g vs n
 exact k.chg h hb rfl k.bare ⟨g vs, n', hn' ▸ Heap.get?_update_self _ e (hn' ▸ rfl), r _ kp⟩ (fun _ ha => .inl ha) (by simp [FList])
theorem Kn.listNew (k : Kn c K s) {xs : List SV} {vs : Array Value} (r : Reps s.heap xs vs.toList) (n tk : Nat) :
  Kn c (FList s.heap.objs.size xs :: K) { s with heap := s.heap.push (lst vs n), toks := tk } := by
 refine k.add (s' := { s with heap := s.heap.push (lst vs n), toks := tk }) (fun _ _ e => Heap.get?_push_of_some _ e) rfl k.bare ⟨vs, n, Heap.get?_push_size _ rfl, Reps.keep (keep_push _ _) _ r⟩ (by simp [FList]) ?_
 intro b hb
 obtain rfl : b = s.heap.objs.size := List.mem_singleton.mp hb
 exact Nat.le_refl _
theorem Kn.swap {g g' : Fact} (k : Kn c (g :: g' :: K) s) : Kn c (g' :: g :: K) s := k.perm (.swap ..)
theorem E_List {elts : List Expr} {pos : Pos} (h : U0 Reps c A env ρ K (spliced (backTo pos (starEach elts env))) fun xs ρ1 K1 => xs.length ≤ sizeLine ∧ ∀ a, Φ (.ref a) ρ1 (FList a xs :: K1)) :
  TE c A env ρ K (eval (.List elts pos) env) Φ := fun ok s k =>
 wpAny_List (wp_step (h ok s k) (Keep.refl _) fun vs s1 xs ρ1 K1 k1 n1 r1 kp1 _ ⟨hl, h1⟩ => by
  exact ⟨by rw [r1.length]; exact hl, .ref s1.heap.objs.size, ρ1, _, (k1.listNew (vs := vs.toArray) r1 0 s1.toks).swap, n1, rfl, kp1.trans (keep_push _ _), h1 _⟩)
theorem ty_list {c : Cx} {K : List Fact} {a : Addr} {xs : List SV} (h : FList a xs ∈ K) : ∀ s v, Kn c K s → Rep s.heap (.ref a) v → s.TypeIs v "list" ∧ (∀ a, v = .ref a → ∃ ob, s.heap.get? a = some ob ∧ ob.dict = none) := by
 rintro s v k rfl
 obtain ⟨vs, n, e, _⟩ := k.list h
 exact ⟨⟨_, e, rfl⟩, by rintro _ ⟨rfl⟩; exact ⟨_, e, rfl⟩⟩
theorem c_len_list {a : Addr} {xs : List SV} (h : FList a xs ∈ K) (hl : xs.length < 2 ^ 20) {Ψ : SV → List Fact → Prop} (hq : Ψ (.int xs.length) K) : TCall c A K (.bi "len") [.ref a] Ψ := fun rm s fv vs k rf rs => by
 obtain rfl : fv = .builtin "len" := rf
 obtain ⟨v, ws, rfl, rfl, ht⟩ := rs.uncons
 obtain rfl : ws = [] := ht
 obtain ⟨us, n, e, r⟩ := k.list h
 have hlen : us.size = xs.length := by rw [← Array.length_toList]; exact r.length
 refine PySem.Calls.call_len_list (isList_of e) (by omega) ⟨.int xs.length, K, k.quiet (.toks ..), ?_, Keep.refl _, hq⟩
 rw [hlen]; exact ⟨_, rfl⟩
theorem c_append {a : Addr} {xs : List SV} {x : SV} (h : Chg (FList a xs) (FList a (xs ++ [x])) K K') (hl : xs.length < 2 ^ 20) {Ψ : SV → List Fact → Prop} (hq : Ψ .none K') : TCall c A K (.bi "list.append") [.ref a, x] Ψ := fun rm s fv vs k rf rs => by
 obtain rfl : fv = .builtin "list.append" := rf
 obtain ⟨v, ws, rfl, rfl, ht⟩ := rs.uncons
 obtain ⟨u, ws, rfl, ru, ht2⟩ := ht.uncons
 obtain rfl : ws = [] := ht2
 obtain ⟨R, p, _⟩ := h.perm
 obtain ⟨us, n, e, r⟩ := (k.perm p).list List.mem_cons_self
 have hlen : us.size = xs.length := by rw [← Array.length_toList]; exact r.length
 have hs : sizeLine = 2 ^ 24 := rfl
 obtain ⟨k', kp⟩ := k.listSet h e (fun x => x.push u) (fun hp kp => by rw [Array.toList_push]; exact Reps.append (Reps.keep kp _ r) (Reps.one (ru.keep kp))) s.toks
 exact call_meets PySem.slot_list_append ⟨_, e, rfl⟩ PySem.entry_list_append (PySem.args_list_append _ _) (PySem.AutoListH.list_append_list_val_0 a us n u (by omega)) ⟨e, ⟨.none, K', k', rfl, kp, hq⟩⟩
theorem c_reverse {a : Addr} {xs : List SV} (h : Chg (FList a xs) (FList a xs.reverse) K K') (hl : xs.length < 2 ^ 20) {Ψ : SV → List Fact → Prop} (hq : Ψ .none K') : TCall c A K (.bi "list.reverse") [.ref a] Ψ := fun rm s fv vs k rf rs => by
 obtain rfl : fv = .builtin "list.reverse" := rf
 obtain ⟨v, ws, rfl, rfl, ht⟩ := rs.uncons
 obtain rfl : ws = [] := ht
 obtain ⟨R, p, _⟩ := h.perm
 obtain ⟨us, n, e, r⟩ := (k.perm p).list List.mem_cons_self
 have hlen : us.size = xs.length := by rw [← Array.length_toList]; exact r.length
 have hs : sizeLine = 2 ^ 24 := rfl
 obtain ⟨k', kp⟩ := k.listSet h e (fun x => x.reverse) (fun hp kp => by rw [Array.toList_reverse]; exact Reps.reverse (Reps.keep kp _ r)) s.toks
 exact call_meets PySem.F.slot_list_reverse ⟨_, e, rfl⟩ PySem.F.entry_list_reverse (PySem.F.args_list_reverse_1 _) (PySem.AutoSeq1.list_reverse_list_0 a us n (by omega)) ⟨e, ⟨.none, K', k', rfl, kp, hq⟩⟩
end
def FCs (cs : List (Str × Addr)) (γ : Loc) : Fact where
 keys := cs.map Prod.snd
 holds h := ∃ cm : Str → Option Value, (∀ p ∈ cs, h.IsCell p.2 (cm p.1)) ∧ (∀ q ∈ γ, LocOk h cm q) ∧ (names γ).Nodup ∧ (∀ p ∈ cs, p.1 ∈ names γ) ∧ (cs.map Prod.fst).Nodup
 stable := by
  rintro h h' ⟨cm, hc, hl, r⟩ k hk
  refine ⟨cm, fun p hp => ?_, fun q hq => (hl q hq).keep k, r⟩
  obtain ⟨o, ho, hd⟩ := hc p hp
  exact ⟨o, hk p.2 (List.mem_map.mpr ⟨p, hp, rfl⟩) o ho, hd⟩
 own := by
  rintro h ⟨cm, hc, r⟩ k hk
  obtain ⟨p, hp, rfl⟩ := List.mem_map.mp hk
  obtain ⟨o, ho, hd⟩ := hc p hp
  exact ⟨o, ho, notImm_cell hd⟩
structure Cells (env : Env) (cl : List (Str × Addr)) : Prop where
 kind : ∀ p ∈ cl, env.kindOf p.1 = some .cell ∨ env.kindOf p.1 = some .free
 at_ : ∀ p ∈ cl, env.cells.lookup p.1 = some p.2
 dbg : ∀ p ∈ cl, (p.1 == ("__debug__" : Str)) = false ∧ (p.1 == ("__classdict__" : Str)) = false
section
variable {α β : Type} {R : Heap → β → α → Prop} {c : Cx} {A : Around} {env : Env} {ρ : Loc} {K K' : List Fact} {Φ : SV → Loc → List Fact → Prop} {ΦB : Bool → Loc → List Fact → Prop} {ΦS : SFl → Loc → List Fact → Prop}
 {ΦL : List SV → Loc → List Fact → Prop} {ΦU : Unit → Loc → List Fact → Prop} {s : Shared} {f f' : Fact}
theorem E_Cell {x : Str} {a : Addr} {pos : Pos} {v : SV} {cl cs : List (Str × Addr)} {γ : Loc} (hC : Cells env cl) (hx : (x, a) ∈ cl) (hf : FCs cs γ ∈ K) (hxs : (x, a) ∈ cs) (hv : (x, some v) ∈ γ) (hq : Φ v ρ K) :
  TE c A env ρ K (eval (.Name x pos) env) Φ := fun ok s k => by
 obtain ⟨cm, hc, hl, _⟩ := k.facts _ (List.mem_cons_of_mem _ hf)
 obtain ⟨u, hu, hr⟩ := hl _ hv
 have hcell := hc _ hxs
 have hu : cm x = some u := hu
 have hcell : s.heap.IsCell a (some u) := hu ▸ hcell
 have p : Post Rep c env.locals (names ρ) s.heap Φ u s := ⟨v, ρ, K, k, rfl, hr, Keep.refl _, hq⟩
 refine wpAny_Name ?_ (hC.dbg _ hx).1
 rcases hC.kind _ hx with h | h
 ·exact wpAny_loadName_cell ok.kind h (hC.at_ _ hx) hcell p
 ·exact wpAny_loadName_free ok.kind h (hC.at_ _ hx) hcell p (hC.dbg _ hx).2
theorem storeC {x : Str} {a : Addr} {v : SV} {cl cs : List (Str × Addr)} {γ γ' : Loc} (hC : Cells env cl) (hx : (x, a) ∈ cl) (hk : env.kindOf x = some .cell) (hxs : (x, a) ∈ cs) (p : Put x v γ γ') (hf : Chg (FCs cs γ) (FCs cs γ') K K')
  {s : Shared} {u : Value} {Q : Unit → Shared → Prop} (ok : Okay A env (names ρ)) (k : Kn c (FFr env.locals ρ :: K) s) (r : Rep s.heap v u)
  (h : ∀ s', Kn c (FFr env.locals ρ :: K') s' → Keep s.heap s'.heap → Q () s') : wpAny c.M A (storeName env x u) Q nope s := by
 obtain ⟨R, pm, _⟩ := hf.perm
 obtain ⟨cm, hc, hl, hn, hnm, hnc⟩ := (k.sub (List.sublist_cons_self _ _)).perm pm |>.facts _ List.mem_cons_self
 refine wpAny_storeName_cell ok.kind hk (hC.at_ _ hx) (hc _ hxs) fun h' hcell hs => ?_
 have hnd : (cs.map Prod.snd).Nodup := by
  have := ((k.sub (List.sublist_cons_self _ _)).perm pm).nodup
  rw [List.flatMap_cons, List.nodup_append] at this
  exact this.1
 have hb : ∀ b o, b ∉ (FCs cs γ).keys → s.heap.get? b = some o → h'.get? b = some o := fun b o hb e => (hs.2 b (fun q => hb (q ▸ List.mem_map.mpr ⟨(x, a), hxs, rfl⟩))).trans e
 have kp : Keep s.heap h' := ((k.sub (List.sublist_cons_self _ _)).perm pm).change_keep (s' := { s with heap := h' }) hb
 have key : (FCs cs γ').holds h' := by
  refine ⟨fun y => if y = x then some u else cm y, fun q hq => ?_, fun q hq => ?_, by rw [p.names]; exact hn, fun q hq => by rw [p.names]; exact hnm q hq, hnc⟩
  ·by_cases hqx : q = (x, a)
   ·subst hqx; simpa using hcell
   ·have hne : q.1 ≠ x := fun e => hqx (by
     obtain ⟨i, hi⟩ := List.getElem?_of_mem hq
     obtain ⟨j, hj⟩ := List.getElem?_of_mem hxs
     have h1 : (cs.map Prod.fst)[i]? = some x := by rw [List.getElem?_map, hi]; simp [e]
     have h2 : (cs.map Prod.fst)[j]? = some x := by rw [List.getElem?_map, hj]; rfl
     have hij : i = j := by
      have hi' : i < (cs.map Prod.fst).length := (List.getElem?_eq_some_iff.mp h1).1
      exact (List.getElem?_inj hi' hnc).mp (h1.trans h2.symm)
     rw [hij, hj] at hi
     exact (Option.some.inj hi).symm)
    have hna : q.2 ≠ a := fun e => hqx (by
     obtain ⟨i, hi⟩ := List.getElem?_of_mem hq
     obtain ⟨j, hj⟩ := List.getElem?_of_mem hxs
     have h1 : (cs.map Prod.snd)[i]? = some a := by rw [List.getElem?_map, hi]; simp [e]
     have h2 : (cs.map Prod.snd)[j]? = some a := by rw [List.getElem?_map, hj]; rfl
     have hij : i = j := by
      have hi' : i < (cs.map Prod.snd).length := (List.getElem?_eq_some_iff.mp h1).1
      exact (List.getElem?_inj hi' hnd).mp (h1.trans h2.symm)
     rw [hij, hj] at hi
     exact (Option.some.inj hi).symm)
    simp only [hne, if_false]
    exact (hc q hq).sameBut hs hna
  ·rcases p.cases hn q hq with rfl | ⟨hq, hne⟩
   ·exact ⟨u, by simp, r.keep kp v⟩
   ·have := (hl q hq).keep kp
    obtain ⟨n, o⟩ := q
    cases o with
    | none => show (if n = x then some u else cm n) = none; rw [if_neg hne]; exact this
    | some y => obtain ⟨w, hw, hr⟩ := this; exact ⟨w, by show (if n = x then some u else cm n) = some w; rw [if_neg hne]; exact hw, hr⟩
 have res := k.chg (.there hf) (s' := { s with heap := h' }) hb rfl k.bare key (fun _ ha => .inl ha) hnd
 exact h _ res.1 res.2
theorem S_AssignC {x : Str} {a : Addr} {pos' pos : Pos} {value : Expr} {cl : List (Str × Addr)} (hC : Cells env cl) (hx : (x, a) ∈ cl) (hk : env.kindOf x = some .cell)
  (h : TE c A env ρ K (eval value env) fun v ρ1 K1 => ∃ cs γ γ' K2, (x, a) ∈ cs ∧ Chg (FCs cs γ) (FCs cs γ') K1 K2 ∧ Put x v γ γ' ∧ ΦS .next ρ1 K2)
  (hs : swapsWith value (some (.Name x pos')) pos.line env = pure false := by rfl) : TS c A env ρ K (exec (.Assign [.Name x pos'] value pos) env) ΦS := fun ok s k =>
 wpAny_Assign_Name (wp_step (h ok s k) (Keep.refl _) fun v s1 x ρ1 K1 k1 n1 r1 kp1 _ ⟨cs, γ, γ', K2, hxs, hf, p, h1⟩ =>
  storeC hC hx hk hxs p hf (ok.to n1) k1 r1 fun s2 k2 kp2 => ⟨.next, ρ1, K2, k2, n1, rfl, kp1.trans kp2, h1⟩) hs
end
theorem bindL_eq {kindOf : Str → Option NameKind} {x : Str} (hx : kindOf x = some .local) : ∀ (l : List (Str × Value)) (m : Str → Option Value), bindL kindOf l m x = (l.reverse.lookup x).or (m x)
 | [], m => by simp [bindL]
 | (n, v) :: r, m => by
  unfold bindL
  rw [bindL_eq hx r, List.reverse_cons, List.lookup_append]
  by_cases hn : x = n
  ·subst hn; simp [hx, Option.or_assoc]
  ·have hb : (x == n) = false := beq_eq_false_iff_ne.mpr hn
   by_cases hk : kindOf n = some .local <;> simp [hk, hn, hb, List.lookup_cons]
theorem bindC_eq {kindOf : Str → Option NameKind} {x : Str} (hx : kindOf x ≠ some .local) : ∀ (l : List (Str × Value)) (m : Str → Option Value), bindC kindOf l m x = (l.reverse.lookup x).or (m x)
 | [], m => by simp [bindC]
 | (n, v) :: r, m => by
  unfold bindC
  rw [bindC_eq hx r, List.reverse_cons, List.lookup_append]
  by_cases hn : x = n
  ·subst hn; simp [hx, Option.or_assoc]
  ·have hb : (x == n) = false := beq_eq_false_iff_ne.mpr hn
   by_cases hk : kindOf n = some .local <;> simp [hk, hn, hb, List.lookup_cons]
structure PlainC (fd : FuncData) (body : List Stmt) (ps rest gs ls ks : List Str) (csf : Nat → List (Str × Addr)) : Prop where
 co : fd.scope.isCoroutine = false
 gen : fd.scope.isGenerator = false
 body : fd.body = .stmts body
 glob : fd.globals = mainGlobals
 blt : fd.builtins = builtinsNs
 kind : fd.scope.kind = .function
 clo : fd.closure = []
 loc : ∀ x ∈ ls, fd.scope.names.lookup x = some .local
 cel : ∀ x ∈ ks, fd.scope.names.lookup x = some .cell
 par : ∀ x ∈ ps, x ∈ ls ∨ x ∈ ks
 nodup : (ps ++ rest).Nodup
 lsn : ls.Nodup
 ksn : ks.Nodup
 dbg : ∀ x ∈ ls ++ ks, (x == ("__debug__" : Str)) = false ∧ (x == ("__classdict__" : Str)) = false
 gl : ∀ x ∈ gs, fd.scope.names.lookup x = some .globalImplicit
 bind : ∀ vs : List Value, vs.length = ps.length → bindArgs fd ⟨vs, []⟩ = pure (ps.zip vs)
 cells : ∀ L, cellsFrom (L + 1) fd.scope.names [] = csf L
 csn : ∀ L, (csf L).map Prod.fst = ks
 csa : ∀ L, (csf L).all (fun p => decide (L < p.2)) = true
theorem call_defC {c : Cx} {A : Around} {K : List Fact} {a : Addr} {o : Obj} {fd : FuncData} {body : List Stmt} {ps rest gs ls ks : List Str} {csf : Nat → List (Str × Addr)} {xs : List SV} {ρ0 γ0 : Loc} {Φ : SV → List Fact → Prop}
  (F : FnAt c a o fd) (P : PlainC fd body ps rest gs ls ks csf) (hl : xs.length = ps.length) (hroom : Room A 1)
  (hρ : ρ0 ⊆ binds ps xs rest) (hγ : γ0 ⊆ binds ps xs rest) (nρ : names ρ0 = ls) (nγ : names γ0 = ks)
  (h : ∀ L, (∀ x ∈ gs, (callEnvC fd L a).kindOf x = some .globalImplicit) → Cells (callEnvC fd L a) (csf L) → (∀ x ∈ ks, (callEnvC fd L a).kindOf x = some .cell) →
   TS c (A.deeper (callEnvC fd L a)) (callEnvC fd L a) ρ0 (FCs (csf L) γ0 :: K) (execs body (callEnvC fd L a)) (Ret Φ)) :
  TCall c A K (.ref a) xs Φ := fun _ s fv vs k rf rs => by
 obtain rfl : fv = .ref a := rf
 have hkl : ∀ x ∈ ls, fd.scope.names.lookup x = some .local := P.loc
 have hvl : vs.length = ps.length := by rw [rs.length]; exact hl
 refine wpAny_call (codeAny_call_cells (by have := hroom.depth; show A.depth < recursionLimit; omega) (F.at_ _ k.old) F.data k.lim (F.code _ k.old) P.body (P.bind vs hvl) P.clo (fun x hx => ?_) (fun s₁ X => ?_) P.co P.gen P.kind)
 ·rcases P.par _ (List.of_mem_zip hx).1 with hm | hm
  ·exact .inl (P.loc _ hm)
  ·refine .inr ⟨P.cel _ hm, ?_⟩
   rw [P.cells, ← P.csn s.heap.objs.size] at *
   obtain ⟨p, hp, e⟩ := List.mem_map.mp hm
   cases hlk : (csf s.heap.objs.size).lookup x.1 with
   | some _ => rfl
   | none =>
    rw [List.lookup_eq_none_iff] at hlk
    have := hlk p hp
    rw [e] at this
    simp at this
 ·generalize hL : s.heap.objs.size = L at X
  have hcl : (callEnvC fd L a).locals = L := rfl
  have hcc : (callEnvC fd L a).cells = csf L := P.cells L
  rw [hcc, hcl] at X
  obtain ⟨⟨⟨h1, tk, rfl⟩, hns, hk, _⟩, hcell, hap, hab⟩ := X
  have kp : Keep s.heap h1 := fun b o e _ => hk b o e
  have hks : ∀ x ∈ ks, (callEnvC fd L a).kindOf x ≠ some .local := fun x hx => by show fd.scope.names.lookup x ≠ _; rw [P.cel x hx]; decide
  have hlk : ∀ x ∈ ls, (callEnvC fd L a).kindOf x = some .local := P.loc
  have hbo : ∀ q ∈ binds ps xs rest, LocOk h1 (fun x => (ps.zip vs).reverse.lookup x) q := binds_ok P.nodup hl (Reps.keep kp _ rs)
  have hnd : ((csf L).map Prod.fst).Nodup := by rw [P.csn]; exact P.ksn
  have hlook : ∀ p ∈ csf L, (csf L).lookup p.1 = some p.2 := fun p hp => by
   cases hq : (csf L).lookup p.1 with
   | none =>
    rw [List.lookup_eq_none_iff] at hq
    have := hq p hp
    simp at this
   | some b =>
    have hm := mem_of_lookup hq
    obtain ⟨i, hi⟩ := List.getElem?_of_mem hm
    obtain ⟨j, hj⟩ := List.getElem?_of_mem hp
    have h1 : ((csf L).map Prod.fst)[i]? = some p.1 := by rw [List.getElem?_map, hi]; rfl
    have h2 : ((csf L).map Prod.fst)[j]? = some p.1 := by rw [List.getElem?_map, hj]; rfl
    have hij : i = j := (List.getElem?_inj (List.getElem?_eq_some_iff.mp h1).1 hnd).mp (h1.trans h2.symm)
    rw [hij, hj] at hi
    rw [Option.some.inj hi]
  have f1 : (FCs (csf L) γ0).holds h1 := by
   refine ⟨_, fun p hp => hcell _ _ (hlook p hp), fun q hq => ?_, ?_, fun p hp => ?_, hnd⟩
   ·have hb := hbo q (hγ hq)
    have hqk : q.1 ∈ ks := by rw [← nγ]; exact List.mem_map.mpr ⟨q, hq, rfl⟩
    have e := bindC_eq (hks _ hqk) (ps.zip vs) (fun _ => none)
    obtain ⟨n, oo⟩ := q
    cases oo with
    | none => show bindC _ _ _ n = none; rw [e]; show Option.or _ none = none; rw [show (ps.zip vs).reverse.lookup n = none from hb]; rfl
    | some y => obtain ⟨u, hu, hr⟩ := hb; exact ⟨u, by show bindC _ _ _ n = some u; rw [e]; show Option.or _ none = _; rw [show (ps.zip vs).reverse.lookup n = some u from hu]; rfl, hr⟩
   ·rw [nγ]; exact P.ksn
   ·rw [nγ, ← P.csn L]; exact List.mem_map.mpr ⟨p, hp, rfl⟩
  have f2 : (FFr L ρ0).holds h1 := by
   refine ⟨?_, _, hns, fun q hq => ?_⟩
   ·have := P.lsn; rw [← nρ] at this; exact this
   ·have hb := hbo q (hρ hq)
    have hqk : q.1 ∈ ls := by rw [← nρ]; exact List.mem_map.mpr ⟨q, hq, rfl⟩
    have e := bindL_eq (hlk _ hqk) (ps.zip vs) (fun _ => none)
    obtain ⟨n, oo⟩ := q
    cases oo with
    | none => show bindL _ _ _ n = none; rw [e]; show Option.or _ none = none; rw [show (ps.zip vs).reverse.lookup n = none from hb]; rfl
    | some y => obtain ⟨u, hu, hr⟩ := hb; exact ⟨u, by show bindL _ _ _ n = some u; rw [e]; show Option.or _ none = _; rw [show (ps.zip vs).reverse.lookup n = some u from hu]; rfl, hr⟩
  have k3 : Kn c (FFr L ρ0 :: FCs (csf L) γ0 :: K) { s with heap := h1, toks := tk } := by
   refine k.addAll (fs := [FFr L ρ0, FCs (csf L) γ0]) (s' := { s with heap := h1, toks := tk }) hk rfl k.bare (fun g hg => ?_) ?_ fun b hb => ?_
   ·rcases List.mem_cons.mp hg with rfl | hg
    ·exact f2
    ·rw [List.mem_singleton.mp hg]; exact f1
   ·show ([L] ++ ((csf L).map Prod.snd ++ [])).Nodup
    rw [List.append_nil, List.nodup_append]
    refine ⟨by simp, ?_, fun b hb d hd e => ?_⟩
    ·rw [List.Nodup, List.pairwise_map]; exact hap
    ·obtain rfl : b = L := List.mem_singleton.mp hb
     subst e
     obtain ⟨p, hp, e⟩ := List.mem_map.mp hd
     have h3 := of_decide_eq_true (List.all_eq_true.mp (P.csa b) p hp)
     rw [e] at h3; exact Nat.lt_irrefl _ h3
   ·have hb : b ∈ [L] ++ ((csf L).map Prod.snd ++ []) := hb
    rw [List.append_nil] at hb
    rcases List.mem_append.mp hb with hb | hb
    ·obtain rfl : b = L := List.mem_singleton.mp hb
     exact Nat.le_of_eq hL
    ·obtain ⟨p, hp, rfl⟩ := List.mem_map.mp hb
     have h3 := of_decide_eq_true (List.all_eq_true.mp (P.csa L) p hp)
     rw [hL]; exact Nat.le_of_lt h3
  have ok : Okay (A.deeper (callEnvC fd L a)) (callEnvC fd L a) (names ρ0) :=
   ⟨hroom.deeper _, P.kind, fun x hx => hlk x (nρ ▸ hx), fun x hx => (P.dbg x (List.mem_append_left _ (nρ ▸ hx))).1, P.glob, P.blt⟩
  have hC : Cells (callEnvC fd L a) (csf L) :=
   ⟨fun p hp => .inl (P.cel _ (by rw [← P.csn L]; exact List.mem_map.mpr ⟨p, hp, rfl⟩)), fun p hp => by rw [hcc]; exact hlook p hp,
    fun p hp => P.dbg _ (List.mem_append_right _ (by rw [← P.csn L]; exact List.mem_map.mpr ⟨p, hp, rfl⟩))⟩
  refine wpAny_mono (wp_step (h L P.gl hC P.cel ok _ k3) kp fun f s3 y ρ3 K3 k3 n3 r3 kp3 _ h3 => ?_) (fun _ _ e => e) fun _ _ e => e.elim
  have k4 := k3.sub (K' := K3) (List.sublist_cons_self _ _)
  cases y with
  | next => obtain rfl : f = .next := r3; obtain ⟨K', hs, h3⟩ := h3; exact ⟨.none, K', k4.sub hs, rfl, kp3, h3⟩
  | brk => exact h3.elim
  | cont => exact h3.elim
  | ret v => obtain ⟨u, rfl, hu⟩ := r3; obtain ⟨K', hs, h3⟩ := h3; exact ⟨v, K', k4.sub hs, hu, kp3, h3⟩
def fdIn (name qual : Str) (params : Arguments) (body : List Stmt) (scope : Scope) (clos : List (Str × Addr)) (doc pm cv ctv : Value) : FuncData :=
 { name := name, qualname := qual, params := params, body := .stmts body, scope := scope, globals := mainGlobals, closure := clos, defaults := .none, kwdefaults := .none, doc := doc, pyModule := pm, annotations := none, code := cv, closureTuple := ctv, builtins := builtinsNs }
section
variable {c : Cx} {A : Around} {K : List Fact} {s : Shared} {env : Env} {name qual : Str} {params : Arguments} {body : List Stmt} {scope : Scope} {clos : List (Str × Addr)} {t : Tab}
theorem newFn (k : Kn c K s) (fd : FuncData) {Q : Value → Shared → Prop} (h : ∀ f s' o, Kn c K s' → Keep s.heap s'.heap → s'.heap.get? f = some o → o.cls = .type "function" → o.data = .func fd → Q (.ref f) s') :
  wpAny c.M A (newObj (.type "function") (.func fd)) Q nope s :=
 wpAny_newObj_type (h _ _ _ (k.push _ s.toks) (keep_push _ _) (Heap.get?_push_size _ rfl) rfl rfl) (by size_fits)
theorem makeTail_ (k : Kn c K s) (ht : t ∈ c.tabs) (hcl : closureFor scope env = pure clos) (hge : env.globals = mainGlobals) (hcode : env.code = .ref t.c) {firstLine : Nat} {Q : Value → Shared → Prop}
  (h : ∀ f s' o doc pm cv ctv, Kn c K s' → Keep s.heap s'.heap → s'.heap.get? f = some o → o.cls = .type "function" → o.data = .func (fdIn name t.qual params body scope clos doc pm cv ctv) → CodeI s'.heap cv t.qual → Q (.ref f) s') :
  wpAny c.M A (makeTail name t.qual params (.stmts body) scope env .none .none none t.pos firstLine) Q nope s := by
 have main : ∀ (s1 : Shared) (ctv : Value), Kn c K s1 → Keep s.heap s1.heap → wpAny c.M A (functionCode env t.pos firstLine name t.qual params scope (.stmts body)) (fun cv s2 => Kn c K s2 ∧ Keep s.heap s2.heap ∧ CodeI s2.heap cv t.qual) nope s1 := by
  intro s1 ctv k1 kp1
  obtain ⟨ps, hP, htr, hnf | ⟨c', hf, hcI, _⟩⟩ := k1.tabs t ht
  ·have hd := c.tabHd t ht _ k1.old
   refine wpAny_functionCodeX hcode (hd.code hP htr) (hd.tab hP) hnf fun c' h' tk hx hge hlt _ hrec htb ⟨P', _, _, htc⟩ => ?_
   obtain ⟨⟨oc, vc, e1, e2, e3, _⟩, _⟩ := htc
   obtain ⟨d, o', vs', tq, eq1, eo, ed, ev⟩ := hrec
   cases eq1
   rw [e1] at eo; cases eo
   have hI : CodeI h' (.ref c') t.qual := ⟨c', oc, vs', tq, rfl, e1, e2, ed, ev⟩
   obtain ⟨k2, kp2⟩ := k1.tabNew (tk := tk) ht hP htr hnf hx htb.2 hge hI
   exact ⟨k2, kp1.trans kp2, hI⟩
  ·exact wpAny_functionCode_hit hcode ((c.tabHd t ht _ k1.old).code hP htr) hf ⟨k1, kp1, hcI⟩
 have rest : ∀ (s1 : Shared) (ctv : Value), Kn c K s1 → Keep s.heap s1.heap → wpAny c.M A (functionCode env t.pos firstLine name t.qual params scope (.stmts body)) (fun cv s2 =>
   wpAny c.M A (do
    let b ← builtinsFor env.globals env.builtins
    let n ← nsGet env.globals "__name__"
    let d ← (match docOf body with | some s => mkText s | none => pure .none)
    newObj (.type "function") (.func { name, qualname := t.qual, params, body := .stmts body, scope, globals := env.globals, closure := clos, closureTuple := ctv, code := cv, builtins := b, defaults := .none, kwdefaults := .none, annotations := none, pyModule := n.getD .none, doc := d })) Q nope s2) nope s1 := by
  intro s1 ctv k1 kp1
  refine wpAny_mono (main s1 ctv k1 kp1) (fun cv s2 ⟨k2, kp2, hI⟩ => ?_) fun _ _ e => e
  rw [hge]
  obtain ⟨bm, ob, hbm, hne0, _, hneP, hbo, hcls, hdict, hdata⟩ := c.hbm _ k2.old t.P (c.tabAt t ht).2.2 (let ⟨ps, hP, _⟩ := k2.tabs t ht; ⟨ps, hP⟩)
  have hg := c.hg _ k2.old
  refine wpAny_bind (wpAny_builtinsFor hg hbm hne0 hbo hcls hdict hdata ?_)
  refine wpAny_bind (wpAny_nsGet hg ?_)
  cases docOf body with
  | none => exact wpAny_bind (wpAny_pure (newFn k2 _ fun f s' o k3 kp3 ho hcl hd => h f s' o _ _ _ _ k3 (kp2.trans kp3) ho hcl hd (hI.keep kp3)))
  | some x => exact wpAny_bind (wpAny_mkText (newFn (k2.toks _) _ fun f s' o k3 kp3 ho hcl hd => h f s' o _ _ _ _ k3 (kp2.trans kp3) ho hcl hd (hI.keep kp3)))
 unfold makeTail
 rw [hcl]
 refine wpAny_bind (wpAny_pure ?_)
 cases clos with
 | nil =>
  simp only [List.isEmpty_nil, if_true]
  exact wpAny_bind (wpAny_pure (wpAny_bind (rest s .none k (Keep.refl _))))
 | cons q r =>
  simp only [List.isEmpty_cons, Bool.false_eq_true, if_false]
  refine wpAny_bind (wpAny_newTextTuple ?_)
  exact wpAny_bind (rest _ _ (k.push _ s.toks) (keep_push _ _))
end
def FFn (f : Addr) (fd : FuncData) : Fact where
 keys := []
 holds h := (∃ o, h.get? f = some o ∧ o.cls = .type "function" ∧ o.data = .func fd) ∧ CodeI h fd.code fd.qualname
 stable := by
  rintro h h' ⟨⟨o, e, cl, d⟩, ci⟩ k _
  exact ⟨⟨o, k _ _ e (.inr (.inl ⟨cl, _, d⟩)), cl, d⟩, ci.keep k⟩
 own := by rintro h _ k hk; exact absurd hk (by simp)
theorem Kn.addFn {c : Cx} {K : List Fact} {s : Shared} (k : Kn c K s) {f : Addr} {fd : FuncData} (h : (FFn f fd).holds s.heap) : Kn c (FFn f fd :: K) s :=
 k.add (s' := s) (fun _ _ e => e) rfl k.bare h (by simp [FFn]) (by simp [FFn])
section
variable {c : Cx} {A : Around} {env : Env} {ρ : Loc} {K : List Fact} {ΦS : SFl → Loc → List Fact → Prop} {Φ : SV → Loc → List Fact → Prop}
theorem S_DefC {name : Str} {params : Arguments} {body : List Stmt} {scope : Scope} {pos : Pos} {t : Tab} {clos cl : List (Str × Addr)} {a : Addr} (ht : t ∈ c.tabs) (hcode : env.code = .ref t.c) (hpos : t.pos = pos) (hq : qualnameIn env name name = t.qual)
  (hcl : closureFor scope env = pure clos) (hd0 : params.defaults = []) (hk0 : params.kw_defaults = []) (ha : annTrees params none env = []) (hC : Cells env cl) (hx : (name, a) ∈ cl) (hk : env.kindOf name = some .cell)
  (h : ∀ f doc pm cv ctv, ∃ cs γ γ' K2, (name, a) ∈ cs ∧ Chg (FCs cs γ) (FCs cs γ') (FFn f (fdIn name t.qual params body scope clos doc pm cv ctv) :: K) K2 ∧ Put name (.ref f) γ γ' ∧ ΦS .next ρ K2) :
  TS c A env ρ K (exec (.FunctionDef name params body [] none [] scope none name pos) env) ΦS := fun ok s k => by
 refine PySem.W.nestDef_K hd0 hk0 ha ?_
 rw [makeFunction_eq, hq, ← hpos]
 simp only [List.zip_nil_right, List.filterMap_nil, List.isEmpty_nil, if_true, pure_bind]
 refine makeTail_ k ht hcl ok.glob hcode fun f s1 o doc pm cv ctv k1 kp1 ho hcl hd hI => ?_
 obtain ⟨cs, γ, γ', K2, hxs, hf, p, h1⟩ := h f doc pm cv ctv
 have k2 := (k1.addFn (f := f) (fd := fdIn name t.qual params body scope clos doc pm cv ctv) ⟨⟨o, ho, hcl, hd⟩, hI⟩).swap
 exact storeC hC hx hk hxs p hf ok k2 rfl fun s2 k3 kp3 => ⟨.next, ρ, K2, k3, rfl, rfl, kp1.trans kp3, h1⟩
theorem CallK_in {pos : Pos} {f : Addr} {fd : FuncData} {first : List SV} {args : List Expr} (hF : FFn f fd ∈ K)
  (h : U0 Reps c A env ρ K (spliced (backTo pos (starEach args env))) fun xs ρ2 K2 => TCall c A (FFr env.locals ρ2 :: K2) (.ref f) (first ++ xs) (Fx env.locals ρ2 Φ))
  (hp : (backTo pos (starEach args env)).any (·.1) = false := by rfl) : CallK c A env ρ K pos (.ref f) first args Φ := fun ok s fv fs k rf rfs => by
 obtain rfl : fv = .ref f := rf
 obtain ⟨⟨o, ho, hcl, hd⟩, _⟩ := k.facts _ (List.mem_cons_of_mem _ hF)
 exact Calls.callWith_function (o := o) (fd := fd) (evalArgs_all hp (wp_step (h ok s k) (Keep.refl _) fun vs s2 xs ρ2 K2 k2 n2 r2 kp2 _ h2 =>
  ⟨⟨kp2 _ _ ho (.inr (.inl ⟨hcl, _, hd⟩)), hd⟩, CallK.end (f := .ref f) ok n2 k2 rfl (Reps.append (Reps.keep kp2 _ rfs) r2) kp2 h2⟩))
theorem call_in {f : Addr} {fd : FuncData} {body : List Stmt} {ps rest gs : List Str} {xs : List SV} {Φ : SV → List Fact → Prop} (hF : FFn f fd ∈ K) (P : Plain fd body ps rest gs) (hl : xs.length = ps.length) (hroom : Room A 1)
  (h : ∀ L, (∀ x ∈ gs, (fnEnv fd f L).kindOf x = some .globalImplicit) → TS c (A.deeper (fnEnv fd f L)) (fnEnv fd f L) (binds ps xs rest) K (execs body (fnEnv fd f L)) (Ret Φ)) :
  TCall c A K (.ref f) xs Φ :=
 call_def (fun s k => by
  obtain ⟨⟨o, ho, hcl, hd⟩, hI⟩ := k.facts _ hF
  exact ⟨⟨o, ho, hd⟩, hI.rec_⟩) P hl hroom h
end
section
variable {c : Cx} {A : Around} {env : Env} {ρ : Loc} {K K' : List Fact} {Φ : SV → Loc → List Fact → Prop} {ΦB : Bool → Loc → List Fact → Prop} {ΦS : SFl → Loc → List Fact → Prop}
theorem E_Sub {value slice : Expr} {pos : Pos} (h : TE c A env ρ K (eval value env) fun o ρ1 K1 => TE c A env ρ1 K1 (eval slice env) fun i ρ2 K2 => U2 Rep c A env ρ2 K2 o i (subscriptTail value slice) Φ) :
  TE c A env ρ K (eval (.Subscript value slice pos) env) Φ := fun ok s k =>
 PyProof.Rows.Subscript_ (wp_step (h ok s k) (Keep.refl _) fun v s1 x ρ1 K1 k1 n1 r1 kp1 _ h1 =>
  wp_step (h1 (ok.to n1) s1 k1) kp1 fun u s2 y ρ2 K2 k2 n2 r2 kp2 kq2 h2 =>
   wp_step (h2 (ok.to (n2.trans n1)) s2 v u k2 (r1.keep kq2) r2) kp2 fun z s3 zz ρ3 K3 k3 n3 r3 kp3 _ h3 => ⟨zz, ρ3, K3, k3, n3.trans (n2.trans n1), r3, kp3, h3⟩)
theorem i_list {value slice : Expr} {a : Addr} {xs : List SV} {i : Int} {x : SV} (hm : FList a xs ∈ K) (h0 : 0 ≤ i) (hx : xs[i.toNat]? = some x) (hl : xs.length < 2 ^ 20) (hq : Φ x ρ K)
  (hs : ∀ o u : Value, subscripted slice false o u = operate [o, u] (getItem o u) := by intros; with_unfolding_all rfl) : U2 Rep c A env ρ K (.ref a) (.int i) (subscriptTail value slice) Φ := fun ok s v u k ra rb => by
 obtain rfl : v = .ref a := ra
 obtain ⟨t, rfl⟩ := rb
 obtain ⟨vs, n, e, r⟩ := k.list (List.mem_cons_of_mem _ hm)
 obtain ⟨y, hy, ry⟩ := r.get hx
 have hlt : i.toNat < xs.length := (List.getElem?_eq_some_iff.mp hx).1
 exact tail_any (isList_of e).typeIs slot_list_getitem.lookup (wpAny_getItem_list (isList_of e) h0 (by omega) (by simpa using hy) ⟨x, ρ, K, k, rfl, ry, Keep.refl _, hq⟩) (hs _ _)
theorem setItem_lst {prog : Program} {w : World} {A : Around} {E : Value → Shared → Prop} {s : Shared} {l : Addr} {vs : Array Value} {n : Nat} {k : Int} {t : Tok} {v : Value} {Q : Unit → Shared → Prop} (ho : s.heap.get? l = some (lst vs n))
  (h0 : 0 ≤ k) (hfit : Builtin.List.listFitsIndex k = true) (hn : k < vs.size) (hQ : Q () { s with heap := s.heap.update l (Obj.mapSeq (·.setIfInBounds k.toNat v)) }) : wpAny (model prog w) A (setItem (.ref l) (.int k t) v) Q E s := by
 have hl := isList_of ho
 unfold setItem
 refine wpAny_holding ?_
 refine wpAny_bind (wpAny_sequenceKey hl.typeIs (by decide) ?_)
 refine wpAny_bind (wpAny_callSpecial?_slot (name := Str.ofString "__setitem__") hl.typeIs slot_list_setitem
  (wpAny_call_entry slot_list_setitem hl.typeIs entry_list_setitem ?_ (args_list_setitem _ _ _)))
 show wpAny _ _ (Builtin.List.listSubscript? (.int k t) >>= _) _ _ s
 refine wpAny_bind (wpAny_listSubscript_int hfit ?_)
 clear hfit
 obtain ⟨j, rfl⟩ := Int.eq_ofNat_of_zero_le h0
 have hj : j < vs.size := by omega
 show wpAny _ _ ((seqItemAt l j >>= fun r => pure (r.map (j, ·))) >>= _) _ _ s
 refine wpAny_bind (wpAny_bind (wpAny_seqItemAt ho rfl (wpAny_pure ?_)))
 rw [Array.getElem?_eq_getElem hj]
 show wpAny _ _ (setSeqItemAt l j v >>= _) _ _ s
 refine wpAny_bind (wpAny_setSeqItemAt ho rfl ?_)
 first
  | exact wpAny_bind (wpAny_pure (wpAny_pure ⟨.none, rfl, wpAny_pure hQ⟩))
  | exact wpAny_pure ⟨.none, rfl, wpAny_pure hQ⟩
theorem S_AssignSub {o i value : Expr} {pos' pos : Pos}
  (h : TE c A env ρ K (eval value env) fun v ρ1 K1 => TE c A env ρ1 K1 (eval o env) fun ov ρ2 K2 => TE c A env ρ2 K2 (eval i env) fun iv ρ3 K3 => ∃ a k xs K4, ov = .ref a ∧ iv = .int k ∧ 0 ≤ k ∧ k.toNat < xs.length ∧ xs.length < 2 ^ 20 ∧
   Chg (FList a xs) (FList a (xs.set k.toNat v)) K3 K4 ∧ ΦS .next ρ3 K4)
  (hs : swapsWith value (some (.Subscript o i pos')) pos.line env = pure false := by rfl) : TS c A env ρ K (exec (.Assign [.Subscript o i pos'] value pos) env) ΦS := fun ok s k =>
 wpAny_Assign_Subscript (wp_step (h ok s k) (Keep.refl _) fun v s1 x ρ1 K1 k1 n1 r1 kp1 _ h1 =>
  wp_step (h1 (ok.to n1) s1 k1) kp1 fun u s2 y ρ2 K2 k2 n2 r2 kp2 kq2 h2 =>
   wp_step (h2 (ok.to (n2.trans n1)) s2 k2) kp2 fun w s3 z ρ3 K3 k3 n3 r3 kp3 kq3 h3 => by
    obtain ⟨a, j, xs, K4, rfl, rfl, h0, hlt, hl, hch, hq⟩ := h3
    obtain rfl : u = .ref a := r2
    obtain ⟨t, rfl⟩ := r3
    obtain ⟨R, p, _⟩ := hch.perm
    obtain ⟨vs, n, e, r⟩ := ((k3.sub (List.sublist_cons_self _ _)).perm p).list List.mem_cons_self
    have hlen : vs.size = xs.length := by rw [← Array.length_toList]; exact r.length
    have rx : Rep s3.heap x v := (r1.keep kq2).keep kq3
    obtain ⟨k', kp⟩ := k3.listSet (.there hch) e (·.setIfInBounds j.toNat v) (fun hp kp => by
     rw [Array.toList_setIfInBounds]; exact Reps.set (rx.keep kp) _ (Reps.keep kp _ r)) s3.toks
    exact setItem_lst e h0 (fitsIndex_of h0 (by omega)) (by omega) ⟨.next, ρ3, K4, k', n3.trans (n2.trans n1), rfl, kp3.trans kp, hq⟩) hs
end
inductive Rem (f : Fact) : List Fact → List Fact → Prop
 | here {K : List Fact} : Rem f (f :: K) K
 | there {g : Fact} {K K' : List Fact} : Rem f K K' → Rem f (g :: K) (g :: K')
inductive Pick : List Fact → List Fact → Prop
 | nil {K : List Fact} : Pick [] K
 | cons {f : Fact} {K K1 K2 : List Fact} : Rem f K1 K2 → Pick K K2 → Pick (f :: K) K1
theorem Rem.perm {f : Fact} {K K' : List Fact} (h : Rem f K K') : K.Perm (f :: K') := by
 induction h with
 | here => exact .refl _
 | there _ ih => exact (ih.cons _).trans (.swap ..)
theorem Pick.refl : ∀ {K : List Fact}, Pick K K
 | [] => .nil
 | _ :: _ => .cons .here Pick.refl
theorem Pick.perm {K K' : List Fact} (h : Pick K K') : ∃ R, K'.Perm (K ++ R) := by
 induction h with
 | nil => exact ⟨_, .refl _⟩
 | cons r _ ih =>
  obtain ⟨R, p⟩ := ih
  exact ⟨R, r.perm.trans (p.cons _)⟩
section
variable {α β : Type} {R : Heap → β → α → Prop} {c : Cx} {A : Around} {env : Env} {ρ : Loc} {K K' : List Fact} {Φ : SV → Loc → List Fact → Prop} {ΦB : Bool → Loc → List Fact → Prop} {ΦS : SFl → Loc → List Fact → Prop}
 {ΦU : Unit → Loc → List Fact → Prop} {s : Shared} {f g : Fact}
theorem Kn.pick (k : Kn c K' s) (h : Pick K K') : Kn c K s := by
 obtain ⟨R, p⟩ := h.perm
 exact (k.perm p).sub (List.sublist_append_left _ _)
theorem Kn.pick1 (k : Kn c (g :: K') s) (h : Pick K K') : Kn c (g :: K) s := k.pick (.cons .here h)
theorem U0.pick {t : Sem α} {Φ : β → Loc → List Fact → Prop} (p : Pick K' K) (h : U0 R c A env ρ K' t Φ) : U0 R c A env ρ K t Φ := fun ok s k => h ok s (k.pick1 p)
structure Iter (c : Cx) (A : Around) (T : Expr → Prop) (it : Addr) (N : List Fact) (F : List SV → Fact) (Mi : Value → List SV → Fact) : Prop where
 next : ∀ x xs K s (Q : Option Value → Shared → Prop), Kn c (F (x :: xs) :: K) s → (∀ f ∈ N, f ∈ K) → (∀ v s', Kn c (Mi v xs :: K) s' → Rep s'.heap x v → Keep s.heap s'.heap → Q (some v) s') → wpAny c.M A (pyNext (.ref it)) Q nope s
 go : ∀ t x xs K s v (Q : Unit → Shared → Prop), T t → Kn c (Mi v xs :: K) s → Rep s.heap x v → (∀ s', Kn c (F xs :: K) s' → Keep s.heap s'.heap → Q () s') → wpAny c.M A (letOwnedTupleGo t (.ref it) v) Q nope s
 stop : ∀ K s (Q : Option Value → Shared → Prop), Kn c (F [] :: K) s → (∀ f ∈ N, f ∈ K) → (∀ s', Kn c K s' → Keep s.heap s'.heap → Q none s') → wpAny c.M A (pyNext (.ref it)) Q nope s
 self : ∀ xs K s (Q : Value → Shared → Prop), Kn c (F xs :: K) s → (∀ f ∈ N, f ∈ K) → Q (.ref it) s → wpAny c.M A (pyIter (.ref it)) Q nope s
def Itb (c : Cx) (A : Around) (T : Expr → Prop) (K K3 : List Fact) (x : SV) (xs : List SV) (N : List Fact) : Prop :=
 ∀ g s v (Q : Value → Shared → Prop), Kn c (g :: K) s → Rep s.heap x v → (∀ it F Mi s', Iter c A T it N F Mi → Kn c (F xs :: g :: K3) s' → Keep s.heap s'.heap → Q (.ref it) s') → wpAny c.M A (pyIter v) Q nope s
def TurnI (F : Fact) (J : List SV → Loc → List Fact → Prop) (rest : List SV) (ΦS : SFl → Loc → List Fact → Prop) : SFl → Loc → List Fact → Prop
 | .next, ρ, K => ∃ K5, Pick (F :: K5) K ∧ J rest ρ K5
 | .cont, ρ, K => ∃ K5, Pick (F :: K5) K ∧ J rest ρ K5
 | .brk, ρ, K => ∃ K5, Pick K5 K ∧ ΦS .next ρ K5
 | .ret v, ρ, K => ΦS (.ret v) ρ K
theorem TurnI.nx {J : List SV → Loc → List Fact → Prop} {rest : List SV} {K5 : List Fact} (p : Pick (f :: K5) K) (h : J rest ρ K5) : TurnI f J rest ΦS .next ρ K := ⟨K5, p, h⟩
theorem TurnI.rt {J : List SV → Loc → List Fact → Prop} {rest : List SV} {v : SV} (h : ΦS (.ret v) ρ K) : TurnI f J rest ΦS (.ret v) ρ K := h
theorem S_ForI {target iter : Expr} {body orelse : List Stmt} {pos : Pos}
  (h : TE c A env ρ K (eval iter env) fun x ρ1 K1 => ∃ T xs N K3 J, Itb c A T K1 K3 x xs N ∧ T target ∧ J xs ρ1 K3 ∧ (∀ xs ρ2 K2, J xs ρ2 K2 → ∀ f ∈ N, f ∈ K2) ∧
   (∀ F x rest ρ2 K2, J (x :: rest) ρ2 K2 → names ρ2 = names ρ → U1 RU c A env ρ2 (F :: K2) x (assign target env) fun _ ρ3 K4 => TS c A env ρ3 K4 (execs body env) (TurnI F J rest ΦS)) ∧
   (∀ ρ2 K2, J [] ρ2 K2 → names ρ2 = names ρ → TS c A env ρ2 K2 (execs orelse env) ΦS))
  (hs : ∀ x, foldedSetIterable iter env x = pure x := by intro _; rfl) : TS c A env ρ K (exec (.For target iter body orelse pos) env) ΦS := fun ok s k => by
 refine wpAny_For (wp_step (h ok s k) (Keep.refl _) fun xv sa x ρ1 K1 k1 n1 r1 kp1 _ h1 => ?_) hs
 obtain ⟨T, xs, N, K3, J, hI, hT, hJ, hN, turn, fin⟩ := h1
 refine hI _ sa xv _ k1 r1 fun it F Mi sb hi k2 kp2 => ?_
 refine (codeAny_forLoop_any (fun n s' => ∃ xs ρ1 K1, n = xs.length ∧ Kn c (F xs :: FFr env.locals ρ1 :: K1) s' ∧ names ρ1 = names ρ ∧ Keep s.heap s'.heap ∧ J xs ρ1 K1) ?_ xs.length ⟨xs, ρ1, K3, rfl, k2, n1, kp1.trans kp2, hJ⟩)
 rintro n s3 ⟨xs, ρ3, K4, rfl, k3, n3, kp3, hJ3⟩
 have hN3 : ∀ f ∈ N, f ∈ FFr env.locals ρ3 :: K4 := fun f hf => List.mem_cons_of_mem _ (hN _ _ _ hJ3 f hf)
 cases xs with
 | nil =>
  refine wpAny_mono (hi.stop _ s3 (fun o s4 => match o with
   | none => Kn c (FFr env.locals ρ3 :: K4) s4 ∧ Keep s3.heap s4.heap
   | some _ => False) k3 hN3 fun s4 k4 kp4 => ⟨k4, kp4⟩) ?_ (fun _ _ e => e.elim)
  rintro o s4 h4
  cases o with
  | some _ => exact h4.elim
  | none =>
   obtain ⟨k4, kp4⟩ := h4
   exact wpAny_mono (wp_step (fin ρ3 K4 hJ3 n3 (ok.to n3) s4 k4) (kp3.trans kp4) fun f s5 y ρ5 K5 k5 n5 r5 kp5 _ h5 => ⟨y, ρ5, K5, k5, n5.trans n3, r5, kp5, h5⟩) (fun _ _ e => e) (fun _ _ e => e.elim)
 | cons x rest =>
  refine wpAny_mono (hi.next x rest _ s3 (fun o s4 => match o with
   | none => False
   | some v => Kn c (Mi v rest :: FFr env.locals ρ3 :: K4) s4 ∧ Rep s4.heap x v ∧ Keep s3.heap s4.heap) k3 hN3 fun v s4 k4 r4 kp4 => ⟨k4, r4, kp4⟩) ?_ (fun _ _ e => e.elim)
  rintro o s4 h4
  cases o with
  | none => exact h4.elim
  | some v =>
   obtain ⟨k4, r4, kp4⟩ := h4
   refine wpAny_mono (hi.go target x rest _ s4 v (fun _ s5 => Kn c (F rest :: FFr env.locals ρ3 :: K4) s5 ∧ Keep s4.heap s5.heap) hT k4 r4 fun s5 k5 kp5 => ⟨k5, kp5⟩) ?_ (fun _ _ e => e.elim)
   rintro _ s5 ⟨k5, kp5⟩
   have kp35 := (kp3.trans kp4).trans kp5
   refine wpAny_mono (wp_step (turn (F rest) x rest ρ3 K4 hJ3 n3 (ok.to n3) s5 v k5.swap (r4.keep kp5)) kp35 ?_) (fun _ _ e => e) (fun _ _ e => e.elim)
   rintro _ s6 _ ρ6 K6 k6 n6 _ kp6 _ h6
   refine wpAny_mono (wp_step (h6 (ok.to (n6.trans n3)) s6 k6) kp6 fun f s7 y ρ7 K7 k7 n7 r7 kp7 _ h7 => ?_) (fun _ _ e => e) (fun _ _ e => e.elim)
   have hn := n7.trans (n6.trans n3)
   cases y with
   | next => obtain rfl : f = .next := r7; obtain ⟨K8, p, h8⟩ := h7; exact ⟨rest.length, Nat.lt_succ_self _, rest, ρ7, K8, rfl, (k7.pick1 p).swap, hn, kp7, h8⟩
   | cont => obtain rfl : f = .cont := r7; obtain ⟨K8, p, h8⟩ := h7; exact ⟨rest.length, Nat.lt_succ_self _, rest, ρ7, K8, rfl, (k7.pick1 p).swap, hn, kp7, h8⟩
   | brk => obtain rfl : f = .brk := r7; obtain ⟨K8, p, h8⟩ := h7; exact ⟨.next, ρ7, K8, k7.pick1 p, hn, rfl, kp7, h8⟩
   | ret v => obtain ⟨u, rfl, hu⟩ := r7; exact ⟨.ret v, ρ7, K7, k7, hn, ⟨u, rfl, hu⟩, kp7, h7⟩
end
def FOb (a : Addr) (P : Obj → Prop) : Fact where
 keys := [a]
 holds h := ∃ o, h.get? a = some o ∧ P o ∧ ¬ Imm o
 stable := by
  rintro h h' ⟨o, e, r⟩ k hk
  exact ⟨o, hk a (by simp) _ e, r⟩
 own := by
  rintro h ⟨o, e, r, q⟩ k hk
  obtain rfl : k = a := List.mem_singleton.mp hk
  exact ⟨_, e, q⟩
theorem Kn.ob {c : Cx} {K : List Fact} {s : Shared} (k : Kn c K s) {a : Addr} {P : Obj → Prop} (h : FOb a P ∈ K) : ∃ o, s.heap.get? a = some o ∧ P o := let ⟨o, e, p, _⟩ := k.facts _ h; ⟨o, e, p⟩
def ownedT : List String := ["enumerate", "zip", "dict_itemiterator", "dict_reverseitemiterator", "odict_iterator", "itertools.zip_longest", "itertools.pairwise"]
theorem go_other {M : Model} {A : Around} {t : Expr} {it : Addr} {v : Value} {o : Obj} {n : String} {s : Shared} {Q : Unit → Shared → Prop} {E : Value → Shared → Prop}
  (ho : s.heap.get? it = some o) (hc : o.cls = .type n) (hn : ownedT.contains n = false) (h : Q () s) : wpAny M A (letOwnedTupleGo t (.ref it) v) Q E s := by
 have key : wpAny M A (do
   let (.ref r, .ref a) := ((.ref it, v) : Value × Value) | return
   let o ← load r
   match o.cls, o.data with
   | .type n, .fields vs =>
    if ["enumerate", "zip", "dict_itemiterator", "dict_reverseitemiterator", "odict_iterator", "itertools.zip_longest", "itertools.pairwise"].contains n && vs[0]? == some (rawInt a) then
     rule "for.unpacks-the-owned-tuple"
     updateField r 0 .none
   | _, _ => pure ()) Q E s := by
  cases v with
  | ref a =>
   refine wpAny_bind (wpAny_load ho ?_)
   rw [hc]
   cases o.data with
   | fields vs =>
    have hn' : (["enumerate", "zip", "dict_itemiterator", "dict_reverseitemiterator", "odict_iterator", "itertools.zip_longest", "itertools.pairwise"].contains n) = false := hn
    simp only [hn', Bool.false_and, Bool.false_eq_true, if_false]
    exact wpAny_pure h
   | _ => exact wpAny_pure h
  | _ => exact wpAny_pure h
 unfold letOwnedTupleGo
 cases t with
 | Tuple a b d => exact key
 | List a b => exact key
 | _ => exact wpAny_pure h
def FNone : Fact where
 keys := []
 holds _ := True
 stable := fun _ _ _ _ _ => trivial
 own := by rintro h _ k hk; exact absurd hk (by simp)
section
variable {c : Cx} {A : Around} {K K' : List Fact} {s : Shared}
theorem Kn.forget {f : Fact} {s' : Shared} (k : Kn c (f :: K) s) (hb : ∀ b o, b ∉ f.keys → s.heap.get? b = some o → s'.heap.get? b = some o)
  (ho : s'.os = s.os) (hg : GOk c.base s'.gens) : Kn c K s' :=
 (k.change (f' := FNone) (s' := s') hb ho hg trivial (fun a ha => absurd ha (by simp [FNone])) (by simp [FNone])).sub (List.sublist_cons_self _ _)
theorem Iter.walk {I : Addr} {N : List Fact} {F : List SV → Fact} (hk : ∀ xs, (F xs).keys = [I])
  (ht : ∀ xs h, (F xs).holds h → ∃ o n, h.get? I = some o ∧ o.cls = .type n ∧ ownedT.contains n = false)
  (hw : ∀ xs K s, Kn c (F xs :: K) s → (∀ f ∈ N, f ∈ K) → ∃ fp n P St i, Walks c.prog c.w A I fp [I] n P St ∧ St i s.heap ∧ i + xs.length = n ∧ (∀ x r, xs = x :: r → (∀ v, P i v → Rep s.heap x v) ∧ ∀ h', St (i + 1) h' → (F r).holds h')) :
  Iter c A (fun _ => True) I N F (fun _ xs => F xs) where
 next := fun x xs K s Q k hN hQ => by
  obtain ⟨fp, n, P, St, i, W, hst, hlen, hx⟩ := hw _ _ _ k hN
  obtain ⟨h1, h2⟩ := hx _ _ rfl
  refine W.item i s _ _ (by simp at hlen; omega) hst fun v h' tk hP hs hb => ?_
  have hb' : ∀ b o, b ∉ (F (x :: xs)).keys → s.heap.get? b = some o → h'.get? b = some o := fun b o hn e => hb b o (by rw [hk] at hn; exact hn) e
  have kp := k.change_keep (s' := { s with heap := h', toks := tk }) hb'
  exact hQ v _ (k.change (f' := F xs) (s' := { s with heap := h', toks := tk }) hb' rfl k.bare (h2 _ hs) (fun a ha => .inl (by rw [hk] at ha ⊢; exact ha)) (by rw [hk]; simp)) ((h1 v hP).keep kp) kp
 go := fun t x xs K s v Q _ k r hQ => by
  obtain ⟨o, n, ho, hc, hn⟩ := ht _ _ (k.facts _ List.mem_cons_self)
  exact go_other ho hc hn (hQ s k (Keep.refl _))
 stop := fun K s Q k hN hQ => by
  obtain ⟨fp, n, P, St, i, W, hst, hlen, hx⟩ := hw _ _ _ k hN
  obtain rfl : i = n := by simpa using hlen
  refine W.done s _ _ hst fun h' tk hb => ?_
  have hb' : ∀ b o, b ∉ (F []).keys → s.heap.get? b = some o → h'.get? b = some o := fun b o hn e => hb b o (by rw [hk] at hn; exact hn) e
  have kp := k.change_keep (s' := { s with heap := h', toks := tk }) hb'
  exact hQ _ (k.forget hb' rfl k.bare) kp
 self := fun xs K s Q k hN hQ => by
  obtain ⟨fp, n, P, St, i, W, hst, hlen, hx⟩ := hw _ _ _ k hN
  exact W.self i s _ _ hst hQ
end
theorem nI_fields {o : Obj} {T : String} {vs} (hc : o.cls = .type T) (hd : o.data = .fields vs) (hT : T ≠ "code") : ¬ Imm o :=
 notImm_fields hd (by rw [hc]; intro e; injection e with e; exact hT e)
def chs (x : Str) : List SV := x.cps.toList.map fun n => .str ⟨#[n]⟩
theorem chs_get {x : Str} {i n : Nat} (h : x.cps[i]? = some n) : (chs x)[i]? = some (.str ⟨#[n]⟩) := by
 unfold chs; rw [List.getElem?_map, Array.getElem?_toList, h]; rfl
section
variable {c : Cx} {A : Around} {K K' : List Fact} {s : Shared}
theorem drop_cons {α : Type} {l r : List α} {x : α} {i : Nat} (h : l.drop i = x :: r) : l[i]? = some x ∧ l.drop (i + 1) = r ∧ i < l.length := by
 have h1 : l[i]? = some x := by
  have := congrArg (fun l => l[0]?) h
  simpa using this
 exact ⟨h1, by rw [← List.drop_drop, h]; rfl, (List.getElem?_eq_some_iff.mp h1).1⟩
def liP (l : Addr) (i : Nat) (o : Obj) : Prop := o.cls = .type "list_iterator" ∧ o.data = .fields #[.ref l, .int i 0]
theorem Iter.list (hh : A.handled = none) (I l : Addr) (xs : List SV) (hne : l ≠ I) : Iter c A (fun _ => True) I [FList l xs] (fun r => FOb I fun o => ∃ i, r = xs.drop i ∧ i ≤ xs.length ∧ liP l i o) fun _ r => FOb I fun o => ∃ i, r = xs.drop i ∧ i ≤ xs.length ∧ liP l i o := by
 refine Iter.walk (fun _ => rfl) ?_ ?_
 ·rintro r h ⟨o, e, ⟨i, _, _, hc, _⟩, _⟩
  exact ⟨o, _, e, hc, by decide⟩
 ·intro r K s k hN
  obtain ⟨o, e, i, rfl, hi, hc, hd⟩ := k.ob List.mem_cons_self
  obtain ⟨vs, n, el, rl⟩ := k.list (List.mem_cons_of_mem _ (hN _ List.mem_cons_self))
  have hlen : vs.size = xs.length := by rw [← Array.length_toList]; exact rl.length
  refine ⟨_, _, _, _, i, Walks.list hh I l hne vs, ⟨⟨o, e, hc, hd⟩, isList_of el⟩, by simp; omega, ?_⟩
  intro x r hx
  obtain ⟨h1, h2, h3⟩ := drop_cons hx
  refine ⟨fun v hv => ?_, ?_⟩
  ·obtain ⟨w, hw, hr⟩ := rl.get h1
   rw [Array.getElem?_toList, hv] at hw
   obtain rfl := Option.some.inj hw
   exact hr
  ·rintro h' ⟨⟨o', e', hc', hd'⟩, _⟩
   exact ⟨o', e', ⟨i + 1, h2.symm, h3, hc', hd'⟩, nI_fields hc' hd' (by decide)⟩
theorem Itb.list (hh : A.handled = none) {a : Addr} {xs : List SV} (hm : FList a xs ∈ K) : Itb c A (fun _ => True) K K (.ref a) xs [FList a xs] := fun g s v Q k r h => by
 obtain rfl : v = .ref a := r
 obtain ⟨vs, n, e, _⟩ := k.list (List.mem_cons_of_mem _ hm)
 refine wpAny_pyIter_list (isList_of e) (h _ _ _ _ (Iter.list hh s.heap.objs.size a xs (Nat.ne_of_lt (Heap.lt_size e))) ?_ (keep_push _ _))
 refine k.add (s' := { s with heap := s.heap.push _ }) (fun _ _ e => Heap.get?_push_of_some _ e) rfl k.bare ?_ (by simp [FOb]) ?_
 ·exact ⟨_, Heap.get?_push_size _ rfl, ⟨0, rfl, Nat.zero_le _, rfl, rfl⟩, nI_fields (T := "list_iterator") rfl rfl (by decide)⟩
 ·intro b hb
  obtain rfl : b = s.heap.objs.size := List.mem_singleton.mp hb
  exact Nat.le_refl _
theorem Iter.rev (hh : A.handled = none) (I l : Addr) (xs : List SV) (hne : l ≠ I) : Iter c A (fun _ => True) I [FList l xs] (fun r => FOb I fun o => ∃ i : Nat, r = xs.reverse.drop i ∧ i ≤ xs.length ∧ o.cls = .type "list_reverseiterator" ∧ o.data = .fields #[.ref l, rawInt ((xs.length : Int) - 1 - i)])
  fun _ r => FOb I fun o => ∃ i : Nat, r = xs.reverse.drop i ∧ i ≤ xs.length ∧ o.cls = .type "list_reverseiterator" ∧ o.data = .fields #[.ref l, rawInt ((xs.length : Int) - 1 - i)] := by
 refine Iter.walk (fun _ => rfl) ?_ ?_
 ·rintro r h ⟨o, e, ⟨i, _, _, hc, _⟩, _⟩
  exact ⟨o, _, e, hc, by decide⟩
 ·intro r K s k hN
  obtain ⟨o, e, i, rfl, hi, hc, hd⟩ := k.ob List.mem_cons_self
  obtain ⟨vs, n, el, rl⟩ := k.list (List.mem_cons_of_mem _ (hN _ List.mem_cons_self))
  have hlen : vs.size = xs.length := by rw [← Array.length_toList]; exact rl.length
  refine ⟨_, _, _, _, i, Walks.listRev hh I l hne vs, ⟨by omega, ⟨o, e, hc, by rw [hlen]; exact hd⟩, isList_of el⟩, by simp; omega, ?_⟩
  intro x r hx
  obtain ⟨h1, h2, h3⟩ := drop_cons hx
  rw [List.length_reverse] at h3
  refine ⟨fun v hv => ?_, ?_⟩
  ·rw [List.getElem?_reverse h3] at h1
   obtain ⟨w, hw, hr⟩ := rl.get h1
   rw [← hlen, Array.getElem?_toList, hv] at hw
   obtain rfl := Option.some.inj hw
   exact hr
  ·rintro h' ⟨_, ⟨o', e', hc', hd'⟩, _⟩
   refine ⟨o', e', ⟨i + 1, h2.symm, h3, hc', by rw [hlen] at hd'; exact hd'⟩, nI_fields hc' hd' (by decide)⟩
def FRev (I l : Addr) (xs : List SV) : Fact := FOb I fun o => o.cls = .type "list_reverseiterator" ∧ o.data = .fields #[.ref l, rawInt ((xs.length : Int) - 1)]
theorem c_reversed {a : Addr} {xs : List SV} (h : FList a xs ∈ K) {Ψ : SV → List Fact → Prop} (hq : ∀ I, Ψ (.ref I) (FRev I a xs :: K)) : TCall c A K (.type "reversed") [.ref a] Ψ := fun rm s fv vs k rf rs => by
 obtain rfl : fv = .type "reversed" := rf
 obtain ⟨v, ws, rfl, rfl, ht⟩ := rs.uncons
 obtain rfl : ws = [] := ht
 obtain ⟨us, n, e, r⟩ := k.list h
 have hlen : us.size = xs.length := by rw [← Array.length_toList]; exact r.length
 refine call_reversed_list (isList_of e) ⟨.ref s.heap.objs.size, _, ?_, rfl, keep_push _ _, hq _⟩
 refine k.add (s' := { s with heap := s.heap.push _ }) (fun _ _ e => Heap.get?_push_of_some _ e) rfl k.bare ?_ (by simp [FRev, FOb]) ?_
 ·exact ⟨_, Heap.get?_push_size _ rfl, ⟨rfl, by rw [← hlen]; rfl⟩, nI_fields (T := "list_reverseiterator") rfl rfl (by decide)⟩
 ·intro b hb
  obtain rfl : b = s.heap.objs.size := List.mem_singleton.mp hb
  exact Nat.le_refl _
theorem Itb.rev (hh : A.handled = none) {I a : Addr} {xs : List SV} (hr : Rem (FRev I a xs) K K') (hm : FList a xs ∈ K') : Itb c A (fun _ => True) K K' (.ref I) xs.reverse [FList a xs] := fun g s v Q k r h => by
 obtain rfl : v = .ref I := r
 have k2 : Kn c (FRev I a xs :: g :: K') s := (k.perm ((hr.perm.cons g).trans (.swap ..)))
 obtain ⟨o, e, hc, hd⟩ := k2.ob List.mem_cons_self
 have hd2 : o.data = .fields #[.ref a, rawInt ((xs.length : Int) - 1 - (0 : Nat))] := by rw [hd]; simp
 obtain ⟨vs, n, el, _⟩ := k2.list (List.mem_cons_of_mem _ (List.mem_cons_of_mem _ hm))
 have hne : a ≠ I := fun q => by
  subst q; rw [e] at el; cases el; cases hd
 refine wpAny_pyIter_revIter (l := a) (i := (xs.length : Int) - 1) ⟨o, e, hc, hd⟩ (h _ _ _ _ (Iter.rev hh I a xs hne) ?_ (Keep.refl _))
 exact k2.change (s' := s) (fun _ _ _ e => e) rfl k.bare ⟨o, e, ⟨0, rfl, Nat.zero_le _, hc, hd2⟩, nI_fields hc hd (by decide)⟩ (fun a ha => .inl ha) (by simp [FOb])
theorem Iter.str {I : Addr} {x : Str} {t : Tok} {ty : String} (hn : ownedT.contains ty = false) (hty : ty ≠ "code") (hW : Walks c.prog c.w A I [I] [I] x.cps.size (SignAt x) (fun i h => h.IsStrIter I ty x t i)) :
  Iter c A (fun _ => True) I [] (fun r => FOb I fun o => ∃ i : Nat, r = (chs x).drop i ∧ i ≤ x.cps.size ∧ o.cls = .type ty ∧ o.data = .fields #[.str x t, .int i 0])
  fun _ r => FOb I fun o => ∃ i : Nat, r = (chs x).drop i ∧ i ≤ x.cps.size ∧ o.cls = .type ty ∧ o.data = .fields #[.str x t, .int i 0] := by
 refine Iter.walk (fun _ => rfl) ?_ ?_
 ·rintro r h ⟨o, e, ⟨i, _, _, hc, _⟩, _⟩
  exact ⟨o, _, e, hc, hn⟩
 ·intro r K s k hN
  obtain ⟨o, e, i, rfl, hi, hc, hd⟩ := k.ob List.mem_cons_self
  have hlen : (chs x).length = x.cps.size := by simp [chs]
  refine ⟨_, _, _, _, i, hW, ⟨o, e, hc, hd⟩, by simp [hlen]; omega, ?_⟩
  intro y r hx
  obtain ⟨h1, h2, h3⟩ := drop_cons hx
  refine ⟨fun v hv => ?_, ?_⟩
  ·obtain ⟨n, u, hn, rfl⟩ := hv
   rw [chs_get hn] at h1
   obtain rfl := Option.some.inj h1
   exact ⟨_, rfl⟩
  ·rintro h' ⟨o', e', hc', hd'⟩
   exact ⟨o', e', ⟨i + 1, h2.symm, by omega, hc', hd'⟩, nI_fields hc' hd' hty⟩
theorem Itb.str (hh : A.handled = none) {x : Str} : Itb c A (fun _ => True) K K (.str x) (chs x) [] := fun g s v Q k r h => by
 obtain ⟨t, rfl⟩ := r
 cases ha : x.cps.all (· < 128)
 ·refine wpAny_pyIter_wide ha (h _ _ _ _ (Iter.str (by decide) (by decide) (Walks.strWide hh s.heap.objs.size x t)) ?_ (keep_push _ _))
  refine k.add (s' := { s with heap := s.heap.push _ }) (fun _ _ e => Heap.get?_push_of_some _ e) rfl k.bare ?_ (by simp [FOb]) ?_
  ·exact ⟨_, Heap.get?_push_size _ rfl, ⟨0, rfl, Nat.zero_le _, rfl, rfl⟩, nI_fields (T := "str_iterator") rfl rfl (by decide)⟩
  ·intro b hb
   obtain rfl : b = s.heap.objs.size := List.mem_singleton.mp hb
   exact Nat.le_refl _
 ·refine wpAny_pyIter_ascii ha (h _ _ _ _ (Iter.str (by decide) (by decide) (Walks.strAscii hh s.heap.objs.size x t)) ?_ (keep_push _ _))
  refine k.add (s' := { s with heap := s.heap.push _ }) (fun _ _ e => Heap.get?_push_of_some _ e) rfl k.bare ?_ (by simp [FOb]) ?_
  ·exact ⟨_, Heap.get?_push_size _ rfl, ⟨0, rfl, Nat.zero_le _, rfl, rfl⟩, nI_fields (T := "str_ascii_iterator") rfl rfl (by decide)⟩
  ·intro b hb
   obtain rfl : b = s.heap.objs.size := List.mem_singleton.mp hb
   exact Nat.le_refl _
def FRange (r : Addr) (a b : Int) : Fact := FOb r fun o => ∃ t u v, o = { cls := .type "range", dict := none, data := .fields #[.int a t, .int b u, .int 1 v], slots := #[] }
def iota (a : Int) : Nat → List SV
 | 0 => []
 | n + 1 => .int a :: iota (a + 1) n
theorem Iter.range (hh : A.handled = none) (I : Addr) : Iter c A (fun _ => True) I [] (fun r => FOb I fun o => ∃ a, r = iota a r.length ∧ o = { cls := .type "range_iterator", dict := none, data := .fields #[rawInt a, rawInt r.length, rawInt 1], slots := #[] })
  fun _ r => FOb I fun o => ∃ a, r = iota a r.length ∧ o = { cls := .type "range_iterator", dict := none, data := .fields #[rawInt a, rawInt r.length, rawInt 1], slots := #[] } := by
 refine Iter.walk (fun _ => rfl) ?_ ?_
 ·rintro r h ⟨o, e, ⟨a, _, rfl⟩, _⟩
  exact ⟨_, _, e, rfl, by decide⟩
 ·intro r K s k hN
  obtain ⟨o, e, a, hr, rfl⟩ := k.ob List.mem_cons_self
  refine ⟨_, _, _, _, 0, Walks.range hh I a 1 r.length, ?_, Nat.zero_add _, ?_⟩
  ·have e1 : a + ((0 : Nat) : Int) * 1 = a := by simp
   have e2 : (r.length : Int) - ((0 : Nat) : Int) = r.length := by simp
   show IsRangeIter _ _ _ _ _
   rw [e1, e2]; exact e
  ·rintro x r' rfl
   have hr : x :: r' = .int a :: iota (a + 1) r'.length := hr
   injection hr with hx hr'
   refine ⟨fun v ⟨t, hv⟩ => ?_, fun h' hs => ?_⟩
   ·subst hx hv; exact ⟨t, by simp⟩
   ·have e1 : a + ((0 + 1 : Nat) : Int) * 1 = a + 1 := by simp
    have e2 : (((x :: r').length : Nat) : Int) - ((0 + 1 : Nat) : Int) = r'.length := by simp
    have hs : IsRangeIter _ _ _ _ _ := hs
    rw [e1, e2] at hs
    exact ⟨_, hs, ⟨a + 1, hr', rfl⟩, nI_fields (T := "range_iterator") rfl rfl (by decide)⟩
theorem Itb.range (hh : A.handled = none) {r : Addr} {a b : Int} {n : Nat} (hm : FRange r a b ∈ K) (hn : b - a = n ∨ (n = 0 ∧ b ≤ a)) (ha : -(2 ^ 40) ≤ a) (ha' : a < 2 ^ 40) (hb : -(2 ^ 40) ≤ b) (hb' : b < 2 ^ 40) :
  Itb c A (fun _ => True) K K (.ref r) (iota a n) [] := fun g s v Q k re h => by
 obtain rfl : v = .ref r := re
 obtain ⟨o, e, t, u, w, rfl⟩ := k.ob (List.mem_cons_of_mem _ hm)
 have hl : ∀ (a : Int) n, (iota a n).length = n := by
  intro a n
  induction n generalizing a with
  | zero => rfl
  | succ n ih => simp [iota, ih]
 refine wpAny_pyIter_range e (small_one (by omega) (by omega) (by omega) (by omega)) (h _ _ _ _ (Iter.range hh s.heap.objs.size) ?_ (keep_push _ _))
 have hsz : Builtin.Range.rangeSize a b 1 = (n : Int) := by
  rw [rangeSize_one]; split <;> omega
 rw [hsz]
 refine k.add (s' := { s with heap := s.heap.push _ }) (fun _ _ e => Heap.get?_push_of_some _ e) rfl k.bare ?_ (by simp [FOb]) ?_
 ·exact ⟨_, Heap.get?_push_size _ rfl, ⟨a, by rw [hl], by rw [hl]⟩, nI_fields (T := "range_iterator") rfl rfl (by decide)⟩
 ·intro b hb
  obtain rfl : b = s.heap.objs.size := List.mem_singleton.mp hb
  exact Nat.le_refl _
theorem c_range1 {n : Int} {Ψ : SV → List Fact → Prop} (hq : ∀ r, Ψ (.ref r) (FRange r 0 n :: K)) : TCall c A K (.type "range") [.int n] Ψ := fun rm s fv vs k rf rs => by
 obtain rfl : fv = .type "range" := rf
 obtain ⟨v, ws, rfl, ⟨t, rfl⟩, ht⟩ := rs.uncons
 obtain rfl : ws = [] := ht
 refine call_range_1 ⟨.ref s.heap.objs.size, _, ?_, rfl, keep_push _ _, hq _⟩
 refine k.add (s' := { s with heap := s.heap.push _, toks := _ }) (fun _ _ e => Heap.get?_push_of_some _ e) rfl k.bare ?_ (by simp [FRange, FOb]) ?_
 ·exact ⟨_, Heap.get?_push_size _ rfl, ⟨_, _, _, rfl⟩, nI_fields (T := "range") rfl rfl (by decide)⟩
 ·intro b hb
  obtain rfl : b = s.heap.objs.size := List.mem_singleton.mp hb
  exact Nat.le_refl _
theorem c_range2 {a n : Int} {Ψ : SV → List Fact → Prop} (hq : ∀ r, Ψ (.ref r) (FRange r a n :: K)) : TCall c A K (.type "range") [.int a, .int n] Ψ := fun rm s fv vs k rf rs => by
 obtain rfl : fv = .type "range" := rf
 obtain ⟨v, ws, rfl, ⟨t, rfl⟩, ht⟩ := rs.uncons
 obtain ⟨v, ws, rfl, ⟨u, rfl⟩, ht2⟩ := ht.uncons
 obtain rfl : ws = [] := ht2
 refine call_range_2 ⟨.ref s.heap.objs.size, _, ?_, rfl, keep_push _ _, hq _⟩
 refine k.add (s' := { s with heap := s.heap.push _, toks := _ }) (fun _ _ e => Heap.get?_push_of_some _ e) rfl k.bare ?_ (by simp [FRange, FOb]) ?_
 ·exact ⟨_, Heap.get?_push_size _ rfl, ⟨_, _, _, rfl⟩, nI_fields (T := "range") rfl rfl (by decide)⟩
 ·intro b hb
  obtain rfl : b = s.heap.objs.size := List.mem_singleton.mp hb
  exact Nat.le_refl _
theorem reps_repl {h : Heap} {xs : List SV} {vs : List Value} (r : Reps h xs vs) : ∀ n, Reps h ((List.replicate n xs).flatten) ((List.replicate n vs).flatten)
 | 0 => by simp [Reps]
 | n + 1 => by simpa [List.replicate_succ] using r.append (reps_repl r n)
theorem foldl_repl (items : Array Value) (n : Nat) : (List.foldl (fun x1 x2 => x1 ++ x2) #[] (List.replicate n items) : Array Value).toList = (List.replicate n items.toList).flatten := by
 have key : ∀ (l : List (Array Value)) (a : Array Value), (List.foldl (fun x1 x2 => x1 ++ x2) a l : Array Value).toList = a.toList ++ (l.map Array.toList).flatten := by
  intro l
  induction l with
  | nil => simp
  | cons b l ih => intro a; rw [List.foldl_cons, ih]; simp
 rw [key]; simp
theorem U2.mulList {env : Env} {ρ : Loc} {Φ : SV → Loc → List Fact → Prop} {a : Addr} {xs : List SV} {x : Int} (hm : FList a xs ∈ K) (hs : xs.length * x.toNat ≤ 2 ^ 20) (hx : -(2 ^ 63) ≤ x) (hx' : x < 2 ^ 63)
  (hq : ∀ b, Φ (.ref b) ρ (FList b (List.replicate x.toNat xs).flatten :: K)) : U2 Rep c A env ρ K (.ref a) (.int x) (binaryOp .Mult) Φ := fun ok s v u k ra rb => by
 obtain rfl : v = .ref a := ra
 obtain ⟨t, rfl⟩ := rb
 obtain ⟨vs, n, e, r⟩ := k.list (List.mem_cons_of_mem _ hm)
 have hlen : vs.size = xs.length := by rw [← Array.length_toList]; exact r.length
 have hv : Reps s.heap (List.replicate x.toNat xs).flatten (List.foldl (fun x1 x2 => x1 ++ x2) #[] (List.replicate (if vs.isEmpty = true then 0 else x.toNat) vs) : Array Value).toList := by
  rw [foldl_repl]
  split
  ·rename_i he
   have h0 : vs.toList = [] := by simpa using he
   have : xs = [] := by
    have : xs.length = 0 := by rw [← hlen]; simpa using he
    exact List.length_eq_zero_iff.mp this
   subst this
   have : ∀ n, (List.replicate n ([] : List SV)).flatten = [] := fun n => by induction n with
    | zero => rfl
    | succ n ih => simp
   rw [this]; simp [Reps]
  ·exact reps_repl r _
 refine wpAny_binaryOp_repeat_ref (T := "list") (U := "int") (by decide) ⟨_, e, rfl⟩ (fun s' => typeIs_int s' x t) noFill_list_mul F.fills_int_mul F.slot_int_rmul repeat_list F.slot_int_index.lookup
  (call_meets F.slot_int_rmul (typeIs_int s x t) F.entry_int_rmul (F.args_int_rmul_2 _ _) (int___rmul___int_list x t a vs n)
   ⟨e, rfl, ⟨_, e, rfl⟩, call_meets F.slot_list_mul ⟨_, e, rfl⟩ F.entry_list_mul (F.args_list_mul_2 _ _)
    (AutoListH.list___mul___list_int_3 a vs n x t (by simp [Builtin.List.listFitsIndex]; omega) (by rw [hlen]; omega) (by simp [Builtin.List.listTooLong, sizeLine]; rw [hlen]; omega))
    ⟨e, .ref s.heap.objs.size, ρ, _, (k.listNew hv _ s.toks).swap, rfl, rfl, keep_push _ _, hq _⟩⟩)
theorem U1.tList {env : Env} {ρ : Loc} {ΦB : Bool → Loc → List Fact → Prop} {a : Addr} {xs : List SV} (hm : FList a xs ∈ K) (hl : xs.length < 2 ^ 20) (hq : ΦB (!xs.isEmpty) ρ K) : U1 RB c A env ρ K (.ref a) truthy ΦB := fun ok s v k ra => by
 obtain rfl : v = .ref a := ra
 obtain ⟨vs, n, e, r⟩ := k.list (List.mem_cons_of_mem _ hm)
 have hlen : vs.size = xs.length := by rw [← Array.length_toList]; exact r.length
 have he : vs.isEmpty = xs.isEmpty := by
  rw [Bool.eq_iff_iff, Array.isEmpty_iff_size_eq_zero, List.isEmpty_iff_length_eq_zero, hlen]
 exact wpAny_truthy_list (isList_of e) (by omega) ⟨!xs.isEmpty, ρ, K, k.quiet (.toks ..), rfl, by rw [he]; rfl, Keep.refl _, hq⟩
end
theorem bitOr_nat {x y : Int} (hx : 0 ≤ x) (hy : 0 ≤ y) : Builtin.bitOr x y = ((x.toNat ||| y.toNat : Nat) : Int) := by
 unfold Builtin.bitOr Builtin.bitAnd
 have h1 : ¬ (0 : Int) ≤ Builtin.bitNot x := by unfold Builtin.bitNot; omega
 have h2 : ¬ (0 : Int) ≤ Builtin.bitNot y := by unfold Builtin.bitNot; omega
 have e : ∀ z : Int, Builtin.bitNot (Builtin.bitNot z) = z := fun z => by unfold Builtin.bitNot; omega
 simp only [decide_eq_false h1, decide_eq_false h2, e]
theorem bitAnd_nat {x y : Int} (hx : 0 ≤ x) (hy : 0 ≤ y) : Builtin.bitAnd x y = ((x.toNat &&& y.toNat : Nat) : Int) := by
 unfold Builtin.bitAnd
 simp only [decide_eq_true hx, decide_eq_true hy]
theorem xor_high {x : Int} {s : Nat} (h0 : 0 ≤ x) : Builtin.bitXor x (x / 2 ^ s * 2 ^ s) = x % 2 ^ s := by
 have hp : (0 : Int) < 2 ^ s := Int.pow_pos (by decide)
 have hq : 0 ≤ x / 2 ^ s := Int.ediv_nonneg h0 (by omega)
 have hy : 0 ≤ x / 2 ^ s * 2 ^ s := Int.mul_nonneg hq (by omega)
 unfold Builtin.bitXor
 rw [bitOr_nat h0 hy, bitAnd_nat h0 hy]
 have ey : (x / 2 ^ s * 2 ^ s).toNat = x.toNat / 2 ^ s * 2 ^ s := by
  have e1 : ((x.toNat : Nat) : Int) = x := Int.toNat_of_nonneg h0
  have e2 : (((x.toNat / 2 ^ s * 2 ^ s : Nat)) : Int) = x / 2 ^ s * 2 ^ s := by push_cast; rw [e1]
  omega
 rw [ey]
 have a1 : x.toNat &&& (x.toNat / 2 ^ s * 2 ^ s) = x.toNat / 2 ^ s * 2 ^ s := by
  apply Nat.eq_of_testBit_eq
  intro i
  rw [Nat.testBit_and, Nat.mul_comm, Nat.testBit_two_pow_mul, Nat.testBit_div_two_pow]
  by_cases h : s ≤ i
  ·have : i - s + s = i := by omega
   simp [h, this]
  ·simp [h]
 have a2 : x.toNat ||| (x.toNat / 2 ^ s * 2 ^ s) = x.toNat := by
  apply Nat.eq_of_testBit_eq
  intro i
  rw [Nat.testBit_or, Nat.mul_comm, Nat.testBit_two_pow_mul, Nat.testBit_div_two_pow]
  by_cases h : s ≤ i
  ·have : i - s + s = i := by omega
   simp [h, this]
  ·simp [h]
 rw [a1, a2]
 have := Int.mul_ediv_add_emod x (2 ^ s)
 have e2 : (((x.toNat / 2 ^ s * 2 ^ s : Nat)) : Int) = x / 2 ^ s * 2 ^ s := by rw [← ey]; exact Int.toNat_of_nonneg hy
 rw [e2, Int.toNat_of_nonneg h0]
 rw [Int.mul_comm] at this
 omega
section
variable {c : Cx} {A : Around} {env : Env} {ρ : Loc} {K K' : List Fact} {Φ : SV → Loc → List Fact → Prop} {ΦS : SFl → Loc → List Fact → Prop}
theorem Fx.mk {L : Addr} {v : SV} (h : Φ v ρ K) : Fx L ρ Φ v (FFr L ρ :: K) := ⟨K, rfl, h⟩
theorem TCall.fx {f : SV} {xs : List SV} {L : Addr} {Ψ : SV → List Fact → Prop} (h : TCall c A (FFr L ρ :: K) f xs Ψ) (hi : ∀ v K', Ψ v K' → ∃ K4, K'.Perm (FFr L ρ :: K4) ∧ Φ v ρ K4) :
  TCall c A (FFr L ρ :: K) f xs (Fx L ρ Φ) := fun rm s fv vs k rf rs =>
 wpAny_mono (h rm s fv vs k rf rs) (fun v s' ⟨x, K', a, b, kp, q⟩ => by
  obtain ⟨K4, p, q⟩ := hi _ _ q
  exact ⟨x, FFr L ρ :: K4, a.perm p, b, kp, K4, rfl, q⟩) fun _ _ e => e
theorem x_reversed {a : Addr} {xs : List SV} {L : Addr} (h : FList a xs ∈ K) (hq : ∀ I, Φ (.ref I) ρ (FRev I a xs :: K)) : TCall c A (FFr L ρ :: K) (.type "reversed") [.ref a] (Fx L ρ Φ) :=
 TCall.fx (Ψ := fun v K' => ∃ I, v = .ref I ∧ K' = FRev I a xs :: FFr L ρ :: K) (c_reversed (List.mem_cons_of_mem _ h) fun I => ⟨I, rfl, rfl⟩) fun v K' ⟨I, e1, e2⟩ => ⟨FRev I a xs :: K, e2 ▸ .swap .., e1 ▸ hq I⟩
theorem x_range1 {n : Int} {L : Addr} (hq : ∀ r, Φ (.ref r) ρ (FRange r 0 n :: K)) : TCall c A (FFr L ρ :: K) (.type "range") [.int n] (Fx L ρ Φ) :=
 TCall.fx (Ψ := fun v K' => ∃ I, v = .ref I ∧ K' = FRange I 0 n :: FFr L ρ :: K) (c_range1 fun I => ⟨I, rfl, rfl⟩) fun v K' ⟨I, e1, e2⟩ => ⟨FRange I 0 n :: K, e2 ▸ .swap .., e1 ▸ hq I⟩
theorem x_range2 {a n : Int} {L : Addr} (hq : ∀ r, Φ (.ref r) ρ (FRange r a n :: K)) : TCall c A (FFr L ρ :: K) (.type "range") [.int a, .int n] (Fx L ρ Φ) :=
 TCall.fx (Ψ := fun v K' => ∃ I, v = .ref I ∧ K' = FRange I a n :: FFr L ρ :: K) (c_range2 fun I => ⟨I, rfl, rfl⟩) fun v K' ⟨I, e1, e2⟩ => ⟨FRange I a n :: K, e2 ▸ .swap .., e1 ▸ hq I⟩
theorem x_len_list {a : Addr} {xs : List SV} {L : Addr} (h : FList a xs ∈ K) (hl : xs.length < 2 ^ 20) (hq : Φ (.int xs.length) ρ K) : TCall c A (FFr L ρ :: K) (.bi "len") [.ref a] (Fx L ρ Φ) :=
 c_len_list (List.mem_cons_of_mem _ h) hl (Fx.mk hq)
theorem x_append {a : Addr} {xs : List SV} {x : SV} {L : Addr} (h : Chg (FList a xs) (FList a (xs ++ [x])) K K') (hl : xs.length < 2 ^ 20) (hq : Φ .none ρ K') : TCall c A (FFr L ρ :: K) (.bi "list.append") [.ref a, x] (Fx L ρ Φ) :=
 c_append (.there h) hl (Fx.mk hq)
theorem x_reverse {a : Addr} {xs : List SV} {L : Addr} (h : Chg (FList a xs) (FList a xs.reverse) K K') (hl : xs.length < 2 ^ 20) (hq : Φ .none ρ K') : TCall c A (FFr L ρ :: K) (.bi "list.reverse") [.ref a] (Fx L ρ Φ) :=
 c_reverse (.there h) hl (Fx.mk hq)
theorem S_AssignC2 {x : Str} {a : Addr} {pos' pos : Pos} {value : Expr} {cl : List (Str × Addr)} {ks : List Str} (hC : Cells env cl) (hx : (x, a) ∈ cl) (hks : ∀ x ∈ ks, env.kindOf x = some .cell) (hk : x ∈ ks)
  (h : TE c A env ρ K (eval value env) fun v ρ1 K1 => ∃ cs γ γ' K2, (x, a) ∈ cs ∧ Chg (FCs cs γ) (FCs cs γ') K1 K2 ∧ Put x v γ γ' ∧ ΦS .next ρ1 K2)
  (hs : swapsWith value (some (.Name x pos')) pos.line env = pure false) : TS c A env ρ K (exec (.Assign [.Name x pos'] value pos) env) ΦS := S_AssignC hC hx (hks _ hk) h hs
theorem ex_cell {x : Str} {a : Addr} {v : SV} {cs : List (Str × Addr)} {γ γ' : Loc} {K K2 : List Fact} {P : List Fact → Prop} (hf : Chg (FCs cs γ) (FCs cs γ') K K2) (hx : (x, a) ∈ cs) (p : Put x v γ γ') (h : P K2) :
  ∃ cs γ γ' K2, (x, a) ∈ cs ∧ Chg (FCs cs γ) (FCs cs γ') K K2 ∧ Put x v γ γ' ∧ P K2 := ⟨cs, γ, γ', K2, hx, hf, p, h⟩
theorem S_DefC2 {name qual : Str} {params : Arguments} {body : List Stmt} {scope : Scope} {pos : Pos} {t : Tab} {clos cl : List (Str × Addr)} {a : Addr} {ks : List Str} (ht : t ∈ c.tabs) (hpos : t.pos = pos) (hqual : t.qual = qual) (hcode : env.code = .ref t.c) (hq : qualnameIn env name name = qual)
  (hcl : closureFor scope env = pure clos) (hd0 : params.defaults = []) (hk0 : params.kw_defaults = []) (ha : annTrees params none env = []) (hC : Cells env cl) (hks : ∀ x ∈ ks, env.kindOf x = some .cell) (hk : name ∈ ks) (hx : (name, a) ∈ cl) {G : Value → Value → Value → Value → FuncData} (hfd : ∀ doc pm cv ctv, fdIn name qual params body scope clos doc pm cv ctv = G doc pm cv ctv)
  (h : ∀ f doc pm cv ctv, ∃ cs γ γ' K2, (name, a) ∈ cs ∧ Chg (FCs cs γ) (FCs cs γ') (FFn f (G doc pm cv ctv) :: K) K2 ∧ Put name (.ref f) γ γ' ∧ ΦS .next ρ K2) :
  TS c A env ρ K (exec (.FunctionDef name params body [] none [] scope none name pos) env) ΦS := by
 subst hqual
 exact S_DefC ht hcode hpos hq hcl hd0 hk0 ha hC hx (hks _ hk) fun f doc pm cv ctv => by rw [hfd]; exact h f doc pm cv ctv
end
theorem lst_cls {vs : Array Value} {n : Nat} {T : String} (h : (lst vs n).cls = .type T) : T = "list" := by
 have h : Value.type "list" = .type T := h
 injection h with h; exact h.symm
def pairs (i : Int) : List SV → List SV
 | [] => []
 | x :: r => .tup [.int i, x] :: pairs (i + 1) r
theorem pairs_drop (i : Int) : ∀ (l : List SV) (k : Nat), (pairs i l).drop k = pairs (i + k) (l.drop k)
 | l, 0 => by simp
 | [], k + 1 => by simp [pairs]
 | x :: r, k + 1 => by
   simp only [pairs, List.drop_succ_cons]
   rw [pairs_drop (i + 1) r k]; congr 1; push_cast; omega
theorem pairs_length (i : Int) : ∀ l, (pairs i l).length = l.length
 | [] => rfl
 | x :: r => by simp [pairs, pairs_length]
structure EnS (it : Addr) (S : Nat → Heap → Prop) : Prop where
 at_ : ∀ i h h', S i h → (∀ o, h.get? it = some o → h'.get? it = some o) → S i h'
 own : ∀ i h, S i h → ∃ o, h.get? it = some o ∧ ¬ Imm o
def FEn (e it : Addr) (S : Nat → Heap → Prop) (hS : EnS it S) (P : Nat → Prop) : Fact where
 keys := [e, it]
 holds h := e ≠ it ∧ ∃ i, P i ∧ (∃ old, IsEnum h e it (i : Nat) old) ∧ S i h
 stable := by
  rintro h h' ⟨hne, i, hP, ⟨old, he⟩, hs⟩ k hk
  exact ⟨hne, i, hP, ⟨old, hk e (by simp) _ he⟩, hS.at_ _ _ _ hs fun o x => hk it (by simp) o x⟩
 own := by
  rintro h ⟨hne, i, hP, ⟨old, he⟩, hs⟩ k hk
  rcases List.mem_cons.mp hk with rfl | hk
  ·exact ⟨_, he, nI_fields (T := "enumerate") rfl rfl (by decide)⟩
  ·rw [List.mem_singleton.mp hk]; exact hS.own _ _ hs
def FEnM (e it : Addr) (S : Nat → Heap → Prop) (hS : EnS it S) (P : Nat → Prop) (v : Value) : Fact where
 keys := [e, it]
 holds h := e ≠ it ∧ ∃ i T, v = .ref T ∧ P i ∧ (∃ x, IsEnumOut h e it (i : Nat) x T) ∧ S i h
 stable := by
  rintro h h' ⟨hne, i, T, hv, hP, ⟨old, he⟩, hs⟩ k hk
  exact ⟨hne, i, T, hv, hP, ⟨old, hk e (by simp) _ he⟩, hS.at_ _ _ _ hs fun o x => hk it (by simp) o x⟩
 own := by
  rintro h ⟨hne, i, T, hv, hP, ⟨old, he⟩, hs⟩ k hk
  rcases List.mem_cons.mp hk with rfl | hk
  ·exact ⟨_, he, nI_fields (T := "enumerate") rfl rfl (by decide)⟩
  ·rw [List.mem_singleton.mp hk]; exact hS.own _ _ hs
def isTup : Expr → Prop
 | .Tuple .. => True
 | _ => False
section
variable {c : Cx} {A : Around} {K K' : List Fact} {s : Shared}
theorem Iter.enum {e it : Addr} {S : Nat → Heap → Prop} {hS : EnS it S} {xs : List SV} {N : List Fact}
  (hw : ∀ K s i, Kn c K s → (∀ f ∈ N, f ∈ K) → S i s.heap → e ≠ it → i ≤ xs.length → (∃ o, s.heap.get? e = some o ∧ o.cls = .type "enumerate") → ∃ fp P St, Draws c.prog c.w A.in1 it fp xs.length P St ∧ St i s.heap ∧ e ∉ fp ∧ it ∈ fp ∧
   (∀ v, P i v → ∀ x, xs[i]? = some x → Rep s.heap x v) ∧ (∀ h', St (i + 1) h' → S (i + 1) h')) :
  Iter c A isTup e N (fun r => FEn e it S hS fun i => r = (pairs 0 xs).drop i ∧ i ≤ xs.length) (fun v r => FEnM e it S hS (fun i => r = (pairs 0 xs).drop i ∧ i ≤ xs.length) v) where
 next := fun x r K s Q k hN hQ => by
  obtain ⟨hne, i, ⟨hr, hi⟩, ⟨old, he⟩, hs⟩ := k.facts _ List.mem_cons_self
  have hx := drop_cons hr.symm
  have hil : i < xs.length := by have := hx.2.2; rw [pairs_length] at this; exact this
  obtain ⟨fp, P, St, D, hst, hef, hif, hP, hnext⟩ := hw _ s i (k.sub (List.sublist_cons_self _ _)) hN hs hne (by omega) ⟨_, he, rfl⟩
  have hxi : ∃ y, xs[i]? = some y ∧ x = .tup [.int i, y] := by
   rw [pairs_drop] at hr
   obtain ⟨y, hy⟩ : ∃ y, xs[i]? = some y := ⟨_, List.getElem?_eq_getElem hil⟩
   rw [List.drop_eq_getElem_cons hil] at hr
   rw [List.getElem?_eq_getElem hil] at hy
   simp only [pairs] at hr
   injection hr with h1 _
   refine ⟨y, by rw [List.getElem?_eq_getElem hil]; exact hy, ?_⟩
   rw [h1, Option.some.inj hy]; simp
  obtain ⟨y, hy, rfl⟩ := hxi
  refine (WalksT.enumerateD D e hne hef hif).item i s _ _ hil ⟨⟨old, he⟩, hst⟩ fun T vals h' tk ⟨t, v, hv, hvals⟩ hT hTup hmid hk => ?_
  obtain ⟨⟨z, ho⟩, hst', _, _⟩ := hmid
  have hb : ∀ b o, b ∉ ([e, it] : List Addr) → s.heap.get? b = some o → h'.get? b = some o := hk
  have kp := k.change_keep (s' := { s with heap := h', toks := tk }) hb
  refine hQ (.ref T) _ (k.change (s' := { s with heap := h', toks := tk }) hb rfl k.bare ⟨hne, i + 1, T, rfl, ⟨hx.2.1.symm, by omega⟩, ⟨z, by push_cast; exact ho⟩, hnext _ hst'⟩ (fun a ha => .inl ha) ?_) ?_ kp
  ·show ([e, it] : List Addr).Nodup
   simp [hne]
  ·have rv : Rep h' y v := (hP v hv y hy).keep kp
   exact ⟨T, vals, rfl, hTup, by rw [hvals]; exact Reps.cons ⟨t, rfl⟩ (Reps.one rv)⟩
 go := fun t x r K s v Q ht k rx hQ => by
  obtain ⟨hne, i, T, rfl, hP, ⟨z, ho⟩, hs⟩ := k.facts _ List.mem_cons_self
  cases t with
  | Tuple elts x1 pos =>
   refine wpAny_letOwnedTupleGo_enum ho fun h' he' hs' => ?_
   have hb : ∀ b o, b ∉ ([e, it] : List Addr) → s.heap.get? b = some o → h'.get? b = some o := fun b o hb x => (hs'.2 b (fun q => hb (by simp [q]))).trans x
   have kp := k.change_keep (s' := { s with heap := h' }) hb
   refine hQ _ (k.change (s' := { s with heap := h' }) hb rfl k.bare ⟨hne, i, hP, ⟨_, he'⟩, hS.at_ _ _ _ hs fun o x => (hs'.2 it (Ne.symm hne)).trans x⟩ (fun a ha => .inl ha) ?_) kp
   show ([e, it] : List Addr).Nodup
   simp [hne]
  | _ => exact ht.elim
 stop := fun K s Q k hN hQ => by
  obtain ⟨hne, i, ⟨hr, hi⟩, ⟨old, he⟩, hs⟩ := k.facts _ List.mem_cons_self
  have hil : i = xs.length := by
   have := congrArg List.length hr
   rw [List.length_drop, pairs_length] at this
   simp at this; omega
  obtain ⟨fp, P, St, D, hst, hef, hif, hP, hnext⟩ := hw _ s i (k.sub (List.sublist_cons_self _ _)) hN hs hne hi ⟨_, he, rfl⟩
  subst hil
  refine (WalksT.enumerateD D e hne hef hif).done s _ _ ⟨⟨old, he⟩, hst⟩ fun h' tk hk => ?_
  have hb : ∀ b o, b ∉ ([e, it] : List Addr) → s.heap.get? b = some o → h'.get? b = some o := hk
  exact hQ _ (k.forget (s' := { s with heap := h', toks := tk }) hb rfl k.bare) (k.change_keep (s' := { s with heap := h', toks := tk }) hb)
 self := fun r K s Q k hN hQ => by
  obtain ⟨hne, i, ⟨hr, hi⟩, ⟨old, he⟩, hs⟩ := k.facts _ List.mem_cons_self
  exact wpAny_pyIter_enum he hQ
end
theorem EnS.str (it : Addr) (ty : String) (x : Str) (t : Tok) (hty : ty ≠ "code") : EnS it (fun i h => h.IsStrIter it ty x t i) :=
 ⟨fun i h h' ⟨o, e, r⟩ k => ⟨o, k _ e, r⟩, fun i h ⟨o, e, hc, hd⟩ => ⟨o, e, nI_fields hc hd hty⟩⟩
theorem strTy (x : Str) : strIterType x ≠ "code" := by unfold strIterType; split <;> decide
def FEnS (e it : Addr) (x : Str) (t : Tok) : Fact := FEn e it (fun i h => h.IsStrIter it (strIterType x) x t i) (EnS.str it _ x t (strTy x)) fun i => i = 0
section
variable {c : Cx} {A : Around} {K K' : List Fact} {s : Shared}
theorem Draws.str {prog : Program} {w : World} {A : Around} (hh : A.handled = none) (it : Addr) (x : Str) (t : Tok) :
  Draws prog w A it [it] x.cps.size (fun i v => ∃ c u, x.cps[i]? = some c ∧ v = .str ⟨#[c]⟩ u) (fun i h => h.IsStrIter it (strIterType x) x t i) := by
 unfold strIterType
 split
 ·exact Draws.strAscii hh it x t
 ·exact Draws.strWide hh it x t
theorem Iter.enumStr (hh : A.handled = none) (e it : Addr) (x : Str) (t : Tok) :
  Iter c A isTup e [] (fun r => FEn e it (fun i h => h.IsStrIter it (strIterType x) x t i) (EnS.str it _ x t (strTy x)) fun i => r = (pairs 0 (chs x)).drop i ∧ i ≤ (chs x).length)
   (fun v r => FEnM e it (fun i h => h.IsStrIter it (strIterType x) x t i) (EnS.str it _ x t (strTy x)) (fun i => r = (pairs 0 (chs x)).drop i ∧ i ≤ (chs x).length) v) := by
 refine Iter.enum fun K s i k hN hs hne hi _ => ?_
 have hl : (chs x).length = x.cps.size := by simp [chs]
 rw [hl]
 refine ⟨_, _, _, Draws.str (A := A.in1) hh it x t, hs, by simpa using hne, by simp, ?_, fun h' h => h⟩
 rintro v ⟨n, u, hn, rfl⟩ y hy
 rw [chs_get hn] at hy
 obtain rfl := Option.some.inj hy
 exact ⟨_, rfl⟩
theorem c_enum_str {x : Str} {Ψ : SV → List Fact → Prop} (hq : ∀ e it t, Ψ (.ref e) (FEnS e it x t :: K)) : TCall c A K (.type "enumerate") [.str x] Ψ := fun rm s fv vs k rf rs => by
 obtain rfl : fv = .type "enumerate" := rf
 obtain ⟨v, ws, rfl, ⟨t, rfl⟩, ht⟩ := rs.uncons
 obtain rfl : ws = [] := ht
 refine call_enumerate_str fun h' he hi hsz hk => ⟨.ref (s.heap.objs.size + 1), _, ?_, rfl, fun b o e _ => hk b o e, hq _ s.heap.objs.size t⟩
 refine k.add (s' := { s with heap := h' }) hk rfl k.bare ⟨Nat.succ_ne_self _, 0, rfl, ⟨_, he⟩, hi⟩ ?_ ?_
 ·show ([s.heap.objs.size + 1, s.heap.objs.size] : List Addr).Nodup
  simp
 ·intro b hb
  rcases List.mem_cons.mp hb with rfl | hb
  ·omega
  ·rw [List.mem_singleton.mp hb]; exact Nat.le_refl _
theorem x_enum_str {ρ : Loc} {Φ : SV → Loc → List Fact → Prop} {x : Str} {L : Addr} (hq : ∀ e it t, Φ (.ref e) ρ (FEnS e it x t :: K)) : TCall c A (FFr L ρ :: K) (.type "enumerate") [.str x] (Fx L ρ Φ) :=
 TCall.fx (Ψ := fun v K' => ∃ e it t, v = .ref e ∧ K' = FEnS e it x t :: FFr L ρ :: K) (c_enum_str fun e it t => ⟨e, it, t, rfl, rfl⟩) fun v K' ⟨e, it, t, e1, e2⟩ => ⟨FEnS e it x t :: K, e2 ▸ .swap .., e1 ▸ hq e it t⟩
theorem Itb.enumStr (hh : A.handled = none) {e it : Addr} {x : Str} {t : Tok} (hr : Rem (FEnS e it x t) K K') : Itb c A isTup K K' (.ref e) (pairs 0 (chs x)) [] := fun g s v Q k r h => by
 obtain rfl : v = .ref e := r
 have k2 : Kn c (FEnS e it x t :: g :: K') s := (k.perm ((hr.perm.cons g).trans (.swap ..)))
 obtain ⟨hne, i, hi, ⟨old, he⟩, hs⟩ := k2.facts _ List.mem_cons_self
 subst hi
 refine wpAny_pyIter_enum he (h _ _ _ _ (Iter.enumStr hh e it x t) ?_ (Keep.refl _))
 refine k2.change (s' := s) (fun _ _ _ e => e) rfl k.bare ⟨hne, 0, ⟨rfl, by omega⟩, ⟨old, he⟩, hs⟩ (fun a ha => .inl ha) ?_
 show ([e, it] : List Addr).Nodup
 simp [hne]
theorem EnS.list (it l : Addr) : EnS it (fun i h => h.IsListIter it l i) :=
 ⟨fun i h h' ⟨o, e, r⟩ k => ⟨o, k _ e, r⟩, fun i h ⟨o, e, hc, hd⟩ => ⟨o, e, nI_fields hc hd (by decide)⟩⟩
def FEnL (e it l : Addr) : Fact := FEn e it (fun i h => h.IsListIter it l i) (EnS.list it l) fun i => i = 0
theorem Iter.enumList (hh : A.handled = none) (e it l : Addr) (xs : List SV) (hne : l ≠ it) :
  Iter c A isTup e [FList l xs] (fun r => FEn e it (fun i h => h.IsListIter it l i) (EnS.list it l) fun i => r = (pairs 0 xs).drop i ∧ i ≤ xs.length)
   (fun v r => FEnM e it (fun i h => h.IsListIter it l i) (EnS.list it l) (fun i => r = (pairs 0 xs).drop i ∧ i ≤ xs.length) v) := by
 refine Iter.enum fun K s i k hN hs hne' hi hen => ?_
 obtain ⟨vs, n, el, rl⟩ := k.list (hN _ List.mem_cons_self)
 have hlen : vs.size = xs.length := by rw [← Array.length_toList]; exact rl.length
 obtain ⟨oe, hoe, hce⟩ := hen
 have hel : e ≠ l := fun q => by
  subst q; rw [hoe] at el; cases el; exact absurd (lst_cls hce) (by decide)
 rw [← hlen]
 refine ⟨_, _, _, Draws.list (A := A.in1) hh it l hne vs, ⟨hs, isList_of el⟩, by simp [hne', hel], by simp, ?_, fun h' h => h.1⟩
 intro v hv y hy
 obtain ⟨w, hw, hr⟩ := rl.get hy
 rw [Array.getElem?_toList, hv] at hw
 obtain rfl := Option.some.inj hw
 exact hr
theorem c_enum_list {l : Addr} {xs : List SV} (hm : FList l xs ∈ K) {Ψ : SV → List Fact → Prop} (hq : ∀ e it, Ψ (.ref e) (FEnL e it l :: K)) : TCall c A K (.type "enumerate") [.ref l] Ψ := fun rm s fv vs k rf rs => by
 obtain rfl : fv = .type "enumerate" := rf
 obtain ⟨v, ws, rfl, rfl, ht⟩ := rs.uncons
 obtain rfl : ws = [] := ht
 obtain ⟨vs, n, el, rl⟩ := k.list hm
 refine call_enumerate_list (isList_of el) fun h' he hi hsz hk => ⟨.ref (s.heap.objs.size + 1), _, ?_, rfl, fun b o e _ => hk b o e, hq _ s.heap.objs.size⟩
 refine k.add (s' := { s with heap := h' }) hk rfl k.bare ⟨Nat.succ_ne_self _, 0, rfl, ⟨_, he⟩, hi⟩ ?_ ?_
 ·show ([s.heap.objs.size + 1, s.heap.objs.size] : List Addr).Nodup
  simp
 ·intro b hb
  rcases List.mem_cons.mp hb with rfl | hb
  ·omega
  ·rw [List.mem_singleton.mp hb]; exact Nat.le_refl _
theorem x_enum_list {ρ : Loc} {Φ : SV → Loc → List Fact → Prop} {l : Addr} {xs : List SV} {L : Addr} (hm : FList l xs ∈ K) (hq : ∀ e it, Φ (.ref e) ρ (FEnL e it l :: K)) : TCall c A (FFr L ρ :: K) (.type "enumerate") [.ref l] (Fx L ρ Φ) :=
 TCall.fx (Ψ := fun v K' => ∃ e it, v = .ref e ∧ K' = FEnL e it l :: FFr L ρ :: K) (c_enum_list (List.mem_cons_of_mem _ hm) fun e it => ⟨e, it, rfl, rfl⟩) fun v K' ⟨e, it, e1, e2⟩ => ⟨FEnL e it l :: K, e2 ▸ .swap .., e1 ▸ hq e it⟩
theorem Itb.enumList (hh : A.handled = none) {e it l : Addr} {xs : List SV} (hr : Rem (FEnL e it l) K K') (hm : FList l xs ∈ K') : Itb c A isTup K K' (.ref e) (pairs 0 xs) [FList l xs] := fun g s v Q k r h => by
 obtain rfl : v = .ref e := r
 have k2 : Kn c (FEnL e it l :: g :: K') s := (k.perm ((hr.perm.cons g).trans (.swap ..)))
 obtain ⟨hne, i, hi, ⟨old, he⟩, hs⟩ := k2.facts _ List.mem_cons_self
 subst hi
 obtain ⟨vs, n, el, rl⟩ := k2.list (List.mem_cons_of_mem _ (List.mem_cons_of_mem _ hm))
 have hli : l ≠ it := fun q => by
  subst q
  obtain ⟨o, ho, hc, hd⟩ := hs
  rw [ho] at el; cases el; exact absurd (lst_cls hc) (by decide)
 refine wpAny_pyIter_enum he (h _ _ _ _ (Iter.enumList hh e it l xs hli) ?_ (Keep.refl _))
 refine k2.change (s' := s) (fun _ _ _ e => e) rfl k.bare ⟨hne, 0, ⟨rfl, by omega⟩, ⟨old, he⟩, hs⟩ (fun a ha => .inl ha) ?_
 show ([e, it] : List Addr).Nodup
 simp [hne]
end
abbrev EndP := End → Shared → Prop
def SegK (M : Model) (A : Around) (E : EndP) (c : Code) (t : Sem Fin) (fs : List Frame) (s : Shared) : Prop :=
 ∀ Γ p, Γ.code = c → Γ.Woken A → ∃ e s', Runs M Γ p t fs s e s' ∧ e.quiet = true ∧ E e s'
section
variable {M : Model} {A : Around} {E : EndP} {c : Code} {fs : List Frame} {s : Shared} {α : Type}
theorem segK_wrap {m : Sem α} {K : α → Sem Fin} {H : Value → Sem Fin} {gd lv} (h : wpAny M (A.over c fs) m (fun a s' => SegK M A E c (K a) fs s') nope s) : SegK M A E c (m.wrap K H gd lv) fs s := by
 rintro Γ p rfl hΓ
 exact runs_wrap_of_wp K H gd lv m (h (Γ.over fs) p (hΓ.over fs)) (fun a p' s' h' => h' Γ p' rfl hΓ) (fun x p' s' h' => h'.elim)
theorem segK_at {p' : Pos} {k : Unit → Sem Fin} (h : SegK M A E c (k ()) fs s) : SegK M A E c (.at p' k) fs s :=
 segK_wrap (m := standAt p') (K := k) (H := .raise) (gd := id) (lv := id) (wpAny_standAt h)
theorem segK_point {l : List Value} {k : Unit → Sem Fin} (h : SegK M A E c (k ()) fs s) : SegK M A E c (.point l k) fs s :=
 segK_wrap (m := point) (K := k) (H := .raise) (gd := id) (lv := fun _ => l) (wpAny_point h)
theorem segK_first {β : Type} {m : Sem α} {f : α → Sem β} {K : β → Sem Fin} {H : Value → Sem Fin} {gd lv} (h : wpAny M (A.over c fs) m (fun a s' => SegK M A E c ((f a).wrap K H gd lv) fs s') nope s) :
  SegK M A E c ((m >>= f).wrap K H gd lv) fs s := by
 rw [Sem.bind_eq_wrap', Sem.wrap_wrap]
 exact segK_wrap h
theorem segK_call {c' : Code} {h g l} {k : Result → Sem Fin} (hc : ∀ p, SegK M A E c' (M.den c') (.ret k h g l c p [] :: fs) s) : SegK M A E c (.call c' h g l k) fs s := by
 rintro Γ p rfl hΓ
 obtain ⟨e, s', hr, he⟩ := hc p (Γ.goto c') p rfl (hΓ.goto c')
 exact ⟨e, s', runs_call_seg hr, he⟩
theorem segK_leaf {k h g l c₁ p₁ kp} (r : Result) (hk : SegK M A E c₁ (k r) fs s) : SegK M A E c (leafOf r) (.ret k h g l c₁ p₁ kp :: fs) s := by
 rintro Γ p rfl hΓ
 obtain ⟨e, s', hr, he⟩ := hk (Γ.goto c₁) p₁ rfl (hΓ.goto c₁)
 exact ⟨e, s', Runs.pop r hr, he⟩
theorem segK_again {c' : Code} (hq : c'.quiet = true) (hc : SegK M A E c' (M.den c') fs s) : SegK M A E c (.pure (.again c')) fs s := by
 rintro Γ p rfl hΓ
 obtain ⟨e, s', hr, he⟩ := hc (Γ.goto c') p rfl (hΓ.goto c')
 exact ⟨e, s', Runs.head (c₁ := c') (fun _ _ x => .again hq x) hr, he⟩
theorem segK_end (r : Result) (h : E (.ret r) s) : SegK M A E c (leafOf r) [] s := by
 rintro Γ p rfl _
 exact ⟨.ret r, s, Runs.leaf r, rfl, h⟩
theorem segK_yield {v l} {k : Resume → Sem Fin} (hfs : splitAtGen fs = none) (hfg : fs.any Frame.guarded = false) (h : ∀ p, E (.susp v false l k c p fs) s) : SegK M A E c (.yield v false l k) fs s := by
 rintro Γ p rfl _
 exact ⟨_, s, Runs.yield' fs hfs, by simp [End.quiet, hfg], h p⟩
def WakeK (M : Model) (A : Around) (E : EndP) (gs : GenState) (s : Shared) : Prop :=
 match gs with
 | .fresh c => SegK M A E c (M.den c) [] s
 | .suspended k _ c _ fs _ => SegK M A E c (k (.send .none)) fs s
 | _ => False
theorem wpAny_resumeK {A : Around} {E : Value → Shared → Prop} {s : Shared} {g : Nat} {gs : GenState} {l : List Value} {P : EndP} {k : GenResult → Sem α} {Q : α → Shared → Prop} (hg : s.gens[g]? = some gs)
  (hgo : WakeK M A P gs (s.setGen g .running)) (hP : ∀ e s₁, P e s₁ → e.quiet = true → wpAny M A (k e.result) Q E (s₁.setGen g e.genState)) : wpAny M A (.resume g (.send .none) l k) Q E s := by
 intro Γ p hΓ
 rw [Sem.wp_resume]
 have hB : ∀ c, (Γ.wake c p).Woken A := fun c => hΓ.wake c p
 cases gs with
 | fresh c =>
  obtain ⟨e₁, s₁, hr, hq, he⟩ := hgo (Γ.wake c p) p rfl (hB c)
  exact ⟨_, _, by unfold Wakes; rw [hg]; exact ⟨e₁, s₁, hr, hq, rfl, rfl⟩, hP e₁ s₁ he hq Γ p hΓ⟩
 | suspended k₀ l₀ c₀ p₀ fs₀ cl =>
  obtain ⟨e₁, s₁, hr, hq, he⟩ := hgo (Γ.wake c₀ p) p₀ rfl (hB c₀)
  exact ⟨_, _, by unfold Wakes; rw [hg]; exact ⟨e₁, s₁, hr, hq, rfl, rfl⟩, hP e₁ s₁ he hq Γ p hΓ⟩
 | running => exact hgo.elim
 | finished => exact hgo.elim
end
section
variable {prog : Program} {w : World} {A : Around} {E : EndP} {fs : List Frame} {s : Shared} {env : Env} {K : Flow → Sem Fin} {H : Value → Sem Fin} {gd : Bool → Bool} {lv : List Value → List Value} {c : Code}
theorem segK_cons {M : Model} {st : Stmt} {rest : List Stmt} (h : SegK M A E c ((exec st env).wrap (fun f => match f with | .next => (execs rest env).wrap K H gd lv | f => K f) H gd lv) fs s) :
  SegK M A E c ((execs (st :: rest) env).wrap K H gd lv) fs s := by rw [execs_cons_wrap]; exact h
theorem segK_func {body : List Stmt} (h : SegK (model prog w) A E (.func body env) ((execs body env).wrap (fun f => .pure (.done (.ret (match f with | .ret v => v | _ => .none)))) (fun e => (leaving env e).wrap (fun _ => .raise e) .raise id id) id id) fs s) :
  SegK (model prog w) A E (.func body env) ((model prog w).den (.func body env)) fs s := by
 show SegK _ A E _ (.point [] fun _ => ((execs body env).onRaise (leaving env)) >>= _) fs s
 refine segK_point ?_
 rw [Sem.onRaise_eq_wrap, Sem.bind_eq_wrap', Sem.wrap_wrap]
 rw [Sem.wrap_congr (execs body env) _ _ (K' := fun f => .pure (.done (.ret (match f with | .ret v => v | _ => .none))))
  (H' := fun e => (leaving env e).wrap (fun _ => .raise e) .raise id id) (fun f => by cases f <;> rfl)
  (fun e => by rw [Sem.bind_eq_wrap, Sem.wrap_wrap]; rfl)]
 exact h
def loopK (target : Expr) (it : Value) (body orelse : List Stmt) (env : Env) : Flow → Sem Fin
 | .next | .cont => .pure (.again (.forLoop target it body orelse env))
 | .brk => .pure (.done .next)
 | .ret v => .pure (.done (.ret v))
theorem segK_forLoop {target : Expr} {it : Value} {body : List Stmt}
  (h : wpAny (model prog w) (A.over (.forLoop target it body [] env) fs) (pyNext it) (fun o s₁ => match o with
   | none => SegK (model prog w) A E (.block [] env) (.pure (.done .next)) fs s₁
   | some v => wpAny (model prog w) (A.over (.forLoop target it body [] env) fs) (letOwnedTupleGo target it v) (fun _ s₂ => wpAny (model prog w) (A.over (.forLoop target it body [] env) fs) (assign target env v) (fun _ s₃ =>
     ∀ H, SegK (model prog w) A E (.forLoop target it body [] env) ((execs body env).wrap (loopK target it body [] env) H id id) fs s₃) nope s₂) nope s₁) nope s) :
  SegK (model prog w) A E (.forLoop target it body [] env) ((model prog w).den (.forLoop target it body [] env)) fs s := by
 show SegK _ A E _ ((forTurn target it body [] env).onRaise (fun x => do noteFrame x env; theTreesLotGoes x)) fs s
 rw [Sem.onRaise_eq_wrap]
 unfold forTurn
 refine segK_first (wpAny_standAt ?_)
 refine segK_first (wpAny_onRaise (wpAny_mono h (fun o s₁ h₁ => ?_) fun _ _ e => e.elim))
 cases o with
 | none => exact segK_again rfl h₁
 | some v =>
  refine segK_first (wpAny_mono h₁ (fun _ s₂ h₂ => ?_) fun _ _ e => e)
  refine segK_first (wpAny_mono h₂ (fun _ s₃ h₃ => ?_) fun _ _ e => e)
  rw [Sem.bind_eq_wrap', Sem.wrap_wrap]
  rw [Sem.wrap_congr (execs body env) _ _ (K' := loopK target it body [] env) (H' := _) (fun f => by cases f <;> rfl) (fun e => rfl)]
  exact h₃ _
theorem segK_For {M : Model} {target iter : Expr} {body orelse : List Stmt} {pos : Pos}
  (h : wpAny M (A.over c fs) (eval iter env) (fun x s₁ => wpAny M (A.over c fs) (pyIter x) (fun it s₂ => ∀ p k, k (.ok .next) = K .next →
   SegK M A E (.forLoop target it body orelse env) (M.den (.forLoop target it body orelse env)) (.ret k none (gd false) (lv []) c p [] :: fs) s₂) nope s₁) nope s)
  (hs : ∀ x, foldedSetIterable iter env x = pure x := by intro _; rfl) : SegK M A E c ((exec (.For target iter body orelse pos) env).wrap K H gd lv) fs s := by
 rw [exec_For]
 refine segK_first (wpAny_standAt ?_)
 refine segK_first (wpAny_mono h (fun x s₁ h₁ => ?_) fun _ _ e => e)
 refine segK_first (wpAny_of_eq (hs x) ?_)
 refine segK_first (wpAny_standAt ?_)
 refine segK_first (wpAny_holding (wpAny_mono h₁ (fun it s₂ h₂ => ?_) fun _ _ e => e))
 exact segK_call fun p => h₂ p _ rfl
theorem segK_Yield {M : Model} {e : Expr} {ypos pos : Pos} (hfs : splitAtGen fs = none) (hgd : gd false = false) (hfg : fs.any Frame.guarded = false)
  (h : wpAny M (A.over c fs) (eval e env) (fun v s' => ∀ p k, k (.send .none) = K .next → E (.susp v false (lv []) k c p fs) s') nope s)
  (hco : env.scope.isCoroutine = false := by rfl) (hi : interactive env = false := by rfl) : SegK M A E c ((exec (.Expr (.Yield (some e) ypos) pos) env).wrap K H gd lv) fs s := by
 rw [exec_Expr env _ pos hi rfl]
 refine segK_first (wpAny_standAt ?_)
 have hy : ∀ v, yieldOut env v = yieldValue v := fun v => by simp only [yieldOut, hco, Bool.false_eq_true, if_false]
 show SegK M A E c (((eval e env >>= fun v => (standAt ypos >>= fun _ => yieldOut env v)) >>= fun x => dropValue (.Yield (some e) ypos) pos x).wrap K H gd lv) fs s
 simp only [hy]
 rw [Sem.bind_eq_wrap', Sem.wrap_wrap]
 refine segK_first (wpAny_mono h (fun v s' h' => ?_) fun _ _ e => e)
 refine segK_at ?_
 show SegK M A E c (.yield v (gd false) (lv []) _) fs s'
 rw [hgd]
 exact segK_yield hfs hfg fun p => h' p _ rfl
theorem segK_If {M : Model} {test : Expr} {body orelse : List Stmt} {pos : Pos}
  (h : wpAny M (A.over c fs) (isTrue test env (eval test env)) (fun b s' => (b = true → SegK M A E c ((execs body env).wrap K H gd lv) fs s') ∧ (b = false → SegK M A E c ((execs orelse env).wrap K H gd lv) fs s')) nope s) :
  SegK M A E c ((exec (.If test body orelse pos) env).wrap K H gd lv) fs s := by
 rw [exec_If]
 refine segK_first (wpAny_standAt ?_)
 refine segK_first (wpAny_mono h (fun b s' hb => ?_) fun _ _ e => e)
 cases b with
 | true => exact hb.1 rfl
 | false => exact hb.2 rfl
end
def FJoin (fs : List Fact) : Fact where
 keys := fs.flatMap Fact.keys
 holds h := ∀ f ∈ fs, f.holds h
 stable := fun h h' x kp hk f hf => f.stable h h' (x f hf) kp fun k hkk => hk k (List.mem_flatMap.mpr ⟨f, hf, hkk⟩)
 own := fun h x k hk => by
  obtain ⟨f, hf, hkk⟩ := List.mem_flatMap.mp hk
  exact f.own h (x f hf) k hkk
section
variable {c : Cx} {A : Around} {K K' fs : List Fact} {s : Shared}
theorem Kn.join (k : Kn c (fs ++ K) s) : Kn c (FJoin fs :: K) s := by
 refine ⟨k.old, k.lim, k.os, k.bare, fun f hf => ?_, ?_, fun f hf a ha => ?_, fun t ht => (k.tabs t ht).keys fun a ha => ?_⟩
 ·rcases List.mem_cons.mp hf with rfl | hf
  ·exact fun g hg => k.facts g (List.mem_append_left _ hg)
  ·exact k.facts f (List.mem_append_right _ hf)
 ·have := k.nodup
  rw [List.flatMap_append] at this
  rw [List.flatMap_cons]; exact this
 ·rcases List.mem_cons.mp hf with rfl | hf
  ·obtain ⟨g, hg, ha⟩ := List.mem_flatMap.mp ha
   exact k.fresh g (List.mem_append_left _ hg) a ha
  ·exact k.fresh f (List.mem_append_right _ hf) a ha
 ·rw [List.flatMap_append]
  rw [List.flatMap_cons] at ha
  exact ha
theorem Kn.split (k : Kn c (FJoin fs :: K) s) : Kn c (fs ++ K) s := by
 refine ⟨k.old, k.lim, k.os, k.bare, fun f hf => ?_, ?_, fun f hf a ha => ?_, fun t ht => (k.tabs t ht).keys fun a ha => ?_⟩
 ·rcases List.mem_append.mp hf with hf | hf
  ·exact k.facts (FJoin fs) List.mem_cons_self f hf
  ·exact k.facts f (List.mem_cons_of_mem _ hf)
 ·have := k.nodup
  rw [List.flatMap_append]
  rw [List.flatMap_cons] at this; exact this
 ·rcases List.mem_append.mp hf with hf | hf
  ·exact k.fresh (FJoin fs) List.mem_cons_self a (List.mem_flatMap.mpr ⟨f, hf, ha⟩)
  ·exact k.fresh f (List.mem_cons_of_mem _ hf) a ha
 ·rw [List.flatMap_append] at ha
  rw [List.flatMap_cons]
  exact ha
theorem Kn.to {B : Array GenState} (k : Kn c K s) (h : GOk B s.gens) : Kn (c.at B) K s := ⟨k.old, k.lim, k.os, h, k.facts, k.nodup, k.fresh, k.tabs⟩
theorem Kn.back {B : Array GenState} (k : Kn (c.at B) K s) (h : GOk c.base s.gens) : Kn c K s := ⟨k.old, k.lim, k.os, h, k.facts, k.nodup, k.fresh, k.tabs⟩
theorem GOk.self {g : Array GenState} (h : AllBare g) : GOk g g := ⟨h, fun _ _ => rfl⟩
theorem Kn.now (k : Kn c K s) : Kn (c.at s.gens) K s := k.to (.self k.bare.all)
def Live (c : Cx) (A : Around) : List SV → List Fact → GenState → Prop
 | [], G, gs => ∀ B K s, Kn (c.at B) (G ++ K) s → WakeK c.M A (fun e s' => e = .ret (.ok (.ret .none)) ∧ Kn (c.at B) K s' ∧ Keep s.heap s'.heap) gs s
 | x :: xs, G, gs => ∀ B K s, Kn (c.at B) (G ++ K) s → WakeK c.M A (fun e s' => ∃ v g l k c' p fs G', e = .susp v g l k c' p fs ∧ Rep s'.heap x v ∧ Kn (c.at B) (G' ++ K) s' ∧ Keep s.heap s'.heap ∧ Live c A xs G' e.genState) gs s
def genP (g : Nat) (o : Obj) : Prop := ∃ nm qn, o.cls = .type "generator" ∧ o.data = .fields #[.int g 0, nm, qn] ∧ o.slots = #[]
structure GI (c : Cx) (A : Around) (a : Addr) (g : Nat) (xs : List SV) (F : Fact) (K : List Fact) (s : Shared) : Prop where
 old : c.base.size ≤ g
 lt : g < s.gens.size
 kn : Kn c (F :: K) s
 live : ∃ G gs, F = FJoin (FOb a (genP g) :: G) ∧ s.gens[g]? = some gs ∧ Live c A.in1 xs G gs
theorem GOk.set {b g : Array GenState} {i : Nat} {y : GenState} (h : GOk b g) (hi : b.size ≤ i) (hy : y.bare = true) : GOk b (g.setIfInBounds i y) := by
 refine ⟨fun z hz => ?_, fun j hj => ?_⟩
 ·obtain ⟨j, hj, rfl⟩ := Array.mem_iff_getElem.mp hz
  have hj' : j < g.size := by simpa using hj
  rw [Array.getElem_setIfInBounds hj']
  split
  ·exact hy
  ·exact h.all _ (Array.getElem_mem hj')
 ·rw [Array.getElem?_setIfInBounds_ne (by omega)]
  exact h.ext j hj
theorem setGen_gens (s : Shared) (g : Nat) (y : GenState) : (s.setGen g y).gens = s.gens.setIfInBounds g y := rfl
theorem Kn.setGen {g : Nat} {y : GenState} (k : Kn c K s) (hi : c.base.size ≤ g) (hy : y.bare = true) : Kn c K (s.setGen g y) :=
 ⟨k.old, k.lim, k.os, by rw [setGen_gens]; exact k.bare.set hi hy, k.facts, k.nodup, k.fresh, k.tabs⟩
theorem GI.wake {a : Addr} {g : Nat} {xs : List SV} {F : Fact} (h : GI c A a g xs F K s) : ∃ G gs, F = FJoin (FOb a (genP g) :: G) ∧ s.gens[g]? = some gs ∧ Live c A.in1 xs G gs ∧ Kn (c.at (s.setGen g .running).gens) (G ++ (FOb a (genP g) :: K)) (s.setGen g .running) ∧ s.heap.IsGen a g := by
 obtain ⟨G, gs, rfl, hg, hl⟩ := h.live
 have k1 : Kn c (FOb a (genP g) :: (G ++ K)) s := h.kn.split
 refine ⟨G, gs, rfl, hg, hl, ((k1.perm List.perm_middle.symm).setGen h.old rfl).now, ?_⟩
 obtain ⟨o, e, nm, qn, h1, h2, h3⟩ := k1.ob List.mem_cons_self
 exact ⟨o, nm, qn, e, h1, h2, h3⟩
theorem GI.next {a : Addr} {g : Nat} {x : SV} {xs : List SV} {F : Fact} (h : GI c A a g (x :: xs) F K s) (hr : Room A 0) {Q : Option Value → Shared → Prop}
  (hQ : ∀ v s' F', Rep s'.heap x v → Keep s.heap s'.heap → GI c A a g xs F' K s' → Q (some v) s') : wpAny c.M A (pyNext (.ref a)) Q nope s := by
 obtain ⟨G, gs, rfl, hgs, hl, kw, hg⟩ := h.wake
 unfold pyNext
 refine wpAny_bind (wpAny_attempt (wpAny_callSpecial?_slot (name := Str.ofString "__next__") hg.typeIs slot_gen_next (wpAny_call_entry slot_gen_next hg.typeIs entry_gen_next ?_ (args_gen_next _))))
 show wpAny _ A.in1 (Builtin.Generator.genWake (.ref a) (.send .none)) _ _ s
 unfold Builtin.Generator.genWake
 refine wpAny_bind (wpAny_holding (wpAny_genNumber hg (wpAny_bind (wpAny_genState hgs ?_))))
 have hgo := hl _ _ _ kw
 cases gs with
 | running => exact hgo.elim
 | finished => exact hgo.elim
 | _ =>
  refine wpAny_bind (wpAny_roomToWake h.kn.lim (show A.in1.depth < recursionLimit from by have := hr.depth; simpa using this) ?_)
  show wpAny _ A.in1 (.resume g (.send .none) [] _) _ _ s
  refine wpAny_resumeK hgs hgo ?_
  rintro e s₁ ⟨v, g', l, k, c', p, fs, G', rfl, hx, k1, kp, hlive⟩ hq
  refine wpAny_pure ⟨v, rfl, wpAny_pure (hQ v _ (FJoin (FOb a (genP g) :: G')) hx kp ?_)⟩
  have hlt : g < s₁.gens.size := by
   have := k1.bare.size
   have h2 : (s.setGen g .running).gens.size = s.gens.size := by rw [setGen_gens]; simp
   exact Nat.lt_of_lt_of_le h.lt (h2 ▸ this)
  have hb : GOk c.base s₁.gens := by
   have : GOk c.base (s.setGen g .running).gens := by rw [setGen_gens]; exact h.kn.bare.set h.old rfl
   exact this.trans k1.bare
  refine ⟨h.old, by rw [setGen_gens]; simpa using hlt, ?_, G', _, rfl, ?_, hlive⟩
  ·have k2 : Kn c (FOb a (genP g) :: (G' ++ K)) s₁ := (k1.back hb).perm List.perm_middle
   exact (Kn.join (fs := FOb a (genP g) :: G') k2).setGen h.old (End.bare_of_quiet hq)
  ·rw [setGen_gens, Array.getElem?_setIfInBounds_self_of_lt hlt]
theorem GI.stop {a : Addr} {g : Nat} {F : Fact} (h : GI c A a g [] F K s) (hr : Room A 0) {Q : Option Value → Shared → Prop}
  (hQ : ∀ s', Keep s.heap s'.heap → Kn c K s' → Q none s') : wpAny c.M A (pyNext (.ref a)) Q nope s := by
 obtain ⟨G, gs, rfl, hgs, hl, kw, hg⟩ := h.wake
 unfold pyNext
 refine wpAny_bind (wpAny_attempt (wpAny_callSpecial?_slot (name := Str.ofString "__next__") hg.typeIs slot_gen_next (wpAny_call_entry slot_gen_next hg.typeIs entry_gen_next ?_ (args_gen_next _))))
 show wpAny _ A.in1 (Builtin.Generator.genWake (.ref a) (.send .none)) _ _ s
 unfold Builtin.Generator.genWake
 refine wpAny_bind (wpAny_holding (wpAny_genNumber hg (wpAny_bind (wpAny_genState hgs ?_))))
 have hgo := hl _ _ _ kw
 cases gs with
 | running => exact hgo.elim
 | finished => exact hgo.elim
 | _ =>
  refine wpAny_bind (wpAny_roomToWake h.kn.lim (show A.in1.depth < recursionLimit from by have := hr.depth; simpa using this) ?_)
  show wpAny _ A.in1 (.resume g (.send .none) [] _) _ _ s
  refine wpAny_resumeK hgs hgo ?_
  rintro e s₁ ⟨rfl, k1, kp⟩ hq
  have hb : GOk c.base s₁.gens := by
   have : GOk c.base (s.setGen g .running).gens := by rw [setGen_gens]; exact h.kn.bare.set h.old rfl
   exact this.trans k1.bare
  have k2 : Kn c K (s₁.setGen g .finished) := ((k1.back hb).sub (List.sublist_cons_self _ _)).setGen h.old rfl
  show wpAny _ _ (newExc (.type "StopIteration") [] >>= _) _ _ _
  refine wpAny_bind ?_
  simp only [newExc, newTuple]
  refine wpAny_bind (wpAny_newObj_type ?_ (by size_fits))
  refine wpAny_bind (m := firstArgMember _ _) (wpAny_of_eq (a := Value.none) (by first | rfl | (simp only [firstArgMember]; rfl)) ?_)
  refine wpAny_newObj_type ?_ (by size_fits)
  simp only [raiseNew]
  refine wpAny_bind (wpAny_bind (wpAny_handled ?_))
  first | rw [show A.in1.handled = none from hr.hh] | rw [hr.hh]
  refine wpAny_throw ?_
  refine wpAny_bind (wpAny_isInstance (T := "StopIteration") (b := true) ⟨_, Heap.get?_push_size _ rfl, rfl⟩ isSubtype_stop ?_)
  exact wpAny_pure (hQ _ (kp.trans fun b o e _ => Heap.get?_push_of_some _ (Heap.get?_push_of_some _ e)) (k2.grow (fun b o e => Heap.get?_push_of_some _ (Heap.get?_push_of_some _ e)) rfl k2.bare))
end
structure PlainG (fd : FuncData) (body : List Stmt) (ps rest gs : List Str) : Prop where
 co : fd.scope.isCoroutine = false
 gen : fd.scope.isGenerator = true
 body : fd.body = .stmts body
 glob : fd.globals = mainGlobals
 blt : fd.builtins = builtinsNs
 kind : fd.scope.kind = .function
 cell : ∀ x ∈ fd.scope.names, x.2 ≠ .cell
 loc : ∀ x ∈ ps ++ rest, fd.scope.names.lookup x = some .local
 nodup : (ps ++ rest).Nodup
 dbg : ∀ x ∈ ps ++ rest, (x == ("__debug__" : Str)) = false
 gl : ∀ x ∈ gs, fd.scope.names.lookup x = some .globalImplicit
 bind : ∀ vs : List Value, vs.length = ps.length → bindArgs fd ⟨vs, []⟩ = pure (ps.zip vs)
section
variable {c : Cx} {A : Around} {env : Env} {ρ : Loc} {K K' : List Fact} {s : Shared} {ΦS : SFl → Loc → List Fact → Prop}
theorem call_gen {a : Addr} {o : Obj} {fd : FuncData} {body : List Stmt} {ps rest gs : List Str} {xs items : List SV} (F : FnAt c a o fd) (P : PlainG fd body ps rest gs) (hl : xs.length = ps.length) (hroom : Room A 1)
  (hL : ∀ L, Live c A.in1 items [FFr L (binds ps xs rest)] (.fresh (.func body (fnEnv fd a L)))) {vs : List Value} (k : Kn c K s) (rs : Reps s.heap xs vs) {Q : Value → Shared → Prop}
  (hQ : ∀ ga g F s', GI c A ga g items F K s' → Keep s.heap s'.heap → Q (.ref ga) s') : wpAny c.M A (call (.ref a) vs) Q nope s := by
 refine wpAny_call (codeAny_call_generator (by have := hroom.depth; show A.depth < recursionLimit; omega) (F.at_ _ k.old) F.data P.co P.gen P.body (F.code _ k.old) ?_)
 refine wpAny_of_eq (P.bind vs (by rw [rs.length]; exact hl)) ?_
 refine wpAny_newFunctionEnv P.cell (fun x hx => P.loc _ (List.mem_append_left _ (List.of_mem_zip hx).1)) (fun h' hns hsb => ?_) P.kind
 have hk : ∀ b o, s.heap.get? b = some o → h'.get? b = some o := fun b o e => hsb.extBut b o (Nat.ne_of_lt (Heap.lt_size e)) (Heap.get?_push_of_some _ e)
 have kp : Keep s.heap h' := fun b o e _ => hk b o e
 refine ⟨k.lim.keeps hk, ?_⟩
 have k2 : Kn c (FFr (fnEnv fd a s.heap.objs.size).locals (binds ps xs rest) :: K) { s with heap := h', toks := s.toks + (ps.zip vs).length } := by
  refine k.add hk rfl k.bare ?_ (by simp [FFr]) ?_
  ·refine ⟨?_, _, hns, binds_ok P.nodup hl (Reps.keep kp _ rs)⟩
   have := names_binds (rest := rest) hl
   unfold names at this
   rw [this]; exact P.nodup
  ·intro b hb
   obtain rfl : b = s.heap.objs.size := List.mem_singleton.mp hb
   exact Nat.le_refl _
 generalize hs2 : (({ s with heap := h', toks := s.toks + (ps.zip vs).length }) : Shared) = s2 at k2
 have e2 : s2.heap = h' := by rw [← hs2]
 have e4 : s2.os = s.os := by rw [← hs2]
 have kk : Kn c (FOb s2.heap.objs.size (genP s2.gens.size) :: FFr (fnEnv fd a s.heap.objs.size).locals (binds ps xs rest) :: K) { s2 with gens := s2.gens.push (.fresh (.func body (fnEnv fd a s.heap.objs.size))), toks := s2.toks + 1 + 1, heap := s2.heap.push { cls := .type "generator", data := .fields #[.int s2.gens.size 0, .str fd.name s2.toks, .str fd.qualname (s2.toks + 1)] } } := by
  refine k2.add (s' := { s2 with gens := s2.gens.push (.fresh (.func body (fnEnv fd a s.heap.objs.size))), toks := s2.toks + 1 + 1, heap := s2.heap.push { cls := .type "generator", data := .fields #[.int s2.gens.size 0, .str fd.name s2.toks, .str fd.qualname (s2.toks + 1)] } }) (fun _ _ e => Heap.get?_push_of_some _ e) rfl (k2.bare.push rfl) ?_ (by simp [FOb]) ?_
  ·refine ⟨_, Heap.get?_push_size _ rfl, ⟨_, _, rfl, rfl, rfl⟩, nI_fields (T := "generator") rfl rfl (by decide)⟩
  ·intro b hb
   obtain rfl : b = s2.heap.objs.size := List.mem_singleton.mp hb
   exact Nat.le_refl _
 refine hQ _ s2.gens.size (FJoin (FOb s2.heap.objs.size (genP s2.gens.size) :: [FFr (fnEnv fd a s.heap.objs.size).locals (binds ps xs rest)])) _ ⟨k2.bare.size, by simp, kk.join (fs := [_, _]), _, _, rfl, ?_, hL _⟩ ?_
 ·simp; rfl
 ·rw [← e2] at kp
  exact kp.trans (keep_push _ _)
def GC (c : Cx) (A : Around) (K : List Fact) (fa : Addr) (v : SV) (items : List SV) : Prop :=
 ∀ s u (Q : Value → Shared → Prop), Kn c K s → Rep s.heap v u → (∀ ga g F s', GI c A ga g items F K s' → Keep s.heap s'.heap → Q (.ref ga) s') → wpAny c.M A (call (.ref fa) [u]) Q nope s
theorem GC.of {a : Addr} {o : Obj} {fd : FuncData} {body : List Stmt} {p : Str} {rest gs : List Str} {x : SV} {items : List SV} (F : FnAt c a o fd) (P : PlainG fd body [p] rest gs) (hroom : Room A 1)
  (hL : ∀ L, Live c A.in1 items [FFr L (binds [p] [x] rest)] (.fresh (.func body (fnEnv fd a L)))) : GC c A K a x items := fun s u Q k r h =>
 call_gen F P rfl hroom hL k (Reps.one r) h
theorem GI.ob {a : Addr} {g : Nat} {xs : List SV} {F : Fact} (h : GI c A a g xs F K s) : ∃ o, s.heap.get? a = some o ∧ o.cls = .type "generator" := by
 obtain ⟨G, gs, rfl, _⟩ := h.live
 obtain ⟨o, e, nm, qn, h1, _⟩ := h.kn.split.ob List.mem_cons_self
 exact ⟨o, e, h1⟩
theorem gen_call {x : Str} {np pos : Pos} {arg : Expr} {fa : Addr} {fo : Obj} {fd : FuncData} (F : FnAt c fa fo fd) {Q : Value → Shared → Prop} (ok : Okay A env (names ρ)) (k : Kn c (FFr env.locals ρ :: K) s)
  (h : TE c A env ρ K (eval (.Name x np) env) fun f ρ1 K1 => f = .ref fa ∧ TE c A env ρ1 K1 (eval arg env) fun v ρ2 K2 => ∃ items, GC c A (FFr env.locals ρ2 :: K2) fa v items ∧
   (names ρ2 = names ρ → ∀ ga g F s', GI c A ga g items F (FFr env.locals ρ2 :: K2) s' → Keep s.heap s'.heap → Q (.ref ga) s'))
  (he : starEach [arg] env = (false, eval arg env) :: starEach [] env := by rfl) : wpAny c.M A (eval (.Call (.Name x np) [arg] [] pos) env) Q nope s := by
 refine wpAny_Call_NameR (wp_step (h ok s k) (Keep.refl _) fun fv s1 f ρ1 K1 k1 n1 r1 kp1 _ ⟨ef, h1⟩ => ?_)
 subst ef
 obtain rfl : fv = .ref fa := r1
 refine Calls.callWith_function (o := fo) (fd := fd) ?_
 have hp : (backTo pos (starEach [arg] env)).any (·.1) = false := by rw [he]; rfl
 refine evalArgs_all hp ?_
 refine wpAny_items_cons (rest := []) (wp_step (h1 (ok.to n1) s1 k1) kp1 fun v s2 xv ρ2 K2 k2 n2 r2 kp2 _ ⟨items, hG, h2⟩ => ?_) he
 refine wpAny_items_nil ?_
 refine ⟨⟨F.at_ _ k2.old, F.data⟩, ?_⟩
 exact hG s2 v _ k2 r2 fun ga g Fg s3 hgi kp3 => h2 (n2.trans n1) ga g Fg s3 hgi (kp2.trans kp3)
theorem S_ForGen {x : Str} {np cpos pos : Pos} {arg target : Expr} {body orelse : List Stmt} {fa : Addr} {fo : Obj} {fd : FuncData} (F : FnAt c fa fo fd)
  (h : TE c A env ρ K (eval (.Name x np) env) fun f ρ1 K1 => f = .ref fa ∧ TE c A env ρ1 K1 (eval arg env) fun v ρ2 K2 => ∃ items J, GC c A (FFr env.locals ρ2 :: K2) fa v items ∧ J items ρ2 K2 ∧
   (∀ B F x rest ρ3 K3, J (x :: rest) ρ3 K3 → names ρ3 = names ρ → U1 RU (c.at B) A env ρ3 (F :: K3) x (assign target env) fun _ ρ4 K4 => TS (c.at B) A env ρ4 K4 (execs body env) (TurnI F J rest ΦS)) ∧
   (∀ ρ3 K3, J [] ρ3 K3 → names ρ3 = names ρ → TS c A env ρ3 K3 (execs orelse env) ΦS))
  (he : starEach [arg] env = (false, eval arg env) :: starEach [] env := by rfl) : TS c A env ρ K (exec (.For target (.Call (.Name x np) [arg] [] cpos) body orelse pos) env) ΦS := fun ok s k => by
 refine wpAny_For ?_ (by intro _; rfl)
 refine gen_call F ok k (h.mono fun f ρ1 K1 ⟨e1, h1⟩ => ⟨e1, h1.mono fun v ρ2 K2 ⟨items, J, hG, hJ, turn, fin⟩ => ⟨items, hG, fun n2 ga g Fg s3 hgi kp3 => ?_⟩⟩) he
 obtain ⟨og, hog, hcg⟩ := hgi.ob
 refine wpAny_pyIter_gen (g := g) (by
  obtain ⟨G, gs, rfl, _⟩ := hgi.live
  obtain ⟨o, e, nm, qn, h1, h2, h3⟩ := hgi.kn.split.ob List.mem_cons_self
  exact ⟨o, nm, qn, e, h1, h2, h3⟩) ?_
 refine codeAny_forLoop_any (fun n s' => ∃ xs Fx ρ1 K1, n = xs.length ∧ GI c A ga g xs Fx (FFr env.locals ρ1 :: K1) s' ∧ names ρ1 = names ρ ∧ Keep s.heap s'.heap ∧ J xs ρ1 K1) ?_ items.length ⟨items, Fg, ρ2, K2, rfl, hgi, n2, kp3, hJ⟩
 rintro n s4 ⟨xs, Fx, ρ4, K4, rfl, hgi4, n4, kp4, hJ4⟩
 cases xs with
 | nil =>
  refine wpAny_mono (GI.stop (Q := fun o s5 => match o with
   | none => Kn c (FFr env.locals ρ4 :: K4) s5 ∧ Keep s4.heap s5.heap
   | some _ => False) hgi4 ok.room fun s5 kp5 k5 => ⟨k5, kp5⟩) ?_ (fun _ _ e => e.elim)
  rintro o s5 h5
  cases o with
  | some _ => exact h5.elim
  | none =>
   obtain ⟨k5, kp5⟩ := h5
   exact wpAny_mono (wp_step (fin ρ4 K4 hJ4 n4 (ok.to n4) s5 k5) (kp4.trans kp5) fun f s6 y ρ6 K6 k6 n6 r6 kp6 _ h6 => ⟨y, ρ6, K6, k6, n6.trans n4, r6, kp6, h6⟩) (fun _ _ e => e) (fun _ _ e => e.elim)
 | cons x rest =>
  refine wpAny_mono (GI.next (Q := fun o s5 => match o with
   | none => False
   | some v => ∃ F5, GI c A ga g rest F5 (FFr env.locals ρ4 :: K4) s5 ∧ Rep s5.heap x v ∧ Keep s4.heap s5.heap) hgi4 ok.room fun v s5 F5 r5 kp5 h5 => ⟨F5, h5, r5, kp5⟩) ?_ (fun _ _ e => e.elim)
  rintro o s5 h5
  cases o with
  | none => exact h5.elim
  | some v =>
   obtain ⟨F5, hgi5, r5, kp5⟩ := h5
   obtain ⟨o5, ho5, hc5⟩ := hgi5.ob
   refine go_other ho5 hc5 (by decide) ?_
   have kp45 := kp4.trans kp5
   have k5 : Kn (c.at s5.gens) (FFr env.locals ρ4 :: F5 :: K4) s5 := hgi5.kn.swap.now
   refine wpAny_mono (wp_step (c := c.at s5.gens) (turn s5.gens F5 x rest ρ4 K4 hJ4 n4 (ok.to n4) s5 v k5 r5) kp45 ?_) (fun _ _ e => e) (fun _ _ e => e.elim)
   rintro _ s6 _ ρ6 K6 k6 n6 _ kp6 _ h6
   refine wpAny_mono (wp_step (c := c.at s5.gens) (h6 (ok.to (n6.trans n4)) s6 k6) kp6 fun f s7 y ρ7 K7 k7 n7 r7 kp7 _ h7 => ?_) (fun _ _ e => e) (fun _ _ e => e.elim)
   have hn := n7.trans (n6.trans n4)
   have hb : GOk c.base s7.gens := hgi5.kn.bare.trans k7.bare
   have back : ∀ K8, Pick (F5 :: K8) K7 → GI c A ga g rest F5 (FFr env.locals ρ7 :: K8) s7 := fun K8 p => by
    refine ⟨hgi5.old, Nat.lt_of_lt_of_le hgi5.lt k7.bare.size, ((k7.pick1 p).back hb).swap, ?_⟩
    obtain ⟨G, gs, e1, e2, e3⟩ := hgi5.live
    exact ⟨G, gs, e1, (k7.bare.ext g hgi5.lt).trans e2, e3⟩
   cases y with
   | next => obtain rfl : f = .next := r7; obtain ⟨K8, p, h8⟩ := h7; exact ⟨rest.length, Nat.lt_succ_self _, rest, F5, ρ7, K8, rfl, back K8 p, hn, kp7, h8⟩
   | cont => obtain rfl : f = .cont := r7; obtain ⟨K8, p, h8⟩ := h7; exact ⟨rest.length, Nat.lt_succ_self _, rest, F5, ρ7, K8, rfl, back K8 p, hn, kp7, h8⟩
   | brk => obtain rfl : f = .brk := r7; obtain ⟨K8, p, h8⟩ := h7; exact ⟨.next, ρ7, K8, (k7.pick1 p).back hb, hn, rfl, kp7, h8⟩
   | ret v => obtain ⟨u, rfl, hu⟩ := r7; exact ⟨.ret v, ρ7, K7, k7.back hb, hn, ⟨u, rfl, hu⟩, kp7, h7⟩
end
def tx (l : List Nat) : Str := ⟨l.toArray⟩
abbrev tS (l : List Nat) : SV := .str (tx l)
def lit (s : String) : List Nat := (Str.ofString s).cps.toList
theorem tx_cps (l : List Nat) : (tx l).cps.toList = l := rfl
theorem tx_len (l : List Nat) : (tx l).length = l.length := by simp [tx, Str.length]
theorem tx_of (x : Str) : x = tx x.cps.toList := by cases x; simp [tx]
theorem tx_lit (s : String) : Str.ofString s = tx (lit s) := tx_of _
theorem tx_inj {a b : List Nat} (h : tx a = tx b) : a = b := by
 have := congrArg (fun x => x.cps.toList) h
 simpa [tx] using this
theorem tx_append (a b : List Nat) : tx a ++ tx b = tx (a ++ b) := by
 show Str.append (tx a) (tx b) = _
 simp [Str.append, tx]
def cs (l : List Nat) : List SV := l.map fun n => tS [n]
theorem chs_tx (l : List Nat) : chs (tx l) = cs l := by simp [chs, tx, cs]
theorem rtx {h : Heap} {l : List Nat} {v : Value} (r : Rep h (tS l) v) : ∃ t, v = .str (tx l) t := r
def cl (i : Int) (n : Nat) : Nat := (max 0 (min (if i < 0 then i + n else i) n)).toNat
def slo (o : Option Int) (n : Nat) : Nat := match o with | none => 0 | some i => cl i n
def shi (o : Option Int) (n : Nat) : Nat := match o with | none => n | some i => cl i n
def sub {α : Type} (l : List α) (a b : Option Int) : List α := (l.drop (slo a l.length)).take (shi b l.length - slo a l.length)
theorem slo_le (o : Option Int) (n : Nat) : slo o n ≤ n := by
 cases o with
 | none => exact Nat.zero_le _
 | some i => unfold slo cl; simp only; split <;> omega
theorem shi_le (o : Option Int) (n : Nat) : shi o n ≤ n := by
 cases o with
 | none => exact Nat.le_refl _
 | some i => unfold shi cl; simp only; split <;> omega
theorem indices_plain (a b : Option Int) (n : Nat) : Builtin.Str.strSliceIndices a b 1 n = sliceRange (slo a n) (shi b n) 1 := by
 unfold Builtin.Str.strSliceIndices
 simp only [show ((1 : Int) > 0) = True from by simp, if_true]
 cases a <;> cases b <;> simp only [slo, shi, cl] <;> congr 1 <;> (try split) <;> omega
theorem sliced (l : List Nat) (a b : Option Int) : (Builtin.Str.strSliceIndices a b 1 (tx l).length).filterMap ((tx l).cps[·]?) = sub l a b := by
 rw [indices_plain, tx_len]
 rcases Nat.le_total (slo a l.length) (shi b l.length) with h | h
 ·have h1 := StrLaws.sliced_plain (tx l) h (by rw [tx_len]; exact shi_le _ _)
  rw [indices_plain] at h1
  have e1 : slo (some ((slo a l.length : Nat) : Int)) (tx l).length = slo a l.length := by
   rw [tx_len]; have := slo_le a l.length; show cl _ _ = _; unfold cl; split <;> omega
  have e2 : shi (some ((shi b l.length : Nat) : Int)) (tx l).length = shi b l.length := by
   rw [tx_len]; have := shi_le b l.length; show cl _ _ = _; unfold cl; split <;> omega
  rw [e1, e2, tx_cps] at h1
  exact h1
 ·have e : shi b l.length - slo a l.length = 0 := by omega
  have e2 : sliceRange (slo a l.length) (shi b l.length) 1 = [] := by
   unfold sliceRange
   have : ¬ ((slo a l.length : Int) < (shi b l.length : Nat)) := by omega
   simp [this]
  rw [e2]; simp [sub, e]
theorem sub_len {α : Type} (l : List α) (a b : Option Int) : (sub l a b).length ≤ l.length := by
 unfold sub; rw [List.length_take, List.length_drop]; omega
theorem sliceMade_tx {l : List Nat} {t : Tok} {a b : Option (Int × Tok)} {s : Shared} {Q : Value → Shared → Prop} (hl : l.length ≤ 2 ^ 24)
  (h : ∀ t' tk, Q (.str (tx (sub l (a.map (·.1)) (b.map (·.1)))) t') { s with toks := tk }) : (sliceMade (tx l) t a b none).post Q s := by
 unfold sliceMade slicePicked
 simp only [Option.map_none, Option.getD_none]
 have e := sliced l (a.map (·.1)) (b.map (·.1))
 split
 ·rename_i hc
  have hc : (Builtin.Str.strSliceIndices (a.map (·.1)) (b.map (·.1)) 1 (tx l).length).length = (tx l).length := by simpa using hc
  rw [indices_plain, tx_len] at hc
  have hw : sub l (a.map (·.1)) (b.map (·.1)) = l := by
   have h1 : (sliceRange (slo (a.map (·.1)) l.length) (shi (b.map (·.1)) l.length) 1).length = shi (b.map (·.1)) l.length - slo (a.map (·.1)) l.length := by
    unfold sliceRange
    simp only [show ((1 : Int) > 0) = True from by simp, if_true, List.length_map, List.length_range]
    split <;> simp <;> omega
   rw [h1] at hc
   have h2 := slo_le (a.map (·.1)) l.length
   have h3 := shi_le (b.map (·.1)) l.length
   unfold sub
   rcases Nat.eq_zero_or_pos l.length with h0 | h0
   ·have : l = [] := List.length_eq_zero_iff.mp h0
    subst this; simp
   ·have h4 : slo (a.map (·.1)) l.length = 0 := by omega
    have h5 : shi (b.map (·.1)) l.length = l.length := by omega
    rw [h4, h5]; simp
  have := h t s.toks
  rw [hw] at this
  exact this
 ·refine ⟨?_, ?_⟩
  ·show ((List.filterMap _ _).toArray).size ≤ sizeLine
   rw [e]
   have := sub_len l (a.map (·.1)) (b.map (·.1))
   have h2 : sizeLine = 2 ^ 24 := rfl
   simp; omega
  ·have := h s.toks (s.toks + 1)
   rw [← e] at this
   exact this
theorem o_seq (a b : List Nat) : Op2 (compareOp .Eq) (tS a) (tS b) (.bool (a == b)) := by
 intro prog w A s v u Q hr ha hb h
 obtain ⟨t, rfl⟩ := rtx ha
 obtain ⟨t', rfl⟩ := rtx hb
 exact P.eq_str (h _ _ (Quiet.refl _) rfl)
theorem o_sne (a b : List Nat) : Op2 (compareOp .NotEq) (tS a) (tS b) (.bool (a != b)) := by
 intro prog w A s v u Q hr ha hb h
 obtain ⟨t, rfl⟩ := rtx ha
 obtain ⟨t', rfl⟩ := rtx hb
 exact P.ne_str (h _ _ (Quiet.refl _) rfl)
theorem o_sadd (a b : List Nat) (hl : a.length + b.length ≤ 2 ^ 24) : Op2 (binaryOp .Add) (tS a) (tS b) (tS (a ++ b)) := by
 intro prog w A s v u Q hr ha hb h
 obtain ⟨t, rfl⟩ := rtx ha
 obtain ⟨t', rfl⟩ := rtx hb
 refine PyProof.Rows.add_str (fun t2 tk => h _ _ (Quiet.toks ..) ?_) (by rw [tx_len, tx_len]; exact hl)
 rw [tx_append]; exact ⟨_, rfl⟩
theorem o_siadd (a b : List Nat) (hl : a.length + b.length ≤ 2 ^ 24) : Op2 (inplaceOp .Add) (tS a) (tS b) (tS (a ++ b)) := by
 intro prog w A s v u Q hr ha hb h
 obtain ⟨t, rfl⟩ := rtx ha
 obtain ⟨t', rfl⟩ := rtx hb
 refine PyProof.Rows.iadd_str (fun t2 tk => h _ _ (Quiet.toks ..) ?_) (by rw [tx_len, tx_len]; exact hl)
 rw [tx_append]; exact ⟨_, rfl⟩
theorem found_char (c : Nat) (l : List Nat) : (!(Builtin.Str.occurrences (tx l) (tx [c]) 0 (tx l).length 1).isEmpty) = decide (c ∈ l) := by
 rw [Bool.eq_iff_iff, StrLaws.found_iff, decide_eq_true_eq]
 constructor
 ·rintro ⟨i, h1, h2⟩
  rw [StrLaws.subAt_eq] at h2
  have h2 : (l.drop i).take 1 = [c] := by
   rw [tx_cps, tx_cps, tx_len] at h2
   exact eq_of_beq h2
  have := List.mem_of_mem_take (h2 ▸ List.mem_singleton.mpr rfl : c ∈ (l.drop i).take 1)
  exact List.mem_of_mem_drop this
 ·intro h
  obtain ⟨i, hi, e⟩ := List.getElem_of_mem h
  refine ⟨i, by rw [tx_len, tx_len]; exact hi, ?_⟩
  rw [StrLaws.subAt_eq, tx_cps, tx_cps, tx_len]
  rw [List.drop_eq_getElem_cons hi, e]; simp
theorem o_sin (c : Nat) (l : List Nat) : Op2 (compareOp .In) (tS [c]) (tS l) (.bool (decide (c ∈ l))) := by
 intro prog w A s v u Q hr ha hb h
 obtain ⟨t, rfl⟩ := rtx ha
 obtain ⟨t', rfl⟩ := rtx hb
 refine PyProof.Rows.in_str (h _ _ (Quiet.refl _) ?_)
 rw [found_char]; rfl
theorem o_snotin (c : Nat) (l : List Nat) : Op2 (compareOp .NotIn) (tS [c]) (tS l) (.bool (!decide (c ∈ l))) := by
 intro prog w A s v u Q hr ha hb h
 obtain ⟨t, rfl⟩ := rtx ha
 obtain ⟨t', rfl⟩ := rtx hb
 refine PyProof.Rows.notIn_str (h _ _ (Quiet.refl _) ?_)
 rw [found_char]; rfl
theorem c_len_str (l : List Nat) (hl : l.length ≤ 2 ^ 24) : OpC (.bi "len") [tS l] (.int l.length) := by
 intro prog w A s fv vs Q hr hf ha h
 obtain rfl : fv = .builtin "len" := hf
 obtain ⟨v, ws, rfl, r, ht⟩ := ha.uncons
 obtain ⟨t, rfl⟩ := rtx r
 obtain rfl : ws = [] := ht
 refine P.len_str (by rw [tx_len]; omega) (h _ _ (Quiet.toks ..) ?_)
 rw [tx_len]; exact ⟨_, rfl⟩
theorem c_ord (n : Nat) : OpC (.bi "ord") [tS [n]] (.int n) := by
 intro prog w A s fv vs Q hr hf ha h
 obtain rfl : fv = .builtin "ord" := hf
 obtain ⟨v, ws, rfl, r, ht⟩ := ha.uncons
 obtain ⟨t, rfl⟩ := rtx r
 obtain rfl : ws = [] := ht
 exact ord_of_one rfl (h _ _ (Quiet.toks ..) ⟨_, rfl⟩)
theorem c_chr (i : Int) (h0 : 0 ≤ i) (h1 : i ≤ 1114111) : OpC (.bi "chr") [.int i] (tS [i.toNat]) := by
 intro prog w A s fv vs Q hr hf ha h
 obtain rfl : fv = .builtin "chr" := hf
 obtain ⟨v, ws, rfl, ⟨t, rfl⟩, ht⟩ := ha.uncons
 obtain rfl : ws = [] := ht
 exact chr_of_range h0 h1 (h _ _ (Quiet.toks ..) ⟨_, rfl⟩)
theorem ty_str {c : Cx} {K : List Fact} {l : List Nat} : ∀ s v, Kn c K s → Rep s.heap (tS l) v → s.TypeIs v "str" ∧ (∀ a, v = .ref a → ∃ ob, s.heap.get? a = some ob ∧ ob.dict = none) := by
 rintro s v _ ⟨t, rfl⟩
 exact ⟨typeIs_str s _ t, by intro _ e; cases e⟩
section
variable {c : Cx} {A : Around} {env : Env} {ρ : Loc} {K K' : List Fact} {Φ : SV → Loc → List Fact → Prop} {ΦS : SFl → Loc → List Fact → Prop}
theorem E_txt {x : String} {n : Nat} {pos : Pos} (hq : Φ (tS (lit x)) ρ K) : TE c A env ρ K (eval (.Constant (.str (Str.ofString x)) n pos) env) Φ := E_str (by rw [tx_lit]; exact hq)
theorem i_str {value slice : Expr} {l : List Nat} {i : Int} {n : Nat} (h0 : 0 ≤ i) (hx : l[i.toNat]? = some n) (hl : l.length ≤ 2 ^ 24) (hq : Φ (tS [n]) ρ K)
  (hs : ∀ o u : Value, subscripted slice false o u = operate [o, u] (getItem o u) := by intros; with_unfolding_all rfl) : U2 Rep c A env ρ K (tS l) (.int i) (subscriptTail value slice) Φ := fun ok s v u k ra rb => by
 obtain ⟨t, rfl⟩ := rtx ra
 obtain ⟨t', rfl⟩ := rb
 have hlt : i.toNat < l.length := (List.getElem?_eq_some_iff.mp hx).1
 refine tail_any (typeIs_str s _ t) F.slot_str_getitem.lookup (P.getItem_str (c := n) ?_ ?_ ⟨tS [n], ρ, K, k.quiet (.toks ..), rfl, ⟨_, rfl⟩, Keep.refl _, hq⟩) (hs _ _)
 ·have a1 : ¬ i < -(2 ^ 63) := by omega
  have a2 : ¬ i ≥ 2 ^ 63 := by omega
  rw [decide_eq_false a1, decide_eq_false a2]; rfl
 ·obtain ⟨j, rfl⟩ := Int.eq_ofNat_of_zero_le h0
  have hj : j < l.length := by simpa using hlt
  unfold seqIndex?
  have a1 : ¬ (j : Int) < 0 := by omega
  rw [tx_len]
  simp only [a1, if_false]
  have : ((j : Int) < 0 ∨ (l.length : Int) ≤ j) = False := by simp; omega
  simp at hx
  simp [tx, hj]
  exact (List.getElem?_eq_some_iff.mp hx).2
def FSl (a : Addr) (lo hi : Option Int) : Fact := FOb a fun o => o.cls = .type "slice" ∧ ∃ l u : Option (Int × Tok), l.map (·.1) = lo ∧ u.map (·.1) = hi ∧ o.data = .fields #[partValue l, partValue u, .none]
def PE (c : Cx) (A : Around) (env : Env) (ρ : Loc) (K : List Fact) (o : Option Expr) (Φ : Option Int → Loc → List Fact → Prop) : Prop :=
 match o with
 | none => Φ none ρ K
 | some e => TE c A env ρ K (eval e env) fun v ρ1 K1 => ∃ i, v = .int i ∧ Φ (some i) ρ1 K1
theorem PE_none {Φ : Option Int → Loc → List Fact → Prop} (h : Φ none ρ K) : PE c A env ρ K none Φ := h
theorem PE_some {e : Expr} {Φ : Option Int → Loc → List Fact → Prop} (h : TE c A env ρ K (eval e env) fun v ρ1 K1 => ∃ i, v = .int i ∧ Φ (some i) ρ1 K1) : PE c A env ρ K (some e) Φ := h
theorem ex_int {i : Int} {P : Int → Prop} (h : P i) : ∃ j, SV.int i = .int j ∧ P j := ⟨i, rfl, h⟩
theorem PE.run {o : Option Expr} {Φ : Option Int → Loc → List Fact → Prop} {h0 : Heap} {s : Shared} {Q : Value → Shared → Prop} (h : PE c A env ρ K o Φ) (ok : Okay A env (names ρ)) (k : Kn c (FFr env.locals ρ :: K) s) (kp0 : Keep h0 s.heap)
  (next : ∀ (l : Option (Int × Tok)) s' ρ' K', Kn c (FFr env.locals ρ' :: K') s' → names ρ' = names ρ → Keep h0 s'.heap → Keep s.heap s'.heap → Φ (l.map (·.1)) ρ' K' → Q (partValue l) s') : wpAny c.M A (evalPart o env) Q nope s := by
 cases o with
 | none => rw [evalPart_none]; exact wpAny_pure (next none s ρ K k rfl kp0 (Keep.refl _) h)
 | some e =>
  rw [evalPart_some]
  refine wp_step (h ok s k) kp0 fun v s1 x ρ1 K1 k1 n1 r1 kp1 kq1 ⟨i, e, h1⟩ => ?_
  subst e
  obtain ⟨t, rfl⟩ := r1
  exact next (some (i, t)) s1 ρ1 K1 k1 n1 kp1 kq1 h1
theorem E_Slice {lower upper : Option Expr} {p : Pos} (h : PE c A env ρ K lower fun lo ρ1 K1 => PE c A env ρ1 K1 upper fun hi ρ2 K2 => ∀ a, Φ (.ref a) ρ2 (FSl a lo hi :: K2)) : TE c A env ρ K (eval (.Slice lower upper none p) env) Φ := fun ok s k =>
 wpAny_Slice (h.run ok k (Keep.refl _) fun l s1 ρ1 K1 k1 n1 kp1 _ h1 => h1.run (ok.to n1) k1 kp1 fun u s2 ρ2 K2 k2 n2 kp2 _ h2 => by
  rw [evalPart_none]
  refine wpAny_pure ⟨.ref s2.heap.objs.size, ρ2, _, ?_, n2.trans n1, rfl, kp2.trans (keep_push _ _), h2 _⟩
  refine Kn.swap (k2.add (s' := { s2 with heap := s2.heap.push _ }) (fun _ _ e => Heap.get?_push_of_some _ e) rfl k2.bare ⟨_, Heap.get?_push_size _ rfl, ⟨rfl, l, u, rfl, rfl, rfl⟩, nI_fields (T := "slice") rfl rfl (by decide)⟩ (by simp [FSl, FOb]) ?_)
  intro b hb
  obtain rfl : b = s2.heap.objs.size := List.mem_singleton.mp hb
  exact Nat.le_refl _)
theorem i_strSl {value slice : Expr} {l : List Nat} {a : Addr} {lo hi : Option Int} (hm : FSl a lo hi ∈ K) (hl : l.length ≤ 2 ^ 24) (hq : Φ (tS (sub l lo hi)) ρ K)
  (hs : ∀ o u : Value, subscripted slice false o u = operate [u, o] (getItem o u) := by intros; with_unfolding_all rfl) : U2 Rep c A env ρ K (tS l) (.ref a) (subscriptTail value slice) Φ := fun ok s v u k ra rb => by
 obtain ⟨t, rfl⟩ := rtx ra
 obtain rfl : u = .ref a := rb
 obtain ⟨o, ho, hc, l', u', e1, e2, hd⟩ := k.ob (List.mem_cons_of_mem _ hm)
 refine tail_any (typeIs_str s _ t) F.slot_str_getitem.lookup (wpAny_getItem_str_slice (l := l') (u := u') (st := none) ⟨o, ho, hc, hd⟩ rfl (sliceMade_tx hl fun t' tk => ?_)) (hs _ _)
 rw [e1, e2]
 exact ⟨tS (sub l lo hi), ρ, K, k.quiet (.toks ..), rfl, ⟨_, rfl⟩, Keep.refl _, hq⟩
end
theorem cnt_is (n : Nat) : ∀ l : List Nat, PyProof.Rows.cnt n l = (l.count n : Nat)
 | [] => rfl
 | m :: r => by
   rw [PyProof.Rows.cnt_cons, cnt_is n r, List.count_cons]
   by_cases h : m = n <;> simp [h] <;> omega
theorem c_count (l : List Nat) (n : Nat) : OpC (.bi "str.count") [tS l, tS [n]] (.int (l.count n)) := by
 intro prog w A s fv vs Q hr hf ha h
 obtain rfl : fv = .builtin "str.count" := hf
 obtain ⟨v, ws, rfl, r, ht⟩ := ha.uncons
 obtain ⟨v2, ws2, rfl, r2, ht2⟩ := ht.uncons
 obtain ⟨t, rfl⟩ := rtx r
 obtain ⟨t2, rfl⟩ := rtx r2
 obtain rfl : ws2 = [] := ht2
 refine SC.count (h _ _ (Quiet.toks ..) ?_)
 have e : Txt.count (tx l) (tx [n]) = (l.count n : Nat) := (count_is (tx l) n).trans (cnt_is n l)
 rw [e]; exact ⟨_, rfl⟩
theorem c_find (l m : List Nat) : OpC (.bi "str.find") [tS l, tS m] (.int (Txt.find (tx l) (tx m))) := by
 intro prog w A s fv vs Q hr hf ha h
 obtain rfl : fv = .builtin "str.find" := hf
 obtain ⟨v, ws, rfl, r, ht⟩ := ha.uncons
 obtain ⟨v2, ws2, rfl, r2, ht2⟩ := ht.uncons
 obtain ⟨t, rfl⟩ := rtx r
 obtain ⟨t2, rfl⟩ := rtx r2
 obtain rfl : ws2 = [] := ht2
 exact SC.find (h _ _ (Quiet.toks ..) ⟨_, rfl⟩)
theorem c_lower (l m : List Nat) (hm : Txt.lower (tx l) = tx m) (hl : m.length ≤ 2 ^ 20) : OpC (.bi "str.lower") [tS l] (tS m) := by
 intro prog w A s fv vs Q hr hf ha h
 obtain rfl : fv = .builtin "str.lower" := hf
 obtain ⟨v, ws, rfl, r, ht⟩ := ha.uncons
 obtain ⟨t, rfl⟩ := rtx r
 obtain rfl : ws = [] := ht
 refine SC.lower ?_ (h _ _ (Quiet.toks ..) ?_)
 ·rw [hm, tx_len]; unfold Builtin.Str.tooLong
  exact decide_eq_false (by have : sizeLine = 2 ^ 24 := rfl; omega)
 ·rw [hm]; exact ⟨_, rfl⟩
theorem join_tx (ts : List (List Nat)) : Txt.join (tx []) (ts.map tx) = tx ts.flatten := by
 show Builtin.Str.glued _ _ = _
 unfold Builtin.Str.glued
 have key : ∀ (l : List (List Nat)) (a : Array Nat), ((l.map tx).foldl (fun acc p => acc ++ (tx []).cps ++ p.cps) a) = a ++ l.flatten.toArray := by
  intro l
  induction l with
  | nil => intro a; simp
  | cons x l ih => intro a; rw [List.map_cons, List.foldl_cons, ih]; simp [tx]
 cases ts with
 | nil => rfl
 | cons x r =>
  simp only [List.map_cons, List.drop_succ_cons, List.drop_zero, List.headD_cons]
  rw [key]; simp [tx]
theorem reps_strs {h : Heap} : ∀ {ts : List (List Nat)} {vs : List Value}, Reps h (ts.map tS) vs → ∃ l : List (Str × Tok), strValues l = vs ∧ l.map (·.1) = ts.map tx
 | [], vs, r => by simp only [List.map_nil, Reps] at r; subst r; exact ⟨[], rfl, rfl⟩
 | t :: ts, vs, r => by
   obtain ⟨v, ws, rfl, r1, r2⟩ := r.uncons
   obtain ⟨u, rfl⟩ := rtx r1
   obtain ⟨l, e1, e2⟩ := reps_strs r2
   exact ⟨(tx t, u) :: l, by rw [← e1]; rfl, by rw [List.map_cons, e2]; rfl⟩
section
variable {c : Cx} {A : Around} {ρ : Loc} {K : List Fact} {Φ : SV → Loc → List Fact → Prop}
theorem c_join {a : Addr} {ts : List (List Nat)} (hm : FList a (ts.map tS) ∈ K) (hl : ts.flatten.length ≤ 2 ^ 24) {Ψ : SV → List Fact → Prop} (hq : Ψ (tS ts.flatten) K) : TCall c A K (.bi "str.join") [tS [], .ref a] Ψ := fun rm s fv vs k rf rs => by
 obtain rfl : fv = .builtin "str.join" := rf
 obtain ⟨v, ws, rfl, r, ht⟩ := rs.uncons
 obtain ⟨v2, ws2, rfl, rfl, ht2⟩ := ht.uncons
 obtain ⟨t, rfl⟩ := rtx r
 obtain rfl : ws2 = [] := ht2
 obtain ⟨us, n, e, ru⟩ := k.list hm
 obtain ⟨l, e1, e2⟩ := reps_strs ru
 have eu : us = (strValues l).toArray := by rw [e1]
 subst eu
 refine SC.join (isList_of e) e2 ?_ fun t' tk => ⟨tS ts.flatten, K, k.quiet (.toks ..), by rw [join_tx]; exact ⟨_, rfl⟩, Keep.refl _, hq⟩
 unfold JoinOk
 rw [StrLaws.joinTotal]
 have e3 : ((ts.map tx).map (·.length)).sum = ts.flatten.length := by
  rw [List.length_flatten, List.map_map]; congr 1
 rw [e3, tx_len]
 unfold Builtin.Str.tooLong
 simp only [List.length_nil, Nat.mul_zero, Nat.add_zero]
 rw [Bool.not_eq_true']
 exact decide_eq_false (by have : sizeLine = 2 ^ 24 := rfl; omega)
theorem x_join {L a : Addr} {ts : List (List Nat)} (hm : FList a (ts.map tS) ∈ K) (hl : ts.flatten.length ≤ 2 ^ 24) (hq : Φ (tS ts.flatten) ρ K) : TCall c A (FFr L ρ :: K) (.bi "str.join") [tS [], .ref a] (Fx L ρ Φ) :=
 c_join (List.mem_cons_of_mem _ hm) hl (Fx.mk hq)
end
def EndOk (c : Cx) (A : Around) (B : Array GenState) (K : List Fact) (h0 : Heap) : List SV → EndP
 | [], e, s' => e = .ret (.ok (.ret .none)) ∧ Kn (c.at B) K s' ∧ Keep h0 s'.heap
 | x :: xs, e, s' => ∃ v g l k c' p fs G', e = .susp v g l k c' p fs ∧ Rep s'.heap x v ∧ Kn (c.at B) (G' ++ K) s' ∧ Keep h0 s'.heap ∧ Live c A xs G' e.genState
theorem Live.mk {c : Cx} {A : Around} {xs : List SV} {G : List Fact} {gs : GenState} (h : ∀ B K s, Kn (c.at B) (G ++ K) s → WakeK c.M A (EndOk c A B K s.heap xs) gs s) : Live c A xs G gs := by
 cases xs with
 | nil => exact h
 | cons x xs => exact h
section
variable {c : Cx} {A : Around} {E : EndP} {cd : Code} {fs : List Frame} {env : Env} {ρ : Loc} {K : List Fact} {h0 : Heap} {s : Shared} {KK : Flow → Sem Fin} {H : Value → Sem Fin} {gd : Bool → Bool} {lv : List Value → List Value}
def GT (c : Cx) (A : Around) (E : EndP) (cd : Code) (fs : List Frame) (env : Env) (h0 : Heap) (t : Sem Fin) (ρ : Loc) (K : List Fact) : Prop :=
 ∀ s, Kn c (FFr env.locals ρ :: K) s → Keep h0 s.heap → SegK c.M A E cd t fs s
theorem g_nil (h : GT c A E cd fs env h0 (KK .next) ρ K) : GT c A E cd fs env h0 ((execs [] env).wrap KK H gd lv) ρ K := h
theorem g_cons {st : Stmt} {rest : List Stmt} (h : GT c A E cd fs env h0 ((exec st env).wrap (fun f => match f with | .next => (execs rest env).wrap KK H gd lv | f => KK f) H gd lv) ρ K) :
  GT c A E cd fs env h0 ((execs (st :: rest) env).wrap KK H gd lv) ρ K := fun s k kp => segK_cons (h s k kp)
theorem g_exec {st : Stmt} {ns : List Str} (ok : Okay (A.over cd fs) env ns) (hn : names ρ = ns) (h : TS c (A.over cd fs) env ρ K (exec st env) fun f ρ' K' => f = .next ∧ (names ρ' = ns → GT c A E cd fs env h0 (KK .next) ρ' K')) :
  GT c A E cd fs env h0 ((exec st env).wrap KK H gd lv) ρ K := fun s k kp => by
 subst hn
 refine segK_wrap (wp_step (h ok s k) kp fun f s1 y ρ1 K1 k1 n1 r1 kp1 _ ⟨e, h1⟩ => ?_)
 subst e
 obtain rfl : f = .next := r1
 exact h1 n1 s1 k1 kp1
theorem g_If {test : Expr} {body orelse : List Stmt} {pos : Pos} {ns : List Str} (ok : Okay (A.over cd fs) env ns) (hn : names ρ = ns)
  (h : TB c (A.over cd fs) env ρ K (isTrue test env (eval test env)) fun b ρ1 K1 => (b = true → names ρ1 = ns → GT c A E cd fs env h0 ((execs body env).wrap KK H gd lv) ρ1 K1) ∧ (b = false → names ρ1 = ns → GT c A E cd fs env h0 ((execs orelse env).wrap KK H gd lv) ρ1 K1)) :
  GT c A E cd fs env h0 ((exec (.If test body orelse pos) env).wrap KK H gd lv) ρ K := fun s k kp => by
 subst hn
 refine segK_If (wp_step (h ok s k) kp fun b s1 x ρ1 K1 k1 n1 r1 kp1 _ h1 => ?_)
 obtain rfl : b = x := r1
 exact ⟨fun e => h1.1 e n1 s1 k1 kp1, fun e => h1.2 e n1 s1 k1 kp1⟩
theorem g_Yield {e : Expr} {ypos pos : Pos} {ns : List Str} (ok : Okay (A.over cd fs) env ns) (hn : names ρ = ns) (hfs : splitAtGen fs = none) (hgd : gd false = false) (hfg : fs.any Frame.guarded = false)
  (h : TE c (A.over cd fs) env ρ K (eval e env) fun x ρ1 K1 => ∀ v s' p k, names ρ1 = ns → Kn c (FFr env.locals ρ1 :: K1) s' → Rep s'.heap x v → Keep h0 s'.heap → k (.send .none) = KK .next → E (.susp v false (lv []) k cd p fs) s')
  (hco : env.scope.isCoroutine = false := by rfl) (hi : interactive env = false := by rfl) : GT c A E cd fs env h0 ((exec (.Expr (.Yield (some e) ypos) pos) env).wrap KK H gd lv) ρ K := fun s k kp => by
 subst hn
 refine segK_Yield hfs hgd hfg (wp_step (h ok s k) kp fun v s1 x ρ1 K1 k1 n1 r1 kp1 _ h1 => ?_) hco hi
 exact fun p kk hk => h1 v s1 p kk n1 k1 r1 kp1 hk
theorem g_turn {target : Expr} {it : Addr} {body : List Stmt} {ns : List Str} {T : Expr → Prop} {N : List Fact} {F : List SV → Fact} {Mi : Value → List SV → Fact} {xs : List SV} (ok : Okay (A.over (.forLoop target (.ref it) body [] env) fs) env ns) (hn : names ρ = ns)
  (hI : Iter c (A.over (.forLoop target (.ref it) body [] env) fs) T it N F Mi) (hT : T target) (hN : ∀ f ∈ N, f ∈ FFr env.locals ρ :: K)
  (hstop : xs = [] → GT c A E (.block [] env) fs env h0 (.pure (.done .next)) ρ K)
  (hgo : ∀ x rest, xs = x :: rest → U1 RU c (A.over (.forLoop target (.ref it) body [] env) fs) env ρ (F rest :: K) x (assign target env) fun _ ρ1 K1 => names ρ1 = ns →
   ∀ H, GT c A E (.forLoop target (.ref it) body [] env) fs env h0 ((execs body env).wrap (loopK target (.ref it) body [] env) H id id) ρ1 K1) :
  GT c A E (.forLoop target (.ref it) body [] env) fs env h0 (c.M.den (.forLoop target (.ref it) body [] env)) ρ (F xs :: K) := fun s k kp => by
 subst hn
 refine segK_forLoop ?_
 cases xs with
 | nil => exact hi_stop hI k hN fun s' k' kp' => hstop rfl s' k' (kp.trans kp')
 | cons x rest =>
  refine hI.next x rest _ s _ k.swap hN fun v s1 k1 r1 kp1 => ?_
  refine hI.go target x rest _ s1 v _ hT k1 r1 fun s2 k2 kp2 => ?_
  refine wp_step (hgo x rest rfl ok s2 v k2.swap (r1.keep kp2)) ((kp.trans kp1).trans kp2) fun _ s3 _ ρ3 K3 k3 n3 _ kp3 _ h3 => ?_
  exact fun H => h3 n3 H s3 k3 kp3
where
 hi_stop {c : Cx} {A : Around} {T : Expr → Prop} {it : Addr} {N : List Fact} {F : List SV → Fact} {Mi : Value → List SV → Fact} {g : Fact} {K : List Fact} {s : Shared} {Q : Option Value → Shared → Prop} (hI : Iter c A T it N F Mi) (k : Kn c (g :: F [] :: K) s) (hN : ∀ f ∈ N, f ∈ g :: K)
  (h : ∀ s', Kn c (g :: K) s' → Keep s.heap s'.heap → Q none s') : wpAny c.M A (pyNext (.ref it)) Q nope s := hI.stop _ s _ k.swap hN h
end
theorem Pick.skip {f : Fact} {K K' : List Fact} (h : Pick K K') : Pick K (f :: K') := by
 induction h with
 | nil => exact .nil
 | cons r _ ih => exact .cons (.there r) ih
theorem o_none_is : Op2 (compareOp .Is) .none .none (.bool true) := o_isNone _ _ fun h v r => by
 obtain rfl : v = .none := r
 rfl
theorem o_int_is (i : Int) : Op2 (compareOp .Is) (.int i) .none (.bool false) := o_isNone _ _ fun h v r => by
 obtain ⟨t, rfl⟩ := r
 rfl
theorem o_none_isnt : Op2 (compareOp .IsNot) .none .none (.bool false) := o_isNotNone .none true fun h v r => by
 obtain rfl : v = .none := r
 rfl
theorem o_str_isnt (l : List Nat) : Op2 (compareOp .IsNot) (tS l) .none (.bool true) := o_isNotNone (tS l) false fun h v r => by
 obtain ⟨t, rfl⟩ := rtx r
 rfl
theorem map_tS_snoc (ts : List (List Nat)) (x : List Nat) : ts.map tS ++ [tS x] = (ts ++ [x]).map tS := by simp
structure ClsK (c : Cx) (C : Addr) (fs : List (Str × Addr)) (ns : List Str) : Prop where
 at_ : ∀ h, OldK c.h0 h → ∃ N mN, ClsAt h C N mN ∧ (∀ p ∈ fs, mN p.1 = some (.ref p.2)) ∧ ∀ n ∈ ns, mN n = none
 old : ∃ o, c.h0.get? C = some o
def FInst (x dx C : Addr) (ρ : Loc) : Fact where
 keys := [x, dx]
 holds h := (dx ≠ x ∧ (names ρ).length ≤ 100) ∧ (names ρ).Nodup ∧ ∃ m, (∃ o, h.get? x = some o ∧ o.cls = .ref C ∧ (∀ cl, o.data ≠ .cls cl) ∧ o.dict = some dx) ∧ h.Ns1 dx m ∧ Within m (names ρ) ∧ ∀ p ∈ ρ, LocOk h m p
 stable := by
  rintro h h' ⟨hne, hn, m, ⟨o, e, r⟩, hns, hw, hl⟩ k hk
  exact ⟨hne, hn, m, ⟨o, hk x (by simp) _ e, r⟩, hns.at fun o y => hk dx (by simp) o y, hw, fun p hp => (hl p hp).keep k⟩
 own := by
  rintro h ⟨hne, hn, m, ⟨o, e, hc, hd, _⟩, ⟨o2, es, ep, e2, hd2, _⟩, _⟩ k hk
  rcases List.mem_cons.mp hk with rfl | hk
  ·exact ⟨o, e, notImm_ref hc⟩
  ·rw [List.mem_singleton.mp hk]; exact ⟨o2, e2, notImm_dict hd2⟩
theorem FInst.inst {x dx C : Addr} {ρ : Loc} {h : Heap} (H : (FInst x dx C ρ).holds h) : ∃ m, h.Inst x C m ∧ h.Ns1 dx m ∧ Within m (names ρ) ∧ (∀ p ∈ ρ, LocOk h m p) ∧ ∃ o, h.get? x = some o ∧ o.cls = .ref C ∧ (∀ cl, o.data ≠ .cls cl) ∧ o.dict = some dx := by
 obtain ⟨⟨hne, hlen⟩, hn, m, ⟨o, e, hc, hd, hdx⟩, hns, hw, hl⟩ := H
 exact ⟨m, ⟨o, e, hc, hd, .inr ⟨dx, hdx, hne, hns⟩⟩, hns, hw, hl, o, e, hc, hd, hdx⟩
def notBi : SV → Bool
 | .bi _ => false
 | _ => true
theorem handed {h : Heap} {v : SV} {u : Value} (hb : notBi v = true) (r : Rep h v u) : handedOut u = pure u := by
 cases v with
 | bi n => cases hb
 | none => obtain rfl : u = .none := r; rfl
 | bool b => obtain rfl : u = .bool b := r; rfl
 | int i => obtain ⟨t, rfl⟩ := r; rfl
 | str x => obtain ⟨t, rfl⟩ := r; rfl
 | type n => obtain rfl : u = .type n := r; rfl
 | ref a => obtain rfl : u = .ref a := r; rfl
 | tup xs => simp only [Rep] at r; obtain ⟨a, vs, rfl, _⟩ := r; rfl
section
variable {c : Cx} {A : Around} {env : Env} {ρ : Loc} {K K' : List Fact} {Φ : SV → Loc → List Fact → Prop} {ΦS : SFl → Loc → List Fact → Prop} {C x dx : Addr} {fs : List (Str × Addr)} {ns : List Str} {ρi : Loc} {name : Str}
theorem A_get {v : SV} {ex : Bool} (hc : ClsK c C fs ns) (hn : name ∈ ns) (hng : ("__getattribute__" : Str) ∈ ns) (hB : typeLookup (.type "object") name = pure none) (hm : FInst x dx C ρi ∈ K) (hv : (name, some v) ∈ ρi) (hb : notBi v = true) (hq : Φ v ρ K) :
  U1 Rep c A env ρ K (.ref x) (fun o => getAttr o name ex) Φ := fun ok s u k r => by
 obtain rfl : u = .ref x := r
 obtain ⟨m, I, hns, hw, hl, _⟩ := FInst.inst (k.facts _ (List.mem_cons_of_mem _ hm))
 obtain ⟨N, mN, X, hf, hnn⟩ := hc.at_ _ k.old
 obtain ⟨nm, q, bs, sn, sub, col, dd, k0, k1, k2, k3, k5, hC⟩ := X.obj
 obtain ⟨w, hw', hr⟩ := hl _ hv
 obtain ⟨hp, g, d, t, os⟩ := s
 exact load_attr hC X.ns (hnn _ hng) (hnn _ hn) hB I hw' (handed hb hr) ⟨v, ρ, K, k.quiet (.toks ..), rfl, hr, Keep.refl _, hq⟩
theorem E_Attr {o : Expr} {pos : Pos} (h : TE c A env ρ K (eval o env) fun a ρ1 K1 => U1 Rep c A env ρ1 K1 a (fun u => getAttr u name true) Φ)
  (hbase : attributeBase o name env (eval o env) = eval o env := by rfl) : TE c A env ρ K (eval (.Attribute o name pos) env) Φ := fun ok s k => by
 rw [arm_eval_Attribute, hbase]
 refine wpAny_bind (wp_step (h ok s k) (Keep.refl _) fun u s1 a ρ1 K1 k1 n1 r1 kp1 _ h1 => ?_)
 refine wpAny_bind (wpAny_standAt (wpAny_bind (wpAny_holding (wp_step (h1 (ok.to n1) s1 u k1 r1) kp1 fun v s2 b ρ2 K2 k2 n2 r2 kp2 _ h2 => ?_))))
 exact wpAny_bind (wpAny_letTemporaryGo (wpAny_pure ⟨b, ρ2, K2, k2, n2.trans n1, r2, kp2, h2⟩))
theorem instSet {v : SV} {u : Value} {ρi' : Loc} {s : Shared} {Q : Unit → Shared → Prop} (hc : ClsK c C fs ns) (hn : name ∈ ns) (hns : ("__setattr__" : Str) ∈ ns) (hB : typeLookup (.type "object") name = pure none) (p : Put name v ρi ρi') (hch : Chg (FInst x dx C ρi) (FInst x dx C ρi') K K')
  (k : Kn c K s) (r : Rep s.heap v u) (h : ∀ s', Kn c K' s' → Keep s.heap s'.heap → Q () s') : wpAny c.M A (setAttr (.ref x) name u) Q nope s := by
 obtain ⟨R, pm, _⟩ := hch.perm
 have H := (k.perm pm).facts _ List.mem_cons_self
 obtain ⟨⟨hne, hlen⟩, hnd, _⟩ := id H
 obtain ⟨m, I, hns1, hw, hl, o, hx, hcl, hd, hdx⟩ := FInst.inst H
 obtain ⟨N, mN, X, hf, hnn⟩ := hc.at_ _ k.old
 obtain ⟨nm, q, bs, sn, sub, col, dd, k0, k1, k2, k3, k5, hC⟩ := X.obj
 have hxC : x ≠ C := fun e => by
  have := (k.perm pm).fresh _ List.mem_cons_self x (by simp [FInst])
  obtain ⟨o', ho'⟩ := hc.old
  rw [e, ho'] at this; cases this
 obtain ⟨hp, g, d, t, os⟩ := s
 refine store_attr F.store_object hC X.ns (hnn _ hns) (hnn _ hn) hB hxC I (fun h' tk' I' hk hsame => ?_) hw ?_
 ·obtain ⟨o1, hx1, c1, d1, _, dd1⟩ := hsame _ hx
  have hb : ∀ b ob, b ∉ (FInst x dx C ρi).keys → hp.get? b = some ob → h'.get? b = some ob := fun b ob hnk e => hk b ob (fun q => hnk (by simp [FInst, q])) (fun o₀ dx' e0 e1 q => hnk (by
   have e0 : hp.get? x = some o₀ := e0
   have hx : hp.get? x = some o := hx
   rw [hx] at e0; cases e0; rw [hdx] at e1; cases e1; simp [FInst, q])) e
  have kp : Keep hp h' := (k.perm pm).change_keep (s' := ⟨h', g, d, tk', os⟩) hb
  obtain ⟨o2, hx2, c2, _, hdd⟩ := I'
  have e12 : o2 = o1 := by rw [hx1] at hx2; exact (Option.some.inj hx2).symm
  subst e12
  have hdx1 : o2.dict = some dx := dd1 dx hdx
  have hns' : h'.Ns1 dx (fun y => if y = name then some u else m y) := by
   rcases hdd with ⟨e, _⟩ | ⟨dx', e, _, hn'⟩
   ·rw [hdx1] at e; cases e
   ·rw [hdx1] at e; cases e; exact hn'
  have key : (FInst x dx C ρi').holds h' := by
   refine ⟨⟨hne, by rw [p.names]; exact hlen⟩, by rw [p.names]; exact hnd, _, ⟨o2, hx1, c1.trans hcl, (fun cl => by rw [d1]; exact hd cl), hdx1⟩, hns', ?_, fun q hq => ?_⟩
   ·intro y hy
    rw [p.names]
    by_cases e : y = name
    ·rw [e]; exact p.mem
    ·exact hw y (by simpa [e] using hy)
   ·rcases p.cases hnd q hq with rfl | ⟨hq, hne⟩
    ·exact ⟨u, by simp, r.keep kp v⟩
    ·have := (hl q hq).keep kp
     obtain ⟨n, ov⟩ := q
     cases ov with
     | none => show (if n = name then some u else m n) = none; rw [if_neg hne]; exact this
     | some y => obtain ⟨w, hw, hr⟩ := this; exact ⟨w, by show (if n = name then some u else m n) = some w; rw [if_neg hne]; exact hw, hr⟩
  exact h _ (k.chg hch (s' := ⟨h', g, d, tk', os⟩) hb rfl k.bare key (fun _ ha => .inl ha) (by show [x, dx].Nodup; simp [Ne.symm hne])).1 kp
 ·have : sizeLine = 2 ^ 24 := rfl
  omega
theorem S_AssignAttr {o value : Expr} {pos' pos : Pos}
  (h : TE c A env ρ K (eval value env) fun v ρ1 K1 => TE c A env ρ1 K1 (eval o env) fun ov ρ2 K2 => ∃ x dx C fs ns ρi ρi' K3, ov = .ref x ∧ ClsK c C fs ns ∧ name ∈ ns ∧ ("__setattr__" : Str) ∈ ns ∧ typeLookup (.type "object") name = pure none ∧ Chg (FInst x dx C ρi) (FInst x dx C ρi') K2 K3 ∧ Put name v ρi ρi' ∧ ΦS .next ρ2 K3)
  (hs : swapsWith value (some (.Attribute o name pos')) pos.line env = pure false := by rfl) : TS c A env ρ K (exec (.Assign [.Attribute o name pos'] value pos) env) ΦS := fun ok s k =>
 plainObj_wpAny_Assign_Attribute (wp_step (h ok s k) (Keep.refl _) fun v s1 a ρ1 K1 k1 n1 r1 kp1 _ h1 =>
  wp_step (h1 (ok.to n1) s1 k1) kp1 fun u s2 b ρ2 K2 k2 n2 r2 kp2 kq2 ⟨x, dx, C, fs, ns, ρi, ρi', K3, e, hc, hn, hns, hB, hch, p, h2⟩ => by
   subst e
   obtain rfl : u = .ref x := r2
   exact instSet hc hn hns hB p (.there hch) k2 (r1.keep kq2) fun s3 k3 kp3 => ⟨.next, ρ2, K3, k3, n2.trans n1, rfl, kp2.trans kp3, h2⟩) hs
end
section
variable {c : Cx} {A : Around} {env : Env} {ρ : Loc} {K K' : List Fact} {Φ : SV → Loc → List Fact → Prop} {ΦS : SFl → Loc → List Fact → Prop} {C x dx : Addr} {fs : List (Str × Addr)} {ns : List Str} {ρi : Loc} {name : Str}
def Ins (c : Cx) (K : List Fact) (x dx C : Addr) (ρi : Loc) : Prop := ∀ s, Kn c K s → (FInst x dx C ρi).holds s.heap
theorem Ins.mem (h : FInst x dx C ρi ∈ K) : Ins c K x dx C ρi := fun s k => k.facts _ h
theorem Ins.joined {gs : List Fact} (h : FJoin gs ∈ K) (hg : FInst x dx C ρi ∈ gs) : Ins c K x dx C ρi := fun s k => (k.facts (FJoin gs) h) _ hg
theorem Ins.under {g : Fact} (h : Ins c K x dx C ρi) : Ins c (g :: K) x dx C ρi := fun s k => h s (k.sub (List.sublist_cons_self _ _))
theorem A_getI {v : SV} {ex : Bool} (hc : ClsK c C fs ns) (hn : name ∈ ns) (hng : ("__getattribute__" : Str) ∈ ns) (hB : typeLookup (.type "object") name = pure none) (hI : Ins c K x dx C ρi) (hv : (name, some v) ∈ ρi) (hb : notBi v = true) (hq : Φ v ρ K) :
  U1 Rep c A env ρ K (.ref x) (fun o => getAttr o name ex) Φ := fun ok s u k r => by
 obtain rfl : u = .ref x := r
 obtain ⟨m, I, hns, hw, hl, _⟩ := FInst.inst (hI.under s k)
 obtain ⟨N, mN, X, hf, hnn⟩ := hc.at_ _ k.old
 obtain ⟨nm, q, bs, sn, sub, col, dd, k0, k1, k2, k3, k5, hC⟩ := X.obj
 obtain ⟨w, hw', hr⟩ := hl _ hv
 obtain ⟨hp, g, d, t, os⟩ := s
 exact load_attr hC X.ns (hnn _ hng) (hnn _ hn) hB I hw' (handed hb hr) ⟨v, ρ, K, k.quiet (.toks ..), rfl, hr, Keep.refl _, hq⟩
theorem S_AugAttr {o value : Expr} {tpos pos : Pos} {op : Operator}
  (h : TE c A env ρ K (eval o env) fun ov ρ1 K1 => ∃ x dx C fs ns ρi v, ov = .ref x ∧ ClsK c C fs ns ∧ name ∈ ns ∧ ("__getattribute__" : Str) ∈ ns ∧ ("__setattr__" : Str) ∈ ns ∧ typeLookup (.type "object") name = pure none ∧ FInst x dx C ρi ∈ K1 ∧ (name, some v) ∈ ρi ∧ notBi v = true ∧
   TE c A env ρ1 K1 (eval value env) fun u ρ2 K2 => U2 Rep c A env ρ2 K2 v u (inplaceOp op) fun z ρ3 K3 => ∃ ρi' K4, Chg (FInst x dx C ρi) (FInst x dx C ρi') K3 K4 ∧ Put name z ρi ρi' ∧ ΦS .next ρ3 K4) :
  TS c A env ρ K (exec (.AugAssign (.Attribute o name tpos) op value pos) env) ΦS := fun ok s k =>
 wpAny_AugAssign_AttributeAny (wp_step (h ok s k) (Keep.refl _) fun u s1 a ρ1 K1 k1 n1 r1 kp1 _ ⟨x, dx, C, fs, ns, ρi, v, e, hc, hn, hng, hns, hB, hm, hv, hb, h1⟩ => by
  subst e
  obtain rfl : u = .ref x := r1
  refine wpAny_mono (A_get (Φ := fun v' ρ' K' => v' = v ∧ ρ' = ρ1 ∧ K' = K1) (ex := true) hc hn hng hB hm hv hb ⟨rfl, rfl, rfl⟩ (ok.to n1) s1 _ k1 rfl) (fun old s2 ⟨v', ρ', K', k2, _, r2, kp2, e1, e2, e3⟩ => ?_) fun _ _ e => e
  subst e1 e2 e3
  refine wp_step (h1 (ok.to n1) s2 k2) (kp1.trans kp2) fun w s3 b ρ3 K3 k3 n3 r3 kp3 kq3 h3 => ?_
  refine wp_step (h3 (ok.to (n3.trans n1)) s3 old w k3 (r2.keep kq3) r3) kp3 fun z s4 zz ρ4 K4 k4 n4 r4 kp4 _ ⟨ρi', K5, hch, p, h4⟩ => ?_
  exact instSet hc hn hns hB p (.there hch) k4 r4 fun s5 k5 kp5 => ⟨.next, ρ4, K5, k5, n4.trans (n3.trans n1), rfl, kp4.trans kp5, h4⟩)
theorem call_meth {M : Model} {E : Value → Shared → Prop} {s : Shared} {o : Expr} {apos pos : Pos} {args : List Expr} {Q : Value → Shared → Prop}
  (h : wpAny M A (eval o env) (fun ov s₁ => ∀ pl, wpAny M A (getMethod ov name pl) (fun p s₂ => wpAny M A (callWith pos p.1 p.2 (backTo pos (starEach args env)) []) Q E s₂) E s₁) E s)
  (hbase : attributeBase o name env (eval o env) = eval o env)
  (hfew : ((backTo pos (starEach args env)).all (fun x => !x.1) && (backToKw pos (keywordEach [] env)).all (fun x => x.1.isSome)
   && decide (args.length + ([] : List Keyword).length + (if ([] : List Keyword).isEmpty then 0 else 1) < 30)) = true)
  (hline : (apos.endLine == pos.line) = true) : wpAny M A (eval (.Call (.Attribute o name apos) args [] pos) env) Q E s := by
 rw [arm_eval_Call, hbase]
 refine wpAny_bind (wpAny_mono h (fun ov s₁ h₁ => ?_) fun _ _ e => e)
 refine wpAny_bind (wpAny_standAt ?_)
 have hform : methodCallForm (args.length + ([] : List Keyword).length) (backTo pos (starEach args env)) (backToKw pos (keywordEach [] env)) = true := hfew
 have hpos : methodCallPos true o env apos pos = pure pos := by unfold methodCallPos; simp [hline]
 unfold methodCall
 rw [hform]
 refine wpAny_bind (wpAny_holding (wpAny_mono (h₁ _) (fun p s₂ h₂ => ?_) fun _ _ e => e))
 exact wpAny_bind (wpAny_of_eq hpos h₂)
theorem E_Meth {f : Addr} {o : Expr} {apos pos : Pos} {args : List Expr} {fo : Obj} {fd : FuncData} (F : FnAt c f fo fd) {y : Option Value} (hB : typeLookup (.type "object") name = pure y)
  (h : TE c A env ρ K (eval o env) fun ov ρ1 K1 => ∃ x dx C fs ns ρi, ov = .ref x ∧ ClsK c C fs ns ∧ (name, f) ∈ fs ∧ ("__getattribute__" : Str) ∈ ns ∧ ("__getattr__" : Str) ∈ ns ∧ Ins c K1 x dx C ρi ∧ name ∉ names ρi ∧ CallK c A env ρ1 K1 pos (.ref f) [.ref x] args Φ)
  (hbase : attributeBase o name env (eval o env) = eval o env := by rfl)
  (hfew : ((backTo pos (starEach args env)).all (fun x => !x.1) && (backToKw pos (keywordEach [] env)).all (fun x => x.1.isSome)
   && decide (args.length + ([] : List Keyword).length + (if ([] : List Keyword).isEmpty then 0 else 1) < 30)) = true := by rfl)
  (hline : (apos.endLine == pos.line) = true := by rfl) : TE c A env ρ K (eval (.Call (.Attribute o name apos) args [] pos) env) Φ := fun ok s k =>
 call_meth (wp_step (h ok s k) (Keep.refl _) fun u s1 a ρ1 K1 k1 n1 r1 kp1 _ ⟨x, dx, C, fs, ns, ρi, e, hc, hf, hng, hnh, hI, hsh, h1⟩ => by
  subst e
  obtain rfl : u = .ref x := r1
  intro pl
  obtain ⟨m, I, hns, hw, hl, _⟩ := FInst.inst (hI.under s1 k1)
  obtain ⟨N, mN, X, hff, hnn⟩ := hc.at_ _ k1.old
  obtain ⟨nm, q, bs, sn, sub, col, dd, k0, k1', k2, k3, k5, hC⟩ := X.obj
  have hm : m name = none := Classical.byContradiction fun hne => hsh (hw name hne)
  have hat := F.at_ _ k1.old
  obtain ⟨hp, g, d, t, os⟩ := s1
  refine method_of hC X.ns (hnn _ hng) (hnn _ hnh) (hff _ hf) hat F.cls hB I hm ?_
  exact wpAny_mono (h1 (ok.to n1) _ (.ref f) [.ref x] k1 rfl (Reps.one rfl)) (fun v s' p => p.from n1 kp1) fun _ _ e => e) hbase hfew hline
theorem getMethod_own {v : SV} {u : Value} {pl : Sem Bool} {s : Shared} {Q : Value × List Value → Shared → Prop} (hc : ClsK c C fs ns) (hn : name ∈ ns) (hng : ("__getattribute__" : Str) ∈ ns) (hnh : ("__getattr__" : Str) ∈ ns) (hB : typeLookup (.type "object") name = pure none)
  (hI : Ins c K x dx C ρi) (hv : (name, some v) ∈ ρi) (hb : notBi v = true) (k : Kn c K s) (hQ : ∀ u tk, Rep s.heap v u → Q (u, []) { s with toks := tk }) : wpAny c.M A (getMethod (.ref x) name pl) Q nope s := by
 obtain ⟨m, I, hns, hw, hl, o, hx, hcl, hd, hdx⟩ := FInst.inst (hI s k)
 obtain ⟨N, mN, X, hf, hnn⟩ := hc.at_ _ k.old
 obtain ⟨nm, q, bs, sn, sub, col, dd, k0, k1, k2, k3, k5, hC⟩ := X.obj
 obtain ⟨w, hw', hr⟩ := hl _ hv
 obtain ⟨hp, g, d, t, os⟩ := s
 have hx : hp.get? x = some o := hx
 have hCC : hp.get? C = _ := hC
 have sp : ∀ (n : Str) (y : Option Value) (Q' : Option Value → Shared → Prop), mN n = none → typeLookup (.type "object") n = pure y → Q' y ⟨hp, g, d, t, os⟩ → wpAny c.M A (specialOf (.ref x) n) Q' nope ⟨hp, g, d, t, os⟩ := by
  intro n y Q' h1 h2 h3
  unfold specialOf
  refine wpAny_bind (wpAny_typeOf_ref hx ?_)
  rw [hcl]
  refine wpAny_typeLookup_exc hCC X.ns F.mro_object h2 ?_
  rw [h1]
  exact h3
 unfold getMethod
 refine wpAny_bind (sp _ _ _ (hnn _ hng) F.lk_object_ga ?_)
 show wpAny _ A (if (Manifest.canonical "object.__getattribute__" != "object.__getattribute__") = true then _ else _) Q nope _
 rw [F.canon_object_ga, if_neg Bool.false_ne_true]
 refine wpAny_bind (sp _ _ _ (hnn _ hnh) F.lk_object_getattr ?_)
 rw [if_neg (show ¬ ((none : Option Value).isSome = true) by simp)]
 refine wpAny_bind (sp _ _ _ (hnn _ hn) hB ?_)
 show wpAny _ A (getAttr (.ref x) name >>= fun v => pure (v, [])) Q nope _
 exact wpAny_bind (load_attr hC X.ns (hnn _ hng) (hnn _ hn) hB I hw' (handed hb hr) (wpAny_pure (hQ w _ hr)))
end
end Mine
end
section
open PySem PyProof.Rows
open Builtin Builtin.ObjectAttr
namespace Mine
theorem fn_set : typeLookup (.type "function") "__set__" = pure none := by rw [typeLookup_type, builtinLookup_eq_fast]; kernel_rfl
theorem fn_del : typeLookup (.type "function") "__delete__" = pure none := by rw [typeLookup_type, builtinLookup_eq_fast]; kernel_rfl
section
variable {prog : Program} {w : World} {A : Around} {E : Value → Shared → Prop} {h : Heap} {g : Array GenState} {d : Drawn} {t : Nat} {os : OsState}
variable {nm q : Str} {C N x : Addr} {bs : List Value} {sn : List Str} {sub : List Value} {ab : Bool} {col : Option Bool} {dd : Option Addr} {k0 k1 k2 k3 k5 : Option Value} {newId : String}
 {mN mA : Str → Option Value} {name : Str}
theorem find_bound {f : Addr} {of o : Obj} {dx : Addr} {Q : Found → Shared → Prop}
  (hC : h.get? C = some (excClassObj nm q C N bs [.type "object"] true sn sub ab col dd k0 k1 k2 k3 k5 newId)) (hn : h.Ns N mN) (hf : mN name = some (.ref f)) (hfo : h.get? f = some of) (hfc : of.cls = .type "function") {y : Option Value} (hB : typeLookup (.type "object") name = pure y)
  (hx : h.get? x = some o) (hcl : o.cls = .ref C) (hd : ∀ cl, o.data ≠ .cls cl) (hdx : o.dict = some dx) (hns : h.Ns1 dx mA) (hsh : mA name = none)
  (hcp : (["__module__", "__name__", "__qualname__", "__doc__", "__annotations__"] : List Str).contains name = false)
  (hQ : Q (.bind (.builtin "function.__get__") (.ref f)) ⟨h, g, d, t, os⟩) : wpAny (model prog w) A (find (.ref x) (.ref C) name) Q E ⟨h, g, d, t, os⟩ := by
 obtain ⟨oc, od, odt, osl⟩ := o
 obtain rfl : oc = .ref C := hcl
 obtain rfl : od = some dx := hdx
 have sp : ∀ (n : Str) (y : Option Value) (Q' : Option Value → Shared → Prop), typeLookup (.type "function") n = pure y → Q' y ⟨h, g, d, t, os⟩ → wpAny (model prog w) A (specialOf (.ref f) n) Q' E ⟨h, g, d, t, os⟩ := by
  intro n y Q' h2 h3
  unfold specialOf
  refine wpAny_bind (wpAny_typeOf_ref hfo ?_)
  rw [hfc]
  exact wpAny_of_eq h2 h3
 unfold find
 refine wpAny_bind (wpAny_typeLookup_exc hC hn F.mro_object hB ?_)
 rw [hf]
 refine wpAny_bind (m := getOf _) (sp _ _ _ PySem.W.KF.slot_fn.lookup ?_)
 refine wpAny_bind (m := dataDescriptor? _ _) ?_
 show wpAny _ A (takesStores (.ref f) >>= fun b => if b = true then pure (some (Value.builtin "function.__get__", Value.ref f)) else pure none) _ _ _
 unfold takesStores
 refine wpAny_bind (wpAny_bind (sp _ _ _ fn_set ?_))
 rw [if_neg (show ¬ ((none : Option Value).isSome = true) by simp)]
 refine wpAny_bind (sp _ _ _ fn_del ?_)
 refine wpAny_pure ?_
 rw [if_neg (show ¬ ((none : Option Value).isSome = true) by simp)]
 refine wpAny_pure ?_
 unfold ownThenClass
 refine wpAny_bind (m := inOwnDict _ _) ?_
 show wpAny _ A (ownDict x >>= fun d => inDict name d) _ _ _
 unfold ownDict
 refine wpAny_bind ?_
 have hg : ∀ (Q' : Option Value → Shared → Prop), Q' none ⟨h, g, d, t, os⟩ → wpAny (model prog w) A (inDict name (some dx)) Q' E ⟨h, g, d, t, os⟩ := fun Q' hq => wpAny_nsGet hns.ns (by rw [hsh]; exact hq)
 refine wpAny_bind (m := loadHead x) (show wpAny _ _ (loadPart x (some headPart)) _ _ _ from wpAny_loadPart_at hx ?_)
 have hid : ∀ (Q' : Option Addr → Shared → Prop), Q' (some dx) ⟨h, g, d, t, os⟩ → wpAny (model prog w) A (instanceDict x false) Q' E ⟨h, g, d, t, os⟩ := fun Q' hq => by
  unfold instanceDict
  repeat (first | with_reducible refine wpAny_loadPart_at hx ?_ | with_reducible refine wpAny_loadPart_at hC ?_ | wp_step)
  exact hq
 cases odt with
 | cls cl => exact absurd rfl (hd cl)
 | _ =>
 refine hid _ ?_
 repeat (first | with_reducible refine hg _ ?_ | with_reducible refine wpAny_loadPart_at hx ?_ | with_reducible refine wpAny_loadPart_at hC ?_ | wp_step)
 rw [hcp, if_neg Bool.false_ne_true]
 refine wpAny_pure ?_
 exact wpAny_bind (wpAny_rule (wpAny_pure hQ))
def methObj (f self : Addr) : Obj := { cls := .type "method", data := .fields #[.ref f, .ref self] }
theorem bound_get {f : Addr} {of o : Obj} {dx : Addr} {expr : Bool} {Q : Value → Shared → Prop}
  (hC : h.get? C = some (excClassObj nm q C N bs [.type "object"] true sn sub ab col dd k0 k1 k2 k3 k5 newId)) (hn : h.Ns N mN) (hng : mN "__getattribute__" = none) (hnh : mN "__getattr__" = none) (hf : mN name = some (.ref f)) (hfo : h.get? f = some of) (hfc : of.cls = .type "function") {y : Option Value} (hB : typeLookup (.type "object") name = pure y)
  (hx : h.get? x = some o) (hcl : o.cls = .ref C) (hd : ∀ cl, o.data ≠ .cls cl) (hdx : o.dict = some dx) (hns : h.Ns1 dx mA) (hsh : mA name = none)
  (hcp : (["__module__", "__name__", "__qualname__", "__doc__", "__annotations__"] : List Str).contains name = false)
  (hQ : Q (.ref h.objs.size) ⟨h.push (methObj f x), g, d, t + 1, os⟩) : wpAny (model prog w) A (getAttr (.ref x) name expr) Q E ⟨h, g, d, t, os⟩ := by
 unfold getAttr getAttrBy
 repeat (first | (with_reducible refine wpAny_loadPart_at hx ?_; rw [hcl]) | (with_reducible refine wpAny_typeLookup_exc hC hn F.mro_object F.lk_object_ga ?_; rw [hng]) | wp_step)
 show wpAny _ _ ((runValue (.builtin "proto.getattr_hooked" ⟨[.ref x, .str name t], []⟩)).onRaise (noteIf true (.ref x) (.str name t))) _ _ _
 have key : wpAny (model prog w) (A.in1) (Builtin.«proto.getattr_hooked» ⟨[.ref x, .str name t], []⟩) (fun fin s' => fin = .done (.ret (.ref h.objs.size)) ∧ s' = ⟨h.push (methObj f x), g, d, t + 1, os⟩) (fun _ _ => False) ⟨h, g, d, t + 1, os⟩ := by
  unfold Builtin.«proto.getattr_hooked»
  refine wpAny_bind (m := attrName _) (wpAny_of_eq (a := name) rfl ?_)
  refine wpAny_bind (wpAny_typeOf_ref hx ?_)
  rw [hcl]
  refine wpAny_bind (find_bound hC hn hf hfo hfc hB hx hcl hd hdx hns hsh hcp ?_)
  show wpAny _ _ (typeLookup (.ref C) "__getattr__" >>= fun k => bindWithHook (.builtin "function.__get__") (.ref f) (.ref x) (.ref C) (.str name t) k) _ _ _
  refine wpAny_bind (wpAny_typeLookup_exc hC hn F.mro_object F.lk_object_getattr ?_)
  rw [hnh]
  show wpAny _ _ (holding [.ref f] (call (.builtin "function.__get__") [.ref f, .ref x, .ref C]) >>= ret) _ _ _
  refine wpAny_bind (wpAny_holding (wpAny_call (codeAny_call_builtin PySem.W.KF.slot_fn.plain PySem.W.KF.entry_fn (PySem.W.KF.slot_fn.check _ _ _ _ _ _ _ _ ⟨_, hfo, hfc⟩ (PySem.W.KF.args_fn _ _ _) ?_))))
  repeat k_node
  exact ⟨rfl, rfl⟩
 refine wpAny_onRaise (wpAny_runValue (codeAny_builtin F.plainObj_entry_getattr_hooked (wpAny_mono key (fun fin s' ⟨e1, e2⟩ => ?_) fun _ _ e => e.elim)))
 subst e1 e2
 show wpAny _ _ (handedOut (.ref h.objs.size)) _ _ _
 exact wpAny_pure hQ
end
end Mine
end
section
open PySem PyProof.Rows
namespace Mine
def FMeth (b f x : Addr) : Fact := FOb b fun o => o = methObj f x
section
variable {c : Cx} {A : Around} {env : Env} {ρ : Loc} {K K' : List Fact} {Φ : SV → Loc → List Fact → Prop} {ΦS : SFl → Loc → List Fact → Prop} {C x dx : Addr} {fs : List (Str × Addr)} {ns : List Str} {ρi : Loc} {name : Str}
theorem E_MethI {o : Expr} {apos pos : Pos} {args : List Expr} (hB : typeLookup (.type "object") name = pure none)
  (h : TE c A env ρ K (eval o env) fun ov ρ1 K1 => ∃ x dx C fs ns ρi v, ov = .ref x ∧ ClsK c C fs ns ∧ name ∈ ns ∧ ("__getattribute__" : Str) ∈ ns ∧ ("__getattr__" : Str) ∈ ns ∧ Ins c K1 x dx C ρi ∧ (name, some v) ∈ ρi ∧ notBi v = true ∧ CallK c A env ρ1 K1 pos v [] args Φ)
  (hbase : attributeBase o name env (eval o env) = eval o env := by rfl)
  (hfew : ((backTo pos (starEach args env)).all (fun x => !x.1) && (backToKw pos (keywordEach [] env)).all (fun x => x.1.isSome)
   && decide (args.length + ([] : List Keyword).length + (if ([] : List Keyword).isEmpty then 0 else 1) < 30)) = true := by rfl)
  (hline : (apos.endLine == pos.line) = true := by rfl) : TE c A env ρ K (eval (.Call (.Attribute o name apos) args [] pos) env) Φ := fun ok s k =>
 call_meth (wp_step (h ok s k) (Keep.refl _) fun u s1 a ρ1 K1 k1 n1 r1 kp1 _ ⟨x, dx, C, fs, ns, ρi, v, e, hc, hn, hng, hnh, hI, hv, hb, h1⟩ => by
  subst e
  obtain rfl : u = .ref x := r1
  intro pl
  refine getMethod_own (v := v) (u := .none) hc hn hng hnh hB hI.under hv hb k1 fun w tk hr => ?_
  exact wpAny_mono (h1 (ok.to n1) { s1 with toks := tk } w [] (k1.toks tk) hr Reps.nil) (fun v s' p => p.from n1 kp1) fun _ _ e => e) hbase hfew hline
theorem A_bound {f : Addr} {ex : Bool} {fo : Obj} {fd : FuncData} {y : Option Value} (F : FnAt c f fo fd) (hc : ClsK c C fs ns) (hf : (name, f) ∈ fs) (hng : ("__getattribute__" : Str) ∈ ns) (hnh : ("__getattr__" : Str) ∈ ns) (hB : typeLookup (.type "object") name = pure y) (hI : Ins c K x dx C ρi) (hsh : name ∉ names ρi)
  (hcp : (["__module__", "__name__", "__qualname__", "__doc__", "__annotations__"] : List Str).contains name = false) (hq : ∀ b, Φ (.ref b) ρ (FMeth b f x :: K)) :
  U1 Rep c A env ρ K (.ref x) (fun o => getAttr o name ex) Φ := fun ok s u k r => by
 obtain rfl : u = .ref x := r
 obtain ⟨m, I, hns, hw, hl, o, hx, hcl, hd, hdx⟩ := FInst.inst (hI.under s k)
 obtain ⟨N, mN, X, hff, hnn⟩ := hc.at_ _ k.old
 obtain ⟨nm, q, bs, sn, sub, col, dd, k0, k1, k2, k3, k5, hC⟩ := X.obj
 have hm : m name = none := Classical.byContradiction fun hne => hsh (hw name hne)
 have hat := F.at_ _ k.old
 obtain ⟨hp, g, d, t, os⟩ := s
 refine bound_get hC X.ns (hnn _ hng) (hnn _ hnh) (hff _ hf) hat F.cls hB hx hcl hd hdx hns hm hcp ⟨.ref hp.objs.size, ρ, _, ?_, rfl, rfl, keep_push _ _, hq _⟩
 refine Kn.swap (k.add (s' := ⟨hp.push (methObj f x), g, d, t + 1, os⟩) (fun _ _ e => Heap.get?_push_of_some _ e) rfl k.bare ⟨_, Heap.get?_push_size _ rfl, rfl, nI_fields (T := "method") rfl rfl (by decide)⟩ (by simp [FMeth, FOb]) ?_)
 intro b hb
 obtain rfl : b = hp.objs.size := List.mem_singleton.mp hb
 exact Nat.le_refl _
theorem c_class {init : Addr} {fo : Obj} {fd : FuncData} {xs : List SV} {attrs : List Str} {Ψ : SV → List Fact → Prop} {n : Nat} (hc : ClsK c C fs ns) (hi : (Str.ofString "__init__", init) ∈ fs) (F : FnAt c init fo fd) (hat : attrs.Nodup) (hal : attrs.length ≤ 100) (hr : Room A (n + 1))
  (h : ∀ x dx A', Room A' n → TCall c A' (FInst x dx C (attrs.map fun a => (a, none)) :: K) (.ref init) (.ref x :: xs) (fun v K' => v = .none ∧ Ψ (.ref x) K')) : TCall c A K (.ref C) xs Ψ := fun rm s fv vs k rf rs => by
 obtain rfl : fv = .ref C := rf
 obtain ⟨N, mN, X, hff, hnn⟩ := hc.at_ _ k.old
 obtain ⟨nm, q, bs, sn, sub, col, dd, k0, k1, k2, k3, k5, hC⟩ := X.obj
 have hfat := F.at_ _ k.old
 obtain ⟨hp, g, d, t, os⟩ := s
 refine wpAny_call_obj_init PySem.F.objNew hC X.ns (hff _ hi) hfat F.cls fun h' x dx hm => ?_
 have hkk : ∀ b o, hp.get? b = some o → h'.get? b = some o := hm.keeps
 have hnames : names (attrs.map fun a => ((a, none) : Str × Option SV)) = attrs := by unfold names; rw [List.map_map]; simp [Function.comp_def]
 have k' : Kn c (FInst x dx C (attrs.map fun a => (a, none)) :: K) ⟨h', g, d, t, os⟩ := by
  obtain ⟨o, hx, hcl, hd, hdd⟩ := hm.inst
  have hdx := hm.dict o hx
  rcases hdd with ⟨e, _⟩ | ⟨dx', e, hne, hns⟩
  ·rw [hdx] at e; cases e
  ·rw [hdx] at e; cases e
   refine k.addAllN (fs := [FInst x dx C (attrs.map fun a => (a, none))]) (s' := ⟨h', g, d, t, os⟩) hkk rfl k.bare (fun f hf => ?_) ?_ ?_
   ·rw [List.mem_singleton.mp hf]
    refine ⟨⟨hne, by rw [hnames]; exact hal⟩, by rw [hnames]; exact hat, _, ⟨o, hx, hcl, hd, hdx⟩, hns, fun y hy => absurd rfl hy, fun p hp => ?_⟩
    obtain ⟨a, _, rfl⟩ := List.mem_map.mp hp
    rfl
   ·show ([x, dx] ++ ([] : List Addr)).Nodup
    simp [Ne.symm hne]
   ·intro b hb
    have hb : b ∈ [x, dx] := by simpa [FInst] using hb
    rcases List.mem_cons.mp hb with rfl | hb
    ·exact hm.newX
    ·rw [List.mem_singleton.mp hb]; exact hm.newD
 have hr2 : Room (A.under (.builtin "type.__call__" ⟨.ref C :: vs, []⟩)) n := by
  have e1 : (A.under (.builtin "type.__call__" ⟨.ref C :: vs, []⟩)).depth = A.depth + 1 := rfl
  have e2 : (A.under (.builtin "type.__call__" ⟨.ref C :: vs, []⟩)).units = A.units + 1 := rfl
  refine ⟨hr.hh, ?_, ?_⟩
  ·rw [e1]; have := hr.depth; omega
  ·rw [e2]; have := hr.units; omega
 refine wpAny_mono (h x dx _ hr2 (hr2.le (Nat.zero_le _)) ⟨h', g, d, t, os⟩ (.ref init) (.ref x :: vs) k' rfl (Reps.cons rfl (Reps.keep (fun b o e _ => hkk b o e) _ rs))) (fun v s' ⟨y, K', a, b, kp, e, q⟩ => ?_) fun _ _ e => e
 ·subst e
  obtain rfl : v = .none := b
  exact ⟨rfl, .ref x, K', a, rfl, (fun b o e i => kp b o (hkk b o e) i), q⟩
end
section
variable {c : Cx} {A : Around} {env : Env} {ρ : Loc} {K K' : List Fact} {Φ : SV → Loc → List Fact → Prop} {ΦS : SFl → Loc → List Fact → Prop} {C x dx : Addr} {fs : List (Str × Addr)} {ns : List Str} {ρi : Loc} {name : Str}
theorem CallK_cls {pos : Pos} {first : List SV} {args : List Expr} (hc : ClsK c C fs ns)
  (h : U0 Reps c A env ρ K (spliced (backTo pos (starEach args env))) fun xs ρ2 K2 => TCall c A (FFr env.locals ρ2 :: K2) (.ref C) (first ++ xs) (Fx env.locals ρ2 Φ))
  (hp : (backTo pos (starEach args env)).any (·.1) = false := by rfl) : CallK c A env ρ K pos (.ref C) first args Φ := fun ok s fv fvs k rf rfs => by
 obtain rfl : fv = .ref C := rf
 have hst : ((backTo pos (starEach args env)).any (fun x => x.fst) || ([] : List (Option Str × Sem Value)).any fun x => x.fst.isNone) = false := by rw [hp]; rfl
 unfold callWith
 refine wpAny_bind (wpAny_holding (evalArgs_all hp (wp_step (h ok s k) (Keep.refl _) fun vs s2 xs ρ2 K2 k2 n2 r2 kp2 _ h2 => ?_)))
 have fin := CallK.end (f := .ref C) ok n2 k2 rfl (Reps.append (Reps.keep kp2 _ rfs) r2) kp2 h2
 obtain ⟨N, mN, X, hff, hnn⟩ := hc.at_ _ k2.old
 obtain ⟨nm, q, bs, sn, sub, col, dd, k0, k1, k2', k3, k5, hC⟩ := X.obj
 obtain ⟨hh, g, d, t, os⟩ := s2
 have f1 := tc_lookup
 have hT : (⟨hh, g, d, t, os⟩ : Shared).TypeIs (.ref C) "type" := ⟨_, hC, rfl⟩
 refine wpAny_bind (wpAny_standAt ?_)
 show wpAny _ _ (keeperOf (.ref C) >>= _) _ _ _
 unfold keeperOf specialOf
 repeat (any_goals (first | assumption | with_reducible refine wpAny_loadPart_at hC ?_ | with_reducible refine wpAny_load' hC ?_ | wp_step))
 rw [if_pos (by rfl), hst]
 show wpAny _ _ (call (.ref C) (fvs ++ vs) [] >>= fun r => do holding [r] point; pure r) _ _ _
 exact wpAny_bind (wpAny_mono fin (fun r s' hr => wpAny_bind (wpAny_holding (wpAny_point (wpAny_pure hr)))) fun _ _ e => e)
theorem c_pop {a : Addr} {xs : List SV} {x : SV} {i : Nat} (hx : xs[i]? = some x) (hch : Chg (FList a xs) (FList a (xs.eraseIdx i)) K K') (hl : xs.length < 2 ^ 20) {Ψ : SV → List Fact → Prop} (hq : Ψ x K') : TCall c A K (.bi "list.pop") [.ref a, .int i] Ψ := fun rm s fv vs k rf rs => by
 obtain rfl : fv = .builtin "list.pop" := rf
 obtain ⟨v, ws, rfl, rfl, ht⟩ := rs.uncons
 obtain ⟨u, ws, rfl, ⟨t, rfl⟩, ht2⟩ := ht.uncons
 obtain rfl : ws = [] := ht2
 obtain ⟨R, p, _⟩ := hch.perm
 obtain ⟨us, n, e, r⟩ := (k.perm p).list List.mem_cons_self
 have hlen : us.size = xs.length := by rw [← Array.length_toList]; exact r.length
 have hs : sizeLine = 2 ^ 24 := rfl
 have hi : i < xs.length := (List.getElem?_eq_some_iff.mp hx).1
 obtain ⟨y, hy, ry⟩ := r.get hx
 have hre : ∀ {h : Heap} {zs : List SV} {ws : List Value}, Reps h zs ws → ∀ i, Reps h (zs.eraseIdx i) (ws.eraseIdx i) := by
  intro h zs
  induction zs with
  | nil => intro ws r i; simp only [Reps] at r; subst r; simp [Reps]
  | cons z zs ih =>
   intro ws r i
   obtain ⟨w, ws, rfl, r1, r2⟩ := r.uncons
   cases i with
   | zero => simpa using r2
   | succ i => simpa using Reps.cons r1 (ih r2 i)
 obtain ⟨k', kp⟩ := k.listSet hch e (fun x => x.eraseIdxIfInBounds i) (fun hp kp => by
  have : (us.eraseIdxIfInBounds i).toList = us.toList.eraseIdx i := by
   unfold Array.eraseIdxIfInBounds
   split
   ·simp
   ·rw [List.eraseIdx_of_length_le (by simp; omega)]
  rw [this]; exact hre (Reps.keep kp _ r) i) s.toks
 have hf : Builtin.List.listFitsIndex (i : Int) = true := fitsIndex_of (by omega) (by omega)
 have hy' : us[i]? = some y := by simpa using hy
 have hk : seqIndex? (i : Int) us.size = some i := by
  unfold seqIndex?
  have a1 : ¬ (i : Int) < 0 := by omega
  simp only [a1, if_false]
  simp; omega
 have hsz : us.size ≤ sizeLine := by rw [hs]; omega
 generalize (i : Int) = j at *
 have M := PySem.MeetsSeq.list_pop_at a us n j t i y hf hk hy' hsz
 exact call_meets PySem.F.slot_list_pop ⟨_, e, rfl⟩ PySem.F.entry_list_pop (PySem.F.args_list_pop_2 _ _) M ⟨e, ⟨x, K', k', ry.keep kp, kp, hq⟩⟩
theorem x_pop {L a : Addr} {xs : List SV} {x : SV} {i : Nat} (hx : xs[i]? = some x) (hch : Chg (FList a xs) (FList a (xs.eraseIdx i)) K K') (hl : xs.length < 2 ^ 20) (hq : Φ x ρ K') : TCall c A (FFr L ρ :: K) (.bi "list.pop") [.ref a, .int i] (Fx L ρ Φ) :=
 c_pop hx (.there hch) hl (Fx.mk hq)
end
section
variable {prog : Program} {w : World} {A : Around} {E : Value → Shared → Prop}
theorem pyNext_ascii_end {it : Addr} {x : Str} {t : Tok} {i : Nat} {s : Shared} {Q : Option Value → Shared → Prop} (hh : A.handled = none) (hit : s.heap.IsStrIter it "str_ascii_iterator" x t i) (hx : x.cps[i]? = none)
  (hQ : ∀ h', (∃ o, h'.get? it = some o ∧ o.cls = .type "str_ascii_iterator" ∧ o.data = .fields #[.none, .int i 0]) → Heap.ExtBut it s.heap h' → Q none { s with heap := h' }) : wpAny (model prog w) A (pyNext (.ref it)) Q E s := by
 obtain ⟨o, ho, hc, hd⟩ := id hit
 unfold pyNext
 refine wpAny_bind (wpAny_attempt (wpAny_callSpecial?_slot (name := Str.ofString "__next__") hit.typeIs PySem.F.slot_str_ascii_iterator_next (wpAny_call_entry PySem.F.slot_str_ascii_iterator_next hit.typeIs PySem.F.entry_str_ascii_iterator_next ?_ (PySem.F.args_str_ascii_iterator_next_1 _))))
 show wpAny _ _ (field (.ref it) 0 >>= _) _ _ s
 refine wpAny_bind (wpAny_field ho hd (x := .str x t) rfl ?_)
 show wpAny _ _ (field (.ref it) 1 >>= _) _ _ s
 refine wpAny_bind (wpAny_field ho hd (x := .int i 0) rfl ?_)
 simp only [Int.toNat_natCast, hx]
 refine wpAny_bind (wpAny_rule (wpAny_bind (wpAny_setField ho hd (by simp) (wpAny_bind (wpAny_letGo ?_)))))
 show wpAny _ _ (newExc (.type "StopIteration") [] >>= _) _ _ _
 refine wpAny_bind ?_
 simp only [newExc, newTuple]
 refine wpAny_bind (wpAny_newObj_type ?_ (by size_fits))
 refine wpAny_bind (m := firstArgMember _ _) (wpAny_of_eq (a := Value.none) (by first | rfl | (simp only [firstArgMember]; rfl)) ?_)
 refine wpAny_newObj_type ?_ (by size_fits)
 simp only [raiseNew]
 refine wpAny_bind (wpAny_handled ?_)
 rw [show A.in1.handled = none from hh]
 refine wpAny_bind (wpAny_pure (wpAny_throw ?_))
 refine wpAny_bind (wpAny_isInstance (T := "StopIteration") (b := true) ⟨_, Heap.get?_push_size _ rfl, rfl⟩ isSubtype_stop ?_)
 refine wpAny_pure (hQ _ ⟨_, Heap.get?_push_of_some _ (Heap.get?_push_of_some _ (Heap.get?_update_self _ ho (Obj.isFreed_of_fields (Obj.data_mapFields hd _)))), (Obj.cls_mapFields ..).trans hc, ?_⟩ (((Heap.SameBut.update ..).extBut.push _).push _))
 rw [Obj.data_mapFields hd]; rfl
theorem pyNext_ascii_over {it : Addr} {v : Value} {s : Shared} {Q : Option Value → Shared → Prop} (hh : A.handled = none) (hit : ∃ o, s.heap.get? it = some o ∧ o.cls = .type "str_ascii_iterator" ∧ o.data = .fields #[.none, v])
  (hQ : ∀ h', (∀ b o, s.heap.get? b = some o → h'.get? b = some o) → Q none { s with heap := h' }) : wpAny (model prog w) A (pyNext (.ref it)) Q E s := by
 obtain ⟨o, ho, hc, hd⟩ := hit
 have hT : s.TypeIs (.ref it) "str_ascii_iterator" := ⟨o, ho, hc⟩
 unfold pyNext
 refine wpAny_bind (wpAny_attempt (wpAny_callSpecial?_slot (name := Str.ofString "__next__") hT PySem.F.slot_str_ascii_iterator_next (wpAny_call_entry PySem.F.slot_str_ascii_iterator_next hT PySem.F.entry_str_ascii_iterator_next ?_ (PySem.F.args_str_ascii_iterator_next_1 _))))
 show wpAny _ _ (field (.ref it) 0 >>= _) _ _ s
 refine wpAny_bind (wpAny_field ho hd (x := .none) rfl ?_)
 show wpAny _ _ (if (Value.none == Value.none) = true then _ else _) _ _ s
 rw [if_pos (show (Value.none == Value.none) = true from rfl)]
 refine wpAny_bind (wpAny_rule ?_)
 show wpAny _ _ (newExc (.type "StopIteration") [] >>= _) _ _ _
 refine wpAny_bind ?_
 simp only [newExc, newTuple]
 refine wpAny_bind (wpAny_newObj_type ?_ (by size_fits))
 refine wpAny_bind (m := firstArgMember _ _) (wpAny_of_eq (a := Value.none) (by first | rfl | (simp only [firstArgMember]; rfl)) ?_)
 refine wpAny_newObj_type ?_ (by size_fits)
 simp only [raiseNew]
 refine wpAny_bind (wpAny_handled ?_)
 rw [show A.in1.handled = none from hh]
 refine wpAny_bind (wpAny_pure (wpAny_throw ?_))
 refine wpAny_bind (wpAny_isInstance (T := "StopIteration") (b := true) ⟨_, Heap.get?_push_size _ rfl, rfl⟩ isSubtype_stop ?_)
 exact wpAny_pure (hQ _ fun b o e => Heap.get?_push_of_some _ (Heap.get?_push_of_some _ e))
theorem pyNext_wide_end {it : Addr} {x : Str} {t : Tok} {i : Nat} {s : Shared} {Q : Option Value → Shared → Prop} (hh : A.handled = none) (hit : s.heap.IsStrIter it "str_iterator" x t i) (hx : x.cps[i]? = none)
  (hQ : ∀ h', (∃ o, h'.get? it = some o ∧ o.cls = .type "str_iterator" ∧ o.data = .fields #[.none, .int i 0]) → Heap.ExtBut it s.heap h' → Q none { s with heap := h' }) : wpAny (model prog w) A (pyNext (.ref it)) Q E s := by
 obtain ⟨o, ho, hc, hd⟩ := id hit
 unfold pyNext
 refine wpAny_bind (wpAny_attempt (wpAny_callSpecial?_slot (name := Str.ofString "__next__") hit.typeIs PySem.F.slot_str_iterator_next (wpAny_call_entry PySem.F.slot_str_iterator_next hit.typeIs PySem.F.entry_str_iterator_next ?_ (PySem.F.args_str_iterator_next_1 _))))
 show wpAny _ _ (field (.ref it) 0 >>= _) _ _ s
 refine wpAny_bind (wpAny_field ho hd (x := .str x t) rfl ?_)
 show wpAny _ _ (field (.ref it) 1 >>= _) _ _ s
 refine wpAny_bind (wpAny_field ho hd (x := .int i 0) rfl ?_)
 simp only [Int.toNat_natCast, hx]
 refine wpAny_bind (wpAny_rule (wpAny_bind (wpAny_setField ho hd (by simp) (wpAny_bind (wpAny_letGo ?_)))))
 show wpAny _ _ (newExc (.type "StopIteration") [] >>= _) _ _ _
 refine wpAny_bind ?_
 simp only [newExc, newTuple]
 refine wpAny_bind (wpAny_newObj_type ?_ (by size_fits))
 refine wpAny_bind (m := firstArgMember _ _) (wpAny_of_eq (a := Value.none) (by first | rfl | (simp only [firstArgMember]; rfl)) ?_)
 refine wpAny_newObj_type ?_ (by size_fits)
 simp only [raiseNew]
 refine wpAny_bind (wpAny_handled ?_)
 rw [show A.in1.handled = none from hh]
 refine wpAny_bind (wpAny_pure (wpAny_throw ?_))
 refine wpAny_bind (wpAny_isInstance (T := "StopIteration") (b := true) ⟨_, Heap.get?_push_size _ rfl, rfl⟩ isSubtype_stop ?_)
 refine wpAny_pure (hQ _ ⟨_, Heap.get?_push_of_some _ (Heap.get?_push_of_some _ (Heap.get?_update_self _ ho (Obj.isFreed_of_fields (Obj.data_mapFields hd _)))), (Obj.cls_mapFields ..).trans hc, ?_⟩ (((Heap.SameBut.update ..).extBut.push _).push _))
 rw [Obj.data_mapFields hd]; rfl
theorem pyNext_wide_over {it : Addr} {v : Value} {s : Shared} {Q : Option Value → Shared → Prop} (hh : A.handled = none) (hit : ∃ o, s.heap.get? it = some o ∧ o.cls = .type "str_iterator" ∧ o.data = .fields #[.none, v])
  (hQ : ∀ h', (∀ b o, s.heap.get? b = some o → h'.get? b = some o) → Q none { s with heap := h' }) : wpAny (model prog w) A (pyNext (.ref it)) Q E s := by
 obtain ⟨o, ho, hc, hd⟩ := hit
 have hT : s.TypeIs (.ref it) "str_iterator" := ⟨o, ho, hc⟩
 unfold pyNext
 refine wpAny_bind (wpAny_attempt (wpAny_callSpecial?_slot (name := Str.ofString "__next__") hT PySem.F.slot_str_iterator_next (wpAny_call_entry PySem.F.slot_str_iterator_next hT PySem.F.entry_str_iterator_next ?_ (PySem.F.args_str_iterator_next_1 _))))
 show wpAny _ _ (field (.ref it) 0 >>= _) _ _ s
 refine wpAny_bind (wpAny_field ho hd (x := .none) rfl ?_)
 show wpAny _ _ (if (Value.none == Value.none) = true then _ else _) _ _ s
 rw [if_pos (show (Value.none == Value.none) = true from rfl)]
 refine wpAny_bind (wpAny_rule ?_)
 show wpAny _ _ (newExc (.type "StopIteration") [] >>= _) _ _ _
 refine wpAny_bind ?_
 simp only [newExc, newTuple]
 refine wpAny_bind (wpAny_newObj_type ?_ (by size_fits))
 refine wpAny_bind (m := firstArgMember _ _) (wpAny_of_eq (a := Value.none) (by first | rfl | (simp only [firstArgMember]; rfl)) ?_)
 refine wpAny_newObj_type ?_ (by size_fits)
 simp only [raiseNew]
 refine wpAny_bind (wpAny_handled ?_)
 rw [show A.in1.handled = none from hh]
 refine wpAny_bind (wpAny_pure (wpAny_throw ?_))
 refine wpAny_bind (wpAny_isInstance (T := "StopIteration") (b := true) ⟨_, Heap.get?_push_size _ rfl, rfl⟩ isSubtype_stop ?_)
 exact wpAny_pure (hQ _ fun b o e => Heap.get?_push_of_some _ (Heap.get?_push_of_some _ e))
end
section
variable {M : Model} {A : Around} {E : Value → Shared → Prop} {s : Shared}
theorem wpAny_callBorrowed {f : Value} {pos : List Value} {Q : Value → Shared → Prop}
  (hc : codeAny M A (.call f ⟨pos, []⟩) (fun r s' => match r with | .ok (.ret v) => Q v s' | .ok _ => False | .error e => E e s') s) :
  wpAny M A (callBorrowed f pos) Q E s := fun Γ p hΓ => by
 unfold callBorrowed
 rw [Sem.wp_call]
 refine wpCode_mono (fun r s' h => ?_) (hc _ p rfl (hΓ.enter _ none p (by intro x; cases x)))
 cases r with
 | error e => exact h
 | ok f => cases f <;> exact h
end
theorem code_bound {prog : Program} {w : World} {A : Around} {s : Shared} {b f : Addr} {x : Value} {a : Args} {R : Result → Shared → Prop} (hb : s.heap.get? b = some { cls := .type "method", dict := none, data := .fields #[.ref f, x], slots := #[] })
  (hq : codeAny (model prog w) A (.call (.ref f) { a with pos := x :: a.pos }) R s) : codeAny (model prog w) A (.call (.ref b) a) R s := by
 refine codeAny_of_tree ?_
 show wpAny _ A.in1 (callAny (.ref b) a) _ _ _
 unfold callAny
 refine wpAny_bind (wpAny_load hb ?_)
 exact wpAny_pure ⟨rfl, hq⟩
theorem ci_slot_next : Slot "callable_iterator" "__next__" "callable_iterator.__next__" :=
 .of (owner := "callable_iterator") (n := "__next__") (by rw [typeLookup_type, builtinLookup_eq_fast]; kernel_rfl) (by decide +kernel) (by decide +kernel) (by decide +kernel)
  (by first | exact .inl (by decide +kernel) | exact .inr (by decide +kernel)) (by rw [isSubtype_type]; kernel_rfl)
theorem ci_entry_next : entryFor table "callable_iterator.__next__" = some Builtin.«callable_iterator.__next__» := entryFor_of_tree (by kernel_rfl)
theorem ci_args_next (a : Value) : argsOk "callable_iterator.__next__" ⟨[a], []⟩ := by unfold argsOk; kernel_rfl
theorem ci_slot_iter : Slot "callable_iterator" "__iter__" "callable_iterator.__iter__" :=
 .of (owner := "callable_iterator") (n := "__iter__") (by rw [typeLookup_type, builtinLookup_eq_fast]; kernel_rfl) (by decide +kernel) (by decide +kernel) (by decide +kernel)
  (by first | exact .inl (by decide +kernel) | exact .inr (by decide +kernel)) (by rw [isSubtype_type]; kernel_rfl)
theorem ci_entry_iter : entryFor table "callable_iterator.__iter__" = some Builtin.«dict_keyiterator.__iter__» :=
 entryFor_alias (id' := "dict_keyiterator.__iter__") (by kernel_rfl) rfl (by decide +kernel) (by kernel_rfl)
theorem ci_args_iter (a : Value) : argsOk "callable_iterator.__iter__" ⟨[a], []⟩ := by unfold argsOk; kernel_rfl
theorem args_iter2 (a b : Value) : argsOk "iter" ⟨[a, b], []⟩ := by unfold argsOk; kernel_rfl
theorem method_call_slot : typeLookup (.type "method") "__call__" = pure (some (.builtin "method.__call__")) := by rw [typeLookup_type, builtinLookup_eq_fast]; kernel_rfl
def hd1 : List Nat → List Nat → List Nat
 | d, [] => d
 | _, n :: _ => [n]
def siP (l : List Nat) (o : Obj) : Prop :=
 (o.cls = .type "str_ascii_iterator" ∨ o.cls = .type "str_iterator") ∧ ((∃ x t i, o.data = .fields #[.str x t, .int (i : Nat) 0] ∧ x.cps.toList.drop i = l ∧ i ≤ x.cps.size) ∨ (l = [] ∧ ∃ v, o.data = .fields #[.none, v]))
def FSi (I : Addr) (l : List Nat) : Fact := FOb I (siP l)
def ciP (b : Addr) (st : List Nat) (e : Bool) (o : Obj) : Prop := o.cls = .type "callable_iterator" ∧ if e then o.data = .fields #[.none, .none, .bool true] else ∃ t, o.data = .fields #[.ref b, .str (tx st) t, .bool false]
def FCi (I b : Addr) (st : List Nat) (e : Bool) : Fact := FOb I (ciP b st e)
section
variable {c : Cx} {A : Around} {env : Env} {ρ : Loc} {K K' : List Fact} {s : Shared} {Φ : SV → Loc → List Fact → Prop} {ΦO : Option SV → Loc → List Fact → Prop}
theorem Chg.same {f : Fact} {K K' : List Fact} (e : Chg f f K K') : K = K' := by
 induction e with
 | here => rfl
 | there _ ih => rw [ih]
theorem Kn.obChg {a : Addr} {P P' : Obj → Prop} (k : Kn c K s) (h : Chg (FOb a P) (FOb a P') K K') {h' : Heap} {tk : Nat} (hx : Heap.ExtBut a s.heap h') {o : Obj} (ho : h'.get? a = some o) (hP : P' o) (hn : ¬ Imm o) :
  Kn c K' { s with heap := h', toks := tk } ∧ Keep s.heap h' := by
 refine k.chg h (s' := { s with heap := h', toks := tk }) (fun b o hb e => hx b o (by simpa [FOb] using hb) e) rfl k.bare ⟨o, ho, hP, hn⟩ (fun a ha => .inl ha) (by simp [FOb])
theorem Kn.obNew (k : Kn c K s) {o : Obj} {P : Obj → Prop} (hP : P o) (hn : ¬ Imm o) (hfr : o.isFreed = false) (tk : Nat) : Kn c (FOb s.heap.objs.size P :: K) { s with heap := s.heap.push o, toks := tk } := by
 refine k.add (s' := { s with heap := s.heap.push o, toks := tk }) (fun _ _ e => Heap.get?_push_of_some _ e) rfl k.bare ⟨_, Heap.get?_push_size _ hfr, hP, hn⟩ (by simp [FOb]) ?_
 intro b hb
 obtain rfl : b = s.heap.objs.size := List.mem_singleton.mp hb
 exact Nat.le_refl _
theorem nI_si {l : List Nat} {o : Obj} (h : siP l o) : ¬ Imm o := by
 obtain ⟨hc | hc, hd⟩ := h <;> rcases hd with ⟨x, t, i, hd, _⟩ | ⟨_, v, hd⟩ <;> exact nI_fields hc hd (by decide)
theorem c_iterStr {l : List Nat} {Ψ : SV → List Fact → Prop} (hq : ∀ I, Ψ (.ref I) (FSi I l :: K)) : TCall c A K (.bi "iter") [tS l] Ψ := fun rm s fv vs k rf rs => by
 obtain rfl : fv = .builtin "iter" := rf
 obtain ⟨v, ws, rfl, ⟨t, rfl⟩, ht⟩ := rs.uncons
 obtain rfl : ws = [] := ht
 refine Calls.call_function_entry (by decide +kernel) (by decide +kernel) PySem.W.kdk_entry_iter (PySem.W.kdk_args_iter _) ?_
 unfold Builtin.«iter»
 refine wpAny_bind (m := someArgs "iter" 1 2 _) (wpAny_of_eq (a := [Value.str (tx l) t]) (by first | rfl | kernel_rfl!) ?_)
 show wpAny _ _ (pyIter (.str (tx l) t) >>= _) _ _ _
 have fin : ∀ ty, (ty = "str_ascii_iterator" ∨ ty = "str_iterator") → siP l { cls := .type ty, data := .fields #[.str (tx l) t, .int 0 0] } := fun ty hty => ⟨by rcases hty with rfl | rfl <;> simp, .inl ⟨tx l, t, 0, rfl, by simp [tx], by simp⟩⟩
 cases ha : (tx l).cps.all (· < 128)
 ·have f := fin "str_iterator" (.inr rfl)
  exact wpAny_bind (wpAny_pyIter_wide ha (wpAny_pure ⟨_, rfl, .ref _, _, k.obNew f (nI_si f) rfl s.toks, rfl, keep_push _ _, hq _⟩))
 ·have f := fin "str_ascii_iterator" (.inl rfl)
  exact wpAny_bind (wpAny_pyIter_ascii ha (wpAny_pure ⟨_, rfl, .ref _, _, k.obNew f (nI_si f) rfl s.toks, rfl, keep_push _ _, hq _⟩))
theorem next_si {I : Addr} {l : List Nat} {Q : Option Value → Shared → Prop} (hh : A.handled = none) (k : Kn c K s) (hch : Chg (FSi I l) (FSi I l.tail) K K')
  (h : ∀ v s', Kn c K' s' → Keep s.heap s'.heap → ROpt s'.heap (match l with | [] => none | n :: _ => some (tS [n])) v → Q v s') : wpAny c.M A (pyNext (.ref I)) Q nope s := by
 obtain ⟨R, p, p'⟩ := hch.perm
 obtain ⟨o, ho, hP, hni⟩ := (k.perm p).facts _ List.mem_cons_self
 obtain ⟨hcl, hd⟩ := hP
 have quiet : ∀ h', (∀ b o, s.heap.get? b = some o → h'.get? b = some o) → l = [] → Kn c K' { s with heap := h' } ∧ Keep s.heap h' := fun h' hk hl => by
  subst hl
  have := (k.grow (s' := { s with heap := h' }) hk rfl k.bare)
  obtain rfl := Chg.same (f := FSi I []) hch
  exact ⟨this, fun b o e _ => hk b o e⟩
 rcases hd with ⟨x, t, i, hd, hdr, hi⟩ | ⟨rfl, v, hd⟩
 ·cases hx : x.cps[i]? with
  | none =>
   have hl : l = [] := by
    rw [← hdr]
    have : x.cps.size ≤ i := by simpa using hx
    exact List.drop_eq_nil_of_le (by simpa using this)
   subst hl
   have key : ∀ ty, (ty = "str_ascii_iterator" ∨ ty = "str_iterator") → ∀ h', (∃ o, h'.get? I = some o ∧ o.cls = .type ty ∧ o.data = .fields #[.none, .int i 0]) → Heap.ExtBut I s.heap h' → Q none { s with heap := h' } := fun ty hty h' ⟨o', ho', hc', hd'⟩ hx' => by
    have sp : siP ([] : List Nat) o' := ⟨by rcases hty with rfl | rfl <;> simp [hc'], .inr ⟨rfl, _, hd'⟩⟩
    obtain ⟨k', kp⟩ := k.obChg (tk := s.toks) hch hx' ho' sp (nI_si sp)
    exact h none _ k' kp rfl
   rcases hcl with hcl | hcl
   ·exact pyNext_ascii_end hh ⟨o, ho, hcl, hd⟩ hx (key _ (.inl rfl))
   ·exact pyNext_wide_end hh ⟨o, ho, hcl, hd⟩ hx (key _ (.inr rfl))
  | some n =>
   obtain ⟨hlt, hxe⟩ := Array.getElem?_eq_some_iff.mp hx
   have hl : l = n :: x.cps.toList.drop (i + 1) := by
    rw [← hdr, List.drop_eq_getElem_cons (by simpa using hlt)]
    simp [hxe]
   subst hl
   have key : ∀ ty, (ty = "str_ascii_iterator" ∨ ty = "str_iterator") → ∀ h', h'.IsStrIter I ty x t (i + 1) → Heap.SameBut I s.heap h' → Q (some (.str ⟨#[n]⟩ s.toks)) { s with heap := h', toks := s.toks + 1 } := fun ty hty h' ⟨o', ho', hc', hd'⟩ hx' => by
    have sp : siP (x.cps.toList.drop (i + 1)) o' := ⟨by rcases hty with rfl | rfl <;> simp [hc'], .inl ⟨x, t, i + 1, hd', rfl, by omega⟩⟩
    obtain ⟨k', kp⟩ := k.obChg (tk := s.toks + 1) hch hx'.extBut ho' sp (nI_si sp)
    exact h _ _ k' kp ⟨_, rfl, _, rfl⟩
   rcases hcl with hcl | hcl
   ·exact wpAny_pyNext_ascii_item ⟨o, ho, hcl, hd⟩ hx (key _ (.inl rfl))
   ·exact wpAny_pyNext_wide_item ⟨o, ho, hcl, hd⟩ hx (key _ (.inr rfl))
 ·rcases hcl with hcl | hcl
  ·exact pyNext_ascii_over hh ⟨o, ho, hcl, hd⟩ fun h' hk => h none _ (quiet h' hk rfl).1 (quiet h' hk rfl).2 rfl
  ·exact pyNext_wide_over hh ⟨o, ho, hcl, hd⟩ fun h' hk => h none _ (quiet h' hk rfl).1 (quiet h' hk rfl).2 rfl
theorem c_nextSi {I : Addr} {l d : List Nat} {Ψ : SV → List Fact → Prop} (hch : Chg (FSi I l) (FSi I l.tail) K K') (hq : Ψ (tS (hd1 d l)) K') : TCall c A K (.bi "next") [.ref I, tS d] Ψ := fun rm s fv vs k rf rs => by
 obtain rfl : fv = .builtin "next" := rf
 obtain ⟨v, ws, rfl, rfl, ht⟩ := rs.uncons
 obtain ⟨u, ws, rfl, ⟨t, rfl⟩, ht2⟩ := ht.uncons
 obtain rfl : ws = [] := ht2
 obtain ⟨R, p, p'⟩ := hch.perm
 obtain ⟨o, ho, hP, hni⟩ := (k.perm p).facts _ List.mem_cons_self
 refine Calls.call_function_entry (by decide +kernel) (by decide +kernel) PySem.W.kdk_entry_next (PySem.W.kdk_args_next2 _ _) ?_
 unfold Builtin.«next»
 refine wpAny_bind (m := someArgs "next" 1 2 _) (wpAny_of_eq (a := [Value.ref I, Value.str (tx d) t]) (by first | rfl | kernel_rfl!) ?_)
 dsimp only
 have main : wpAny c.M A.in1 (pyNext (.ref I) >>= fun r => ret (r.getD (.str (tx d) t))) (fun fin s' => ∃ v, fin = .done (.ret v) ∧ CPost c s.heap Ψ v s') nope s := by
  refine wpAny_bind (next_si (A := A.in1) rm.hh k hch fun v s' k' kp r => ?_)
  cases l with
  | nil =>
   obtain rfl : v = none := r
   exact wpAny_pure ⟨_, rfl, tS d, _, k', ⟨t, rfl⟩, kp, hq⟩
  | cons n l =>
   obtain ⟨w, rfl, r⟩ := r
   exact wpAny_pure ⟨_, rfl, _, _, k', r, kp, hq⟩
 rcases hP.1 with hcl | hcl
 ·refine wpAny_bind (wpAny_specialOf (name := Str.ofString "__next__") (T := "str_ascii_iterator") ⟨_, ho, hcl⟩ PySem.F.slot_str_ascii_iterator_next.lookup ?_)
  refine wpAny_ite_split (fun hab => absurd hab (by decide)) (fun _ => ?_)
  exact main
 ·refine wpAny_bind (wpAny_specialOf (name := Str.ofString "__next__") (T := "str_iterator") ⟨_, ho, hcl⟩ PySem.F.slot_str_iterator_next.lookup ?_)
  refine wpAny_ite_split (fun hab => absurd hab (by decide)) (fun _ => ?_)
  exact main
theorem c_iterCi {b f x : Addr} {st : List Nat} {Ψ : SV → List Fact → Prop} (hm : FMeth b f x ∈ K) (hq : ∀ I, Ψ (.ref I) (FCi I b st false :: K)) : TCall c A K (.bi "iter") [.ref b, tS st] Ψ := fun rm s fv vs k rf rs => by
 obtain rfl : fv = .builtin "iter" := rf
 obtain ⟨v, ws, rfl, rfl, ht⟩ := rs.uncons
 obtain ⟨u, ws, rfl, ⟨t, rfl⟩, ht2⟩ := ht.uncons
 obtain rfl : ws = [] := ht2
 obtain ⟨o, ho, hP, hni⟩ := k.facts _ hm
 refine Calls.call_function_entry (by decide +kernel) (by decide +kernel) PySem.W.kdk_entry_iter (args_iter2 _ _) ?_
 unfold Builtin.«iter»
 refine wpAny_bind (m := someArgs "iter" 1 2 _) (wpAny_of_eq (a := [Value.ref b, Value.str (tx st) t]) (by first | rfl | kernel_rfl!) ?_)
 dsimp only
 refine wpAny_bind (wpAny_specialOf (name := Str.ofString "__call__") (T := "method") ⟨_, ho, by rw [hP]; rfl⟩ method_call_slot ?_)
 refine wpAny_ite_split (fun hab => absurd hab (by decide)) (fun _ => ?_)
 refine wpAny_bind (wpAny_rule ?_)
 have f : ciP b st false { cls := .type "callable_iterator", data := .fields #[.ref b, .str (tx st) t, .bool false] } := ⟨rfl, t, rfl⟩
 refine wpAny_bind (wpAny_newObj_type (wpAny_pure ⟨_, rfl, .ref _, _, k.obNew f (nI_fields (T := "callable_iterator") rfl rfl (by decide)) rfl s.toks, rfl, keep_push _ _, hq _⟩) (by size_fits))
theorem nI_ci {b : Addr} {st : List Nat} {e : Bool} {o : Obj} (h : ciP b st e o) : ¬ Imm o := by
 obtain ⟨hc, hd⟩ := h
 cases e
 ·obtain ⟨t, hd⟩ := hd; exact nI_fields hc hd (by decide)
 ·exact nI_fields hc hd (by decide)
theorem selfCi {I b : Addr} {st : List Nat} {e : Bool} {ρ : Loc} (hm : FCi I b st e ∈ K) (hq : Φ (.ref I) ρ K) : U1 Rep c A env ρ K (.ref I) pyIter Φ := fun ok s v k r => by
 obtain rfl : v = .ref I := r
 obtain ⟨o, ho, hP, hni⟩ := k.facts _ (List.mem_cons_of_mem _ hm)
 have hT : s.TypeIs (.ref I) "callable_iterator" := ⟨o, ho, hP.1⟩
 refine wpAny_pyIter_slot hT ci_slot_iter (wpAny_call_entry ci_slot_iter hT ci_entry_iter ?_ (ci_args_iter _))
 show wpAny _ _ (ret (.ref I)) _ _ s
 exact wpAny_pure ⟨_, rfl, "callable_iterator", _, hT, ci_slot_next.lookup, ⟨.ref I, ρ, K, k, rfl, rfl, Keep.refl _, hq⟩⟩
theorem stop_seen {α : Type} {prog : Program} {w : World} {A : Around} {s : Shared} {Q : Option Value → Shared → Prop} {F : α → Shared → Prop} (hh : A.handled = none) (h : ∀ h', (∀ b o, s.heap.get? b = some o → h'.get? b = some o) → Q none { s with heap := h' }) :
  wpAny (model prog w) A.in1 (Builtin.SmallTypes.stopIteration : Sem α) F (fun e s' => wpAny (model prog w) A (isInstance e (.type "StopIteration") >>= fun b => if b = true then pure none else throw e) Q nope s') s := by
 show wpAny _ _ (newExc (.type "StopIteration") [] >>= _) _ _ _
 refine wpAny_bind ?_
 simp only [newExc, newTuple]
 refine wpAny_bind (wpAny_newObj_type ?_ (by size_fits))
 refine wpAny_bind (m := firstArgMember _ _) (wpAny_of_eq (a := Value.none) (by first | rfl | (simp only [firstArgMember]; rfl)) ?_)
 refine wpAny_newObj_type ?_ (by size_fits)
 simp only [raiseNew]
 refine wpAny_bind (wpAny_handled ?_)
 rw [show A.in1.handled = none from hh]
 refine wpAny_bind (wpAny_pure (wpAny_throw ?_))
 refine wpAny_bind (wpAny_isInstance (T := "StopIteration") (b := true) ⟨_, Heap.get?_push_size _ rfl, rfl⟩ isSubtype_stop ?_)
 exact wpAny_pure (h _ fun b o e => Heap.get?_push_of_some _ (Heap.get?_push_of_some _ e))
theorem endCi {I b : Addr} {st : List Nat} (hm : FCi I b st true ∈ K) (hq : ΦO none ρ K) : U1 ROpt c A env ρ K (.ref I) pyNext ΦO := fun ok s v k r => by
 obtain rfl : v = .ref I := r
 obtain ⟨o, ho, ⟨hc, hd⟩, hni⟩ := k.facts _ (List.mem_cons_of_mem _ hm)
 have hT : s.TypeIs (.ref I) "callable_iterator" := ⟨o, ho, hc⟩
 unfold pyNext
 refine wpAny_bind (wpAny_attempt (wpAny_callSpecial?_slot (name := Str.ofString "__next__") hT ci_slot_next (wpAny_call_entry ci_slot_next hT ci_entry_next ?_ (ci_args_next _))))
 show wpAny _ _ (field (.ref I) 2 >>= _) _ _ s
 refine wpAny_bind (wpAny_field ho hd (x := .bool true) rfl ?_)
 show wpAny _ _ (if (Value.bool true == Value.bool true) = true then _ else _) _ _ s
 rw [if_pos (show (Value.bool true == Value.bool true) = true from rfl)]
 refine wpAny_bind (wpAny_rule (wpAny_bind ?_))
 refine stop_seen ok.room.hh fun h' hk => ?_
 exact ⟨none, ρ, K, k.grow (s' := { s with heap := h' }) hk rfl k.bare, rfl, rfl, fun b o e _ => hk b o e, hq⟩
def TCode (c : Cx) (A : Around) (K : List Fact) (f : SV) (xs : List SV) (Φ : SV → List Fact → Prop) : Prop :=
 Room A 0 → ∀ s fv vs, Kn c K s → Rep s.heap f fv → Reps s.heap xs vs → codeAny c.M A (.call fv ⟨vs, []⟩) (fun r s' => match r with | .ok (.ret v) => CPost c s.heap Φ v s' | .ok _ => False | .error e => nope e s') s
theorem TCode.call {f : SV} {xs : List SV} {Ψ : SV → List Fact → Prop} (h : TCode c A K f xs Ψ) : TCall c A K f xs Ψ := fun rm s fv vs k rf rs => wpAny_call (h rm s fv vs k rf rs)
theorem code_fn {a : Addr} {o : Obj} {fd : FuncData} {body : List Stmt} {ps rest gs : List Str} {xs : List SV} {Φ : SV → List Fact → Prop}
  (F : FnAt c a o fd) (P : Plain fd body ps rest gs) (hl : xs.length = ps.length) (hroom : Room A 1)
  (h : ∀ L, (∀ x ∈ gs, (fnEnv fd a L).kindOf x = some .globalImplicit) → TS c (A.deeper (fnEnv fd a L)) (fnEnv fd a L) (binds ps xs rest) K (execs body (fnEnv fd a L)) (Ret Φ)) :
  TCode c A K (.ref a) xs Φ := fun _ s fv vs k rf rs => by
 obtain rfl : fv = .ref a := rf
 refine codeAny_call_function (by have := hroom.depth; show A.depth < recursionLimit; omega) (F.at_ _ k.old) F.data P.co P.gen P.body (F.code _ k.old) ?_
 refine wpAny_of_eq (P.bind vs (by rw [rs.length]; exact hl)) ?_
 refine wpAny_newFunctionEnv P.cell (fun x hx => P.loc _ (List.mem_append_left _ (List.of_mem_zip hx).1)) (fun h' hns hsb => ?_) P.kind
 have hk : ∀ b o, s.heap.get? b = some o → h'.get? b = some o := fun b o e => hsb.extBut b o (Nat.ne_of_lt (Heap.lt_size e)) (Heap.get?_push_of_some _ e)
 have kp : Keep s.heap h' := fun b o e _ => hk b o e
 refine ⟨k.lim.keeps hk, codeAny_func ?_⟩
 have k2 : Kn c (FFr (fnEnv fd a s.heap.objs.size).locals (binds ps xs rest) :: K) { s with heap := h', toks := s.toks + (ps.zip vs).length } := by
  refine k.add hk rfl k.bare ?_ (by simp [FFr]) ?_
  ·refine ⟨?_, _, hns, binds_ok P.nodup hl (Reps.keep kp _ rs)⟩
   have := names_binds (rest := rest) hl
   unfold names at this
   rw [this]; exact P.nodup
  ·intro b hb
   obtain rfl : b = s.heap.objs.size := List.mem_singleton.mp hb
   exact Nat.le_refl _
 have ok : Okay (A.deeper (fnEnv fd a s.heap.objs.size)) (fnEnv fd a s.heap.objs.size) (names (binds ps xs rest)) :=
  ⟨hroom.deeper _, P.kind, fun x hx => P.loc x (by rw [names_binds hl] at hx; exact hx), fun x hx => P.dbg x (by rw [names_binds hl] at hx; exact hx), P.glob, P.blt⟩
 refine wpAny_mono (wp_step (h s.heap.objs.size P.gl ok _ k2) kp fun f s3 y ρ3 K3 k3 n3 r3 kp3 _ h3 => ?_) (fun _ _ e => e) fun _ _ e => e.elim
 have k4 := k3.sub (K' := K3) (List.sublist_cons_self _ _)
 cases y with
 | next => obtain rfl : f = .next := r3; obtain ⟨K', hs, h3⟩ := h3; exact ⟨.none, K', k4.sub hs, rfl, kp3, h3⟩
 | brk => exact h3.elim
 | cont => exact h3.elim
 | ret v => obtain ⟨u, rfl, hu⟩ := r3; obtain ⟨K', hs, h3⟩ := h3; exact ⟨v, K', k4.sub hs, hu, kp3, h3⟩
theorem ends {M : Model} {A : Around} {E : Value → Shared → Prop} {s : Shared} {I : Addr} {o : Obj} {n : String} {a b d : Value} {Q : Unit → Shared → Prop} (ho : s.heap.get? I = some o) (hc : o.cls = .type n) (hd : o.data = .fields #[a, b, d])
  (h : ∀ h', (∃ o, h'.get? I = some o ∧ o.cls = .type n ∧ o.data = .fields #[.none, .none, .bool true]) → Heap.ExtBut I s.heap h' → Q () { s with heap := h' }) :
  wpAny M A (setField (.ref I) 0 .none >>= fun _ => setField (.ref I) 1 .none >>= fun _ => setField (.ref I) 2 (.bool true)) Q E s := by
 have up : ∀ {h : Heap} {o : Obj} {vs : Array Value} (i : Nat) (x : Value), h.get? I = some o → o.cls = .type n → o.data = .fields vs →
   ∃ o', (h.update I (Obj.mapFields (·.setIfInBounds i x))).get? I = some o' ∧ o'.cls = .type n ∧ o'.data = .fields (vs.setIfInBounds i x) := fun i x ho hc hd =>
  ⟨_, Heap.get?_update_self _ ho (Obj.isFreed_of_fields (Obj.data_mapFields hd _)), (Obj.cls_mapFields ..).trans hc, Obj.data_mapFields hd _⟩
 refine wpAny_bind (wpAny_setField ho hd (by simp) ?_)
 obtain ⟨o1, ho1, hc1, hd1⟩ := up 0 .none ho hc hd
 refine wpAny_bind (wpAny_setField ho1 hd1 (by simp) ?_)
 obtain ⟨o2, ho2, hc2, hd2⟩ := up 1 .none ho1 hc1 hd1
 refine wpAny_setField ho2 hd2 (by simp) ?_
 obtain ⟨o3, ho3, hc3, hd3⟩ := up 2 (.bool true) ho2 hc2 hd2
 exact h _ ⟨o3, ho3, hc3, hd3⟩ (((Heap.SameBut.update ..).extBut.trans (Heap.SameBut.update ..).extBut).trans (Heap.SameBut.update ..).extBut)
theorem nextCi {I b f x : Addr} {st : List Nat} {fo : Obj} {fd : FuncData} {n : Nat} (F : FnAt c f fo fd) (hI : FCi I b st false ∈ K) (hm : FMeth b f x ∈ K) (hr : Room A (n + 1))
  (h : ∀ A', Room A' n → TCode c A' (FFr env.locals ρ :: K) (.ref f) [.ref x] fun v K' => ∃ y K1, v = tS y ∧ K' = FFr env.locals ρ :: K1 ∧ FMeth b f x ∈ K1 ∧ if y = st then ∃ K2, Chg (FCi I b st false) (FCi I b st true) K1 K2 ∧ ΦO none ρ K2 else FCi I b st false ∈ K1 ∧ ΦO (some (tS y)) ρ K1) :
  U1 ROpt c A env ρ K (.ref I) pyNext ΦO := fun ok s v k r => by
 obtain rfl : v = .ref I := r
 obtain ⟨o, ho, ⟨hc, t, hd⟩, hni⟩ := k.facts _ (List.mem_cons_of_mem _ hI)
 obtain ⟨om, hom, hPm, _⟩ := k.facts _ (List.mem_cons_of_mem _ hm)
 subst hPm
 have hT : s.TypeIs (.ref I) "callable_iterator" := ⟨o, ho, hc⟩
 have hfo := F.at_ _ k.old
 unfold pyNext
 refine wpAny_bind (wpAny_attempt (wpAny_callSpecial?_slot (name := Str.ofString "__next__") hT ci_slot_next (wpAny_call_entry ci_slot_next hT ci_entry_next ?_ (ci_args_next _))))
 show wpAny _ _ (field (.ref I) 2 >>= _) _ _ s
 refine wpAny_bind (wpAny_field ho hd (x := .bool false) rfl ?_)
 show wpAny _ _ (if (Value.bool false == Value.bool true) = true then _ else _) _ _ s
 rw [if_neg (show ¬ (Value.bool false == Value.bool true) = true from by decide)]
 show wpAny _ _ (field (.ref I) 0 >>= _) _ _ s
 refine wpAny_bind (wpAny_field ho hd (x := .ref b) rfl ?_)
 have r1 : Room A.in1 n := ⟨hr.hh, by have := hr.depth; show A.depth + n < _; omega, by have := hr.units; show A.units + 1 + 8 * n + 40 < _; omega⟩
 refine wpAny_bind (wpAny_attempt ?_)
 unfold callOutOfASlot
 refine wpAny_bind ?_
 unfold borrowsExactly
 refine wpAny_load hom ?_ |> wpAny_bind
 show wpAny _ _ (if (methObj f x).cls == .type "method" then _ else _) _ _ _
 rw [if_pos (by rfl)]
 show wpAny _ _ (load f >>= _) _ _ _
 refine wpAny_bind (wpAny_load hfo ?_)
 rw [F.data]
 refine wpAny_pure ?_
 rw [if_pos rfl]
 refine wpAny_callBorrowed (code_bound hom ?_)
 refine codeAny_mono (h A.in1 r1 (r1.le (Nat.zero_le _)) s (.ref f) [.ref x] k rfl (Reps.one rfl)) fun r s' hr' => ?_
 cases r with
 | error e => exact hr'.elim
 | ok fl => cases fl with
  | ret v =>
   obtain ⟨sv, K1', k1, rv, kp1, y, K1, rfl, rfl, hm1, hy⟩ := hr'
   obtain ⟨tv, rfl⟩ := rv
   have hI1 : FCi I b st false ∈ K1 := by
    by_cases e : y = st
    ·rw [if_pos e] at hy
     obtain ⟨K2, hch, _⟩ := hy
     obtain ⟨R, p, _⟩ := hch.perm
     exact p.mem_iff.mpr List.mem_cons_self
    ·rw [if_neg e] at hy; exact hy.1
   obtain ⟨o1, ho1, ⟨hc1, t1, hd1⟩, _⟩ := k1.facts _ (List.mem_cons_of_mem _ hI1)
   show wpAny _ _ (field (.ref I) 2 >>= _) _ _ s'
   refine wpAny_bind (wpAny_field ho1 hd1 (x := .bool false) rfl ?_)
   show wpAny _ _ (if (Value.bool false == Value.bool true) = true then _ else _) _ _ s'
   rw [if_neg (show ¬ (Value.bool false == Value.bool true) = true from by decide)]
   show wpAny _ _ (field (.ref I) 1 >>= _) _ _ s'
   refine wpAny_bind (wpAny_field ho1 hd1 (x := .str (tx st) t1) rfl ?_)
   refine wpAny_bind (wpAny_holding (wpAny_eqBool_str ?_))
   by_cases e : y = st
   ·subst e
    rw [if_pos rfl] at hy
    obtain ⟨K2, hch, hq⟩ := hy
    rw [if_neg (by simp)]
    refine wpAny_bind (wpAny_rule ?_)
    show wpAny _ _ ((field (.ref I) 0 >>= fun v => slotLetsGo _ v _ >>= fun _ => setField (.ref I) 0 .none >>= fun _ => setField (.ref I) 1 .none >>= fun _ => setField (.ref I) 2 (.bool true)) >>= _) _ _ s'
    refine wpAny_bind (wpAny_bind (wpAny_field ho1 hd1 (x := .ref b) rfl (wpAny_bind ?_)))
    obtain ⟨om1, hom1, hPm1, _⟩ := k1.facts _ (List.mem_cons_of_mem _ hm1)
    subst hPm1
    show wpAny _ _ (borrowsExactly (.ref b) >>= _) _ _ s'
    refine wpAny_bind ?_
    unfold borrowsExactly
    refine wpAny_load hom1 ?_ |> wpAny_bind
    show wpAny _ _ (if (methObj f x).cls == .type "method" then _ else _) _ _ _
    rw [if_pos (by rfl)]
    show wpAny _ _ (load f >>= _) _ _ _
    refine wpAny_bind (wpAny_load (F.at_ _ k1.old) ?_)
    rw [F.data]
    refine wpAny_pure ?_
    rw [if_pos rfl]
    refine wpAny_pure (ends ho1 hc1 hd1 fun h' ho' hx' => ?_)
    obtain ⟨o', ho', hc', hd'⟩ := ho'
    obtain ⟨k2, kp2⟩ := k1.obChg (tk := s'.toks) (.there hch) hx' ho' ⟨hc', hd'⟩ (nI_ci (b := b) (st := y) (e := true) ⟨hc', hd'⟩)
    refine stop_seen ok.room.hh fun h'' hk => ?_
    exact ⟨none, ρ, K2, k2.grow (s' := { s' with heap := h'' }) hk rfl k2.bare, rfl, rfl, (kp1.trans kp2).trans fun b o e _ => hk b o e, hq⟩
   ·rw [if_neg e] at hy
    have e' : ¬ tx st = tx y := fun q => e (tx_inj q).symm
    rw [if_pos (by simp [e'])]
    exact wpAny_bind (wpAny_pure (wpAny_pure ⟨_, rfl, wpAny_pure ⟨some (tS y), ρ, K1, k1, rfl, ⟨_, rfl, _, rfl⟩, kp1, hy.2⟩⟩))
  | next => exact hr'.elim
  | brk => exact hr'.elim
  | cont => exact hr'.elim
end
def fdLam (qual : Str) (params : Arguments) (body : Expr) (scope : Scope) (clos : List (Str × Addr)) (doc pm cv ctv : Value) : FuncData :=
 { name := "<lambda>", qualname := qual, params := params, body := .expr body, scope := scope, globals := mainGlobals, closure := clos, defaults := .none, kwdefaults := .none, doc := doc, pyModule := pm, annotations := none, code := cv, closureTuple := ctv, builtins := builtinsNs }
section
variable {c : Cx} {A : Around} {K : List Fact} {s : Shared} {env : Env} {ρ : Loc} {name qual : Str} {params : Arguments} {body : Expr} {scope : Scope} {clos : List (Str × Addr)} {t : Tab} {Φ : SV → Loc → List Fact → Prop}
theorem makeTailE_ (k : Kn c K s) (ht : t ∈ c.tabs) (hcl : closureFor scope env = pure clos) (hge : env.globals = mainGlobals) (hcode : env.code = .ref t.c) {firstLine : Nat} {Q : Value → Shared → Prop}
  (h : ∀ f s' o doc pm cv ctv, Kn c K s' → Keep s.heap s'.heap → s'.heap.get? f = some o → o.cls = .type "function" → o.data = .func (fdLam t.qual params body scope clos doc pm cv ctv) → CodeI s'.heap cv t.qual → Q (.ref f) s') :
  wpAny c.M A (makeTail "<lambda>" t.qual params (.expr body) scope env .none .none none t.pos firstLine) Q nope s := by
 have main : ∀ (s1 : Shared) (ctv : Value), Kn c K s1 → Keep s.heap s1.heap → wpAny c.M A (functionCode env t.pos firstLine "<lambda>" t.qual params scope (.expr body)) (fun cv s2 => Kn c K s2 ∧ Keep s.heap s2.heap ∧ CodeI s2.heap cv t.qual) nope s1 := by
  intro s1 ctv k1 kp1
  obtain ⟨ps, hP, htr, hnf | ⟨c', hf, hcI, _⟩⟩ := k1.tabs t ht
  ·have hd := c.tabHd t ht _ k1.old
   refine wpAny_functionCodeX hcode (hd.code hP htr) (hd.tab hP) hnf fun c' h' tk hx hge hlt _ hrec htb ⟨P', _, _, htc⟩ => ?_
   obtain ⟨⟨oc, vc, e1, e2, e3, _⟩, _⟩ := htc
   obtain ⟨d, o', vs', tq, eq1, eo, ed, ev⟩ := hrec
   cases eq1
   rw [e1] at eo; cases eo
   have hI : CodeI h' (.ref c') t.qual := ⟨c', oc, vs', tq, rfl, e1, e2, ed, ev⟩
   obtain ⟨k2, kp2⟩ := k1.tabNew (tk := tk) ht hP htr hnf hx htb.2 hge hI
   exact ⟨k2, kp1.trans kp2, hI⟩
  ·exact wpAny_functionCode_hit hcode ((c.tabHd t ht _ k1.old).code hP htr) hf ⟨k1, kp1, hcI⟩
 have rest : ∀ (s1 : Shared) (ctv : Value), Kn c K s1 → Keep s.heap s1.heap → wpAny c.M A (functionCode env t.pos firstLine "<lambda>" t.qual params scope (.expr body)) (fun cv s2 =>
   wpAny c.M A (do
    let b ← builtinsFor env.globals env.builtins
    let n ← nsGet env.globals "__name__"
    let d ← (pure .none : Sem Value)
    newObj (.type "function") (.func { name := "<lambda>", qualname := t.qual, params, body := .expr body, scope, globals := env.globals, closure := clos, closureTuple := ctv, code := cv, builtins := b, defaults := .none, kwdefaults := .none, annotations := none, pyModule := n.getD .none, doc := d })) Q nope s2) nope s1 := by
  intro s1 ctv k1 kp1
  refine wpAny_mono (main s1 ctv k1 kp1) (fun cv s2 ⟨k2, kp2, hI⟩ => ?_) fun _ _ e => e
  rw [hge]
  obtain ⟨bm, ob, hbm, hne0, _, hneP, hbo, hcls, hdict, hdata⟩ := c.hbm _ k2.old t.P (c.tabAt t ht).2.2 (let ⟨ps, hP, _⟩ := k2.tabs t ht; ⟨ps, hP⟩)
  have hg := c.hg _ k2.old
  refine wpAny_bind (wpAny_builtinsFor hg hbm hne0 hbo hcls hdict hdata ?_)
  refine wpAny_bind (wpAny_nsGet hg ?_)
  exact wpAny_bind (wpAny_pure (newFn k2 _ fun f s' o k3 kp3 ho hcl hd => h f s' o _ _ _ _ k3 (kp2.trans kp3) ho hcl hd (hI.keep kp3)))
 unfold makeTail
 rw [hcl]
 refine wpAny_bind (wpAny_pure ?_)
 cases clos with
 | nil =>
  simp only [List.isEmpty_nil, if_true]
  exact wpAny_bind (wpAny_pure (wpAny_bind (rest s .none k (Keep.refl _))))
 | cons q r =>
  simp only [List.isEmpty_cons, Bool.false_eq_true, if_false]
  refine wpAny_bind (wpAny_newTextTuple ?_)
  exact wpAny_bind (rest _ _ (k.push _ s.toks) (keep_push _ _))
theorem E_Lambda {pos : Pos} (ht : t ∈ c.tabs) (hcode : env.code = .ref t.c) (hpos : t.pos = pos) (hq : env.qual ++ ("<lambda>" : Str) = t.qual) (hcl : closureFor scope env = pure clos) (hdef : defaultsOf params env = ([], []))
  (h : ∀ f doc pm cv ctv, Φ (.ref f) ρ (FFn f (fdLam t.qual params body scope clos doc pm cv ctv) :: K)) : TE c A env ρ K (eval (.Lambda params body scope pos) env) Φ := fun ok s k => by
 refine PySem.W.kla_eval hdef ?_
 rw [makeFunction_eq, hq, ← hpos]
 simp only [List.zip_nil_right, List.filterMap_nil, List.isEmpty_nil, if_true, pure_bind]
 refine makeTailE_ k ht hcl ok.glob hcode fun f s1 o doc pm cv ctv k1 kp1 ho hcl hd hI => ?_
 have k2 := (k1.addFn (f := f) (fd := fdLam t.qual params body scope clos doc pm cv ctv) ⟨⟨o, ho, hcl, hd⟩, hI⟩).swap
 exact ⟨.ref f, ρ, _, k2, rfl, rfl, kp1, h f doc pm cv ctv⟩
structure PlainE (fd : FuncData) (body : Expr) (ps gs : List Str) : Prop where
 co : fd.scope.isCoroutine = false
 gen : fd.scope.isGenerator = false
 body : fd.body = .expr body
 glob : fd.globals = mainGlobals
 blt : fd.builtins = builtinsNs
 kind : fd.scope.kind = .function
 cell : ∀ x ∈ fd.scope.names, x.2 ≠ .cell
 loc : ∀ x ∈ ps, fd.scope.names.lookup x = some .local
 nodup : ps.Nodup
 dbg : ∀ x ∈ ps, (x == ("__debug__" : Str)) = false
 gl : ∀ x ∈ gs, fd.scope.names.lookup x = some .globalImplicit
 bind : ∀ vs : List Value, vs.length = ps.length → bindArgs fd ⟨vs, []⟩ = pure (ps.zip vs)
theorem call_lam {f : Addr} {fd : FuncData} {body : Expr} {ps gs : List Str} {xs : List SV} {Ψ : SV → List Fact → Prop} (hF : FFn f fd ∈ K) (P : PlainE fd body ps gs) (hl : xs.length = ps.length) (hroom : Room A 1)
  (h : ∀ L, (∀ x ∈ gs, (fnEnv fd f L).kindOf x = some .globalImplicit) → TE c (A.deeper (fnEnv fd f L)) (fnEnv fd f L) (binds ps xs []) K (eval body (fnEnv fd f L)) fun v _ K' => Ψ v K') :
  TCall c A K (.ref f) xs Ψ := fun _ s fv vs k rf rs => by
 obtain rfl : fv = .ref f := rf
 obtain ⟨⟨o, ho, hcl, hd⟩, hI⟩ := k.facts _ hF
 refine wpAny_call (PySem.W.kla_callFunE (by have := hroom.depth; show A.depth < recursionLimit; omega) ho hd P.co P.gen P.body hI.rec_ ?_)
 refine wpAny_of_eq (P.bind vs (by rw [rs.length]; exact hl)) ?_
 refine wpAny_newFunctionEnv P.cell (fun x hx => P.loc _ (List.of_mem_zip hx).1) (fun h' hns hsb => ?_) P.kind
 have hk : ∀ b o, s.heap.get? b = some o → h'.get? b = some o := fun b o e => hsb.extBut b o (Nat.ne_of_lt (Heap.lt_size e)) (Heap.get?_push_of_some _ e)
 have kp : Keep s.heap h' := fun b o e _ => hk b o e
 refine ⟨k.lim.keeps hk, PySem.W.kla_codeExpr ?_⟩
 have hnd : (ps ++ []).Nodup := by simpa using P.nodup
 have k2 : Kn c (FFr (fnEnv fd f s.heap.objs.size).locals (binds ps xs []) :: K) { s with heap := h', toks := s.toks + (ps.zip vs).length } := by
  refine k.add hk rfl k.bare ?_ (by simp [FFr]) ?_
  ·refine ⟨?_, _, hns, binds_ok hnd hl (Reps.keep kp _ rs)⟩
   have := names_binds (rest := []) hl
   unfold names at this
   rw [this]; exact hnd
  ·intro b hb
   obtain rfl : b = s.heap.objs.size := List.mem_singleton.mp hb
   exact Nat.le_refl _
 have ok : Okay (A.deeper (fnEnv fd f s.heap.objs.size)) (fnEnv fd f s.heap.objs.size) (names (binds ps xs [])) :=
  ⟨hroom.deeper _, P.kind, fun x hx => P.loc x (by rw [names_binds hl] at hx; simpa using hx), fun x hx => P.dbg x (by rw [names_binds hl] at hx; simpa using hx), P.glob, P.blt⟩
 refine wpAny_mono (wp_step (h s.heap.objs.size P.gl ok _ k2) kp fun v s3 y ρ3 K3 k3 n3 r3 kp3 _ h3 => ?_) (fun _ _ e => e) fun _ _ e => e.elim
 exact ⟨y, K3, k3.sub (List.sublist_cons_self _ _), r3, kp3, h3⟩
end
inductive Rems : List Fact → List Fact → List Fact → Prop
 | nil {K : List Fact} : Rems [] K K
 | cons {f : Fact} {fs K K1 R : List Fact} : Rem f K K1 → Rems fs K1 R → Rems (f :: fs) K R
theorem Rems.perm {fs K R : List Fact} (h : Rems fs K R) : K.Perm (fs ++ R) := by
 induction h with
 | nil => exact .refl _
 | cons h _ ih => exact h.perm.trans (ih.cons _)
theorem perm_mid {α : Type} (P X R : List α) : (P ++ (X ++ R)).Perm (X ++ (P ++ R)) := by
 rw [← List.append_assoc, ← List.append_assoc]
 exact List.perm_append_comm.append_right R
section
variable {c : Cx} {A : Around} {env : Env} {ρ : Loc} {K K' K1 : List Fact} {Φ : SV → Loc → List Fact → Prop} {f : SV} {xs : List SV} {Ψ : SV → List Fact → Prop}
theorem TCall.perm (p : K.Perm K1) (h : TCall c A K1 f xs fun v K2 => ∃ K', K2.Perm K' ∧ Ψ v K') : TCall c A K f xs Ψ := fun rm s fv vs k rf rs =>
 wpAny_mono (h rm s fv vs (k.perm p) rf rs) (fun v s' ⟨x, K2, k2, r, kp, K', p', q⟩ => ⟨x, K', k2.perm p', r, kp, q⟩) fun _ _ e => e
theorem TCode.perm (p : K.Perm K1) (h : TCode c A K1 f xs fun v K2 => ∃ K', K2.Perm K' ∧ Ψ v K') : TCode c A K f xs Ψ := fun rm s fv vs k rf rs =>
 codeAny_mono (h rm s fv vs (k.perm p) rf rs) fun r s' hr => by
  cases r with
  | error e => exact hr
  | ok fl => cases fl with
   | ret v => obtain ⟨x, K2, k2, r, kp, K', p', q⟩ := hr; exact ⟨x, K', k2.perm p', r, kp, q⟩
   | _ => exact hr
theorem TCall.opened {gs gs' : List Fact} {r : SV} (hch : Chg (FJoin gs) (FJoin gs') K K') (h : ∀ R, TCall c A (gs ++ R) f xs fun v K1 => v = r ∧ K1.Perm (gs' ++ R)) (hq : Ψ r K') : TCall c A K f xs Ψ := fun rm s fv vs k rf rs => by
 obtain ⟨R, p, p'⟩ := hch.perm
 refine wpAny_mono (h R rm s fv vs (k.perm p).split rf rs) (fun v s' ⟨x, K2, k2, r, kp, e, p2⟩ => ?_) fun _ _ e => e
 subst e
 exact ⟨x, K', (k2.perm p2).join.perm p', r, kp, hq⟩
theorem TCall.joins (h : TCall c A K f xs fun v K1 => ∃ gs R, K1.Perm (gs ++ R) ∧ Ψ v (FJoin gs :: R)) : TCall c A K f xs Ψ := fun rm s fv vs k rf rs =>
 wpAny_mono (h rm s fv vs k rf rs) (fun v s' ⟨x, K2, k2, r, kp, gs, R, p2, q⟩ => ⟨x, _, (k2.perm p2).join, r, kp, q⟩) fun _ _ e => e
theorem cells1 {env : Env} {x1 : Str} {a1 : Addr} (k1 : env.kindOf x1 = some .cell ∨ env.kindOf x1 = some .free) (l1 : env.cells.lookup x1 = some a1) (d1 : (x1 == ("__debug__" : Str)) = false ∧ (x1 == ("__classdict__" : Str)) = false) : Cells env [(x1, a1)] := by
 refine ⟨fun p hp => ?_, fun p hp => ?_, fun p hp => ?_⟩
 all_goals
  rw [List.mem_singleton] at hp
  subst hp
  assumption
end
theorem nb_lineno : typeLookup (.type "object") (Str.ofString "lineno") = pure none := by rw [typeLookup_type, builtinLookup_eq_fast]; kernel_rfl
theorem nb_read : typeLookup (.type "object") (Str.ofString "read") = pure none := by rw [typeLookup_type, builtinLookup_eq_fast]; kernel_rfl
theorem nb_read_char : typeLookup (.type "object") (Str.ofString "_read_char") = pure none := by rw [typeLookup_type, builtinLookup_eq_fast]; kernel_rfl
theorem nb_get_token : typeLookup (.type "object") (Str.ofString "get_token") = pure none := by rw [typeLookup_type, builtinLookup_eq_fast]; kernel_rfl
theorem nb_push_token : typeLookup (.type "object") (Str.ofString "push_token") = pure none := by rw [typeLookup_type, builtinLookup_eq_fast]; kernel_rfl
section
variable {c : Cx} {A : Around} {env : Env} {ρ : Loc} {K K' K1 : List Fact} {Φ : SV → Loc → List Fact → Prop} {C x dx f : Addr} {fs : List (Str × Addr)} {ns : List Str} {ρi ρi' : Loc} {name : Str} {v : SV} {L : Addr}
theorem ex_setA {ov : Addr} {P : List Fact → Prop} (hc : ClsK c C fs ns) (hn : name ∈ ns) (hns : ("__setattr__" : Str) ∈ ns) (hB : typeLookup (.type "object") name = pure none) (hch : Chg (FInst ov dx C ρi) (FInst ov dx C ρi') K K1) (p : Put name v ρi ρi') (h : P K1) :
  ∃ x dx C fs ns ρi ρi' K3, SV.ref ov = .ref x ∧ ClsK c C fs ns ∧ name ∈ ns ∧ ("__setattr__" : Str) ∈ ns ∧ typeLookup (.type "object") name = pure none ∧ Chg (FInst x dx C ρi) (FInst x dx C ρi') K K3 ∧ Put name v ρi ρi' ∧ P K3 :=
 ⟨ov, dx, C, fs, ns, ρi, ρi', K1, rfl, hc, hn, hns, hB, hch, p, h⟩
theorem ex_augA {ov : Addr} {P : Addr → Addr → Addr → Loc → SV → Prop} (hc : ClsK c C fs ns) (hn : name ∈ ns) (hng : ("__getattribute__" : Str) ∈ ns) (hns : ("__setattr__" : Str) ∈ ns) (hB : typeLookup (.type "object") name = pure none) (hm : FInst ov dx C ρi ∈ K) (hv : (name, some v) ∈ ρi) (hb : notBi v = true) (h : P ov dx C ρi v) :
  ∃ x dx C fs ns ρi v, SV.ref ov = .ref x ∧ ClsK c C fs ns ∧ name ∈ ns ∧ ("__getattribute__" : Str) ∈ ns ∧ ("__setattr__" : Str) ∈ ns ∧ typeLookup (.type "object") name = pure none ∧ FInst x dx C ρi ∈ K ∧ (name, some v) ∈ ρi ∧ notBi v = true ∧ P x dx C ρi v :=
 ⟨ov, dx, C, fs, ns, ρi, v, rfl, hc, hn, hng, hns, hB, hm, hv, hb, h⟩
theorem ex_augB {P : List Fact → Prop} (hch : Chg (FInst x dx C ρi) (FInst x dx C ρi') K K1) (p : Put name v ρi ρi') (h : P K1) : ∃ ρi' K4, Chg (FInst x dx C ρi) (FInst x dx C ρi') K K4 ∧ Put name v ρi ρi' ∧ P K4 := ⟨ρi', K1, hch, p, h⟩
theorem ex_methI {ov : Addr} {P : SV → Prop} (hc : ClsK c C fs ns) (hn : name ∈ ns) (hng : ("__getattribute__" : Str) ∈ ns) (hnh : ("__getattr__" : Str) ∈ ns) (hI : FInst ov dx C ρi ∈ K) (hv : (name, some v) ∈ ρi) (hb : notBi v = true) (h : P v) :
  ∃ x dx C fs ns ρi v, SV.ref ov = .ref x ∧ ClsK c C fs ns ∧ name ∈ ns ∧ ("__getattribute__" : Str) ∈ ns ∧ ("__getattr__" : Str) ∈ ns ∧ Ins c K x dx C ρi ∧ (name, some v) ∈ ρi ∧ notBi v = true ∧ P v :=
 ⟨ov, dx, C, fs, ns, ρi, v, rfl, hc, hn, hng, hnh, .mem hI, hv, hb, h⟩
theorem ex_meth {ov : Addr} {P : Addr → Prop} (hc : ClsK c C fs ns) (hf : (name, f) ∈ fs) (hng : ("__getattribute__" : Str) ∈ ns) (hnh : ("__getattr__" : Str) ∈ ns) (hI : FInst ov dx C ρi ∈ K) (hsh : name ∉ names ρi) (h : P ov) :
  ∃ x dx C fs ns ρi, SV.ref ov = .ref x ∧ ClsK c C fs ns ∧ (name, f) ∈ fs ∧ ("__getattribute__" : Str) ∈ ns ∧ ("__getattr__" : Str) ∈ ns ∧ Ins c K x dx C ρi ∧ name ∉ names ρi ∧ P x :=
 ⟨ov, dx, C, fs, ns, ρi, rfl, hc, hf, hng, hnh, .mem hI, hsh, h⟩
theorem x_iterStr {l : List Nat} (hq : ∀ I, Φ (.ref I) ρ (FSi I l :: K)) : TCall c A (FFr L ρ :: K) (.bi "iter") [tS l] (Fx L ρ Φ) :=
 TCall.fx (Ψ := fun v K' => ∃ I, v = .ref I ∧ K' = FSi I l :: FFr L ρ :: K) (c_iterStr fun I => ⟨I, rfl, rfl⟩) fun v K' ⟨I, e1, e2⟩ => by subst e1 e2; exact ⟨_, .swap .., hq I⟩
theorem x_iterCi {b f x : Addr} {st : List Nat} (hm : FMeth b f x ∈ K) (hq : ∀ I, Φ (.ref I) ρ (FCi I b st false :: K)) : TCall c A (FFr L ρ :: K) (.bi "iter") [.ref b, tS st] (Fx L ρ Φ) :=
 TCall.fx (Ψ := fun v K' => ∃ I, v = .ref I ∧ K' = FCi I b st false :: FFr L ρ :: K) (c_iterCi (List.mem_cons_of_mem _ hm) fun I => ⟨I, rfl, rfl⟩) fun v K' ⟨I, e1, e2⟩ => by subst e1 e2; exact ⟨_, .swap .., hq I⟩
theorem x_nextSi {I : Addr} {l d : List Nat} (hch : Chg (FSi I l) (FSi I l.tail) K K') (hq : Φ (tS (hd1 d l)) ρ K') : TCall c A (FFr L ρ :: K) (.bi "next") [.ref I, tS d] (Fx L ρ Φ) :=
 c_nextSi (.there hch) (Fx.mk hq)
theorem E_Lambda2 {params : Arguments} {body : Expr} {scope : Scope} {pos : Pos} {t : Tab} {clos : List (Str × Addr)} {qual : Str} {G : Value → Value → Value → Value → FuncData} (ht : t ∈ c.tabs) (hpos : t.pos = pos) (hqual : t.qual = qual) (hcode : env.code = .ref t.c) (hq : env.qual ++ ("<lambda>" : Str) = qual)
  (hcl : closureFor scope env = pure clos) (hdef : defaultsOf params env = ([], [])) (hG : ∀ doc pm cv ctv, fdLam qual params body scope clos doc pm cv ctv = G doc pm cv ctv) (h : ∀ f doc pm cv ctv, Φ (.ref f) ρ (FFn f (G doc pm cv ctv) :: K)) :
  TE c A env ρ K (eval (.Lambda params body scope pos) env) Φ := by
 subst hqual
 exact E_Lambda ht hcode hpos hq hcl hdef fun f doc pm cv ctv => by rw [hG]; exact h f doc pm cv ctv
theorem S_ForCi {x : Str} {tp : Pos} {iter : Expr} {body orelse : List Stmt} {pos : Pos} {It b f o : Addr} {fo : Obj} {fd : FuncData} {n m : Nat} {ΦS : SFl → Loc → List Fact → Prop} (F : FnAt c f fo fd) (hr : Room A (n + 1)) (I : Nat → Loc → List Fact → Prop)
  (h : TE c A env ρ K (eval iter env) fun v ρ1 K1 => v = .ref It ∧ (∃ e, FCi It b [] e ∈ K1) ∧ I m ρ1 K1)
  (turn : ∀ m ρ3 K3, I m ρ3 K3 → names ρ3 = names ρ → (FCi It b [] true ∈ K3 ∧ TS c A env ρ3 K3 (execs orelse env) ΦS) ∨
   (FCi It b [] false ∈ K3 ∧ FMeth b f o ∈ K3 ∧ ∀ A', Room A' n → TCode c A' (FFr env.locals ρ3 :: K3) (.ref f) [.ref o] fun v K' => ∃ y K4, v = tS y ∧ K' = FFr env.locals ρ3 :: K4 ∧ FMeth b f o ∈ K4 ∧ if y = [] then ∃ K5, Chg (FCi It b [] false) (FCi It b [] true) K4 K5 ∧ TS c A env ρ3 K5 (execs orelse env) ΦS else FCi It b [] false ∈ K4 ∧ ∃ ρ5, Put x (tS y) ρ3 ρ5 ∧ TS c A env ρ5 K4 (execs body env) (Turn I m ΦS)))
  (hs : ∀ x, foldedSetIterable iter env x = pure x := by intro _; rfl) : TS c A env ρ K (exec (.For (.Name x tp) iter body orelse pos) env) ΦS := by
 refine S_For (h.mono fun v ρ1 K1 ⟨e, ⟨en, hm⟩, hI⟩ => ?_) hs
 subst e
 refine selfCi hm ⟨I, m, hI, fun m ρ3 K3 hI n3 => ?_⟩
 rcases turn m ρ3 K3 hI n3 with ⟨hm, ht⟩ | ⟨hm, hmm, ht⟩
 ·exact endCi hm ht
 ·refine nextCi F hm hmm hr fun A' hr' rm s fv vs k rf rs => codeAny_mono (ht A' hr' rm s fv vs k rf rs) fun r s' hr => ?_
  cases r with
  | error e => exact hr
  | ok fl => cases fl with
   | ret v =>
    obtain ⟨x, K2, k2, r, kp, y, K4, e1, e2, hm4, q⟩ := hr
    refine ⟨x, K2, k2, r, kp, y, K4, e1, e2, hm4, ?_⟩
    by_cases e : y = []
    ·rw [if_pos e] at q ⊢; exact q
    ·rw [if_neg e] at q ⊢
     obtain ⟨q1, ρ5, p, q2⟩ := q
     exact ⟨q1, G_own_name (G_Name p q2)⟩
   | _ => exact hr
end
theorem nope_any {α : Type} {M : Model} {A : Around} {t : Sem α} {Q : α → Shared → Prop} {E : Value → Shared → Prop} {s : Shared} (h : wpAny M A t Q nope s) : wpAny M A t Q E s := wpAny_mono h (fun _ _ x => x) fun _ _ e => e.elim
section
variable {prog : Program} {w : World} {A : Around} {R : Result → Shared → Prop} {s : Shared}
theorem compLoop_ {elt target iter : Expr} {ifs : List Expr} {scope : Scope} {pos : Pos} {it acc : Value} {env : Env} (I : Nat → Shared → Prop)
  (turn : ∀ n s, I n s → wpAny (model prog w) A (pyNext it) (fun r s₁ => match r with
   | none => R (.ok .next) s₁
   | some v => wpAny (model prog w) A (letOwnedTupleGo target it v) (fun _ s₁' => wpAny (model prog w) A (assign target env v) (fun _ s₂ =>
     wpAny (model prog w) A (forIn ifs true fun c r => if r = true then do let ok ← isTrue c env (eval c env); pure (ForInStep.yield ok) else pure (ForInStep.yield r)) (fun ok s₃ =>
      if ok = true then wpAny (model prog w) A (eval elt env) (fun x s₄ =>
       wpAny (model prog w) A (call (.builtin "list.append") [acc, x]) (fun _ s₅ => ∃ m, m < n ∧ I m s₅) nope s₄) nope s₃
      else ∃ m, m < n ∧ I m s₃) nope s₂) nope s₁') nope s₁) nope s)
  (n : Nat) (h : I n s) : codeAny (model prog w) A (.compLoop (.ListComp elt [⟨target, iter, ifs, 0⟩] scope pos) 0 it acc env) R s := by
 refine codeAny_loop rfl I (fun n s hI => ?_) n h
 show wpAny _ A ((compTurn (.ListComp elt [⟨target, iter, ifs, 0⟩] scope pos) 0 it acc env).onRaise (fun x => do noteFrame x env; theTreesLotGoes x)) _ _ s
 refine wpAny_noted ?_
 rw [compTurn_list]
 refine wpAny_bind (wpAny_standAt (wpAny_bind (wpAny_mono (turn n s hI) (fun r s₁ h₁ => ?_) fun _ _ h' => h'.elim)))
 cases r with
 | none => exact wpAny_pure h₁
 | some v =>
  refine wpAny_bind (wpAny_mono h₁ (fun _ s₁' h₁' => ?_) fun _ _ h' => h'.elim)
  refine wpAny_bind (wpAny_mono h₁' (fun _ s₂ h₂ => wpAny_bind (wpAny_mono h₂ (fun ok s₃ h₃ => ?_) fun _ _ h' => h'.elim)) fun _ _ h' => h'.elim)
  cases ok with
  | false => exact wpAny_pure ⟨rfl, h₃⟩
  | true =>
   exact wpAny_bind (wpAny_bind (wpAny_mono h₃ (fun x s₄ h₄ => wpAny_bind (wpAny_mono h₄ (fun _ s₅ h₅ => wpAny_pure (wpAny_pure ⟨rfl, h₅⟩)) fun _ _ h' => h'.elim)) fun _ _ h' => h'.elim))
end
section
variable {c : Cx} {A : Around} {env : Env} {ρ : Loc} {K K' K1 : List Fact} {Φ : SV → Loc → List Fact → Prop} {ΦS : SFl → Loc → List Fact → Prop} {s : Shared}
def Ifs (c : Cx) (A : Around) (env : Env) : List Expr → Loc → List Fact → (Loc → List Fact → Prop) → (Loc → List Fact → Prop) → Prop
 | [], ρ, K, ok, _ => ok ρ K
 | e :: es, ρ, K, ok, no => TB c A env ρ K (isTrue e env (eval e env)) fun b ρ1 K1 => (b = true → Ifs c A env es ρ1 K1 ok no) ∧ (b = false → no ρ1 K1)
theorem tests_off {M : Model} {A : Around} {E : Value → Shared → Prop} {s : Shared} {env : Env} (es : List Expr) {Q : Bool → Shared → Prop} (h : Q false s) :
  wpAny M A (forIn es false fun c r => if r = true then do let ok ← isTrue c env (eval c env); pure (ForInStep.yield ok) else pure (ForInStep.yield r)) Q E s := by
 induction es with
 | nil => exact wpAny_pure h
 | cons e es ih =>
  rw [List.forIn_cons]
  refine wpAny_bind ?_
  rw [if_neg (by simp)]
  exact wpAny_pure ih
theorem Ifs.run {ok no : Loc → List Fact → Prop} {h0 : Heap} {ns : List Str} : ∀ {es : List Expr} {ρ : Loc} {K : List Fact} {s : Shared}, Ifs c A env es ρ K ok no → Okay A env (names ρ) → Kn c (FFr env.locals ρ :: K) s → names ρ = ns → Keep h0 s.heap →
  wpAny c.M A (forIn es true fun c r => if r = true then do let ok ← isTrue c env (eval c env); pure (ForInStep.yield ok) else pure (ForInStep.yield r))
   (fun b s' => ∃ ρ1 K1, Kn c (FFr env.locals ρ1 :: K1) s' ∧ names ρ1 = ns ∧ Keep h0 s'.heap ∧ (if b = true then ok ρ1 K1 else no ρ1 K1)) nope s
 | [], ρ, K, s, h, oy, k, hn, kp => wpAny_pure ⟨ρ, K, k, hn, kp, h⟩
 | e :: es, ρ, K, s, h, oy, k, hn, kp => by
  rw [List.forIn_cons]
  refine wpAny_bind ?_
  rw [if_pos rfl]
  refine wpAny_bind (wp_step (h oy s k) kp fun b s1 x ρ1 K1 k1 n1 r1 kp1 _ h1 => wpAny_pure ?_)
  obtain rfl : b = x := r1
  cases b with
  | true => exact Ifs.run (h1.1 rfl) (oy.to n1) k1 (n1.trans hn) kp1
  | false => exact tests_off es ⟨ρ1, K1, k1, n1.trans hn, kp1, h1.2 rfl⟩
structure CompAt (scope : Scope) (env : Env) (cl : List (Str × Addr)) (xs : List Str) : Prop where
 clos : closureFor scope env = pure cl
 cell : ∀ y ∈ scope.names, y.2 ≠ .cell
 kind : scope.kind = .function
 names : ∀ y ∈ scope.names, y.2 = .local → scope.names.lookup y.1 = some .local
 loc : ∀ x ∈ xs, scope.names.lookup x = some .local
 nodup : xs.Nodup
 dbg : ∀ x ∈ xs, (x == ("__debug__" : Str)) = false
def CTurn (c : Cx) (A : Around) (env cenv : Env) (xs0 : List Str) (D : Addr) (ρ : Loc) (F : Fact) (target elt : Expr) (ifs : List Expr) (J : List SV → List SV → List Fact → Prop) (x : SV) (rest acc : List SV) (K2 : List Fact) : Prop :=
 ∀ ρc, names ρc = xs0 → U1 RU c A cenv ρc (FList D acc :: FFr env.locals ρ :: F :: K2) x (assign target cenv) fun _ ρ2 K4 => Ifs c A cenv ifs ρ2 K4
  (fun ρ3 K5 => TE c A cenv ρ3 K5 (eval elt cenv) fun v _ K6 => acc.length < 2 ^ 20 ∧ ∃ K7, Pick (FList D acc :: FFr env.locals ρ :: F :: K7) K6 ∧ J rest (acc ++ [v]) K7)
  (fun _ K5 => ∃ K7, Pick (FList D acc :: FFr env.locals ρ :: F :: K7) K5 ∧ J rest acc K7)
theorem comp_block {elt target iter : Expr} {ifs : List Expr} {scope : Scope} {pos : Pos} {cl : List (Str × Addr)} {xs0 : List Str} {T : Expr → Prop} {it : Addr} {N : List Fact} {F : List SV → Fact} {Mi : Value → List SV → Fact} {xs : List SV} {use : Option (Value → Sem Unit)} {Q : Value → Shared → Prop} {J : List SV → List SV → List Fact → Prop}
  (P : CompAt scope env cl xs0) (hi : Iter c A T it N F Mi) (ok : Okay A env (names ρ)) (k : Kn c (F xs :: FFr env.locals ρ :: K) s) (hT : T target) (hJ : J xs [] K) (hN : ∀ r acc K2, J r acc K2 → ∀ f ∈ N, f ∈ K2)
  (turn : ∀ C D G x rest acc K2, J (x :: rest) acc K2 → CTurn c A env (compEnvC scope cl C env) xs0 D ρ G target elt ifs J x rest acc K2)
  (fin : ∀ C D acc ρc K2 s', J [] acc K2 → Kn c (FFr C ρc :: FList D acc :: FFr env.locals ρ :: K2) s' → Keep s.heap s'.heap → compPost c.M A nope use Q (.ref D) C (.ok .next) s') :
  wpAny c.M A (newList []) (fun acc s₃ => wpAny c.M A (newFunctionEnv scope env.globals cl [] env.qual none .none (some env)) (fun cenv s₄ =>
   codeAny c.M A (.compStart (.ListComp elt [⟨target, iter, ifs, 0⟩] scope pos) 0 (.ref it) acc { cenv with scope := relabel scope env }) (compPost c.M A nope use Q acc cenv.locals) s₄) nope s₃) nope s := by
 have k1 : Kn c (FList s.heap.objs.size [] :: F xs :: FFr env.locals ρ :: K) { s with heap := s.heap.push (lst #[] 0) } := k.listNew (xs := []) (vs := #[]) (by simp [Reps]) 0 s.toks
 refine wpAny_newObj_type ?_ (by size_fits)
 show wpAny c.M A (newFunctionEnv scope env.globals cl [] env.qual none .none (some env)) _ nope { s with heap := s.heap.push (lst #[] 0) }
 have kp1 : Keep s.heap (s.heap.push (lst #[] 0)) := keep_push _ _
 generalize hs1 : ({ s with heap := s.heap.push (lst #[] 0) } : Shared) = s1 at k1 ⊢
 have kp1 : Keep s.heap s1.heap := by rw [← hs1]; exact kp1
 generalize s.heap.objs.size = D at k1 ⊢
 refine wpAny_newFunctionEnv P.cell (by intro y hy; simp at hy) (fun h₁ hns hsb => ?_) P.kind
 have hk : ∀ b o, s1.heap.get? b = some o → h₁.get? b = some o := fun b o e => hsb.extBut b o (Nat.ne_of_lt (Heap.lt_size e)) (Heap.get?_push_of_some _ e)
 have k2 : Kn c (FFr s1.heap.objs.size (xs0.map fun x => (x, none)) :: FList D [] :: F xs :: FFr env.locals ρ :: K) { s1 with heap := h₁, toks := s1.toks + ([] : List (Str × Value)).length } := by
  refine k1.add hk rfl k1.bare ?_ (by simp [FFr]) ?_
  ·refine ⟨?_, _, hns, fun p hp => ?_⟩
   ·rw [List.map_map]; simpa [Function.comp_def] using P.nodup
   ·obtain ⟨x, _, rfl⟩ := List.mem_map.mp hp
    show List.lookup x [].reverse = none
    rfl
  ·intro b hb
   obtain rfl : b = s1.heap.objs.size := List.mem_singleton.mp hb
   exact Nat.le_refl _
 have kp2 : Keep s.heap h₁ := kp1.trans fun b o e _ => hk b o e
 generalize hs2 : ({ s1 with heap := h₁, toks := s1.toks + ([] : List (Str × Value)).length } : Shared) = s2 at k2 ⊢
 have kp2 : Keep s.heap s2.heap := by rw [← hs2]; exact kp2
 generalize s1.heap.objs.size = C at k2 ⊢
 have okc : ∀ ns, ns = xs0 → Okay A (compEnvC scope cl C env) ns := fun ns e => by
  subst e
  exact ⟨ok.room, by show (relabel scope env).kind = _; exact P.kind, fun x hx => lookup_relabel_local (P.loc x hx), P.dbg, ok.glob, ok.blt⟩
 have loop : ∀ s3, Kn c (F xs :: FFr C (xs0.map fun x => (x, none)) :: FList D [] :: FFr env.locals ρ :: K) s3 → Keep s.heap s3.heap →
   codeAny c.M A (.compLoop (.ListComp elt [⟨target, iter, ifs, 0⟩] scope pos) 0 (.ref it) (.ref D) (compEnvC scope cl C env)) (compPost c.M A nope use Q (.ref D) C) s3 := by
  intro s3 k3 kp3
  refine compLoop_ (fun n s' => ∃ xs acc ρc K, n = xs.length ∧ Kn c (F xs :: FFr C ρc :: FList D acc :: FFr env.locals ρ :: K) s' ∧ names ρc = xs0 ∧ Keep s.heap s'.heap ∧ J xs acc K) ?_ xs.length ⟨xs, [], _, K, rfl, k3, by unfold names; rw [List.map_map]; simp [Function.comp_def], kp3, hJ⟩
  rintro n s4 ⟨xs, acc, ρc, K2, rfl, k4, n4, kp4, hJ4⟩
  have hN4 : ∀ f ∈ N, f ∈ FFr C ρc :: FList D acc :: FFr env.locals ρ :: K2 := fun f hf => List.mem_cons_of_mem _ (List.mem_cons_of_mem _ (List.mem_cons_of_mem _ (hN _ _ _ hJ4 f hf)))
  cases xs with
  | nil =>
   refine wpAny_mono (hi.stop _ s4 (fun o s5 => match o with
    | none => Kn c (FFr C ρc :: FList D acc :: FFr env.locals ρ :: K2) s5 ∧ Keep s4.heap s5.heap
    | some _ => False) k4 hN4 fun s5 k5 kp5 => ⟨k5, kp5⟩) ?_ (fun _ _ e => e.elim)
   rintro o s5 h5
   cases o with
   | some _ => exact h5.elim
   | none => exact fin C D acc ρc K2 s5 hJ4 h5.1 (kp4.trans h5.2)
  | cons x rest =>
   refine wpAny_mono (hi.next x rest _ s4 (fun o s5 => match o with
    | none => False
    | some v => Kn c (Mi v rest :: FFr C ρc :: FList D acc :: FFr env.locals ρ :: K2) s5 ∧ Rep s5.heap x v ∧ Keep s4.heap s5.heap) k4 hN4 fun v s5 k5 r5 kp5 => ⟨k5, r5, kp5⟩) ?_ (fun _ _ e => e.elim)
   rintro o s5 h5
   cases o with
   | none => exact h5.elim
   | some v =>
    obtain ⟨k5, r5, kp5⟩ := h5
    refine wpAny_mono (hi.go target x rest _ s5 v (fun _ s6 => Kn c (F rest :: FFr C ρc :: FList D acc :: FFr env.locals ρ :: K2) s6 ∧ Keep s5.heap s6.heap) hT k5 r5 fun s6 k6 kp6 => ⟨k6, kp6⟩) ?_ (fun _ _ e => e.elim)
    rintro _ s6 ⟨k6, kp6⟩
    have kp46 := (kp4.trans kp5).trans kp6
    have k6' : Kn c (FFr C ρc :: FList D acc :: FFr env.locals ρ :: F rest :: K2) s6 := k6.perm (perm_mid [_] [_, _, _] _)
    refine wpAny_mono (wp_step (turn C D (F rest) x rest acc K2 hJ4 ρc n4 (okc _ n4) s6 v k6' (r5.keep kp6)) kp46 ?_) (fun _ _ e => e) (fun _ _ e => e.elim)
    rintro _ s7 _ ρ7 K7 k7 n7 _ kp7 _ h7
    have hn7 := n7.trans n4
    refine wpAny_mono (Ifs.run h7 (okc _ hn7) k7 hn7 kp7) ?_ (fun _ _ e => e.elim)
    rintro b s8 ⟨ρ8, K8, k8, n8, kp8, h8⟩
    cases b with
    | false =>
     rw [if_neg (by simp)] at h8 ⊢
     obtain ⟨K9, p, hJ9⟩ := h8
     exact ⟨rest.length, Nat.lt_succ_self _, rest, acc, ρ8, K9, rfl, (k8.pick1 p).perm (perm_mid [_, _, _] [_] _), n8, kp8, hJ9⟩
    | true =>
     rw [if_pos rfl] at h8 ⊢
     refine wpAny_mono (wp_step (h8 (okc _ n8) s8 k8) kp8 ?_) (fun _ _ e => e) (fun _ _ e => e.elim)
     rintro u s9 y ρ9 K9 k9 n9 r9 kp9 _ ⟨hl, K10, p, hJ9⟩
     have k10 := k9.pick1 p
     refine wpAny_mono (c_append (c := c) (A := A) (a := D) (x := y) (K := FFr C ρ9 :: FList D acc :: FFr env.locals ρ :: F rest :: K10) (K' := FFr C ρ9 :: FList D (acc ++ [y]) :: FFr env.locals ρ :: F rest :: K10) (.there .here) hl (Ψ := fun _ K' => K' = FFr C ρ9 :: FList D (acc ++ [y]) :: FFr env.locals ρ :: F rest :: K10) rfl ok.room s9 (.builtin "list.append") [.ref D, u] k10 rfl (Reps.cons (show Rep s9.heap (.ref D) (.ref D) from rfl) (Reps.one r9))) ?_ (fun _ _ e => e.elim)
     rintro _ s10 ⟨z, K11, k11, _, kp11, rfl⟩
     exact ⟨rest.length, Nat.lt_succ_self _, rest, acc ++ [y], ρ9, K10, rfl, k11.perm (perm_mid [_, _, _] [_] _), n9.trans n8, kp9.trans kp11, hJ9⟩
 have k3 : Kn c (F xs :: FFr C (xs0.map fun x => (x, none)) :: FList D [] :: FFr env.locals ρ :: K) s2 := k2.perm (perm_mid [_, _] [_] _)
 show codeAny c.M A (.compStart (.ListComp elt [⟨target, iter, ifs, 0⟩] scope pos) 0 (.ref it) (.ref D) (compEnvC scope cl C env)) (compPost c.M A nope use Q (.ref D) C) s2
 refine codeAny_compStart_list (loop s2 k3 kp2) (nope_any (hi.self xs _ s2 _ k3 (fun f hf => List.mem_cons_of_mem _ (List.mem_cons_of_mem _ (List.mem_cons_of_mem _ (hN _ _ _ hJ f hf)))) (loop s2 k3 kp2)))
end
section
variable {c : Cx} {A : Around} {env : Env} {ρ ρ1 : Loc} {K K' K1 : List Fact} {Φ : SV → Loc → List Fact → Prop} {ΦS : SFl → Loc → List Fact → Prop} {s : Shared} {scope : Scope} {cl : List (Str × Addr)} {xs0 : List Str} {target elt iter : Expr} {ifs : List Expr} {x : SV} {pos : Pos}
def CompI (c : Cx) (A : Around) (env : Env) (scope : Scope) (cl : List (Str × Addr)) (xs0 : List Str) (target elt : Expr) (ifs : List Expr) (ρ1 : Loc) (K1 : List Fact) (x : SV) (Ψ : Addr → List SV → List Fact → Prop) : Prop :=
 ∃ T xs N K3 J, Itb c A T K1 K3 x xs N ∧ T target ∧ J xs [] K3 ∧ (∀ r acc K2, J r acc K2 → ∀ f ∈ N, f ∈ K2) ∧
  (∀ C D G x rest acc K2, J (x :: rest) acc K2 → CTurn c A env (compEnvC scope cl C env) xs0 D ρ1 G target elt ifs J x rest acc K2) ∧ (∀ D acc K2, J [] acc K2 → Ψ D acc K2)
theorem comp_end {C D : Addr} {acc : List SV} {ρc : Loc} {K2 : List Fact} (k : Kn c (FFr C ρc :: FList D acc :: FFr env.locals ρ :: K2) s) {Q : Shared → Prop} (h : ∀ s', Kn c (FFr env.locals ρ :: FList D acc :: K2) s' → Keep s.heap s'.heap → Q s') :
  ∃ m, s.heap.Ns C m ∧ ∀ h', Heap.SameBut C s.heap h' → Q { s with heap := h' } := by
 obtain ⟨hn, m, hns, hl⟩ := k.facts _ List.mem_cons_self
 refine ⟨m, hns, fun h' hs => ?_⟩
 have hb : ∀ b o, b ∉ (FFr C ρc).keys → s.heap.get? b = some o → h'.get? b = some o := fun b o hb e => hs.extBut b o (by simpa [FFr] using hb) e
 exact h _ (k.forget (s' := { s with heap := h' }) hb rfl k.bare).swap (k.change_keep (s' := { s with heap := h' }) hb)
theorem E_ListComp (P : CompAt scope env cl xs0)
  (h : TE c A env ρ K (eval iter env) fun x ρ1 K1 => CompI c A env scope cl xs0 target elt ifs ρ1 K1 x fun D acc K2 => Φ (.ref D) ρ1 (FList D acc :: K2))
  (hs : ∀ x, foldedSetIterable iter env x = pure x := by intro _; rfl) : TE c A env ρ K (eval (.ListComp elt [⟨target, iter, ifs, 0⟩] scope pos) env) Φ := fun ok s k => by
 rw [eval_ListComp]
 refine wpAny_comprehension_free (use := none) rfl hs P.clos P.kind P.names (wp_step (h ok s k) (Keep.refl _) fun xv s1 x ρ1 K1 k1 n1 r1 kp1 _ hC => ?_)
 obtain ⟨T, xs, N, K3, J, hI, hT, hJ, hN, turn, fin⟩ := hC
 refine hI _ s1 xv _ k1 r1 fun it F Mi s2 hi k2 kp2 => ?_
 refine comp_block P hi (ok.to n1) k2 hT hJ hN turn fun C D acc ρc K2 s' hJ' k' kp' => ?_
 exact comp_end (Q := fun s' => Post Rep c env.locals (names ρ) s.heap Φ (.ref D) s') k' fun s'' k'' kp'' => ⟨.ref D, ρ1, _, k'', n1, rfl, ((kp1.trans kp2).trans kp').trans kp'', fin D acc K2 hJ'⟩
theorem S_AssignLC {y : Str} {py spos : Pos} (P : CompAt scope env cl xs0)
  (h : TE c A env ρ K (eval iter env) fun x ρ1 K1 => CompI c A env scope cl xs0 target elt ifs ρ1 K1 x fun D acc K2 => ∃ ρ2, Put y (.ref D) ρ1 ρ2 ∧ ΦS .next ρ2 (FList D acc :: K2))
  (hsw : swapsWith (.ListComp elt [⟨target, iter, ifs, 0⟩] scope pos) (some (.Name y py)) spos.line env = pure true := by rfl)
  (hs : ∀ x, foldedSetIterable iter env x = pure x := by intro _; rfl) : TS c A env ρ K (exec (.Assign [.Name y py] (.ListComp elt [⟨target, iter, ifs, 0⟩] scope pos) spos) env) ΦS := fun ok s k => by
 rw [exec_Assign_Name_used _ _ _ _ hsw]
 refine wpAny_bind (wpAny_standAt (wpAny_bind ?_))
 show wpAny _ A (do let _ ← comprehension (.ListComp elt [⟨target, iter, ifs, 0⟩] scope pos) scope env _ (newList []) false (eval iter env) (some (assign (.Name y py) env))) _ _ s
 refine wpAny_bind (wpAny_mono (wpAny_comprehension_free (use := some (assign (.Name y py) env)) (Q := fun _ s' => Post RF c env.locals (names ρ) s.heap ΦS .next s') rfl hs P.clos P.kind P.names
  (wp_step (h ok s k) (Keep.refl _) fun xv s1 x ρ1 K1 k1 n1 r1 kp1 _ hC => ?_)) (fun _ s' hq => wpAny_pure (wpAny_pure hq)) fun _ _ e => e)
 obtain ⟨T, xs, N, K3, J, hI, hT, hJ, hN, turn, fin⟩ := hC
 refine hI _ s1 xv _ k1 r1 fun it F Mi s2 hi k2 kp2 => ?_
 refine comp_block P hi (ok.to n1) k2 hT hJ hN turn fun C D acc ρc K2 s' hJ' k' kp' => ?_
 obtain ⟨ρ2, p, hq⟩ := fin D acc K2 hJ'
 have k'' : Kn c (FFr env.locals ρ1 :: (FFr C ρc :: FList D acc :: K2)) s' := k'.perm (perm_mid [_, _] [_] _)
 show wpAny _ A (assign (.Name y py) env (.ref D)) _ _ _
 refine PyProof.Rows.assign_Name (store (a := .ref D) p (ok.to n1) k'' rfl fun s3 k3 kp3 => ?_)
 have k3' : Kn c (FFr C ρc :: FList D acc :: FFr env.locals ρ2 :: K2) s3 := k3.perm (perm_mid [_] [_, _] _)
 exact comp_end (Q := fun s' => Post RF c env.locals (names ρ) s.heap ΦS .next s') k3' fun s4 k4 kp4 => ⟨.next, ρ2, _, k4, p.names.trans n1, rfl, (((kp1.trans kp2).trans kp').trans kp3).trans kp4, hq⟩
theorem CompI.pure {α : Type} {Ψ : Addr → List SV → List Fact → Prop} (as : List α) (enc : α → SV) (f : α → List SV) {T : Expr → Prop} {N K3 : List Fact} (hI : Itb c A T K1 K3 x (as.map enc) N) (hT : T target) (hN : ∀ g ∈ N, g ∈ K3) (hl : as.length < 2 ^ 20)
  (turn : ∀ C D G acc, ∀ a ∈ as, ∀ ρc, names ρc = xs0 → U1 RU c A (compEnvC scope cl C env) ρc (FList D acc :: FFr env.locals ρ1 :: G :: K3) (enc a) (assign target (compEnvC scope cl C env)) fun _ ρ2 K4 => Ifs c A (compEnvC scope cl C env) ifs ρ2 K4
   (fun ρ3 K5 => TE c A (compEnvC scope cl C env) ρ3 K5 (eval elt (compEnvC scope cl C env)) fun v _ K6 => f a = [v] ∧ Pick (FList D acc :: FFr env.locals ρ1 :: G :: K3) K6)
   (fun _ K5 => f a = [] ∧ Pick (FList D acc :: FFr env.locals ρ1 :: G :: K3) K5))
  (hq : ∀ D, Ψ D (as.flatMap f) K3) : CompI c A env scope cl xs0 target elt ifs ρ1 K1 x Ψ := by
 refine ⟨T, as.map enc, N, K3, fun r acc K2 => K2 = K3 ∧ ∃ d t, as = d ++ t ∧ r = t.map enc ∧ acc = d.flatMap f ∧ acc.length ≤ d.length, hI, hT, ⟨rfl, [], as, rfl, rfl, rfl, Nat.le_refl _⟩, fun r acc K2 ⟨e, _⟩ g hg => e ▸ hN g hg, ?_, ?_⟩
 ·rintro C D G y rest acc K2 ⟨rfl, d, t, e1, e2, rfl, hle⟩ ρc hρ
  cases t with
  | nil => cases e2
  | cons a t =>
   obtain ⟨rfl, rfl⟩ : y = enc a ∧ rest = t.map enc := by simpa using e2
   have ha : a ∈ as := by rw [e1]; simp
   have hlen : d.length < 2 ^ 20 := by rw [e1] at hl; simp at hl; omega
   have mono : ∀ es ρ2 K4, Ifs c A (compEnvC scope cl C env) es ρ2 K4
     (fun ρ3 K5 => TE c A (compEnvC scope cl C env) ρ3 K5 (eval elt (compEnvC scope cl C env)) fun v _ K6 => f a = [v] ∧ Pick (FList D (d.flatMap f) :: FFr env.locals ρ1 :: G :: K2) K6)
     (fun _ K5 => f a = [] ∧ Pick (FList D (d.flatMap f) :: FFr env.locals ρ1 :: G :: K2) K5) → Ifs c A (compEnvC scope cl C env) es ρ2 K4
     (fun ρ3 K5 => TE c A (compEnvC scope cl C env) ρ3 K5 (eval elt (compEnvC scope cl C env)) fun v _ K6 => (d.flatMap f).length < 2 ^ 20 ∧ ∃ K7, Pick (FList D (d.flatMap f) :: FFr env.locals ρ1 :: G :: K7) K6 ∧ K7 = K2 ∧ ∃ d' t', as = d' ++ t' ∧ t.map enc = t'.map enc ∧ d.flatMap f ++ [v] = d'.flatMap f ∧ (d.flatMap f ++ [v]).length ≤ d'.length)
     (fun _ K5 => ∃ K7, Pick (FList D (d.flatMap f) :: FFr env.locals ρ1 :: G :: K7) K5 ∧ K7 = K2 ∧ ∃ d' t', as = d' ++ t' ∧ t.map enc = t'.map enc ∧ d.flatMap f = d'.flatMap f ∧ (d.flatMap f).length ≤ d'.length) := by
    intro es
    induction es with
    | nil =>
     intro ρ2 K4 hx
     exact U0.mono hx fun v _ K6 ⟨hf, hp⟩ => ⟨by omega, K2, hp, rfl, d ++ [a], t, by rw [e1]; simp, rfl, by simp [hf], by simp only [List.length_append, List.length_singleton]; omega⟩
    | cons e es ih =>
     intro ρ2 K4 hx
     exact U0.mono hx fun b ρ3 K5 ⟨h1, h2⟩ => ⟨fun hb => ih ρ3 K5 (h1 hb), fun hb => by
      obtain ⟨hf, hp⟩ := h2 hb
      exact ⟨K2, hp, rfl, d ++ [a], t, by rw [e1]; simp, rfl, by simp [hf], by simp only [List.length_append, List.length_singleton]; omega⟩⟩
   intro ok s v k r
   exact wpAny_mono (turn C D G (d.flatMap f) a ha ρc hρ ok s v k r) (fun u s' ⟨z, ρ2, K4, k4, n4, r4, kp4, q⟩ => ⟨z, ρ2, K4, k4, n4, r4, kp4, mono _ _ _ q⟩) fun _ _ e => e
 ·rintro D acc K2 ⟨rfl, d, t, e1, e2, rfl, _⟩
  obtain rfl : t = [] := by simpa using e2.symm
  rw [List.append_nil] at e1
  subst e1
  exact hq D
theorem names1 {ρ : Loc} {a : Str} (h : names ρ = [a]) : ∃ o, ρ = [(a, o)] := by
 match ρ, h with
 | [(x, o)], h => simp [names] at h; subst h; exact ⟨o, rfl⟩
theorem names2 {ρ : Loc} {a b : Str} (h : names ρ = [a, b]) : ∃ o o', ρ = [(a, o), (b, o')] := by
 match ρ, h with
 | [(x, o), (y, o')], h => simp [names] at h; obtain ⟨rfl, rfl⟩ := h; exact ⟨o, o', rfl⟩
theorem iota_eq (a : Int) (n : Nat) : iota a n = (List.range n).map fun (i : Nat) => SV.int (a + i) := by
 induction n generalizing a with
 | zero => rfl
 | succ n ih =>
  rw [List.range_succ_eq_map, List.map_cons, iota, ih, List.map_map]
  congr 1
  ·simp
  ·apply List.map_congr_left
   intro i _
   simp only [Function.comp_def]
   congr 1; push_cast; omega
end
def FDict (c : Cx) (d : Addr) (kvs : List (Str × SV)) : Fact where
 keys := [d]
 holds h := ∃ kv, h.DictOf (strKind c.prog c.w) d kv ∧ kv.map Prod.fst = kvs.map Prod.fst ∧ Reps h (kvs.map Prod.snd) (kv.map Prod.snd)
 stable := by
  rintro h h' ⟨kv, ⟨o, es, ep, ho, r⟩, e, rs⟩ k hk
  exact ⟨kv, ⟨o, es, ep, hk d (by simp) o ho, r⟩, e, Reps.keep k _ rs⟩
 own := by
  rintro h ⟨kv, ⟨o, es, ep, ho, _, hd, r⟩, e, rs⟩ k hk
  obtain rfl : k = d := List.mem_singleton.mp hk
  exact ⟨o, ho, notImm_dict hd⟩
inductive CKV : List (Option Expr) → List Expr → List (Str × SV) → Prop
 | nil : CKV [] [] []
 | str {k v : Str} {n n' : Nat} {p p' : Pos} {ks : List (Option Expr)} {vs : List Expr} {kvs : List (Str × SV)} : CKV ks vs kvs → CKV (some (.Constant (.str k) n p) :: ks) (.Constant (.str v) n' p' :: vs) ((k, .str v) :: kvs)
 | int {k : Str} {v : Int} {n n' : Nat} {p p' : Pos} {ks : List (Option Expr)} {vs : List Expr} {kvs : List (Str × SV)} : CKV ks vs kvs → CKV (some (.Constant (.str k) n p) :: ks) (.Constant (.int v) n' p' :: vs) ((k, .int v) :: kvs)
theorem merged_new {K : Type} [DecidableEq K] : ∀ (more acc : List (K × Value)), ((acc ++ more).map Prod.fst).Nodup → merged acc more = acc ++ more
 | [], acc, _ => by simp [merged]
 | (k, v) :: more, acc, h => by
  have hk : k ∉ acc.map Prod.fst := by
   rw [List.map_append, List.nodup_append] at h
   exact fun hm => h.2.2 k hm k (by simp) rfl
  have hs : stored acc k v = acc ++ [(k, v)] := by
   unfold stored
   rw [if_neg]
   intro hx
   obtain ⟨p, hp, e⟩ := List.any_eq_true.mp hx
   exact hk (List.mem_map.mpr ⟨p, hp, by simpa using e⟩)
  have ih := merged_new more (acc ++ [(k, v)]) (by simpa using h)
  unfold merged at ih ⊢
  rw [List.foldl_cons]
  show List.foldl _ (stored acc k v) more = _
  rw [hs, ih]; simp
section
variable {c : Cx} {A : Around} {env : Env} {ρ : Loc} {K K' : List Fact} {Φ : SV → Loc → List Fact → Prop} {s : Shared}
theorem constPairs {pos : Pos} {keys : List (Option Expr)} {values : List Expr} {kvs : List (Str × SV)} (h : CKV keys values kvs) : ∀ {s : Shared} {Q : List (Value × Value) → Shared → Prop},
  (∀ vs kv tk, Carries (strKind c.prog c.w) vs kv → kv.map Prod.fst = kvs.map Prod.fst → (∀ h, Reps h (kvs.map Prod.snd) (kv.map Prod.snd)) → Q vs { s with toks := tk }) → wpAny c.M A (evalPairs (pairTrees keys values env pos)) Q nope s := by
 induction h with
 | nil => intro s Q hQ; exact evalPairs_nil (hQ [] [] s.toks trivial rfl fun _ => Reps.nil)
 | str _ ih =>
  intro s Q hQ
  refine evalPairs_cons (wpAny_Constant_str (wpAny_bind (wpAny_Constant_str (wpAny_bind (wpAny_standAt (wpAny_pure ?_))))))
  refine ih fun vs kv tk hc e hr => ?_
  exact hQ _ ((_, .str _ (s.toks + 1)) :: kv) tk ⟨strKind_is _ _ _ _, rfl, hc⟩ (by simp [e]) fun hp => Reps.cons ⟨_, rfl⟩ (hr hp)
 | int _ ih =>
  intro s Q hQ
  refine evalPairs_cons (wpAny_Constant_str (wpAny_bind (wpAny_Constant_int (wpAny_bind (wpAny_standAt (wpAny_pure ?_))))))
  refine ih fun vs kv tk hc e hr => ?_
  exact hQ _ ((_, .int _ (s.toks + 1)) :: kv) tk ⟨strKind_is _ _ _ _, rfl, hc⟩ (by simp [e]) fun hp => Reps.cons ⟨_, rfl⟩ (hr hp)
theorem constKV_len {keys : List (Option Expr)} {values : List Expr} {kvs : List (Str × SV)} (h : CKV keys values kvs) : keys.all (·.isSome) = true ∧ keys.length = values.length ∧ kvs.length = keys.length := by
 induction h with
 | nil => simp
 | str _ ih => obtain ⟨a, b, c⟩ := ih; refine ⟨by simpa using a, by simp [b], by simp [c]⟩
 | int _ ih => obtain ⟨a, b, c⟩ := ih; refine ⟨by simpa using a, by simp [b], by simp [c]⟩
theorem E_Dict {keys : List (Option Expr)} {values : List Expr} {pos : Pos} {kvs : List (Str × SV)} (h : CKV keys values kvs) (h0 : keys ≠ []) (hlen : keys.length ≤ 15) (hnd : (kvs.map Prod.fst).Nodup) (hq : ∀ d, Φ (.ref d) ρ (FDict c d kvs :: K)) :
  TE c A env ρ K (eval (.Dict keys values pos) env) Φ := fun ok s k => by
 obtain ⟨hall, hl, hkl⟩ := constKV_len h
 have hn := pairTrees_length keys values env pos hall hl
 refine wpAny_Dict_pairs (knd := strKind c.prog c.w) (pairs := pairTrees keys values env pos) (zip_pairTrees keys values env pos hall hl) (fun he => h0 ?_) (by rw [hn]; exact hlen) ?_
 ·rw [he] at hn; exact List.length_eq_zero_iff.mp hn.symm
 refine constPairs h fun vs kv tk hc e hr => ⟨kv, hc, ?_, fun h' hm hs => ?_⟩
 ·refine ⟨_, #[], 0, Heap.get?_push_size _ rfl, ⟨rfl, rfl, rfl⟩, rfl, ?_, .nil, by simp⟩
  intro e he; simp at he
 ·have hm' : h'.DictOf (strKind c.prog c.w) s.heap.objs.size kv := by
   have := merged_new kv [] (by simpa [e] using hnd)
   rw [this] at hm; simpa using hm
  have hk : ∀ b o, s.heap.get? b = some o → h'.get? b = some o := fun b o e => hs.extBut b o (Nat.ne_of_lt (Heap.lt_size e)) (Heap.get?_push_of_some _ e)
  refine ⟨.ref s.heap.objs.size, ρ, _, Kn.swap (k.add (f := FDict c s.heap.objs.size kvs) hk rfl k.bare ⟨kv, hm', e, hr _⟩ (by simp [FDict]) ?_), rfl, rfl, fun b o e _ => hk b o e, hq _⟩
  intro b hb
  obtain rfl : b = s.heap.objs.size := List.mem_singleton.mp hb
  exact Nat.le_refl _
theorem valueAt_of : ∀ {kv : List (Str × Value)} {kvs : List (Str × SV)} {h : Heap} {x : Str} {v : SV}, kv.map Prod.fst = kvs.map Prod.fst → Reps h (kvs.map Prod.snd) (kv.map Prod.snd) → kvs.lookup x = some v → ∃ u, valueAt kv x = some u ∧ Rep h v u
 | kv, [], h, x, v, e, r, hl => by simp at hl
 | [], (y, w) :: kvs, h, x, v, e, r, hl => by simp at e
 | (z, u) :: kv, (y, w) :: kvs, h, x, v, e, r, hl => by
  simp only [List.map_cons, List.cons.injEq] at e
  obtain ⟨rfl, e⟩ := e
  obtain ⟨u', ws, e2, r1, r2⟩ := r.uncons
  simp only [List.map_cons, List.cons.injEq] at e2
  obtain ⟨rfl, rfl⟩ := e2
  rw [List.lookup_cons] at hl
  unfold valueAt
  rw [List.find?_cons]
  by_cases hx : x = z
  ·subst hx
   rw [show (x == x) = true from by simp] at hl
   cases hl
   exact ⟨u, by simp, r1⟩
  ·have h1 : (x == z) = false := by simpa using hx
   rw [h1] at hl
   have h2 : decide (z = x) = false := by simpa using fun q => hx q.symm
   simp only [h2]
   exact valueAt_of e r2 hl
theorem i_dict {value slice : Expr} {d : Addr} {kvs : List (Str × SV)} {x : List Nat} {v : SV} (hm : FDict c d kvs ∈ K) (hx : kvs.lookup (tx x) = some v) (hq : Φ v ρ K)
  (hs : ∀ o u : Value, subscripted slice false o u = operate [o, u] (getItem o u) := by intros; with_unfolding_all rfl) : U2 Rep c A env ρ K (.ref d) (tS x) (subscriptTail value slice) Φ := fun ok s v1 u k ra rb => by
 obtain rfl : v1 = .ref d := ra
 obtain ⟨t, rfl⟩ := rb
 obtain ⟨kv, hd, e, r⟩ := k.facts _ (List.mem_cons_of_mem _ hm)
 obtain ⟨w, hw, rw'⟩ := valueAt_of e r hx
 refine tail_any hd.typeIs slot_dict_getitem.lookup (wpAny_getItem_of (strKind_is _ _ _ _) hd.mapOf hw ?_) (hs _ _)
 exact ⟨v, ρ, K, k.toks _, rfl, rw', Keep.refl _, hq⟩
end
mutual
inductive DR (K : List Fact) : SV → PyData → Prop
 | none : DR K .none .none
 | bool (b : Bool) : DR K (.bool b) (.bool b)
 | int (i : Int) : DR K (.int i) (.int i)
 | str (x : Str) : DR K (.str x) (.str x)
 | tup {xs : List SV} {ds : List PyData} : DRs K xs ds → DR K (.tup xs) (.tuple ds)
 | list {a : Addr} {xs : List SV} {ds : List PyData} : FList a xs ∈ K → DRs K xs ds → DR K (.ref a) (.list ds)
inductive DRs (K : List Fact) : List SV → List PyData → Prop
 | nil : DRs K [] []
 | cons {x : SV} {d : PyData} {xs : List SV} {ds : List PyData} : DR K x d → DRs K xs ds → DRs K (x :: xs) (d :: ds)
end
mutual
theorem DR.reads {c : Cx} {K : List Fact} {s : Shared} (k : Kn c K s) : ∀ {x : SV} {d : PyData} {v : Value}, DR K x d → Rep s.heap x v → ∃ as, Reads s.heap v d as
 | _, _, v, .none, r => by obtain rfl : v = .none := r; exact ⟨_, .none⟩
 | _, _, v, .bool b, r => by obtain rfl : v = .bool b := r; exact ⟨_, .bool b⟩
 | _, _, v, .int i, r => by obtain ⟨t, rfl⟩ := r; exact ⟨_, .int i t⟩
 | _, _, v, .str x, r => by obtain ⟨t, rfl⟩ := r; exact ⟨_, .str x t⟩
 | _, _, v, .tup h, r => by
  simp only [Rep] at r
  obtain ⟨a, vs, rfl, ⟨o, ho, hc, n, hd⟩, rs⟩ := r
  obtain ⟨as, ha⟩ := DRs.reads k h rs
  exact ⟨_, .tuple ho hc hd ha⟩
 | _, _, v, .list hm h, r => by
  obtain rfl : v = .ref _ := r
  obtain ⟨vs, n, e, rs⟩ := k.list hm
  obtain ⟨as, ha⟩ := DRs.reads k h rs
  exact ⟨_, .list e rfl rfl ha⟩
theorem DRs.reads {c : Cx} {K : List Fact} {s : Shared} (k : Kn c K s) : ∀ {xs : List SV} {ds : List PyData} {vs : List Value}, DRs K xs ds → Reps s.heap xs vs → ∃ as, ReadsAll s.heap vs ds as
 | _, _, vs, .nil, r => by obtain rfl : vs = [] := r; exact ⟨_, .nil⟩
 | _, _, vs, .cons h hs, r => by
  obtain ⟨v, ws, rfl, r1, r2⟩ := r.uncons
  obtain ⟨as, ha⟩ := DR.reads k h r1
  obtain ⟨bs, hb⟩ := DRs.reads k hs r2
  exact ⟨_, .cons ha hb⟩
end
theorem DRs.txs {K : List Fact} : ∀ l : List (List Nat), DRs K (l.map tS) (l.map fun t => .str (tx t))
 | [] => .nil
 | i :: l => .cons (.str _) (DRs.txs l)
mutual
theorem DR.under {K : List Fact} (f : Fact) : ∀ {x : SV} {d : PyData}, DR K x d → DR (f :: K) x d
 | _, _, .none => .none
 | _, _, .bool b => .bool b
 | _, _, .int i => .int i
 | _, _, .str x => .str x
 | _, _, .tup h => .tup (DRs.under f h)
 | _, _, .list hm h => .list (List.mem_cons_of_mem _ hm) (DRs.under f h)
theorem DRs.under {K : List Fact} (f : Fact) : ∀ {xs : List SV} {ds : List PyData}, DRs K xs ds → DRs (f :: K) xs ds
 | _, _, .nil => .nil
 | _, _, .cons h hs => .cons (DR.under f h) (DRs.under f hs)
end
structure OkD (n : Nat) (d : PyData) : Prop where
 lay : d.canLay0 = true
 depth : d.depth ≤ n
theorem depthAll_le {n : Nat} : ∀ {ds : List PyData}, (∀ d ∈ ds, OkD n d) → PyData.depthAll ds ≤ n ∧ PyData.canLayAll0 ds = true
 | [], _ => by simp [PyData.depthAll, PyData.canLayAll0]
 | d :: ds, h => by
  have h1 := h d List.mem_cons_self
  have h2 := depthAll_le (n := n) (ds := ds) fun e he => h e (List.mem_cons_of_mem _ he)
  simp only [PyData.depthAll, PyData.canLayAll0, h1.lay, h2.2, Bool.and_self, and_true]
  have := h1.depth
  omega
theorem OkD.int {n : Nat} (i : Int) : OkD (n + 1) (.int i) := ⟨by simp [PyData.canLay0], by simp [PyData.depth]⟩
theorem OkD.str {n : Nat} {x : Str} (h : PyData.strOk x = true) : OkD (n + 1) (.str x) := ⟨by simpa [PyData.canLay0] using h, by simp [PyData.depth]⟩
theorem OkD.txt {n : Nat} {l : List Nat} (h : ∀ k ∈ l, k < 0x110000) : OkD (n + 1) (.str (tx l)) := .str (by unfold PyData.strOk; rw [← Array.all_toList]; show l.all _ = true; rw [List.all_eq_true]; intro k hk; simpa using h k hk)
theorem OkD.list {n : Nat} {ds : List PyData} (h : ∀ d ∈ ds, OkD n d) : OkD (n + 1) (.list ds) := by
 have := depthAll_le h
 exact ⟨by simp [PyData.canLay0, this.2], by simp only [PyData.depth]; omega⟩
theorem OkD.tup {n : Nat} {ds : List PyData} (h : ∀ d ∈ ds, OkD n d) : OkD (n + 1) (.tuple ds) := by
 have := depthAll_le h
 exact ⟨by simp [PyData.canLay0, this.2], by simp only [PyData.depth]; omega⟩
theorem OkD.txts {n : Nat} {l : List (List Nat)} (h : ∀ t ∈ l, ∀ k ∈ t, k < 0x110000) : ∀ d ∈ l.map (fun t => PyData.str (tx t)), OkD (n + 1) d := by
 intro d hd; obtain ⟨t, ht, rfl⟩ := List.mem_map.mp hd; exact .txt (h t ht)
theorem tx_beq' (a b : List Nat) : (tx a == tx b) = (a == b) := by
 cases h : a == b with
 | true => rw [eq_of_beq h]; simp
 | false =>
  have : ¬ a = b := by simpa using h
  simpa using fun e => this (tx_inj e)
section
variable {c : Cx} {A : Around} {env : Env} {ρ : Loc} {K K' : List Fact} {Φ : SV → Loc → List Fact → Prop} {s : Shared}
theorem o_eqD {a b : SV} {da db : PyData} (ha : DR K a da) (hb : DR K b db) (oa : OkD 20 da) (ob : OkD 20 db) (hq : Φ (.bool (PyData.eqv da db)) ρ K) : U2 Rep c A env ρ K a b (compareOp .Eq) Φ := fun ok s v u k ra rb => by
 obtain ⟨as, h1⟩ := (ha.under _).reads k ra
 obtain ⟨bs, h2⟩ := (hb.under _).reads k rb
 have hu : A.units + min da.depth db.depth < cLine := by have := ok.room.units; have := oa.depth; omega
 exact SeqAt.compareEq_reads h1 h2 oa.lay ob.lay hu ⟨.bool _, ρ, K, k, rfl, rfl, Keep.refl _, hq⟩
theorem o_neD {a b : SV} {da db : PyData} (ha : DR K a da) (hb : DR K b db) (oa : OkD 20 da) (ob : OkD 20 db) (hq : Φ (.bool (!PyData.eqv da db)) ρ K) : U2 Rep c A env ρ K a b (compareOp .NotEq) Φ := fun ok s v u k ra rb => by
 obtain ⟨as, h1⟩ := (ha.under _).reads k ra
 obtain ⟨bs, h2⟩ := (hb.under _).reads k rb
 have hu : A.units + min da.depth db.depth < cLine := by have := ok.room.units; have := oa.depth; omega
 exact SeqAt.compareNe_reads h1 h2 oa.lay ob.lay hu ⟨.bool _, ρ, K, k, rfl, rfl, Keep.refl _, hq⟩
theorem o_inD {a b : SV} {da : PyData} {ds : List PyData} (ha : DR K a da) (hb : DR K b (.list ds)) (oa : OkD 20 da) (ob : OkD 20 (.list ds)) (hq : Φ (.bool (ds.any fun y => PyData.eqv y da)) ρ K) : U2 Rep c A env ρ K a b (compareOp .In) Φ := fun ok s v u k ra rb => by
 obtain ⟨as, h1⟩ := (ha.under _).reads k ra
 obtain ⟨bs, h2⟩ := (hb.under _).reads k rb
 have hu : A.units + 1 + min (PyData.depthAll ds) da.depth < cLine := by have := ok.room.units; have := oa.depth; omega
 have hl : PyData.canLayAll0 ds = true := by have := ob.lay; simpa [PyData.canLay0] using this
 exact SeqAt.in_list_reads h2 h1 hl oa.lay hu ⟨.bool _, ρ, K, k, rfl, rfl, Keep.refl _, hq⟩
theorem o_addL {a b : Addr} {xs ys : List SV} (ha : FList a xs ∈ K) (hb : FList b ys ∈ K) (hl : xs.length + ys.length < 2 ^ 20) (hq : ∀ d, Φ (.ref d) ρ (FList d (xs ++ ys) :: K)) : U2 Rep c A env ρ K (.ref a) (.ref b) (binaryOp .Add) Φ := fun ok s v u k ra rb => by
 obtain rfl : v = .ref a := ra
 obtain rfl : u = .ref b := rb
 obtain ⟨vs, n, e, r⟩ := k.list (List.mem_cons_of_mem _ ha)
 obtain ⟨ws, m, e2, r2⟩ := k.list (List.mem_cons_of_mem _ hb)
 have h1 : vs.size = xs.length := by rw [← Array.length_toList]; exact r.length
 have h2 : ws.size = ys.length := by rw [← Array.length_toList]; exact r2.length
 have hs : sizeLine = 2 ^ 24 := rfl
 refine concat_meets ⟨_, e, rfl⟩ ⟨_, e2, rfl⟩ noFill_list_add seq_list_add PySem.F.slot_list_add PySem.F.entry_list_add (PySem.F.args_list_add_2 _ _) (list_addW a b vs ws n m none none #[] #[] (by omega)) ⟨e, e2, ?_⟩
 have r3 : Reps s.heap (xs ++ ys) (vs ++ ws).toList := by rw [Array.toList_append]; exact r.append r2
 exact ⟨.ref s.heap.objs.size, ρ, _, (k.listNew r3 0 s.toks).swap, rfl, rfl, keep_push _ _, hq _⟩
theorem c_abs (a : Int) : OpC (.bi "abs") [.int a] (.int a.natAbs) := by
 intro prog w A s fv vs Q hr hf ha h
 obtain rfl : fv = .builtin "abs" := hf
 obtain ⟨v, ws, rfl, ⟨t, rfl⟩, ht⟩ := ha.uncons
 obtain rfl : ws = [] := ht
 refine PyProof.Rows.call_abs_int fun u tk => h _ _ (Quiet.toks ..) ⟨u, ?_⟩
 congr 1
 split <;> omega
theorem c_sum {a : Addr} {ns : List Int} (hm : FList a (ns.map .int) ∈ K) {Ψ : SV → List Fact → Prop} (hq : Ψ (.int ns.sum) K) : TCall c A K (.bi "sum") [.ref a] Ψ := fun rm s fv vs k rf rs => by
 obtain rfl : fv = .builtin "sum" := rf
 obtain ⟨v, ws, rfl, rfl, ht⟩ := rs.uncons
 obtain rfl : ws = [] := ht
 obtain ⟨us, n, e, r⟩ := k.list hm
 have key : ∀ {ns : List Int} {us : List Value}, Reps s.heap (ns.map .int) us → ∃ ts : List (Int × Tok), us = ts.map (fun p => Value.int p.1 p.2) ∧ ts.map Prod.fst = ns := by
  intro ns
  induction ns with
  | nil => intro us r; obtain rfl : us = [] := r; exact ⟨[], rfl, rfl⟩
  | cons i ns ih =>
   intro us r
   obtain ⟨w, us', rfl, ⟨t, rfl⟩, r2⟩ := r.uncons
   obtain ⟨ts, rfl, rfl⟩ := ih r2
   exact ⟨(i, t) :: ts, rfl, rfl⟩
 obtain ⟨ts, e2, rfl⟩ := key r
 have e3 : us = intItems ts.toArray := by
  apply Array.ext'
  rw [e2]
  simp [intItems]
 refine PySem.sum_intListG (xs := ts.toArray) rm.hh (e3 ▸ isList_of e) fun h' tk t' hk => ?_
 refine ⟨.int (ts.map Prod.fst).sum, K, k.grow (s' := { s with heap := h', toks := tk }) hk rfl k.bare, ⟨t', ?_⟩, fun b o e _ => hk b o e, hq⟩
 rw [PySem.preSum_eq, List.take_of_length_le (by simp)]
end
section
variable {c : Cx} {A : Around} {env : Env} {ρ : Loc} {K K' : List Fact} {Φ : SV → Loc → List Fact → Prop} {s : Shared}
def FSl3 (a : Addr) (lo hi st : Option Int) : Fact := FOb a fun o => o.cls = .type "slice" ∧ ∃ l u w : Option (Int × Tok), l.map (·.1) = lo ∧ u.map (·.1) = hi ∧ w.map (·.1) = st ∧ o.data = .fields #[partValue l, partValue u, partValue w]
theorem E_Slice3 {lower upper step : Option Expr} {p : Pos} (h : PE c A env ρ K lower fun lo ρ1 K1 => PE c A env ρ1 K1 upper fun hi ρ2 K2 => PE c A env ρ2 K2 step fun st ρ3 K3 => ∀ a, Φ (.ref a) ρ3 (FSl3 a lo hi st :: K3)) : TE c A env ρ K (eval (.Slice lower upper step p) env) Φ := fun ok s k =>
 wpAny_Slice (h.run ok k (Keep.refl _) fun l s1 ρ1 K1 k1 n1 kp1 _ h1 => h1.run (ok.to n1) k1 kp1 fun u s2 ρ2 K2 k2 n2 kp2 _ h2 => h2.run (ok.to (n2.trans n1)) k2 kp2 fun w s3 ρ3 K3 k3 n3 kp3 _ h3 => by
  refine ⟨.ref s3.heap.objs.size, ρ3, _, ?_, n3.trans (n2.trans n1), rfl, kp3.trans (keep_push _ _), h3 _⟩
  refine Kn.swap (k3.add (s' := { s3 with heap := s3.heap.push _ }) (fun _ _ e => Heap.get?_push_of_some _ e) rfl k3.bare ⟨_, Heap.get?_push_size _ rfl, ⟨rfl, l, u, w, rfl, rfl, rfl, rfl⟩, nI_fields (T := "slice") rfl rfl (by decide)⟩ (by simp [FSl3, FOb]) ?_)
  intro b hb
  obtain rfl : b = s3.heap.objs.size := List.mem_singleton.mp hb
  exact Nat.le_refl _)
theorem reps_ints {h : Heap} : ∀ {ns : List Int} {vs : List Value}, Reps h (ns.map .int) vs → ∀ v ∈ vs, ∃ i t, v = .int i t
 | [], vs, r, v, hv => by obtain rfl : vs = [] := r; simp at hv
 | n :: ns, vs, r, v, hv => by
  obtain ⟨w, ws, rfl, ⟨t, rfl⟩, r2⟩ := r.uncons
  rcases List.mem_cons.mp hv with rfl | hv
  ·exact ⟨n, t, rfl⟩
  ·exact reps_ints r2 v hv
theorem ints_of {h : Heap} : ∀ {vs : List Value}, (∀ v ∈ vs, ∃ i t, v = .int i t) → ∃ ns : List Int, Reps h (ns.map .int) vs ∧ ns.length = vs.length
 | [], _ => ⟨[], Reps.nil, rfl⟩
 | v :: vs, hv => by
  obtain ⟨i, t, rfl⟩ := hv v List.mem_cons_self
  obtain ⟨ns, r, e⟩ := ints_of (h := h) fun w hw => hv w (List.mem_cons_of_mem _ hw)
  exact ⟨i :: ns, Reps.cons ⟨t, rfl⟩ r, by simp [e]⟩
def FRange3 (r : Addr) (a b st : Int) : Fact := FOb r fun o => ∃ t u v, o = { cls := .type "range", dict := none, data := .fields #[.int a t, .int b u, .int st v], slots := #[] }
def iotaS (a st : Int) : Nat → List SV
 | 0 => []
 | n + 1 => .int a :: iotaS (a + st) st n
theorem iotaS_length (st : Int) : ∀ (a : Int) n, (iotaS a st n).length = n
 | a, 0 => rfl
 | a, n + 1 => by simp [iotaS, iotaS_length st (a + st) n]
theorem iotaS_eq (st : Int) : ∀ (a : Int) (n : Nat), iotaS a st n = (List.range n).map fun (i : Nat) => SV.int (a + i * st)
 | a, 0 => rfl
 | a, n + 1 => by
  rw [List.range_succ_eq_map, List.map_cons, iotaS, iotaS_eq st (a + st) n, List.map_map]
  congr 1
  ·simp
  ·apply List.map_congr_left
   intro i _
   simp only [Function.comp_def]
   congr 1
   rw [Nat.succ_eq_add_one]; push_cast; rw [Int.add_mul]; omega
theorem Iter.rangeS (hh : A.handled = none) (I : Addr) (st : Int) : Iter c A (fun _ => True) I [] (fun r => FOb I fun o => ∃ a, r = iotaS a st r.length ∧ o = { cls := .type "range_iterator", dict := none, data := .fields #[rawInt a, rawInt r.length, rawInt st], slots := #[] })
  fun _ r => FOb I fun o => ∃ a, r = iotaS a st r.length ∧ o = { cls := .type "range_iterator", dict := none, data := .fields #[rawInt a, rawInt r.length, rawInt st], slots := #[] } := by
 refine Iter.walk (fun _ => rfl) ?_ ?_
 ·rintro r h ⟨o, e, ⟨a, _, rfl⟩, _⟩
  exact ⟨_, _, e, rfl, by decide⟩
 ·intro r K s k hN
  obtain ⟨o, e, a, hr, rfl⟩ := k.ob List.mem_cons_self
  refine ⟨_, _, _, _, 0, Walks.range hh I a st r.length, ?_, Nat.zero_add _, ?_⟩
  ·have e1 : a + ((0 : Nat) : Int) * st = a := by simp
   have e2 : (r.length : Int) - ((0 : Nat) : Int) = r.length := by simp
   show IsRangeIter _ _ _ _ _
   rw [e1, e2]; exact e
  ·rintro x r' rfl
   have hr : x :: r' = .int a :: iotaS (a + st) st r'.length := hr
   injection hr with hx hr'
   refine ⟨fun v ⟨t, hv⟩ => ?_, fun h' hs => ?_⟩
   ·subst hx hv; exact ⟨t, by simp⟩
   ·have e1 : a + ((0 + 1 : Nat) : Int) * st = a + st := by simp
    have e2 : (((x :: r').length : Nat) : Int) - ((0 + 1 : Nat) : Int) = r'.length := by simp
    have hs : IsRangeIter _ _ _ _ _ := hs
    rw [e1, e2] at hs
    exact ⟨_, hs, ⟨a + st, hr', rfl⟩, nI_fields (T := "range_iterator") rfl rfl (by decide)⟩
theorem Itb.rangeS (hh : A.handled = none) {r : Addr} {a b st : Int} {n : Nat} (hm : FRange3 r a b st ∈ K) (hsz : Builtin.Range.rangeSize a b st = n) (hsm : Builtin.Range.small a b st = true) :
  Itb c A (fun _ => True) K K (.ref r) (iotaS a st n) [] := fun g s v Q k re h => by
 obtain rfl : v = .ref r := re
 obtain ⟨o, e, t, u, w, rfl⟩ := k.ob (List.mem_cons_of_mem _ hm)
 refine wpAny_pyIter_range e hsm (h _ _ _ _ (Iter.rangeS hh s.heap.objs.size st) ?_ (keep_push _ _))
 rw [hsz]
 refine k.add (s' := { s with heap := s.heap.push _ }) (fun _ _ e => Heap.get?_push_of_some _ e) rfl k.bare ?_ (by simp [FOb]) ?_
 ·exact ⟨_, Heap.get?_push_size _ rfl, ⟨a, by rw [iotaS_length], by rw [iotaS_length]⟩, nI_fields (T := "range_iterator") rfl rfl (by decide)⟩
 ·intro b hb
  obtain rfl : b = s.heap.objs.size := List.mem_singleton.mp hb
  exact Nat.le_refl _
theorem c_range3 {a n st : Int} {Ψ : SV → List Fact → Prop} (h0 : st ≠ 0) (hp : Builtin.divisionGoesByPylong (n - a) st = false) (hq : ∀ r, Ψ (.ref r) (FRange3 r a n st :: K)) : TCall c A K (.type "range") [.int a, .int n, .int st] Ψ := fun rm s fv vs k rf rs => by
 obtain rfl : fv = .type "range" := rf
 obtain ⟨v, ws, rfl, ⟨t, rfl⟩, ht⟩ := rs.uncons
 obtain ⟨v, ws, rfl, ⟨u, rfl⟩, ht2⟩ := ht.uncons
 obtain ⟨v, ws, rfl, ⟨w, rfl⟩, ht3⟩ := ht2.uncons
 obtain rfl : ws = [] := ht3
 refine call_range_3 h0 ⟨.ref s.heap.objs.size, _, ?_, rfl, keep_push _ _, hq _⟩ (.inl hp)
 refine k.add (s' := { s with heap := s.heap.push _, toks := _ }) (fun _ _ e => Heap.get?_push_of_some _ e) rfl k.bare ?_ (by simp [FRange3, FOb]) ?_
 ·exact ⟨_, Heap.get?_push_size _ rfl, ⟨_, _, _, rfl⟩, nI_fields (T := "range") rfl rfl (by decide)⟩
 ·intro b hb
  obtain rfl : b = s.heap.objs.size := List.mem_singleton.mp hb
  exact Nat.le_refl _
theorem x_range3 {L : Addr} {a n st : Int} (h0 : st ≠ 0) (hp : Builtin.divisionGoesByPylong (n - a) st = false) (hq : ∀ r, Φ (.ref r) ρ (FRange3 r a n st :: K)) : TCall c A (FFr L ρ :: K) (.type "range") [.int a, .int n, .int st] (Fx L ρ Φ) :=
 TCall.fx (Ψ := fun v K' => ∃ r, v = .ref r ∧ K' = FRange3 r a n st :: FFr L ρ :: K) (c_range3 h0 hp fun r => ⟨r, rfl, rfl⟩) fun v K' ⟨r, e1, e2⟩ => by subst e1 e2; exact ⟨_, .swap .., hq r⟩
theorem x_sum {L a : Addr} {ns : List Int} (hm : FList a (ns.map .int) ∈ K) (hq : Φ (.int ns.sum) ρ K) : TCall c A (FFr L ρ :: K) (.bi "sum") [.ref a] (Fx L ρ Φ) := c_sum (List.mem_cons_of_mem _ hm) (Fx.mk hq)
theorem x_abs {L : Addr} {a : Int} (hq : Φ (.int a.natAbs) ρ K) : TCall c A (FFr L ρ :: K) (.bi "abs") [.int a] (Fx L ρ Φ) := TCall.opx (c_abs a) hq
end
section
variable {c : Cx} {A : Around} {env : Env} {ρ : Loc} {K K' : List Fact} {Φ : SV → Loc → List Fact → Prop} {s : Shared}
theorem Ifs_nil {ok no : Loc → List Fact → Prop} (h : ok ρ K) : Ifs c A env [] ρ K ok no := h
theorem Ifs_cons {e : Expr} {es : List Expr} {ok no : Loc → List Fact → Prop} (h : TB c A env ρ K (isTrue e env (eval e env)) fun b ρ1 K1 => (b = true → Ifs c A env es ρ1 K1 ok no) ∧ (b = false → no ρ1 K1)) : Ifs c A env (e :: es) ρ K ok no := h
theorem Cells.nil {env : Env} : Cells env [] := ⟨fun _ h => absurd h (by simp), fun _ h => absurd h (by simp), fun _ h => absurd h (by simp)⟩
theorem Cells.cons {env : Env} {x : Str} {a : Addr} {cl : List (Str × Addr)} (k : env.kindOf x = some .cell ∨ env.kindOf x = some .free) (l : env.cells.lookup x = some a) (d : (x == ("__debug__" : Str)) = false ∧ (x == ("__classdict__" : Str)) = false) (h : Cells env cl) : Cells env ((x, a) :: cl) := by
 refine ⟨fun p hp => ?_, fun p hp => ?_, fun p hp => ?_⟩
 ·rcases List.mem_cons.mp hp with rfl | hp
  ·exact k
  ·exact h.kind p hp
 ·rcases List.mem_cons.mp hp with rfl | hp
  ·exact l
  ·exact h.at_ p hp
 ·rcases List.mem_cons.mp hp with rfl | hp
  ·exact d
  ·exact h.dbg p hp
def Globs (env : Env) (gs : List Str) : Prop := ∀ x ∈ gs, env.kindOf x = some .globalImplicit
theorem Globs.nil {env : Env} : Globs env [] := fun _ h => absurd h (by simp)
theorem Globs.cons {env : Env} {x : Str} {gs : List Str} (k : env.kindOf x = some .globalImplicit) (h : Globs env gs) : Globs env (x :: gs) := fun y hy => by
 rcases List.mem_cons.mp hy with rfl | hy
 ·exact k
 ·exact h y hy
theorem U1.sees {α β : Type} {R : Heap → β → α → Prop} {ΦU : β → Loc → List Fact → Prop} {x : SV} {f : Value → Sem α} (cl : List (Str × Addr)) (gs : List Str) (hc : Cells env cl) (hg : Globs env gs) (h : Cells env cl → (∀ x ∈ gs, env.kindOf x = some .globalImplicit) → U1 R c A env ρ K x f ΦU) : U1 R c A env ρ K x f ΦU := h hc hg
theorem x_joinL {L a : Addr} {sep : List Nat} {ts : List (List Nat)} (hs : sep = []) (hm : FList a (ts.map tS) ∈ K) (hl : ts.flatten.length ≤ 2 ^ 24) (hq : Φ (tS ts.flatten) ρ K) : TCall c A (FFr L ρ :: K) (.bi "str.join") ([tS sep] ++ [.ref a]) (Fx L ρ Φ) := by
 subst hs
 exact x_join hm hl hq
theorem flat1 {α β : Type} (f : α → β) : ∀ l : List α, l.flatMap (fun a => [f a]) = l.map f
 | [] => rfl
 | a :: l => by simp [flat1 f l]
theorem flatT {α : Type} (f : α → List Nat) (l : List α) : l.flatMap (fun a => [tS (f a)]) = (l.map f).map tS := by
 rw [flat1 (fun a => tS (f a)), List.map_map]; rfl
theorem flatI {α : Type} (f : α → Int) (l : List α) : l.flatMap (fun a => [SV.int (f a)]) = (l.map f).map .int := by
 rw [flat1 (fun a => SV.int (f a)), List.map_map]; rfl
theorem pairs_zip (i : Nat) : ∀ l : List Nat, pairs i (cs l) = (l.zipIdx i).map fun p => SV.tup [.int (p.2 : Nat), tS [p.1]]
 | [] => rfl
 | n :: l => by
  have := pairs_zip (i + 1) l
  simp only [cs, List.map_cons, pairs, List.zipIdx_cons]
  congr 1
theorem Itb.rangeN (hh : A.handled = none) {r : Addr} {b : Int} (hm : FRange r 0 b ∈ K) (h0 : 0 ≤ b) (hb' : b < 2 ^ 40) : Itb c A (fun _ => True) K K (.ref r) ((List.range b.toNat).map fun (i : Nat) => SV.int i) [] := by
 have := Itb.range (c := c) hh hm (n := b.toNat) (.inl (by omega)) (by omega) (by omega) (by omega) hb'
 rw [iota_eq] at this
 simpa using this
section
variable {scope : Scope} {cl : List (Str × Addr)} {xs0 : List Str} {target elt : Expr} {ifs : List Expr} {ρ1 : Loc} {K1 : List Fact} {Ψ : Addr → List SV → List Fact → Prop}
theorem CompI.strT (hh : A.handled = none) (l : List Nat) (f : Nat → List SV) (hl : l.length < 2 ^ 20)
  (turn : ∀ C D G acc, ∀ a ∈ l, ∀ ρc, names ρc = xs0 → U1 RU c A (compEnvC scope cl C env) ρc (FList D acc :: FFr env.locals ρ1 :: G :: K1) (tS [a]) (assign target (compEnvC scope cl C env)) fun _ ρ2 K4 => Ifs c A (compEnvC scope cl C env) ifs ρ2 K4
   (fun ρ3 K5 => TE c A (compEnvC scope cl C env) ρ3 K5 (eval elt (compEnvC scope cl C env)) fun v _ K6 => f a = [v] ∧ Pick (FList D acc :: FFr env.locals ρ1 :: G :: K1) K6)
   (fun _ K5 => f a = [] ∧ Pick (FList D acc :: FFr env.locals ρ1 :: G :: K1) K5))
  (hq : ∀ D, Ψ D (l.flatMap f) K1) : CompI c A env scope cl xs0 target elt ifs ρ1 K1 (tS l) Ψ := by
 have hI := Itb.str (c := c) (K := K1) hh (x := tx l)
 rw [chs_tx, show cs l = l.map (fun n => tS [n]) from rfl] at hI
 exact CompI.pure l (fun n => tS [n]) f hI trivial (by simp) hl turn hq
theorem CompI.listT {α : Type} (hh : A.handled = none) {a : Addr} (as : List α) (enc : α → SV) (hm : FList a (as.map enc) ∈ K1) (f : α → List SV) (hl : as.length < 2 ^ 20)
  (turn : ∀ C D G acc, ∀ a ∈ as, ∀ ρc, names ρc = xs0 → U1 RU c A (compEnvC scope cl C env) ρc (FList D acc :: FFr env.locals ρ1 :: G :: K1) (enc a) (assign target (compEnvC scope cl C env)) fun _ ρ2 K4 => Ifs c A (compEnvC scope cl C env) ifs ρ2 K4
   (fun ρ3 K5 => TE c A (compEnvC scope cl C env) ρ3 K5 (eval elt (compEnvC scope cl C env)) fun v _ K6 => f a = [v] ∧ Pick (FList D acc :: FFr env.locals ρ1 :: G :: K1) K6)
   (fun _ K5 => f a = [] ∧ Pick (FList D acc :: FFr env.locals ρ1 :: G :: K1) K5))
  (hq : ∀ D, Ψ D (as.flatMap f) K1) : CompI c A env scope cl xs0 target elt ifs ρ1 K1 (.ref a) Ψ :=
 CompI.pure as enc f (Itb.list hh hm) trivial (fun g hg => by rw [List.mem_singleton.mp hg]; exact hm) hl turn hq
theorem CompI.rangeT (hh : A.handled = none) {r : Addr} {b : Int} (hm : FRange r 0 b ∈ K1) (h0 : 0 ≤ b) (hb' : b < 2 ^ 20) (f : Nat → List SV)
  (turn : ∀ C D G acc, ∀ i ∈ List.range b.toNat, ∀ ρc, names ρc = xs0 → U1 RU c A (compEnvC scope cl C env) ρc (FList D acc :: FFr env.locals ρ1 :: G :: K1) (.int (i : Nat)) (assign target (compEnvC scope cl C env)) fun _ ρ2 K4 => Ifs c A (compEnvC scope cl C env) ifs ρ2 K4
   (fun ρ3 K5 => TE c A (compEnvC scope cl C env) ρ3 K5 (eval elt (compEnvC scope cl C env)) fun v _ K6 => f i = [v] ∧ Pick (FList D acc :: FFr env.locals ρ1 :: G :: K1) K6)
   (fun _ K5 => f i = [] ∧ Pick (FList D acc :: FFr env.locals ρ1 :: G :: K1) K5))
  (hq : ∀ D, Ψ D ((List.range b.toNat).flatMap f) K1) : CompI c A env scope cl xs0 target elt ifs ρ1 K1 (.ref r) Ψ :=
 CompI.pure (List.range b.toNat) (fun (i : Nat) => SV.int i) f (Itb.rangeN hh hm h0 (by omega)) trivial (by simp) (by simp; omega) turn hq
end
end
section
variable {prog : Program} {w : World} {A : Around} {R : Result → Shared → Prop} {s : Shared}
theorem compTurn_in (g0 : Comprehension) (elt target iter : Expr) (scope : Scope) (pos : Pos) (it acc : Value) (env : Env) :
  compTurn (.ListComp elt [g0, ⟨target, iter, [], 0⟩] scope pos) 1 it acc env = (standAt iter.pos >>= fun _ => pyNext it >>= fun r => match r with
   | none => pure (.done .next)
   | some v => letOwnedTupleGo target it v >>= fun _ => assign target env v >>= fun _ =>
    (eval elt env >>= fun x => call (.builtin "list.append") [acc, x] >>= fun _ => pure ()) >>= fun _ =>
     again (.compLoop (.ListComp elt [g0, ⟨target, iter, [], 0⟩] scope pos) 1 it acc env)) := by rfl
theorem compTurn_out (elt target iter target1 iter1 : Expr) (scope : Scope) (pos : Pos) (it acc : Value) (env : Env) :
  compTurn (.ListComp elt [⟨target, iter, [], 0⟩, ⟨target1, iter1, [], 0⟩] scope pos) 0 it acc env = (standAt iter.pos >>= fun _ => pyNext it >>= fun r => match r with
   | none => pure (.done .next)
   | some v => letOwnedTupleGo target it v >>= fun _ => assign target env v >>= fun _ =>
    eval iter1 env >>= fun x => standAt iter1.pos >>= fun _ => foldedSetIterable iter1 env x >>= fun x => holding [x] (pyIter x) >>= fun i =>
     runOwn (.compStart (.ListComp elt [⟨target, iter, [], 0⟩, ⟨target1, iter1, [], 0⟩] scope pos) 1 i acc env) env >>= fun _ =>
     again (.compLoop (.ListComp elt [⟨target, iter, [], 0⟩, ⟨target1, iter1, [], 0⟩] scope pos) 0 it acc env)) := by rfl
theorem compIn_ {g0 : Comprehension} {elt target iter : Expr} {scope : Scope} {pos : Pos} {it acc : Value} {env : Env} (I : Nat → Shared → Prop)
  (turn : ∀ n s, I n s → wpAny (model prog w) A (pyNext it) (fun r s₁ => match r with
   | none => R (.ok .next) s₁
   | some v => wpAny (model prog w) A (letOwnedTupleGo target it v) (fun _ s₁' => wpAny (model prog w) A (assign target env v) (fun _ s₂ =>
     wpAny (model prog w) A (eval elt env) (fun x s₄ =>
       wpAny (model prog w) A (call (.builtin "list.append") [acc, x]) (fun _ s₅ => ∃ m, m < n ∧ I m s₅) nope s₄) nope s₂) nope s₁') nope s₁) nope s)
  (n : Nat) (h : I n s) : codeAny (model prog w) A (.compLoop (.ListComp elt [g0, ⟨target, iter, [], 0⟩] scope pos) 1 it acc env) R s := by
 refine codeAny_loop rfl I (fun n s hI => ?_) n h
 show wpAny _ A ((compTurn (.ListComp elt [g0, ⟨target, iter, [], 0⟩] scope pos) 1 it acc env).onRaise (fun x => do noteFrame x env; theTreesLotGoes x)) _ _ s
 refine wpAny_noted ?_
 rw [compTurn_in]
 refine wpAny_bind (wpAny_standAt (wpAny_bind (wpAny_mono (turn n s hI) (fun r s₁ h₁ => ?_) fun _ _ h' => h'.elim)))
 cases r with
 | none => exact wpAny_pure h₁
 | some v =>
  refine wpAny_bind (wpAny_mono h₁ (fun _ s₁' h₁' => ?_) fun _ _ h' => h'.elim)
  refine wpAny_bind (wpAny_mono h₁' (fun _ s₂ h₂ => ?_) fun _ _ h' => h'.elim)
  exact wpAny_bind (wpAny_bind (wpAny_mono h₂ (fun x s₄ h₄ => wpAny_bind (wpAny_mono h₄ (fun _ s₅ h₅ => wpAny_pure (wpAny_pure ⟨rfl, h₅⟩)) fun _ _ h' => h'.elim)) fun _ _ h' => h'.elim))
theorem compOut_ {elt target iter target1 iter1 : Expr} {scope : Scope} {pos : Pos} {it acc : Value} {env : Env} (I : Nat → Shared → Prop) (hs1 : ∀ x, foldedSetIterable iter1 env x = pure x)
  (turn : ∀ n s, I n s → wpAny (model prog w) A (pyNext it) (fun r s₁ => match r with
   | none => R (.ok .next) s₁
   | some v => wpAny (model prog w) A (letOwnedTupleGo target it v) (fun _ s₁' => wpAny (model prog w) A (assign target env v) (fun _ s₂ =>
     wpAny (model prog w) A (eval iter1 env) (fun x s₃ => wpAny (model prog w) A (pyIter x) (fun i s₄ =>
      codeAny (model prog w) A (.compStart (.ListComp elt [⟨target, iter, [], 0⟩, ⟨target1, iter1, [], 0⟩] scope pos) 1 i acc env) (fun r s₅ => r = .ok .next ∧ ∃ m, m < n ∧ I m s₅) s₄) nope s₃) nope s₂) nope s₁') nope s₁) nope s)
  (n : Nat) (h : I n s) : codeAny (model prog w) A (.compLoop (.ListComp elt [⟨target, iter, [], 0⟩, ⟨target1, iter1, [], 0⟩] scope pos) 0 it acc env) R s := by
 refine codeAny_loop rfl I (fun n s hI => ?_) n h
 show wpAny _ A ((compTurn (.ListComp elt [⟨target, iter, [], 0⟩, ⟨target1, iter1, [], 0⟩] scope pos) 0 it acc env).onRaise (fun x => do noteFrame x env; theTreesLotGoes x)) _ _ s
 refine wpAny_noted ?_
 rw [compTurn_out]
 refine wpAny_bind (wpAny_standAt (wpAny_bind (wpAny_mono (turn n s hI) (fun r s₁ h₁ => ?_) fun _ _ h' => h'.elim)))
 cases r with
 | none => exact wpAny_pure h₁
 | some v =>
  refine wpAny_bind (wpAny_mono h₁ (fun _ s₁' h₁' => ?_) fun _ _ h' => h'.elim)
  refine wpAny_bind (wpAny_mono h₁' (fun _ s₂ h₂ => ?_) fun _ _ h' => h'.elim)
  refine wpAny_bind (wpAny_mono h₂ (fun x s₃ h₃ => wpAny_bind (wpAny_standAt (wpAny_bind (wpAny_of_eq (hs1 x) (wpAny_bind (wpAny_holding (wpAny_mono h₃ (fun i s₄ h₄ => ?_) fun _ _ h' => h'.elim))))))) fun _ _ h' => h'.elim)
  refine wpAny_bind (wpAny_runOwn (codeAny_mono h₄ fun r s₅ h₅ => ?_))
  obtain ⟨rfl, hm⟩ := h₅
  exact wpAny_pure ⟨rfl, hm⟩
theorem compStart1 {g0 : Comprehension} {elt target iter scope pos it acc env}
  (h0 : codeAny (model prog w) A (.compLoop (.ListComp elt [g0, ⟨target, iter, [], 0⟩] scope pos) 1 it acc env) R s)
  (h : wpAny (model prog w) A (pyIter it) (fun it' s' => codeAny (model prog w) A (.compLoop (.ListComp elt [g0, ⟨target, iter, [], 0⟩] scope pos) 1 it' acc env) R s') nope s) :
  codeAny (model prog w) A (.compStart (.ListComp elt [g0, ⟨target, iter, [], 0⟩] scope pos) 1 it acc env) R s := by
 refine codeAny_of_tree ?_
 show wpAny _ _ ((compStart (.ListComp elt [g0, ⟨target, iter, [], 0⟩] scope pos) 1 it acc env).onRaise (fun x => do noteFrame x env; standAt theWindowsPlace)) _ _ s
 refine wpAny_notedAt ?_
 unfold compStart
 show wpAny _ _ (ask >>= _) _ _ s
 refine wpAny_bind (wpAny_askSetting (wpAny_ite ?_))
 split
 ·first
   | exact wpAny_bind (wpAny_pure (wpAny_pure (And.intro rfl h0)))
   | exact wpAny_pure (And.intro rfl h0)
 ·first
   | exact wpAny_bind (wpAny_rule (wpAny_bind (wpAny_standAt (wpAny_bind (wpAny_mono h (fun it' s' h' => wpAny_pure (And.intro rfl h')) fun _ _ x => x.elim)))))
   | (refine wpAny_bind (wpAny_rule ?_); show wpAny _ _ (standAt iter.pos >>= _) _ _ s; exact wpAny_bind (wpAny_standAt (wpAny_bind (wpAny_mono h (fun it' s' h' => wpAny_pure (And.intro rfl h')) fun _ _ x => x.elim))))
end
section
variable {c : Cx} {A : Around} {env : Env} {ρ ρ1 : Loc} {K K' K1 : List Fact} {Φ : SV → Loc → List Fact → Prop} {ΦS : SFl → Loc → List Fact → Prop} {s : Shared} {scope : Scope} {cl : List (Str × Addr)} {xs0 : List Str} {target elt iter target1 iter1 : Expr} {x : SV} {pos : Pos}
structure Comp2 (c : Cx) (A : Around) (env : Env) (scope : Scope) (cl : List (Str × Addr)) (xs0 : List Str) (target elt target1 iter1 : Expr) (ρ1 : Loc) (K1 : List Fact) {α β : Type} (a0 : Addr) (as : List α) (enc : α → SV) (b0 : Addr) (bs : List β) (enc1 : β → SV) (f : α → β → SV) (Inn : α → Loc → Prop) : Prop where
 hh : A.handled = none
 ma : FList a0 (as.map enc) ∈ K1
 mb : FList b0 (bs.map enc1) ∈ K1
 la : as.length * bs.length < 2 ^ 19
 nm : ∀ a ρc, Inn a ρc → names ρc = xs0
 out : ∀ C D G acc, ∀ a ∈ as, ∀ ρc, names ρc = xs0 → U1 RU c A (compEnvC scope cl C env) ρc (FList D acc :: FFr env.locals ρ1 :: G :: K1) (enc a) (assign target (compEnvC scope cl C env)) fun _ ρ2 K4 =>
  TE c A (compEnvC scope cl C env) ρ2 K4 (eval iter1 (compEnvC scope cl C env)) fun y ρ3 K5 => y = .ref b0 ∧ Inn a ρ3 ∧ Pick (FList D acc :: FFr env.locals ρ1 :: G :: K1) K5
 inn : ∀ C D G G' acc, ∀ a ∈ as, ∀ b ∈ bs, ∀ ρc, Inn a ρc → U1 RU c A (compEnvC scope cl C env) ρc (FList D acc :: FFr env.locals ρ1 :: G' :: G :: K1) (enc1 b) (assign target1 (compEnvC scope cl C env)) fun _ ρ2 K4 =>
  TE c A (compEnvC scope cl C env) ρ2 K4 (eval elt (compEnvC scope cl C env)) fun v ρ3 K5 => v = f a b ∧ Inn a ρ3 ∧ Pick (FList D acc :: FFr env.locals ρ1 :: G' :: G :: K1) K5
theorem inner_loop {α β : Type} {a0 b0 : Addr} {as : List α} {enc : α → SV} {bs : List β} {enc1 : β → SV} {f : α → β → SV} {Inn : α → Loc → Prop} (X : Comp2 c A env scope cl xs0 target elt target1 iter1 ρ1 K1 a0 as enc b0 bs enc1 f Inn)
  {g0 : Comprehension} {C D : Addr} {G : Fact} {acc : List SV} {a : α} (ha : a ∈ as) (okc : ∀ ns, ns = xs0 → Okay A (compEnvC scope cl C env) ns) (hl : acc.length + bs.length < 2 ^ 20) {R : Result → Shared → Prop} {T : Expr → Prop} {it : Addr} {N : List Fact} {F : List SV → Fact} {Mi : Value → List SV → Fact} {ρc : Loc}
  (hi : Iter c A T it N F Mi) (hT : T target1) (hN : ∀ g ∈ N, g ∈ K1) (hInn : Inn a ρc) (k : Kn c (F (bs.map enc1) :: FFr C ρc :: FList D acc :: FFr env.locals ρ1 :: G :: K1) s)
  (hR : ∀ ρc' s', Inn a ρc' → Kn c (FFr C ρc' :: FList D (acc ++ bs.map (f a)) :: FFr env.locals ρ1 :: G :: K1) s' → Keep s.heap s'.heap → R (.ok .next) s') :
  codeAny c.M A (.compStart (.ListComp elt [g0, ⟨target1, iter1, [], 0⟩] scope pos) 1 (.ref it) (.ref D) (compEnvC scope cl C env)) R s := by
 have loop : codeAny c.M A (.compLoop (.ListComp elt [g0, ⟨target1, iter1, [], 0⟩] scope pos) 1 (.ref it) (.ref D) (compEnvC scope cl C env)) R s := by
  refine compIn_ (fun n s' => ∃ d t ρc, n = t.length ∧ bs = d ++ t ∧ Kn c (F (t.map enc1) :: FFr C ρc :: FList D (acc ++ d.map (f a)) :: FFr env.locals ρ1 :: G :: K1) s' ∧ Inn a ρc ∧ Keep s.heap s'.heap) ?_ bs.length ⟨[], bs, ρc, rfl, rfl, by simpa using k, hInn, Keep.refl _⟩
  rintro n s4 ⟨d, t, ρc, rfl, hb, k4, hI4, kp4⟩
  have hN4 : ∀ g ∈ N, g ∈ FFr C ρc :: FList D (acc ++ d.map (f a)) :: FFr env.locals ρ1 :: G :: K1 := fun g hg => List.mem_cons_of_mem _ (List.mem_cons_of_mem _ (List.mem_cons_of_mem _ (List.mem_cons_of_mem _ (hN g hg))))
  cases t with
  | nil =>
   refine wpAny_mono (hi.stop _ s4 (fun o s5 => match o with
    | none => Kn c (FFr C ρc :: FList D (acc ++ d.map (f a)) :: FFr env.locals ρ1 :: G :: K1) s5 ∧ Keep s4.heap s5.heap
    | some _ => False) k4 hN4 fun s5 k5 kp5 => ⟨k5, kp5⟩) ?_ (fun _ _ e => e.elim)
   rintro o s5 h5
   cases o with
   | some _ => exact h5.elim
   | none =>
    rw [List.append_nil] at hb
    subst hb
    exact hR ρc s5 hI4 h5.1 (kp4.trans h5.2)
  | cons b t =>
   have hbm : b ∈ bs := by rw [hb]; simp
   refine wpAny_mono (hi.next (enc1 b) (t.map enc1) _ s4 (fun o s5 => match o with
    | none => False
    | some v => Kn c (Mi v (t.map enc1) :: FFr C ρc :: FList D (acc ++ d.map (f a)) :: FFr env.locals ρ1 :: G :: K1) s5 ∧ Rep s5.heap (enc1 b) v ∧ Keep s4.heap s5.heap) k4 hN4 fun v s5 k5 r5 kp5 => ⟨k5, r5, kp5⟩) ?_ (fun _ _ e => e.elim)
   rintro o s5 h5
   cases o with
   | none => exact h5.elim
   | some v =>
    obtain ⟨k5, r5, kp5⟩ := h5
    refine wpAny_mono (hi.go target1 (enc1 b) (t.map enc1) _ s5 v (fun _ s6 => Kn c (F (t.map enc1) :: FFr C ρc :: FList D (acc ++ d.map (f a)) :: FFr env.locals ρ1 :: G :: K1) s6 ∧ Keep s5.heap s6.heap) hT k5 r5 fun s6 k6 kp6 => ⟨k6, kp6⟩) ?_ (fun _ _ e => e.elim)
    rintro _ s6 ⟨k6, kp6⟩
    have kp46 := (kp4.trans kp5).trans kp6
    have k6' : Kn c (FFr C ρc :: FList D (acc ++ d.map (f a)) :: FFr env.locals ρ1 :: F (t.map enc1) :: G :: K1) s6 := k6.perm (perm_mid [_] [_, _, _] _)
    have n4 := X.nm a ρc hI4
    refine wpAny_mono (wp_step (X.inn C D G (F (t.map enc1)) (acc ++ d.map (f a)) a ha b hbm ρc hI4 (okc _ n4) s6 v k6' (r5.keep kp6)) kp46 ?_) (fun _ _ e => e) (fun _ _ e => e.elim)
    rintro _ s7 _ ρ7 K7 k7 n7 _ kp7 _ h7
    refine wpAny_mono (wp_step (h7 (okc _ (n7.trans n4)) s7 k7) kp7 ?_) (fun _ _ e => e) (fun _ _ e => e.elim)
    rintro u s9 y ρ9 K9 k9 n9 r9 kp9 _ ⟨rfl, hI9, p⟩
    have k10 := k9.pick1 p
    have hl9 : (acc ++ d.map (f a)).length < 2 ^ 20 := by
     rw [hb] at hl
     simp only [List.length_append, List.length_cons, List.length_map] at hl ⊢; omega
    refine wpAny_mono (c_append (c := c) (A := A) (a := D) (x := f a b) (K := FFr C ρ9 :: FList D (acc ++ d.map (f a)) :: FFr env.locals ρ1 :: F (t.map enc1) :: G :: K1) (K' := FFr C ρ9 :: FList D (acc ++ d.map (f a) ++ [f a b]) :: FFr env.locals ρ1 :: F (t.map enc1) :: G :: K1) (.there .here) hl9 (Ψ := fun _ K' => K' = FFr C ρ9 :: FList D (acc ++ d.map (f a) ++ [f a b]) :: FFr env.locals ρ1 :: F (t.map enc1) :: G :: K1) rfl (okc _ n4).room s9 (.builtin "list.append") [.ref D, u] k10 rfl (Reps.cons (show Rep s9.heap (.ref D) (.ref D) from rfl) (Reps.one r9))) ?_ (fun _ _ e => e.elim)
    rintro _ s10 ⟨z, K11, k11, _, kp11, rfl⟩
    exact ⟨t.length, Nat.lt_succ_self _, d ++ [b], t, ρ9, rfl, by rw [hb]; simp, by simpa using (k11.perm (perm_mid [_, _, _] [_] _)), hI9, kp9.trans kp11⟩
 exact compStart1 loop (hi.self _ _ s _ k (fun g hg => List.mem_cons_of_mem _ (List.mem_cons_of_mem _ (List.mem_cons_of_mem _ (List.mem_cons_of_mem _ (hN g hg))))) loop)
theorem comp_block2 {α β : Type} {a0 b0 : Addr} {as : List α} {enc : α → SV} {bs : List β} {enc1 : β → SV} {f : α → β → SV} {Inn : α → Loc → Prop} (X : Comp2 c A env scope cl xs0 target elt target1 iter1 ρ1 K1 a0 as enc b0 bs enc1 f Inn)
  {T : Expr → Prop} {it : Addr} {N : List Fact} {F : List SV → Fact} {Mi : Value → List SV → Fact} {use : Option (Value → Sem Unit)} {Q : Value → Shared → Prop}
  (P : CompAt scope env cl xs0) (hs1 : ∀ C x, foldedSetIterable iter1 (compEnvC scope cl C env) x = pure x) (hi : Iter c A T it N F Mi) (ok : Okay A env (names ρ1)) (k : Kn c (F (as.map enc) :: FFr env.locals ρ1 :: K1) s) (hT : T target) (hN : ∀ f ∈ N, f ∈ K1)
  (fin : ∀ C D ρc s', Kn c (FFr C ρc :: FList D (as.flatMap fun a => bs.map (f a)) :: FFr env.locals ρ1 :: K1) s' → Keep s.heap s'.heap → compPost c.M A nope use Q (.ref D) C (.ok .next) s') :
  wpAny c.M A (newList []) (fun acc s₃ => wpAny c.M A (newFunctionEnv scope env.globals cl [] env.qual none .none (some env)) (fun cenv s₄ =>
   codeAny c.M A (.compStart (.ListComp elt [⟨target, iter, [], 0⟩, ⟨target1, iter1, [], 0⟩] scope pos) 0 (.ref it) acc { cenv with scope := relabel scope env }) (compPost c.M A nope use Q acc cenv.locals) s₄) nope s₃) nope s := by
 have k1 : Kn c (FList s.heap.objs.size [] :: F (as.map enc) :: FFr env.locals ρ1 :: K1) { s with heap := s.heap.push (lst #[] 0) } := k.listNew (xs := []) (vs := #[]) (by simp [Reps]) 0 s.toks
 refine wpAny_newObj_type ?_ (by size_fits)
 show wpAny c.M A (newFunctionEnv scope env.globals cl [] env.qual none .none (some env)) _ nope { s with heap := s.heap.push (lst #[] 0) }
 have kp1 : Keep s.heap (s.heap.push (lst #[] 0)) := keep_push _ _
 generalize hs1' : ({ s with heap := s.heap.push (lst #[] 0) } : Shared) = s1 at k1 ⊢
 have kp1 : Keep s.heap s1.heap := by rw [← hs1']; exact kp1
 generalize s.heap.objs.size = D at k1 ⊢
 refine wpAny_newFunctionEnv P.cell (by intro y hy; simp at hy) (fun h₁ hns hsb => ?_) P.kind
 have hk : ∀ b o, s1.heap.get? b = some o → h₁.get? b = some o := fun b o e => hsb.extBut b o (Nat.ne_of_lt (Heap.lt_size e)) (Heap.get?_push_of_some _ e)
 have k2 : Kn c (FFr s1.heap.objs.size (xs0.map fun x => (x, none)) :: FList D [] :: F (as.map enc) :: FFr env.locals ρ1 :: K1) { s1 with heap := h₁, toks := s1.toks + ([] : List (Str × Value)).length } := by
  refine k1.add hk rfl k1.bare ?_ (by simp [FFr]) ?_
  ·refine ⟨?_, _, hns, fun p hp => ?_⟩
   ·rw [List.map_map]; simpa [Function.comp_def] using P.nodup
   ·obtain ⟨x, _, rfl⟩ := List.mem_map.mp hp
    show List.lookup x [].reverse = none
    rfl
  ·intro b hb
   obtain rfl : b = s1.heap.objs.size := List.mem_singleton.mp hb
   exact Nat.le_refl _
 have kp2 : Keep s.heap h₁ := kp1.trans fun b o e _ => hk b o e
 generalize hs2 : ({ s1 with heap := h₁, toks := s1.toks + ([] : List (Str × Value)).length } : Shared) = s2 at k2 ⊢
 have kp2 : Keep s.heap s2.heap := by rw [← hs2]; exact kp2
 generalize s1.heap.objs.size = C at k2 ⊢
 have okc : ∀ ns, ns = xs0 → Okay A (compEnvC scope cl C env) ns := fun ns e => by
  subst e
  exact ⟨ok.room, by show (relabel scope env).kind = _; exact P.kind, fun x hx => lookup_relabel_local (P.loc x hx), P.dbg, ok.glob, ok.blt⟩
 have loop : ∀ s3, Kn c (F (as.map enc) :: FFr C (xs0.map fun x => (x, none)) :: FList D [] :: FFr env.locals ρ1 :: K1) s3 → Keep s.heap s3.heap →
   codeAny c.M A (.compLoop (.ListComp elt [⟨target, iter, [], 0⟩, ⟨target1, iter1, [], 0⟩] scope pos) 0 (.ref it) (.ref D) (compEnvC scope cl C env)) (compPost c.M A nope use Q (.ref D) C) s3 := by
  intro s3 k3 kp3
  refine compOut_ (fun n s' => ∃ d t ρc, n = t.length ∧ as = d ++ t ∧ Kn c (F (t.map enc) :: FFr C ρc :: FList D (d.flatMap fun a => bs.map (f a)) :: FFr env.locals ρ1 :: K1) s' ∧ names ρc = xs0 ∧ Keep s.heap s'.heap ∧ (d.flatMap fun a => bs.map (f a)).length = d.length * bs.length) (hs1 C) ?_ as.length
   ⟨[], as, _, rfl, rfl, by simpa using k3, by unfold names; rw [List.map_map]; simp [Function.comp_def], kp3, by simp⟩
  rintro n s4 ⟨d, t, ρc, rfl, hb, k4, n4, kp4, hl4⟩
  have hN4 : ∀ g ∈ N, g ∈ FFr C ρc :: FList D (d.flatMap fun a => bs.map (f a)) :: FFr env.locals ρ1 :: K1 := fun g hg => List.mem_cons_of_mem _ (List.mem_cons_of_mem _ (List.mem_cons_of_mem _ (hN g hg)))
  cases t with
  | nil =>
   refine wpAny_mono (hi.stop _ s4 (fun o s5 => match o with
    | none => Kn c (FFr C ρc :: FList D (d.flatMap fun a => bs.map (f a)) :: FFr env.locals ρ1 :: K1) s5 ∧ Keep s4.heap s5.heap
    | some _ => False) k4 hN4 fun s5 k5 kp5 => ⟨k5, kp5⟩) ?_ (fun _ _ e => e.elim)
   rintro o s5 h5
   cases o with
   | some _ => exact h5.elim
   | none =>
    rw [List.append_nil] at hb
    subst hb
    exact fin C D ρc s5 h5.1 (kp4.trans h5.2)
  | cons a t =>
   have ham : a ∈ as := by rw [hb]; simp
   refine wpAny_mono (hi.next (enc a) (t.map enc) _ s4 (fun o s5 => match o with
    | none => False
    | some v => Kn c (Mi v (t.map enc) :: FFr C ρc :: FList D (d.flatMap fun a => bs.map (f a)) :: FFr env.locals ρ1 :: K1) s5 ∧ Rep s5.heap (enc a) v ∧ Keep s4.heap s5.heap) k4 hN4 fun v s5 k5 r5 kp5 => ⟨k5, r5, kp5⟩) ?_ (fun _ _ e => e.elim)
   rintro o s5 h5
   cases o with
   | none => exact h5.elim
   | some v =>
    obtain ⟨k5, r5, kp5⟩ := h5
    refine wpAny_mono (hi.go target (enc a) (t.map enc) _ s5 v (fun _ s6 => Kn c (F (t.map enc) :: FFr C ρc :: FList D (d.flatMap fun a => bs.map (f a)) :: FFr env.locals ρ1 :: K1) s6 ∧ Keep s5.heap s6.heap) hT k5 r5 fun s6 k6 kp6 => ⟨k6, kp6⟩) ?_ (fun _ _ e => e.elim)
    rintro _ s6 ⟨k6, kp6⟩
    have kp46 := (kp4.trans kp5).trans kp6
    have k6' : Kn c (FFr C ρc :: FList D (d.flatMap fun a => bs.map (f a)) :: FFr env.locals ρ1 :: F (t.map enc) :: K1) s6 := k6.perm (perm_mid [_] [_, _, _] _)
    refine wpAny_mono (wp_step (X.out C D (F (t.map enc)) (d.flatMap fun a => bs.map (f a)) a ham ρc n4 (okc _ n4) s6 v k6' (r5.keep kp6)) kp46 ?_) (fun _ _ e => e) (fun _ _ e => e.elim)
    rintro _ s7 _ ρ7 K7 k7 n7 _ kp7 _ h7
    have hn7 := n7.trans n4
    refine wpAny_mono (wp_step (h7 (okc _ hn7) s7 k7) kp7 ?_) (fun _ _ e => e) (fun _ _ e => e.elim)
    rintro u s9 y ρ9 K9 k9 n9 r9 kp9 _ ⟨rfl, hI9, p⟩
    have k10 : Kn c (FFr C ρ9 :: FList D (d.flatMap fun a => bs.map (f a)) :: FFr env.locals ρ1 :: F (t.map enc) :: K1) s9 := k9.pick1 p
    have k10' : Kn c (FList D (d.flatMap fun a => bs.map (f a)) :: FFr C ρ9 :: FFr env.locals ρ1 :: F (t.map enc) :: K1) s9 := k10.swap
    have hmb : FList b0 (bs.map enc1) ∈ FFr C ρ9 :: FFr env.locals ρ1 :: F (t.map enc) :: K1 := List.mem_cons_of_mem _ (List.mem_cons_of_mem _ (List.mem_cons_of_mem _ X.mb))
    refine Itb.list (c := c) (A := A) X.hh hmb _ s9 u _ k10' r9 fun it1 F1 Mi1 s10 hi1 k11 kp11 => ?_
    have k11' : Kn c (F1 (bs.map enc1) :: FFr C ρ9 :: FList D (d.flatMap fun a => bs.map (f a)) :: FFr env.locals ρ1 :: F (t.map enc) :: K1) s10 := k11.perm (.cons _ (.swap _ _ _))
    have hlen : (d.flatMap fun a => bs.map (f a)).length + bs.length < 2 ^ 20 := by
     rw [hl4]
     have h1 := X.la
     rw [hb, List.length_append, List.length_cons, Nat.add_mul, Nat.succ_mul] at h1
     omega
    refine inner_loop X (a := a) ham okc hlen hi1 (by trivial) (by simpa using X.mb) hI9 k11' fun ρc' s11 hI11 k12 kp12 => ⟨rfl, t.length, Nat.lt_succ_self _, d ++ [a], t, ρc', rfl, by rw [hb]; simp, ?_, X.nm a _ hI11, (kp9.trans kp11).trans kp12, ?_⟩
    ·rw [List.flatMap_append]
     have : ([a].flatMap fun a => bs.map (f a)) = bs.map (f a) := by simp
     rw [this]
     exact k12.perm (perm_mid [_, _, _] [_] _)
    ·rw [List.flatMap_append, List.length_append, hl4, List.length_append, Nat.add_mul]; simp
 have k3 : Kn c (F (as.map enc) :: FFr C (xs0.map fun x => (x, none)) :: FList D [] :: FFr env.locals ρ1 :: K1) s2 := k2.perm (perm_mid [_, _] [_] _)
 show codeAny c.M A (.compStart (.ListComp elt [⟨target, iter, [], 0⟩, ⟨target1, iter1, [], 0⟩] scope pos) 0 (.ref it) (.ref D) (compEnvC scope cl C env)) (compPost c.M A nope use Q (.ref D) C) s2
 refine codeAny_compStart_list (loop s2 k3 kp2) (nope_any (hi.self _ _ s2 _ k3 (fun f hf => List.mem_cons_of_mem _ (List.mem_cons_of_mem _ (List.mem_cons_of_mem _ (hN f hf)))) (loop s2 k3 kp2)))
theorem S_AssignLC2 {y : Str} {py spos : Pos} {α β : Type} (P : CompAt scope env cl xs0)
  (h : TE c A env ρ K (eval iter env) fun x ρ1 K1 => ∃ a0 b0 as enc bs enc1 f Inn, x = .ref a0 ∧ Comp2 (α := α) (β := β) c A env scope cl xs0 target elt target1 iter1 ρ1 K1 a0 as enc b0 bs enc1 f Inn ∧
   ∀ D, ∃ ρ2, Put y (.ref D) ρ1 ρ2 ∧ ΦS .next ρ2 (FList D (as.flatMap fun a => bs.map (f a)) :: K1))
  (hsw : swapsWith (.ListComp elt [⟨target, iter, [], 0⟩, ⟨target1, iter1, [], 0⟩] scope pos) (some (.Name y py)) spos.line env = pure true := by rfl)
  (hs : ∀ x, foldedSetIterable iter env x = pure x := by intro _; rfl) (hs1 : ∀ C x, foldedSetIterable iter1 (compEnvC scope cl C env) x = pure x := by intro _ _; rfl) :
  TS c A env ρ K (exec (.Assign [.Name y py] (.ListComp elt [⟨target, iter, [], 0⟩, ⟨target1, iter1, [], 0⟩] scope pos) spos) env) ΦS := fun ok s k => by
 rw [exec_Assign_Name_used _ _ _ _ hsw]
 refine wpAny_bind (wpAny_standAt (wpAny_bind ?_))
 show wpAny _ A (do let _ ← comprehension (.ListComp elt [⟨target, iter, [], 0⟩, ⟨target1, iter1, [], 0⟩] scope pos) scope env _ (newList []) false (eval iter env) (some (assign (.Name y py) env))) _ _ s
 refine wpAny_bind (wpAny_mono (wpAny_comprehension_free (use := some (assign (.Name y py) env)) (Q := fun _ s' => Post RF c env.locals (names ρ) s.heap ΦS .next s') rfl hs P.clos P.kind P.names
  (wp_step (h ok s k) (Keep.refl _) fun xv s1 x ρ1 K1 k1 n1 r1 kp1 _ hC => ?_)) (fun _ s' hq => wpAny_pure (wpAny_pure hq)) fun _ _ e => e)
 obtain ⟨a0, b0, as, enc, bs, enc1, f, Inn, rfl, X, fin⟩ := hC
 have k1' : Kn c (FFr env.locals ρ1 :: K1) s1 := k1
 refine Itb.list (c := c) (A := A) X.hh X.ma _ s1 xv _ k1' r1 fun it F Mi s2 hi k2 kp2 => ?_
 refine comp_block2 X P hs1 hi (ok.to n1) k2 (by trivial) (by simpa using X.ma) fun C D ρc s' k' kp' => ?_
 obtain ⟨ρ2, p, hq⟩ := fin D
 have k'' : Kn c (FFr env.locals ρ1 :: (FFr C ρc :: FList D (as.flatMap fun a => bs.map (f a)) :: K1)) s' := k'.perm (perm_mid [_, _] [_] _)
 show wpAny _ A (assign (.Name y py) env (.ref D)) _ _ _
 refine PyProof.Rows.assign_Name (store (a := .ref D) p (ok.to n1) k'' rfl fun s3 k3 kp3 => ?_)
 have k3' : Kn c (FFr C ρc :: FList D (as.flatMap fun a => bs.map (f a)) :: FFr env.locals ρ2 :: K1) s3 := k3.perm (perm_mid [_] [_, _] _)
 exact comp_end (Q := fun s' => Post RF c env.locals (names ρ) s.heap ΦS .next s') k3' fun s4 k4 kp4 => ⟨.next, ρ2, _, k4, p.names.trans n1, rfl, (((kp1.trans kp2).trans kp').trans kp3).trans kp4, hq⟩
theorem names3 {ρ : Loc} {a b c : Str} (h : names ρ = [a, b, c]) : ∃ o o' o2, ρ = [(a, o), (b, o'), (c, o2)] := by
 match ρ, h with
 | [(x, o), (y, o'), (z, o2)], h => simp [names] at h; obtain ⟨rfl, rfl, rfl⟩ := h; exact ⟨o, o', o2, rfl⟩
theorem names4 {ρ : Loc} {a b c d : Str} (h : names ρ = [a, b, c, d]) : ∃ o o' o2 o3, ρ = [(a, o), (b, o'), (c, o2), (d, o3)] := by
 match ρ, h with
 | [(x, o), (y, o'), (z, o2), (u, o3)], h => simp [names] at h; obtain ⟨rfl, rfl, rfl, rfl⟩ := h; exact ⟨o, o', o2, o3, rfl⟩
end
section
variable {c : Cx} {A : Around} {env : Env} {ρ : Loc} {K K' : List Fact} {ΦU : Unit → Loc → List Fact → Prop}
theorem G_Cell {x : Str} {a : Addr} {v : SV} {cl cs : List (Str × Addr)} {γ γ' : Loc} {pos : Pos} {ks : List Str} (hC : Cells env cl) (hx : (x, a) ∈ cl) (hks : ∀ x ∈ ks, env.kindOf x = some .cell) (hk : x ∈ ks) (hf : Chg (FCs cs γ) (FCs cs γ') K K') (hxs : (x, a) ∈ cs) (p : Put x v γ γ') (h : ΦU () ρ K') :
  U1 RU c A env ρ K v (assign (.Name x pos) env) ΦU := fun ok s u k r =>
 PyProof.Rows.assign_Name (storeC hC hx (hks _ hk) hxs p hf ok k r fun s' k' kp => ⟨(), ρ, K', k', rfl, trivial, kp, h⟩)
theorem G_Tuple2 {e1 e2 : Expr} {n : Nat} {pos : Pos} {a b : SV} (h : U1 RU c A env ρ K a (assign e1 env) fun _ ρ1 K1 => U1 RU c A env ρ1 K1 b (assign e2 env) ΦU)
  (he : assignEach [e1, e2] env = [(false, assign e1 env), (false, assign e2 env)]) : U1 RU c A env ρ K (.tup [a, b]) (assign (.Tuple [e1, e2] n pos) env) ΦU := fun ok s u k r => by
 simp only [Rep] at r
 obtain ⟨t, vs, rfl, ht, rs⟩ := r
 refine wpAny_assign_Tuple ok.room.hh ht (by rw [he, ← Array.length_toList, rs.length]; rfl) (by rw [he]; rfl) fun h' hx => ?_
 obtain ⟨k', kp⟩ := k.ext hx
 obtain ⟨v, w1, e, r1, r2⟩ := rs.uncons
 obtain ⟨w, w2, rfl, r3, r4⟩ := r2.uncons
 obtain rfl : w2 = [] := r4
 rw [he, e]
 show wpAny c.M A (assignInOrder [assign e1 env, assign e2 env] [v, w]) _ nope _
 refine PyProof.Rows.assignInOrder_cons (wp_step (h ok _ v k' (r1.keep kp)) kp fun _ s1 _ ρ1 K1 k1 n1 _ kp1 kp1' h1 => ?_)
 refine PyProof.Rows.assignInOrder_cons (wp_step (h1 (ok.to n1) s1 w k1 (r3.keep kp1)) kp1 fun _ s2 _ ρ2 K2 k2 n2 _ kp2 _ h2 => ?_)
 exact PyProof.Rows.assignInOrder_nil ⟨(), ρ2, K2, k2, n2.trans n1, trivial, kp2, h2⟩
theorem TCall.newV {Φ : SV → Loc → List Fact → Prop} {f : SV} {xs : List SV} {L : Addr} {V : Addr → SV} {G : Addr → Fact} (h : ∀ Ψ : SV → List Fact → Prop, (∀ d, Ψ (V d) (G d :: FFr L ρ :: K)) → TCall c A (FFr L ρ :: K) f xs Ψ) (hq : ∀ d, Φ (V d) ρ (G d :: K)) :
  TCall c A (FFr L ρ :: K) f xs (Fx L ρ Φ) :=
 TCall.fx (h (fun v K' => ∃ d, v = V d ∧ K' = G d :: FFr L ρ :: K) fun d => ⟨d, rfl, rfl⟩) fun v K' ⟨d, e1, e2⟩ => ⟨G d :: K, e2 ▸ .swap .., e1 ▸ hq d⟩
end
def SV.flat : SV → Bool
 | .tup _ => false
 | _ => true
theorem Rep.flat {h h' : Heap} {x : SV} {v : Value} (hx : x.flat = true) (r : Rep h x v) : Rep h' x v := by
 cases x with
 | tup vs => cases hx
 | none => exact r
 | bool b => exact r
 | int i => exact r
 | str t => exact r
 | type n => exact r
 | bi n => exact r
 | ref a => exact r
theorem Reps.flat {h h' : Heap} : ∀ {xs : List SV} {vs : List Value}, xs.all SV.flat = true → Reps h xs vs → Reps h' xs vs
 | [], vs, _, r => r
 | x :: xs, vs, hx, r => by
  rw [List.all_cons, Bool.and_eq_true] at hx
  obtain ⟨v, ws, e, r1, r2⟩ := r
  exact ⟨v, ws, e, r1.flat hx.1, Reps.flat hx.2 r2⟩
def flatL (ρ : Loc) : Bool := ρ.all fun p => match p.2 with | some x => x.flat | none => true
theorem LocOk.flat {h h' : Heap} {m : Str → Option Value} {p : Str × Option SV} (hp : (match p.2 with | some x => x.flat | none => true) = true) (l : LocOk h m p) : LocOk h' m p := by
 obtain ⟨a, o⟩ := p
 cases o with
 | none => exact l
 | some x => obtain ⟨v, e, r⟩ := l; exact ⟨v, e, r.flat hp⟩
def Over (TO : Addr) (f : Fact) : Prop := ∀ h h', f.holds h → (∀ b o, b ≠ TO → h.get? b = some o → Imm o → h'.get? b = some o) → (∀ k ∈ f.keys, ∀ o, h.get? k = some o → h'.get? k = some o) → f.holds h'
theorem Over.fr {TO L : Addr} {ρ : Loc} (hf : flatL ρ = true) : Over TO (FFr L ρ) := by
 rintro h h' ⟨hn, m, ⟨o, es, ep, ho, r⟩, hl⟩ _ hk
 exact ⟨hn, m, ⟨o, es, ep, hk L (by simp [FFr]) o ho, r⟩, fun p hp => (hl p hp).flat (List.all_eq_true.mp hf p hp)⟩
theorem Over.list {TO a : Addr} {xs : List SV} (hf : xs.all SV.flat = true) : Over TO (FList a xs) := by
 rintro h h' ⟨vs, n, e, r⟩ _ hk
 exact ⟨vs, n, hk a (by simp [FList]) _ e, r.flat hf⟩
theorem Over.cells {TO : Addr} {cs : List (Str × Addr)} {γ : Loc} (hf : flatL γ = true) : Over TO (FCs cs γ) := by
 rintro h h' ⟨cm, hc, hl, r⟩ _ hk
 refine ⟨cm, fun p hp => ?_, fun q hq => (hl q hq).flat (List.all_eq_true.mp hf q hq), r⟩
 obtain ⟨o, ho, hd⟩ := hc p hp
 exact ⟨o, hk p.2 (List.mem_map.mpr ⟨p, hp, rfl⟩) o ho, hd⟩
theorem ints_flat (l : List Int) : (l.map SV.int).all SV.flat = true := by induction l with | nil => rfl | cons a l ih => rw [List.map_cons, List.all_cons, ih]; rfl
theorem txs_flat (l : List (List Nat)) : (l.map tS).all SV.flat = true := by induction l with | nil => rfl | cons a l ih => rw [List.map_cons, List.all_cons, ih]; rfl
def FSafe (TO : Addr) (R : List Fact) : Fact where
 keys := R.flatMap Fact.keys
 holds h := ∃ h0, (∀ f ∈ R, f.holds h0) ∧ h0.get? TO = none ∧ Keep h0 h ∧ ∀ k ∈ R.flatMap Fact.keys, ∀ o, h0.get? k = some o → h.get? k = some o
 stable := by
  rintro h h' ⟨h0, hf, hn, hk, hy⟩ kp hh
  exact ⟨h0, hf, hn, hk.trans kp, fun k hm o e => hh k hm o (hy k hm o e)⟩
 own := by
  rintro h ⟨h0, hf, hn, hk, hy⟩ k hm
  obtain ⟨f, hfm, hkm⟩ := List.mem_flatMap.mp hm
  obtain ⟨o, e, hi⟩ := f.own _ (hf f hfm) k hkm
  exact ⟨o, hy k hm o e, hi⟩
theorem FSafe.open {TO : Addr} {R : List Fact} {h : Heap} (x : (FSafe TO R).holds h) : ∀ f ∈ R, f.holds h := by
 obtain ⟨h0, hf, hn, hk, hy⟩ := x
 exact fun f hfm => f.stable h0 h (hf f hfm) hk fun k hk' o e => hy k (List.mem_flatMap.mpr ⟨f, hfm, hk'⟩) o e
theorem Over.safe {TO : Addr} {R : List Fact} : Over TO (FSafe TO R) := by
 rintro h h' ⟨h0, hf, hn, hk, hy⟩ kp hh
 exact ⟨h0, hf, hn, fun b o e i => kp b o (fun q => by subst q; rw [hn] at e; cases e) (hk b o e i) i, fun k hm o e => hh k hm o (hy k hm o e)⟩
def FSnap (h0 : Heap) : Fact where
 keys := []
 holds h := Keep h0 h
 stable := fun h h' x kp _ => x.trans kp
 own := by rintro h _ k hk; exact absurd hk (by simp)
theorem Kn.snap {c : Cx} {K : List Fact} {s : Shared} (k : Kn c K s) : Kn c (FSnap s.heap :: K) s :=
 k.add (fun _ _ e => e) rfl k.bare (Keep.refl _) (by simp [FSnap]) (by intro a ha; simp [FSnap] at ha)
theorem Kn.split2 {c : Cx} {TO : Addr} {R K : List Fact} {s : Shared} (k : Kn c (FSafe TO R :: K) s) : Kn c (R ++ K) s := by
 refine ⟨k.old, k.lim, k.os, k.bare, fun f hf => ?_, ?_, fun f hf a ha => ?_, fun t ht => (k.tabs t ht).keys fun a ha => ?_⟩
 ·rcases List.mem_append.mp hf with hf | hf
  ·exact FSafe.open (k.facts _ List.mem_cons_self) f hf
  ·exact k.facts f (List.mem_cons_of_mem _ hf)
 ·have := k.nodup
  rw [List.flatMap_append]
  rw [List.flatMap_cons] at this; exact this
 ·rcases List.mem_append.mp hf with hf | hf
  ·exact k.fresh (FSafe TO R) List.mem_cons_self a (List.mem_flatMap.mpr ⟨f, hf, ha⟩)
  ·exact k.fresh f (List.mem_cons_of_mem _ hf) a ha
 ·rw [List.flatMap_append] at ha
  rw [List.flatMap_cons]; exact ha
theorem Kn.over {c : Cx} {K : List Fact} {s s' : Shared} {f : Fact} {fs : List Fact} {TO : Addr} (k : Kn c (f :: K) s) (h0 : c.h0.get? TO = none) (hT : ∃ o, s.heap.get? TO = some o ∧ o.cls = .type "tuple" ∧ Imm o)
  (hb : ∀ b o, b ∉ f.keys → b ≠ TO → s.heap.get? b = some o → s'.heap.get? b = some o) (ho : s'.os = s.os) (hg : GOk c.base s'.gens) (hf : ∀ g ∈ fs, g.holds s'.heap) (hkeys : (fs.flatMap Fact.keys).Sublist f.keys) (hov : ∀ g ∈ K, Over TO g) : Kn c (fs ++ K) s' := by
 obtain ⟨oT, eT, cT, iT⟩ := hT
 have hyk := k.fresh f List.mem_cons_self
 have hold : ∀ b o, c.h0.get? b = some o → b ∉ f.keys ∧ b ≠ TO := fun b o e => And.intro (fun hb' => by rw [hyk b hb'] at e; cases e) (fun q => by subst q; rw [h0] at e; cases e)
 have hb2 : ∀ b o, c.h0.get? b = some o → ∀ o', s.heap.get? b = some o' → s'.heap.get? b = some o' := fun b o e o' e' => hb b o' (hold b o e).1 (hold b o e).2 e'
 have hnd := k.nodup
 rw [List.flatMap_cons, List.nodup_append] at hnd
 have hdis : ∀ g ∈ K, ∀ a ∈ g.keys, a ∉ f.keys := fun g hg a ha hf' => hnd.2.2 a hf' a (List.mem_flatMap.mpr ⟨g, hg, ha⟩) rfl
 have hnTO : ∀ g ∈ f :: K, ∀ a ∈ g.keys, a ≠ TO := fun g hg a ha q => by
  subst q
  obtain ⟨o, e, hi⟩ := g.own _ (k.facts g hg) a ha
  rw [eT] at e; cases e; exact hi iT
 have hown : ∀ b ∈ f.keys, ∀ o, s.heap.get? b = some o → ¬ Imm o := fun b hb o e => by
  obtain ⟨o', e', hi⟩ := f.own _ (k.facts f List.mem_cons_self) b hb
  rw [e] at e'; cases e'; exact hi
 refine ⟨?_, ?_, ho.trans k.os, hg, fun g hg' => ?_, ?_, fun g hg' => ?_, fun t ht => ?_⟩
 ·refine ⟨fun b o e => ?_, fun b o e => ?_⟩
  ·rcases k.old.old b o e with x | ⟨t, hc, vs, more, hv, x⟩ | ⟨rfl, hc, ⟨o', es, n, ho', r⟩, z⟩
   ·exact .inl (hb2 b o e _ x)
   ·exact .inr (.inl ⟨t, hc, vs, more, hv, hb2 b o e _ x⟩)
   ·exact .inr (.inr ⟨rfl, hc, ⟨o', es, n, hb2 _ o e _ ho', r⟩, fun key => by
     rw [OldK.staticOf_congr ((hb2 _ o e _ ho').trans ho'.symm) key]; exact z key⟩)
  ·obtain ⟨o', ho'⟩ := k.old.there b o e
   exact ⟨o', hb2 b o e _ ho'⟩
 ·obtain ⟨mc, ⟨o, es, ep, ho', r⟩, q⟩ := k.lim
  obtain ⟨o0, e0⟩ := c.big
  exact ⟨mc, ⟨o, es, ep, hb2 _ o0 e0 _ ho', r⟩, q⟩
 ·rcases List.mem_append.mp hg' with hg' | hg'
  ·exact hf g hg'
  ·exact hov g hg' _ _ (k.facts g (List.mem_cons_of_mem _ hg')) (fun b o hne e i => hb b o (fun hbk => hown b hbk o e i) hne e) (fun a ha o e => hb a o (hdis g hg' a ha) (hnTO g (List.mem_cons_of_mem _ hg') a ha) e)
 ·rw [List.flatMap_append]
  exact k.nodup.sublist (by rw [List.flatMap_cons]; exact hkeys.append_right _)
 ·rcases List.mem_append.mp hg' with hg' | hg'
  ·exact fun a ha => hyk a (hkeys.subset (List.mem_flatMap.mpr ⟨g, hg', ha⟩))
  ·exact k.fresh g (List.mem_cons_of_mem _ hg')
 ·obtain ⟨ps, hP, htr, hc⟩ := k.tabs t ht
  have hPk : t.P ∉ f.keys := fun q => k.tabP ht (List.mem_flatMap.mpr ⟨f, List.mem_cons_self, q⟩)
  obtain ⟨⟨ps0, hps0⟩, _, _⟩ := c.tabAt t ht
  have hP0 : ∃ o, c.h0.get? t.P = some o := ⟨_, hps0.2⟩
  obtain ⟨oP, eP⟩ := hP0
  refine ⟨ps, hb _ _ hPk (hold _ _ eP).2 hP, htr, ?_⟩
  have hsub : ((fs ++ K).flatMap Fact.keys).Sublist ((f :: K).flatMap Fact.keys) := by
   rw [List.flatMap_append, List.flatMap_cons]; exact hkeys.append_right _
  rcases hc with h1 | ⟨c', h1, h2, h3⟩
  ·exact .inl h1
  ·refine .inr ⟨c', h1, ?_, fun q => h3 (hsub.subset q)⟩
   obtain ⟨d, o, vs, tq, e, ho, hcl, r⟩ := h2
   cases e
   refine ⟨_, o, vs, tq, rfl, hb _ _ (fun q => h3 (List.mem_flatMap.mpr ⟨f, List.mem_cons_self, q⟩)) (fun q => ?_) ho, hcl, r⟩
   subst q
   rw [eT] at ho; cases ho
   rw [cT] at hcl; exact absurd hcl (by decide)
def FZip (z TI TO i1 i2 l1 l2 : Addr) (k : Nat) (f0 : Value) : Fact where
 keys := [z, i1, i2]
 holds h := ZipApart z TI TO i1 i2 l1 l2 ∧ IsZip h z TI TO f0 ∧ IsPair h TI (.ref i1) (.ref i2) ∧ (∃ a b, IsPair h TO a b) ∧ h.IsListIter i1 l1 k ∧ h.IsListIter i2 l2 k
 stable := by
  rintro h h' ⟨D, hz, hTI, ⟨a, b, hTO⟩, h1, h2⟩ kp hk
  exact ⟨D, hk z (by simp) _ hz, kp _ _ hTI (.inl ⟨rfl, _, _, rfl⟩), ⟨a, b, kp _ _ hTO (.inl ⟨rfl, _, _, rfl⟩)⟩, h1.at fun o e => hk i1 (by simp) o e, h2.at fun o e => hk i2 (by simp) o e⟩
 own := by
  rintro h ⟨D, hz, hTI, ⟨a, b, hTO⟩, ⟨o1, e1, c1, d1⟩, ⟨o2, e2, c2, d2⟩⟩ k hk
  simp only [List.mem_cons, List.not_mem_nil, or_false] at hk
  rcases hk with rfl | rfl | rfl
  ·exact ⟨_, hz, nI_fields (T := "zip") rfl rfl (by decide)⟩
  ·exact ⟨_, e1, nI_fields c1 d1 (by decide)⟩
  ·exact ⟨_, e2, nI_fields c2 d2 (by decide)⟩
theorem zip_apart (n l1 l2 : Nat) (h1 : l1 < n) (h2 : l2 < n) : ZipApart (n + 4) (n + 2) (n + 3) n (n + 1) l1 l2 := by
 constructor <;> (intro q; replace q : (_ : Nat) = _ := q; omega)
theorem FZip.nodup {z TI TO i1 i2 l1 l2 : Addr} (D : ZipApart z TI TO i1 i2 l1 l2) : [z, i1, i2].Nodup := by
 have h1 := D.i1z; have h2 := D.i2z; have h3 := D.i12
 simp [h3, Ne.symm h1, Ne.symm h2]
section
variable {c : Cx} {A : Around} {ρ : Loc} {K : List Fact} {Φ : SV → Loc → List Fact → Prop} {s : Shared}
theorem x_zip {L l1 l2 : Addr} {xs ys : List SV} {g : Fact} {Ku : List Fact} (hp : Pick Ku K) (m1 : FList l1 xs ∈ Ku) (m2 : FList l2 ys ∈ Ku)
  (hq : ∀ z TI TO i1 i2 R, K.Perm (Ku ++ R) → c.h0.get? TO = none → Φ (.ref z) ρ (FZip z TI TO i1 i2 l1 l2 0 .none :: FSafe TO (g :: R) :: Ku)) : TCall c A (FFr L ρ :: g :: K) (.type "zip") [.ref l1, .ref l2] (Fx L ρ Φ) := fun rm s fv vs k rf rs => by
 obtain rfl : fv = .type "zip" := rf
 obtain ⟨v, ws, rfl, rfl, ht⟩ := rs.uncons
 obtain ⟨v2, ws2, rfl, rfl, ht2⟩ := ht.uncons
 obtain rfl : ws2 = [] := ht2
 obtain ⟨R, hR⟩ := hp.perm
 have k1 : Kn c (FFr L ρ :: g :: (Ku ++ R)) s := k.perm ((hR.cons _).cons _)
 obtain ⟨us, n1, e1, r1⟩ := k1.list (a := l1) (xs := xs) (List.mem_cons_of_mem _ (List.mem_cons_of_mem _ (List.mem_append_left _ m1)))
 obtain ⟨ws, n2, e2, r2⟩ := k1.list (a := l2) (xs := ys) (List.mem_cons_of_mem _ (List.mem_cons_of_mem _ (List.mem_append_left _ m2)))
 have lt1 : l1 < s.heap.objs.size := Heap.lt_size e1
 have lt2 : l2 < s.heap.objs.size := Heap.lt_size e2
 refine call_zip_2 (isList_of e1) (isList_of e2) fun h' hz hTI hTO h1 h2 hsz hk => ?_
 have kp : Keep s.heap h' := fun b o e _ => hk b o e
 have hTOn : s.heap.get? (s.heap.objs.size + 3) = none := Heap.get?_none_of_le (Nat.le_add_right _ _)
 have k2 : Kn c (FSafe (s.heap.objs.size + 3) (g :: R) :: FFr L ρ :: Ku) s := by
  have k3 : Kn c ((g :: R) ++ (FFr L ρ :: Ku)) s := k1.perm (by
   refine (List.Perm.swap _ _ _).trans ?_
   rw [List.cons_append]
   refine List.Perm.cons _ ?_
   refine List.Perm.trans ?_ (List.perm_append_comm)
   rw [List.cons_append])
  have k4 := k3.join
  refine ⟨k4.old, k4.lim, k4.os, k4.bare, fun f hf => ?_, k4.nodup, fun f hf a ha => ?_, k4.tabs⟩
  ·rcases List.mem_cons.mp hf with rfl | hf
   ·exact ⟨s.heap, fun f hf => k3.facts f (List.mem_append_left _ hf), hTOn, Keep.refl _, fun _ _ _ e => e⟩
   ·exact k4.facts f (List.mem_cons_of_mem _ hf)
  ·rcases List.mem_cons.mp hf with rfl | hf
   ·exact k4.fresh _ List.mem_cons_self a ha
   ·exact k4.fresh f (List.mem_cons_of_mem _ hf) a ha
 have D : ZipApart (s.heap.objs.size + 4) (s.heap.objs.size + 2) (s.heap.objs.size + 3) s.heap.objs.size (s.heap.objs.size + 1) l1 l2 := by
  exact zip_apart _ _ _ lt1 lt2
 have k5 : Kn c (FZip (s.heap.objs.size + 4) (s.heap.objs.size + 2) (s.heap.objs.size + 3) s.heap.objs.size (s.heap.objs.size + 1) l1 l2 0 .none :: FSafe (s.heap.objs.size + 3) (g :: R) :: FFr L ρ :: Ku) { s with heap := h' } :=
  k2.add (s' := { s with heap := h' }) hk rfl k2.bare ⟨D, hz, hTI, ⟨_, _, hTO⟩, h1, h2⟩ (FZip.nodup D) (by
   intro a ha
   simp only [FZip, List.mem_cons, List.not_mem_nil, or_false] at ha
   rcases ha with rfl | rfl | rfl <;> omega)
 exact ⟨.ref (s.heap.objs.size + 4), _, k5.perm (perm_mid [_, _] [FFr L ρ] Ku), rfl, kp, _, rfl, hq _ _ _ _ _ R hR (OldK.none_ k.old hTOn)⟩
end
section
variable {c : Cx} {A : Around} {env : Env} {ρ ρ1 : Loc} {K K' K1 : List Fact} {Φ : SV → Loc → List Fact → Prop} {s : Shared} {scope : Scope} {cl : List (Str × Addr)} {xs0 : List Str} {target elt iter : Expr} {x : SV} {pos : Pos}
def CompZ (c : Cx) (A : Around) (env : Env) (scope : Scope) (cl : List (Str × Addr)) (xs0 : List Str) (target elt : Expr) (ρ1 : Loc) (K : List Fact) (g : Fact) (K1 : List Fact) (x : SV) (Ψ : Addr → List SV → Prop) : Prop :=
 ∃ z TI TO i1 i2 l1 l2 R Ku, ∃ (as : List Int) (bs : List (List Nat)) (f : Int → List Nat → Int),
  x = .ref z ∧ K1 = FZip z TI TO i1 i2 l1 l2 0 .none :: FSafe TO (g :: R) :: Ku ∧ K.Perm (Ku ++ R) ∧ c.h0.get? TO = none ∧ FList l1 (as.map .int) ∈ Ku ∧ FList l2 (bs.map tS) ∈ Ku ∧ (∀ f ∈ Ku, Over TO f) ∧ flatL ρ1 = true ∧ as.length = bs.length ∧ as.length < 2 ^ 20 ∧ isTup target ∧
  (∀ C D G G2 acc, ∀ a ∈ as, ∀ b ∈ bs, ∀ ρc, names ρc = xs0 → U1 RU c A (compEnvC scope cl C env) ρc (FList D acc :: FFr env.locals ρ1 :: G :: G2 :: Ku) (.tup [.int a, tS b]) (assign target (compEnvC scope cl C env)) fun _ ρ2 K4 =>
   TE c A (compEnvC scope cl C env) ρ2 K4 (eval elt (compEnvC scope cl C env)) fun v ρ3 K6 => v = .int (f a b) ∧ flatL ρ3 = true ∧ Pick (FList D acc :: FFr env.locals ρ1 :: G :: G2 :: Ku) K6) ∧
  ∀ D, Ψ D (((as.zip bs).map fun p => f p.1 p.2).map .int)
theorem E_ListCompZ (P : CompAt scope env cl xs0)
  (h : ∀ g : Fact, g.keys = [] → TE c A env ρ (g :: K) (eval iter env) fun x ρ1 K1 => CompZ c A env scope cl xs0 target elt ρ1 K g K1 x fun D acc => Φ (.ref D) ρ1 (FList D acc :: K))
  (hs : ∀ x, foldedSetIterable iter env x = pure x := by intro _; rfl) : TE c A env ρ K (eval (.ListComp elt [⟨target, iter, [], 0⟩] scope pos) env) Φ := fun ok s k => by
 rw [eval_ListComp]
 have kg : Kn c (FFr env.locals ρ :: FSnap s.heap :: K) s := k.snap.swap
 refine wpAny_comprehension_free (use := none) rfl hs P.clos P.kind P.names (wp_step (h _ rfl ok s kg) (Keep.refl _) fun xv s1 x ρ1 K1 k1 n1 r1 kp1 _ hC => ?_)
 obtain ⟨z, TI, TO, i1, i2, l1, l2, R, Ku, as, bs, f, rfl, rfl, hperm, hTO0, m1, m2, hov, hfl, hlen, hsz, hT, turn, fin⟩ := hC
 obtain rfl : xv = .ref z := r1
 have okc : ∀ C ns, ns = xs0 → Okay A (compEnvC scope cl C env) ns := fun C ns e => by
  subst e
  exact ⟨ok.room, by show (relabel scope env).kind = _; exact P.kind, fun x hx => lookup_relabel_local (P.loc x hx), P.dbg, ok.glob, ok.blt⟩
 have hh : A.handled = none := ok.room.hh
 have hz1 := (k1.facts _ (List.mem_cons_of_mem _ List.mem_cons_self)).2.1
 refine wpAny_pyIter_zip hz1 ?_
 have k2 : Kn c (FList s1.heap.objs.size [] :: FFr env.locals ρ1 :: FZip z TI TO i1 i2 l1 l2 0 .none :: FSafe TO (FSnap s.heap :: R) :: Ku) { s1 with heap := s1.heap.push (lst #[] 0) } := k1.listNew (xs := []) (vs := #[]) (by simp [Reps]) 0 s1.toks
 refine wpAny_newObj_type ?_ (by size_fits)
 show wpAny c.M A (newFunctionEnv scope env.globals cl [] env.qual none .none (some env)) _ nope { s1 with heap := s1.heap.push (lst #[] 0) }
 generalize hs1 : ({ s1 with heap := s1.heap.push (lst #[] 0) } : Shared) = s2 at k2 ⊢
 generalize s1.heap.objs.size = D at k2 ⊢
 refine wpAny_newFunctionEnv P.cell (by intro y hy; simp at hy) (fun h₁ hns hsb => ?_) P.kind
 have hk : ∀ b o, s2.heap.get? b = some o → h₁.get? b = some o := fun b o e => hsb.extBut b o (Nat.ne_of_lt (Heap.lt_size e)) (Heap.get?_push_of_some _ e)
 have k3 : Kn c (FFr s2.heap.objs.size (xs0.map fun x => (x, none)) :: FList D [] :: FFr env.locals ρ1 :: FZip z TI TO i1 i2 l1 l2 0 .none :: FSafe TO (FSnap s.heap :: R) :: Ku) { s2 with heap := h₁, toks := s2.toks + ([] : List (Str × Value)).length } := by
  refine k2.add hk rfl k2.bare ?_ (by simp [FFr]) ?_
  ·refine ⟨?_, _, hns, fun p hp => ?_⟩
   ·rw [List.map_map]; simpa [Function.comp_def] using P.nodup
   ·obtain ⟨x, _, rfl⟩ := List.mem_map.mp hp
    show List.lookup x [].reverse = none
    rfl
  ·intro b hb
   obtain rfl : b = s2.heap.objs.size := List.mem_singleton.mp hb
   exact Nat.le_refl _
 generalize hs2 : ({ s2 with heap := h₁, toks := s2.toks + ([] : List (Str × Value)).length } : Shared) = s3 at k3 ⊢
 generalize s2.heap.objs.size = C at k3 ⊢
 have loop : ∀ s4, Kn c (FZip z TI TO i1 i2 l1 l2 0 .none :: FFr C (xs0.map fun x => (x, none)) :: FList D [] :: FFr env.locals ρ1 :: FSafe TO (FSnap s.heap :: R) :: Ku) s4 →
   codeAny c.M A (.compLoop (.ListComp elt [⟨target, iter, [], 0⟩] scope pos) 0 (.ref z) (.ref D) (compEnvC scope cl C env)) (compPost c.M A nope none (fun v s' => Post Rep c env.locals (names ρ) s.heap Φ v s') (.ref D) C) s4 := by
  intro s4 k4
  refine compLoop_ (fun n s' => ∃ i ρc, n = as.length - i ∧ i ≤ as.length ∧ Kn c (FZip z TI TO i1 i2 l1 l2 i .none :: FFr C ρc :: FList D ((((as.zip bs).take i).map fun p => f p.1 p.2).map .int) :: FFr env.locals ρ1 :: FSafe TO (FSnap s.heap :: R) :: Ku) s' ∧ names ρc = xs0 ∧ flatL ρc = true) ?_ as.length
   ⟨0, _, rfl, Nat.zero_le _, by simpa using k4, by unfold names; rw [List.map_map]; simp [Function.comp_def], by unfold flatL; simp⟩
  rintro n s5 ⟨i, ρc, rfl, hi, k5, n5, f5⟩
  obtain ⟨DD, hz, hTI, ⟨ta, tb, hTO⟩, h1, h2⟩ := k5.facts _ List.mem_cons_self
  have mm : ∀ g ∈ Ku, g ∈ FZip z TI TO i1 i2 l1 l2 i .none :: FFr C ρc :: FList D ((((as.zip bs).take i).map fun p => f p.1 p.2).map .int) :: FFr env.locals ρ1 :: FSafe TO (FSnap s.heap :: R) :: Ku := fun g hg => by simp [hg]
  obtain ⟨us, q1, e1, rs1⟩ := k5.list (mm _ m1)
  obtain ⟨ws, q2, e2, rs2⟩ := k5.list (mm _ m2)
  have lu : us.size = as.length := by rw [← Array.length_toList, rs1.length, List.length_map]
  have lw : ws.size = bs.length := by rw [← Array.length_toList, rs2.length, List.length_map]
  have hTOi : ∃ o, s5.heap.get? TO = some o ∧ o.cls = .type "tuple" ∧ Imm o := ⟨_, hTO, rfl, .inl ⟨rfl, _, _, rfl⟩⟩
  have hovs : ∀ g ∈ FFr C ρc :: FList D ((((as.zip bs).take i).map fun p => f p.1 p.2).map .int) :: FFr env.locals ρ1 :: FSafe TO (FSnap s.heap :: R) :: Ku, Over TO g := by
   intro g hg
   simp only [List.mem_cons] at hg
   rcases hg with rfl | rfl | rfl | rfl | hg
   ·exact Over.fr f5
   ·exact Over.list (ints_flat _)
   ·exact Over.fr hfl
   ·exact Over.safe
   ·exact hov g hg
  by_cases hlt : i < as.length
  ·obtain ⟨a, ha⟩ : ∃ a, as[i]? = some a := ⟨_, List.getElem?_eq_getElem hlt⟩
   obtain ⟨b, hb⟩ : ∃ b, bs[i]? = some b := ⟨_, List.getElem?_eq_getElem (by omega)⟩
   obtain ⟨u, hu, ru⟩ := rs1.get (i := i) (x := .int a) (by rw [List.getElem?_map, ha]; rfl)
   obtain ⟨w, hw, rw'⟩ := rs2.get (i := i) (x := tS b) (by rw [List.getElem?_map, hb]; rfl)
   rw [Array.getElem?_toList] at hu hw
   refine wpAny_pyNext_zip_item DD hz hTI hTO h1 h2 (isList_of e1) (isList_of e2) hu hw fun h' b1 b2 b3 b4 b5 b6 hk => ?_
   have hTI' : IsPair h' TI (.ref i1) (.ref i2) := hk _ _ DD.TIz DD.TITO DD.TIi1 DD.TIi2 hTI
   have k6 : Kn c (FZip z TI TO i1 i2 l1 l2 (i + 1) (rawInt s5.heap.objs.size) :: FFr C ρc :: FList D ((((as.zip bs).take i).map fun p => f p.1 p.2).map .int) :: FFr env.locals ρ1 :: FSafe TO (FSnap s.heap :: R) :: Ku) { s5 with heap := h' } :=
    k5.over (s' := { s5 with heap := h' }) (fs := [FZip z TI TO i1 i2 l1 l2 (i + 1) (rawInt s5.heap.objs.size)]) hTO0 hTOi (fun c o hc hne e => hk c o (fun q => hc (by simp [FZip, q])) hne (fun q => hc (by simp [FZip, q])) (fun q => hc (by simp [FZip, q])) e) rfl k5.bare
     (by intro g hg; obtain rfl := List.mem_singleton.mp hg; exact ⟨DD, b1, hTI', ⟨_, _, b2⟩, b3, b4⟩) (by simp [FZip]) hovs
   have rT : Rep h' (.tup [.int a, tS b]) (.ref s5.heap.objs.size) := ⟨_, #[u, w], rfl, ⟨_, b5, rfl, _, rfl⟩, Reps.cons (ru.flat rfl) (Reps.one (rw'.flat rfl))⟩
   generalize hs6 : ({ s5 with heap := h' } : Shared) = s6 at k6
   have rT : Rep s6.heap (.tup [.int a, tS b]) (.ref s5.heap.objs.size) := by rw [← hs6]; exact rT
   generalize s5.heap.objs.size = T at k6 rT ⊢
   obtain ⟨_, hz6, hTI6, ⟨ta6, tb6, hTO6⟩, h16, h26⟩ := k6.facts _ List.mem_cons_self
   obtain ⟨elts, x1, tpos, rfl⟩ : ∃ elts x1 tpos, target = .Tuple elts x1 tpos := by
    cases target with
    | Tuple elts x1 tpos => exact ⟨_, _, _, rfl⟩
    | _ => exact hT.elim
   refine wpAny_letOwnedTupleGo_zip hz6 fun h7 hz7 hs7 => ?_
   have hb7 : ∀ b o, b ∉ (FZip z TI TO i1 i2 l1 l2 (i + 1) (rawInt T)).keys → s6.heap.get? b = some o → h7.get? b = some o := fun b o hb e => (hs7.2 b (fun q => hb (by simp [FZip, q]))).trans e
   have k7 : Kn c (FZip z TI TO i1 i2 l1 l2 (i + 1) .none :: FFr C ρc :: FList D ((((as.zip bs).take i).map fun p => f p.1 p.2).map .int) :: FFr env.locals ρ1 :: FSafe TO (FSnap s.heap :: R) :: Ku) { s6 with heap := h7 } :=
    k6.change (s' := { s6 with heap := h7 }) hb7 rfl k6.bare ⟨DD, hz7, (hs7.2 TI DD.TIz).trans hTI6, ⟨_, _, (hs7.2 TO DD.TOz).trans hTO6⟩, h16.at fun o e => (hs7.2 i1 DD.i1z).trans e, h26.at fun o e => (hs7.2 i2 DD.i2z).trans e⟩ (fun a ha => .inl ha) (FZip.nodup DD)
   have kp7 := k6.change_keep (s' := { s6 with heap := h7 }) hb7
   have rT7 : Rep h7 (.tup [.int a, tS b]) (.ref T) := rT.keep kp7
   generalize hs8 : ({ s6 with heap := h7 } : Shared) = s8 at k7
   have rT8 : Rep s8.heap (.tup [.int a, tS b]) (.ref T) := by rw [← hs8]; exact rT7
   have k8 : Kn c (FFr C ρc :: FList D ((((as.zip bs).take i).map fun p => f p.1 p.2).map .int) :: FFr env.locals ρ1 :: FZip z TI TO i1 i2 l1 l2 (i + 1) .none :: FSafe TO (FSnap s.heap :: R) :: Ku) s8 := k7.perm (perm_mid [_] [_, _, _] _)
   refine wpAny_mono (wp_step (turn C D _ _ _ a (List.mem_of_getElem? ha) b (List.mem_of_getElem? hb) ρc n5 (okc C _ n5) s8 _ k8 rT8) (Keep.refl _) ?_) (fun _ _ e => e) (fun _ _ e => e.elim)
   rintro _ s9 _ ρ9 K9 k9 n9 _ kp9 _ h9
   refine wpAny_pure ?_
   rw [if_pos rfl]
   refine wpAny_mono (wp_step (h9 (okc C _ (n9.trans n5)) s9 k9) (Keep.refl _) ?_) (fun _ _ e => e) (fun _ _ e => e.elim)
   rintro y s10 _ ρ10 K10 k10 n10 r10 kp10 _ ⟨rfl, f10, p10⟩
   have k11 := k10.pick1 p10
   have hl11 : ((((as.zip bs).take i).map fun p => f p.1 p.2).map SV.int).length < 2 ^ 20 := by
    simp only [List.length_map, List.length_take, List.length_zip]; omega
   refine wpAny_mono (c_append (c := c) (A := A) (a := D) (x := .int (f a b)) (K := FFr C ρ10 :: FList D ((((as.zip bs).take i).map fun p => f p.1 p.2).map .int) :: FFr env.locals ρ1 :: FZip z TI TO i1 i2 l1 l2 (i + 1) .none :: FSafe TO (FSnap s.heap :: R) :: Ku)
    (K' := FFr C ρ10 :: FList D ((((as.zip bs).take i).map fun p => f p.1 p.2).map .int ++ [.int (f a b)]) :: FFr env.locals ρ1 :: FZip z TI TO i1 i2 l1 l2 (i + 1) .none :: FSafe TO (FSnap s.heap :: R) :: Ku) (.there .here) hl11
    (Ψ := fun _ K' => K' = FFr C ρ10 :: FList D ((((as.zip bs).take i).map fun p => f p.1 p.2).map .int ++ [.int (f a b)]) :: FFr env.locals ρ1 :: FZip z TI TO i1 i2 l1 l2 (i + 1) .none :: FSafe TO (FSnap s.heap :: R) :: Ku) rfl ok.room s10 (.builtin "list.append") [.ref D, y] k11 rfl (Reps.cons (show Rep s10.heap (.ref D) (.ref D) from rfl) (Reps.one r10))) ?_ (fun _ _ e => e.elim)
   rintro _ s12 ⟨_, K12, k12, _, kp12, rfl⟩
   refine ⟨as.length - (i + 1), by omega, i + 1, ρ10, rfl, by omega, ?_, (n10.trans n9).trans n5, f10⟩
   have htk : (((as.zip bs).take (i + 1)).map fun p => f p.1 p.2).map SV.int = (((as.zip bs).take i).map fun p => f p.1 p.2).map .int ++ [.int (f a b)] := by
    have hzip : (as.zip bs)[i]? = some (a, b) := List.getElem?_zip_eq_some.mpr ⟨ha, hb⟩
    rw [List.take_add_one, hzip]; simp
   rw [htk]
   exact k12.perm (perm_mid [_, _, _] [_] _)
  ·obtain rfl : i = as.length := by omega
   refine wpAny_pyNext_zip_end hh DD hz hTI hTO h1 h2 (isList_of e1) (isList_of e2) (.inl (Array.getElem?_eq_none (by omega))) fun h' hk => ?_
   have k6 : Kn c ([] ++ (FFr C ρc :: FList D ((((as.zip bs).take as.length).map fun p => f p.1 p.2).map .int) :: FFr env.locals ρ1 :: FSafe TO (FSnap s.heap :: R) :: Ku)) { s5 with heap := h' } :=
    k5.over (s' := { s5 with heap := h' }) (fs := []) hTO0 hTOi (fun c o hc hne e => hk c o (fun q => hc (by simp [FZip, q])) hne (fun q => hc (by simp [FZip, q])) (fun q => hc (by simp [FZip, q])) e) rfl k5.bare (by simp) (by simp) hovs
   rw [List.take_of_length_le (by rw [List.length_zip]; omega)] at k6
   have k7 : Kn c ((FSnap s.heap :: R) ++ (FFr C ρc :: FList D (((as.zip bs).map fun p => f p.1 p.2).map .int) :: FFr env.locals ρ1 :: Ku)) { s5 with heap := h' } :=
    (k6.perm (perm_mid [_, _, _] [_] Ku)).split2
   have kpE : Keep s.heap h' := k7.facts (FSnap s.heap) (by simp)
   have k8 : Kn c (FFr C ρc :: FList D (((as.zip bs).map fun p => f p.1 p.2).map .int) :: FFr env.locals ρ1 :: K) { s5 with heap := h' } := by
    refine Kn.perm (K := R ++ (FFr C ρc :: FList D (((as.zip bs).map fun p => f p.1 p.2).map .int) :: FFr env.locals ρ1 :: Ku)) (k7.sub (by rw [List.cons_append]; exact List.sublist_cons_self _ _)) ?_
    refine (perm_mid R [_, _, _] Ku).trans ?_
    refine List.Perm.append_left [_, _, _] ?_
    exact List.perm_append_comm.trans hperm.symm
   exact comp_end (Q := fun s' => Post Rep c env.locals (names ρ) s.heap Φ (.ref D) s') k8 fun s'' k'' kp'' => ⟨.ref D, ρ1, _, k'', n1, rfl, kpE.trans kp'', fin D⟩
 have k4 : Kn c (FZip z TI TO i1 i2 l1 l2 0 .none :: FFr C (xs0.map fun x => (x, none)) :: FList D [] :: FFr env.locals ρ1 :: FSafe TO (FSnap s.heap :: R) :: Ku) s3 := k3.perm (perm_mid [_, _, _] [_] _)
 show codeAny c.M A (.compStart (.ListComp elt [⟨target, iter, [], 0⟩] scope pos) 0 (.ref z) (.ref D) (compEnvC scope cl C env)) _ s3
 exact codeAny_compStart_list (loop s3 k4) (nope_any (wpAny_pyIter_zip (k4.facts _ List.mem_cons_self).2.1 (loop s3 k4)))
end
def OldL (c : Cx) (S : Addr) (ns : List Int) : Prop := ∃ vs : Array Value, c.h0.IsList S vs ∧ ∀ h, Reps h (ns.map .int) vs.toList
section
variable {c : Cx} {A : Around} {env : Env} {ρ : Loc} {K : List Fact} {Φ : SV → Loc → List Fact → Prop} {s : Shared}
theorem Kn.oldL (k : Kn c K s) {S : Addr} {ns : List Int} (h : OldL c S ns) : ∃ vs : Array Value, s.heap.IsList S vs ∧ Reps s.heap (ns.map .int) vs.toList := by
 obtain ⟨vs, ⟨o, e, hc, r⟩, q⟩ := h
 exact ⟨vs, ⟨o, k.old.get_of_cls e (by rw [hc]; nofun), hc, r⟩, q _⟩
theorem x_len_old {L S : Addr} {ns : List Int} (h : OldL c S ns) (hl : ns.length < 2 ^ 20) (hq : Φ (.int ns.length) ρ K) : TCall c A (FFr L ρ :: K) (.bi "len") [.ref S] (Fx L ρ Φ) := fun rm s fv vs k rf rs => by
 obtain rfl : fv = .builtin "len" := rf
 obtain ⟨v, ws, rfl, rfl, ht⟩ := rs.uncons
 obtain rfl : ws = [] := ht
 obtain ⟨us, e, r⟩ := k.oldL h
 have hlen : us.size = ns.length := by rw [← Array.length_toList, r.length, List.length_map]
 refine PySem.Calls.call_len_list e (by omega) ⟨.int ns.length, _, k.quiet (.toks ..), ?_, Keep.refl _, _, rfl, hq⟩
 rw [hlen]; exact ⟨_, rfl⟩
theorem i_intsOld {value slice : Expr} {ns : List Int} {b a : Addr} {lo hi st : Option Int} (hm : FSl3 a lo hi st ∈ K) (hb : OldL c b ns) (h0 : st ≠ some 0) (hl : ns.length < 2 ^ 20) (hq : ∀ d ms, Φ (.ref d) ρ (FList d (List.map SV.int ms) :: K))
  (hs : ∀ o u : Value, subscripted slice false o u = operate [o, u] (getItem o u) := by intros; with_unfolding_all rfl) : U2 Rep c A env ρ K (.ref b) (.ref a) (subscriptTail value slice) Φ := fun ok s v u k ra rb => by
 obtain rfl : v = .ref b := ra
 obtain rfl : u = .ref a := rb
 obtain ⟨o, ho, hc, l', u', w', e1, e2, e3, hd⟩ := k.ob (List.mem_cons_of_mem _ hm)
 obtain ⟨vs, e, r⟩ := k.oldL hb
 have hsz : vs.size = ns.length := by rw [← Array.length_toList]; simpa using r.length
 have hp : ∀ p : Option (Int × Tok), IsPart (partValue p) (p.map (·.1)) := fun p => by
  cases p with
  | none => exact .none
  | some q => exact .int q.1 q.2
 refine tail_any e.typeIs slot_list_getitem.lookup (wpAny_getItem_list_slice e ⟨o, ho, hc, hd⟩ (hp l') (hp u') (hp w') (by rw [e3]; exact h0) ?_ (by have : sizeLine = 2 ^ 24 := rfl; omega)) (hs _ _)
 have hall : ∀ v ∈ (slicePick vs (l'.map (·.1)) (u'.map (·.1)) (w'.map (·.1))).toList, ∃ i t, v = .int i t := by
  intro v hv
  unfold slicePick at hv
  simp only [List.mem_filterMap] at hv
  obtain ⟨i, _, hi⟩ := hv
  exact reps_ints r v (by rw [Array.mem_toList_iff]; exact Array.mem_of_getElem? hi)
 obtain ⟨ms, rm, _⟩ := ints_of (h := s.heap) hall
 exact ⟨.ref s.heap.objs.size, ρ, _, (k.listNew rm _ s.toks).swap, rfl, rfl, keep_push _ _, hq _ ms⟩
end
section
variable {c : Cx} {A : Around} {env : Env} {ρ1 : Loc} {K1 : List Fact} {scope : Scope} {cl : List (Str × Addr)} {xs0 : List Str} {target elt : Expr} {x : SV}
theorem CompI.someInts {α : Type} {Ψ : Addr → List SV → List Fact → Prop} (as : List α) (enc : α → SV) {T : Expr → Prop} {N K3 : List Fact} (hI : Itb c A T K1 K3 x (as.map enc) N) (hT : T target) (hN : ∀ g ∈ N, g ∈ K3) (hl : as.length < 2 ^ 20)
  (turn : ∀ C D G acc, ∀ a ∈ as, ∀ ρc, names ρc = xs0 → U1 RU c A (compEnvC scope cl C env) ρc (FList D acc :: FFr env.locals ρ1 :: G :: K3) (enc a) (assign target (compEnvC scope cl C env)) fun _ ρ2 K4 =>
   TE c A (compEnvC scope cl C env) ρ2 K4 (eval elt (compEnvC scope cl C env)) fun v _ K6 => (∃ i, v = .int i) ∧ Pick (FList D acc :: FFr env.locals ρ1 :: G :: K3) K6)
  (hq : ∀ D (ms : List Int), ms.length = as.length → Ψ D (ms.map .int) K3) : CompI c A env scope cl xs0 target elt [] ρ1 K1 x Ψ := by
 refine ⟨T, as.map enc, N, K3, fun r acc K2 => K2 = K3 ∧ ∃ t ms, r = t.map enc ∧ acc = (ms : List Int).map SV.int ∧ ms.length + t.length = as.length ∧ ∀ a ∈ t, a ∈ as, hI, hT, ⟨rfl, as, [], rfl, rfl, by simp, fun _ h => h⟩, fun r acc K2 ⟨e, _⟩ g hg => e ▸ hN g hg, ?_, ?_⟩
 ·rintro C D G y rest acc K2 ⟨rfl, t, ms, e1, rfl, hle, hm⟩ ρc hρ
  cases t with
  | nil => cases e1
  | cons a t =>
   obtain ⟨rfl, rfl⟩ : y = enc a ∧ rest = t.map enc := by simpa using e1
   have hle : ms.length + (t.length + 1) = as.length := hle
   intro ok s v k r
   refine wpAny_mono (turn C D G (ms.map .int) a (hm a List.mem_cons_self) ρc hρ ok s v k r) (fun u s' ⟨z, ρ2, K4, k4, n4, r4, kp4, q⟩ => ⟨z, ρ2, K4, k4, n4, r4, kp4, ?_⟩) fun _ _ e => e
   exact U0.mono q fun v _ K6 ⟨⟨i, hf⟩, hp⟩ => ⟨by rw [List.length_map]; omega, _, hp, rfl, t, ms ++ [i], rfl, by rw [hf]; simp, by simp; omega, fun b hb => hm b (List.mem_cons_of_mem _ hb)⟩
 ·rintro D acc K2 ⟨rfl, t, ms, e1, rfl, hle, hm⟩
  obtain rfl : t = [] := by simpa using e1.symm
  exact hq D ms (by simpa using hle)
theorem pairs_ints (i : Nat) : ∀ l : List Int, pairs i (l.map SV.int) = (l.zipIdx i).map fun p => SV.tup [.int (p.2 : Nat), .int p.1]
 | [] => rfl
 | n :: l => by
  rw [List.map_cons, pairs, List.zipIdx_cons, List.map_cons]
  congr 1
  exact pairs_ints (i + 1) l
end
theorem U0.val {α β : Type} {R : Heap → β → α → Prop} {c : Cx} {A : Around} {env : Env} {ρ : Loc} {K : List Fact} {Φ : β → Loc → List Fact → Prop} {t : Sem α} (x : β) (h : U0 R c A env ρ K t fun v ρ' K' => v = x ∧ ρ' = ρ ∧ K' = K) (h2 : Φ x ρ K) : U0 R c A env ρ K t Φ :=
 h.mono fun v ρ' K' ⟨e1, e2, e3⟩ => by subst e1 e2 e3; exact h2
theorem U0.stmt {α β : Type} {R : Heap → β → α → Prop} {c : Cx} {A : Around} {env : Env} {ρ : Loc} {K : List Fact} {Φ : β → Loc → List Fact → Prop} {t : Sem α} (x : β) (ρ2 : Loc) (K2 : List Fact) (h : U0 R c A env ρ K t fun v ρ' K' => v = x ∧ ρ' = ρ2 ∧ K' = K2) (h2 : Φ x ρ2 K2) : U0 R c A env ρ K t Φ :=
 h.mono fun v ρ' K' ⟨e1, e2, e3⟩ => by subst e1 e2 e3; exact h2
theorem S_merge {c : Cx} {A : Around} {env : Env} {ρ : Loc} {K : List Fact} {ΦS : SFl → Loc → List Fact → Prop} {t : Sem Flow} {rest : List Stmt} (ρ2 : Loc) (K2 : List Fact) (h : TS c A env ρ K t fun fl ρ' K' => fl = .next ∧ ρ' = ρ2 ∧ Pick K2 K') (h2 : TS c A env ρ2 K2 (execs rest env) ΦS) : TS c A env ρ K t (Then c A env rest ΦS) :=
 h.mono fun fl ρ' K' ⟨e1, e2, p⟩ => by subst e1 e2; exact Then.nx (U0.pick p h2)
theorem S_ForSame {c : Cx} {A : Around} {env : Env} {ρ : Loc} {K : List Fact} {ΦS : SFl → Loc → List Fact → Prop} {target iter : Expr} {body orelse : List Stmt} {pos : Pos} {α : Type} (hh : A.handled = none)
  (h : TE c A env ρ K (eval iter env) fun x ρ1 K1 => ∃ dl, ∃ (as : List α) (enc : α → SV) (J : Loc → Prop), x = .ref dl ∧ FList dl (as.map enc) ∈ K1 ∧ J ρ1 ∧
   (∀ F ρ2, J ρ2 → names ρ2 = names ρ → ∀ a ∈ as, U1 RU c A env ρ2 (F :: K1) (enc a) (assign target env) fun _ ρ3 K4 => TS c A env ρ3 K4 (execs body env) (TurnI F (fun _ ρ K5 => K5 = K1 ∧ J ρ) [] ΦS)) ∧
   (∀ ρ2, J ρ2 → names ρ2 = names ρ → TS c A env ρ2 K1 (execs orelse env) ΦS))
  (hs : ∀ x, foldedSetIterable iter env x = pure x := by intro _; rfl) : TS c A env ρ K (exec (.For target iter body orelse pos) env) ΦS := by
 refine S_ForI (U0.mono h fun x ρ1 K1 ⟨dl, as, enc, J, hx, hm, hJ, turn, fin⟩ => ?_) hs
 subst hx
 refine ⟨_, _, _, _, fun rest ρ2 K2 => K2 = K1 ∧ J ρ2 ∧ ∃ t : List α, rest = t.map enc ∧ ∀ a ∈ t, a ∈ as, Itb.list hh hm, trivial, ⟨rfl, hJ, as, rfl, fun _ h => h⟩, ?_, ?_, ?_⟩
 ·rintro xs ρ2 K2 ⟨rfl, _⟩ f hf
  obtain rfl := List.mem_singleton.mp hf
  exact hm
 ·rintro F x rest ρ2 K2 ⟨rfl, hJ2, t, ht, hmem⟩ hn
  cases t with
  | nil => cases ht
  | cons a t =>
   obtain ⟨rfl, rfl⟩ := List.cons.inj ht
   intro ok s v k r
   refine wpAny_mono (turn F ρ2 hJ2 hn a (hmem a List.mem_cons_self) ok s v k r) (fun u s' ⟨z, ρ3, K4, k4, n4, r4, kp4, q⟩ => ⟨z, ρ3, K4, k4, n4, r4, kp4, U0.mono q fun fl ρ4 K5 hq => ?_⟩) fun _ _ e => e
   have hm2 : ∀ b ∈ t, b ∈ as := fun b hb => hmem b (List.mem_cons_of_mem _ hb)
   cases fl with
   | next => obtain ⟨K6, p, e, j⟩ := hq; exact ⟨K6, p, e, j, t, rfl, hm2⟩
   | cont => obtain ⟨K6, p, e, j⟩ := hq; exact ⟨K6, p, e, j, t, rfl, hm2⟩
   | brk => exact hq
   | ret v => exact hq
 ·rintro ρ2 K2 ⟨rfl, hJ2, _⟩ hn
  exact fin ρ2 hJ2 hn
end Mine
end
noncomputable section
open PySem PySem.W PyProof.Rows
namespace Mine
abbrev PR : Program := PySem.Challenge.pw_uc0048_02
def st (i : Nat) : Stmt := (PR.main.body[i]?).getD (.Pass default)
def mt (i j : Nat) : Stmt := match st i with
 | .ClassDef _ _ _ b _ _ _ _ _ _ _ => (b[j]?).getD (.Pass default)
 | _ => .Pass default
def fd (s : Stmt) (qual : Str) (g : Addr) (pm code : Value) (bi : Addr) : FuncData := match s with
 | .FunctionDef n a b _ _ _ sc _ _ _ => { name := n, qualname := qual, params := a, body := .stmts b, scope := sc, globals := g, closure := [], defaults := .none, kwdefaults := .none, doc := .none, pyModule := pm, annotations := none, code := code, closureTuple := .none, builtins := bi }
 | _ => default
def oT (l : List Value) : Obj := ⟨.type "tuple", none, .seq l.toArray 0, #[]⟩
def oC (l : List Value) : Obj := ⟨.type "code", none, .fields l.toArray, #[]⟩
def oF (l : List Value) : Obj := ⟨.none, none, .fields l.toArray, #[]⟩
abbrev N := @BT.node
abbrev Z := BT.nil
def en (P : Params) (x : Str) (t : Tok) (v : Value) : DictEntry := ⟨PyData.keyHash P x, .str x t, v⟩
def envE : Env := { scope := PR.main.scope, locals := mainNs, globals := mainNs, cells := [], code := .ref 13, frame := some 14 }
def cE : Code := .body (behindTheImports PR) envE
def q0 : Pos := ⟨0, 0, 0, 0⟩
abbrev B0 : List Frame := [topFrame q0]
def o11 (P : Params) : Obj := oT []
def o12 (P : Params) : Obj := oF []
def o13 (P : Params) : Obj := oC [(.str "<module>" 182), (.str "<module>" 183), (.str "/claim/cut.py" 184), (.int 1 0), (.int 0 0), (.int 0 0), (.int 0 0), (.int 0 0), (.ref 11), (.bool false), (.int 181 0), (.ref 12), .none, .none, .none, .none, (.int 185 0), (.int 1 0), (.str "/claim/cut.py" 186)]
def o14 (P : Params) : Obj := ⟨(.type "frame"), none, .plain, #[some (.ref 13), some (.ref 3), some (.ref 3), none, some (.str "__main__" 164), none, some (.ref 0)]⟩
def T0 (P : Params) : BT := (N (boot_o_0 P) (N (boot_o_1 P) (N (boot_o_3 P) (N (boot_o_7 P) Z Z) (N (o11 P) Z Z)) (N (boot_o_5 P) (N (boot_o_9 P) Z Z) (N (o13 P) Z Z))) (N (boot_o_2 P) (N (boot_o_4 P) (N (boot_o_8 P) Z Z) (N (o12 P) Z Z)) (N (boot_o_6 P) (N (boot_o_10 P) Z Z) (N (o14 P) Z Z))))
def o3_1 (P : Params) : Obj := ⟨(.type "dict"), none, (.dict [en P "__name__" 165 (.str "cpy313._pylong" 187), en P "__doc__" 166 .none, en P "__package__" 167 .none, en P "__loader__" 168 (.builtin "__main__.__loader__#opaque"), en P "__spec__" 169 .none, en P "__annotations__" 170 (.ref 6), en P "__builtins__" 171 (.ref 4), en P "__file__" 173 (.str "/claim/cut.py" 172), en P "__cached__" 174 .none, en P "_DIV_LIMIT" 190 (.int 4000 189), en P "_div2n1n" 207 (.ref 21), en P "_div3n2n" 221 (.ref 28), en P "_int2digits" 232 (.ref 35), en P "_digits2int" 243 (.ref 42), en P "_divmod_pos" 258 (.ref 49), en P "int_divmod" 268 (.ref 56)].toArray 16), #[]⟩
def o12_1 (P : Params) : Obj := oF [(.int 3 0), (.int 0 0), (.ref 20), (.int 19 0), (.int 0 0), (.ref 27), (.int 29 0), (.int 0 0), (.ref 34), (.int 45 0), (.int 0 0), (.ref 41), (.int 54 0), (.int 0 0), (.ref 48), (.int 65 0), (.int 0 0), (.ref 55)]
def o15 (P : Params) : Obj := oT []
def o16 (P : Params) : Obj := oF []
def o17 (P : Params) : Obj := oT [(.str "a" 194), (.str "b" 195), (.str "n" 196), (.str "pad" 197), (.str "half_n" 198), (.str "mask" 199), (.str "b1" 200), (.str "b2" 201), (.str "q1" 202), (.str "r" 203), (.str "q2" 204)]
def o18 (P : Params) : Obj := oT []
def o19 (P : Params) : Obj := ⟨.none, none, (.func (fd (st 2) "_div2n1n" 0 .none .none 0)), #[]⟩
def o20 (P : Params) : Obj := oC [(.str "_div2n1n" 191), (.str "_div2n1n" 192), (.str "/claim/cut.py" 193), (.int 3 0), (.int 3 0), (.int 0 0), (.int 0 0), (.int 3 0), (.ref 15), (.bool true), (.int 181 0), (.ref 16), .none, (.ref 17), (.ref 18), (.ref 19), (.int 205 0), (.int 3 0), (.str "/claim/cut.py" 206)]
def o21 (P : Params) : Obj := ⟨(.type "function"), none, (.func (fd (st 2) "_div2n1n" 3 (.str "cpy313._pylong" 187) (.ref 20) 0)), #[]⟩
def o22 (P : Params) : Obj := oT []
def o23 (P : Params) : Obj := oF []
def o24 (P : Params) : Obj := oT [(.str "a12" 211), (.str "a3" 212), (.str "b" 213), (.str "b1" 214), (.str "b2" 215), (.str "n" 216), (.str "q" 217), (.str "r" 218)]
def o25 (P : Params) : Obj := oT []
def o26 (P : Params) : Obj := ⟨.none, none, (.func (fd (st 3) "_div3n2n" 0 .none .none 0)), #[]⟩
def o27 (P : Params) : Obj := oC [(.str "_div3n2n" 208), (.str "_div3n2n" 209), (.str "/claim/cut.py" 210), (.int 19 0), (.int 6 0), (.int 0 0), (.int 0 0), (.int 3 0), (.ref 22), (.bool true), (.int 181 0), (.ref 23), .none, (.ref 24), (.ref 25), (.ref 26), (.int 219 0), (.int 19 0), (.str "/claim/cut.py" 220)]
def o28 (P : Params) : Obj := ⟨(.type "function"), none, (.func (fd (st 3) "_div3n2n" 3 (.str "cpy313._pylong" 187) (.ref 27) 0)), #[]⟩
def o29 (P : Params) : Obj := oT []
def o30 (P : Params) : Obj := oF []
def o31 (P : Params) : Obj := oT [(.str "a" 225), (.str "n" 226)]
def o32 (P : Params) : Obj := oT [(.str "n" 227), (.str "a_digits" 228), (.str "inner" 229)]
def o33 (P : Params) : Obj := ⟨.none, none, (.func (fd (st 4) "_int2digits" 0 .none .none 0)), #[]⟩
def o34 (P : Params) : Obj := oC [(.str "_int2digits" 222), (.str "_int2digits" 223), (.str "/claim/cut.py" 224), (.int 29 0), (.int 2 0), (.int 0 0), (.int 0 0), (.int 3 0), (.ref 29), (.bool true), (.int 181 0), (.ref 30), .none, (.ref 31), (.ref 32), (.ref 33), (.int 230 0), (.int 29 0), (.str "/claim/cut.py" 231)]
def o35 (P : Params) : Obj := ⟨(.type "function"), none, (.func (fd (st 4) "_int2digits" 3 (.str "cpy313._pylong" 187) (.ref 34) 0)), #[]⟩
def o36 (P : Params) : Obj := oT []
def o37 (P : Params) : Obj := oF []
def o38 (P : Params) : Obj := oT [(.str "digits" 236), (.str "n" 237)]
def o39 (P : Params) : Obj := oT [(.str "digits" 238), (.str "n" 239), (.str "inner" 240)]
def o40 (P : Params) : Obj := ⟨.none, none, (.func (fd (st 5) "_digits2int" 0 .none .none 0)), #[]⟩
def o41 (P : Params) : Obj := oC [(.str "_digits2int" 233), (.str "_digits2int" 234), (.str "/claim/cut.py" 235), (.int 45 0), (.int 2 0), (.int 0 0), (.int 0 0), (.int 3 0), (.ref 36), (.bool true), (.int 181 0), (.ref 37), .none, (.ref 38), (.ref 39), (.ref 40), (.int 241 0), (.int 45 0), (.str "/claim/cut.py" 242)]
def o42 (P : Params) : Obj := ⟨(.type "function"), none, (.func (fd (st 5) "_digits2int" 3 (.str "cpy313._pylong" 187) (.ref 41) 0)), #[]⟩
def o43 (P : Params) : Obj := oT []
def o44 (P : Params) : Obj := oF []
def o45 (P : Params) : Obj := oT [(.str "a" 247), (.str "b" 248), (.str "n" 249), (.str "a_digits" 250), (.str "r" 251), (.str "q_digits" 252), (.str "a_digit" 253), (.str "q_digit" 254), (.str "q" 255)]
def o46 (P : Params) : Obj := oT []
def o47 (P : Params) : Obj := ⟨.none, none, (.func (fd (st 6) "_divmod_pos" 0 .none .none 0)), #[]⟩
def o48 (P : Params) : Obj := oC [(.str "_divmod_pos" 244), (.str "_divmod_pos" 245), (.str "/claim/cut.py" 246), (.int 54 0), (.int 2 0), (.int 0 0), (.int 0 0), (.int 3 0), (.ref 43), (.bool true), (.int 181 0), (.ref 44), .none, (.ref 45), (.ref 46), (.ref 47), (.int 256 0), (.int 54 0), (.str "/claim/cut.py" 257)]
def o49 (P : Params) : Obj := ⟨(.type "function"), none, (.func (fd (st 6) "_divmod_pos" 3 (.str "cpy313._pylong" 187) (.ref 48) 0)), #[]⟩
def o50 (P : Params) : Obj := oT []
def o51 (P : Params) : Obj := oF []
def o52 (P : Params) : Obj := oT [(.str "a" 262), (.str "b" 263), (.str "q" 264), (.str "r" 265)]
def o53 (P : Params) : Obj := oT []
def o54 (P : Params) : Obj := ⟨.none, none, (.func (fd (st 7) "int_divmod" 0 .none .none 0)), #[]⟩
def o55 (P : Params) : Obj := oC [(.str "int_divmod" 259), (.str "int_divmod" 260), (.str "/claim/cut.py" 261), (.int 65 0), (.int 2 0), (.int 0 0), (.int 0 0), (.int 3 0), (.ref 50), (.bool true), (.int 181 0), (.ref 51), .none, (.ref 52), (.ref 53), (.ref 54), (.int 266 0), (.int 65 0), (.str "/claim/cut.py" 267)]
def o56 (P : Params) : Obj := ⟨(.type "function"), none, (.func (fd (st 7) "int_divmod" 3 (.str "cpy313._pylong" 187) (.ref 55) 0)), #[]⟩
def T1 (P : Params) : BT := (N (boot_o_0 P) (N (boot_o_1 P) (N (o3_1 P) (N (boot_o_7 P) (N (o15 P) (N (o31 P) Z Z) (N (o47 P) Z Z)) (N (o23 P) (N (o39 P) Z Z) (N (o55 P) Z Z))) (N (o11 P) (N (o19 P) (N (o35 P) Z Z) (N (o51 P) Z Z)) (N (o27 P) (N (o43 P) Z Z) Z))) (N (boot_o_5 P) (N (boot_o_9 P) (N (o17 P) (N (o33 P) Z Z) (N (o49 P) Z Z)) (N (o25 P) (N (o41 P) Z Z) Z)) (N (o13 P) (N (o21 P) (N (o37 P) Z Z) (N (o53 P) Z Z)) (N (o29 P) (N (o45 P) Z Z) Z)))) (N (boot_o_2 P) (N (boot_o_4 P) (N (boot_o_8 P) (N (o16 P) (N (o32 P) Z Z) (N (o48 P) Z Z)) (N (o24 P) (N (o40 P) Z Z) (N (o56 P) Z Z))) (N (o12_1 P) (N (o20 P) (N (o36 P) Z Z) (N (o52 P) Z Z)) (N (o28 P) (N (o44 P) Z Z) Z))) (N (boot_o_6 P) (N (boot_o_10 P) (N (o18 P) (N (o34 P) Z Z) (N (o50 P) Z Z)) (N (o26 P) (N (o42 P) Z Z) Z)) (N (o14 P) (N (o22 P) (N (o38 P) Z Z) (N (o54 P) Z Z)) (N (o30 P) (N (o46 P) Z Z) Z)))))
def o3_2 (P : Params) : Obj := ⟨(.type "dict"), none, (.dict [en P "__name__" 165 (.str "cpy313.email.utils" 269), en P "__doc__" 166 .none, en P "__package__" 167 .none, en P "__loader__" 168 (.builtin "__main__.__loader__#opaque"), en P "__spec__" 169 .none, en P "__annotations__" 170 (.ref 6), en P "__builtins__" 171 (.ref 4), en P "__file__" 173 (.str "/claim/cut.py" 172), en P "__cached__" 174 .none, en P "_DIV_LIMIT" 190 (.int 4000 189), en P "_div2n1n" 207 (.ref 21), en P "_div3n2n" 221 (.ref 28), en P "_int2digits" 232 (.ref 35), en P "_digits2int" 243 (.ref 42), en P "_divmod_pos" 258 (.ref 49), en P "int_divmod" 268 (.ref 56), en P "_iter_escaped_chars" 280 (.ref 63), en P "_strip_quoted_realnames" 292 (.ref 70), en P "_check_parenthesis" 302 (.ref 77)].toArray 19), #[]⟩
def o12_2 (P : Params) : Obj := oF [(.int 3 0), (.int 0 0), (.ref 20), (.int 19 0), (.int 0 0), (.ref 27), (.int 29 0), (.int 0 0), (.ref 34), (.int 45 0), (.int 0 0), (.ref 41), (.int 54 0), (.int 0 0), (.ref 48), (.int 65 0), (.int 0 0), (.ref 55), (.int 77 0), (.int 0 0), (.ref 62), (.int 90 0), (.int 0 0), (.ref 69), (.int 108 0), (.int 0 0), (.ref 76)]
def o57 (P : Params) : Obj := oT []
def o58 (P : Params) : Obj := oF []
def o59 (P : Params) : Obj := oT [(.str "addr" 274), (.str "pos" 275), (.str "escape" 276), (.str "ch" 277)]
def o60 (P : Params) : Obj := oT []
def o61 (P : Params) : Obj := ⟨.none, none, (.func (fd (st 9) "_iter_escaped_chars" 0 .none .none 0)), #[]⟩
def o62 (P : Params) : Obj := oC [(.str "_iter_escaped_chars" 271), (.str "_iter_escaped_chars" 272), (.str "/claim/cut.py" 273), (.int 77 0), (.int 1 0), (.int 0 0), (.int 0 0), (.int 35 0), (.ref 57), (.bool true), (.int 181 0), (.ref 58), .none, (.ref 59), (.ref 60), (.ref 61), (.int 278 0), (.int 77 0), (.str "/claim/cut.py" 279)]
def o63 (P : Params) : Obj := ⟨(.type "function"), none, (.func (fd (st 9) "_iter_escaped_chars" 3 (.str "cpy313.email.utils" 269) (.ref 62) 0)), #[]⟩
def o64 (P : Params) : Obj := oT []
def o65 (P : Params) : Obj := oF []
def o66 (P : Params) : Obj := oT [(.str "addr" 284), (.str "start" 285), (.str "open_pos" 286), (.str "result" 287), (.str "pos" 288), (.str "ch" 289)]
def o67 (P : Params) : Obj := oT []
def o68 (P : Params) : Obj := ⟨.none, none, (.func (fd (st 10) "_strip_quoted_realnames" 0 .none .none 0)), #[]⟩
def o69 (P : Params) : Obj := oC [(.str "_strip_quoted_realnames" 281), (.str "_strip_quoted_realnames" 282), (.str "/claim/cut.py" 283), (.int 90 0), (.int 1 0), (.int 0 0), (.int 0 0), (.int 3 0), (.ref 64), (.bool true), (.int 181 0), (.ref 65), .none, (.ref 66), (.ref 67), (.ref 68), (.int 290 0), (.int 90 0), (.str "/claim/cut.py" 291)]
def o70 (P : Params) : Obj := ⟨(.type "function"), none, (.func (fd (st 10) "_strip_quoted_realnames" 3 (.str "cpy313.email.utils" 269) (.ref 69) 0)), #[]⟩
def o71 (P : Params) : Obj := oT []
def o72 (P : Params) : Obj := oF []
def o73 (P : Params) : Obj := oT [(.str "addr" 296), (.str "opens" 297), (.str "pos" 298), (.str "ch" 299)]
def o74 (P : Params) : Obj := oT []
def o75 (P : Params) : Obj := ⟨.none, none, (.func (fd (st 11) "_check_parenthesis" 0 .none .none 0)), #[]⟩
def o76 (P : Params) : Obj := oC [(.str "_check_parenthesis" 293), (.str "_check_parenthesis" 294), (.str "/claim/cut.py" 295), (.int 108 0), (.int 1 0), (.int 0 0), (.int 0 0), (.int 3 0), (.ref 71), (.bool true), (.int 181 0), (.ref 72), .none, (.ref 73), (.ref 74), (.ref 75), (.int 300 0), (.int 108 0), (.str "/claim/cut.py" 301)]
def o77 (P : Params) : Obj := ⟨(.type "function"), none, (.func (fd (st 11) "_check_parenthesis" 3 (.str "cpy313.email.utils" 269) (.ref 76) 0)), #[]⟩
def T2 (P : Params) : BT := (N (boot_o_0 P) (N (boot_o_1 P) (N (o3_2 P) (N (boot_o_7 P) (N (o15 P) (N (o31 P) (N (o63 P) Z Z) Z) (N (o47 P) Z Z)) (N (o23 P) (N (o39 P) (N (o71 P) Z Z) Z) (N (o55 P) Z Z))) (N (o11 P) (N (o19 P) (N (o35 P) (N (o67 P) Z Z) Z) (N (o51 P) Z Z)) (N (o27 P) (N (o43 P) (N (o75 P) Z Z) Z) (N (o59 P) Z Z)))) (N (boot_o_5 P) (N (boot_o_9 P) (N (o17 P) (N (o33 P) (N (o65 P) Z Z) Z) (N (o49 P) Z Z)) (N (o25 P) (N (o41 P) (N (o73 P) Z Z) Z) (N (o57 P) Z Z))) (N (o13 P) (N (o21 P) (N (o37 P) (N (o69 P) Z Z) Z) (N (o53 P) Z Z)) (N (o29 P) (N (o45 P) (N (o77 P) Z Z) Z) (N (o61 P) Z Z))))) (N (boot_o_2 P) (N (boot_o_4 P) (N (boot_o_8 P) (N (o16 P) (N (o32 P) (N (o64 P) Z Z) Z) (N (o48 P) Z Z)) (N (o24 P) (N (o40 P) (N (o72 P) Z Z) Z) (N (o56 P) Z Z))) (N (o12_2 P) (N (o20 P) (N (o36 P) (N (o68 P) Z Z) Z) (N (o52 P) Z Z)) (N (o28 P) (N (o44 P) (N (o76 P) Z Z) Z) (N (o60 P) Z Z)))) (N (boot_o_6 P) (N (boot_o_10 P) (N (o18 P) (N (o34 P) (N (o66 P) Z Z) Z) (N (o50 P) Z Z)) (N (o26 P) (N (o42 P) (N (o74 P) Z Z) Z) (N (o58 P) Z Z))) (N (o14 P) (N (o22 P) (N (o38 P) (N (o70 P) Z Z) Z) (N (o54 P) Z Z)) (N (o30 P) (N (o46 P) Z Z) (N (o62 P) Z Z))))))
def o3_3 (P : Params) : Obj := ⟨(.type "dict"), none, (.dict [en P "__name__" 165 (.str "cpy313.netrc" 303), en P "__doc__" 166 .none, en P "__package__" 167 .none, en P "__loader__" 168 (.builtin "__main__.__loader__#opaque"), en P "__spec__" 169 .none, en P "__annotations__" 170 (.ref 6), en P "__builtins__" 171 (.ref 4), en P "__file__" 173 (.str "/claim/cut.py" 172), en P "__cached__" 174 .none, en P "_DIV_LIMIT" 190 (.int 4000 189), en P "_div2n1n" 207 (.ref 21), en P "_div3n2n" 221 (.ref 28), en P "_int2digits" 232 (.ref 35), en P "_digits2int" 243 (.ref 42), en P "_divmod_pos" 258 (.ref 49), en P "int_divmod" 268 (.ref 56), en P "_iter_escaped_chars" 280 (.ref 63), en P "_strip_quoted_realnames" 292 (.ref 70), en P "_check_parenthesis" 302 (.ref 77), en P "_netrclex" 362 (.ref 115)].toArray 20), #[]⟩
def o12_3 (P : Params) : Obj := oF [(.int 3 0), (.int 0 0), (.ref 20), (.int 19 0), (.int 0 0), (.ref 27), (.int 29 0), (.int 0 0), (.ref 34), (.int 45 0), (.int 0 0), (.ref 41), (.int 54 0), (.int 0 0), (.ref 48), (.int 65 0), (.int 0 0), (.ref 55), (.int 77 0), (.int 0 0), (.ref 62), (.int 90 0), (.int 0 0), (.ref 69), (.int 108 0), (.int 0 0), (.ref 76), (.int 120 0), (.int 0 0), (.ref 83)]
def o78 (P : Params) : Obj := oT []
def o79 (P : Params) : Obj := ⟨(.type "builtin_function_or_method"), none, (.fields [(.builtin "type.__prepare__"), (.type "type")].toArray), #[]⟩
def o80 (P : Params) : Obj := ⟨(.type "dict"), none, (.dict [en P "__module__" 312 (.str "cpy313.netrc" 303), en P "__qualname__" 314 (.str "_netrclex" 313), en P "__firstlineno__" 316 (.int 120 315), en P "__init__" 324 (.ref 91), en P "_read_char" 332 (.ref 98), en P "get_token" 342 (.ref 105), en P "push_token" 350 (.ref 112), en P "__static_attributes__" 355 (.ref 113)].toArray 8), #[]⟩
def o81 (P : Params) : Obj := oT []
def o82 (P : Params) : Obj := oF [(.int 122 0), (.int 4 0), (.ref 90), (.int 128 0), (.int 4 0), (.ref 97), (.int 134 0), (.int 4 0), (.ref 104), (.int 161 0), (.int 4 0), (.ref 111)]
def o83 (P : Params) : Obj := oC [(.str "_netrclex" 307), (.str "_netrclex" 308), (.str "/claim/cut.py" 309), (.int 120 0), (.int 0 0), (.int 0 0), (.int 0 0), (.int 0 0), (.ref 81), (.bool false), (.int 181 0), (.ref 82), .none, .none, .none, .none, (.int 310 0), (.int 120 0), (.str "/claim/cut.py" 311)]
def o84 (P : Params) : Obj := ⟨(.type "frame"), none, .plain, #[some (.ref 83), some (.ref 3), some (.ref 80), none, some (.str "cpy313.netrc" 303), none, some (.ref 0)]⟩
def o85 (P : Params) : Obj := oT []
def o86 (P : Params) : Obj := oF []
def o87 (P : Params) : Obj := oT [(.str "self" 320), (.str "fp" 321)]
def o88 (P : Params) : Obj := oT []
def o89 (P : Params) : Obj := ⟨.none, none, (.func (fd (mt 13 0) "_netrclex.__init__" 0 .none .none 0)), #[]⟩
def o90 (P : Params) : Obj := oC [(.str "__init__" 317), (.str "_netrclex.__init__" 318), (.str "/claim/cut.py" 319), (.int 122 0), (.int 2 0), (.int 0 0), (.int 0 0), (.int 3 0), (.ref 85), (.bool true), (.int 181 0), (.ref 86), .none, (.ref 87), (.ref 88), (.ref 89), (.int 322 0), (.int 122 0), (.str "/claim/cut.py" 323)]
def o91 (P : Params) : Obj := ⟨(.type "function"), none, (.func (fd (mt 13 0) "_netrclex.__init__" 3 (.str "cpy313.netrc" 303) (.ref 90) 0)), #[]⟩
def o92 (P : Params) : Obj := oT []
def o93 (P : Params) : Obj := oF []
def o94 (P : Params) : Obj := oT [(.str "self" 328), (.str "ch" 329)]
def o95 (P : Params) : Obj := oT []
def o96 (P : Params) : Obj := ⟨.none, none, (.func (fd (mt 13 1) "_netrclex._read_char" 0 .none .none 0)), #[]⟩
def o97 (P : Params) : Obj := oC [(.str "_read_char" 325), (.str "_netrclex._read_char" 326), (.str "/claim/cut.py" 327), (.int 128 0), (.int 1 0), (.int 0 0), (.int 0 0), (.int 3 0), (.ref 92), (.bool true), (.int 181 0), (.ref 93), .none, (.ref 94), (.ref 95), (.ref 96), (.int 330 0), (.int 128 0), (.str "/claim/cut.py" 331)]
def o98 (P : Params) : Obj := ⟨(.type "function"), none, (.func (fd (mt 13 1) "_netrclex._read_char" 3 (.str "cpy313.netrc" 303) (.ref 97) 0)), #[]⟩
def o99 (P : Params) : Obj := oT []
def o100 (P : Params) : Obj := oF []
def o101 (P : Params) : Obj := oT [(.str "self" 336), (.str "token" 337), (.str "fiter" 338), (.str "ch" 339)]
def o102 (P : Params) : Obj := oT []
def o103 (P : Params) : Obj := ⟨.none, none, (.func (fd (mt 13 2) "_netrclex.get_token" 0 .none .none 0)), #[]⟩
def o104 (P : Params) : Obj := oC [(.str "get_token" 333), (.str "_netrclex.get_token" 334), (.str "/claim/cut.py" 335), (.int 134 0), (.int 1 0), (.int 0 0), (.int 0 0), (.int 3 0), (.ref 99), (.bool true), (.int 181 0), (.ref 100), .none, (.ref 101), (.ref 102), (.ref 103), (.int 340 0), (.int 134 0), (.str "/claim/cut.py" 341)]
def o105 (P : Params) : Obj := ⟨(.type "function"), none, (.func (fd (mt 13 2) "_netrclex.get_token" 3 (.str "cpy313.netrc" 303) (.ref 104) 0)), #[]⟩
def o106 (P : Params) : Obj := oT []
def o107 (P : Params) : Obj := oF []
def o108 (P : Params) : Obj := oT [(.str "self" 346), (.str "token" 347)]
def o109 (P : Params) : Obj := oT []
def o110 (P : Params) : Obj := ⟨.none, none, (.func (fd (mt 13 3) "_netrclex.push_token" 0 .none .none 0)), #[]⟩
def o111 (P : Params) : Obj := oC [(.str "push_token" 343), (.str "_netrclex.push_token" 344), (.str "/claim/cut.py" 345), (.int 161 0), (.int 2 0), (.int 0 0), (.int 0 0), (.int 3 0), (.ref 106), (.bool true), (.int 181 0), (.ref 107), .none, (.ref 108), (.ref 109), (.ref 110), (.int 348 0), (.int 161 0), (.str "/claim/cut.py" 349)]
def o112 (P : Params) : Obj := ⟨(.type "function"), none, (.func (fd (mt 13 3) "_netrclex.push_token" 3 (.str "cpy313.netrc" 303) (.ref 111) 0)), #[]⟩
def o113 (P : Params) : Obj := oT [(.str "instream" 351), (.str "lineno" 352), (.str "pushback" 353), (.str "whitespace" 354)]
def o114 (P : Params) : Obj := ⟨(.type "dict"), none, (.dict [en P "__module__" 312 (.str "cpy313.netrc" 303), en P "__firstlineno__" 316 (.int 120 315), en P "__init__" 324 (.ref 91), en P "_read_char" 332 (.ref 98), en P "get_token" 342 (.ref 105), en P "push_token" 350 (.ref 112), en P "__static_attributes__" 355 (.ref 113), en P "__dict__" 357 (.ref 116), en P "__weakref__" 359 (.ref 117), en P "__doc__" 360 .none].toArray 4), #[]⟩
def o115 (P : Params) : Obj := ⟨(.type "type"), none, (.cls ⟨"_netrclex", [(.type "object")], [(.ref 115), (.type "object")], 114, "_netrclex", true, [], [], false, none, false⟩), #[none, none, some (.str "_netrclex" 305), some (.str "_netrclex" 313), some (.builtin "object.__new__"), some (.bool true)]⟩
def o116 (P : Params) : Obj := ⟨(.type "getset_descriptor"), none, (.fields [(.str "__dict__" 356), (.ref 115), (.builtin "function.__dict__"), (.builtin "function.__dict__#set")].toArray), #[]⟩
def o117 (P : Params) : Obj := ⟨(.type "getset_descriptor"), none, (.fields [(.str "__weakref__" 358), (.ref 115), (.builtin "ExceptionGroup.__weakref__"), .none].toArray), #[]⟩
def o118 (P : Params) : Obj := ⟨(.type "super"), none, (.fields [(.ref 115), (.ref 115), (.ref 115)].toArray), #[]⟩
def o119 (P : Params) : Obj := ⟨(.type "builtin_function_or_method"), none, (.fields [(.builtin "object.__init_subclass__"), (.ref 115)].toArray), #[]⟩
def T3 (P : Params) : BT := (N (boot_o_0 P) (N (boot_o_1 P) (N (o3_3 P) (N (boot_o_7 P) (N (o15 P) (N (o31 P) (N (o63 P) Z Z) (N (o95 P) Z Z)) (N (o47 P) (N (o79 P) Z Z) (N (o111 P) Z Z))) (N (o23 P) (N (o39 P) (N (o71 P) Z Z) (N (o103 P) Z Z)) (N (o55 P) (N (o87 P) Z Z) (N (o119 P) Z Z)))) (N (o11 P) (N (o19 P) (N (o35 P) (N (o67 P) Z Z) (N (o99 P) Z Z)) (N (o51 P) (N (o83 P) Z Z) (N (o115 P) Z Z))) (N (o27 P) (N (o43 P) (N (o75 P) Z Z) (N (o107 P) Z Z)) (N (o59 P) (N (o91 P) Z Z) Z)))) (N (boot_o_5 P) (N (boot_o_9 P) (N (o17 P) (N (o33 P) (N (o65 P) Z Z) (N (o97 P) Z Z)) (N (o49 P) (N (o81 P) Z Z) (N (o113 P) Z Z))) (N (o25 P) (N (o41 P) (N (o73 P) Z Z) (N (o105 P) Z Z)) (N (o57 P) (N (o89 P) Z Z) Z))) (N (o13 P) (N (o21 P) (N (o37 P) (N (o69 P) Z Z) (N (o101 P) Z Z)) (N (o53 P) (N (o85 P) Z Z) (N (o117 P) Z Z))) (N (o29 P) (N (o45 P) (N (o77 P) Z Z) (N (o109 P) Z Z)) (N (o61 P) (N (o93 P) Z Z) Z))))) (N (boot_o_2 P) (N (boot_o_4 P) (N (boot_o_8 P) (N (o16 P) (N (o32 P) (N (o64 P) Z Z) (N (o96 P) Z Z)) (N (o48 P) (N (o80 P) Z Z) (N (o112 P) Z Z))) (N (o24 P) (N (o40 P) (N (o72 P) Z Z) (N (o104 P) Z Z)) (N (o56 P) (N (o88 P) Z Z) Z))) (N (o12_3 P) (N (o20 P) (N (o36 P) (N (o68 P) Z Z) (N (o100 P) Z Z)) (N (o52 P) (N (o84 P) Z Z) (N (o116 P) Z Z))) (N (o28 P) (N (o44 P) (N (o76 P) Z Z) (N (o108 P) Z Z)) (N (o60 P) (N (o92 P) Z Z) Z)))) (N (boot_o_6 P) (N (boot_o_10 P) (N (o18 P) (N (o34 P) (N (o66 P) Z Z) (N (o98 P) Z Z)) (N (o50 P) (N (o82 P) Z Z) (N (o114 P) Z Z))) (N (o26 P) (N (o42 P) (N (o74 P) Z Z) (N (o106 P) Z Z)) (N (o58 P) (N (o90 P) Z Z) Z))) (N (o14 P) (N (o22 P) (N (o38 P) (N (o70 P) Z Z) (N (o102 P) Z Z)) (N (o54 P) (N (o86 P) Z Z) (N (o118 P) Z Z))) (N (o30 P) (N (o46 P) (N (o78 P) Z Z) (N (o110 P) Z Z)) (N (o62 P) (N (o94 P) Z Z) Z))))))
def o3_4 (P : Params) : Obj := ⟨(.type "dict"), none, (.dict [en P "__name__" 165 (.str "cpy313.stringprep" 363), en P "__doc__" 166 .none, en P "__package__" 167 .none, en P "__loader__" 168 (.builtin "__main__.__loader__#opaque"), en P "__spec__" 169 .none, en P "__annotations__" 170 (.ref 6), en P "__builtins__" 171 (.ref 4), en P "__file__" 173 (.str "/claim/cut.py" 172), en P "__cached__" 174 .none, en P "_DIV_LIMIT" 190 (.int 4000 189), en P "_div2n1n" 207 (.ref 21), en P "_div3n2n" 221 (.ref 28), en P "_int2digits" 232 (.ref 35), en P "_digits2int" 243 (.ref 42), en P "_divmod_pos" 258 (.ref 49), en P "int_divmod" 268 (.ref 56), en P "_iter_escaped_chars" 280 (.ref 63), en P "_strip_quoted_realnames" 292 (.ref 70), en P "_check_parenthesis" 302 (.ref 77), en P "_netrclex" 362 (.ref 115), en P "b1_set" 424 (.ref 127), en P "in_table_b1" 431 (.ref 137)].toArray 22), #[]⟩
def o12_4 (P : Params) : Obj := oF [(.int 3 0), (.int 0 0), (.ref 20), (.int 19 0), (.int 0 0), (.ref 27), (.int 29 0), (.int 0 0), (.ref 34), (.int 45 0), (.int 0 0), (.ref 41), (.int 54 0), (.int 0 0), (.ref 48), (.int 65 0), (.int 0 0), (.ref 55), (.int 77 0), (.int 0 0), (.ref 62), (.int 90 0), (.int 0 0), (.ref 69), (.int 108 0), (.int 0 0), (.ref 76), (.int 120 0), (.int 0 0), (.ref 83), (.int 165 0), (.int 0 0), (.ref 136)]
def o120 (P : Params) : Obj := ⟨(.type "list"), none, (.seq [(.int 173 365), (.int 847 366), (.int 6150 367), (.int 6155 368), (.int 6156 369), (.int 6157 370), (.int 8203 371), (.int 8204 372), (.int 8205 373), (.int 8288 374), (.int 65279 375)].toArray 0), #[]⟩
def o121 (P : Params) : Obj := ⟨(.type "range"), none, (.fields [(.int 65024 376), (.int 65040 377), (.int 1 378)].toArray), #[]⟩
def o122 (P : Params) : Obj := ⟨(.type "list"), none, (.seq [(.int 65024 381), (.int 65025 382), (.int 65026 383), (.int 65027 384), (.int 65028 385), (.int 65029 386), (.int 65030 387), (.int 65031 388), (.int 65032 389), (.int 65033 390), (.int 65034 391), (.int 65035 392), (.int 65036 393), (.int 65037 394), (.int 65038 395), (.int 65039 396)].toArray 18), #[]⟩
def o123 (P : Params) : Obj := ⟨(.type "range_iterator"), none, (.fields [(.int 65040 0), (.int 0 0), (.int 1 0)].toArray), #[]⟩
def o124 (P : Params) : Obj := oT []
def o125 (P : Params) : Obj := ⟨(.type "StopIteration"), none, (.fields [(.ref 124), .none, .none, .none, (.bool false), .none].toArray), #[]⟩
def o126 (P : Params) : Obj := ⟨(.type "list"), none, (.seq [(.int 173 365), (.int 847 366), (.int 6150 367), (.int 6155 368), (.int 6156 369), (.int 6157 370), (.int 8203 371), (.int 8204 372), (.int 8205 373), (.int 8288 374), (.int 65279 375), (.int 65024 381), (.int 65025 382), (.int 65026 383), (.int 65027 384), (.int 65028 385), (.int 65029 386), (.int 65030 387), (.int 65031 388), (.int 65032 389), (.int 65033 390), (.int 65034 391), (.int 65035 392), (.int 65036 393), (.int 65037 394), (.int 65038 395), (.int 65039 396)].toArray 0), #[]⟩
def o127 (P : Params) : Obj := ⟨(.type "set"), none, (.set [(65024, (.int 65024 381)), (65025, (.int 65025 382)), (65026, (.int 65026 383)), (65027, (.int 65027 384)), (65028, (.int 65028 385)), (65029, (.int 65029 386)), (6150, (.int 6150 367)), (65030, (.int 65030 387)), (65031, (.int 65031 388)), (65032, (.int 65032 389)), (65033, (.int 65033 390)), (6155, (.int 6155 368)), (6156, (.int 6156 369)), (6157, (.int 6157 370)), (8203, (.int 8203 371)), (8204, (.int 8204 372)), (8205, (.int 8205 373)), (65034, (.int 65034 391)), (65035, (.int 65035 392)), (65036, (.int 65036 393)), (65037, (.int 65037 394)), (65038, (.int 65038 395)), (65039, (.int 65039 396)), (173, (.int 173 365)), (847, (.int 847 366)), (8288, (.int 8288 374)), (65279, (.int 65279 375))].toArray 29 ⟨127, #[0, 1, 2, 3, 4, 5, 6, 7, 8, 9, 10, 11, 12, 13, 14, 15, 16, 17, 18, 19, 20, 21, 22, 45, 79, 96, 127], #[], 0, (!P.followText "set-order"), 2, true⟩), #[]⟩
def o128 (P : Params) : Obj := ⟨(.type "list_iterator"), none, (.fields [.none, (.int 27 0)].toArray), #[]⟩
def o129 (P : Params) : Obj := oT []
def o130 (P : Params) : Obj := ⟨(.type "StopIteration"), none, (.fields [(.ref 129), .none, .none, .none, (.bool false), .none].toArray), #[]⟩
def o131 (P : Params) : Obj := oT []
def o132 (P : Params) : Obj := oF []
def o133 (P : Params) : Obj := oT [(.str "code" 428)]
def o134 (P : Params) : Obj := oT []
def o135 (P : Params) : Obj := ⟨.none, none, (.func (fd (st 16) "in_table_b1" 0 .none .none 0)), #[]⟩
def o136 (P : Params) : Obj := oC [(.str "in_table_b1" 425), (.str "in_table_b1" 426), (.str "/claim/cut.py" 427), (.int 165 0), (.int 1 0), (.int 0 0), (.int 0 0), (.int 3 0), (.ref 131), (.bool true), (.int 181 0), (.ref 132), .none, (.ref 133), (.ref 134), (.ref 135), (.int 429 0), (.int 165 0), (.str "/claim/cut.py" 430)]
def o137 (P : Params) : Obj := ⟨(.type "function"), none, (.func (fd (st 16) "in_table_b1" 3 (.str "cpy313.stringprep" 363) (.ref 136) 0)), #[]⟩
def T4 (P : Params) : BT := (N (boot_o_0 P) (N (boot_o_1 P) (N (o3_4 P) (N (boot_o_7 P) (N (o15 P) (N (o31 P) (N (o63 P) (N (o127 P) Z Z) Z) (N (o95 P) Z Z)) (N (o47 P) (N (o79 P) Z Z) (N (o111 P) Z Z))) (N (o23 P) (N (o39 P) (N (o71 P) (N (o135 P) Z Z) Z) (N (o103 P) Z Z)) (N (o55 P) (N (o87 P) Z Z) (N (o119 P) Z Z)))) (N (o11 P) (N (o19 P) (N (o35 P) (N (o67 P) (N (o131 P) Z Z) Z) (N (o99 P) Z Z)) (N (o51 P) (N (o83 P) Z Z) (N (o115 P) Z Z))) (N (o27 P) (N (o43 P) (N (o75 P) Z Z) (N (o107 P) Z Z)) (N (o59 P) (N (o91 P) Z Z) (N (o123 P) Z Z))))) (N (boot_o_5 P) (N (boot_o_9 P) (N (o17 P) (N (o33 P) (N (o65 P) (N (o129 P) Z Z) Z) (N (o97 P) Z Z)) (N (o49 P) (N (o81 P) Z Z) (N (o113 P) Z Z))) (N (o25 P) (N (o41 P) (N (o73 P) (N (o137 P) Z Z) Z) (N (o105 P) Z Z)) (N (o57 P) (N (o89 P) Z Z) (N (o121 P) Z Z)))) (N (o13 P) (N (o21 P) (N (o37 P) (N (o69 P) (N (o133 P) Z Z) Z) (N (o101 P) Z Z)) (N (o53 P) (N (o85 P) Z Z) (N (o117 P) Z Z))) (N (o29 P) (N (o45 P) (N (o77 P) Z Z) (N (o109 P) Z Z)) (N (o61 P) (N (o93 P) Z Z) (N (o125 P) Z Z)))))) (N (boot_o_2 P) (N (boot_o_4 P) (N (boot_o_8 P) (N (o16 P) (N (o32 P) (N (o64 P) (N (o128 P) Z Z) Z) (N (o96 P) Z Z)) (N (o48 P) (N (o80 P) Z Z) (N (o112 P) Z Z))) (N (o24 P) (N (o40 P) (N (o72 P) (N (o136 P) Z Z) Z) (N (o104 P) Z Z)) (N (o56 P) (N (o88 P) Z Z) (N (o120 P) Z Z)))) (N (o12_4 P) (N (o20 P) (N (o36 P) (N (o68 P) (N (o132 P) Z Z) Z) (N (o100 P) Z Z)) (N (o52 P) (N (o84 P) Z Z) (N (o116 P) Z Z))) (N (o28 P) (N (o44 P) (N (o76 P) Z Z) (N (o108 P) Z Z)) (N (o60 P) (N (o92 P) Z Z) (N (o124 P) Z Z))))) (N (boot_o_6 P) (N (boot_o_10 P) (N (o18 P) (N (o34 P) (N (o66 P) (N (o130 P) Z Z) Z) (N (o98 P) Z Z)) (N (o50 P) (N (o82 P) Z Z) (N (o114 P) Z Z))) (N (o26 P) (N (o42 P) (N (o74 P) Z Z) (N (o106 P) Z Z)) (N (o58 P) (N (o90 P) Z Z) (N (o122 P) Z Z)))) (N (o14 P) (N (o22 P) (N (o38 P) (N (o70 P) (N (o134 P) Z Z) Z) (N (o102 P) Z Z)) (N (o54 P) (N (o86 P) Z Z) (N (o118 P) Z Z))) (N (o30 P) (N (o46 P) (N (o78 P) Z Z) (N (o110 P) Z Z)) (N (o62 P) (N (o94 P) Z Z) (N (o126 P) Z Z)))))))
def sh (T : BT) (n t : Nat) (os : OsState) : SharedT := ⟨T, n, {}, #[], {}, t, os⟩
end Mine
end
section
open PySem PySem.W PyProof.Rows
namespace Mine
theorem piece1 (w : World) (os : OsState) : segRunT treeTable PR w 11 (some (.ref 6)) 1 229 (sh (T0 w.params) 15 187 os) (piecesOf [st 0, st 1, st 2, st 3, st 4, st 5, st 6, st 7] envE cE q0 B0) = some (.next, sh (T1 w.params) 57 269 os, cE, ⟨65, 0, 75, 32⟩) := by
 kernel_rfl
theorem piece2 (w : World) (os : OsState) : segRunT treeTable PR w 11 (some (.ref 6)) 1 108 (sh (T1 w.params) 57 269 os) (piecesOf [st 8, st 9, st 10, st 11] envE cE ⟨65, 0, 75, 32⟩ B0) = some (.next, sh (T2 w.params) 78 303 os, cE, ⟨108, 0, 118, 21⟩) := by
 kernel_rfl
theorem seg_tw : @segRunT = @PySem.W.Fast.tw10110043849684766642 := PySem.W.Fast.te10110043849684766642
theorem tab_tw : treeTable = PySem.W.Fast.tw14364793385576792824 := PySem.W.Fast.te14364793385576792824
theorem piece4 : ∀ (w : World), ∀ (os : OsState), segRunT treeTable PR w 11 (some (.ref 6)) 1 1037 (sh (T3 w.params) 120 363 os) (piecesOf [st 14, st 15, st 16] envE cE ⟨120, 0, 162, 35⟩ B0) = some (.next, sh (T4 w.params) 138 432 os, cE, ⟨165, 0, 166, 30⟩) := by
 rw [seg_tw, tab_tw]
 refine byRow2 "set-order" (byRow2 "special-get-raises" ?_ ?_) (byRow2 "special-get-raises" ?_ ?_) <;> (intro w os; kernel_rfl)
theorem piece3 (w : World) (os : OsState) : segRunT treeTable PR w 11 (some (.ref 6)) 1 333 (sh (T2 w.params) 78 303 os) (piecesOf [st 12, st 13] envE cE ⟨108, 0, 118, 21⟩ B0) = some (.next, sh (T3 w.params) 120 363 os, cE, ⟨120, 0, 162, 35⟩) := by
 rw [seg_tw, tab_tw]
 kernel_rfl
end Mine
end
noncomputable section
open PySem PySem.W PyProof.Rows
namespace Mine
theorem segGo_append {tb : String → Option Builtin} {p : Program} {w : World} {n₀ : Nat} {ann : Option Value} {b : Nat} : ∀ {n m : Nat} {s s' : Shared} {t t' : Thread} {r : Option (Shared × Thread)},
  segGo tb p w n₀ ann b n s t = some (s', t') → segGo tb p w n₀ ann b m s' t' = r → segGo tb p w n₀ ann b (n + m) s t = r
 | 0, m, s, s', t, t', r, h, k => by
  obtain ⟨rfl, rfl⟩ : s = s' ∧ t = t' := by simpa [segGo] using h
  rw [Nat.zero_add]; exact k
 | n + 1, m, s, s', t, t', r, h, k => by
  rw [show n + 1 + m = n + m + 1 by omega]
  unfold segGo at h ⊢
  cases he : endAt b t with
  | some f => rw [he] at h; cases h
  | none =>
   rw [he] at h
   cases hk : stepOk n₀ ann t with
   | false => rw [hk] at h; cases h
   | true =>
    rw [hk] at h
    cases hs : step (denote tb) p w s t with
    | halt o s₂ => rw [hs] at h; cases h
    | go s₂ t₂ => rw [hs] at h; exact segGo_append h k
abbrev sg (w : World) (n : Nat) (s : Shared) (t : Thread) := segGo treeTable PR w 11 (some (.ref 6)) 1 n s t
def Go (w : World) {α : Type} (N : Nat) (m : Sem α) (s : Shared) (a : α) (s' : Shared) : Prop :=
 ∀ (K : α → Sem Fin) (H : Value → Sem Fin) (gd : Bool → Bool) (lv : List Value → List Value) (pos : Pos),
  ∃ n pos', n ≤ N ∧ sg w n s ⟨m.wrap K H gd lv, cE, pos, B0⟩ = some (s', ⟨K a, cE, pos', B0⟩)
variable {w : World} {α β : Type}
theorem Go.pure {a : α} {s : Shared} : Go w 0 (Pure.pure a : Sem α) s a s := fun K H gd lv pos => ⟨0, pos, Nat.le_refl _, rfl⟩
theorem Go.mono {N N' : Nat} {m : Sem α} {s s' : Shared} {a : α} (h : Go w N m s a s') (hN : N ≤ N') : Go w N' m s a s' := fun K H gd lv pos =>
 let ⟨n, p, hn, e⟩ := h K H gd lv pos; ⟨n, p, Nat.le_trans hn hN, e⟩
theorem Go.bind {N N' : Nat} {m : Sem α} {f : α → Sem β} {s s₁ s' : Shared} {a : α} {b : β} (h : Go w N m s a s₁) (k : Go w N' (f a) s₁ b s') : Go w (N + N') (m >>= f) s b s' := fun K H gd lv pos => by
 obtain ⟨n, p, hn, e⟩ := h (fun a => (f a).wrap K H gd lv) H gd lv pos
 obtain ⟨n', p', hn', e'⟩ := k K H gd lv p
 refine ⟨n + n', p', by omega, ?_⟩
 rw [Sem.bind_eq_wrap', Sem.wrap_wrap]
 exact segGo_append e e'
theorem Go.keep {N : Nat} {vs : List Value} {m : Sem α} {s s' : Shared} {a : α} (h : Go w N m s a s') : Go w N (m.keep vs) s a s' := fun K H gd lv pos => by
 rw [Sem.keep_eq_wrap, Sem.wrap_wrap]
 exact h K H gd (fun l => lv (vs ++ l)) pos
theorem Go.holding {N : Nat} {vs : List Value} {m : Sem α} {s s' : Shared} {a : α} (h : Go w N m s a s') : Go w N (holding vs m) s a s' := by
 unfold PySem.holding
 split
 ·exact h
 ·exact h.keep
theorem Go.onRaise {N : Nat} {m : Sem α} {k : Value → Sem Unit} {s s' : Shared} {a : α} (h : Go w N m s a s') : Go w N (m.onRaise k) s a s' := fun K H gd lv pos => by
 rw [Sem.onRaise_eq_wrap, Sem.wrap_wrap]
 exact h K _ gd lv pos
theorem Go.tryCatch {N : Nat} {m : Sem α} {k : Value → Sem α} {s s' : Shared} {a : α} (h : Go w N m s a s') : Go w N (Sem.tryCatch m k) s a s' := fun K H gd lv pos => by
 rw [Sem.tryCatch_eq_wrap, Sem.wrap_wrap]
 exact h K _ (fun g => gd true) lv pos
theorem Go.standAt {p : Pos} {s : Shared} : Go w 1 (standAt p) s () s := fun K H gd lv pos => ⟨1, p, Nat.le_refl _, rfl⟩
theorem Go.rule {t : String} {s : Shared} : Go w 1 (rule t) s () s := fun K H gd lv pos => ⟨1, pos, Nat.le_refl _, rfl⟩
theorem Go.ask {s : Shared} : Go w 1 ask s ⟨PR, w.params⟩ s := fun K H gd lv pos => ⟨1, pos, Nat.le_refl _, rfl⟩
theorem Go.mkInt {s : Shared} {i : Int} : Go w 1 (mkInt i) s (.int i s.toks) { s with toks := s.toks + 1 } := fun K H gd lv pos => ⟨1, pos, Nat.le_refl _, rfl⟩
theorem Go.mkText {s : Shared} {x : Str} : Go w 1 (mkText x) s (.str x s.toks) { s with toks := s.toks + 1 } := fun K H gd lv pos => ⟨1, pos, Nat.le_refl _, rfl⟩
theorem Go.alloc {s : Shared} {o : Obj} : Go w 1 (alloc o) s s.heap.objs.size { s with heap := s.heap.push o } := fun K H gd lv pos => ⟨1, pos, Nat.le_refl _, rfl⟩
theorem Go.loadPart {s : Shared} {a : Addr} {q : Option Value} {o : Obj} (h : s.heap.get? a = some o) : Go w 1 (loadPart a q) s o s := fun K H gd lv pos => by
 refine ⟨1, pos, Nat.le_refl _, ?_⟩
 show (match step (denote treeTable) PR w s ⟨.load a q fun x => K x, cE, pos, B0⟩ with | .go s' t' => some (s', t') | .halt _ _ => none) = _
 simp only [step, h]
theorem Go.updatePart {s : Shared} {a : Addr} {q : Option Value} {o : Obj} {f : Obj → Obj} (h : s.heap.get? a = some o) (ha : 11 ≤ a) : Go w 1 (updatePart a q f) s () { s with heap := s.heap.update a f } := fun K H gd lv pos => by
 refine ⟨1, pos, Nat.le_refl _, ?_⟩
 show (match (Thread.calm ⟨.update a q f fun x => K x, cE, pos, B0⟩ && (Nat.ble 11 a || a == mainNs || a == cStatics || (some (Value.ref 6) == some (Value.ref a)))) with
  | false => none
  | true => match step (denote treeTable) PR w s ⟨.update a q f fun x => K x, cE, pos, B0⟩ with | .go s' t' => some (s', t') | .halt _ _ => none) = _
 rw [show Nat.ble 11 a = true from Nat.ble_eq_true_of_le ha]
 simp only [step, h, Option.isSome_some, if_true]
 rfl
theorem Go.hashCall (k : Int) (t : Tok) (s : Shared) : Go w 4 (call (.builtin "int.__hash__") [.int k t]) s (.int (PySem.rawHash k) s.toks) { s with toks := s.toks + 1 } := fun K H gd lv pos => by
 obtain ⟨h, g, d, tk, os⟩ := s
 exact ⟨4, pos, Nat.le_refl _, by kernel_rfl⟩
end Mine
end
noncomputable section
open PySem PySem.W PyProof.Rows
namespace Mine
variable {w : World} {α β : Type}
theorem Go.bnd {T N N' : Nat} {m : Sem α} {f : α → Sem β} {s s₁ s' : Shared} {a : α} {b : β} (h : Go w N m s a s₁) (k : Go w N' (f a) s₁ b s') (hT : N + N' ≤ T := by omega) : Go w T (m >>= f) s b s' := (Go.bind h k).mono hT
theorem b1 (k : Int) (t : Tok) : specialOf (.int k t) "__hash__" = pure (some (.builtin "int.__hash__")) := by kernel_rfl
theorem b2 (k : Int) (t : Tok) : bindSpecial (.builtin "int.__hash__") (.int k t) = pure (.builtin "int.__hash__", [.int k t]) := by kernel_rfl
theorem Go.bindIf (k : Int) (t : Tok) (s : Shared) : Go w 1 (bindSpecialIfBound? (.int k t) "__hash__") s (some (.builtin "int.__hash__", [.int k t])) s := by
 unfold bindSpecialIfBound?
 rw [b1]
 refine Go.bnd (N := 0) (N' := 1) Go.pure ?_
 dsimp only
 refine Go.bnd (N := 1) (N' := 0) Go.ask ?_
 dsimp only
 split
 ·rw [b2]; exact Go.pure
 ·rw [b2]; exact Go.tryCatch (N := 0) (Go.bind (N := 0) (N' := 0) Go.pure Go.pure)
theorem Go.pyHash (k : Int) (t : Tok) (s : Shared) : Go w 5 (pyHash (.int k t)) s (hashInt k) { s with toks := s.toks + 1 } := by
 have hr := rawHash_range k
 show Go w 5 (pyHashByItsType (.int k t)) _ _ _
 unfold pyHashByItsType
 have hv : [Value.int k t].any Value.onHeap = false := rfl
 refine Go.bnd (N := 0) (N' := 5) (m := cRoomFor "hash" [.int k t]) (by rw [cRoomFor, if_neg (by rw [hv]; exact Bool.false_ne_true)]; exact Go.pure) ?_
 rw [b1]
 refine Go.bnd (N := 0) (N' := 5) Go.pure ?_
 rw [if_neg (by decide)]
 refine Go.bnd (N := 0) (N' := 5) Go.pure ?_
 dsimp only [Option.isNone]
 rw [if_neg (by decide)]
 refine Go.bnd (N := 5) (N' := 0) (a := some (.int (PySem.rawHash k) s.toks)) (s₁ := { s with toks := s.toks + 1 }) ?_ ?_
 ·unfold callSpecialIfBoundUnlessNone?
  refine Go.holding ?_
  refine Go.bnd (N := 1) (N' := 4) (Go.bindIf k t s) ?_
  dsimp only
  rw [if_neg (by decide)]
  refine Go.bnd (N := 4) (N' := 0) (Go.hashCall k t s) ?_
  exact Go.pure
 ·dsimp only
  unfold pyHashByItsType.reduced
  rw [if_pos (by rw [decide_eq_true hr.1, decide_eq_true hr.2]; rfl)]
  exact Go.pure
def dO (es : List DictEntry) (n : Nat) : Obj := ⟨.type "dict", none, .dict es.toArray n, #[]⟩
theorem places_none {es : List DictEntry} {h : Int} (hn : ∀ e ∈ es, e.hash ≠ h) : placesWithHash es.toArray.size (fun i => es.toArray[i]?.map (·.hash)) h = [] := by
 unfold placesWithHash
 rw [List.filter_eq_nil_iff]
 intro i hi
 rw [List.mem_range] at hi
 dsimp only
 rw [Array.getElem?_eq_getElem hi]
 simp only [Option.map_some, beq_iff_eq, Option.some.injEq]
 exact hn _ (by simp)
theorem Go.dictFind {s : Shared} {d : Addr} {es : List DictEntry} {n : Nat} {k : Int} {t : Tok} {h : Int} (ho : s.heap.get? d = some (dO es n)) (hn : ∀ e ∈ es, e.hash ≠ h) :
  Go w 1 (dictFind d (.int k t) h) s none s := by
 unfold PySem.dictFind
 refine Go.holding ?_
 refine Go.bnd (N := 1) (N' := 0) (a := es.toArray) (s₁ := s) ?_ ?_
 ·unfold dictEntries
  exact Go.bind (N := 1) (N' := 0) (Go.loadPart ho) Go.pure
 ·dsimp only
  rw [places_none hn]
  exact Go.pure
end Mine
end
noncomputable section
open PySem PySem.W PyProof.Rows
namespace Mine
variable {w : World} {α β : Type}
def hp (b : Heap) (l : List Obj) : Heap := ⟨b.objs ++ l.toArray, b.life⟩
theorem hp_push (b : Heap) (l : List Obj) (o : Obj) : (hp b l).push o = hp b (l ++ [o]) := by
 show Heap.mk ((b.objs ++ l.toArray).push o) b.life = Heap.mk (b.objs ++ (l ++ [o]).toArray) b.life
 rw [show (b.objs ++ l.toArray).push o = b.objs ++ (l ++ [o]).toArray from by apply Array.ext'; simp]
theorem hp_size (b : Heap) (l : List Obj) : (hp b l).objs.size = b.objs.size + l.length := by simp [hp]
theorem hp_get (b : Heap) (l1 l2 : List Obj) (o : Obj) (ho : o.isFreed = false) : (hp b (l1 ++ o :: l2)).get? (b.objs.size + l1.length) = some o := by
 rw [Heap.get?_some_iff]
 refine ⟨?_, ho⟩
 simp only [hp]
 rw [Array.getElem?_append_right (by omega)]
 simp
theorem hp_upd (b : Heap) (l1 l2 : List Obj) (o : Obj) (f : Obj → Obj) : (hp b (l1 ++ o :: l2)).update (b.objs.size + l1.length) f = hp b (l1 ++ f o :: l2) := by
 have : (b.objs ++ (l1 ++ o :: l2).toArray).modify (b.objs.size + l1.length) f = b.objs ++ (l1 ++ f o :: l2).toArray := by
  apply Array.ext_getElem?
  intro i
  rw [Array.getElem?_modify]
  by_cases h1 : i < b.objs.size
  ·rw [if_neg (by omega), Array.getElem?_append_left h1, Array.getElem?_append_left h1]
  ·rw [Array.getElem?_append_right (by omega), Array.getElem?_append_right (by omega)]
   simp only [List.getElem?_toArray]
   by_cases h2 : b.objs.size + l1.length = i
   ·subst h2
    rw [if_pos rfl]
    simp
   ·rw [if_neg h2]
    by_cases h3 : i - b.objs.size < l1.length
    ·rw [List.getElem?_append_left h3, List.getElem?_append_left h3]
    ·rw [List.getElem?_append_right (by omega), List.getElem?_append_right (by omega)]
     have : i - b.objs.size - l1.length ≠ 0 := by omega
     cases h4 : i - b.objs.size - l1.length with
     | zero => exact absurd h4 this
     | succ m => simp
 exact congrArg (Heap.mk · b.life) this
theorem dO_put (es : List DictEntry) (n : Nat) (e : DictEntry) : Obj.mapDictKeys (·.push e) (dO es n) = dO (es ++ [e]) (n + 1) := by
 unfold Obj.mapDictKeys dO
 simp
def hs (s : Shared) (b : Heap) (l : List Obj) : Shared := { s with heap := hp b l }
theorem Go.updateKeys {s : Shared} {b : Heap} {l1 l2 : List Obj} {es : List DictEntry} {n : Nat} {e : DictEntry} {q : Option Value} (hd : 11 ≤ b.objs.size) (hl : es.length ≤ 5000) :
  Go w 3 (updateDictKeys (b.objs.size + l1.length) (·.push e) q) (hs s b (l1 ++ dO es n :: l2)) () (hs s b (l1 ++ dO (es ++ [e]) (n + 1) :: l2)) := by
 unfold PySem.updateDictKeys
 refine Go.bnd (N := 1) (N' := 2) (Go.loadPart (hp_get b l1 l2 (dO es n) rfl)) ?_
 dsimp only [dO]
 refine Go.bnd (N := 1) (N' := 1) (Go.updatePart (hp_get b l1 l2 (dO es n) rfl) (Nat.le_trans hd (Nat.le_add_right _ _))) ?_
 show Go w 1 (lookBehind _ _) { hs s b (l1 ++ dO es n :: l2) with heap := (hp b (l1 ++ dO es n :: l2)).update (b.objs.size + l1.length) (Obj.mapDictKeys (·.push e)) } _ _
 rw [hp_upd, dO_put]
 unfold lookBehind
 refine Go.bnd (N := 1) (N' := 0) (Go.loadPart (hp_get b l1 l2 (dO (es ++ [e]) (n + 1)) rfl)) ?_
 rw [show (dO (es ++ [e]) (n + 1)).data.pastItsLine = none from by
  show (if (es ++ [e]).toArray.size > sizeLine + 1 then some "dict:memory" else none) = none
  rw [if_neg]
  simp only [List.size_toArray, List.length_append, List.length_cons, List.length_nil]
  rw [sizeLine_eq]; omega]
 exact Go.pure
theorem Go.setHashed {s : Shared} {b : Heap} {l1 l2 : List Obj} {es : List DictEntry} {n : Nat} {k : Int} {t : Tok} {h : Int} {v : Value} (hd : 11 ≤ b.objs.size) (hl : es.length ≤ 5000) (hn : ∀ e ∈ es, e.hash ≠ h) :
  Go w 5 (dictSetHashed (b.objs.size + l1.length) (.int k t) h v) (hs s b (l1 ++ dO es n :: l2)) () (hs s b (l1 ++ dO (es ++ [⟨h, .int k t, v⟩]) (n + 1) :: l2)) := by
 unfold dictSetHashed
 refine Go.holding ?_
 refine Go.bnd (N := 1) (N' := 4) (Go.dictFind (hp_get b l1 l2 (dO es n) rfl) hn) ?_
 dsimp only
 exact Go.bnd (N := 1) (N' := 3) Go.rule (Go.updateKeys hd hl)
theorem Go.put {s : Shared} {b : Heap} {l1 l2 : List Obj} {es : List DictEntry} {n : Nat} {k : Int} {t : Tok} {h : Int} {v : Value} (hd : 11 ≤ b.objs.size) (hl : es.length ≤ 5000) (hn : ∀ e ∈ es, e.hash ≠ h) :
  Go w 4 (dictPut (b.objs.size + l1.length) h (.int k t) v) (hs s b (l1 ++ dO es n :: l2)) () (hs s b (l1 ++ dO (es ++ [⟨h, .int k t, v⟩]) (n + 1) :: l2)) := by
 unfold dictPut
 refine Go.bnd (N := 1) (N' := 3) (Go.dictFind (hp_get b l1 l2 (dO es n) rfl) hn) ?_
 exact Go.updateKeys hd hl
theorem Go.set {s : Shared} {b : Heap} {l1 l2 : List Obj} {es : List DictEntry} {n : Nat} {k : Int} {t : Tok} {v : Value} (hd : 11 ≤ b.objs.size) (hl : es.length ≤ 5000) (hn : ∀ e ∈ es, e.hash ≠ hashInt k) :
  Go w 10 (dictSet (b.objs.size + l1.length) (.int k t) v) (hs s b (l1 ++ dO es n :: l2)) () (hs { s with toks := s.toks + 1 } b (l1 ++ dO (es ++ [⟨hashInt k, .int k t, v⟩]) (n + 1) :: l2)) := by
 unfold dictSet
 refine Go.holding ?_
 exact Go.bnd (N := 5) (N' := 5) (Go.pyHash k t _) (Go.setHashed (s := { s with toks := s.toks + 1 }) hd hl hn)
end Mine
end
noncomputable section
open PySem PySem.W PyProof.Rows
namespace Mine
variable {w : World} {α β : Type}
def pt (pos : Pos) (p : Int × Str) : Sem Value × Sem Value := (mkInt p.1, do let x ← mkText p.2; standAt pos; pure x)
def entsL : Nat → List (Int × Str) → List DictEntry
 | _, [] => []
 | t, p :: r => ⟨hashInt p.1, .int p.1 t, .str p.2 (t + 1)⟩ :: entsL (t + 3) r
def vsS : Nat → List (Int × Str) → List (Value × Value)
 | _, [] => []
 | t, p :: r => (.int p.1 t, .str p.2 (t + 1)) :: vsS (t + 2) r
def entsS : Nat → List (Int × Str) → List DictEntry
 | _, [] => []
 | t, p :: r => ⟨hashInt p.1, .int p.1 t, .str p.2 (t + 1)⟩ :: entsS (t + 2) r
theorem entsL_hash : ∀ (t : Nat) (ps : List (Int × Str)), ∀ e ∈ entsL t ps, ∃ p ∈ ps, e.hash = hashInt p.1
 | _, [], _, h => nomatch h
 | t, p :: r, e, h => by
  rcases List.mem_cons.mp h with rfl | h
  ·exact ⟨p, List.mem_cons_self .., rfl⟩
  ·obtain ⟨p', h1, h2⟩ := entsL_hash (t + 3) r e h
   exact ⟨p', List.mem_cons_of_mem _ h1, h2⟩
theorem entsL_len : ∀ (t : Nat) (ps : List (Int × Str)), (entsL t ps).length = ps.length
 | _, [] => rfl
 | t, p :: r => congrArg Nat.succ (entsL_len (t + 3) r)
theorem entsS_len : ∀ (t : Nat) (ps : List (Int × Str)), (entsS t ps).length = ps.length
 | _, [] => rfl
 | t, p :: r => congrArg Nat.succ (entsS_len (t + 2) r)
theorem entsS_hash : ∀ (t : Nat) (ps : List (Int × Str)), ∀ e ∈ entsS t ps, ∃ p ∈ ps, e.hash = hashInt p.1
 | _, [], _, h => nomatch h
 | t, p :: r, e, h => by
  rcases List.mem_cons.mp h with rfl | h
  ·exact ⟨p, List.mem_cons_self .., rfl⟩
  ·obtain ⟨p', h1, h2⟩ := entsS_hash (t + 2) r e h
   exact ⟨p', List.mem_cons_of_mem _ h1, h2⟩
theorem entsL_int : ∀ (t : Nat) (ps : List (Int × Str)), ∀ e ∈ entsL t ps, ∃ h k u v, e = ⟨h, .int k u, v⟩
 | _, [], _, h => nomatch h
 | t, p :: r, e, h => by
  rcases List.mem_cons.mp h with rfl | h
  ·exact ⟨_, _, _, _, rfl⟩
  ·exact entsL_int (t + 3) r e h
theorem entsS_int : ∀ (t : Nat) (ps : List (Int × Str)), ∀ e ∈ entsS t ps, ∃ h k u v, e = ⟨h, .int k u, v⟩
 | _, [], _, h => nomatch h
 | t, p :: r, e, h => by
  rcases List.mem_cons.mp h with rfl | h
  ·exact ⟨_, _, _, _, rfl⟩
  ·exact entsS_int (t + 2) r e h
abbrev Apart (ps : List (Int × Str)) : Prop := ps.Pairwise fun a b => hashInt a.1 ≠ hashInt b.1
def tk (s : Shared) (n : Nat) : Shared := { s with toks := s.toks + n }
theorem tk_tk (s : Shared) (a b : Nat) : tk (tk s a) b = tk s (a + b) := by unfold tk; dsimp only; rw [Nat.add_assoc]
theorem Go.loopL {b : Heap} {l : List Obj} {pos : Pos} (hb : 11 ≤ b.objs.size) (f : Sem Value × Sem Value → PUnit → Sem (ForInStep PUnit))
  (hf : ∀ p u, f p u = (do let kv ← p.1; let vv ← PySem.holding [kv] p.2; PySem.holding [kv, vv] (dictSet (b.objs.size + l.length) kv vv); Pure.pure (ForInStep.yield PUnit.unit))) :
  ∀ (ps : List (Int × Str)) (s : Shared) (es : List DictEntry) (n : Nat), Apart ps → (∀ e ∈ es, ∀ p ∈ ps, e.hash ≠ hashInt p.1) → es.length + ps.length ≤ 5000 →
   Go w (13 * ps.length) (forIn (ps.map (pt pos)) PUnit.unit f) (hs s b (l ++ [dO es n])) PUnit.unit (hs (tk s (3 * ps.length)) b (l ++ [dO (es ++ entsL s.toks ps) (n + ps.length)]))
 | [], s, es, n, _, _, _ => by
  simp only [List.map_nil, List.forIn_nil, entsL, List.append_nil, List.length_nil]
  exact Go.pure
 | p :: r, s, es, n, ha, hn, hl => by
  have hlen : (p :: r).length = r.length + 1 := rfl
  rw [List.map_cons, List.forIn_cons, hf]
  refine Go.bnd (N := 13) (N' := 13 * r.length) (a := .yield ⟨⟩) (s₁ := hs (tk s 3) b (l ++ [dO (es ++ [⟨hashInt p.1, .int p.1 s.toks, .str p.2 (s.toks + 1)⟩]) (n + 1)])) ?_ ?_ (by rw [hlen]; omega)
  ·refine Go.bnd (N := 1) (N' := 12) Go.mkInt ?_
   refine Go.bnd (N := 2) (N' := 10) (Go.holding (Go.bnd (N := 1) (N' := 1) Go.mkText (Go.bnd (N := 1) (N' := 0) Go.standAt Go.pure))) ?_
   refine Go.bnd (N := 10) (N' := 0) (Go.holding (Go.set (s := tk s 2) (l2 := []) hb (by simp only [List.length_cons] at hl; omega) fun e he => hn e he p (List.mem_cons_self ..))) ?_
   exact Go.pure
  ·have h := Go.loopL (pos := pos) hb f hf r (tk s 3) (es ++ [⟨hashInt p.1, .int p.1 s.toks, .str p.2 (s.toks + 1)⟩]) (n + 1) (List.Pairwise.of_cons ha)
    (fun e he p' hp' => by
     rcases List.mem_append.mp he with he | he
     ·exact hn e he p' (List.mem_cons_of_mem _ hp')
     ·rw [List.mem_singleton] at he; subst he; exact (List.pairwise_cons.mp ha).1 p' hp')
    (by simp only [List.length_append, List.length_cons, List.length_nil] at hl ⊢; omega)
   rw [tk_tk, List.append_assoc] at h
   dsimp only
   have e1 : 3 + 3 * r.length = 3 * (p :: r).length := by rw [hlen]; omega
   have e2 : n + 1 + r.length = n + (p :: r).length := by rw [hlen]; omega
   rw [e1, e2] at h
   exact h
theorem Go.subL {s : Shared} {b : Heap} {l : List Obj} {pos : Pos} (hb : 11 ≤ b.objs.size) (ps : List (Int × Str)) (h15 : 15 < ps.length) (h17 : ps.length ≤ 17) (ha : Apart ps) :
  Go w 230 (subDict (ps.map (pt pos))) (hs s b l) (b.objs.size + l.length) (hs (tk s (3 * ps.length)) b (l ++ [dO (entsL s.toks ps) ps.length])) := by
 unfold subDict
 refine Go.bnd (N := 1) (N' := 229) Go.alloc ?_
 rw [show (hs s b l).heap.objs.size = b.objs.size + l.length from hp_size b l]
 refine Go.bnd (N := 229) (N' := 0) (a := ()) (s₁ := hs (tk s (3 * ps.length)) b (l ++ [dO (entsL s.toks ps) ps.length])) (Go.holding ?_) Go.pure
 rw [if_neg (by rw [List.length_map]; omega)]
 refine Go.bnd (N := 1) (N' := 228) Go.rule ?_
 show Go w 228 _ { hs s b l with heap := (hp b l).push (dO [] 0) } _ _
 rw [hp_push]
 have h := Go.loopL (w := w) (b := b) (l := l) (pos := pos) hb (fun p u => (do let kv ← p.1; let vv ← PySem.holding [kv] p.2; PySem.holding [kv, vv] (dictSet (b.objs.size + l.length) kv vv); Pure.pure (ForInStep.yield PUnit.unit))) (fun _ _ => rfl) ps s [] 0 ha (fun _ he => nomatch he) (by simp only [List.length_nil]; omega)
 rw [List.nil_append, Nat.zero_add] at h
 exact Go.bnd (N := 221) (N' := 0) (h.mono (by omega)) Go.pure
end Mine
end
noncomputable section
open PySem PySem.W PyProof.Rows
namespace Mine
variable {w : World} {α β : Type}
theorem Go.pairsS {pos : Pos} : ∀ (ps : List (Int × Str)) (s : Shared), Go w (3 * ps.length) (evalPairs (ps.map (pt pos))) s (vsS s.toks ps) (tk s (2 * ps.length))
 | [], s => Go.pure
 | p :: r, s => by
  rw [List.map_cons]
  unfold evalPairs
  refine Go.bnd (N := 1) (N' := 2 + 3 * r.length) Go.mkInt ?_ (by simp only [List.length_cons]; omega)
  refine Go.bnd (N := 2) (N' := 3 * r.length) (Go.holding (Go.bnd (N := 1) (N' := 1) Go.mkText (Go.bnd (N := 1) (N' := 0) Go.standAt Go.pure))) ?_
  have h := Go.pairsS (pos := pos) r (tk s 2)
  rw [tk_tk, show 2 + 2 * r.length = 2 * (p :: r).length from by simp only [List.length_cons]; omega] at h
  exact Go.bnd (N := 3 * r.length) (N' := 0) (Go.holding h) Go.pure
theorem Go.loopS {b : Heap} {l : List Obj} (hb : 11 ≤ b.objs.size) (f : Value × Value → PUnit → Sem (ForInStep PUnit))
  (hf : ∀ p u, f p u = (do dictSet (b.objs.size + l.length) p.1 p.2; Pure.pure (ForInStep.yield PUnit.unit))) :
  ∀ (ps : List (Int × Str)) (t : Nat) (s : Shared) (es : List DictEntry) (n : Nat), Apart ps → (∀ e ∈ es, ∀ p ∈ ps, e.hash ≠ hashInt p.1) → es.length + ps.length ≤ 5000 →
   Go w (10 * ps.length) (forIn (vsS t ps) PUnit.unit f) (hs s b (l ++ [dO es n])) PUnit.unit (hs (tk s ps.length) b (l ++ [dO (es ++ entsS t ps) (n + ps.length)]))
 | [], t, s, es, n, _, _, _ => by
  simp only [vsS, List.forIn_nil, entsS, List.append_nil, List.length_nil]
  exact Go.pure
 | p :: r, t, s, es, n, ha, hn, hl => by
  have hlen : (p :: r).length = r.length + 1 := rfl
  unfold vsS
  rw [List.forIn_cons, hf]
  refine Go.bnd (N := 10) (N' := 10 * r.length) (a := .yield ⟨⟩) (s₁ := hs (tk s 1) b (l ++ [dO (es ++ [⟨hashInt p.1, .int p.1 t, .str p.2 (t + 1)⟩]) (n + 1)])) ?_ ?_ (by rw [hlen]; omega)
  ·exact Go.bnd (N := 10) (N' := 0) (Go.set (s := s) (l2 := []) hb (by simp only [List.length_cons] at hl; omega) fun e he => hn e he p (List.mem_cons_self ..)) Go.pure
  ·have h := Go.loopS hb f hf r (t + 2) (tk s 1) (es ++ [⟨hashInt p.1, .int p.1 t, .str p.2 (t + 1)⟩]) (n + 1) (List.Pairwise.of_cons ha)
    (fun e he p' hp' => by
     rcases List.mem_append.mp he with he | he
     ·exact hn e he p' (List.mem_cons_of_mem _ hp')
     ·rw [List.mem_singleton] at he; subst he; exact (List.pairwise_cons.mp ha).1 p' hp')
    (by simp only [List.length_append, List.length_cons, List.length_nil] at hl ⊢; omega)
   rw [tk_tk, List.append_assoc] at h
   dsimp only
   have e1 : 1 + r.length = (p :: r).length := by rw [hlen]; omega
   have e2 : n + 1 + r.length = n + (p :: r).length := by rw [hlen]; omega
   rw [e1, e2] at h
   exact h
theorem Go.subS {s : Shared} {b : Heap} {l : List Obj} {pos : Pos} (hb : 11 ≤ b.objs.size) (ps : List (Int × Str)) (h15 : ps.length ≤ 15) (ha : Apart ps) :
  Go w 230 (subDict (ps.map (pt pos))) (hs s b l) (b.objs.size + l.length) (hs (tk s (3 * ps.length)) b (l ++ [dO (entsS s.toks ps) ps.length])) := by
 unfold subDict
 refine Go.bnd (N := 1) (N' := 229) Go.alloc ?_
 rw [show (hs s b l).heap.objs.size = b.objs.size + l.length from hp_size b l]
 refine Go.bnd (N := 229) (N' := 0) (a := ()) (s₁ := hs (tk s (3 * ps.length)) b (l ++ [dO (entsS s.toks ps) ps.length])) (Go.holding ?_) Go.pure
 rw [if_pos (by rw [List.length_map]; exact h15)]
 show Go w 229 _ { hs s b l with heap := (hp b l).push (dO [] 0) } _ _
 rw [hp_push]
 refine Go.bnd (N := 45) (N' := 184) ((Go.pairsS (pos := pos) ps (hs s b (l ++ [dO [] 0]))).mono (by omega)) ?_
 refine Go.holding ?_
 have h := Go.loopS (w := w) (b := b) (l := l) hb (fun p u => (do dictSet (b.objs.size + l.length) p.1 p.2; Pure.pure (ForInStep.yield PUnit.unit))) (fun _ _ => rfl) ps s.toks (tk s (2 * ps.length)) [] 0 ha (fun _ he => nomatch he) (by simp only [List.length_nil]; omega)
 rw [List.nil_append, Nat.zero_add, tk_tk, show 2 * ps.length + ps.length = 3 * ps.length from by omega] at h
 exact Go.bnd (N := 150) (N' := 0) (h.mono (by omega)) Go.pure
theorem b5 : typeLookup (.type "dict") "__iter__" = pure (some (.builtin "dict.__iter__")) := by kernel_rfl
theorem b6 : isSubtype (.type "dict") (.type "dict") = pure true := by kernel_rfl
theorem Go.mergeLoop {b : Heap} {mid : List Obj} {sub : List DictEntry} {m : Nat} {z : Sem (ForInStep PUnit)} (hb : 11 ≤ b.objs.size) (f : Nat → PUnit → Sem (ForInStep PUnit))
  (hf : ∀ i u, f i u = (do
   match (← dictEntries (b.objs.size + (mid.length + 1)))[i]? with
   | some e => do
    PySem.holding [e.key, e.val] (do
     if false = true then
      if (← PySem.dictFind b.objs.size e.key e.hash).isSome then PySem.rule "dict.merge.duplicate-key"; raiseNew (← newExc (.type "KeyError") [e.key])
     dictPut b.objs.size e.hash e.key e.val)
    if (← dictEpoch (b.objs.size + (mid.length + 1))) != m then unsupported "dict.changed-during-merge"
    Pure.pure (ForInStep.yield PUnit.unit)
   | none => z))
  (hi : ∀ e ∈ sub, ∃ h k u v, e = ⟨h, .int k u, v⟩) :
  ∀ (r j : Nat) (s : Shared) (es : List DictEntry) (n : Nat), j + r = sub.length → (∀ e ∈ es, ∀ e' ∈ sub.drop j, e.hash ≠ e'.hash) → (sub.drop j).Pairwise (fun a b => a.hash ≠ b.hash) → es.length + r ≤ 5000 →
   Go w (6 * r) (forIn (List.range' j r) PUnit.unit f) (hs s b (dO es n :: (mid ++ [dO sub m]))) PUnit.unit (hs s b (dO (es ++ sub.drop j) (n + r) :: (mid ++ [dO sub m])))
 | 0, j, s, es, n, hj, _, _, _ => by
  rw [show sub.drop j = [] from List.drop_eq_nil_of_le (by omega)]
  simp only [List.range'_zero, List.forIn_nil, List.append_nil]
  exact Go.pure
 | r + 1, j, s, es, n, hj, hn, hd, hl => by
  have hlt : j < sub.length := by omega
  have e0 : sub.drop j = sub[j] :: sub.drop (j + 1) := List.drop_eq_getElem_cons hlt
  obtain ⟨h, k, u, v, he⟩ := hi sub[j] (List.getElem_mem hlt)
  rw [List.range'_succ, List.forIn_cons, hf]
  have g1 : ∀ es n, (hs s b (dO es n :: (mid ++ [dO sub m]))).heap.get? (b.objs.size + (mid.length + 1)) = some (dO sub m) := fun es n => by
   have := hp_get b (dO es n :: mid) [] (dO sub m) rfl
   rw [List.length_cons] at this
   exact this
  refine Go.bnd (N := 6) (N' := 6 * r) (a := ForInStep.yield PUnit.unit) (s₁ := hs s b (dO (es ++ [sub[j]]) (n + 1) :: (mid ++ [dO sub m]))) ?_ ?_ (by omega)
  ·refine Go.bnd (N := 1) (N' := 5) (a := sub.toArray) (Go.bnd (N := 1) (N' := 0) (Go.loadPart (g1 es n)) Go.pure) ?_
   rw [show sub.toArray[j]? = some sub[j] from by rw [List.getElem?_toArray]; exact List.getElem?_eq_getElem hlt]
   dsimp only
   rw [he]
   rw [he] at e0
   refine Go.bnd (N := 4) (N' := 1) (a := ()) (s₁ := hs s b (dO (es ++ [⟨h, .int k u, v⟩]) (n + 1) :: (mid ++ [dO sub m]))) (Go.holding ?_) ?_
   ·rw [if_neg (by decide)]
    exact Go.put (l1 := []) (l2 := mid ++ [dO sub m]) hb (by omega) fun e he' => by
     have := hn e he' ⟨h, .int k u, v⟩ (by rw [e0]; exact List.mem_cons_self ..)
     exact this
   ·refine Go.bnd (N := 1) (N' := 0) (a := m) (Go.bnd (N := 1) (N' := 0) (Go.loadPart (g1 _ _)) Go.pure) ?_
    rw [if_neg (by simp)]
    exact Go.bnd (N := 0) (N' := 0) Go.pure Go.pure
  ·have hh := Go.mergeLoop hb f hf hi r (j + 1) s (es ++ [sub[j]]) (n + 1) (by omega)
    (fun e he1 e' he2 => by
     rcases List.mem_append.mp he1 with q | q
     ·exact hn e q e' (by rw [e0]; exact List.mem_cons_of_mem _ he2)
     ·rw [List.mem_singleton] at q; subst q; rw [e0] at hd; exact (List.pairwise_cons.mp hd).1 e' he2)
    (by rw [e0] at hd; exact List.Pairwise.of_cons hd)
    (by simp only [List.length_append, List.length_cons, List.length_nil]; omega)
   rw [List.append_assoc, List.singleton_append, ← e0, show n + 1 + r = n + (r + 1) from by omega] at hh
   exact hh
theorem Go.merge {s : Shared} {b : Heap} {mid : List Obj} {es sub : List DictEntry} {n m : Nat} (hb : 11 ≤ b.objs.size) (hi : ∀ e ∈ sub, ∃ h k u v, e = ⟨h, .int k u, v⟩)
  (hne : es ≠ []) (hn : ∀ e ∈ es, ∀ e' ∈ sub, e.hash ≠ e'.hash) (hd : sub.Pairwise (fun a b => a.hash ≠ b.hash)) (hl : es.length + sub.length ≤ 5000) (h17 : sub.length ≤ 17) :
  Go w 110 (mergeMapping b.objs.size (.ref (b.objs.size + (mid.length + 1))) false) (hs s b (dO es n :: (mid ++ [dO sub m]))) () (hs s b (dO (es ++ sub) (n + sub.length) :: (mid ++ [dO sub m]))) := by
 have g1 : (hs s b (dO es n :: (mid ++ [dO sub m]))).heap.get? (b.objs.size + (mid.length + 1)) = some (dO sub m) := by
  have := hp_get b (dO es n :: mid) [] (dO sub m) rfl
  rw [List.length_cons] at this
  exact this
 have g0 : (hs s b (dO es n :: (mid ++ [dO sub m]))).heap.get? b.objs.size = some (dO es n) := hp_get b [] (mid ++ [dO sub m]) (dO es n) rfl
 have ty : Go w 1 (typeOf (.ref (b.objs.size + (mid.length + 1)))) (hs s b (dO es n :: (mid ++ [dO sub m]))) (.type "dict") (hs s b (dO es n :: (mid ++ [dO sub m]))) :=
  Go.bnd (N := 1) (N' := 0) (Go.loadPart g1) Go.pure
 unfold mergeMapping
 refine Go.bnd (N := 1) (N' := 109) (a := true) (Go.bnd (N := 1) (N' := 0) ty (by rw [b6]; exact Go.pure)) ?_
 dsimp only
 rw [if_pos rfl]
 refine Go.bnd (N := 1) (N' := 108) (a := some (.builtin "dict.__iter__")) (Go.bnd (N := 1) (N' := 0) ty (by rw [b5]; exact Go.pure)) ?_
 rw [show (some (Value.builtin "dict.__iter__") == some (Value.builtin "dict.__iter__")) = true from by decide]
 refine Go.bnd (N := 0) (N' := 108) Go.pure ?_
 dsimp only
 rw [if_neg (by rw [beq_iff_eq]; show ¬ (b.objs.size + (mid.length + 1) = 1); omega)]
 refine Go.bnd (N := 1) (N' := 107) (a := es.toArray) (Go.bnd (N := 1) (N' := 0) (Go.loadPart g0) Go.pure) ?_
 rw [if_neg (by simpa using hne)]
 refine Go.bnd (N := 1) (N' := 106) (a := sub.toArray) (Go.bnd (N := 1) (N' := 0) (Go.loadPart g1) Go.pure) ?_
 refine Go.bnd (N := 1) (N' := 105) (a := m) (Go.bnd (N := 1) (N' := 0) (Go.loadPart g1) Go.pure) ?_
 have h : ∀ f : Nat → PUnit → Sem (ForInStep PUnit), (∀ i u, f i u = (do
   match (← dictEntries (b.objs.size + (mid.length + 1)))[i]? with
   | some e => do
    PySem.holding [e.key, e.val] (do
     if false = true then
      if (← PySem.dictFind b.objs.size e.key e.hash).isSome then PySem.rule "dict.merge.duplicate-key"; raiseNew (← newExc (.type "KeyError") [e.key])
     dictPut b.objs.size e.hash e.key e.val)
    if (← dictEpoch (b.objs.size + (mid.length + 1))) != m then unsupported "dict.changed-during-merge"
    Pure.pure (ForInStep.yield PUnit.unit)
   | none => (do unsupported "dict.changed-during-merge"; Pure.pure (ForInStep.yield PUnit.unit)))) →
   Go w 102 (forIn (List.range sub.toArray.size) PUnit.unit f) (hs s b (dO es n :: (mid ++ [dO sub m]))) PUnit.unit (hs s b (dO (es ++ sub) (n + sub.length) :: (mid ++ [dO sub m]))) := fun f hf => by
  have h := Go.mergeLoop (w := w) (b := b) (mid := mid) (sub := sub) (m := m) hb f hf hi sub.length 0 s es n (by omega) (by rw [List.drop_zero]; exact hn) (by rw [List.drop_zero]; exact hd) hl
  rw [List.drop_zero, ← List.range_eq_range'] at h
  exact Go.mono (N' := 102) h (by omega)
 refine Go.bnd (N := 102) (N' := 0) (h _ fun i u => congrArg (fun k => dictEntries (b.objs.size + (mid.length + 1)) >>= k) (funext fun x => ?_)) Go.pure
 cases x[i]? <;> rfl
end Mine
end
noncomputable section
open PySem PySem.W PyProof.Rows
namespace Mine
variable {w : World} {α β : Type}
abbrev SP := Sem Value × Sem Value
abbrev DSt := Option Addr × List SP
def flushM (run : List SP) (main : Option Addr) : Sem (Option Addr) := do
  if run.isEmpty then return main
  match main with
  | none => return some (← subDict run)
  | some d =>
   let sub ← holding [.ref d] (subDict run)
   (holding [.ref d, .ref sub] (mergeMapping d (.ref sub) false)).onRaise fun x => do let _ ← holding [.ref d, x] (runValue (.builtin "proto.let_go" {}))
   return some d
theorem gather {f : Option (Sem Value) × Sem Value → DSt → Sem (ForInStep DSt)}
  (hf : ∀ (p : SP) (main : Option Addr) (run : List SP), f (some p.1, p.2) (main, run) = if (run ++ [p]).length == 17 then (flushM (run ++ [p]) main >>= fun m => pure (.yield (m, []))) else pure (.yield (main, run ++ [p])))
  (main : Option Addr) (rest : List (Option (Sem Value) × Sem Value)) : ∀ (c run : List SP), c ≠ [] → run.length + c.length = 17 →
   forIn (c.map (fun p => (some p.1, p.2)) ++ rest) (main, run) f = (flushM (run ++ c) main >>= fun m => forIn rest (m, []) f)
 | [], run, h, _ => absurd rfl h
 | [p], run, _, hl => by
  rw [List.map_cons, List.map_nil, List.singleton_append, List.forIn_cons, hf, if_pos (by simp at hl ⊢; omega)]
  rw [bind_assoc]
  refine congrArg (flushM (run ++ [p]) main >>= ·) (funext fun m => ?_)
  rfl
 | p :: q :: c, run, _, hl => by
  rw [List.map_cons, List.cons_append, List.forIn_cons, hf, if_neg (by simp at hl ⊢; omega)]
  have h := gather hf main rest (q :: c) (run ++ [p]) (by simp) (by simp at hl ⊢; omega)
  rw [List.append_assoc, List.singleton_append] at h
  exact h
theorem gatherEnd {f : Option (Sem Value) × Sem Value → DSt → Sem (ForInStep DSt)}
  (hf : ∀ (p : SP) (main : Option Addr) (run : List SP), f (some p.1, p.2) (main, run) = if (run ++ [p]).length == 17 then (flushM (run ++ [p]) main >>= fun m => pure (.yield (m, []))) else pure (.yield (main, run ++ [p])))
  (main : Option Addr) : ∀ (c run : List SP), run.length + c.length < 17 →
   forIn (c.map (fun p => (some p.1, p.2))) (main, run) f = (pure (main, run ++ c) : Sem DSt)
 | [], run, _ => by simp
 | p :: c, run, hl => by
  rw [List.map_cons, List.forIn_cons, hf, if_neg (by simp at hl ⊢; omega)]
  have h := gatherEnd hf main c (run ++ [p]) (by simp at hl ⊢; omega)
  rw [List.append_assoc, List.singleton_append] at h
  exact h
theorem display_eq (ps : List SP) : ∃ f : Option (Sem Value) × Sem Value → DSt → Sem (ForInStep DSt),
  (∀ (p : SP) (main : Option Addr) (run : List SP), f (some p.1, p.2) (main, run) = if (run ++ [p]).length == 17 then (flushM (run ++ [p]) main >>= fun m => pure (.yield (m, []))) else pure (.yield (main, run ++ [p]))) ∧
  dictDisplay (ps.map (fun p => (some p.1, p.2))) = (do
   let r ← forIn (ps.map (fun p => (some p.1, p.2))) ((none : Option Addr), ([] : List SP)) f
   match ← flushM r.2 r.1 with
   | some d => pure (.ref d)
   | none => newDict) := by
 refine Exists.intro ?f (And.intro ?h1 ?h2)
 case h2 =>
  unfold dictDisplay
  dsimp only
  rfl
 case h1 =>
  intro p main run
  rfl
end Mine
end
noncomputable section
open PySem PySem.W PyProof.Rows
namespace Mine
variable {w : World} {α β : Type}
theorem entsL_app : ∀ (t : Nat) (a c : List (Int × Str)), entsL t (a ++ c) = entsL t a ++ entsL (t + 3 * a.length) c
 | t, [], c => by simp [entsL]
 | t, p :: a, c => by
  show _ :: entsL (t + 3) (a ++ c) = _ :: (entsL (t + 3) a ++ _)
  rw [entsL_app (t + 3) a c, List.length_cons, show t + 3 + 3 * a.length = t + 3 * (a.length + 1) from by omega]
def subsL : Nat → List (List (Int × Str)) → List Obj
 | _, [] => []
 | t, c :: r => dO (entsL t c) c.length :: subsL (t + 3 * c.length) r
theorem hash_pw : ∀ (t : Nat) (ps : List (Int × Str)), Apart ps → (entsL t ps).Pairwise (fun a b => a.hash ≠ b.hash)
 | _, [], _ => .nil
 | t, p :: r, h => by
  refine List.pairwise_cons.mpr ⟨fun e he => ?_, hash_pw (t + 3) r (List.Pairwise.of_cons h)⟩
  obtain ⟨p', h1, h2⟩ := entsL_hash _ _ e he
  rw [h2]
  exact (List.pairwise_cons.mp h).1 p' h1
theorem hashS_pw : ∀ (t : Nat) (ps : List (Int × Str)), Apart ps → (entsS t ps).Pairwise (fun a b => a.hash ≠ b.hash)
 | _, [], _ => .nil
 | t, p :: r, h => by
  refine List.pairwise_cons.mpr ⟨fun e he => ?_, hashS_pw (t + 2) r (List.Pairwise.of_cons h)⟩
  obtain ⟨p', h1, h2⟩ := entsS_hash _ _ e he
  rw [h2]
  exact (List.pairwise_cons.mp h).1 p' h1
theorem Go.flush0 {s : Shared} {b : Heap} {pos : Pos} (hb : 11 ≤ b.objs.size) (ps : List (Int × Str)) (h17 : ps.length = 17) (ha : Apart ps) :
  Go w 400 (flushM (ps.map (pt pos)) none) (hs s b []) (some b.objs.size) (hs (tk s (3 * ps.length)) b [dO (entsL s.toks ps) ps.length]) := by
 unfold flushM
 rw [if_neg (by cases ps with | nil => simp at h17 | cons => simp)]
 dsimp only
 exact Go.bnd (N := 230) (N' := 0) (Go.subL (l := []) hb ps (by omega) (by omega) ha) Go.pure
theorem Go.flush1 {s : Shared} {b : Heap} {pos : Pos} {mid : List Obj} {es sub : List DictEntry} {n : Nat} (hb : 11 ≤ b.objs.size) (ps : List (Int × Str)) (h0 : ps ≠ []) (h17 : ps.length ≤ 17)
  (hsub : Go w 230 (subDict (ps.map (pt pos))) (hs s b (dO es n :: mid)) (b.objs.size + (mid.length + 1)) (hs (tk s (3 * ps.length)) b (dO es n :: (mid ++ [dO sub ps.length]))))
  (hi : ∀ e ∈ sub, ∃ h k u v, e = ⟨h, .int k u, v⟩) (hne : es ≠ []) (hlen : sub.length = ps.length)
  (hn : ∀ e ∈ es, ∀ e' ∈ sub, e.hash ≠ e'.hash) (hd : sub.Pairwise (fun a b => a.hash ≠ b.hash)) (hl : es.length + sub.length ≤ 5000) :
  Go w 400 (flushM (ps.map (pt pos)) (some b.objs.size)) (hs s b (dO es n :: mid)) (some b.objs.size) (hs (tk s (3 * ps.length)) b (dO (es ++ sub) (n + ps.length) :: (mid ++ [dO sub ps.length]))) := by
 unfold flushM
 rw [if_neg (by cases ps with | nil => exact absurd rfl h0 | cons => simp)]
 dsimp only
 refine Go.bnd (N := 230) (N' := 110) (Go.holding hsub) ?_
 have h := Go.merge (w := w) (s := tk s (3 * ps.length)) (b := b) (mid := mid) (es := es) (sub := sub) (n := n) (m := ps.length) hb hi hne hn hd hl (by omega)
 rw [hlen] at h
 exact Go.bnd (N := 110) (N' := 0) (Go.onRaise (Go.holding h)) Go.pure
theorem Go.chunks {b : Heap} {pos : Pos} (hb : 11 ≤ b.objs.size) {f : Option (Sem Value) × Sem Value → DSt → Sem (ForInStep DSt)}
  (hf : ∀ (p : SP) (main : Option Addr) (run : List SP), f (some p.1, p.2) (main, run) = if (run ++ [p]).length == 17 then (flushM (run ++ [p]) main >>= fun m => Pure.pure (ForInStep.yield (m, []))) else Pure.pure (ForInStep.yield (main, run ++ [p])))
  (last : List (Int × Str)) (hlast : last.length < 17) : ∀ (cs : List (List (Int × Str))) (s : Shared) (mid : List Obj) (done : List (Int × Str)) (t : Nat), (∀ c ∈ cs, c.length = 17) → done ≠ [] → Apart (done ++ cs.flatten) → (done ++ cs.flatten).length ≤ 5000 → s.toks = t + 3 * done.length →
   Go w (400 * cs.length) (forIn ((cs.flatten ++ last).map (fun p => (some (pt pos p).1, (pt pos p).2))) ((some b.objs.size : Option Addr), ([] : List SP)) f) (hs s b (dO (entsL t done) done.length :: mid))
    ((some b.objs.size : Option Addr), last.map (pt pos)) (hs (tk s (3 * cs.flatten.length)) b (dO (entsL t (done ++ cs.flatten)) (done ++ cs.flatten).length :: (mid ++ subsL s.toks cs)))
 | [], s, mid, done, t, _, _, _, _, _ => by
  have h := gatherEnd hf (some b.objs.size) (last.map (pt pos)) [] (by simp; omega)
  rw [List.map_map] at h
  simp only [List.flatten_nil, List.nil_append, List.append_nil, subsL, List.length_nil] at h ⊢
  rw [show (fun p => (some (pt pos p).1, (pt pos p).2)) = ((fun p : SP => (some p.1, p.2)) ∘ pt pos) from rfl, h]
  exact Go.pure
 | c :: cs, s, mid, done, t, hc, h0, ha, hl, ht => by
  have hc17 : c.length = 17 := hc c (List.mem_cons_self ..)
  have hcne : c ≠ [] := by intro e; rw [e] at hc17; cases hc17
  rw [List.flatten_cons, List.append_assoc, List.map_append]
  have h := gather hf (some b.objs.size) ((cs.flatten ++ last).map (fun p => (some (pt pos p).1, (pt pos p).2))) (c.map (pt pos)) [] (by simpa using hcne) (by simpa using hc17)
  rw [List.map_map] at h
  rw [show c.map (fun p => (some (pt pos p).1, (pt pos p).2)) = c.map ((fun p : SP => (some p.1, p.2)) ∘ pt pos) from rfl, h, List.nil_append]
  rw [List.flatten_cons, ← List.append_assoc] at ha hl
  have ha2 := List.pairwise_append.mp ha
  have ha3 := List.pairwise_append.mp ha2.1
  refine Go.bnd (N := 400) (N' := 400 * cs.length) (Go.flush1 (sub := entsL s.toks c) hb c hcne (by omega) ?_ (entsL_int _ _) ?_ (entsL_len _ _) ?_ (hash_pw _ _ ha3.2.1) ?_) ?_ (by simp only [List.length_cons]; omega)
  ·have := Go.subL (w := w) (s := s) (pos := pos) (l := dO (entsL t done) done.length :: mid) hb c (by omega) (by omega) ha3.2.1
   rw [List.length_cons] at this
   exact this
  ·intro e
   have := congrArg List.length e
   rw [entsL_len] at this
   exact h0 (List.length_eq_zero_iff.mp this)
  ·intro e he e' he'
   obtain ⟨p1, q1, q2⟩ := entsL_hash _ _ e he
   obtain ⟨p2, q3, q4⟩ := entsL_hash _ _ e' he'
   rw [q2, q4]
   exact ha3.2.2 p1 q1 p2 q3
  ·rw [entsL_len, entsL_len]
   simp only [List.length_append] at hl
   omega
  ·have hh := Go.chunks (pos := pos) hb hf last hlast cs (tk s (3 * c.length)) (mid ++ [dO (entsL s.toks c) c.length]) (done ++ c) t (fun x hx => hc x (List.mem_cons_of_mem _ hx)) (by simp [h0]) ha hl (by
    show s.toks + 3 * c.length = t + 3 * (done ++ c).length
    rw [ht, List.length_append]; omega)
   rw [tk_tk, List.append_assoc mid, List.singleton_append, entsL_app t done c, ← ht, List.length_append] at hh
   rw [← List.append_assoc done, List.length_append (as := c), show 3 * (c.length + cs.flatten.length) = 3 * c.length + 3 * cs.flatten.length from by omega]
   exact hh
theorem Go.display {s : Shared} {b : Heap} {pos : Pos} (hb : 11 ≤ b.objs.size) (first : List (Int × Str)) (cs : List (List (Int × Str))) (last : List (Int × Str))
  (h1 : first.length = 17) (hc : ∀ c ∈ cs, c.length = 17) (hl0 : last ≠ []) (hl1 : last.length ≤ 15) (ha : Apart (first ++ cs.flatten ++ last)) (hl : (first ++ cs.flatten ++ last).length ≤ 5000) :
  Go w (400 * (cs.length + 2)) (dictDisplay ((first ++ cs.flatten ++ last).map (fun p => (some (pt pos p).1, (pt pos p).2)))) (hs s b []) (.ref b.objs.size)
   (hs (tk s (3 * (first ++ cs.flatten ++ last).length)) b
    (dO (entsL s.toks (first ++ cs.flatten) ++ entsS (s.toks + 3 * (first ++ cs.flatten).length) last) (first ++ cs.flatten ++ last).length ::
     (subsL (s.toks + 51) cs ++ [dO (entsS (s.toks + 3 * (first ++ cs.flatten).length) last) last.length]))) := by
 have ha2 := List.pairwise_append.mp ha
 have ha3 := List.pairwise_append.mp ha2.1
 have hfne : first ≠ [] := by intro e; rw [e] at h1; cases h1
 obtain ⟨f, hf, he⟩ := display_eq ((first ++ cs.flatten ++ last).map (pt pos))
 rw [List.map_map] at he
 rw [show (first ++ cs.flatten ++ last).map (fun p => (some (pt pos p).1, (pt pos p).2)) = (first ++ cs.flatten ++ last).map ((fun p : SP => (some p.1, p.2)) ∘ pt pos) from rfl, he]
 have hg := gather hf none ((cs.flatten ++ last).map (fun p => (some (pt pos p).1, (pt pos p).2))) (first.map (pt pos)) [] (by simpa using hfne) (by simpa using h1)
 rw [List.map_map] at hg
 rw [List.append_assoc, List.map_append]
 rw [show (cs.flatten ++ last).map ((fun p : SP => (some p.1, p.2)) ∘ pt pos) = (cs.flatten ++ last).map (fun p => (some (pt pos p).1, (pt pos p).2)) from rfl, hg, List.nil_append, bind_assoc]
 refine Go.bnd (N := 400) (N' := 400 * (cs.length + 1)) (Go.flush0 hb first h1 ha3.1) ?_
 have hch := Go.chunks (w := w) (pos := pos) hb hf last (by omega) cs (tk s (3 * first.length)) [] first s.toks hc hfne ha2.1 (by simp only [List.length_append] at hl ⊢; omega) rfl
 rw [List.nil_append, tk_tk] at hch
 refine Go.bnd (N := 400 * cs.length) (N' := 400) hch ?_
 have hfl := Go.flush1 (w := w) (s := tk s (3 * first.length + 3 * cs.flatten.length)) (b := b) (pos := pos) (mid := subsL (tk s (3 * first.length)).toks cs) (es := entsL s.toks (first ++ cs.flatten))
  (sub := entsS (s.toks + 3 * (first ++ cs.flatten).length) last) (n := (first ++ cs.flatten).length) hb last hl0 (by omega) (by
   have := Go.subS (w := w) (s := tk s (3 * first.length + 3 * cs.flatten.length)) (pos := pos) (l := dO (entsL s.toks (first ++ cs.flatten)) (first ++ cs.flatten).length :: subsL (tk s (3 * first.length)).toks cs) hb last hl1 ha2.2.1
   rw [List.length_cons, show (tk s (3 * first.length + 3 * cs.flatten.length)).toks = s.toks + 3 * (first ++ cs.flatten).length from by rw [List.length_append]; show s.toks + _ = _; omega] at this
   exact this) (entsS_int _ _) (by
   intro e
   have := congrArg List.length e
   rw [entsL_len, List.length_append, h1] at this
   simp at this) (entsS_len _ _) (by
   intro e he e' he'
   obtain ⟨p1, q1, q2⟩ := entsL_hash _ _ e he
   obtain ⟨p2, q3, q4⟩ := entsS_hash _ _ e' he'
   rw [q2, q4]
   exact ha2.2.2 p1 q1 p2 q3) (hashS_pw _ _ ha2.2.1) (by rw [entsL_len, entsS_len]; simp only [List.length_append] at hl ⊢; omega)
 rw [tk_tk, show 3 * first.length + 3 * cs.flatten.length + 3 * last.length = 3 * (first ++ cs.flatten ++ last).length from by simp only [List.length_append]; omega,
  show (tk s (3 * first.length)).toks = s.toks + 51 from by show s.toks + 3 * first.length = _; rw [h1], ← List.length_append] at hfl
 rw [show (tk s (3 * first.length)).toks = s.toks + 51 from by show s.toks + 3 * first.length = _; rw [h1]]
 rw [List.append_assoc first cs.flatten last] at hfl
 exact Go.bnd (N := 400) (N' := 0) hfl Go.pure
end Mine
end
noncomputable section
open PySem PySem.W PyProof.Rows
namespace Mine
def pairsA : List (Option Expr) → List Expr → List (Int × Str)
 | some (.Constant (.int k) _ _) :: ks, .Constant (.str v) _ _ :: vs => (k, v) :: pairsA ks vs
 | _, _ => []
@[irreducible] def dStmt : Stmt := st 17
@[irreducible] def dKs : List (Option Expr) := match dStmt with | .Assign _ (.Dict ks _ _) _ => ks | _ => []
@[irreducible] def dVs : List Expr := match dStmt with | .Assign _ (.Dict _ vs _) _ => vs | _ => []
@[irreducible] def dPos : Pos := match dStmt with | .Assign _ (.Dict _ _ p) _ => p | _ => default
@[irreducible] def dPairs : List (Int × Str) := pairsA dKs dVs
@[irreducible] def chunk (i : Nat) : List (Int × Str) := (dPairs.drop (17 * i)).take 17
@[irreducible] def dCs : List (List (Int × Str)) := (List.range 37).map fun i => chunk (i + 1)
@[irreducible] def dLast : List (Int × Str) := dPairs.drop 646
@[irreducible] def dEnts : List DictEntry := entsL 432 (chunk 0 ++ dCs.flatten) ++ entsS (432 + 3 * (chunk 0 ++ dCs.flatten).length) dLast
@[irreducible] def dObjs : List Obj := dO dEnts 650 :: (subsL (432 + 51) dCs ++ [dO (entsS (432 + 3 * (chunk 0 ++ dCs.flatten).length) dLast) 4])
def bd (P : Params) (i : Nat) : Obj := (dObjs[i - 138]?).getD ⟨.none, none, .plain, #[]⟩
def risesFrom : Int → List (Int × Str) → Bool
 | _, [] => true
 | a, p :: r => decide (a < p.1) && decide (p.1 < 1000000000) && risesFrom p.1 r
theorem rises_gt : ∀ (ps : List (Int × Str)) (a : Int), risesFrom a ps = true → ∀ p ∈ ps, a < p.1 ∧ p.1 < 1000000000
 | [], _, _, _, h => nomatch h
 | p :: r, a, h, x, hx => by
  simp only [risesFrom, Bool.and_eq_true, decide_eq_true_eq] at h
  rcases List.mem_cons.mp hx with rfl | hx
  ·exact h.1
  ·have := rises_gt r p.1 h.2 x hx
   omega
theorem hash_small {k : Int} (h0 : 0 ≤ k) (h1 : k < 1000000000) : hashInt k = k := by
 unfold hashInt PySem.rawHash
 have : k.natAbs % (2 ^ 61 - 1) = k.natAbs := Nat.mod_eq_of_lt (by omega)
 simp only [this]
 split <;> split <;> simp_all <;> omega
theorem apart_of_rises : ∀ (ps : List (Int × Str)) (a : Int), 0 ≤ a → risesFrom a ps = true → Apart ps
 | [], _, _, _ => .nil
 | p :: r, a, h0, h => by
  have hh := h
  simp only [risesFrom, Bool.and_eq_true, decide_eq_true_eq] at h
  refine List.pairwise_cons.mpr ⟨fun x hx => ?_, apart_of_rises r p.1 (by omega) h.2⟩
  have q := rises_gt r p.1 h.2 x hx
  rw [hash_small (by omega) h.1.2, hash_small (by omega) q.2]
  omega
theorem dRises : risesFrom 0 dPairs = true := by kernel_rfl
theorem dSplit : dPairs = chunk 0 ++ dCs.flatten ++ dLast := by kernel_rfl
theorem dLen : dPairs.length = 650 := by kernel_rfl
theorem d17 : (dCs.all fun c => c.length == 17) = true := by kernel_rfl
theorem dShape : (evalEachOpt dKs envE).zip ((evalEach dVs envE).map fun v => do let x ← v; standAt dPos; pure x) = dPairs.map (fun p => (some (pt dPos p).1, (pt dPos p).2)) := by kernel_rfl
def insAll : BT → Nat → List Obj → BT
 | T, _, [] => T
 | T, n, o :: l => insAll (T.ins n o) (n + 1) l
def okAll : BT → Nat → List Obj → Bool
 | _, _, [] => true
 | T, n, o :: l => ((T.ins n o).get n).isSome && okAll (T.ins n o) (n + 1) l
theorem abs_insAll : ∀ (l : List Obj) (T : BT) (n : Nat) (life : Life), okAll T n l = true → absHeap (insAll T n l) (n + l.length) life = hp (absHeap T n life) l
 | [], T, n, life, _ => by
  show absHeap T n life = ⟨(absHeap T n life).objs ++ #[], (absHeap T n life).life⟩
  rw [Array.append_empty]
 | o :: l, T, n, life, h => by
  simp only [okAll, Bool.and_eq_true] at h
  have := abs_insAll l (T.ins n o) (n + 1) life h.2
  rw [List.length_cons, show n + (l.length + 1) = n + 1 + l.length from by omega]
  show absHeap (insAll (T.ins n o) (n + 1) l) (n + 1 + l.length) life = _
  rw [this, absHeap_ins h.1]
  show Heap.mk (((absHeap T n life).objs.push o) ++ l.toArray) _ = Heap.mk ((absHeap T n life).objs ++ (o :: l).toArray) _
  rw [show (absHeap T n life).objs.push o ++ l.toArray = (absHeap T n life).objs ++ (o :: l).toArray from by apply Array.ext'; simp]
  rfl
theorem dOk (P : Params) : okAll (T4 P) 138 dObjs = true := by kernel_rfl
def o3_5 (P : Params) : Obj := ⟨(.type "dict"), none, (.dict [en P "__name__" 165 (.str "cpy313.stringprep" 363), en P "__doc__" 166 .none, en P "__package__" 167 .none, en P "__loader__" 168 (.builtin "__main__.__loader__#opaque"), en P "__spec__" 169 .none, en P "__annotations__" 170 (.ref 6), en P "__builtins__" 171 (.ref 4), en P "__file__" 173 (.str "/claim/cut.py" 172), en P "__cached__" 174 .none, en P "_DIV_LIMIT" 190 (.int 4000 189), en P "_div2n1n" 207 (.ref 21), en P "_div3n2n" 221 (.ref 28), en P "_int2digits" 232 (.ref 35), en P "_digits2int" 243 (.ref 42), en P "_divmod_pos" 258 (.ref 49), en P "int_divmod" 268 (.ref 56), en P "_iter_escaped_chars" 280 (.ref 63), en P "_strip_quoted_realnames" 292 (.ref 70), en P "_check_parenthesis" 302 (.ref 77), en P "_netrclex" 362 (.ref 115), en P "b1_set" 424 (.ref 127), en P "in_table_b1" 431 (.ref 137), en P "b3_exceptions" 2382 (.ref 138)].toArray 23), #[]⟩
def T5 (P : Params) : BT := (N (boot_o_0 P) (N (boot_o_1 P) (N (o3_5 P) (N (boot_o_7 P) (N (o15 P) (N (o31 P) (N (o63 P) (N (o127 P) Z Z) Z) (N (o95 P) (N (bd P 159) Z Z) Z)) (N (o47 P) (N (o79 P) (N (bd P 143) Z Z) Z) (N (o111 P) (N (bd P 175) Z Z) Z))) (N (o23 P) (N (o39 P) (N (o71 P) (N (o135 P) Z Z) Z) (N (o103 P) (N (bd P 167) Z Z) Z)) (N (o55 P) (N (o87 P) (N (bd P 151) Z Z) Z) (N (o119 P) Z Z)))) (N (o11 P) (N (o19 P) (N (o35 P) (N (o67 P) (N (o131 P) Z Z) Z) (N (o99 P) (N (bd P 163) Z Z) Z)) (N (o51 P) (N (o83 P) (N (bd P 147) Z Z) Z) (N (o115 P) Z Z))) (N (o27 P) (N (o43 P) (N (o75 P) (N (bd P 139) Z Z) Z) (N (o107 P) (N (bd P 171) Z Z) Z)) (N (o59 P) (N (o91 P) (N (bd P 155) Z Z) Z) (N (o123 P) Z Z))))) (N (boot_o_5 P) (N (boot_o_9 P) (N (o17 P) (N (o33 P) (N (o65 P) (N (o129 P) Z Z) Z) (N (o97 P) (N (bd P 161) Z Z) Z)) (N (o49 P) (N (o81 P) (N (bd P 145) Z Z) Z) (N (o113 P) Z Z))) (N (o25 P) (N (o41 P) (N (o73 P) (N (o137 P) Z Z) Z) (N (o105 P) (N (bd P 169) Z Z) Z)) (N (o57 P) (N (o89 P) (N (bd P 153) Z Z) Z) (N (o121 P) Z Z)))) (N (o13 P) (N (o21 P) (N (o37 P) (N (o69 P) (N (o133 P) Z Z) Z) (N (o101 P) (N (bd P 165) Z Z) Z)) (N (o53 P) (N (o85 P) (N (bd P 149) Z Z) Z) (N (o117 P) Z Z))) (N (o29 P) (N (o45 P) (N (o77 P) (N (bd P 141) Z Z) Z) (N (o109 P) (N (bd P 173) Z Z) Z)) (N (o61 P) (N (o93 P) (N (bd P 157) Z Z) Z) (N (o125 P) Z Z)))))) (N (boot_o_2 P) (N (boot_o_4 P) (N (boot_o_8 P) (N (o16 P) (N (o32 P) (N (o64 P) (N (o128 P) Z Z) Z) (N (o96 P) (N (bd P 160) Z Z) Z)) (N (o48 P) (N (o80 P) (N (bd P 144) Z Z) Z) (N (o112 P) (N (bd P 176) Z Z) Z))) (N (o24 P) (N (o40 P) (N (o72 P) (N (o136 P) Z Z) Z) (N (o104 P) (N (bd P 168) Z Z) Z)) (N (o56 P) (N (o88 P) (N (bd P 152) Z Z) Z) (N (o120 P) Z Z)))) (N (o12_4 P) (N (o20 P) (N (o36 P) (N (o68 P) (N (o132 P) Z Z) Z) (N (o100 P) (N (bd P 164) Z Z) Z)) (N (o52 P) (N (o84 P) (N (bd P 148) Z Z) Z) (N (o116 P) Z Z))) (N (o28 P) (N (o44 P) (N (o76 P) (N (bd P 140) Z Z) Z) (N (o108 P) (N (bd P 172) Z Z) Z)) (N (o60 P) (N (o92 P) (N (bd P 156) Z Z) Z) (N (o124 P) Z Z))))) (N (boot_o_6 P) (N (boot_o_10 P) (N (o18 P) (N (o34 P) (N (o66 P) (N (o130 P) Z Z) Z) (N (o98 P) (N (bd P 162) Z Z) Z)) (N (o50 P) (N (o82 P) (N (bd P 146) Z Z) Z) (N (o114 P) Z Z))) (N (o26 P) (N (o42 P) (N (o74 P) (N (bd P 138) Z Z) Z) (N (o106 P) (N (bd P 170) Z Z) Z)) (N (o58 P) (N (o90 P) (N (bd P 154) Z Z) Z) (N (o122 P) Z Z)))) (N (o14 P) (N (o22 P) (N (o38 P) (N (o70 P) (N (o134 P) Z Z) Z) (N (o102 P) (N (bd P 166) Z Z) Z)) (N (o54 P) (N (o86 P) (N (bd P 150) Z Z) Z) (N (o118 P) Z Z))) (N (o30 P) (N (o46 P) (N (o78 P) (N (bd P 142) Z Z) Z) (N (o110 P) (N (bd P 174) Z Z) Z)) (N (o62 P) (N (o94 P) (N (bd P 158) Z Z) Z) (N (o126 P) Z Z)))))))
def o3_6 (P : Params) : Obj := ⟨(.type "dict"), none, (.dict [en P "__name__" 165 (.str "law_uc0048_02" 2391), en P "__doc__" 166 .none, en P "__package__" 167 .none, en P "__loader__" 168 (.builtin "__main__.__loader__#opaque"), en P "__spec__" 169 .none, en P "__annotations__" 170 (.ref 6), en P "__builtins__" 171 (.ref 4), en P "__file__" 173 (.str "/claim/cut.py" 172), en P "__cached__" 174 .none, en P "_DIV_LIMIT" 190 (.int 4000 189), en P "_div2n1n" 207 (.ref 21), en P "_div3n2n" 221 (.ref 28), en P "_int2digits" 232 (.ref 35), en P "_digits2int" 243 (.ref 42), en P "_divmod_pos" 258 (.ref 49), en P "int_divmod" 268 (.ref 56), en P "_iter_escaped_chars" 280 (.ref 63), en P "_strip_quoted_realnames" 292 (.ref 70), en P "_check_parenthesis" 302 (.ref 77), en P "_netrclex" 362 (.ref 115), en P "b1_set" 424 (.ref 127), en P "in_table_b1" 431 (.ref 137), en P "b3_exceptions" 2382 (.ref 138), en P "map_table_b3" 2390 (.ref 183), en P "_law_lexer" 2401 (.ref 190), en P "_law_drawn" 2407 (.ref 195), en P "_law_typed" 2417 (.ref 202), en P "_law_written" 2423 (.ref 207), en P "_law_mail" 2429 (.ref 212), en P "_law_figures" 2435 (.ref 217), en P "_law_value" 2450 (.ref 224), en P "_law_place" 2459 (.ref 231), en P "_law_normed" 2465 (.ref 236), en P "law" 2471 (.ref 241)].toArray 34), #[]⟩
def o12_5 (P : Params) : Obj := oF [(.int 3 0), (.int 0 0), (.ref 20), (.int 19 0), (.int 0 0), (.ref 27), (.int 29 0), (.int 0 0), (.ref 34), (.int 45 0), (.int 0 0), (.ref 41), (.int 54 0), (.int 0 0), (.ref 48), (.int 65 0), (.int 0 0), (.ref 55), (.int 77 0), (.int 0 0), (.ref 62), (.int 90 0), (.int 0 0), (.ref 69), (.int 108 0), (.int 0 0), (.ref 76), (.int 120 0), (.int 0 0), (.ref 83), (.int 165 0), (.int 0 0), (.ref 136), (.int 168 0), (.int 0 0), (.ref 182), (.int 174 0), (.int 0 0), (.ref 189), (.int 179 0), (.int 0 0), (.ref 194), (.int 187 0), (.int 0 0), (.ref 201), (.int 200 0), (.int 0 0), (.ref 206), (.int 205 0), (.int 0 0), (.ref 211), (.int 208 0), (.int 0 0), (.ref 216), (.int 211 0), (.int 0 0), (.ref 223), (.int 222 0), (.int 0 0), (.ref 230), (.int 227 0), (.int 0 0), (.ref 235), (.int 236 0), (.int 0 0), (.ref 240)]
def o177 (P : Params) : Obj := oT []
def o178 (P : Params) : Obj := oF []
def o179 (P : Params) : Obj := oT [(.str "code" 2386), (.str "r" 2387)]
def o180 (P : Params) : Obj := oT []
def o181 (P : Params) : Obj := ⟨.none, none, (.func (fd (st 18) "map_table_b3" 0 .none .none 0)), #[]⟩
def o182 (P : Params) : Obj := oC [(.str "map_table_b3" 2383), (.str "map_table_b3" 2384), (.str "/claim/cut.py" 2385), (.int 168 0), (.int 1 0), (.int 0 0), (.int 0 0), (.int 3 0), (.ref 177), (.bool true), (.int 181 0), (.ref 178), .none, (.ref 179), (.ref 180), (.ref 181), (.int 2388 0), (.int 168 0), (.str "/claim/cut.py" 2389)]
def o183 (P : Params) : Obj := ⟨(.type "function"), none, (.func (fd (st 18) "map_table_b3" 3 (.str "cpy313.stringprep" 363) (.ref 182) 0)), #[]⟩
def o184 (P : Params) : Obj := oT []
def o185 (P : Params) : Obj := oF []
def o186 (P : Params) : Obj := oT [(.str "text" 2396), (.str "stream" 2397)]
def o187 (P : Params) : Obj := oT [(.str "signs" 2398)]
def o188 (P : Params) : Obj := ⟨.none, none, (.func (fd (st 20) "_law_lexer" 0 .none .none 0)), #[]⟩
def o189 (P : Params) : Obj := oC [(.str "_law_lexer" 2393), (.str "_law_lexer" 2394), (.str "/claim/cut.py" 2395), (.int 174 0), (.int 1 0), (.int 0 0), (.int 0 0), (.int 3 0), (.ref 184), (.bool true), (.int 181 0), (.ref 185), .none, (.ref 186), (.ref 187), (.ref 188), (.int 2399 0), (.int 174 0), (.str "/claim/cut.py" 2400)]
def o190 (P : Params) : Obj := ⟨(.type "function"), none, (.func (fd (st 20) "_law_lexer" 3 (.str "law_uc0048_02" 2391) (.ref 189) 0)), #[]⟩
def o191 (P : Params) : Obj := oT []
def o192 (P : Params) : Obj := oF []
def o193 (P : Params) : Obj := ⟨.none, none, (.func (fd (st 21) "_law_drawn" 0 .none .none 0)), #[]⟩
def o194 (P : Params) : Obj := oC [(.str "_law_drawn" 2402), (.str "_law_drawn" 2403), (.str "/claim/cut.py" 2404), (.int 179 0), (.int 2 0), (.int 0 0), (.int 0 0), (.int 3 0), (.ref 191), (.bool true), (.int 181 0), (.ref 192), .none, .none, .none, (.ref 193), (.int 2405 0), (.int 179 0), (.str "/claim/cut.py" 2406)]
def o195 (P : Params) : Obj := ⟨(.type "function"), none, (.func (fd (st 21) "_law_drawn" 3 (.str "law_uc0048_02" 2391) (.ref 194) 0)), #[]⟩
def o196 (P : Params) : Obj := oT []
def o197 (P : Params) : Obj := oF []
def o198 (P : Params) : Obj := oT [(.str "text" 2411), (.str "way" 2412), (.str "word" 2413), (.str "choice" 2414)]
def o199 (P : Params) : Obj := oT []
def o200 (P : Params) : Obj := ⟨.none, none, (.func (fd (st 22) "_law_typed" 0 .none .none 0)), #[]⟩
def o201 (P : Params) : Obj := oC [(.str "_law_typed" 2408), (.str "_law_typed" 2409), (.str "/claim/cut.py" 2410), (.int 187 0), (.int 2 0), (.int 0 0), (.int 0 0), (.int 3 0), (.ref 196), (.bool true), (.int 181 0), (.ref 197), .none, (.ref 198), (.ref 199), (.ref 200), (.int 2415 0), (.int 187 0), (.str "/claim/cut.py" 2416)]
def o202 (P : Params) : Obj := ⟨(.type "function"), none, (.func (fd (st 22) "_law_typed" 3 (.str "law_uc0048_02" 2391) (.ref 201) 0)), #[]⟩
def o203 (P : Params) : Obj := oT []
def o204 (P : Params) : Obj := oF []
def o205 (P : Params) : Obj := ⟨.none, none, (.func (fd (st 23) "_law_written" 0 .none .none 0)), #[]⟩
def o206 (P : Params) : Obj := oC [(.str "_law_written" 2418), (.str "_law_written" 2419), (.str "/claim/cut.py" 2420), (.int 200 0), (.int 2 0), (.int 0 0), (.int 0 0), (.int 3 0), (.ref 203), (.bool true), (.int 181 0), (.ref 204), .none, .none, .none, (.ref 205), (.int 2421 0), (.int 200 0), (.str "/claim/cut.py" 2422)]
def o207 (P : Params) : Obj := ⟨(.type "function"), none, (.func (fd (st 23) "_law_written" 3 (.str "law_uc0048_02" 2391) (.ref 206) 0)), #[]⟩
def o208 (P : Params) : Obj := oT []
def o209 (P : Params) : Obj := oF []
def o210 (P : Params) : Obj := ⟨.none, none, (.func (fd (st 24) "_law_mail" 0 .none .none 0)), #[]⟩
def o211 (P : Params) : Obj := oC [(.str "_law_mail" 2424), (.str "_law_mail" 2425), (.str "/claim/cut.py" 2426), (.int 205 0), (.int 1 0), (.int 0 0), (.int 0 0), (.int 3 0), (.ref 208), (.bool true), (.int 181 0), (.ref 209), .none, .none, .none, (.ref 210), (.int 2427 0), (.int 205 0), (.str "/claim/cut.py" 2428)]
def o212 (P : Params) : Obj := ⟨(.type "function"), none, (.func (fd (st 24) "_law_mail" 3 (.str "law_uc0048_02" 2391) (.ref 211) 0)), #[]⟩
def o213 (P : Params) : Obj := oT []
def o214 (P : Params) : Obj := oF []
def o215 (P : Params) : Obj := ⟨.none, none, (.func (fd (st 25) "_law_figures" 0 .none .none 0)), #[]⟩
def o216 (P : Params) : Obj := oC [(.str "_law_figures" 2430), (.str "_law_figures" 2431), (.str "/claim/cut.py" 2432), (.int 208 0), (.int 3 0), (.int 0 0), (.int 0 0), (.int 3 0), (.ref 213), (.bool true), (.int 181 0), (.ref 214), .none, .none, .none, (.ref 215), (.int 2433 0), (.int 208 0), (.str "/claim/cut.py" 2434)]
def o217 (P : Params) : Obj := ⟨(.type "function"), none, (.func (fd (st 25) "_law_figures" 3 (.str "law_uc0048_02" 2391) (.ref 216) 0)), #[]⟩
def o218 (P : Params) : Obj := oT []
def o219 (P : Params) : Obj := oF []
def o220 (P : Params) : Obj := oT [(.str "text" 2439), (.str "width" 2440), (.str "inner" 2441), (.str "cut" 2442), (.str "many" 2443), (.str "left" 2444), (.str "much" 2445), (.str "right" 2446), (.str "first" 2447)]
def o221 (P : Params) : Obj := oT []
def o222 (P : Params) : Obj := ⟨.none, none, (.func (fd (st 26) "_law_value" 0 .none .none 0)), #[]⟩
def o223 (P : Params) : Obj := oC [(.str "_law_value" 2436), (.str "_law_value" 2437), (.str "/claim/cut.py" 2438), (.int 211 0), (.int 2 0), (.int 0 0), (.int 0 0), (.int 3 0), (.ref 218), (.bool true), (.int 181 0), (.ref 219), .none, (.ref 220), (.ref 221), (.ref 222), (.int 2448 0), (.int 211 0), (.str "/claim/cut.py" 2449)]
def o224 (P : Params) : Obj := ⟨(.type "function"), none, (.func (fd (st 26) "_law_value" 3 (.str "law_uc0048_02" 2391) (.ref 223) 0)), #[]⟩
def o225 (P : Params) : Obj := oT []
def o226 (P : Params) : Obj := oF []
def o227 (P : Params) : Obj := oT [(.str "word" 2454), (.str "place" 2455), (.str "letter" 2456)]
def o228 (P : Params) : Obj := oT []
def o229 (P : Params) : Obj := ⟨.none, none, (.func (fd (st 27) "_law_place" 0 .none .none 0)), #[]⟩
def o230 (P : Params) : Obj := oC [(.str "_law_place" 2451), (.str "_law_place" 2452), (.str "/claim/cut.py" 2453), (.int 222 0), (.int 1 0), (.int 0 0), (.int 0 0), (.int 3 0), (.ref 225), (.bool true), (.int 181 0), (.ref 226), .none, (.ref 227), (.ref 228), (.ref 229), (.int 2457 0), (.int 222 0), (.str "/claim/cut.py" 2458)]
def o231 (P : Params) : Obj := ⟨(.type "function"), none, (.func (fd (st 27) "_law_place" 3 (.str "law_uc0048_02" 2391) (.ref 230) 0)), #[]⟩
def o232 (P : Params) : Obj := oT []
def o233 (P : Params) : Obj := oF []
def o234 (P : Params) : Obj := ⟨.none, none, (.func (fd (st 28) "_law_normed" 0 .none .none 0)), #[]⟩
def o235 (P : Params) : Obj := oC [(.str "_law_normed" 2460), (.str "_law_normed" 2461), (.str "/claim/cut.py" 2462), (.int 227 0), (.int 2 0), (.int 0 0), (.int 0 0), (.int 3 0), (.ref 232), (.bool true), (.int 181 0), (.ref 233), .none, .none, .none, (.ref 234), (.int 2463 0), (.int 227 0), (.str "/claim/cut.py" 2464)]
def o236 (P : Params) : Obj := ⟨(.type "function"), none, (.func (fd (st 28) "_law_normed" 3 (.str "law_uc0048_02" 2391) (.ref 235) 0)), #[]⟩
def o237 (P : Params) : Obj := oT []
def o238 (P : Params) : Obj := oF []
def o239 (P : Params) : Obj := ⟨.none, none, (.func (fd (st 29) "law" 0 .none .none 0)), #[]⟩
def o240 (P : Params) : Obj := oC [(.str "law" 2466), (.str "law" 2467), (.str "/claim/cut.py" 2468), (.int 236 0), (.int 1 0), (.int 0 0), (.int 0 0), (.int 3 0), (.ref 237), (.bool true), (.int 181 0), (.ref 238), .none, .none, .none, (.ref 239), (.int 2469 0), (.int 236 0), (.str "/claim/cut.py" 2470)]
def o241 (P : Params) : Obj := ⟨(.type "function"), none, (.func (fd (st 29) "law" 3 (.str "law_uc0048_02" 2391) (.ref 240) 0)), #[]⟩
def T6 (P : Params) : BT := (N (boot_o_0 P) (N (boot_o_1 P) (N (o3_6 P) (N (boot_o_7 P) (N (o15 P) (N (o31 P) (N (o63 P) (N (o127 P) Z Z) (N (o191 P) Z Z)) (N (o95 P) (N (bd P 159) Z Z) (N (o223 P) Z Z))) (N (o47 P) (N (o79 P) (N (bd P 143) Z Z) (N (o207 P) Z Z)) (N (o111 P) (N (bd P 175) Z Z) (N (o239 P) Z Z)))) (N (o23 P) (N (o39 P) (N (o71 P) (N (o135 P) Z Z) (N (o199 P) Z Z)) (N (o103 P) (N (bd P 167) Z Z) (N (o231 P) Z Z))) (N (o55 P) (N (o87 P) (N (bd P 151) Z Z) (N (o215 P) Z Z)) (N (o119 P) (N (o183 P) Z Z) Z)))) (N (o11 P) (N (o19 P) (N (o35 P) (N (o67 P) (N (o131 P) Z Z) (N (o195 P) Z Z)) (N (o99 P) (N (bd P 163) Z Z) (N (o227 P) Z Z))) (N (o51 P) (N (o83 P) (N (bd P 147) Z Z) (N (o211 P) Z Z)) (N (o115 P) (N (o179 P) Z Z) Z))) (N (o27 P) (N (o43 P) (N (o75 P) (N (bd P 139) Z Z) (N (o203 P) Z Z)) (N (o107 P) (N (bd P 171) Z Z) (N (o235 P) Z Z))) (N (o59 P) (N (o91 P) (N (bd P 155) Z Z) (N (o219 P) Z Z)) (N (o123 P) (N (o187 P) Z Z) Z))))) (N (boot_o_5 P) (N (boot_o_9 P) (N (o17 P) (N (o33 P) (N (o65 P) (N (o129 P) Z Z) (N (o193 P) Z Z)) (N (o97 P) (N (bd P 161) Z Z) (N (o225 P) Z Z))) (N (o49 P) (N (o81 P) (N (bd P 145) Z Z) (N (o209 P) Z Z)) (N (o113 P) (N (o177 P) Z Z) (N (o241 P) Z Z)))) (N (o25 P) (N (o41 P) (N (o73 P) (N (o137 P) Z Z) (N (o201 P) Z Z)) (N (o105 P) (N (bd P 169) Z Z) (N (o233 P) Z Z))) (N (o57 P) (N (o89 P) (N (bd P 153) Z Z) (N (o217 P) Z Z)) (N (o121 P) (N (o185 P) Z Z) Z)))) (N (o13 P) (N (o21 P) (N (o37 P) (N (o69 P) (N (o133 P) Z Z) (N (o197 P) Z Z)) (N (o101 P) (N (bd P 165) Z Z) (N (o229 P) Z Z))) (N (o53 P) (N (o85 P) (N (bd P 149) Z Z) (N (o213 P) Z Z)) (N (o117 P) (N (o181 P) Z Z) Z))) (N (o29 P) (N (o45 P) (N (o77 P) (N (bd P 141) Z Z) (N (o205 P) Z Z)) (N (o109 P) (N (bd P 173) Z Z) (N (o237 P) Z Z))) (N (o61 P) (N (o93 P) (N (bd P 157) Z Z) (N (o221 P) Z Z)) (N (o125 P) (N (o189 P) Z Z) Z)))))) (N (boot_o_2 P) (N (boot_o_4 P) (N (boot_o_8 P) (N (o16 P) (N (o32 P) (N (o64 P) (N (o128 P) Z Z) (N (o192 P) Z Z)) (N (o96 P) (N (bd P 160) Z Z) (N (o224 P) Z Z))) (N (o48 P) (N (o80 P) (N (bd P 144) Z Z) (N (o208 P) Z Z)) (N (o112 P) (N (bd P 176) Z Z) (N (o240 P) Z Z)))) (N (o24 P) (N (o40 P) (N (o72 P) (N (o136 P) Z Z) (N (o200 P) Z Z)) (N (o104 P) (N (bd P 168) Z Z) (N (o232 P) Z Z))) (N (o56 P) (N (o88 P) (N (bd P 152) Z Z) (N (o216 P) Z Z)) (N (o120 P) (N (o184 P) Z Z) Z)))) (N (o12_5 P) (N (o20 P) (N (o36 P) (N (o68 P) (N (o132 P) Z Z) (N (o196 P) Z Z)) (N (o100 P) (N (bd P 164) Z Z) (N (o228 P) Z Z))) (N (o52 P) (N (o84 P) (N (bd P 148) Z Z) (N (o212 P) Z Z)) (N (o116 P) (N (o180 P) Z Z) Z))) (N (o28 P) (N (o44 P) (N (o76 P) (N (bd P 140) Z Z) (N (o204 P) Z Z)) (N (o108 P) (N (bd P 172) Z Z) (N (o236 P) Z Z))) (N (o60 P) (N (o92 P) (N (bd P 156) Z Z) (N (o220 P) Z Z)) (N (o124 P) (N (o188 P) Z Z) Z))))) (N (boot_o_6 P) (N (boot_o_10 P) (N (o18 P) (N (o34 P) (N (o66 P) (N (o130 P) Z Z) (N (o194 P) Z Z)) (N (o98 P) (N (bd P 162) Z Z) (N (o226 P) Z Z))) (N (o50 P) (N (o82 P) (N (bd P 146) Z Z) (N (o210 P) Z Z)) (N (o114 P) (N (o178 P) Z Z) Z))) (N (o26 P) (N (o42 P) (N (o74 P) (N (bd P 138) Z Z) (N (o202 P) Z Z)) (N (o106 P) (N (bd P 170) Z Z) (N (o234 P) Z Z))) (N (o58 P) (N (o90 P) (N (bd P 154) Z Z) (N (o218 P) Z Z)) (N (o122 P) (N (o186 P) Z Z) Z)))) (N (o14 P) (N (o22 P) (N (o38 P) (N (o70 P) (N (o134 P) Z Z) (N (o198 P) Z Z)) (N (o102 P) (N (bd P 166) Z Z) (N (o230 P) Z Z))) (N (o54 P) (N (o86 P) (N (bd P 150) Z Z) (N (o214 P) Z Z)) (N (o118 P) (N (o182 P) Z Z) Z))) (N (o30 P) (N (o46 P) (N (o78 P) (N (bd P 142) Z Z) (N (o206 P) Z Z)) (N (o110 P) (N (bd P 174) Z Z) (N (o238 P) Z Z))) (N (o62 P) (N (o94 P) (N (bd P 158) Z Z) (N (o222 P) Z Z)) (N (o126 P) (N (o190 P) Z Z) Z)))))))
end Mine
end
noncomputable section
open PySem PySem.W PyProof.Rows
namespace Mine
@[irreducible] def dTgt : Str := match dStmt with | .Assign [.Name x _] _ _ => x | _ => Str.empty
@[irreducible] def dTp : Pos := match dStmt with | .Assign [.Name _ p] _ _ => p | _ => default
@[irreducible] def dSp : Pos := match dStmt with | .Assign _ _ p => p | _ => default
def restOfAssign (env : Env) (x : Str) (p : Pos) (v : Value) : Sem Flow := do standAt p; bindName env x v; pure Flow.next
theorem execs_one (s : Stmt) (env : Env) : execs [s] env = exec s env := by
 rw [execs_cons]
 refine (congrArg (exec s env >>= ·) (funext fun f => ?_)).trans (bind_pure _)
 cases f <;> rfl
theorem execs_assign (env : Env) (x : Str) (p pos : Pos) (value : Expr) (hs : swapsWith value (some (.Name x p)) pos.line env = pure false) :
  execs [.Assign [.Name x p] value pos] env = (do standAt pos; eval value env) >>= restOfAssign env x p := by
 rw [execs_one, exec_Assign_Name env x p value pos hs, bind_assoc]
 rfl
def dRest (v : Value) : Sem Flow := restOfAssign envE dTgt dTp v
theorem dEq : dStmt = .Assign [.Name dTgt dTp] (.Dict dKs dVs dPos) dSp := by kernel_rfl
theorem dSw : swapsWith (.Dict dKs dVs dPos) (some (.Name dTgt dTp)) dSp.line envE = pure false := by kernel_rfl
theorem dExec : execs [dStmt] envE = (do standAt dSp; eval (.Dict dKs dVs dPos) envE) >>= dRest := by
 rw [dEq]
 exact execs_assign _ _ _ _ _ dSw
theorem d4 : dLast.length = 4 := by kernel_rfl
theorem d37 : dCs.length = 37 := by kernel_rfl
theorem d0 : (chunk 0).length = 17 := by kernel_rfl
theorem d39 : 138 + dObjs.length = 177 := by kernel_rfl
theorem dObjs_eq : dObjs = dO (entsL 432 (chunk 0 ++ dCs.flatten) ++ entsS (432 + 3 * (chunk 0 ++ dCs.flatten).length) dLast) 650 :: (subsL (432 + 51) dCs ++ [dO (entsS (432 + 3 * (chunk 0 ++ dCs.flatten).length) dLast) 4]) := by kernel_rfl
theorem dRun (w : World) (os : OsState) (pos : Pos) : ∃ n, n ≤ 16000 ∧ ∃ pos', sg w n (sh (T4 w.params) 138 432 os).abs (piecesOf [dStmt] envE cE pos B0) =
  some ((sh (insAll (T4 w.params) 138 dObjs) 177 2382 os).abs, ⟨(dRest (.ref 138)).wrap doneF deadEnd id id, cE, pos', B0⟩) := by
 have hsz : (absHeap (T4 w.params) 138 {}).objs.size = 138 := absHeap_size ..
 have hd := Go.display (w := w) (s := (sh (T4 w.params) 138 432 os).abs) (b := absHeap (T4 w.params) 138 {}) (pos := dPos) (by rw [hsz]; decide) (chunk 0) dCs dLast d0
  (fun c hc => by have := List.all_eq_true.mp d17 c hc; simpa using this) (by intro e; have := d4; rw [e] at this; cases this) (by rw [d4]; decide) (by rw [← dSplit]; exact apart_of_rises _ 0 (by decide) dRises) (by rw [← dSplit, dLen]; decide)
 rw [← dSplit, ← dShape, hsz] at hd
 have hg : Go w 15701 (do standAt dSp; eval (.Dict dKs dVs dPos) envE) (sh (T4 w.params) 138 432 os).abs (.ref 138) (sh (insAll (T4 w.params) 138 dObjs) 177 2382 os).abs := by
  have e1 : hs (sh (T4 w.params) 138 432 os).abs (absHeap (T4 w.params) 138 {}) [] = (sh (T4 w.params) 138 432 os).abs := by
   show Shared.mk (Heap.mk ((absHeap (T4 w.params) 138 {}).objs ++ #[]) _) _ _ _ _ = _
   rw [Array.append_empty]
   rfl
  have e2 : (sh (insAll (T4 w.params) 138 dObjs) 177 2382 os).abs = hs (tk (sh (T4 w.params) 138 432 os).abs (3 * dPairs.length)) (absHeap (T4 w.params) 138 {}) dObjs := by
   have := abs_insAll dObjs (T4 w.params) 138 {} (dOk w.params)
   rw [d39] at this
   show Shared.mk (absHeap (insAll (T4 w.params) 138 dObjs) 177 {}) _ _ _ _ = Shared.mk (hp (absHeap (T4 w.params) 138 {}) dObjs) _ _ _ _
   rw [this, dLen]
   rfl
  rw [e1] at hd
  refine Go.bnd (N := 1) (N' := 15700) Go.standAt ?_
  rw [arm_eval_Dict]
  refine Go.bnd (N := 1) (N' := 15600) Go.standAt ?_
  rw [e2]
  have e3 : (hs (tk (sh (T4 w.params) 138 432 os).abs (3 * dPairs.length)) (absHeap (T4 w.params) 138 {}) dObjs) = (hs (tk (sh (T4 w.params) 138 432 os).abs (3 * dPairs.length)) (absHeap (T4 w.params) 138 {})
    (dO (entsL (sh (T4 w.params) 138 432 os).abs.toks (chunk 0 ++ dCs.flatten) ++ entsS ((sh (T4 w.params) 138 432 os).abs.toks + 3 * (chunk 0 ++ dCs.flatten).length) dLast) dPairs.length ::
     (subsL ((sh (T4 w.params) 138 432 os).abs.toks + 51) dCs ++ [dO (entsS ((sh (T4 w.params) 138 432 os).abs.toks + 3 * (chunk 0 ++ dCs.flatten).length) dLast) dLast.length]))) := by
   rw [dLen, d4, dObjs_eq]
   rfl
  rw [e3]
  exact Go.mono hd (by rw [d37]; decide)
 obtain ⟨n, pos', hn, e⟩ := hg (fun v => (dRest v).wrap doneF deadEnd id id) deadEnd id id pos
 refine ⟨n, Nat.le_trans hn (by decide), pos', ?_⟩
 show sg w n _ ⟨(execs [dStmt] envE).wrap doneF deadEnd id id, cE, pos, B0⟩ = _
 rw [dExec, Sem.bind_eq_wrap', Sem.wrap_wrap]
 exact e
theorem dEnd (w : World) (os : OsState) (pos : Pos) : segRunT treeTable PR w 11 (some (.ref 6)) 1 30 (sh (insAll (T4 w.params) 138 dObjs) 177 2382 os) ⟨(dRest (.ref 138)).wrap doneF deadEnd id id, cE, pos, B0⟩ = some (.next, sh (T5 w.params) 177 2383 os, cE, ⟨167, 0, 167, 13⟩) := by
 kernel_rfl
theorem piece6 (w : World) (os : OsState) : segRunT treeTable PR w 11 (some (.ref 6)) 1 327 (sh (T5 w.params) 177 2383 os) (piecesOf [st 18, st 19, st 20, st 21, st 22, st 23, st 24, st 25, st 26, st 27, st 28, st 29] envE cE ⟨167, 0, 167, 13⟩ B0) = some (.next, sh (T6 w.params) 242 2472 os, cE, ⟨236, 0, 263, 130⟩) := by
 kernel_rfl
end Mine
end
noncomputable section
open PySem PySem.W PyProof.Rows
namespace Mine
def H1 (P : Params) : Heap := absHeap (T6 P) 242 {}
abbrev tR (w : World) := topRun treeTable PR w 11 (some (.ref 6))
theorem preRun (w : World) (os : OsState) : topGo treeTable PR w 11 (some (.ref 6)) 12 ⟨boot_heap w.params, #[], boot_drawn, boot_toks, os⟩ (topStub PR) = some ((sh (T0 w.params) 15 187 os).abs, ⟨denote treeTable cE, cE, q0, B0⟩) := by
 kernel_rfl
theorem blockRun (w : World) (os : OsState) : segRun treeTable PR w 11 (some (.ref 6)) 1 1 (sh (T0 w.params) 15 187 os).abs (blockOf (behindTheImports PR) envE cE q0 B0) = some (.next, (sh (T0 w.params) 15 187 os).abs, cE, q0) := by
 kernel_rfl
theorem bodyIs : behindTheImports PR = [st 0, st 1, st 2, st 3, st 4, st 5, st 6, st 7] ++ ([st 8, st 9, st 10, st 11] ++ ([st 12, st 13] ++ ([st 14, st 15, st 16] ++ ([dStmt] ++ ([st 18, st 19, st 20, st 21, st 22, st 23, st 24, st 25, st 26, st 27, st 28, st 29] ++ []))))) := by
 kernel_rfl
theorem endRun (w : World) (os : OsState) : tR w 2 (sh (T6 w.params) 242 2472 os).abs ⟨doneF .next, cE, ⟨236, 0, 263, 130⟩, B0⟩ = some (sh (T6 w.params) 242 2472 os).abs := by
 kernel_rfl
theorem allRun (w : World) (os : OsState) : tR w 20000 ⟨boot_heap w.params, #[], boot_drawn, boot_toks, os⟩ (topStub PR) = some (sh (T6 w.params) 242 2472 os).abs := by
 have h6 := piece_app (q := q0) (rest := []) (segRun_of (piece6 w os)) (piece_nil (endRun w os))
 obtain ⟨n, hn, pos', e⟩ := dRun w os ⟨165, 0, 166, 30⟩
 have h5 := piece_app (q := q0) (l := [dStmt]) (seg_go e (segRun_of (dEnd w os pos'))) h6
 have h4 := piece_app (q := q0) (segRun_of (piece4 w os)) h5
 have h3 := piece_app (q := q0) (segRun_of (piece3 w os)) h4
 have h2 := piece_app (q := q0) (segRun_of (piece2 w os)) h3
 have h1 := piece_app (q := q0) (segRun_of (piece1 w os)) h2
 rw [← bodyIs] at h1
 have h0 := piece_block (blockRun w os) h1
 have h := go_top (preRun w os) h0
 obtain ⟨k, hk⟩ : ∃ k, 20000 = 12 + (1 + (229 + (108 + (333 + (1037 + (n + 30 + (327 + 2))))))) + k := ⟨20000 - (12 + (1 + (229 + (108 + (333 + (1037 + (n + 30 + (327 + 2)))))))), by omega⟩
 rw [tR, hk]
 exact topRun_mono k _ _ _ _ h
end Mine
end
noncomputable section
open PySem PySem.W PyProof.Rows
namespace Mine
abbrev qP : Program := { PR with main := { PR.main with body := [st 29] } }
def looseP : List Str := PR.boundNames.filter (fun n => n != ("law" : Str))
theorem look1 (w : World) (os : OsState) : (staticsOk (importedModules PR.main.body) (boot_heap w.params) (H1 w.params) && namesBound PR (H1 w.params) && gensDone ⟨H1 w.params, #[], boot_drawn, 2472, os⟩ && laidKept (boot_heap w.params) (H1 w.params)) = true := by
 kernel_rfl
theorem look2 (w : World) (os : OsState) : openSeen qP looseP (importedModules PR.main.body) (fun _ => true) true ⟨H1 w.params, #[], boot_drawn, 2472, os⟩ = openGood qP looseP := by
 kernel_rfl
end Mine
end
noncomputable section
open PySem PySem.W PySem.W.X PyProof.Rows
namespace Mine
theorem left : LeftO PR qP looseP (fun _ => true) (fun s => s.heap) (fun w => H1 w.params) 20000 := by
 refine LeftO.of_pieces (H₀ := boot_heap) (H₁ := H1) (gs₀ := #[]) (gs₁ := #[]) (d₀ := boot_drawn) (d₁ := boot_drawn) (k₀ := boot_toks) (k₁ := 2472) (m₀ := 11) (ann := some (.ref 6)) (M := 20000) ?_ ?_ ?_ (by decide) ?_
 ·exact boot_open (by kernel_rfl) (by decide) (fun s => by kernel_rfl)
 ·intro w; kernel_rfl
 ·intro w os; exact allRun w os
 ·intro w
  funext os
  rw [look1 w os, look2 w os]
def lawD : DefRec := match st 29 with
 | .FunctionDef n a b _ _ _ sc _ _ p => ⟨n, a, b, sc, p⟩
 | _ => ⟨Str.empty, default, [], default, default⟩
theorem barePR : PR.bare := ⟨rfl, rfl, rfl, rfl, rfl, by decide +kernel⟩
set_option maxHeartbeats 4000000 in
theorem heads (hw : PySem.Challenge.rw_uc0048_02.row.toRowW.promised) (call : WalkX qP looseP (fun _ _ => True) (fun s => s.heap) (fun w => H1 w.params) PySem.Challenge.rw_uc0048_02.row.toRowW lawD [] fun f vs => PySem.call f vs) : PySem.Challenge.rw_uc0048_02.Holds := by
 o_law
 rename_i said
 refine holds_openX (q := qP) (loose := looseP) (Xt := fun _ => true) (XP := fun _ _ => True) (Yf := fun s => s.heap) (Ya := fun w => H1 w.params) (N := 20000) (d := lawD) (kwd := []) left (fun _ _ => trivial) (fun _ _ _ _ _ => trivial) ?_ ?_ ?_ ?_ ?_ said ?_ ?_ hw call
 ·kernel_rfl
 ·kernel_rfl
 ·kernel_rfl
 ·exact fun s _ => recFacts_of (R := []) rfl
 ·kernel_rfl
 ·decide +kernel
 ·exact barePR
theorem witness : PySem.Challenge.rw_uc0048_02.row.toRowW.promised := by
 w_witness2
end Mine
end
section
open PySem PyProof.Rows
namespace Mine
local macro_rules | `(tactic| walk_at "mem") => `(tactic| (repeat (first | with_reducible exact List.mem_cons_self | with_reducible refine' List.mem_cons_of_mem _ ?_)))
local macro_rules | `(tactic| walk_at "mema") => `(tactic| first | with_reducible assumption | (walk_at "mem"; done))
local macro_rules | `(tactic| walk_at "put") => `(tactic| (repeat (first | with_reducible exact Put.here | with_reducible apply Put.there)))
local macro_rules | `(tactic| walk_at "pute") => `(tactic| (repeat (first | with_reducible exact PutE.nil | ((with_reducible apply PutE.cons); (focus (walk_at "put"; done))))))
local macro_rules | `(tactic| walk_at "putall") => `(tactic| (repeat (first | with_reducible exact PutAll.nil | ((with_reducible apply PutAll.cons); (focus (walk_at "put"; done))))))
local macro_rules | `(tactic| walk_at "chg") => `(tactic| (repeat (first | with_reducible exact Chg.here | with_reducible apply Chg.there)))
local macro_rules | `(tactic| walk_at "rem") => `(tactic| (repeat (first | with_reducible exact Rem.here | with_reducible apply Rem.there)))
local macro_rules | `(tactic| walk_at "pick") => `(tactic| (repeat (first | with_reducible exact Pick.refl | with_reducible exact Pick.nil | ((with_reducible apply Pick.cons); (focus (walk_at "rem"; done))) | with_reducible apply Pick.skip)))
local macro_rules | `(tactic| walk_at "subl") => `(tactic| (repeat (first | with_reducible exact List.Sublist.refl _ | with_reducible apply List.Sublist.cons_cons | with_reducible apply List.Sublist.cons)))
local macro_rules | `(tactic| walk_at "ty") => `(tactic| first
 | exact ty_int
 | exact ty_str
 | ((with_reducible refine' ty_list ?sa); (case sa => walk_at "mema"))
 | ((with_reducible show List.length _ ≤ sizeLine); exact Nat.le_of_ble_eq_true rfl))
local macro_rules | `(tactic| walk_at "nb") => `(tactic| first | exact nb_lineno | exact nb_instream | exact nb_whitespace | exact nb_pushback | exact nb_read | exact nb_read_char | exact nb_get_token | exact nb_push_token)
local macro_rules | `(tactic| walk_at "side") => `(tactic| first | with_reducible assumption | omega | decide | exact PyProof.noPylong_small (by omega) | exact PyProof.noPylong_of_log2 (by decide +kernel) | (simp only [List.length_append, List.length_cons, List.length_nil, List.length_map]; omega))
local macro_rules | `(tactic| walk_at "op") => `(tactic| first
 | with_reducible refine' U1.opB (t_bool _) ?_
 | ((with_reducible refine' i_dict ?sa ?sb ?nx ?sc); (case sa => walk_at "mema"); (case sb => first | assumption | rfl); (case sc => (intros; with_unfolding_all rfl)))
 | ((with_reducible refine' i_intsStep ?sa ?sb ?sc ?sd ?nx ?se); (case sa => walk_at "mema"); (case sb => walk_at "mema"); (case sc => decide); (case se => (intros; with_unfolding_all rfl)); (case sd => walk_at "side"))
 | ((with_reducible refine' i_intsOld ?sa ?sb ?sc ?sd ?nx ?se); (case sa => walk_at "mema"); (case sb => assumption); (case sc => decide); (case se => (intros; with_unfolding_all rfl)); (case sd => walk_at "side"))
 | ((with_reducible refine' o_addL ?sa ?sb ?sc ?nx); (case sa => walk_at "mema"); (case sb => walk_at "mema"); (case sc => walk_at "side"))
 | ((with_reducible refine' A_get ?sa ?sb ?sc ?sd ?se ?sf ?sg ?nx); (case sa => assumption); (case sb => walk_at "mem"; done); (case sc => walk_at "mem"; done); (case sd => walk_at "nb"); (case se => walk_at "mem"; done); (case sf => walk_at "mem"; done); (case sg => rfl))
 | ((with_reducible refine' U1.opB (t_tx _ ?sa) ?nx); (case sa => walk_at "side"))
 | with_reducible refine' U2.op o_none_is ?_
 | with_reducible refine' U2.op (o_int_is _) ?_
 | with_reducible refine' U2.op (o_str_is _) ?_
 | with_reducible refine' U2.op o_none_isnt ?_
 | with_reducible refine' U2.op (o_str_isnt _) ?_
 | with_reducible refine' U2.op (o_seq _ _) ?_
 | with_reducible refine' U2.op (o_sne _ _) ?_
 | with_reducible refine' U2.op (o_slt _ _) ?_
 | ((with_reducible refine' U2.op (o_sadd _ _ ?sa) ?nx); (case sa => walk_at "side"))
 | ((with_reducible refine' U2.op (o_siadd _ _ ?sa) ?nx); (case sa => walk_at "side"))
 | with_reducible refine' U2.op (o_sin _ _) ?_
 | with_reducible refine' U2.op (o_snotin _ _) ?_
 | ((with_reducible refine' U2.op (o_smul _ _ ?sa ?sb ?sc) ?nx); (case sa => walk_at "side"); (case sb => walk_at "side"); (case sc => walk_at "side"))
 | ((with_reducible refine' i_str ?sa ?sb ?sc ?nx ?se); (case se => (intros; with_unfolding_all rfl)); (case sa => walk_at "side"); (case sb => walk_at "side"); (case sc => walk_at "side"))
 | ((with_reducible refine' i_tup ?sa ?sb ?sc ?nx ?se); (case se => (intros; with_unfolding_all rfl)); (case sa => walk_at "side"); (case sb => rfl); (case sc => walk_at "side"))
 | ((with_reducible refine' i_strSl ?sa ?sb ?nx ?se); (case sa => walk_at "mema"); (case se => (intros; with_unfolding_all rfl)); (case sb => walk_at "side"))
 | ((with_reducible refine' i_listSl ?sa ?sb ?sc ?nx ?se); (case sa => walk_at "mema"); (case sb => walk_at "mema"); (case se => (intros; with_unfolding_all rfl)); (case sc => walk_at "side"))
 | ((with_reducible refine' U1.tList ?sa ?sb ?nx); (case sa => walk_at "mema"); (case sb => walk_at "side"))
 | ((with_reducible refine' U2.mulList ?sa ?sb ?sc ?sd ?nx); (case sa => walk_at "mema"); (case sb => walk_at "side"); (case sc => walk_at "side"); (case sd => walk_at "side"))
 | ((with_reducible refine' i_list ?sa ?sb ?sc ?sd ?nx ?se); (case sa => walk_at "mema"); (case se => (intros; with_unfolding_all rfl)); (case sb => walk_at "side"); (case sc => walk_at "side"); (case sd => walk_at "side"))
 | with_reducible refine' U1.opB (t_int _) ?_
 | with_reducible refine' U2.op (o_add _ _) ?_
 | with_reducible refine' U2.op (o_sub _ _) ?_
 | with_reducible refine' U2.op (o_iadd _ _) ?_
 | with_reducible refine' U2.op (o_isub _ _) ?_
 | with_reducible refine' U2.op (o_and _ _) ?_
 | with_reducible refine' U2.op (o_or _ _) ?_
 | with_reducible refine' U2.op (o_xor _ _) ?_
 | with_reducible refine' U2.op (o_eq _ _) ?_
 | with_reducible refine' U2.op (o_ne _ _) ?_
 | with_reducible refine' U2.op (o_lt _ _) ?_
 | with_reducible refine' U2.op (o_le _ _) ?_
 | with_reducible refine' U2.op (o_gt _ _) ?_
 | with_reducible refine' U2.op (o_ge _ _) ?_
 | with_reducible refine' U2.op (o_is_bool _ _) ?_
 | with_reducible refine' U2.op (o_isnt_bool _ _) ?_
 | with_reducible refine' U1.op (o_neg _) ?_
 | with_reducible refine' U1.op (o_inv _) ?_
 | ((with_reducible refine' U2.op (o_shl _ _ ?sa ?sb) ?nx); (case sa => walk_at "side"); (case sb => walk_at "side"))
 | ((with_reducible refine' U2.op (o_ishl _ _ ?sa ?sb) ?nx); (case sa => walk_at "side"); (case sb => walk_at "side"))
 | ((with_reducible refine' U2.op (o_shr _ _ ?sa) ?nx); (case sa => walk_at "side"))
 | ((with_reducible refine' U2.op (o_ishr _ _ ?sa) ?nx); (case sa => walk_at "side"))
 | ((with_reducible refine' U2.op (o_mul _ _ ?sa) ?nx); (case sa => walk_at "side"))
 | ((with_reducible refine' U2.op (o_pow _ _ ?sa ?sb) ?nx); (case sa => walk_at "side"); (case sb => walk_at "side"))
 | ((with_reducible refine' U2.op (o_div _ _ ?sa ?sb) ?nx); (case sa => walk_at "side"); (case sb => walk_at "side"))
 | ((with_reducible refine' U2.op (o_mod _ _ ?sa) ?nx); (case sa => walk_at "side")))
local macro_rules | `(tactic| walk_at "E") => `(tactic| first
 | with_reducible refine' Then.rt ?_
 | with_reducible refine' Then.ct ?_
 | with_reducible refine' S_last ?_
 | with_reducible refine' S_cons ?_
 | with_reducible refine' S_nil ?_
 | with_reducible refine' S_If ?_
 | with_reducible refine' S_Return ?_
 | with_reducible refine' S_Return_none ?_
 | with_reducible refine' S_Continue ?_
 | ((with_reducible refine' S_AssignC2 ?sa ?sb ?sc ?sd ?nx ?se); (case sa => assumption); (case sb => walk_at "mem"; done); (case sc => assumption); (case sd => walk_at "mem"; done); (case se => rfl))
 | ((with_reducible refine' S_Assign ?nx ?sa); (case sa => rfl))
 | ((with_reducible refine' S_AssignSub ?nx ?sa); (case sa => rfl))
 | ((with_reducible refine' S_Expr ?nx ?sa ?sb); (case sa => rfl); (case sb => rfl))
 | ((with_reducible refine' ex_cell ?sa ?sb ?sc ?nx); (case sa => walk_at "chg"; done); (case sb => walk_at "mem"; done); (case sc => walk_at "put"; done))
 | with_reducible refine' Fx.mk ?_
 | ((with_reducible refine' S_AssignT ?nx ?sa ?sb); (case sa => rfl); (case sb => rfl))
 | ((with_reducible refine' S_AssignX2 ?nx ?sa ?sb); (case sa => rfl); (case sb => rfl))
 | ((with_reducible refine' S_AugAssign ?sa ?nx); (case sa => walk_at "mem"))
 | ((with_reducible refine' B_Compare ?nx ?sa); (case sa => with_unfolding_all rfl))
 | with_reducible refine' B_Not ?_
 | with_reducible refine' B_BoolOp ?_
 | with_reducible refine' B_and ?_
 | with_reducible refine' B_or ?_
 | with_reducible refine' B_and_nil ?_
 | with_reducible refine' B_or_nil ?_
 | ((with_reducible refine' B_value ?nx ?sa); (case sa => rfl))
 | ((with_reducible refine' E_Name ?sa ?nx); (case sa => walk_at "mem"; done))
 | ((with_reducible refine' E_Glob ?sa ?sb ?sc ?sd ?nx); (case sa => assumption); (case sb => assumption); (case sc => walk_at "mem"; done); (case sd => walk_at "mem"; done))
 | ((with_reducible refine' E_Cell ?sa ?sb ?sc ?sd ?se ?nx); (case sa => assumption); (case sb => walk_at "mem"; done); (case sc => walk_at "mema"); (case sd => walk_at "mema"); (case se => walk_at "mema"))
 | ((with_reducible refine' S_AssignAttr ?nx ?sa); (case sa => rfl))
 | ((with_reducible refine' ex_setA ?sa ?sb ?sc ?sd ?se ?sf ?nx); (case sa => assumption); (case sb => walk_at "mem"; done); (case sc => walk_at "mem"; done); (case sd => walk_at "nb"); (case se => walk_at "chg"; done); (case sf => walk_at "put"; done))
 | with_reducible refine' S_AugAttr ?_
 | ((with_reducible refine' ex_augA ?sa ?sb ?sc ?sd ?se ?sf ?sg ?sh ?nx); (case sa => assumption); (case sb => walk_at "mem"; done); (case sc => walk_at "mem"; done); (case sd => walk_at "mem"; done); (case se => walk_at "nb"); (case sf => walk_at "mem"; done); (case sg => walk_at "mem"; done); (case sh => rfl))
 | ((with_reducible refine' ex_augB ?sa ?sb ?nx); (case sa => walk_at "chg"; done); (case sb => walk_at "put"; done))
 | ((with_reducible refine' E_MethI (name := (PySem.Str.ofString "read")) nb_read ?nx ?sa ?sb ?sc); (case sa => rfl); (case sb => rfl); (case sc => rfl))
 | ((with_reducible refine' ex_methI ?sa ?sb ?sc ?sd ?se ?sf ?sg ?nx); (case sa => assumption); (case sb => walk_at "mem"; done); (case sc => walk_at "mem"; done); (case sd => walk_at "mem"; done); (case se => walk_at "mem"; done); (case sf => walk_at "mem"; done); (case sg => rfl))
 | ((with_reducible refine' E_CallM (name := (PySem.Str.ofString "pop")) "list" "list.pop" PySem.F.plainAttrs_list PySem.F.slot_list_pop PySem.F.type_list_pop ?nx ?sa ?sb ?sc); (case sa => rfl); (case sb => rfl); (case sc => rfl))
 | ((with_reducible refine' E_Attr ?nx ?sa); (case sa => rfl))
 | ((with_reducible refine' CallK_cls ?sa ?nx ?sb); (case sa => assumption); (case sb => rfl))
 | ((with_reducible show TCall _ _ _ (SV.bi "iter") _ _); refine' x_iterStr ?nx; (intro _))
 | ((with_reducible show TCall _ _ _ (SV.bi "iter") _ _); refine' x_iterCi ?sa ?nx; (case sa => walk_at "mema"); (intro _))
 | ((with_reducible show TCall _ _ _ (SV.bi "next") _ _); refine' x_nextSi ?sa ?nx; (case sa => walk_at "chg"; done))
 | with_reducible refine' Ifs_nil ?_
 | with_reducible refine' Ifs_cons ?_
 | ((with_reducible refine' E_Dict ?sa ?sb ?sc ?sd ?nx); (case sa => (repeat (first | with_reducible exact CKV.nil | with_reducible apply CKV.str | with_reducible apply CKV.int))); (case sb => exact List.cons_ne_nil _ _); (case sc => decide); (case sd => decide +kernel))
 | ((with_reducible show TCall _ _ _ (SV.bi "sum") _ _); refine' x_sum ?sa ?nx; (case sa => walk_at "mema"))
 | ((with_reducible show TCall _ _ _ (SV.bi "abs") _ _); refine' x_abs ?nx)
 | ((with_reducible show TCall _ _ _ (SV.type "range") _ _); refine' x_range3 ?sa ?sb ?nx; (case sa => decide); (case sb => walk_at "side"); (intro _))
 | with_reducible refine' E_int ?_
 | with_reducible refine' E_txt ?_
 | with_reducible refine' E_str ?_
 | with_reducible refine' E_Slice ?_
 | with_reducible refine' E_Slice3 ?_
 | with_reducible refine' PE_none ?_
 | with_reducible refine' PE_some ?_
 | with_reducible refine' ex_int ?_
 | with_reducible refine' E_bool ?_
 | with_reducible refine' E_none ?_
 | with_reducible refine' E_BinOp ?_
 | ((with_reducible refine' E_Compare ?nx ?sa); (case sa => with_unfolding_all rfl))
 | with_reducible refine' E_UnaryOp ?_
 | with_reducible refine' E_IfExp ?_
 | ((with_reducible refine' E_Tuple ?_))
 | ((with_reducible refine' E_CallM (name := (PySem.Str.ofString "bit_length")) "int" "int.bit_length" PySem.F.plainAttrs_int slot_int_bit_length type_int_bit_length ?nx ?sa ?sb ?sc); (case sa => rfl); (case sb => rfl); (case sc => rfl))
 | ((with_reducible refine' E_CallM (name := (PySem.Str.ofString "append")) "list" "list.append" PySem.F.plainAttrs_list slot_list_append type_list_append ?nx ?sa ?sb ?sc); (case sa => rfl); (case sb => rfl); (case sc => rfl))
 | ((with_reducible refine' E_CallM (name := (PySem.Str.ofString "reverse")) "list" "list.reverse" PySem.F.plainAttrs_list PySem.F.slot_list_reverse PySem.F.type_list_reverse ?nx ?sa ?sb ?sc); (case sa => rfl); (case sb => rfl); (case sc => rfl))
 | ((with_reducible refine' E_CallM (name := (PySem.Str.ofString "count")) "str" "str.count" PySem.F.plainAttrs_str PySem.F.slot_str_count PySem.F.type_str_count ?nx ?sa ?sb ?sc); (case sa => rfl); (case sb => rfl); (case sc => rfl))
 | ((with_reducible refine' E_CallM (name := (PySem.Str.ofString "find")) "str" "str.find" PySem.F.plainAttrs_str PySem.F.slot_str_find PySem.F.type_str_find ?nx ?sa ?sb ?sc); (case sa => rfl); (case sb => rfl); (case sc => rfl))
 | ((with_reducible refine' E_CallM (name := (PySem.Str.ofString "join")) "str" "str.join" PySem.F.plainAttrs_str PySem.F.slot_str_join PySem.F.type_str_join ?nx ?sa ?sb ?sc); (case sa => rfl); (case sb => rfl); (case sc => rfl))
 | ((with_reducible refine' E_CallM (name := (PySem.Str.ofString "lower")) "str" "str.lower" PySem.F.plainAttrs_str PySem.F.slot_str_lower PySem.F.type_str_lower ?nx ?sa ?sb ?sc); (case sa => rfl); (case sb => rfl); (case sc => rfl))
 | with_reducible refine' E_List ?_
 | with_reducible refine' E_Sub ?_
 | with_reducible refine' E_Call ?_
 | with_reducible refine' A_nil ?_
 | ((with_reducible refine' A_cons ?nx ?sa); (case sa => rfl))
 | ((with_reducible refine' CallK_bi ?nx ?sa); (case sa => rfl))
 | ((with_reducible refine' CallK_type ?nx ?sa); (case sa => rfl))
 | ((with_reducible refine' CallK_in ?sa ?nx ?sb); (case sa => walk_at "mema"); (case sb => rfl))
 | ((with_reducible refine' CallK_def ?sa ?nx ?sb); (case sa => assumption); (case sb => rfl))
 | ((with_reducible refine' And.intro ?sa ?nx); (case sa => walk_at "ty"; done))
 | ((with_reducible refine' ex_put ?sa ?nx); (case sa => walk_at "put"; done))
 | ((with_reducible refine' ex_put2 ?sa ?sb ?nx); (case sa => walk_at "put"; done); (case sb => walk_at "put"; done))
 | ((with_reducible refine' G_Tuple ?sa ?nx); (case sa => walk_at "pute"; done))
 | ((with_reducible refine' G_Name ?sa ?nx); (case sa => walk_at "put"; done))
 | with_reducible refine' And.intro rfl ?_
 | ((with_reducible show ∀ _ : Addr, _); intro _)
 | ((with_reducible show TCall _ _ _ (SV.bi "len") _ _); refine' x_len_list ?sa ?sb ?nx; (case sa => walk_at "mema"); (case sb => walk_at "side"))
 | ((with_reducible show TCall _ _ _ (SV.bi "len") _ _); refine' x_len_old ?sa ?sb ?nx; (case sa => assumption); (case sb => walk_at "side"))
 | ((with_reducible show TCall _ _ _ (SV.bi "len") _ _); refine' TCall.opx (c_len_str _ ?sa) ?nx; (case sa => walk_at "side"))
 | ((with_reducible show TCall _ _ _ (SV.bi "ord") _ _); refine' TCall.opx (c_ord _) ?_)
 | ((with_reducible show TCall _ _ _ (SV.bi "chr") _ _); refine' TCall.opx (c_chr _ ?sa ?sb) ?nx; (case sa => walk_at "side"); (case sb => walk_at "side"))
 | ((with_reducible show TCall _ _ _ (SV.bi "str.count") _ _); refine' TCall.opx (c_count _ _) ?_)
 | ((with_reducible show TCall _ _ _ (SV.bi "str.find") _ _); refine' TCall.opx (c_find _ _) ?_)
 | ((with_reducible show TCall _ _ _ (SV.bi "str.join") _ _); refine' x_join ?sa ?sb ?nx; (case sa => walk_at "mema"); (case sb => walk_at "side"))
 | ((with_reducible show TCall _ _ _ (SV.type "enumerate") _ _); refine' x_enum_str ?nx; (intro _); (intro _); (intro _))
 | ((with_reducible show TCall _ _ _ (SV.type "enumerate") _ _); refine' x_enum_list ?sa ?nx; (case sa => walk_at "mema"); (intro _); (intro _))
 | ((with_reducible show TCall _ _ _ (SV.type "range") _ _); refine' x_range1 ?nx; (intro _))
 | ((with_reducible show TCall _ _ _ (SV.type "range") _ _); refine' x_range2 ?nx; (intro _))
 | ((with_reducible show TCall _ _ _ (SV.bi "list.append") _ _); refine' x_append ?sa ?sb ?nx; (case sa => walk_at "chg"; done); (case sb => walk_at "side"))
 | ((with_reducible show TCall _ _ _ (SV.bi "list.reverse") _ _); refine' x_reverse ?sa ?sb ?nx; (case sa => walk_at "chg"; done); (case sb => walk_at "side"))
 | ((with_reducible show TCall _ _ _ (SV.type "reversed") _ _); refine' x_reversed ?sa ?nx; (case sa => walk_at "mema"); (intro _))
 | ((with_reducible show TCall _ _ _ (SV.bi "int.bit_length") _ _); refine' TCall.opx (c_bits _) ?_)
 | walk_at "op")
local macro_rules | `(tactic| walk_at "comp") => `(tactic| exact ⟨by kernel_rfl, of_decide_eq_true (by kernel_rfl), by kernel_rfl, of_decide_eq_true (by kernel_rfl), of_decide_eq_true (by kernel_rfl), by decide +kernel, by decide +kernel⟩)
local macro_rules | `(tactic| walk_at "cells") => `(tactic| (repeat (first | exact Cells.nil | refine' Cells.cons (by first | exact .inl (by kernel_rfl) | exact .inr (by kernel_rfl)) (by kernel_rfl) (by decide) ?_)))
local macro_rules | `(tactic| walk_at "globs") => `(tactic| (repeat (first | exact Globs.nil | refine' Globs.cons (by kernel_rfl) ?_)))
local macro_rules | `(tactic| walk_at "W") => `(tactic| repeat walk_at "E")
local macro_rules | `(tactic| walk_at "T") => `(tactic| first
 | with_reducible refine' Then.nx ?_
 | walk_at "E")
def bodyOf (s : Stmt) : List Stmt := match s with
 | .FunctionDef _ _ b _ _ _ _ _ _ _ => b
 | _ => []
def posIn (s : Stmt) : Pos := ((bodyOf s).findSome? fun x => match x with | .FunctionDef _ _ _ _ _ _ _ _ _ p => some p | _ => none).getD default
def inOf (s : Stmt) : Stmt := ((bodyOf s).find? fun x => match x with | .FunctionDef .. => true | _ => false).getD (.Pass default)
def lamOf (s : Stmt) : Expr := ((bodyOf s).findSome? fun x => match x with | .Assign _ (.Lambda a b c d) _ => some (.Lambda a b c d) | _ => none).getD default
def posLam (e : Expr) : Pos := match e with | .Lambda _ _ _ p => p | _ => default
def FnT (c : Cx) (a : Addr) (s : Stmt) (qual : Str) (pos : Pos) (qin : Str) : Prop := ∃ t ∈ c.tabs, t.pos = pos ∧ t.qual = qin ∧ ∃ o pm, FnAt c a o (fd s qual 3 pm (.ref t.c) 0)
def FnS (c : Cx) (a : Addr) (s : Stmt) (qual : Str) : Prop := ∃ o pm cd, FnAt c a o (fd s qual 3 pm (.ref cd) 0)
def isB1 (n : Nat) : Bool := [173, 847, 6150, 6155, 6156, 6157, 8203, 8204, 8205, 8288, 65279].contains n || (decide (65024 ≤ n) && decide (n ≤ 65039))
def b3L : List (Nat × List Nat) := [(64256, [102, 102]), (64257, [102, 105]), (64258, [102, 108]), (64259, [102, 102, 105]), (64260, [102, 102, 108]), (119813, [102]), (119816, [105]), (119819, [108])]
def b3N : List Nat := [102, 105, 108, 70, 73, 76, 40, 41]
structure ClsOk (c : Cx) (C : Addr) (init read get push : Addr) : Prop where
 at_ : ∀ h, OldK c.h0 h → ∃ nm q N bs sn sub col dd k0 k1 k2 k3 k5 mN, h.get? C = some (excClassObj nm q C N bs [.type "object"] true sn sub false col dd k0 k1 k2 k3 k5 "object.__new__") ∧ h.Ns N mN ∧
  mN "__init__" = some (.ref init) ∧ mN "_read_char" = some (.ref read) ∧ mN "get_token" = some (.ref get) ∧ mN "push_token" = some (.ref push) ∧
  mN "__getattribute__" = none ∧ mN "__getattr__" = none ∧ mN "__setattr__" = none ∧ mN "lineno" = none ∧ mN "instream" = none ∧ mN "whitespace" = none ∧ mN "pushback" = none ∧ mN "read" = none
abbrev tops : List (Str × SV) := [(Str.ofString "_DIV_LIMIT", .int 4000), (Str.ofString "divmod", .bi "divmod"), (Str.ofString "_div3n2n", .ref 28), (Str.ofString "_div2n1n", .ref 21), (Str.ofString "len", .bi "len"), (Str.ofString "_int2digits", .ref 35), (Str.ofString "reversed", .type "reversed"), (Str.ofString "_digits2int", .ref 42), (Str.ofString "ZeroDivisionError", .type "ZeroDivisionError"), (Str.ofString "int_divmod", .ref 56), (Str.ofString "_divmod_pos", .ref 49), (Str.ofString "enumerate", .type "enumerate"), (Str.ofString "_iter_escaped_chars", .ref 63), (Str.ofString "_strip_quoted_realnames", .ref 70), (Str.ofString "ord", .bi "ord"), (Str.ofString "b1_set", .ref 127), (Str.ofString "b3_exceptions", .ref 138), (Str.ofString "iter", .bi "iter"), (Str.ofString "_netrclex", .ref 115), (Str.ofString "_law_drawn", .ref 195), (Str.ofString "chr", .bi "chr"), (Str.ofString "_check_parenthesis", .ref 77), (Str.ofString "_law_mail", .ref 212), (Str.ofString "_law_value", .ref 224), (Str.ofString "_law_figures", .ref 217), (Str.ofString "range", .type "range"), (Str.ofString "_law_written", .ref 207), (Str.ofString "_law_typed", .ref 202), (Str.ofString "_law_lexer", .ref 190), (Str.ofString "sum", .bi "sum"), (Str.ofString "_law_normed", .ref 236), (Str.ofString "zip", .type "zip"), (Str.ofString "abs", .bi "abs"), (Str.ofString "next", .bi "next"), (Str.ofString "in_table_b1", .ref 137), (Str.ofString "map_table_b3", .ref 183), (Str.ofString "_law_place", .ref 231)]
structure Fns (c : Cx) : Prop where
 tops : ∀ p ∈ tops, Gl c p.1 p.2
 f_div2n1n : FnS c 21 (st 2) "_div2n1n"
 f_div3n2n : FnS c 28 (st 3) "_div3n2n"
 f_int2digits : FnT c 35 (st 4) "_int2digits" (posIn (st 4)) "_int2digits.<locals>.inner"
 f_digits2int : FnT c 42 (st 5) "_digits2int" (posIn (st 5)) "_digits2int.<locals>.inner"
 f_divmod_pos : FnS c 49 (st 6) "_divmod_pos"
 f_int_divmod : FnS c 56 (st 7) "int_divmod"
 f_iter_escaped_chars : FnS c 63 (st 9) "_iter_escaped_chars"
 f_strip_quoted_realnames : FnS c 70 (st 10) "_strip_quoted_realnames"
 f_check_parenthesis : FnS c 77 (st 11) "_check_parenthesis"
 f_in_table_b1 : FnS c 137 (st 16) "in_table_b1"
 f_map_table_b3 : FnS c 183 (st 18) "map_table_b3"
 f_law_lexer : FnT c 190 (st 20) "_law_lexer" (posLam (lamOf (st 20))) "_law_lexer.<locals>.<lambda>"
 f_law_drawn : FnS c 195 (st 21) "_law_drawn"
 f_law_typed : FnS c 202 (st 22) "_law_typed"
 f_law_written : FnS c 207 (st 23) "_law_written"
 f_law_mail : FnS c 212 (st 24) "_law_mail"
 f_law_figures : FnS c 217 (st 25) "_law_figures"
 f_law_value : FnS c 224 (st 26) "_law_value"
 f_law_place : FnS c 231 (st 27) "_law_place"
 f_law_normed : FnS c 236 (st 28) "_law_normed"
 f_law : FnS c 241 (st 29) "law"
 m_init : FnS c 91 (mt 13 0) "_netrclex.__init__"
 m_read_char : FnS c 98 (mt 13 1) "_netrclex._read_char"
 m_get_token : FnS c 105 (mt 13 2) "_netrclex.get_token"
 m_push_token : FnS c 112 (mt 13 3) "_netrclex.push_token"
 b1 : ∀ h, OldK c.h0 h → ∃ S n, h.SetOf (intKind c.prog c.w) 127 S n ∧ ∀ k : Nat, S k = isB1 k
 b3 : ∀ h, OldK c.h0 h → ∃ f, h.MapOf (intKind c.prog c.w) 138 f ∧ (∀ p ∈ b3L, ∃ t, f (p.1 : Nat) = some (.str ⟨p.2.toArray⟩ t)) ∧ ∀ k ∈ b3N, f (k : Nat) = none
 cls : ClsOk c 115 91 98 105 112
theorem p_div2n1n (pm : Value) (a : Addr) : Plain (fd (st 2) "_div2n1n" 3 pm (.ref a) 0) (bodyOf (st 2)) [Str.ofString "a", Str.ofString "b", Str.ofString "n"] [Str.ofString "pad", Str.ofString "half_n", Str.ofString "mask", Str.ofString "b1", Str.ofString "b2", Str.ofString "q1", Str.ofString "r", Str.ofString "q2"] [Str.ofString "_DIV_LIMIT", Str.ofString "divmod", Str.ofString "_div3n2n"] := by
 refine ⟨by kernel_rfl, by kernel_rfl, by kernel_rfl, by kernel_rfl, by kernel_rfl, by kernel_rfl, of_decide_eq_true (by kernel_rfl), of_decide_eq_true (by kernel_rfl), by decide +kernel, by decide +kernel, of_decide_eq_true (by kernel_rfl), ?_⟩
 intro vs h
 match vs, h with
 | [x0, x1, x2], _ => kernel_rfl
theorem p_div3n2n (pm : Value) (a : Addr) : Plain (fd (st 3) "_div3n2n" 3 pm (.ref a) 0) (bodyOf (st 3)) [Str.ofString "a12", Str.ofString "a3", Str.ofString "b", Str.ofString "b1", Str.ofString "b2", Str.ofString "n"] [Str.ofString "q", Str.ofString "r"] [Str.ofString "_div2n1n"] := by
 refine ⟨by kernel_rfl, by kernel_rfl, by kernel_rfl, by kernel_rfl, by kernel_rfl, by kernel_rfl, of_decide_eq_true (by kernel_rfl), of_decide_eq_true (by kernel_rfl), by decide +kernel, by decide +kernel, of_decide_eq_true (by kernel_rfl), ?_⟩
 intro vs h
 match vs, h with
 | [x0, x1, x2, x3, x4, x5], _ => kernel_rfl
theorem p_divmod_pos (pm : Value) (a : Addr) : Plain (fd (st 6) "_divmod_pos" 3 pm (.ref a) 0) (bodyOf (st 6)) [Str.ofString "a", Str.ofString "b"] [Str.ofString "n", Str.ofString "a_digits", Str.ofString "r", Str.ofString "q_digits", Str.ofString "a_digit", Str.ofString "q_digit", Str.ofString "q"] [Str.ofString "_int2digits", Str.ofString "reversed", Str.ofString "_div2n1n", Str.ofString "_digits2int"] := by
 refine ⟨by kernel_rfl, by kernel_rfl, by kernel_rfl, by kernel_rfl, by kernel_rfl, by kernel_rfl, of_decide_eq_true (by kernel_rfl), of_decide_eq_true (by kernel_rfl), by decide +kernel, by decide +kernel, of_decide_eq_true (by kernel_rfl), ?_⟩
 intro vs h
 match vs, h with
 | [x0, x1], _ => kernel_rfl
theorem p_int_divmod (pm : Value) (a : Addr) : Plain (fd (st 7) "int_divmod" 3 pm (.ref a) 0) (bodyOf (st 7)) [Str.ofString "a", Str.ofString "b"] [Str.ofString "q", Str.ofString "r"] [Str.ofString "ZeroDivisionError", Str.ofString "int_divmod", Str.ofString "_divmod_pos"] := by
 refine ⟨by kernel_rfl, by kernel_rfl, by kernel_rfl, by kernel_rfl, by kernel_rfl, by kernel_rfl, of_decide_eq_true (by kernel_rfl), of_decide_eq_true (by kernel_rfl), by decide +kernel, by decide +kernel, of_decide_eq_true (by kernel_rfl), ?_⟩
 intro vs h
 match vs, h with
 | [x0, x1], _ => kernel_rfl
theorem p_strip_quoted_realnames (pm : Value) (a : Addr) : Plain (fd (st 10) "_strip_quoted_realnames" 3 pm (.ref a) 0) (bodyOf (st 10)) [Str.ofString "addr"] [Str.ofString "start", Str.ofString "open_pos", Str.ofString "result", Str.ofString "pos", Str.ofString "ch"] [Str.ofString "_iter_escaped_chars", Str.ofString "len"] := by
 refine ⟨by kernel_rfl, by kernel_rfl, by kernel_rfl, by kernel_rfl, by kernel_rfl, by kernel_rfl, of_decide_eq_true (by kernel_rfl), of_decide_eq_true (by kernel_rfl), by decide +kernel, by decide +kernel, of_decide_eq_true (by kernel_rfl), ?_⟩
 intro vs h
 match vs, h with
 | [x0], _ => kernel_rfl
theorem p_check_parenthesis (pm : Value) (a : Addr) : Plain (fd (st 11) "_check_parenthesis" 3 pm (.ref a) 0) (bodyOf (st 11)) [Str.ofString "addr"] [Str.ofString "opens", Str.ofString "pos", Str.ofString "ch"] [Str.ofString "_strip_quoted_realnames", Str.ofString "_iter_escaped_chars"] := by
 refine ⟨by kernel_rfl, by kernel_rfl, by kernel_rfl, by kernel_rfl, by kernel_rfl, by kernel_rfl, of_decide_eq_true (by kernel_rfl), of_decide_eq_true (by kernel_rfl), by decide +kernel, by decide +kernel, of_decide_eq_true (by kernel_rfl), ?_⟩
 intro vs h
 match vs, h with
 | [x0], _ => kernel_rfl
theorem p_in_table_b1 (pm : Value) (a : Addr) : Plain (fd (st 16) "in_table_b1" 3 pm (.ref a) 0) (bodyOf (st 16)) [Str.ofString "code"] [] [Str.ofString "ord", Str.ofString "b1_set"] := by
 refine ⟨by kernel_rfl, by kernel_rfl, by kernel_rfl, by kernel_rfl, by kernel_rfl, by kernel_rfl, of_decide_eq_true (by kernel_rfl), of_decide_eq_true (by kernel_rfl), by decide +kernel, by decide +kernel, of_decide_eq_true (by kernel_rfl), ?_⟩
 intro vs h
 match vs, h with
 | [x0], _ => kernel_rfl
theorem p_map_table_b3 (pm : Value) (a : Addr) : Plain (fd (st 18) "map_table_b3" 3 pm (.ref a) 0) (bodyOf (st 18)) [Str.ofString "code"] [Str.ofString "r"] [Str.ofString "b3_exceptions", Str.ofString "ord"] := by
 refine ⟨by kernel_rfl, by kernel_rfl, by kernel_rfl, by kernel_rfl, by kernel_rfl, by kernel_rfl, of_decide_eq_true (by kernel_rfl), of_decide_eq_true (by kernel_rfl), by decide +kernel, by decide +kernel, of_decide_eq_true (by kernel_rfl), ?_⟩
 intro vs h
 match vs, h with
 | [x0], _ => kernel_rfl
theorem p_law_typed (pm : Value) (a : Addr) : Plain (fd (st 22) "_law_typed" 3 pm (.ref a) 0) (bodyOf (st 22)) [Str.ofString "text", Str.ofString "way"] [Str.ofString "word", Str.ofString "choice"] [Str.ofString "chr", Str.ofString "ord"] := by
 refine ⟨by kernel_rfl, by kernel_rfl, by kernel_rfl, by kernel_rfl, by kernel_rfl, by kernel_rfl, of_decide_eq_true (by kernel_rfl), of_decide_eq_true (by kernel_rfl), by decide +kernel, by decide +kernel, of_decide_eq_true (by kernel_rfl), ?_⟩
 intro vs h
 match vs, h with
 | [x0, x1], _ => kernel_rfl
theorem p_law_value (pm : Value) (a : Addr) : Plain (fd (st 26) "_law_value" 3 pm (.ref a) 0) (bodyOf (st 26)) [Str.ofString "text", Str.ofString "width"] [Str.ofString "inner", Str.ofString "cut", Str.ofString "many", Str.ofString "left", Str.ofString "much", Str.ofString "right", Str.ofString "first"] [Str.ofString "len", Str.ofString "_check_parenthesis", Str.ofString "_law_mail", Str.ofString "_law_value", Str.ofString "_digits2int", Str.ofString "_law_figures"] := by
 refine ⟨by kernel_rfl, by kernel_rfl, by kernel_rfl, by kernel_rfl, by kernel_rfl, by kernel_rfl, of_decide_eq_true (by kernel_rfl), of_decide_eq_true (by kernel_rfl), by decide +kernel, by decide +kernel, of_decide_eq_true (by kernel_rfl), ?_⟩
 intro vs h
 match vs, h with
 | [x0, x1], _ => kernel_rfl
theorem p_law_place (pm : Value) (a : Addr) : Plain (fd (st 27) "_law_place" 3 pm (.ref a) 0) (bodyOf (st 27)) [Str.ofString "word"] [Str.ofString "place", Str.ofString "letter"] [Str.ofString "ord"] := by
 refine ⟨by kernel_rfl, by kernel_rfl, by kernel_rfl, by kernel_rfl, by kernel_rfl, by kernel_rfl, of_decide_eq_true (by kernel_rfl), of_decide_eq_true (by kernel_rfl), by decide +kernel, by decide +kernel, of_decide_eq_true (by kernel_rfl), ?_⟩
 intro vs h
 match vs, h with
 | [x0], _ => kernel_rfl
theorem p_init (pm : Value) (a : Addr) : Plain (fd (mt 13 0) "_netrclex.__init__" 3 pm (.ref a) 0) (bodyOf (mt 13 0)) [Str.ofString "self", Str.ofString "fp"] [] [] := by
 refine ⟨by kernel_rfl, by kernel_rfl, by kernel_rfl, by kernel_rfl, by kernel_rfl, by kernel_rfl, of_decide_eq_true (by kernel_rfl), of_decide_eq_true (by kernel_rfl), by decide +kernel, by decide +kernel, of_decide_eq_true (by kernel_rfl), ?_⟩
 intro vs h
 match vs, h with
 | [x0, x1], _ => kernel_rfl
theorem p_read_char (pm : Value) (a : Addr) : Plain (fd (mt 13 1) "_netrclex._read_char" 3 pm (.ref a) 0) (bodyOf (mt 13 1)) [Str.ofString "self"] [Str.ofString "ch"] [] := by
 refine ⟨by kernel_rfl, by kernel_rfl, by kernel_rfl, by kernel_rfl, by kernel_rfl, by kernel_rfl, of_decide_eq_true (by kernel_rfl), of_decide_eq_true (by kernel_rfl), by decide +kernel, by decide +kernel, of_decide_eq_true (by kernel_rfl), ?_⟩
 intro vs h
 match vs, h with
 | [x0], _ => kernel_rfl
theorem p_get_token (pm : Value) (a : Addr) : Plain (fd (mt 13 2) "_netrclex.get_token" 3 pm (.ref a) 0) (bodyOf (mt 13 2)) [Str.ofString "self"] [Str.ofString "token", Str.ofString "fiter", Str.ofString "ch"] [Str.ofString "iter"] := by
 refine ⟨by kernel_rfl, by kernel_rfl, by kernel_rfl, by kernel_rfl, by kernel_rfl, by kernel_rfl, of_decide_eq_true (by kernel_rfl), of_decide_eq_true (by kernel_rfl), by decide +kernel, by decide +kernel, of_decide_eq_true (by kernel_rfl), ?_⟩
 intro vs h
 match vs, h with
 | [x0], _ => kernel_rfl
theorem p_push_token (pm : Value) (a : Addr) : Plain (fd (mt 13 3) "_netrclex.push_token" 3 pm (.ref a) 0) (bodyOf (mt 13 3)) [Str.ofString "self", Str.ofString "token"] [] [] := by
 refine ⟨by kernel_rfl, by kernel_rfl, by kernel_rfl, by kernel_rfl, by kernel_rfl, by kernel_rfl, of_decide_eq_true (by kernel_rfl), of_decide_eq_true (by kernel_rfl), by decide +kernel, by decide +kernel, of_decide_eq_true (by kernel_rfl), ?_⟩
 intro vs h
 match vs, h with
 | [x0, x1], _ => kernel_rfl
theorem pc_int2digits (pm : Value) (a : Addr) : PlainC (fd (st 4) "_int2digits" 3 pm (.ref a) 0) (bodyOf (st 4)) [Str.ofString "a", Str.ofString "n"] [Str.ofString "a_digits", Str.ofString "inner"] [Str.ofString "len"] [Str.ofString "a"] [Str.ofString "inner", Str.ofString "a_digits", Str.ofString "n"] (fun L => [("inner", L + 1 + 1 + 1), ("a_digits", L + 1 + 1), ("n", L + 1)]) := by
 refine ⟨by kernel_rfl, by kernel_rfl, by kernel_rfl, by kernel_rfl, by kernel_rfl, by kernel_rfl, by kernel_rfl, of_decide_eq_true (by kernel_rfl), of_decide_eq_true (by kernel_rfl), by decide +kernel, by decide +kernel, by decide +kernel, by decide +kernel, by decide +kernel, of_decide_eq_true (by kernel_rfl), ?_, ?_, ?_, ?_⟩
 ·intro vs h
  match vs, h with
  | [x0, x1], _ => kernel_rfl
 ·intro L; kernel_rfl
 ·intro L; kernel_rfl
 ·intro L
  simp only [List.all_cons, List.all_nil, Bool.and_true, Bool.and_eq_true, decide_eq_true_eq]
  omega
theorem pc_digits2int (pm : Value) (a : Addr) : PlainC (fd (st 5) "_digits2int" 3 pm (.ref a) 0) (bodyOf (st 5)) [Str.ofString "digits", Str.ofString "n"] [Str.ofString "inner"] [Str.ofString "len"] [] [Str.ofString "inner", Str.ofString "n", Str.ofString "digits"] (fun L => [("inner", L + 1 + 1 + 1), ("n", L + 1 + 1), ("digits", L + 1)]) := by
 refine ⟨by kernel_rfl, by kernel_rfl, by kernel_rfl, by kernel_rfl, by kernel_rfl, by kernel_rfl, by kernel_rfl, of_decide_eq_true (by kernel_rfl), of_decide_eq_true (by kernel_rfl), by decide +kernel, by decide +kernel, by decide +kernel, by decide +kernel, by decide +kernel, of_decide_eq_true (by kernel_rfl), ?_, ?_, ?_, ?_⟩
 ·intro vs h
  match vs, h with
  | [x0, x1], _ => kernel_rfl
 ·intro L; kernel_rfl
 ·intro L; kernel_rfl
 ·intro L
  simp only [List.all_cons, List.all_nil, Bool.and_true, Bool.and_eq_true, decide_eq_true_eq]
  omega
theorem pc_law_lexer (pm : Value) (a : Addr) : PlainC (fd (st 20) "_law_lexer" 3 pm (.ref a) 0) (bodyOf (st 20)) [Str.ofString "text"] [Str.ofString "stream", Str.ofString "signs"] [Str.ofString "iter", Str.ofString "_netrclex"] [Str.ofString "text", Str.ofString "stream"] [Str.ofString "signs"] (fun L => [("signs", L + 1)]) := by
 refine ⟨by kernel_rfl, by kernel_rfl, by kernel_rfl, by kernel_rfl, by kernel_rfl, by kernel_rfl, by kernel_rfl, of_decide_eq_true (by kernel_rfl), of_decide_eq_true (by kernel_rfl), by decide +kernel, by decide +kernel, by decide +kernel, by decide +kernel, by decide +kernel, of_decide_eq_true (by kernel_rfl), ?_, ?_, ?_, ?_⟩
 ·intro vs h
  match vs, h with
  | [x0], _ => kernel_rfl
 ·intro L; kernel_rfl
 ·intro L; kernel_rfl
 ·intro L
  simp only [List.all_cons, List.all_nil, Bool.and_true, Bool.and_eq_true, decide_eq_true_eq]
  omega
theorem pc_law_drawn (pm : Value) (a : Addr) : PlainC (fd (st 21) "_law_drawn" 3 pm (.ref a) 0) (bodyOf (st 21)) [Str.ofString "letters", Str.ofString "way"] [Str.ofString "cut", Str.ofString "left", Str.ofString "lefts", Str.ofString "right", Str.ofString "pairs", Str.ofString "rights"] [Str.ofString "len", Str.ofString "_law_drawn"] [Str.ofString "letters", Str.ofString "way", Str.ofString "cut", Str.ofString "left", Str.ofString "lefts", Str.ofString "right", Str.ofString "pairs"] [Str.ofString "rights"] (fun L => [("rights", L + 1)]) := by
 refine ⟨by kernel_rfl, by kernel_rfl, by kernel_rfl, by kernel_rfl, by kernel_rfl, by kernel_rfl, by kernel_rfl, of_decide_eq_true (by kernel_rfl), of_decide_eq_true (by kernel_rfl), by decide +kernel, by decide +kernel, by decide +kernel, by decide +kernel, by decide +kernel, of_decide_eq_true (by kernel_rfl), ?_, ?_, ?_, ?_⟩
 ·intro vs h
  match vs, h with
  | [x0, x1], _ => kernel_rfl
 ·intro L; kernel_rfl
 ·intro L; kernel_rfl
 ·intro L
  simp only [List.all_cons, List.all_nil, Bool.and_true, Bool.and_eq_true, decide_eq_true_eq]
  omega
theorem pc_law_written (pm : Value) (a : Addr) : PlainC (fd (st 23) "_law_written" 3 pm (.ref a) 0) (bodyOf (st 23)) [Str.ofString "word", Str.ofString "way"] [Str.ofString "slashed"] [Str.ofString "enumerate"] [Str.ofString "word", Str.ofString "slashed"] [Str.ofString "way"] (fun L => [("way", L + 1)]) := by
 refine ⟨by kernel_rfl, by kernel_rfl, by kernel_rfl, by kernel_rfl, by kernel_rfl, by kernel_rfl, by kernel_rfl, of_decide_eq_true (by kernel_rfl), of_decide_eq_true (by kernel_rfl), by decide +kernel, by decide +kernel, by decide +kernel, by decide +kernel, by decide +kernel, of_decide_eq_true (by kernel_rfl), ?_, ?_, ?_, ?_⟩
 ·intro vs h
  match vs, h with
  | [x0, x1], _ => kernel_rfl
 ·intro L; kernel_rfl
 ·intro L; kernel_rfl
 ·intro L
  simp only [List.all_cons, List.all_nil, Bool.and_true, Bool.and_eq_true, decide_eq_true_eq]
  omega
theorem pc_law_mail (pm : Value) (a : Addr) : PlainC (fd (st 24) "_law_mail" 3 pm (.ref a) 0) (bodyOf (st 24)) [Str.ofString "text"] [Str.ofString "dresses"] [] [Str.ofString "text"] [Str.ofString "dresses"] (fun L => [("dresses", L + 1)]) := by
 refine ⟨by kernel_rfl, by kernel_rfl, by kernel_rfl, by kernel_rfl, by kernel_rfl, by kernel_rfl, by kernel_rfl, of_decide_eq_true (by kernel_rfl), of_decide_eq_true (by kernel_rfl), by decide +kernel, by decide +kernel, by decide +kernel, by decide +kernel, by decide +kernel, of_decide_eq_true (by kernel_rfl), ?_, ?_, ?_, ?_⟩
 ·intro vs h
  match vs, h with
  | [x0], _ => kernel_rfl
 ·intro L; kernel_rfl
 ·intro L; kernel_rfl
 ·intro L
  simp only [List.all_cons, List.all_nil, Bool.and_true, Bool.and_eq_true, decide_eq_true_eq]
  omega
theorem pc_law_figures (pm : Value) (a : Addr) : PlainC (fd (st 25) "_law_figures" 3 pm (.ref a) 0) (bodyOf (st 25)) [Str.ofString "number", Str.ofString "places", Str.ofString "width"] [Str.ofString "half"] [Str.ofString "_int2digits", Str.ofString "_digits2int"] [Str.ofString "number", Str.ofString "places", Str.ofString "width"] [Str.ofString "half"] (fun L => [("half", L + 1)]) := by
 refine ⟨by kernel_rfl, by kernel_rfl, by kernel_rfl, by kernel_rfl, by kernel_rfl, by kernel_rfl, by kernel_rfl, of_decide_eq_true (by kernel_rfl), of_decide_eq_true (by kernel_rfl), by decide +kernel, by decide +kernel, by decide +kernel, by decide +kernel, by decide +kernel, of_decide_eq_true (by kernel_rfl), ?_, ?_, ?_, ?_⟩
 ·intro vs h
  match vs, h with
  | [x0, x1, x2], _ => kernel_rfl
 ·intro L; kernel_rfl
 ·intro L; kernel_rfl
 ·intro L
  simp only [List.all_cons, List.all_nil, Bool.and_true, Bool.and_eq_true, decide_eq_true_eq]
  omega
theorem pc_law_normed (pm : Value) (a : Addr) : PlainC (fd (st 28) "_law_normed" 3 pm (.ref a) 0) (bodyOf (st 28)) [Str.ofString "line", Str.ofString "word"] [Str.ofString "k", Str.ofString "turn", Str.ofString "front"] [Str.ofString "range", Str.ofString "len"] [Str.ofString "word", Str.ofString "k", Str.ofString "turn", Str.ofString "front"] [Str.ofString "line"] (fun L => [("line", L + 1)]) := by
 refine ⟨by kernel_rfl, by kernel_rfl, by kernel_rfl, by kernel_rfl, by kernel_rfl, by kernel_rfl, by kernel_rfl, of_decide_eq_true (by kernel_rfl), of_decide_eq_true (by kernel_rfl), by decide +kernel, by decide +kernel, by decide +kernel, by decide +kernel, by decide +kernel, of_decide_eq_true (by kernel_rfl), ?_, ?_, ?_, ?_⟩
 ·intro vs h
  match vs, h with
  | [x0, x1], _ => kernel_rfl
 ·intro L; kernel_rfl
 ·intro L; kernel_rfl
 ·intro L
  simp only [List.all_cons, List.all_nil, Bool.and_true, Bool.and_eq_true, decide_eq_true_eq]
  omega
theorem pc_law (pm : Value) (a : Addr) : PlainC (fd (st 29) "law" 3 pm (.ref a) 0) (bodyOf (st 29)) [Str.ofString "script"] [Str.ofString "size", Str.ofString "text", Str.ofString "terms", Str.ofString "written", Str.ofString "line", Str.ofString "kept", Str.ofString "changed", Str.ofString "due", Str.ofString "many", Str.ofString "value", Str.ofString "figures", Str.ofString "turns", Str.ofString "total", Str.ofString "told", Str.ofString "scale", Str.ofString "rest", Str.ofString "place", Str.ofString "cells", Str.ofString "width"] [Str.ofString "enumerate", Str.ofString "len", Str.ofString "_law_drawn", Str.ofString "range", Str.ofString "_law_written", Str.ofString "_law_typed", Str.ofString "_law_lexer", Str.ofString "_check_parenthesis", Str.ofString "_law_mail", Str.ofString "_law_value", Str.ofString "sum", Str.ofString "_law_figures", Str.ofString "_law_normed", Str.ofString "zip", Str.ofString "abs", Str.ofString "int_divmod"] [Str.ofString "size", Str.ofString "text", Str.ofString "terms", Str.ofString "written", Str.ofString "line", Str.ofString "kept", Str.ofString "changed", Str.ofString "due", Str.ofString "many", Str.ofString "value", Str.ofString "figures", Str.ofString "turns", Str.ofString "total", Str.ofString "told", Str.ofString "scale", Str.ofString "rest"] [Str.ofString "width", Str.ofString "cells", Str.ofString "place", Str.ofString "script"] (fun L => [("width", L + 1 + 1 + 1 + 1), ("cells", L + 1 + 1 + 1), ("place", L + 1 + 1), ("script", L + 1)]) := by
 refine ⟨by kernel_rfl, by kernel_rfl, by kernel_rfl, by kernel_rfl, by kernel_rfl, by kernel_rfl, by kernel_rfl, of_decide_eq_true (by kernel_rfl), of_decide_eq_true (by kernel_rfl), by decide +kernel, by decide +kernel, by decide +kernel, by decide +kernel, by decide +kernel, of_decide_eq_true (by kernel_rfl), ?_, ?_, ?_, ?_⟩
 ·intro vs h
  match vs, h with
  | [x0], _ => kernel_rfl
 ·intro L; kernel_rfl
 ·intro L; kernel_rfl
 ·intro L
  simp only [List.all_cons, List.all_nil, Bool.and_true, Bool.and_eq_true, decide_eq_true_eq]
  omega
def in_int2digits (clos : List (Str × Addr)) (doc pm cv ctv : Value) : FuncData := match inOf (st 4) with
 | .FunctionDef n a b _ _ _ sc _ _ _ => fdIn n "_int2digits.<locals>.inner" a b sc clos doc pm cv ctv
 | _ => default
theorem pi_int2digits (clos : List (Str × Addr)) (doc pm cv ctv : Value) : Plain (in_int2digits clos doc pm cv ctv) (bodyOf (inOf (st 4))) [Str.ofString "x", Str.ofString "L", Str.ofString "R"] [Str.ofString "mid", Str.ofString "shift", Str.ofString "upper", Str.ofString "lower"] [] := by
 refine ⟨by kernel_rfl, by kernel_rfl, by kernel_rfl, by kernel_rfl, by kernel_rfl, by kernel_rfl, of_decide_eq_true (by kernel_rfl), of_decide_eq_true (by kernel_rfl), by decide +kernel, by decide +kernel, of_decide_eq_true (by kernel_rfl), ?_⟩
 intro vs h
 match vs, h with
 | [x0, x1, x2], _ => kernel_rfl
def in_digits2int (clos : List (Str × Addr)) (doc pm cv ctv : Value) : FuncData := match inOf (st 5) with
 | .FunctionDef n a b _ _ _ sc _ _ _ => fdIn n "_digits2int.<locals>.inner" a b sc clos doc pm cv ctv
 | _ => default
theorem pi_digits2int (clos : List (Str × Addr)) (doc pm cv ctv : Value) : Plain (in_digits2int clos doc pm cv ctv) (bodyOf (inOf (st 5))) [Str.ofString "L", Str.ofString "R"] [Str.ofString "mid", Str.ofString "shift"] [] := by
 refine ⟨by kernel_rfl, by kernel_rfl, by kernel_rfl, by kernel_rfl, by kernel_rfl, by kernel_rfl, of_decide_eq_true (by kernel_rfl), of_decide_eq_true (by kernel_rfl), by decide +kernel, by decide +kernel, of_decide_eq_true (by kernel_rfl), ?_⟩
 intro vs h
 match vs, h with
 | [x0, x1], _ => kernel_rfl
def D2 (c : Cx) (k : Nat) : Prop := ∀ (A : Around) (K : List Fact) (a b : Int) (n : Nat) (Φ : SV → List Fact → Prop), Room A (2 * k + 1) → 0 ≤ a → a < b * 2 ^ n → 2 ^ (n - 1) ≤ b → b < 2 ^ n → 1 ≤ n → n ≤ 4000 * 2 ^ k → k ≤ 12 →
 Φ (.tup [.int (a / b), .int (a % b)]) K → TCall c A K (.ref 21) [.int a, .int b, .int n] Φ
def D3 (c : Cx) (k : Nat) : Prop := ∀ (A : Around) (K : List Fact) (a12 a3 b1 b2 : Int) (n : Nat) (Φ : SV → List Fact → Prop), Room A (2 * k + 2) → 0 ≤ a12 → a12 < b1 * 2 ^ n + b2 → 0 ≤ a3 → a3 < 2 ^ n → 0 ≤ b2 → b2 < 2 ^ n → 2 ^ (n - 1) ≤ b1 → b1 < 2 ^ n → 1 ≤ n → n ≤ 4000 * 2 ^ k → k ≤ 12 →
 Φ (.tup [.int ((a12 * 2 ^ n + a3) / (b1 * 2 ^ n + b2)), .int ((a12 * 2 ^ n + a3) % (b1 * 2 ^ n + b2))]) K →
  TCall c A K (.ref 28) [.int a12, .int a3, .int (b1 * 2 ^ n + b2), .int b1, .int b2, .int n] Φ
theorem pow_bound {n k : Nat} (h : n ≤ 4000 * 2 ^ k) (hk : k ≤ 12) : n ≤ 2 ^ 24 := by
 have : 2 ^ k ≤ 2 ^ 12 := Nat.pow_le_pow_right (by decide) hk
 omega
theorem div3_tail {c : Cx} {A : Around} {env : Env} {K : List Fact} {a12 a3 b1 b2 q r : Int} {n : Nat} {Φ : SV → List Fact → Prop} (h3 : 0 ≤ a3) (h4 : a3 < 2 ^ n) (hb : 0 < b1 * 2 ^ n + b2)
  (hq : a12 = q * b1 + r) (hr0 : 0 ≤ r) (hlt : r * 2 ^ n + a3 - q * b2 < b1 * 2 ^ n + b2)
  (s1 : (Builtin.Int.intBits r : Int) + (n : Int) ≤ 2 ^ 27) (s2 : IntMulOk q b2)
  (hΦ : Φ (.tup [.int ((a12 * 2 ^ n + a3) / (b1 * 2 ^ n + b2)), .int ((a12 * 2 ^ n + a3) % (b1 * 2 ^ n + b2))]) K) :
  TS c A env [("a12", some (.int a12)), ("a3", some (.int a3)), ("b", some (.int (b1 * 2 ^ n + b2))), ("b1", some (.int b1)), ("b2", some (.int b2)), ("n", some (.int n)), ("q", some (.int q)), ("r", some (.int r))] K
   (execs ((bodyOf (st 3)).drop 1) env) (Ret Φ) := by
 have hn0 : (0 : Int) ≤ (n : Int) := Int.natCast_nonneg _
 refine S_cons ?_
 repeat walk_at "T"
 have e0 : Builtin.bitOr (r * 2 ^ (n : Int).toNat) a3 = r * 2 ^ n + a3 := by rw [Int.toNat_natCast]; exact or_low hr0 h3 h4
 rw [e0]
 refine S_While (fun m ρ' K' => ∃ q' r' : Int, m = (-r').toNat ∧ ρ' = ([("a12", some (.int a12)), ("a3", some (.int a3)), ("b", some (.int (b1 * 2 ^ n + b2))), ("b1", some (.int b1)), ("b2", some (.int b2)), ("n", some (.int n)), ("q", some (.int q')), ("r", some (.int r'))] : Loc) ∧ K' = K ∧
  q' * (b1 * 2 ^ n + b2) + r' = a12 * 2 ^ n + a3 ∧ r' < b1 * 2 ^ n + b2) _ ⟨q, _, rfl, rfl, rfl, ?_, hlt⟩ ?_
 ·subst hq; grind
 ·rintro m ρ1 K1 ⟨q', r', rfl, rfl, rfl, e1, e2⟩ _
  repeat walk_at "T"
  refine ⟨fun hb' => ?_, fun hb' => ?_⟩
  ·have hb' := of_decide_eq_true hb'
   repeat walk_at "T"
   refine Turn.nx (-(r' + (b1 * 2 ^ n + b2))).toNat (by omega) ⟨q' - 1, _, rfl, rfl, rfl, ?_, by omega⟩
   rw [← e1]; grind
  ·have hb' := of_decide_eq_false hb'
   repeat walk_at "T"
   have hd : (a12 * 2 ^ n + a3) / (b1 * 2 ^ n + b2) = q' ∧ (a12 * 2 ^ n + a3) % (b1 * 2 ^ n + b2) = r' := by
    rw [← e1]
    generalize b1 * 2 ^ n + b2 = b at *
    have hr' : 0 ≤ r' := by omega
    constructor
    ·rw [Int.add_comm, Int.add_mul_ediv_right _ _ (by omega), Int.ediv_eq_zero_of_lt hr' e2]; omega
    ·rw [Int.add_comm, Int.add_mul_emod_self_right, Int.emod_eq_of_lt hr' e2]
   rw [hd.1, hd.2] at hΦ
   first | exact hΦ | exact ⟨_, .refl _, hΦ⟩
theorem div3 {c : Cx} (F : Fns c) {k : Nat} (h2 : D2 c k) : D3 c k := by
 intro A K a12 a3 b1 b2 n Φ hr h0 h1 h3 h4 h5 h6 h7 h8 h9 h10 h11 hΦ
 obtain ⟨o, pm, cd, F3⟩ := F.f_div3n2n
 obtain ⟨o2, pm2, cd2, F2⟩ := F.f_div2n1n
 refine call_fn F3 (p_div3n2n pm cd) rfl (hr.le (by omega)) fun L hG => ?_
 have hr' := hr.deeper (fnEnv (fd (st 3) "_div3n2n" 3 pm (.ref cd) 0) 28 L)
 have hT := F.tops
 have hn24 := pow_bound h10 h11
 show TS c _ _ [("a12", some (.int a12)), ("a3", some (.int a3)), ("b", some (.int (b1 * 2 ^ n + b2))), ("b1", some (.int b1)), ("b2", some (.int b2)), ("n", some (.int n)), ("q", none), ("r", none)] K _ _
 have hn0 : (0 : Int) ≤ (n : Int) := Int.natCast_nonneg _
 have hP : (0 : Int) < 2 ^ n := Int.pow_pos (by decide)
 have hb0 : 0 < b1 := Int.lt_of_lt_of_le (Int.pow_pos (by decide)) h7
 have hbb : 0 < b1 * 2 ^ n := Int.mul_pos hb0 hP
 have ep : (2 : Int) ^ (n : Int).toNat = 2 ^ n := by rw [Int.toNat_natCast]
 have bb1 : Builtin.Int.intBits b1 ≤ n := bits_of_lt (by omega) h8
 have bb2 : Builtin.Int.intBits b2 ≤ n := bits_of_lt h5 h6
 have t1 : (Builtin.Int.intBits 1 : Int) + (n : Int) ≤ 2 ^ 27 := by
  have : Builtin.Int.intBits 1 = 1 := by decide
  omega
 have t2 : (Builtin.Int.intBits b1 : Int) + (n : Int) ≤ 2 ^ 27 := by omega
 have hup : b1 * 2 ^ n + b2 ≤ 2 ^ n * 2 ^ n := by
  have : (b1 + 1) * 2 ^ n ≤ 2 ^ n * 2 ^ n := Int.mul_le_mul_of_nonneg_right (by omega) (by omega)
  rw [Int.add_mul] at this
  omega
 refine S_cons ?_
 repeat walk_at "T"
 refine ⟨fun hb => ?_, fun hb => ?_⟩
 ·have hb : a12.fdiv (2 ^ (n : Int).toNat) = b1 := by simpa using hb
  rw [ep, Int.fdiv_eq_ediv_of_nonneg _ (by omega)] at hb
  have hdm := Int.mul_ediv_add_emod a12 (2 ^ n)
  have hm0 := Int.emod_nonneg a12 (b := 2 ^ n) (by omega)
  rw [hb, Int.mul_comm] at hdm
  have hlt : a12 - b1 * 2 ^ n < b2 := by omega
  walk_at "W"
  refine Then.nx ?_
  rw [ep]
  have hr0 : a12 - b1 * 2 ^ n + b1 < 2 ^ (n + 1) := by rw [Int.pow_succ]; omega
  have br : Builtin.Int.intBits (a12 - b1 * 2 ^ n + b1) ≤ n + 1 := bits_of_lt (by omega) hr0
  have bq : Builtin.Int.intBits (1 * 2 ^ n - 1) ≤ n := bits_of_lt (by omega) (by omega)
  refine div3_tail h3 h4 (by omega) ?_ (by omega) ?_ (by omega) (mul_ok (by omega)) hΦ
  ·grind
  ·have : (a12 - b1 * 2 ^ n + b1) * 2 ^ n ≤ (b2 - 1 + b1) * 2 ^ n := Int.mul_le_mul_of_nonneg_right (by omega) (by omega)
   have e1 : (b2 - 1 + b1) * 2 ^ n = b2 * 2 ^ n - 2 ^ n + b1 * 2 ^ n := by grind
   have e2 : (1 * 2 ^ n - 1) * b2 = b2 * 2 ^ n - b2 := by grind
   omega
 ·have hb : a12.fdiv (2 ^ (n : Int).toNat) ≠ b1 := by simpa using hb
  rw [ep, Int.fdiv_eq_ediv_of_nonneg _ (by omega)] at hb
  have hle : a12 / 2 ^ n ≤ b1 := by
   have : a12 < (b1 + 1) * 2 ^ n := by rw [Int.add_mul]; omega
   have := Int.ediv_lt_of_lt_mul hP this
   omega
  have hlt : a12 < b1 * 2 ^ n := by
   have h1 : a12 / 2 ^ n < b1 := by omega
   exact (Int.ediv_lt_iff_lt_mul hP).mp h1
  walk_at "W"
  refine h2 _ _ a12 b1 n _ hr' h0 hlt h7 h8 h9 h10 h11 ⟨_, rfl, ?_⟩
  walk_at "W"
  refine Then.nx ?_
  have hq0 : 0 ≤ a12 / b1 := Int.ediv_nonneg h0 (by omega)
  have hq1 : a12 / b1 < 2 ^ n := Int.ediv_lt_of_lt_mul hb0 (by rw [Int.mul_comm]; exact hlt)
  have hr0 := Int.emod_nonneg a12 (b := b1) (by omega)
  have hr1 := Int.emod_lt_of_pos a12 hb0
  have br : Builtin.Int.intBits (a12 % b1) ≤ n := bits_of_lt hr0 (by omega)
  have bq : Builtin.Int.intBits (a12 / b1) ≤ n := bits_of_lt hq0 hq1
  have hdm := Int.mul_ediv_add_emod a12 b1
  refine div3_tail h3 h4 (by omega) ?_ hr0 ?_ (by omega) (mul_ok (by omega)) hΦ
  ·rw [Int.mul_comm]; omega
  ·have : (a12 % b1) * 2 ^ n ≤ (b1 - 1) * 2 ^ n := Int.mul_le_mul_of_nonneg_right (by omega) (by omega)
   rw [Int.sub_mul] at this
   have := Int.mul_nonneg hq0 h5
   omega
theorem D3.at {c : Cx} {k : Nat} (h : D3 c k) {A : Around} {K : List Fact} {a12 a3 b b1 b2 : Int} {n : Nat} {Φ : SV → List Fact → Prop} (e : b = b1 * 2 ^ n + b2) (hr : Room A (2 * k + 2)) (h0 : 0 ≤ a12) (h1 : a12 < b) (h2 : 0 ≤ a3) (h3 : a3 < 2 ^ n)
  (h4 : 0 ≤ b2) (h5 : b2 < 2 ^ n) (h6 : 2 ^ (n - 1) ≤ b1) (h7 : b1 < 2 ^ n) (h8 : 1 ≤ n) (h9 : n ≤ 4000 * 2 ^ k) (h10 : k ≤ 12)
  (hΦ : Φ (.tup [.int ((a12 * 2 ^ n + a3) / b), .int ((a12 * 2 ^ n + a3) % b)]) K) : TCall c A K (.ref 28) [.int a12, .int a3, .int b, .int b1, .int b2, .int n] Φ := by
 subst e; exact h A K a12 a3 b1 b2 n Φ hr h0 h1 h2 h3 h4 h5 h6 h7 h8 h9 h10 hΦ
theorem div2_tail {c : Cx} (F : Fns c) {k : Nat} (h3 : D3 c k) {A : Around} {K : List Fact} {a b pad : Int} {m : Nat} {Φ : SV → List Fact → Prop} {pm : Value} {cd L : Addr}
  (hG : ∀ x ∈ [Str.ofString "_DIV_LIMIT", Str.ofString "divmod", Str.ofString "_div3n2n"], (fnEnv (fd (st 2) "_div2n1n" 3 pm (.ref cd) 0) 21 L).kindOf x = some .globalImplicit)
  (hr : Room A (2 * k + 2)) (h0 : 0 ≤ a) (h1 : a < b * 2 ^ (2 * m)) (h5 : 2 ^ (2 * m - 1) ≤ b) (h6 : b < 2 ^ (2 * m)) (h7 : 1 ≤ m) (h8 : m ≤ 4000 * 2 ^ k) (h9 : k ≤ 12)
  (hΦ : Φ (.tup [.int (a / b), .int (if pad != 0 then (a % b) / 2 else a % b)]) K) :
  TS c A (fnEnv (fd (st 2) "_div2n1n" 3 pm (.ref cd) 0) 21 L) [("a", some (.int a)), ("b", some (.int b)), ("n", some (.int ((2 * m : Nat) : Int))), ("pad", some (.int pad)), ("half_n", none), ("mask", none), ("b1", none), ("b2", none), ("q1", none), ("r", none), ("q2", none)] K
   (execs ((bodyOf (st 2)).drop 3) (fnEnv (fd (st 2) "_div2n1n" 3 pm (.ref cd) 0) 21 L)) (Ret Φ) := by
 obtain ⟨o3, pm3, cd3, F3⟩ := F.f_div3n2n
 have hT := F.tops
 have hm24 := pow_bound h8 h9
 have z1 : (0 : Int) ≤ 1 := by decide
 have z2 : (0 : Int) ≤ ((2 * m : Nat) : Int) := Int.natCast_nonneg _
 have z3 : (0 : Int) ≤ (m : Int) := Int.natCast_nonneg _
 have hP : (0 : Int) < 2 ^ m := Int.pow_pos (by decide)
 have hPP : (2 : Int) ^ (2 * m) = 2 ^ m * 2 ^ m := by rw [Nat.two_mul, Int.pow_add]
 have eh : ((2 * m : Nat) : Int).fdiv (2 ^ (1 : Int).toNat) = (m : Int) := by
  rw [Int.fdiv_eq_ediv_of_nonneg _ (by decide)]
  show ((2 * m : Nat) : Int) / 2 = m
  omega
 have ep : (2 : Int) ^ (m : Int).toNat = 2 ^ m := by rw [Int.toNat_natCast]
 have ep2 : (2 : Int) ^ ((2 * m : Nat) : Int).toNat = 2 ^ m * 2 ^ m := by rw [Int.toNat_natCast, hPP]
 have t1 : (Builtin.Int.intBits 1 : Int) + (m : Int) ≤ 2 ^ 27 := by
  have : Builtin.Int.intBits 1 = 1 := by decide
  omega
 have hb0 : 0 < b := Int.lt_of_lt_of_le (Int.pow_pos (by decide)) h5
 rw [hPP] at h1 h6
 have hb1 : b.fdiv (2 ^ m) = b / 2 ^ m := Int.fdiv_eq_ediv_of_nonneg _ (by omega)
 have ha1 : a.fdiv (2 ^ m) = a / 2 ^ m := Int.fdiv_eq_ediv_of_nonneg _ (by omega)
 have hPP0 : (0 : Int) < 2 ^ m * 2 ^ m := Int.mul_pos hP hP
 have ha2 : a.fdiv (2 ^ m * 2 ^ m) = a / (2 ^ m * 2 ^ m) := Int.fdiv_eq_ediv_of_nonneg _ (by omega)
 have am0 : 0 ≤ a / 2 ^ m := Int.ediv_nonneg h0 (by omega)
 have ab2 : Builtin.bitAnd b (1 * 2 ^ m - 1) = b % 2 ^ m := and_mask (by omega)
 have aa2 : Builtin.bitAnd (a / 2 ^ m) (1 * 2 ^ m - 1) = a / 2 ^ m % 2 ^ m := and_mask am0
 have aa3 : Builtin.bitAnd a (1 * 2 ^ m - 1) = a % 2 ^ m := and_mask h0
 have hbd := Int.mul_ediv_add_emod b (2 ^ m)
 have hbe : b = b / 2 ^ m * 2 ^ m + b % 2 ^ m := by rw [Int.mul_comm]; omega
 have l1 : (2 : Int) ^ (m - 1) ≤ b / 2 ^ m := by
  have : (2 : Int) ^ (2 * m - 1) = 2 ^ (m - 1) * 2 ^ m := by rw [← Int.pow_add]; congr 1; omega
  rw [this] at h5
  exact (Int.le_ediv_iff_mul_le hP).mpr h5
 have l2 : b / 2 ^ m < 2 ^ m := Int.ediv_lt_of_lt_mul hP h6
 have l3 := Int.emod_nonneg b (b := 2 ^ m) (by omega)
 have l4 := Int.emod_lt_of_pos b hP
 have l5 := Int.emod_nonneg (a / 2 ^ m) (b := 2 ^ m) (by omega)
 have l6 := Int.emod_lt_of_pos (a / 2 ^ m) hP
 have l7 := Int.emod_nonneg a (b := 2 ^ m) (by omega)
 have l8 := Int.emod_lt_of_pos a hP
 have l9 : 0 ≤ a / (2 ^ m * 2 ^ m) := Int.ediv_nonneg h0 (by omega)
 have l10 : a / (2 ^ m * 2 ^ m) < b := Int.ediv_lt_of_lt_mul hPP0 h1
 have edd : a / (2 ^ m * 2 ^ m) = a / 2 ^ m / 2 ^ m := by rw [Int.ediv_ediv_of_nonneg (by omega)]
 have e12 : a / (2 ^ m * 2 ^ m) * 2 ^ m + a / 2 ^ m % 2 ^ m = a / 2 ^ m := by
  rw [edd, Int.mul_comm]; exact Int.mul_ediv_add_emod _ _
 have r0 := Int.emod_nonneg (a / 2 ^ m) (b := b) (by omega)
 have r1 := Int.emod_lt_of_pos (a / 2 ^ m) hb0
 refine S_cons ?_
 walk_at "W"
 rw [eh]
 refine Then.nx (S_cons ?_)
 walk_at "W"
 rw [ep]
 refine Then.nx (S_cons ?_)
 walk_at "W"
 rw [ep, hb1, ab2]
 refine Then.nx (S_cons ?_)
 walk_at "W"
 rw [ep, ep2, ha1, ha2, aa2]
 refine h3.at hbe hr l9 l10 l5 l6 l3 l4 l1 l2 h7 h8 h9 ⟨_, rfl, ?_⟩
 rw [e12]
 walk_at "W"
 refine Then.nx (S_cons ?_)
 walk_at "W"
 rw [aa3]
 refine h3.at hbe hr r0 r1 l7 l8 l3 l4 l1 l2 h7 h8 h9 ⟨_, rfl, ?_⟩
 have had : 2 ^ m * (a / 2 ^ m) + a % 2 ^ m = a := Int.mul_ediv_add_emod _ _
 have hq := Int.mul_ediv_add_emod (a / 2 ^ m) b
 have hq2 := Int.mul_ediv_add_emod (a / 2 ^ m % b * 2 ^ m + a % 2 ^ m) b
 generalize hX : a / 2 ^ m / b = X at *
 generalize hY : a / 2 ^ m % b = Y at *
 have s0 := Int.emod_nonneg (Y * 2 ^ m + a % 2 ^ m) (b := b) (by omega)
 have s1 := Int.emod_lt_of_pos (Y * 2 ^ m + a % 2 ^ m) hb0
 have hY1 : Y * 2 ^ m ≤ (b - 1) * 2 ^ m := Int.mul_le_mul_of_nonneg_right (by omega) (by omega)
 rw [Int.sub_mul] at hY1
 have hYp : 0 ≤ Y * 2 ^ m := Int.mul_nonneg r0 (by omega)
 have s2 : (Y * 2 ^ m + a % 2 ^ m) / b < 2 ^ m := Int.ediv_lt_of_lt_mul hb0 (by have e : 2 ^ m * b = b * 2 ^ m := Int.mul_comm _ _; omega)
 have s3 : 0 ≤ (Y * 2 ^ m + a % 2 ^ m) / b := Int.ediv_nonneg (by omega) (by omega)
 have hX0 : 0 ≤ X := by rw [← hX]; exact Int.ediv_nonneg am0 (by omega)
 have hX1 : X < 2 ^ m := by
  rw [← hX]
  refine Int.ediv_lt_of_lt_mul hb0 ?_
  refine Int.ediv_lt_of_lt_mul hP ?_
  rw [Int.mul_comm (2 ^ m) b, Int.mul_assoc]; exact h1
 generalize hZ : (Y * 2 ^ m + a % 2 ^ m) / b = Z at *
 generalize hV : (Y * 2 ^ m + a % 2 ^ m) % b = V at *
 have htot : b * (X * 2 ^ m + Z) + V = a := by grind
 have hd : a / b = X * 2 ^ m + Z ∧ a % b = V := by
  constructor
  ·rw [← htot, Int.add_comm, Int.add_mul_ediv_left _ _ (by omega), Int.ediv_eq_zero_of_lt s0 s1]; omega
  ·rw [← htot, Int.add_comm, Int.add_mul_emod_self_left, Int.emod_eq_of_lt s0 s1]
 rw [hd.1, hd.2] at hΦ
 have bX : Builtin.Int.intBits X ≤ m := bits_of_lt hX0 hX1
 have t2 : (Builtin.Int.intBits X : Int) + (m : Int) ≤ 2 ^ 27 := by omega
 have eo : Builtin.bitOr (X * 2 ^ m) Z = X * 2 ^ m + Z := or_low hX0 s3 s2
 walk_at "W"
 refine Then.nx (S_cons ?_)
 walk_at "W"
 have ev : V.fdiv (2 ^ (1 : Int).toNat) = V / 2 := Int.fdiv_eq_ediv_of_nonneg _ (by decide)
 refine ⟨fun hb => ?_, fun hb => ?_⟩
 ·rw [hb] at hΦ
  repeat walk_at "T"
  rw [ep, eo, ev]
  first | exact hΦ | exact ⟨_, .refl _, hΦ⟩
 ·rw [hb] at hΦ
  repeat walk_at "T"
  rw [ep, eo]
  first | exact hΦ | exact ⟨_, .refl _, hΦ⟩
theorem div2 {c : Cx} (F : Fns c) {k : Nat} (h3 : ∀ j, j + 1 = k → D3 c j) : D2 c k := by
 intro A K a b n Φ hr h0 h1 h2 h4 h5 h6 h7 hΦ
 obtain ⟨o2, pm, cd, F2⟩ := F.f_div2n1n
 have hT := F.tops
 refine call_fn F2 (p_div2n1n pm cd) rfl (hr.le (by omega)) fun L hG => ?_
 have hr' := hr.deeper (fnEnv (fd (st 2) "_div2n1n" 3 pm (.ref cd) 0) 21 L)
 show TS c _ _ [("a", some (.int a)), ("b", some (.int b)), ("n", some (.int n)), ("pad", none), ("half_n", none), ("mask", none), ("b1", none), ("b2", none), ("q1", none), ("r", none), ("q2", none)] K _ _
 have hn24 := pow_bound h6 h7
 have hb0 : 0 < b := Int.lt_of_lt_of_le (Int.pow_pos (by decide)) h2
 have hnn : (0 : Int) ≤ (n : Int) := Int.natCast_nonneg _
 refine S_cons ?_
 walk_at "W"
 refine ⟨fun hb => ?_, fun hb => ?_⟩
 ·have hb := of_decide_eq_true hb
  repeat walk_at "T"
  refine TCall.opx (c_divmod a b (by omega) ?_) ?_
  ·have hbl : Builtin.Int.intBits b ≥ n := by
    have := lt_of_bits (x := b) (by omega)
    have h8 : (2 : Int) ^ (n - 1) < 2 ^ Builtin.Int.intBits b := Int.lt_of_le_of_lt h2 this
    rcases Nat.lt_or_ge (n - 1) (Builtin.Int.intBits b) with hc | hc
    ·omega
    ·have := pow_mono hc
     omega
   exact noPylong (d := 0) (by omega) (by omega)
  ·rw [Int.fdiv_eq_ediv_of_nonneg _ (by omega), Int.fmod_eq_emod_of_nonneg _ (by omega)]
   repeat walk_at "T"
   first | exact hΦ | exact ⟨_, .refl _, hΦ⟩
 ·have hb := of_decide_eq_false hb
  have hba : Builtin.Int.intBits a ≤ n + n := bits_of_lt h0 (by
   rw [Int.pow_add]
   exact Int.lt_of_lt_of_le h1 (Int.mul_le_mul_of_nonneg_right (by omega) (Int.le_of_lt (Int.pow_pos (by decide)))))
  have hn4 : 4000 < n := by omega
  obtain ⟨j, rfl⟩ : ∃ j, k = j + 1 := by
   cases k with
   | zero => omega
   | succ j => exact ⟨j, rfl⟩
  have h3 := h3 j rfl
  have hj : 4000 * 2 ^ (j + 1) = 2 * (4000 * 2 ^ j) := by rw [Nat.pow_succ]; omega
  walk_at "W"
  refine Then.nx (S_cons ?_)
  walk_at "W"
  refine Then.nx (S_cons ?_)
  walk_at "W"
  rw [and_one hnn]
  refine ⟨fun hb => ?_, fun hb => ?_⟩
  ·have hb : (n : Int) % 2 ≠ 0 := by simpa using hb
   have t1 : (Builtin.Int.intBits a : Int) + 1 ≤ 2 ^ 27 := by omega
   have bbl : Builtin.Int.intBits b ≤ n := bits_of_lt (by omega) h4
   have t2 : (Builtin.Int.intBits b : Int) + 1 ≤ 2 ^ 27 := by omega
   have z1 : (0 : Int) ≤ 1 := by decide
   walk_at "W"
   refine Then.nx (S_cons ?_)
   walk_at "W"
   refine Then.nx ?_
   walk_at "W"
   refine Then.nx ?_
   have en : (n : Int) + 1 = ((2 * ((n + 1) / 2) : Nat) : Int) := by omega
   have e1 : (2 : Int) ^ (1 : Int).toNat = 2 := rfl
   rw [en, e1]
   have en2 : 2 * ((n + 1) / 2) = n + 1 := by omega
   refine div2_tail F h3 hG (hr'.le (by omega)) (by omega) ?_ ?_ ?_ (by omega) (by omega) (by omega) ?_
   ·rw [en2, Int.pow_succ, Int.mul_assoc b, Int.mul_comm 2, Int.mul_assoc (2 ^ n), ← Int.mul_assoc b]
    have := Int.mul_lt_mul_of_pos_right h1 (c := 2) (by decide)
    have hpn : (0 : Int) ≤ b * 2 ^ n := by omega
    omega
   ·rw [en2]
    have : (2 : Int) ^ (n + 1 - 1) = 2 ^ (n - 1) * 2 := by rw [← Int.pow_succ]; congr 1; omega
    omega
   ·rw [en2, Int.pow_succ]; omega
   ·have hp : (((n : Int) % 2) != 0) = true := by simpa using hb
    rw [hp, if_pos rfl, Int.mul_ediv_mul_of_pos_left _ _ (by decide), Int.mul_comm a 2, Int.mul_comm b 2, Int.mul_emod_mul_of_pos _ _ (by decide), Int.mul_comm 2]
    rw [Int.mul_ediv_cancel _ (by decide)]
    first | exact hΦ | exact ⟨_, .refl _, hΦ⟩
  ·have hb : (n : Int) % 2 = 0 := by simpa using hb
   walk_at "W"
   refine Then.nx ?_
   have en : (n : Int) = ((2 * (n / 2) : Nat) : Int) := by omega
   have en2 : 2 * (n / 2) = n := by omega
   rw [hb, en]
   refine div2_tail F h3 hG (hr'.le (by omega)) h0 ?_ ?_ ?_ (by omega) (by omega) (by omega) ?_
   ·rw [en2]; exact h1
   ·rw [en2]; exact h2
   ·rw [en2]; exact h4
   ·first | exact hΦ | exact ⟨_, .refl _, hΦ⟩
theorem div23 {c : Cx} (F : Fns c) : ∀ k, D2 c k ∧ D3 c k := by
 intro k
 induction k with
 | zero => exact ⟨div2 F fun j h => by omega, div3 F (div2 F fun j h => by omega)⟩
 | succ k ih =>
  have h := div2 F (k := k + 1) fun j h => by
   obtain rfl : j = k := by omega
   exact ih.2
  exact ⟨h, div3 F h⟩
def figs (x : Int) (n : Nat) : Nat → List Int
 | 0 => []
 | k + 1 => x % 2 ^ n :: figs (x / 2 ^ n) n k
theorem figs_length (x : Int) (n : Nat) : ∀ k, (figs x n k).length = k
 | 0 => rfl
 | k + 1 => by simp [figs, figs_length]
theorem figs_add (x : Int) (n : Nat) : ∀ j k, figs x n (j + k) = figs x n j ++ figs (x / 2 ^ (n * j)) n k
 | 0, k => by simp [figs]
 | j + 1, k => by
   rw [Nat.add_right_comm]
   simp only [figs, List.cons_append]
   rw [figs_add (x / 2 ^ n) n j k, Int.ediv_ediv_of_nonneg (Int.le_of_lt (Int.pow_pos (by decide))), ← Int.pow_add]
   congr 4
   rw [Nat.mul_succ, Nat.add_comm]
theorem figs_mod (x : Int) (n : Nat) : ∀ k m, k ≤ m → figs (x % 2 ^ (n * m)) n k = figs x n k
 | 0, _, _ => rfl
 | k + 1, 0, h => by omega
 | k + 1, m + 1, h => by
   have e : (2 : Int) ^ (n * (m + 1)) = 2 ^ n * 2 ^ (n * m) := by rw [← Int.pow_add]; congr 1; rw [Nat.mul_succ, Nat.add_comm]
   have hp : (0 : Int) < 2 ^ n := Int.pow_pos (by decide)
   have hp2 : (0 : Int) < 2 ^ (n * m) := Int.pow_pos (by decide)
   simp only [figs]
   have h1 : x % 2 ^ (n * (m + 1)) % 2 ^ n = x % 2 ^ n := by
    rw [e]; exact Int.emod_emod_of_dvd _ (Int.dvd_mul_right _ _)
   have h2 : x % 2 ^ (n * (m + 1)) / 2 ^ n = x / 2 ^ n % 2 ^ (n * m) := by
    have a1 := Int.mul_ediv_add_emod x (2 ^ n)
    have a2 := Int.mul_ediv_add_emod (x / 2 ^ n) (2 ^ (n * m))
    have b0 := Int.emod_nonneg x (b := 2 ^ n) (by omega)
    have b1 := Int.emod_lt_of_pos x hp
    have c0 := Int.emod_nonneg (x / 2 ^ n) (b := 2 ^ (n * m)) (by omega)
    have c1 := Int.emod_lt_of_pos (x / 2 ^ n) hp2
    have key : x % 2 ^ (n * (m + 1)) = 2 ^ n * (x / 2 ^ n % 2 ^ (n * m)) + x % 2 ^ n := by
     rw [e]
     have hx : x = 2 ^ n * (x / 2 ^ n % 2 ^ (n * m)) + x % 2 ^ n + (2 ^ n * 2 ^ (n * m)) * (x / 2 ^ n / 2 ^ (n * m)) := by grind
     generalize x / 2 ^ n / 2 ^ (n * m) = q at *
     generalize x / 2 ^ n % 2 ^ (n * m) = y at *
     generalize x % 2 ^ n = z at *
     rw [hx, Int.add_mul_emod_self_left, Int.emod_eq_of_lt]
     ·have := Int.mul_nonneg (Int.le_of_lt hp) c0; omega
     ·have : 2 ^ n * (y + 1) ≤ 2 ^ n * 2 ^ (n * m) := Int.mul_le_mul_of_nonneg_left (by omega) (by omega)
      rw [Int.mul_add] at this; omega
    rw [key, Int.add_comm, Int.add_mul_ediv_left _ _ (by omega), Int.ediv_eq_zero_of_lt b0 b1]; omega
   rw [h1, h2, figs_mod (x / 2 ^ n) n k m (by omega)]
def ivs (l : List Int) : List SV := l.map .int
def DI (c : Cx) (k : Nat) : Prop := ∀ (A : Around) (K : List Fact) (f d a1 a2 a3 : Addr) (cs : List (Str × Addr)) (γ : Loc) (doc pm cv ctv : Value) (pre mid post : List SV) (x : Int) (n : Nat) (Φ : SV → List Fact → Prop), Room A (k + 1) →
 FFn f (in_int2digits [(Str.ofString "n", a3), (Str.ofString "inner", a2), (Str.ofString "a_digits", a1)] doc pm cv ctv) ∈ K → FCs cs γ ∈ K → (Str.ofString "n", a3) ∈ cs → (Str.ofString "inner", a2) ∈ cs → (Str.ofString "a_digits", a1) ∈ cs →
 (Str.ofString "n", some (.int n)) ∈ γ → (Str.ofString "inner", some (.ref f)) ∈ γ → (Str.ofString "a_digits", some (.ref d)) ∈ γ → 0 ≤ x → x < 2 ^ (n * mid.length) → 1 ≤ mid.length → mid.length ≤ 2 ^ k → n * mid.length ≤ 2 ^ 24 → (pre ++ mid ++ post).length < 2 ^ 20 →
 ∀ K', Chg (FList d (pre ++ mid ++ post)) (FList d (pre ++ ivs (figs x n mid.length) ++ post)) K K' → Φ .none K' → TCall c A K (.ref f) [.int x, .int pre.length, .int (pre.length + mid.length)] Φ
theorem Chg.mem {f f' : Fact} {K K' : List Fact} (h : Chg f f' K K') {g : Fact} (hg : g ∈ K) : g = f ∨ g ∈ K' := by
 induction h with
 | here =>
  rcases List.mem_cons.mp hg with e | e
  ·exact .inl e
  ·exact .inr (List.mem_cons_of_mem _ e)
 | there _ ih =>
  rcases List.mem_cons.mp hg with e | e
  ·exact .inr (e ▸ List.mem_cons_self)
  ·rcases ih e with q | q
   ·exact .inl q
   ·exact .inr (List.mem_cons_of_mem _ q)
theorem Chg.mid {f f' : Fact} {K K' : List Fact} (h : Chg f f' K K') (m : Fact) : ∃ K1, Chg f m K K1 ∧ Chg m f' K1 K' := by
 induction h with
 | here => exact ⟨_, .here, .here⟩
 | there _ ih => obtain ⟨K1, a, b⟩ := ih; exact ⟨_, .there a, .there b⟩
theorem FFn_ne_FList {f d : Addr} {fd : FuncData} {xs : List SV} : FFn f fd ≠ FList d xs := fun e => by
 have : (FFn f fd).keys = (FList d xs).keys := congrArg Fact.keys e
 exact absurd this (by simp [FFn, FList])
theorem FCs_ne_FList {cs : List (Str × Addr)} {γ : Loc} {d : Addr} {xs : List SV} {x y : Str} {a b : Addr} (hx : (x, a) ∈ cs) (hy : (y, b) ∈ cs) (hne : x ≠ y) : FCs cs γ ≠ FList d xs := fun e => by
 have : cs.map Prod.snd = [d] := congrArg Fact.keys e
 match cs, this with
 | [p], _ =>
  rw [List.mem_singleton] at hx hy
  rw [← hy] at hx
  exact hne (congrArg Prod.fst hx)
theorem fdiv_two (a : Int) : a.fdiv (2 ^ (1 : Int).toNat) = a / 2 := by rw [Int.fdiv_eq_ediv_of_nonneg _ (by decide)]; rfl
theorem cells3 {env : Env} {x1 x2 x3 : Str} {a1 a2 a3 : Addr} (k1 : env.kindOf x1 = some .cell ∨ env.kindOf x1 = some .free) (k2 : env.kindOf x2 = some .cell ∨ env.kindOf x2 = some .free) (k3 : env.kindOf x3 = some .cell ∨ env.kindOf x3 = some .free)
  (l1 : env.cells.lookup x1 = some a1) (l2 : env.cells.lookup x2 = some a2) (l3 : env.cells.lookup x3 = some a3)
  (d1 : (x1 == ("__debug__" : Str)) = false ∧ (x1 == ("__classdict__" : Str)) = false) (d2 : (x2 == ("__debug__" : Str)) = false ∧ (x2 == ("__classdict__" : Str)) = false) (d3 : (x3 == ("__debug__" : Str)) = false ∧ (x3 == ("__classdict__" : Str)) = false) :
  Cells env [(x1, a1), (x2, a2), (x3, a3)] := by
 refine ⟨fun p hp => ?_, fun p hp => ?_, fun p hp => ?_⟩
 all_goals
  simp only [List.mem_cons, List.not_mem_nil, or_false] at hp
  rcases hp with rfl | rfl | rfl <;> assumption
theorem ex_set {a : Addr} {k : Int} {xs : List SV} {v : SV} {K K4 : List Fact} {P : List Fact → Prop} (h0 : 0 ≤ k) (hlt : k.toNat < xs.length) (hl : xs.length < 2 ^ 20) (hch : Chg (FList a xs) (FList a (xs.set k.toNat v)) K K4) (h : P K4) :
  ∃ a' k' xs K4, SV.ref a = .ref a' ∧ SV.int k = .int k' ∧ 0 ≤ k' ∧ k'.toNat < xs.length ∧ xs.length < 2 ^ 20 ∧ Chg (FList a' xs) (FList a' (xs.set k'.toNat v)) K K4 ∧ P K4 := ⟨a, k, xs, K4, rfl, rfl, h0, hlt, hl, hch, h⟩
theorem inner_digits {c : Cx} {k : Nat} (ih : ∀ j, j + 1 = k → DI c j) : DI c k := by
 intro A K f d a1 a2 a3 cs γ doc pm cv ctv pre mid post x n Φ hr hF hC c1 c2 c3 g1 g2 g3 hx0 hx1 hm0 hm1 hm2 hl K' hch hΦ
 refine call_in hF (pi_int2digits _ _ _ _ _) rfl (hr.le (by omega)) fun L hG => ?_
 have hCl : Cells (fnEnv (in_int2digits [(Str.ofString "n", a3), (Str.ofString "inner", a2), (Str.ofString "a_digits", a1)] doc pm cv ctv) f L) [(Str.ofString "n", a3), (Str.ofString "inner", a2), (Str.ofString "a_digits", a1)] :=
  cells3 (.inr (by kernel_rfl)) (.inr (by kernel_rfl)) (.inr (by kernel_rfl)) (by kernel_rfl) (by kernel_rfl) (by kernel_rfl) (by decide) (by decide) (by decide)
 have hr' := hr.deeper (fnEnv (in_int2digits [(Str.ofString "n", a3), (Str.ofString "inner", a2), (Str.ofString "a_digits", a1)] doc pm cv ctv) f L)
 show TS c _ _ [("x", some (.int x)), ("L", some (.int pre.length)), ("R", some (.int (pre.length + mid.length))), ("mid", none), ("shift", none), ("upper", none), ("lower", none)] K _ _
 refine S_cons ?_
 walk_at "W"
 refine ⟨fun hb => ?_, fun hb => ?_⟩
 ·have hm : mid.length = 1 := by
   have hb : ((pre.length : Int) + 1 = pre.length + mid.length) := by simpa using hb
   omega
  obtain ⟨m, rfl⟩ : ∃ m, mid = [m] := List.length_eq_one_iff.mp hm
  refine S_cons ?_
  walk_at "W"
  have e1 : (pre ++ [m] ++ post).set ((pre.length : Int)).toNat (.int x) = pre ++ ivs (figs x n [m].length) ++ post := by
   rw [Int.toNat_natCast]
   have : x % 2 ^ n = x := Int.emod_eq_of_lt hx0 (by simpa using hx1)
   simp [List.set_append, figs, ivs, this]
  refine ex_set (by omega) (by simp) hl (e1 ▸ hch) ?_
  refine Then.nx ?_
  walk_at "W"
  exact Ret.rt hΦ
 ·have hm : 2 ≤ mid.length := by
   have hb : ¬ ((pre.length : Int) + 1 = pre.length + mid.length) := by simpa using hb
   omega
  obtain ⟨j, rfl⟩ : ∃ j, k = j + 1 := by
   cases k with
   | zero => simp at hm1; omega
   | succ j => exact ⟨j, rfl⟩
  have ih := ih j rfl
  have hm1' : mid.length ≤ 2 * 2 ^ j := by rw [Nat.pow_succ] at hm1; omega
  obtain ⟨lo, hi, rfl, hlo⟩ : ∃ lo hi, mid = lo ++ hi ∧ lo.length = mid.length / 2 := ⟨mid.take (mid.length / 2), mid.drop (mid.length / 2), by simp, by simp; omega⟩
  rw [List.length_append] at *
  refine S_nil ?_
  refine Then.nx ?_
  refine S_cons ?_
  walk_at "W"
  have em : ((pre.length : Int) + (pre.length + (lo.length + hi.length : Nat))).fdiv (2 ^ (1 : Int).toNat) = pre.length + lo.length := by
   rw [fdiv_two]; push_cast; omega
  rw [em]
  have es : ((pre.length : Int) + lo.length - pre.length) * n = ((n * lo.length : Nat) : Int) := by
   have : (pre.length : Int) + lo.length - pre.length = lo.length := by omega
   rw [this]; push_cast; rw [Int.mul_comm]
  have hnl : n * lo.length ≤ n * (lo.length + hi.length) := Nat.mul_le_mul_left _ (by omega)
  have hnm : n * (lo.length + hi.length) = n * lo.length + n * hi.length := Nat.mul_add ..
  have hsz : lo.length < 2 ^ 20 := by simp at hl; omega
  have hn24 : n ≤ 2 ^ 24 := by
   have : n * 1 ≤ n * (lo.length + hi.length) := Nat.mul_le_mul_left _ (by omega)
   omega
  have t1 : IntMulOk ((pre.length : Int) + lo.length - pre.length) n := by
   have e1 : (pre.length : Int) + lo.length - pre.length = lo.length := by omega
   rw [e1]
   have b1 : Builtin.Int.intBits (lo.length : Int) ≤ 20 := bits_of_lt (by omega) (by omega)
   have b2 : Builtin.Int.intBits (n : Int) ≤ 25 := bits_of_lt (by omega) (by omega)
   exact mul_ok (by omega)
  refine Then.nx (S_cons ?_)
  walk_at "W"
  rw [es]
  have z0 : (0 : Int) ≤ ((n * lo.length : Nat) : Int) := Int.natCast_nonneg _
  have ep : (2 : Int) ^ ((n * lo.length : Nat) : Int).toNat = 2 ^ (n * lo.length) := by rw [Int.toNat_natCast]
  have hp : (0 : Int) < 2 ^ (n * lo.length) := Int.pow_pos (by decide)
  have eu : x.fdiv (2 ^ (n * lo.length)) = x / 2 ^ (n * lo.length) := Int.fdiv_eq_ediv_of_nonneg _ (by omega)
  have u0 : 0 ≤ x / 2 ^ (n * lo.length) := Int.ediv_nonneg hx0 (by omega)
  have u1 : x / 2 ^ (n * lo.length) < 2 ^ (n * hi.length) := Int.ediv_lt_of_lt_mul hp (by rw [← Int.pow_add, ← Nat.mul_add, Nat.add_comm]; exact hx1)
  have v0 := Int.emod_nonneg x (b := 2 ^ (n * lo.length)) (by omega)
  have v1 := Int.emod_lt_of_pos x hp
  have bu : Builtin.Int.intBits (x / 2 ^ (n * lo.length)) ≤ n * hi.length := bits_of_lt u0 u1
  have t2 : (Builtin.Int.intBits (x / 2 ^ (n * lo.length)) : Int) + ((n * lo.length : Nat) : Int) ≤ 2 ^ 27 := by
   have : n * lo.length + n * hi.length ≤ 2 ^ 24 := by omega
   omega
  refine Then.nx (S_cons ?_)
  walk_at "W"
  rw [ep, eu]
  refine Then.nx (S_cons ?_)
  walk_at "W"
  rw [ep, xor_high hx0]
  refine Then.nx (S_cons ?_)
  walk_at "W"
  have ef : figs x n (lo.length + hi.length) = figs (x % 2 ^ (n * lo.length)) n lo.length ++ figs (x / 2 ^ (n * lo.length)) n hi.length := by rw [figs_add, figs_mod _ _ _ _ (Nat.le_refl _)]
  have hll : (ivs (figs (x % 2 ^ (n * lo.length)) n lo.length)).length = lo.length := by simp [ivs, figs_length]
  have hx1' : FList d (pre ++ (lo ++ hi) ++ post) = FList d (pre ++ lo ++ (hi ++ post)) := by simp
  have hx2' : FList d (pre ++ ivs (figs x n (lo.length + hi.length)) ++ post) = FList d ((pre ++ ivs (figs (x % 2 ^ (n * lo.length)) n lo.length)) ++ ivs (figs (x / 2 ^ (n * lo.length)) n hi.length) ++ post) := by rw [ef]; simp [ivs]
  have hx3' : FList d (pre ++ ivs (figs (x % 2 ^ (n * lo.length)) n lo.length) ++ (hi ++ post)) = FList d ((pre ++ ivs (figs (x % 2 ^ (n * lo.length)) n lo.length)) ++ hi ++ post) := by simp
  rw [hx1', hx2'] at hch
  obtain ⟨K1, ch1, ch2⟩ := hch.mid (FList d (pre ++ ivs (figs (x % 2 ^ (n * lo.length)) n lo.length) ++ (hi ++ post)))
  have hF1 := (ch1.mem hF).resolve_left FFn_ne_FList
  have hC1 := (ch1.mem hC).resolve_left (FCs_ne_FList c1 c2 (by decide))
  rw [hx3'] at ch2
  refine ih _ _ f d a1 a2 a3 cs γ doc pm cv ctv pre lo (hi ++ post) _ n _ (hr'.le (by omega)) (List.mem_cons_of_mem _ hF) (List.mem_cons_of_mem _ hC) c1 c2 c3 g1 g2 g3 v0 v1 (by omega) (by omega) (by omega) (by simp at hl ⊢; omega) _ (.there ch1) ?_
  refine Fx.mk ⟨rfl, ?_⟩
  refine Then.nx (S_cons ?_)
  walk_at "W"
  have eP : (pre.length : Int) + lo.length = ((pre ++ ivs (figs (x % 2 ^ (n * lo.length)) n lo.length)).length : Nat) := by rw [List.length_append, hll]; push_cast; rfl
  have eR : (pre.length : Int) + ((lo.length + hi.length : Nat) : Int) = ((pre ++ ivs (figs (x % 2 ^ (n * lo.length)) n lo.length)).length : Nat) + hi.length := by rw [List.length_append, hll]; push_cast; omega
  rw [eP, eR]
  refine ih _ _ f d a1 a2 a3 cs γ doc pm cv ctv (pre ++ ivs (figs (x % 2 ^ (n * lo.length)) n lo.length)) hi post _ n _ (hr'.le (by omega)) (List.mem_cons_of_mem _ hF1) (List.mem_cons_of_mem _ hC1) c1 c2 c3 g1 g2 g3 u0 u1 (by omega) (by omega) (by omega) (by rw [List.length_append, List.length_append, List.length_append, hll]; simp at hl; omega) _ (.there ch2) ?_
  refine Fx.mk ⟨rfl, ?_⟩
  repeat walk_at "T"
  exact Ret.nx hΦ
theorem inner_digits_all {c : Cx} : ∀ k, DI c k := by
 intro k
 induction k with
 | zero => exact inner_digits fun j h => by omega
 | succ k ih =>
  exact inner_digits fun j h => by
   obtain rfl : j = k := by omega
   exact ih
def cnt (x : Int) (n : Nat) : Nat := (Builtin.Int.intBits x + n - 1) / n
theorem cnt_lt {x : Int} {n : Nat} (h0 : 0 ≤ x) (hn : 1 ≤ n) : x < 2 ^ (n * cnt x n) := by
 have h := lt_of_bits h0
 have : Builtin.Int.intBits x ≤ n * cnt x n := by
  unfold cnt
  have := Nat.lt_mul_div_succ (Builtin.Int.intBits x + n - 1) (b := n) (by omega)
  rw [Nat.mul_add] at this
  omega
 exact Int.lt_of_lt_of_le h (pow_mono this)
theorem cnt_pos {x : Int} {n : Nat} (h0 : 0 < x) (hn : 1 ≤ n) : 1 ≤ cnt x n := by
 have h := lt_of_bits (x := x) (by omega)
 unfold cnt
 have : 1 ≤ Builtin.Int.intBits x := by
  rcases Nat.eq_zero_or_pos (Builtin.Int.intBits x) with e | e
  ·rw [e] at h; simp at h; omega
  ·exact e
 exact (Nat.le_div_iff_mul_le (by omega)).mpr (by omega)
theorem cnt_mul {x : Int} {n : Nat} (hn : 1 ≤ n) : n * cnt x n < Builtin.Int.intBits x + n := by
 unfold cnt
 have := Nat.mul_div_le (Builtin.Int.intBits x + n - 1) n
 omega
theorem DI.at {c : Cx} {k : Nat} (h : DI c k) {A : Around} {K K' : List Fact} {f d a1 a2 a3 : Addr} {cs : List (Str × Addr)} {γ : Loc} {doc pm cv ctv : Value} {xs : List SV} {x m : Int} {n : Nat} {Φ : SV → List Fact → Prop} (hr : Room A (k + 1))
 (hF : FFn f (in_int2digits [(Str.ofString "n", a3), (Str.ofString "inner", a2), (Str.ofString "a_digits", a1)] doc pm cv ctv) ∈ K) (hC : FCs cs γ ∈ K) (c1 : (Str.ofString "n", a3) ∈ cs) (c2 : (Str.ofString "inner", a2) ∈ cs) (c3 : (Str.ofString "a_digits", a1) ∈ cs)
 (g1 : (Str.ofString "n", some (.int n)) ∈ γ) (g2 : (Str.ofString "inner", some (.ref f)) ∈ γ) (g3 : (Str.ofString "a_digits", some (.ref d)) ∈ γ) (hx0 : 0 ≤ x) (hx1 : x < 2 ^ (n * xs.length)) (h1 : 1 ≤ xs.length) (h2 : xs.length ≤ 2 ^ k) (h3 : n * xs.length ≤ 2 ^ 24) (h4 : xs.length < 2 ^ 20)
 (em : m = xs.length) (hch : Chg (FList d xs) (FList d (ivs (figs x n xs.length))) K K') (hΦ : Φ .none K') : TCall c A K (.ref f) [.int x, .int 0, .int m] Φ := by
 subst em
 have := h A K f d a1 a2 a3 cs γ doc pm cv ctv [] xs [] x n Φ hr hF hC c1 c2 c3 g1 g2 g3 hx0 hx1 h1 h2 h3 (by simpa using h4) K' (by simpa using hch) hΦ
 simpa using this
theorem int2digits {c : Cx} (F : Fns c) {A : Around} {K : List Fact} {x : Int} {n : Nat} {Φ : SV → List Fact → Prop} (hr : Room A 14) (hx : 0 ≤ x) (hn : 1 ≤ n) (hb : Builtin.Int.intBits x + n ≤ 2 ^ 20) (hc : cnt x n ≤ 2 ^ 12)
  (hΦ : ∀ d, Φ (.ref d) (FList d (ivs (figs x n (cnt x n))) :: K)) : TCall c A K (.ref 35) [.int x, .int n] Φ := by
 obtain ⟨t, ht, hpos, hqual, o, pm, F1⟩ := F.f_int2digits
 have hT := F.tops
 refine call_defC F1 (pc_int2digits pm t.c) rfl (hr.le (by omega)) (ρ0 := [("a", some (.int x))]) (γ0 := [("inner", none), ("a_digits", none), ("n", some (.int n))]) (by simp [binds]) (by simp [binds]) rfl rfl fun L hG hC hK => ?_
 have hr' := hr.deeper (callEnvC (fd (st 4) "_int2digits" 3 pm (.ref t.c) 0) L 35)
 have hbn : 1 ≤ n ∧ n ≤ 2 ^ 20 := ⟨hn, by omega⟩
 have hp1 : Builtin.divisionGoesByPylong ((Builtin.Int.intBits x : Int) + n - 1) n = false := by
  refine noPylong (d := 0) (by omega) ?_
  have : Builtin.Int.intBits ((Builtin.Int.intBits x : Int) + n - 1) ≤ 21 := bits_of_lt (by omega) (by omega)
  omega
 have ec : ((Builtin.Int.intBits x : Int) + n - 1).fdiv n = (cnt x n : Nat) := by
  rw [Int.fdiv_eq_ediv_of_nonneg _ (by omega)]
  unfold cnt
  push_cast
  congr 1
  omega
 have hN : ([SV.int 0].length) * (((Builtin.Int.intBits x : Int) + n - 1).fdiv n).toNat ≤ 2 ^ 20 := by rw [ec]; simp; omega
 have hN2 : -(2 ^ 63) ≤ ((Builtin.Int.intBits x : Int) + n - 1).fdiv n := by rw [ec]; omega
 have hN3 : ((Builtin.Int.intBits x : Int) + n - 1).fdiv n < 2 ^ 63 := by rw [ec]; omega
 refine S_cons ?_
 walk_at "W"
 rw [ec]
 have e0 : (List.replicate ((cnt x n : Nat) : Int).toNat [SV.int 0]).flatten = ivs (List.replicate (cnt x n) 0) := by
  rw [Int.toNat_natCast]; simp [ivs]
 rw [e0]
 refine Then.nx (S_cons ?_)
 refine S_DefC2 (a := L + 1 + 1 + 1) (clos := [("n", L + 1), ("inner", L + 1 + 1 + 1), ("a_digits", L + 1 + 1)]) (G := in_int2digits [("n", L + 1), ("inner", L + 1 + 1 + 1), ("a_digits", L + 1 + 1)])
  ht hpos hqual rfl (by kernel_rfl) (by kernel_rfl) rfl rfl (by kernel_rfl) hC hK ?sa ?sb (fun _ _ _ _ => rfl) ?nx
 case sa => walk_at "mem"
 case sb => walk_at "mem"
 intro f doc pm cv ctv
 rename_i d0 d1
 walk_at "E"
 refine Then.nx (S_cons ?_)
 walk_at "W"
 have hl : (ivs (List.replicate (cnt x n) 0)).length = cnt x n := by simp [ivs]
 refine ⟨fun hb => ?_, fun hb => ?_⟩
 ·have hb : x ≠ 0 := by simpa using hb
  have h1 := cnt_pos (x := x) (n := n) (by omega) hn
  have h2 : (ivs (List.replicate (cnt x n) 0)).length < 2 ^ 20 := by omega
  walk_at "W"
  refine' (inner_digits_all 12).at (f := f) (d := d1) (cs := [("inner", L + 1 + 1 + 1), ("a_digits", L + 1 + 1), ("n", L + 1)])
   (γ := [("inner", some (.ref f)), ("a_digits", some (.ref d1)), ("n", some (.int n))]) (a1 := L + 1 + 1) (a2 := L + 1 + 1 + 1) (a3 := L + 1) (xs := ivs (List.replicate (cnt x n) 0)) (n := n)
   (hr'.le (by omega)) ?q0 ?q1 ?q2 ?q3 ?q4 ?q5 ?q6 ?q7 hx (by rw [hl]; exact cnt_lt hx hn) (by omega) (by omega) ?q8 (by omega) rfl ?q9 ?q10
  case q0 => walk_at "mem"
  case q1 => walk_at "mem"
  case q2 => walk_at "mem"
  case q3 => walk_at "mem"
  case q4 => walk_at "mem"
  case q5 => walk_at "mem"
  case q6 => walk_at "mem"
  case q7 => walk_at "mem"
  case q8 =>
   rw [hl]
   have := cnt_mul (x := x) hn
   omega
  case q9 => walk_at "chg"
  case q10 =>
   refine Fx.mk ⟨rfl, ?_⟩
   repeat walk_at "T"
   rw [hl]
   refine Ret.rtw ?_ (hΦ d1)
   walk_at "subl"
 ·have hb : x = 0 := by simpa using hb
  have h0 : cnt x n = 0 := by
   subst hb; unfold cnt
   have : Builtin.Int.intBits 0 = 0 := by decide
   rw [this]; exact Nat.div_eq_of_lt (by omega)
  repeat walk_at "T"
  rw [h0] at hΦ ⊢
  have e0 : ivs (List.replicate 0 0) = ivs (figs x n 0) := rfl
  rw [e0]
  refine Ret.rtw ?_ (hΦ d1)
  walk_at "subl"
def fval (n : Nat) : List Int → Int
 | [] => 0
 | d :: r => d + 2 ^ n * fval n r
theorem fval_append (n : Nat) : ∀ xs ys : List Int, fval n (xs ++ ys) = fval n xs + 2 ^ (n * xs.length) * fval n ys
 | [], ys => by simp [fval]
 | x :: xs, ys => by
   simp only [List.cons_append, fval, fval_append n xs ys, List.length_cons]
   have : (2 : Int) ^ (n * (xs.length + 1)) = 2 ^ n * 2 ^ (n * xs.length) := by rw [← Int.pow_add]; congr 1; rw [Nat.mul_succ, Nat.add_comm]
   rw [this]; grind
theorem fval_figs (x : Int) (n : Nat) : ∀ k, 0 ≤ x → x < 2 ^ (n * k) → fval n (figs x n k) = x
 | 0, h0, h => by simp [fval, figs] at *; omega
 | k + 1, h0, h => by
   have hp : (0 : Int) < 2 ^ n := Int.pow_pos (by decide)
   have e : (2 : Int) ^ (n * (k + 1)) = 2 ^ n * 2 ^ (n * k) := by rw [← Int.pow_add]; congr 1; rw [Nat.mul_succ, Nat.add_comm]
   simp only [fval, figs]
   rw [fval_figs (x / 2 ^ n) n k (Int.ediv_nonneg h0 (by omega)) (Int.ediv_lt_of_lt_mul hp (by rw [Int.mul_comm, ← e]; exact h))]
   have := Int.mul_ediv_add_emod x (2 ^ n)
   omega
theorem fval_abs (n B : Nat) : ∀ ds : List Int, (∀ d ∈ ds, d.natAbs < 2 ^ B) → (fval n ds).natAbs ≤ 2 ^ (B + (n + 1) * ds.length)
 | [], h => by simp [fval]
 | d :: r, h => by
   have h1 := h d List.mem_cons_self
   have h2 := fval_abs n B r fun x hx => h x (List.mem_cons_of_mem _ hx)
   have e : 2 ^ (B + (n + 1) * (d :: r).length) = 2 ^ n * 2 ^ (B + (n + 1) * r.length) * 2 := by
    rw [← Nat.pow_add, ← Nat.pow_succ]; congr 1; rw [List.length_cons, Nat.mul_succ]; omega
   have h3 : (fval n (d :: r)).natAbs ≤ d.natAbs + 2 ^ n * (fval n r).natAbs := by
    simp only [fval]
    refine Nat.le_trans (Int.natAbs_add_le _ _) ?_
    rw [Int.natAbs_mul, Int.natAbs_pow]
    exact Nat.le_refl _
   have h4 : 2 ^ n * (fval n r).natAbs ≤ 2 ^ n * 2 ^ (B + (n + 1) * r.length) := Nat.mul_le_mul_left _ h2
   have h5 : 2 ^ B ≤ 2 ^ n * 2 ^ (B + (n + 1) * r.length) := by
    rw [← Nat.pow_add]; exact Nat.pow_le_pow_right (by decide) (by omega)
   omega
theorem fval_bits (n B : Nat) (ds : List Int) (h : ∀ d ∈ ds, d.natAbs < 2 ^ B) : Builtin.Int.intBits (fval n ds) ≤ B + (n + 1) * ds.length + 1 := by
 refine bits_le ?_
 have := fval_abs n B ds h
 rw [Nat.pow_succ]
 have : 0 < 2 ^ (B + (n + 1) * ds.length) := Nat.pow_pos (by decide)
 omega
def DJ (c : Cx) (k : Nat) : Prop := ∀ (A : Around) (K : List Fact) (f d a1 a2 a3 : Addr) (cs : List (Str × Addr)) (γ : Loc) (doc pm cv ctv : Value) (pre mid post : List Int) (n B : Nat) (Φ : SV → List Fact → Prop), Room A (k + 1) →
 FFn f (in_digits2int [(Str.ofString "n", a3), (Str.ofString "inner", a2), (Str.ofString "digits", a1)] doc pm cv ctv) ∈ K → FCs cs γ ∈ K → (Str.ofString "n", a3) ∈ cs → (Str.ofString "inner", a2) ∈ cs → (Str.ofString "digits", a1) ∈ cs →
 (Str.ofString "n", some (.int n)) ∈ γ → (Str.ofString "inner", some (.ref f)) ∈ γ → (Str.ofString "digits", some (.ref d)) ∈ γ → (∀ d ∈ mid, d.natAbs < 2 ^ B) → 1 ≤ mid.length → mid.length ≤ 2 ^ k → B + (n + 1) * mid.length ≤ 2 ^ 24 → (pre ++ mid ++ post).length < 2 ^ 20 →
 FList d (ivs (pre ++ mid ++ post)) ∈ K → Φ (.int (fval n mid)) K → TCall c A K (.ref f) [.int pre.length, .int (pre.length + mid.length)] Φ
theorem inner_val {c : Cx} {k : Nat} (ih : ∀ j, j + 1 = k → DJ c j) : DJ c k := by
 intro A K f d a1 a2 a3 cs γ doc pm cv ctv pre mid post n B Φ hr hF hC c1 c2 c3 g1 g2 g3 hB hm0 hm1 hm2 hl hd hΦ
 refine call_in hF (pi_digits2int _ _ _ _ _) rfl (hr.le (by omega)) fun L hG => ?_
 have hCl : Cells (fnEnv (in_digits2int [(Str.ofString "n", a3), (Str.ofString "inner", a2), (Str.ofString "digits", a1)] doc pm cv ctv) f L) [(Str.ofString "n", a3), (Str.ofString "inner", a2), (Str.ofString "digits", a1)] :=
  cells3 (.inr (by kernel_rfl)) (.inr (by kernel_rfl)) (.inr (by kernel_rfl)) (by kernel_rfl) (by kernel_rfl) (by kernel_rfl) (by decide) (by decide) (by decide)
 have hr' := hr.deeper (fnEnv (in_digits2int [(Str.ofString "n", a3), (Str.ofString "inner", a2), (Str.ofString "digits", a1)] doc pm cv ctv) f L)
 show TS c _ _ [("L", some (.int pre.length)), ("R", some (.int (pre.length + mid.length))), ("mid", none), ("shift", none)] K _ _
 refine S_cons ?_
 walk_at "W"
 refine ⟨fun hb => ?_, fun hb => ?_⟩
 ·have hm : mid.length = 1 := by
   have hb : ((pre.length : Int) + 1 = pre.length + mid.length) := by simpa using hb
   omega
  obtain ⟨m, rfl⟩ : ∃ m, mid = [m] := List.length_eq_one_iff.mp hm
  have z0 : (0 : Int) ≤ pre.length := Int.natCast_nonneg _
  have hx : (ivs (pre ++ [m] ++ post))[(pre.length : Int).toNat]? = some (.int m) := by rw [Int.toNat_natCast]; simp [ivs]
  have hl' : (ivs (pre ++ [m] ++ post)).length < 2 ^ 20 := by simpa [ivs] using hl
  have e : fval n [m] = m := by simp [fval]
  rw [e] at hΦ
  walk_at "W"
  exact Ret.rt hΦ
 ·have hm : 2 ≤ mid.length := by
   have hb : ¬ ((pre.length : Int) + 1 = pre.length + mid.length) := by simpa using hb
   omega
  obtain ⟨j, rfl⟩ : ∃ j, k = j + 1 := by
   cases k with
   | zero => simp at hm1; omega
   | succ j => exact ⟨j, rfl⟩
  have ih := ih j rfl
  have hm1' : mid.length ≤ 2 * 2 ^ j := by rw [Nat.pow_succ] at hm1; omega
  obtain ⟨lo, hi, rfl, hlo⟩ : ∃ lo hi, mid = lo ++ hi ∧ lo.length = mid.length / 2 := ⟨mid.take (mid.length / 2), mid.drop (mid.length / 2), by simp, by simp; omega⟩
  rw [List.length_append] at *
  refine S_nil ?_
  refine Then.nx ?_
  refine S_cons ?_
  walk_at "W"
  have em : ((pre.length : Int) + (pre.length + (lo.length + hi.length : Nat))).fdiv (2 ^ (1 : Int).toNat) = pre.length + lo.length := by
   rw [fdiv_two]; push_cast; omega
  rw [em]
  have es : ((pre.length : Int) + lo.length - pre.length) * n = ((n * lo.length : Nat) : Int) := by
   have : (pre.length : Int) + lo.length - pre.length = lo.length := by omega
   rw [this]; push_cast; rw [Int.mul_comm]
  have hnm : (n + 1) * (lo.length + hi.length) = n * lo.length + lo.length + (n * hi.length + hi.length) := by rw [Nat.mul_add, Nat.succ_mul, Nat.succ_mul]
  have hsz : lo.length < 2 ^ 20 := by simp at hl; omega
  have hn24 : n ≤ 2 ^ 24 := by
   have : (n + 1) * 1 ≤ (n + 1) * (lo.length + hi.length) := Nat.mul_le_mul_left _ (by omega)
   omega
  have t1 : IntMulOk ((pre.length : Int) + lo.length - pre.length) n := by
   have e1 : (pre.length : Int) + lo.length - pre.length = lo.length := by omega
   rw [e1]
   have b1 : Builtin.Int.intBits (lo.length : Int) ≤ 20 := bits_of_lt (by omega) (by omega)
   have b2 : Builtin.Int.intBits (n : Int) ≤ 25 := bits_of_lt (by omega) (by omega)
   exact mul_ok (by omega)
  refine Then.nx (S_cons ?_)
  walk_at "W"
  rw [es]
  have z0 : (0 : Int) ≤ ((n * lo.length : Nat) : Int) := Int.natCast_nonneg _
  have hBl : ∀ d ∈ lo, d.natAbs < 2 ^ B := fun d hd => hB d (List.mem_append_left _ hd)
  have hBh : ∀ d ∈ hi, d.natAbs < 2 ^ B := fun d hd => hB d (List.mem_append_right _ hd)
  have bu := fval_bits n B hi hBh
  have t2 : (Builtin.Int.intBits (fval n hi) : Int) + ((n * lo.length : Nat) : Int) ≤ 2 ^ 27 := by
   have : (n + 1) * hi.length = n * hi.length + hi.length := Nat.succ_mul ..
   omega
  have hlo2 : (n + 1) * lo.length = n * lo.length + lo.length := Nat.succ_mul ..
  have hhi2 : (n + 1) * hi.length = n * hi.length + hi.length := Nat.succ_mul ..
  refine Then.nx (S_cons ?_)
  walk_at "W"
  have eP : (pre.length : Int) + lo.length = ((pre ++ lo).length : Nat) := by rw [List.length_append]; push_cast; rfl
  have eR : (pre.length : Int) + ((lo.length + hi.length : Nat) : Int) = ((pre ++ lo).length : Nat) + hi.length := by rw [List.length_append]; push_cast; omega
  rw [eP, eR]
  refine ih _ _ f d a1 a2 a3 cs γ doc pm cv ctv (pre ++ lo) hi post n B _ (hr'.le (by omega)) (List.mem_cons_of_mem _ hF) (List.mem_cons_of_mem _ hC) c1 c2 c3 g1 g2 g3 hBh (by omega) (by omega) (by omega) (by simp at hl ⊢; omega) (List.mem_cons_of_mem _ (by simpa using hd)) ?_
  refine Fx.mk ?_
  walk_at "W"
  rw [← eP]
  refine ih _ _ f d a1 a2 a3 cs γ doc pm cv ctv pre lo (hi ++ post) n B _ (hr'.le (by omega)) (List.mem_cons_of_mem _ hF) (List.mem_cons_of_mem _ hC) c1 c2 c3 g1 g2 g3 hBl (by omega) (by omega) (by omega) (by simp at hl ⊢; omega) (List.mem_cons_of_mem _ (by simpa using hd)) ?_
  refine Fx.mk ?_
  walk_at "W"
  have ev : fval n hi * 2 ^ ((n * lo.length : Nat) : Int).toNat + fval n lo = fval n (lo ++ hi) := by
   rw [fval_append, Int.toNat_natCast, Int.mul_comm]; omega
  rw [ev]
  exact Ret.rt hΦ
theorem inner_val_all {c : Cx} : ∀ k, DJ c k := by
 intro k
 induction k with
 | zero => exact inner_val fun j h => by omega
 | succ k ih =>
  exact inner_val fun j h => by
   obtain rfl : j = k := by omega
   exact ih
theorem DJ.at {c : Cx} {k : Nat} (h : DJ c k) {A : Around} {K : List Fact} {f d a1 a2 a3 : Addr} {cs : List (Str × Addr)} {γ : Loc} {doc pm cv ctv : Value} {ds : List Int} {m : Int} {n B : Nat} {Φ : SV → List Fact → Prop} (hr : Room A (k + 1))
 (hF : FFn f (in_digits2int [(Str.ofString "n", a3), (Str.ofString "inner", a2), (Str.ofString "digits", a1)] doc pm cv ctv) ∈ K) (hC : FCs cs γ ∈ K) (c1 : (Str.ofString "n", a3) ∈ cs) (c2 : (Str.ofString "inner", a2) ∈ cs) (c3 : (Str.ofString "digits", a1) ∈ cs)
 (g1 : (Str.ofString "n", some (.int n)) ∈ γ) (g2 : (Str.ofString "inner", some (.ref f)) ∈ γ) (g3 : (Str.ofString "digits", some (.ref d)) ∈ γ) (hd : FList d (ivs ds) ∈ K) (hB : ∀ d ∈ ds, d.natAbs < 2 ^ B) (h1 : 1 ≤ ds.length) (h2 : ds.length ≤ 2 ^ k) (h3 : B + (n + 1) * ds.length ≤ 2 ^ 24) (h4 : ds.length < 2 ^ 20)
 (em : m = (ivs ds).length) (hΦ : Φ (.int (fval n ds)) K) : TCall c A K (.ref f) [.int 0, .int m] Φ := by
 subst em
 have e : (ivs ds).length = ds.length := by simp [ivs]
 rw [e]
 have := h A K f d a1 a2 a3 cs γ doc pm cv ctv [] ds [] n B Φ hr hF hC c1 c2 c3 g1 g2 g3 hB h1 h2 h3 (by simpa using h4) (by simpa using hd) hΦ
 simpa using this
theorem digits2int {c : Cx} (F : Fns c) {A : Around} {K : List Fact} {d : Addr} {ds : List Int} {n B : Nat} {Φ : SV → List Fact → Prop} (hr : Room A 14) (hd : FList d (ivs ds) ∈ K) (hB : ∀ d ∈ ds, d.natAbs < 2 ^ B) (hl : ds.length ≤ 2 ^ 12) (hs : B + (n + 1) * ds.length ≤ 2 ^ 24)
  (hΦ : Φ (.int (fval n ds)) K) : TCall c A K (.ref 42) [.ref d, .int n] Φ := by
 obtain ⟨t, ht, hpos, hqual, o, pm, F1⟩ := F.f_digits2int
 have hT := F.tops
 refine call_defC F1 (pc_digits2int pm t.c) rfl (hr.le (by omega)) (ρ0 := []) (γ0 := [("inner", none), ("n", some (.int n)), ("digits", some (.ref d))]) (by simp [binds]) (by simp [binds]) rfl rfl fun L hG hC hK => ?_
 have hr' := hr.deeper (callEnvC (fd (st 5) "_digits2int" 3 pm (.ref t.c) 0) L 42)
 have hle : (ivs ds).length = ds.length := by simp [ivs]
 have hl2 : (ivs ds).length < 2 ^ 20 := by omega
 refine S_cons ?_
 refine S_DefC2 (a := L + 1 + 1 + 1) (clos := [("n", L + 1 + 1), ("inner", L + 1 + 1 + 1), ("digits", L + 1)]) (G := in_digits2int [("n", L + 1 + 1), ("inner", L + 1 + 1 + 1), ("digits", L + 1)])
  ht hpos hqual rfl (by kernel_rfl) (by kernel_rfl) rfl rfl (by kernel_rfl) hC hK ?sa ?sb (fun _ _ _ _ => rfl) ?nx
 case sa => walk_at "mem"
 case sb => walk_at "mem"
 intro f doc pm cv ctv
 walk_at "E"
 refine Then.nx (S_cons ?_)
 have hd2 : FList d (ivs ds) ∈ (FFn f (in_digits2int [("n", L + 1 + 1), ("inner", L + 1 + 1 + 1), ("digits", L + 1)] doc pm cv ctv) :: FCs [("inner", L + 1 + 1 + 1), ("n", L + 1 + 1), ("digits", L + 1)]
  [("inner", some (.ref f)), ("n", some (.int n)), ("digits", some (.ref d))] :: K) := List.mem_cons_of_mem _ (List.mem_cons_of_mem _ hd)
 walk_at "W"
 refine ⟨fun hb => ?_, fun hb => ?_⟩
 ·have hb : 1 ≤ ds.length := by
   rcases ds with _ | ⟨x, r⟩
   ·simp [ivs] at hb
   ·simp
  walk_at "W"
  refine' (inner_val_all 12).at (f := f) (d := d) (cs := [("inner", L + 1 + 1 + 1), ("n", L + 1 + 1), ("digits", L + 1)])
   (γ := [("inner", some (.ref f)), ("n", some (.int n)), ("digits", some (.ref d))]) (a1 := L + 1) (a2 := L + 1 + 1 + 1) (a3 := L + 1 + 1) (ds := ds) (n := n) (B := B)
   (hr'.le (by omega)) ?q0 ?q1 ?q2 ?q3 ?q4 ?q5 ?q6 ?q7 ?q8 hB hb (by omega) hs (by omega) rfl ?q9
  case q0 => walk_at "mem"
  case q1 => walk_at "mem"
  case q2 => walk_at "mem"
  case q3 => walk_at "mem"
  case q4 => walk_at "mem"
  case q5 => walk_at "mem"
  case q6 => walk_at "mem"
  case q7 => walk_at "mem"
  case q8 => exact List.mem_cons_of_mem _ hd2
  case q9 =>
   refine Fx.mk ?_
   repeat walk_at "T"
   refine Ret.rtw ?_ hΦ
   walk_at "subl"
 ·have hb : ds = [] := by
   rcases ds with _ | ⟨x, r⟩
   ·rfl
   ·simp [ivs] at hb
  subst hb
  repeat walk_at "T"
  refine Ret.rtw ?_ hΦ
  walk_at "subl"
theorem step_div {a b r q d H V : Int} {n : Nat} (e : V * b + r = H) (hq : q = (r * 2 ^ n + d) / b) : (q + 2 ^ n * V) * b + (r * 2 ^ n + d) % b = d + 2 ^ n * H := by
 have := Int.mul_ediv_add_emod (r * 2 ^ n + d) b
 subst hq e
 grind
theorem bits_ge {b : Int} (h : 0 < b) : (2 : Int) ^ (Builtin.Int.intBits b - 1) ≤ b := by
 rcases Int.lt_or_le b (2 ^ (Builtin.Int.intBits b - 1)) with h1 | h1
 ·have := bits_of_lt (x := b) (by omega) h1
  have h2 : Builtin.Int.intBits b = 0 := by omega
  rw [h2] at h1; simp at h1; omega
 ·exact h1
theorem TCall.new1 {c : Cx} {A : Around} {ρ : Loc} {K : List Fact} {Φ : SV → Loc → List Fact → Prop} {f : SV} {xs : List SV} {L : Addr} {G : Addr → Fact} (h : ∀ Ψ : SV → List Fact → Prop, (∀ d, Ψ (.ref d) (G d :: FFr L ρ :: K)) → TCall c A (FFr L ρ :: K) f xs Ψ) (hq : ∀ d, Φ (.ref d) ρ (G d :: K)) :
  TCall c A (FFr L ρ :: K) f xs (Fx L ρ Φ) :=
 TCall.fx (h (fun v K' => ∃ d, v = .ref d ∧ K' = G d :: FFr L ρ :: K) fun d => ⟨d, rfl, rfl⟩) fun v K' ⟨d, e1, e2⟩ => ⟨G d :: K, e2 ▸ .swap .., e1 ▸ hq d⟩
theorem figs_lt (x : Int) (n : Nat) : ∀ k, ∀ d ∈ figs x n k, 0 ≤ d ∧ d < 2 ^ n
 | 0, d, h => by simp [figs] at h
 | k + 1, d, h => by
   have hp : (0 : Int) < 2 ^ n := Int.pow_pos (by decide)
   rcases List.mem_cons.mp h with rfl | h
   ·exact ⟨Int.emod_nonneg _ (by omega), Int.emod_lt_of_pos _ hp⟩
   ·exact figs_lt _ n k d h
theorem divmod_pos {c : Cx} (F : Fns c) {A : Around} {K : List Fact} {a b : Int} {Φ : SV → List Fact → Prop} (hr : Room A 20) (h0 : 0 ≤ a) (hb : 0 < b) (h1 : Builtin.Int.intBits b ≤ 16000) (h2 : Builtin.Int.intBits a ≤ 2 ^ 17) (h3 : cnt a (Builtin.Int.intBits b) ≤ 2 ^ 12)
  (hΦ : Φ (.tup [.int (a / b), .int (a % b)]) K) : TCall c A K (.ref 49) [.int a, .int b] Φ := by
 obtain ⟨o, pm, cd, F1⟩ := F.f_divmod_pos
 obtain ⟨o2, pm2, cd2, F2⟩ := F.f_div2n1n
 obtain ⟨ti, _, _, _, oi, pmi, Fi⟩ := F.f_int2digits
 obtain ⟨td, _, _, _, od, pmd, Fd⟩ := F.f_digits2int
 have hT := F.tops
 refine call_fn F1 (p_divmod_pos pm cd) rfl (hr.le (by omega)) fun L hG => ?_
 have hr' := hr.deeper (fnEnv (fd (st 6) "_divmod_pos" 3 pm (.ref cd) 0) 49 L)
 have hn1 : 1 ≤ Builtin.Int.intBits b := by
  have h := lt_of_bits (x := b) (by omega)
  rcases Nat.eq_zero_or_pos (Builtin.Int.intBits b) with e | e
  ·rw [e] at h; simp at h; omega
  ·exact e
 have hblt := lt_of_bits (x := b) (by omega)
 have hbge := bits_ge hb
 have hclt := cnt_lt h0 hn1
 have hcm := cnt_mul (x := a) hn1
 show TS c _ _ [("a", some (.int a)), ("b", some (.int b)), ("n", none), ("a_digits", none), ("r", none), ("q_digits", none), ("a_digit", none), ("q_digit", none), ("q", none)] K _ _
 refine S_cons ?_
 walk_at "W"
 generalize hn : Builtin.Int.intBits b = n at *
 refine Then.nx (S_cons ?_)
 walk_at "W"
 refine TCall.new1 (fun Ψ hΨ => int2digits F (hr'.le (by omega)) h0 hn1 (by omega) h3 hΨ) fun ad => ?_
 walk_at "W"
 refine Then.nx (S_cons ?_)
 walk_at "W"
 refine Then.nx (S_cons ?_)
 walk_at "W"
 rename_i qd
 refine Then.nx (S_cons ?_)
 have hlen := figs_length a n (cnt a n)
 have hdig : ∀ d ∈ figs a n (cnt a n), 0 ≤ d ∧ d < 2 ^ n := figs_lt a n _
 have hval := fval_figs a n (cnt a n) h0 hclt
 generalize hds : figs a n (cnt a n) = ds at *
 have hP : (0 : Int) < 2 ^ n := Int.pow_pos (by decide)
 have hil : (ivs ds).length < 2 ^ 20 := by simp [ivs]; omega
 have hnn : (0 : Int) ≤ (n : Int) := Int.natCast_nonneg _
 have ep : (2 : Int) ^ (n : Int).toNat = 2 ^ n := by rw [Int.toNat_natCast]
 refine S_ForI ?_
 walk_at "W"
 refine ⟨_, _, _, _, fun rest ρ' K' => ∃ (lo hi qs : List Int) (r : Int) (o1 o2 : Option SV), ds = lo ++ hi ∧ rest = (ivs lo).reverse ∧ 0 ≤ r ∧ r < b ∧ fval n qs.reverse * b + r = fval n hi ∧ qs.length = hi.length ∧ (∀ q ∈ qs, q.natAbs < 2 ^ n) ∧
  ρ' = ([("a", some (.int a)), ("b", some (.int b)), ("n", some (.int n)), ("a_digits", some (.ref ad)), ("r", some (.int r)), ("q_digits", some (.ref qd)), ("a_digit", o1), ("q_digit", o2), ("q", none)] : Loc) ∧ K' = FList qd (ivs qs) :: FList ad (ivs ds) :: K,
  Itb.rev hr'.hh Rem.here (by walk_at "mem"), trivial, ⟨ds, [], [], 0, none, none, by simp, rfl, by omega, hb, by simp [fval], rfl, by simp, rfl, rfl⟩, ?_, ?_, ?_⟩
 ·rintro rest ρ2 K2 ⟨lo, hi, qs, r, o1, o2, -, -, -, -, -, -, -, -, rfl⟩ f hf
  rw [List.mem_singleton.mp hf]
  walk_at "mem"
 ·rintro Fi x rest ρ2 K2 ⟨lo, hi, qs, r, o1, o2, e1, e2, e3, e4, e5, e6, e7, rfl, rfl⟩ _
  obtain rfl | ⟨lo', d, rfl⟩ := List.eq_nil_or_concat lo
  ·simp [ivs] at e2
  ·have e2' : x :: rest = .int d :: (ivs lo').reverse := by rw [e2]; simp [ivs]
   injection e2' with ex er
   subst ex er
   obtain ⟨d0, d1⟩ := hdig d (by rw [e1]; simp)
   have br : Builtin.Int.intBits r ≤ n := bits_of_lt e3 (by omega)
   have t1 : (Builtin.Int.intBits r : Int) + (n : Int) ≤ 2 ^ 27 := by omega
   have hr2 : r * 2 ^ n ≤ (b - 1) * 2 ^ n := Int.mul_le_mul_of_nonneg_right (by omega) (by omega)
   rw [Int.sub_mul] at hr2
   have hr0 : 0 ≤ r * 2 ^ n := Int.mul_nonneg e3 (by omega)
   walk_at "W"
   rw [ep]
   refine (div23 F 2).1 _ _ (r * 2 ^ n + d) b n _ (hr'.le (by omega)) (by omega) (by omega) hbge hblt hn1 (by omega) (by omega) (Fx.mk ?_)
   have q0 : 0 ≤ (r * 2 ^ n + d) / b := Int.ediv_nonneg (by omega) (by omega)
   have q1 : (r * 2 ^ n + d) / b < 2 ^ n := Int.ediv_lt_of_lt_mul hb (by have e : 2 ^ n * b = b * 2 ^ n := Int.mul_comm _ _; omega)
   have s0 := Int.emod_nonneg (r * 2 ^ n + d) (b := b) (by omega)
   have s1 := Int.emod_lt_of_pos (r * 2 ^ n + d) hb
   have hql : (ivs qs).length < 2 ^ 20 := by
    have := congrArg List.length e1
    simp at this; simp [ivs]; omega
   repeat walk_at "T"
   refine TurnI.nx (K5 := FList qd (ivs (qs ++ [(r * 2 ^ n + d) / b])) :: FList ad (ivs ds) :: K) ?_ ⟨lo', d :: hi, qs ++ [(r * 2 ^ n + d) / b], _, _, _, by rw [e1]; simp, rfl, s0, s1, ?_, by simp [e6], ?_, rfl, rfl⟩
   ·have e : ivs (qs ++ [(r * 2 ^ n + d) / b]) = ivs qs ++ [.int ((r * 2 ^ n + d) / b)] := by simp [ivs]
    rw [e]
    walk_at "pick"
   ·rw [List.reverse_append]
    exact step_div (a := 0) e5 rfl
   ·intro q hq
    rcases List.mem_append.mp hq with h | h
    ·exact e7 q h
    ·rw [List.mem_singleton.mp h]
     have : (((2 : Nat) ^ n : Nat) : Int) = 2 ^ n := by simp
     omega
 ·rintro ρ2 K2 ⟨lo, hi, qs, r, o1, o2, e1, e2, e3, e4, e5, e6, e7, rfl, rfl⟩ _
  have hlo : lo = [] := by
   cases lo with
   | nil => rfl
   | cons x l => simp [ivs] at e2
  subst hlo
  rw [List.nil_append] at e1
  subst e1
  have hql : (ivs qs).length < 2 ^ 20 := by simp [ivs]; omega
  refine S_nil (Then.nx (S_cons ?_))
  walk_at "W"
  have er : (ivs qs).reverse = ivs qs.reverse := by simp [ivs]
  rw [er]
  refine Then.nx (S_cons ?_)
  walk_at "W"
  refine digits2int F (B := n) (hr'.le (by omega)) (by walk_at "mem") (fun d hd => e7 d (List.mem_reverse.mp hd)) (by simp; omega) ?_ (Fx.mk ?_)
  ·rw [List.length_reverse, e6, hlen, Nat.succ_mul]; omega
  repeat walk_at "T"
  rw [hval] at e5
  have hd : a / b = fval n qs.reverse ∧ a % b = r := by
   rw [← e5]
   constructor
   ·rw [Int.add_comm, Int.add_mul_ediv_right _ _ (by omega), Int.ediv_eq_zero_of_lt e3 e4]; omega
   ·rw [Int.add_comm, Int.add_mul_emod_self_right, Int.emod_eq_of_lt e3 e4]
  rw [hd.1, hd.2] at hΦ
  refine Ret.rtw ?_ hΦ
  walk_at "subl"
theorem bits_neg (a : Int) : Builtin.Int.intBits (-a) = Builtin.Int.intBits a := by
 unfold Builtin.Int.intBits
 have : (-a == 0) = (a == 0) := by rw [Bool.eq_iff_iff]; simp
 rw [this, Int.natAbs_neg]
theorem bits_not {a : Int} (h : a < 0) : Builtin.Int.intBits (Builtin.bitNot a) ≤ Builtin.Int.intBits a := by
 unfold Builtin.bitNot
 rw [← bits_neg a]
 have h1 := lt_of_bits (x := -a) (by omega)
 exact bits_of_lt (by omega) (by omega)
theorem cnt_mono {a a' : Int} {n : Nat} (h : Builtin.Int.intBits a ≤ Builtin.Int.intBits a') : cnt a n ≤ cnt a' n := by
 unfold cnt; exact Nat.div_le_div_right (by omega)
theorem int_divmod_up {c : Cx} (F : Fns c) {A : Around} {K : List Fact} {a b : Int} {Φ : SV → List Fact → Prop} (hr : Room A 22) (hb : 0 < b) (h1 : Builtin.Int.intBits b ≤ 16000) (h2 : Builtin.Int.intBits a ≤ 2 ^ 17) (h3 : cnt a (Builtin.Int.intBits b) ≤ 2 ^ 12)
  (hΦ : Φ (.tup [.int (a / b), .int (a % b)]) K) : TCall c A K (.ref 56) [.int a, .int b] Φ := by
 obtain ⟨o, pm, cd, F1⟩ := F.f_int_divmod
 obtain ⟨o2, pm2, cd2, F2⟩ := F.f_divmod_pos
 have hT := F.tops
 have core : ∀ {A : Around} {K : List Fact} {a : Int} {Φ : SV → List Fact → Prop}, Room A 21 → 0 ≤ a → Builtin.Int.intBits a ≤ 2 ^ 17 → cnt a (Builtin.Int.intBits b) ≤ 2 ^ 12 → Φ (.tup [.int (a / b), .int (a % b)]) K → TCall c A K (.ref 56) [.int a, .int b] Φ := by
  intro A K a Φ hr h0 h2 h3 hΦ
  refine call_fn F1 (p_int_divmod pm cd) rfl (hr.le (by omega)) fun L hG => ?_
  have hr' := hr.deeper (fnEnv (fd (st 7) "int_divmod" 3 pm (.ref cd) 0) 56 L)
  show TS c _ _ [("a", some (.int a)), ("b", some (.int b)), ("q", none), ("r", none)] K _ _
  refine S_cons ?_
  walk_at "W"
  refine ⟨fun hc => ?_, fun hc => ?_⟩
  ·have hc : b = 0 := by simpa using hc
   omega
  ·walk_at "W"
   refine ⟨fun hc => ?_, fun hc => ?_⟩
   ·have hc := of_decide_eq_true hc
    omega
   ·walk_at "W"
    refine ⟨fun hc => ?_, fun hc => ?_⟩
    ·have hc := of_decide_eq_true hc
     omega
    ·walk_at "W"
     refine divmod_pos F (hr'.le (by omega)) h0 hb h1 h2 h3 (Fx.mk ?_)
     exact ⟨_, .refl _, hΦ⟩
 refine call_fn F1 (p_int_divmod pm cd) rfl (hr.le (by omega)) fun L hG => ?_
 have hr' := hr.deeper (fnEnv (fd (st 7) "int_divmod" 3 pm (.ref cd) 0) 56 L)
 show TS c _ _ [("a", some (.int a)), ("b", some (.int b)), ("q", none), ("r", none)] K _ _
 refine S_cons ?_
 walk_at "W"
 refine ⟨fun hc => ?_, fun hc => ?_⟩
 ·have hc : b = 0 := by simpa using hc
  omega
 ·walk_at "W"
  refine ⟨fun hc => ?_, fun hc => ?_⟩
  ·have hc := of_decide_eq_true hc
   omega
  ·walk_at "W"
   refine ⟨fun hc => ?_, fun hc => ?_⟩
   ·have hc := of_decide_eq_true hc
    have hn : Builtin.bitNot a = -a - 1 := by unfold Builtin.bitNot; omega
    repeat walk_at "T"
    have hbn := bits_not hc
    refine core (hr'.le (by omega)) (by omega) (by omega) (Nat.le_trans (cnt_mono hbn) h3) (Fx.mk ?_)
    repeat walk_at "T"
    have e1 : Builtin.bitNot (Builtin.bitNot a / b) = a / b ∧ b + Builtin.bitNot (Builtin.bitNot a % b) = a % b := by
     have := Int.mul_ediv_add_emod (-a - 1) b
     have s0 := Int.emod_nonneg (-a - 1) (b := b) (by omega)
     have s1 := Int.emod_lt_of_pos (-a - 1) hb
     rw [hn]
     generalize (-a - 1) / b = q at *
     generalize (-a - 1) % b = r at *
     have ea : a = (b - 1 - r) + b * (-q - 1) := by grind
     have n1 : Builtin.bitNot q = -q - 1 := by unfold Builtin.bitNot; omega
     have n2 : Builtin.bitNot r = -r - 1 := by unfold Builtin.bitNot; omega
     rw [n1, n2]
     constructor
     ·rw [ea, Int.add_mul_ediv_left _ _ (by omega), Int.ediv_eq_zero_of_lt (by omega) (by omega)]; omega
     ·rw [ea, Int.add_mul_emod_self_left, Int.emod_eq_of_lt (by omega) (by omega)]; omega
    rw [e1.1, e1.2]
    exact Ret.rt hΦ
   ·have hc := of_decide_eq_false hc
    walk_at "W"
    refine divmod_pos F (hr'.le (by omega)) (by omega) hb h1 h2 h3 (Fx.mk ?_)
    exact ⟨_, .refl _, hΦ⟩
theorem int_divmod {c : Cx} (F : Fns c) {A : Around} {K : List Fact} {a b : Int} {Φ : SV → List Fact → Prop} (hr : Room A 23) (hb : b ≠ 0) (h1 : Builtin.Int.intBits b ≤ 16000) (h2 : Builtin.Int.intBits a ≤ 2 ^ 17) (h3 : cnt a (Builtin.Int.intBits b) ≤ 2 ^ 12)
  (hΦ : Φ (.tup [.int (a.fdiv b), .int (a.fmod b)]) K) : TCall c A K (.ref 56) [.int a, .int b] Φ := by
 rcases Int.lt_or_gt_of_ne hb with hlt | hgt
 ·obtain ⟨o, pm, cd, F1⟩ := F.f_int_divmod
  have hT := F.tops
  refine call_fn F1 (p_int_divmod pm cd) rfl (hr.le (by omega)) fun L hG => ?_
  have hr' := hr.deeper (fnEnv (fd (st 7) "int_divmod" 3 pm (.ref cd) 0) 56 L)
  show TS c _ _ [("a", some (.int a)), ("b", some (.int b)), ("q", none), ("r", none)] K _ _
  refine S_cons ?_
  walk_at "W"
  refine ⟨fun hc => ?_, fun hc => ?_⟩
  ·have hc : b = 0 := by simpa using hc
   omega
  ·walk_at "W"
   refine ⟨fun hc => ?_, fun hc => ?_⟩
   ·repeat walk_at "T"
    refine int_divmod_up F (hr'.le (by omega)) (by omega) (by rw [bits_neg]; exact h1) (by rw [bits_neg]; exact h2) ?_ (Fx.mk ?_)
    ·rw [bits_neg]; unfold cnt at h3 ⊢; rw [bits_neg]; exact h3
    repeat walk_at "T"
    have e1 : a.fdiv b = -a / -b := by
     rw [← Int.neg_fdiv_neg, Int.fdiv_eq_ediv_of_nonneg _ (by omega)]
    have e2 : a.fmod b = -(-a % -b) := by
     have h := Int.mul_fdiv_add_fmod a b
     have h' := Int.mul_ediv_add_emod (-a) (-b)
     rw [e1] at h
     generalize -a / -b = q at *
     generalize -a % -b = r at *
     grind
    rw [e1, e2] at hΦ
    exact Ret.rt hΦ
   ·have hc := of_decide_eq_false hc
    omega
 ·rw [Int.fdiv_eq_ediv_of_nonneg _ (by omega), Int.fmod_eq_emod_of_nonneg _ (by omega)] at hΦ
  exact int_divmod_up F (hr.le (by omega)) hgt h1 h2 h3 hΦ
theorem pg_iter_escaped_chars (pm : Value) (a : Addr) : PlainG (fd (st 9) "_iter_escaped_chars" 3 pm (.ref a) 0) (bodyOf (st 9)) [Str.ofString "addr"] [Str.ofString "pos", Str.ofString "escape", Str.ofString "ch"] [Str.ofString "enumerate"] := by
 refine ⟨by kernel_rfl, by kernel_rfl, by kernel_rfl, by kernel_rfl, by kernel_rfl, by kernel_rfl, of_decide_eq_true (by kernel_rfl), of_decide_eq_true (by kernel_rfl), by decide +kernel, by decide +kernel, of_decide_eq_true (by kernel_rfl), ?_⟩
 intro vs h
 match vs, h with
 | [x0], _ => kernel_rfl
def esc (i : Nat) : List Nat → List SV
 | [] => []
 | [c] => [.tup [.int i, tS [c]]]
 | c :: d :: r => if c = 92 then .tup [.int ((i + 1 : Nat) : Int), tS [92, d]] :: esc (i + 2) r else .tup [.int i, tS [c]] :: esc (i + 1) (d :: r)
def escT (i : Nat) : List Nat → List SV
 | [] => [.tup [.int ((i : Int) - 1), tS [92]]]
 | d :: r => .tup [.int i, tS [92, d]] :: esc (i + 1) r
theorem esc_bs (i : Nat) (r : List Nat) : esc i (92 :: r) = escT (i + 1) r := by
 cases r with
 | nil => simp [esc, escT]
 | cons d r => simp [esc, escT]
theorem esc_other (i c : Nat) (r : List Nat) (h : c ≠ 92) : esc i (c :: r) = .tup [.int i, tS [c]] :: esc (i + 1) r := by
 cases r with
 | nil => simp [esc]
 | cons d r => simp [esc, h]
section
variable {c : Cx} {A : Around} {pm : Value} {cd L : Addr} {K : List Fact} {B : Array GenState} {h0 : Heap} {l0 : List Nat}
abbrev gEnv (pm : Value) (cd L : Addr) : Env := fnEnv (fd (st 9) "_iter_escaped_chars" 3 pm (.ref cd) 0) 63 L
abbrev gNs : List Str := [Str.ofString "addr"] ++ [Str.ofString "pos", Str.ofString "escape", Str.ofString "ch"]
abbrev gFun (pm : Value) (cd L : Addr) : Code := .func (bodyOf (st 9)) (gEnv pm cd L)
theorem g_okay_func (hr : Room A 3) : Okay (A.over (gFun pm cd L) []) (gEnv pm cd L) gNs := by
 refine ⟨⟨hr.hh, ?_, ?_⟩, ?_, ?_, ?_, ?_, ?_⟩
 ·have h := hr.depth
  have e : (A.over (gFun pm cd L) []).depth = A.depth + 0 + 1 := by rfl
  rw [e]; omega
 ·have h := hr.units
  have e : (A.over (gFun pm cd L) []).units = A.units + 0 + 3 := by rfl
  rw [e]; omega
 ·exact (pg_iter_escaped_chars pm cd).kind
 ·exact (pg_iter_escaped_chars pm cd).loc
 ·exact (pg_iter_escaped_chars pm cd).dbg
 ·exact (pg_iter_escaped_chars pm cd).glob
 ·exact (pg_iter_escaped_chars pm cd).blt
theorem g_okay_loop (hr : Room A 3) {t : Expr} {it : Value} {b : List Stmt} {k : Result → Sem Fin} {g : Bool} {l : List Value} {p : Pos} :
  Okay (A.over (.forLoop t it b [] (gEnv pm cd L)) [.ret k none g l (gFun pm cd L) p []]) (gEnv pm cd L) gNs := by
 refine ⟨⟨hr.hh, ?_, ?_⟩, ?_, ?_, ?_, ?_, ?_⟩
 ·have h := hr.depth
  have e : (A.over (.forLoop t it b [] (gEnv pm cd L)) [.ret k none g l (gFun pm cd L) p []]).depth = A.depth + 1 + 0 := by rfl
  rw [e]; omega
 ·have h := hr.units
  have e : (A.over (.forLoop t it b [] (gEnv pm cd L)) [.ret k none g l (gFun pm cd L) p []]).units = A.units + 3 + 0 := by rfl
  rw [e]; omega
 ·exact (pg_iter_escaped_chars pm cd).kind
 ·exact (pg_iter_escaped_chars pm cd).loc
 ·exact (pg_iter_escaped_chars pm cd).dbg
 ·exact (pg_iter_escaped_chars pm cd).glob
 ·exact (pg_iter_escaped_chars pm cd).blt
abbrev gKF : Flow → Sem Fin := fun f => .pure (.done (.ret (match f with | .ret v => v | _ => .none)))
abbrev gRho (l0 : List Nat) (p : Int) (e : Bool) (o : Option SV) : Loc := [("addr", some (tS l0)), ("pos", some (.int p)), ("escape", some (.bool e)), ("ch", o)]
theorem esc_end {ρ : Loc} : GT (c.at B) A (EndOk c A B K h0 []) (gFun pm cd L) [] (gEnv pm cd L) h0 (gKF .next) ρ K := fun s k kp =>
 segK_end (.ok (.ret .none)) ⟨rfl, k.sub (List.sublist_cons_self _ _), kp⟩
theorem esc_tail (hr : Room A 3) {HF : Value → Sem Fin} (e : Bool) (p : Int) (o : Option SV) : GT (c.at B) A (EndOk c A B K h0 (if e then [.tup [.int p, tS [92]]] else [])) (gFun pm cd L) [] (gEnv pm cd L) h0
  ((execs ((bodyOf (st 9)).drop 3) (gEnv pm cd L)).wrap gKF HF id id) (gRho l0 p e o) K := by
 have ok := g_okay_func (pm := pm) (cd := cd) (L := L) hr
 refine g_cons ?_
 refine g_If ok rfl ?_
 walk_at "W"
 refine ⟨fun he _ => ?_, fun he _ => ?_⟩
 ·subst he
  refine g_cons ?_
  refine g_Yield ok rfl rfl rfl rfl ?_
  walk_at "W"
  intro v s' p' k _ k1 hv kp hk
  refine ⟨v, false, _, k, _, p', [], [FFr _ (gRho l0 p true o)], rfl, hv, k1, kp, ?_⟩
  refine Live.mk fun B K s ks => ?_
  show SegK _ A _ _ (k (.send .none)) [] s
  rw [hk]
  exact esc_end (c := c) (B := B) (K := K) s ks (Keep.refl _)
 ·subst he
  exact g_nil esc_end
def FE (e it : Addr) (x : Str) (t : Tok) (r : List SV) : Fact := FEn e it (fun i h => h.IsStrIter it (strIterType x) x t i) (EnS.str it _ x t (strTy x)) fun i => r = (pairs 0 (chs x)).drop i ∧ i ≤ (chs x).length
theorem FE.start {e it : Addr} {x : Str} {t : Tok} {s : Shared} {g : Fact} (k : Kn c (g :: FEnS e it x t :: K) s) : Kn c (g :: FE e it x t (pairs 0 (chs x)) :: K) s := by
 obtain ⟨hne, i, hi, ⟨old, he⟩, hs⟩ := k.facts _ (List.mem_cons_of_mem _ List.mem_cons_self)
 subst hi
 refine Kn.swap (k.swap.change (s' := s) (fun _ _ _ e => e) rfl k.bare ⟨hne, 0, ⟨rfl, by omega⟩, ⟨old, he⟩, hs⟩ (fun a ha => .inl ha) ?_)
 show ([e, it] : List Addr).Nodup
 simp [hne]
theorem g_ForE {E : EndP} {cdd : Code} {fs : List Frame} {env : Env} {ρ : Loc} {KK : Flow → Sem Fin} {H : Value → Sem Fin} {gd : Bool → Bool} {lv : List Value → List Value} {target iter : Expr} {body : List Stmt} {pos : Pos} {ns : List Str} (ok : Okay (A.over cdd fs) env ns) (hn : names ρ = ns)
  (h : TE c (A.over cdd fs) env ρ K (eval iter env) fun xv ρ1 K1 => ∃ e it x t K3, xv = .ref e ∧ K1 = FEnS e it x t :: K3 ∧ ∀ p k, k (.ok .next) = KK .next → names ρ1 = ns →
   GT c A E (.forLoop target (.ref e) body [] env) (.ret k none (gd false) (lv []) cdd p [] :: fs) env h0 (c.M.den (.forLoop target (.ref e) body [] env)) ρ1 (FE e it x t (pairs 0 (chs x)) :: K3))
  (hs : ∀ x, foldedSetIterable iter env x = pure x := by intro _; rfl) : GT c A E cdd fs env h0 ((exec (.For target iter body [] pos) env).wrap KK H gd lv) ρ K := fun s k kp => by
 subst hn
 refine segK_For (wp_step (h ok s k) kp fun u s1 xv ρ1 K1 k1 n1 r1 kp1 _ ⟨e, it, x, t, K3, e1, e2, h1⟩ => ?_) hs
 subst e1 e2
 obtain rfl : u = .ref e := r1
 obtain ⟨hne, i, hi, ⟨old, he⟩, hst⟩ := k1.facts _ (List.mem_cons_of_mem _ List.mem_cons_self)
 exact wpAny_pyIter_enum he fun p kk hk => h1 p kk hk n1 s1 (FE.start k1) kp1
abbrev gFor : Stmt := ((bodyOf (st 9)).drop 2).headD (.Pass default)
def forTarget : Stmt → Expr
 | .For t _ _ _ _ => t
 | _ => .Constant .none 0 default
def forBody : Stmt → List Stmt
 | .For _ _ b _ _ => b
 | _ => []
theorem esc_loop (hr : Room A 3) (t : Tok) (en it : Addr) (lv : List Value) (p0 : Pos) (k : Result → Sem Fin) (HF : Value → Sem Fin) (hk : k (.ok .next) = (execs ((bodyOf (st 9)).drop 3) (gEnv pm cd L)).wrap gKF HF id id) (hl0 : l0.length ≤ 2 ^ 20) :
  ∀ (n : Nat) (l : List Nat), l.length ≤ n → l.length ≤ 2 ^ 20 → ∀ (i : Nat) (e : Bool) (p : Int) (o : Option SV) (B : Array GenState) (K : List Fact) (h0 : Heap), (e = true → p = i - 1) →
  GT (c.at B) A (EndOk c A B K h0 (if e then escT i l else esc i l)) (.forLoop (forTarget gFor) (.ref en) (forBody gFor) [] (gEnv pm cd L)) [.ret k none false lv (gFun pm cd L) p0 []] (gEnv pm cd L) h0
   ((c.at B).M.den (.forLoop (forTarget gFor) (.ref en) (forBody gFor) [] (gEnv pm cd L))) (gRho l0 p e o) (FE en it (tx l0) t (pairs i (cs l)) :: K) := by
 intro n
 induction n with
 | zero =>
  intro l hl _ i e p o B K h0 hp
  obtain rfl : l = [] := by simpa using hl
  have ok := g_okay_loop (pm := pm) (cd := cd) (L := L) (t := forTarget gFor) (it := .ref en) (b := forBody gFor) (k := k) (g := false) (l := lv) (p := p0) hr
  refine g_turn ok rfl (Iter.enumStr (c := c.at B) ok.room.hh en it (tx l0) t) trivial (by simp) (fun _ => ?_) (fun x rest hx => by simp [cs, pairs] at hx)
  intro s ks kp
  refine segK_leaf (.ok .next) ?_
  rw [hk]
  have := esc_tail (c := c) (A := A) (pm := pm) (cd := cd) (L := L) (K := K) (B := B) (h0 := h0) (l0 := l0) hr (HF := HF) e p o
  cases e with
  | true => rw [hp rfl] at ks this; exact this s ks kp
  | false => exact this s ks kp
 | succ n ih =>
  intro l hl hl2 i e p o B K h0 hp
  cases l with
  | nil => exact ih [] (by simp) (by simp) i e p o B K h0 hp
  | cons a r =>
   have ok := g_okay_loop (pm := pm) (cd := cd) (L := L) (t := forTarget gFor) (it := .ref en) (b := forBody gFor) (k := k) (g := false) (l := lv) (p := p0) hr
   refine g_turn ok rfl (Iter.enumStr (c := c.at B) ok.room.hh en it (tx l0) t) trivial (by simp) (fun hx => by simp [cs, pairs] at hx) ?_
   intro x rest hx
   have hx : SV.tup [.int i, tS [a]] :: pairs (i + 1) (cs r) = x :: rest := hx
   injection hx with hx1 hx2
   subst hx1 hx2
   refine G_Tuple (as := [.int i, tS [a]]) (ρ' := gRho l0 i e (some (tS [a]))) ?_ ?_
   ·walk_at "pute"
   intro _ H
   refine g_cons ?_
   refine g_If ok rfl ?_
   walk_at "W"
   have again : ∀ (B : Array GenState) (K : List Fact) (h0 : Heap) (E : EndP) (ρ : Loc) (H : Value → Sem Fin), GT (c.at B) A E (.forLoop (forTarget gFor) (.ref en) (forBody gFor) [] (gEnv pm cd L)) [.ret k none false lv (gFun pm cd L) p0 []] (gEnv pm cd L) h0 ((c.at B).M.den (.forLoop (forTarget gFor) (.ref en) (forBody gFor) [] (gEnv pm cd L))) ρ K →
     GT (c.at B) A E (.forLoop (forTarget gFor) (.ref en) (forBody gFor) [] (gEnv pm cd L)) [.ret k none false lv (gFun pm cd L) p0 []] (gEnv pm cd L) h0 ((execs [] (gEnv pm cd L)).wrap (loopK (forTarget gFor) (.ref en) (forBody gFor) [] (gEnv pm cd L)) H id id) ρ K :=
    fun B K h0 E ρ H h => g_nil fun s ks kp => segK_again rfl (h s ks kp)
   have hrl : r.length ≤ n := by simpa using hl
   have hrl2 : r.length ≤ 2 ^ 20 := by simp at hl2; omega
   have e1 : pairs ((i : Int) + 1) (cs r) = pairs ((i + 1 : Nat) : Int) (cs r) := rfl
   rw [e1]
   refine ⟨fun he _ => ?_, fun he _ => ?_⟩
   ·subst he
    have hlit : (lit "\\").length + [a].length ≤ 2 ^ 24 := by
     have h1 : (lit "\\").length = 1 := by decide
     rw [h1]; simp
    refine g_cons ?_
    refine g_Yield ok rfl rfl rfl rfl ?_
    walk_at "W"
    intro v s' p' k' _ k1 hv kp hk'
    refine ⟨v, false, _, k', _, p', _, [FFr _ (gRho l0 i true (some (tS [a]))), FE en it (tx l0) t (pairs ((i + 1 : Nat) : Int) (cs r))], rfl, hv, k1, kp, ?_⟩
    refine Live.mk fun B K s ks => ?_
    show SegK _ A _ _ (k' (.send .none)) _ s
    rw [hk']
    refine g_cons (c := c.at B) (h0 := s.heap) (ρ := gRho l0 i true (some (tS [a]))) (K := FE en it (tx l0) t (pairs ((i + 1 : Nat) : Int) (cs r)) :: K) ?_ s ks (Keep.refl _)
    refine g_exec ok rfl ?_
    walk_at "W"
    intro _
    exact again _ _ _ _ _ H (ih r hrl hrl2 (i + 1) false i (some (tS [a])) B K s.heap (by simp))
   ·subst he
    refine g_cons ?_
    refine g_If ok rfl ?_
    walk_at "W"
    have el : lit "\\" = [92] := by decide
    rw [el]
    refine ⟨fun hb _ => ?_, fun hb _ => ?_⟩
    ·have hb : a = 92 := by simpa using hb
     subst hb
     refine g_cons ?_
     refine g_exec ok rfl ?_
     walk_at "W"
     intro _
     refine again _ _ _ _ _ H ?_
     have := ih r hrl hrl2 (i + 1) true i (some (tS [92])) B K h0 (by intro _; push_cast; omega)
     simp only [if_true] at this
     simp only [Bool.false_eq_true, if_false]
     rw [esc_bs]
     exact this
    ·have hb : a ≠ 92 := by simpa using hb
     refine g_cons ?_
     refine g_Yield ok rfl rfl rfl rfl ?_
     simp only [Bool.false_eq_true, if_false]
     rw [esc_other _ _ _ hb]
     walk_at "W"
     intro v s' p' k' _ k1 hv kp hk'
     refine ⟨v, false, _, k', _, p', _, [FFr _ (gRho l0 i false (some (tS [a]))), FE en it (tx l0) t (pairs ((i + 1 : Nat) : Int) (cs r))], rfl, hv, k1, kp, ?_⟩
     refine Live.mk fun B K s ks => ?_
     show SegK _ A _ _ (k' (.send .none)) _ s
     rw [hk']
     refine again B (FE en it (tx l0) t (pairs ((i + 1 : Nat) : Int) (cs r)) :: K) s.heap _ (gRho l0 i false (some (tS [a]))) H ?_ s ks (Keep.refl _)
     exact ih r hrl hrl2 (i + 1) false i (some (tS [a])) B K s.heap (by simp)
theorem esc_live (F : Fns c) (hr : Room A 3) (hl : l0.length ≤ 2 ^ 20) (hG : ∀ x ∈ [Str.ofString "enumerate"], (gEnv pm cd L).kindOf x = some .globalImplicit) :
  Live c A (esc 0 l0) [FFr L (binds [Str.ofString "addr"] [tS l0] [Str.ofString "pos", Str.ofString "escape", Str.ofString "ch"])] (.fresh (gFun pm cd L)) := by
 have ok := g_okay_func (pm := pm) (cd := cd) (L := L) hr
 refine Live.mk fun B K s ks => ?_
 have hT : ∀ p ∈ tops, Gl (c.at B) p.1 p.2 := F.tops
 show SegK _ A _ (gFun pm cd L) _ [] s
 refine segK_func ?_
 refine g_cons (c := c.at B) (h0 := s.heap) (env := gEnv pm cd L) (ρ := [("addr", some (tS l0)), ("pos", none), ("escape", none), ("ch", none)]) (K := K) ?_ s ks (Keep.refl _)
 refine g_exec ok rfl ?_
 walk_at "W"
 intro _
 refine g_cons ?_
 refine g_exec ok rfl ?_
 walk_at "W"
 intro _
 refine g_cons ?_
 refine g_ForE ok rfl ?_
 walk_at "W"
 rename_i en it t
 refine ⟨en, it, tx l0, t, K, rfl, rfl, fun p0 k hk _ => ?_⟩
 have h := esc_loop (c := c) (A := A) (pm := pm) (cd := cd) (L := L) (l0 := l0) hr t en it [] p0 k (fun e => (leaving (gEnv pm cd L) e).wrap (fun _ => .raise e) .raise id id) hk hl l0.length l0 (Nat.le_refl _) hl 0 false 0 none B K s.heap (by simp)
 rw [chs_tx]
 exact h
theorem esc_call (F : Fns c) (hr : Room A 4) (hl : l0.length ≤ 2 ^ 20) : GC c A K 63 (tS l0) (esc 0 l0) := by
 obtain ⟨o, pm, cd, F1⟩ := F.f_iter_escaped_chars
 exact GC.of F1 (pg_iter_escaped_chars pm cd) (hr.le (by omega)) fun L => esc_live F ⟨hr.hh, by have := hr.depth; show A.depth + 3 < _; omega, by have := hr.units; show A.units + 1 + 8 * 3 + 40 < _; omega⟩ hl (pg_iter_escaped_chars pm cd).gl
end
def escN (i : Nat) : List Nat → List (Nat × List Nat)
 | [] => []
 | [c] => [(i, [c])]
 | c :: d :: r => if c = 92 then (i + 1, [92, d]) :: escN (i + 2) r else (i, [c]) :: escN (i + 1) (d :: r)
def pSV (p : Nat × List Nat) : SV := .tup [.int p.1, tS p.2]
theorem esc_eq (i : Nat) (l : List Nat) : esc i l = (escN i l).map pSV := by
 fun_induction escN i l with
 | case1 => rfl
 | case2 i c => rfl
 | case3 i d r ih => simp only [esc, if_true, List.map_cons, ih]; rfl
 | case4 i c d r h ih => simp only [esc, if_neg h, List.map_cons, ih]; rfl
theorem escN_len (i : Nat) (l : List Nat) : (escN i l).length ≤ l.length := by
 fun_induction escN i l with
 | case1 => simp
 | case2 i c => simp
 | case3 i d r ih => simp at ih ⊢; omega
 | case4 i c d r h ih => simp at ih ⊢; omega
def stepS (l0 : List Nat) (st : Nat × Option Nat × List (List Nat)) (p : Nat × List Nat) : Nat × Option Nat × List (List Nat) :=
 if p.2 = [34] then
  match st.2.1 with
  | none => (st.1, some p.1, st.2.2)
  | some o => (p.1 + 1, none, if st.1 ≠ o then st.2.2 ++ [sub l0 (some (st.1 : Int)) (some (o : Int))] else st.2.2)
 else st
def stripQ (l : List Nat) : List Nat :=
 if 34 ∈ l then
  let st := (escN 0 l).foldl (stepS l) (0, none, [])
  (if st.1 < l.length then st.2.2 ++ [sub l (some (st.1 : Int)) none] else st.2.2).flatten
 else l
def parens : List (List Nat) → Int → Bool
 | [], o => o == 0
 | u :: r, o => if u = [40] then parens r (o + 1) else if u = [41] then (if o - 1 < 0 then false else parens r (o - 1)) else parens r o
def checkP (l : List Nat) : Bool := parens ((escN 0 (stripQ l)).map (·.2)) 0
def oSV (o : Option Nat) : SV := match o with | none => .none | some i => .int i
section
variable {c : Cx} {A : Around} {K : List Fact} {Φ : SV → List Fact → Prop}
theorem strip_call (F : Fns c) {l : List Nat} (hr : Room A 6) (hl : l.length ≤ 2 ^ 10) (hΦ : Φ (tS (stripQ l)) K) : TCall c A K (.ref 70) [tS l] Φ := by
 obtain ⟨o, pm, cd, F1⟩ := F.f_strip_quoted_realnames
 obtain ⟨o2, pm2, cd2, F2⟩ := F.f_iter_escaped_chars
 have hT := F.tops
 refine call_fn F1 (p_strip_quoted_realnames pm cd) rfl (hr.le (by omega)) fun L hG => ?_
 have hr' := hr.deeper (fnEnv (fd (st 10) "_strip_quoted_realnames" 3 pm (.ref cd) 0) 70 L)
 show TS c _ _ [("addr", some (tS l)), ("start", none), ("open_pos", none), ("result", none), ("pos", none), ("ch", none)] K _ _
 have e34 : lit "\"" = [34] := by decide
 have hl24 : l.length ≤ 2 ^ 24 := by omega
 refine S_cons ?_
 refine S_If (B_Compare ?_ (by with_unfolding_all rfl))
 walk_at "E"
 rw [e34]
 walk_at "W"
 refine ⟨fun hb => ?_, fun hb => ?_⟩
 ·have hb : 34 ∉ l := by simpa using hb
  repeat walk_at "T"
  have e : stripQ l = l := by unfold stripQ; rw [if_neg hb]
  rw [e] at hΦ
  exact Ret.rt hΦ
 ·have hb : 34 ∈ l := by simpa using hb
  refine S_nil ?_
  refine Then.nx (S_cons ?_)
  walk_at "W"
  refine Then.nx (S_cons ?_)
  walk_at "W"
  refine Then.nx (S_cons ?_)
  walk_at "W"
  rename_i ra
  refine Then.nx (S_cons ?_)
  refine S_ForGen F2 ?_ rfl
  walk_at "E"
  refine ⟨rfl, ?_⟩
  walk_at "E"
  refine ⟨esc 0 l, fun rest ρ' K' => ∃ (todo : List (Nat × List Nat)) (a : Nat) (op : Option Nat) (acc : List (List Nat)) (o1 o2 : Option SV), rest = todo.map pSV ∧ todo.foldl (stepS l) (a, op, acc) = (escN 0 l).foldl (stepS l) (0, none, []) ∧
    acc.length + todo.length ≤ l.length ∧ (∀ t ∈ acc, t.length ≤ l.length) ∧
    ρ' = ([("addr", some (tS l)), ("start", some (.int a)), ("open_pos", some (oSV op)), ("result", some (.ref ra)), ("pos", o1), ("ch", o2)] : Loc) ∧ K' = FList ra (acc.map tS) :: K,
   esc_call F (hr'.le (by omega)) (by omega), ⟨escN 0 l, 0, none, [], none, none, esc_eq 0 l, rfl, by simpa using escN_len 0 l, by simp, rfl, rfl⟩, ?_, ?_⟩
  ·rintro B Fi x rest ρ3 K3 ⟨todo, a, op, acc, o1, o2, e1, e2, e3, e4, rfl, rfl⟩ _
   cases todo with
   | nil => cases e1
   | cons p todo =>
    rw [List.map_cons] at e1
    injection e1 with ex er
    subst ex er
    refine G_Tuple (as := [.int p.1, tS p.2]) (by walk_at "pute") ?_
    rw [List.foldl_cons] at e2
    refine S_last ?_
    refine S_If (B_Compare ?_ (by with_unfolding_all rfl))
    walk_at "E"
    walk_at "E"
    rw [e34]
    walk_at "W"
    refine ⟨fun hq => ?_, fun hq => ?_⟩
    ·have hq : p.2 = [34] := by simpa using hq
     cases op with
     | none =>
      refine S_last ?_
      refine S_If (B_Compare ?_ (by with_unfolding_all rfl))
      walk_at "E"
      show TE _ _ _ _ _ _ _
      walk_at "E"
      show U2 _ _ _ _ _ _ (SV.none) _ _ _
      walk_at "W"
      refine ⟨fun _ => ?_, fun hf => absurd hf (by decide)⟩
      walk_at "W"
      have es : stepS l (a, none, acc) p = (a, some p.1, acc) := by simp [stepS, hq]
      rw [es] at e2
      exact TurnI.nx (K5 := FList ra (acc.map tS) :: K) (by walk_at "pick") ⟨todo, a, some p.1, acc, _, _, rfl, e2, by simp at e3; omega, e4, rfl, rfl⟩
     | some o =>
      have eo : oSV (some o) = .int o := rfl
      rw [eo]
      walk_at "W"
      refine ⟨fun hf => absurd hf (by decide), fun _ => ?_⟩
      refine S_cons ?_
      walk_at "W"
      have z1 : (acc.map tS).length < 2 ^ 20 := by simp; omega
      refine ⟨fun hne => ?_, fun hne => ?_⟩
      ·have hne : a ≠ o := by
        have h : ¬ ((a : Int) = o) := by simpa using hne
        omega
       walk_at "W"
       refine Then.nx (S_cons ?_)
       walk_at "W"
       refine Then.nx (S_last ?_)
       walk_at "W"
       have es : stepS l (a, some o, acc) p = (p.1 + 1, none, acc ++ [sub l (some (a : Int)) (some (o : Int))]) := by simp [stepS, hq, hne]
       rw [es] at e2
       refine TurnI.nx (K5 := FList ra ((acc ++ [sub l (some (a : Int)) (some (o : Int))]).map tS) :: K) ?_ ⟨todo, p.1 + 1, none, _, _, _, rfl, e2, by simp at e3 ⊢; omega, ?_, rfl, rfl⟩
       ·rw [map_tS_snoc]; walk_at "pick"
       ·intro t ht
        rcases List.mem_append.mp ht with h | h
        ·exact e4 t h
        ·rw [List.mem_singleton.mp h]; exact sub_len ..
      ·have hne : a = o := by
        have h : ((a : Int) = o) := by simpa using hne
        omega
       walk_at "W"
       refine Then.nx (S_cons ?_)
       walk_at "W"
       refine Then.nx (S_last ?_)
       walk_at "W"
       have es : stepS l (a, some o, acc) p = (p.1 + 1, none, acc) := by simp [stepS, hq, hne]
       rw [es] at e2
       exact TurnI.nx (K5 := FList ra (acc.map tS) :: K) (by walk_at "pick") ⟨todo, p.1 + 1, none, acc, _, _, rfl, e2, by simp at e3 ⊢; omega, e4, rfl, rfl⟩
    ·have hq : p.2 ≠ [34] := by simpa using hq
     have es : stepS l (a, op, acc) p = (a, op, acc) := by simp [stepS, hq]
     rw [es] at e2
     refine S_nil ?_
     exact TurnI.nx (K5 := FList ra (acc.map tS) :: K) (by walk_at "pick") ⟨todo, a, op, acc, _, _, rfl, e2, by simp at e3; omega, e4, rfl, rfl⟩
  ·rintro ρ3 K3 ⟨todo, a, op, acc, o1, o2, e1, e2, e3, e4, rfl, rfl⟩ _
   have ht : todo = [] := by
    cases todo with
    | nil => rfl
    | cons p t => cases e1
   subst ht
   have e2 : (a, op, acc) = (escN 0 l).foldl (stepS l) (0, none, []) := e2
   have es : stripQ l = (if a < l.length then acc ++ [sub l (some (a : Int)) none] else acc).flatten := by
    unfold stripQ; rw [if_pos hb, ← e2]
   have hfl : ∀ ts : List (List Nat), ts.length ≤ l.length + 1 → (∀ t ∈ ts, t.length ≤ l.length) → ts.flatten.length ≤ 2 ^ 24 := by
    intro ts h1 h2
    have h3 : ∀ us : List (List Nat), (∀ t ∈ us, t.length ≤ l.length) → us.flatten.length ≤ us.length * l.length := by
     intro us
     induction us with
     | nil => simp
     | cons u us ih =>
      intro h
      have := ih fun t ht => h t (List.mem_cons_of_mem _ ht)
      have := h u List.mem_cons_self
      simp only [List.flatten_cons, List.length_append, List.length_cons, Nat.succ_mul]; omega
    have h4 := h3 ts h2
    have h5 : ts.length * l.length ≤ (2 ^ 10 + 1) * 2 ^ 10 := Nat.mul_le_mul (by omega) hl
    omega
   have hlt : ∀ t ∈ acc ++ [sub l (some (a : Int)) none], t.length ≤ l.length := fun t ht => by
    rcases List.mem_append.mp ht with h | h
    ·exact e4 t h
    ·rw [List.mem_singleton.mp h]; exact sub_len ..
   have z1 : (acc.map tS).length < 2 ^ 20 := by simp at e3 ⊢; omega
   have f1 := hfl acc (by simp at e3; omega) e4
   have f2 := hfl (acc ++ [sub l (some (a : Int)) none]) (by simp at e3 ⊢; omega) hlt
   have el0 : lit "" = [] := by decide
   refine S_nil ?_
   refine Then.nx (S_cons ?_)
   walk_at "W"
   refine ⟨fun hc => ?_, fun hc => ?_⟩
   ·have hc : a < l.length := by
     have := of_decide_eq_true hc
     omega
    walk_at "W"
    rw [map_tS_snoc]
    refine Then.nx (S_cons ?_)
    refine S_Return ?_
    walk_at "E"
    walk_at "E"
    rw [el0]
    walk_at "W"
    rw [es, if_pos hc] at hΦ
    refine Ret.rtw (ρ := []) ?_ hΦ
    walk_at "subl"
   ·have hc : ¬ a < l.length := by
     have := of_decide_eq_false hc
     omega
    walk_at "W"
    refine Then.nx (S_cons ?_)
    refine S_Return ?_
    walk_at "E"
    walk_at "E"
    rw [el0]
    walk_at "W"
    rw [es, if_neg hc] at hΦ
    refine Ret.rtw (ρ := []) ?_ hΦ
    walk_at "subl"
end
section
variable {c : Cx} {A : Around} {K : List Fact} {Φ : SV → List Fact → Prop}
theorem stripQ_len9 (l : List Nat) (h : l.length ≤ 2 ^ 9) : (stripQ l).length ≤ 2 ^ 20 := by
 unfold stripQ
 split
 ·have key : ∀ (todo : List (Nat × List Nat)) (st : Nat × Option Nat × List (List Nat)), st.2.2.flatten.length ≤ 2 ^ 18 → st.2.2.length * l.length + todo.length * l.length ≤ 2 ^ 18 → (∀ t ∈ st.2.2, t.length ≤ l.length) →
    (todo.foldl (stepS l) st).2.2.flatten.length ≤ 2 ^ 18 := by
   intro todo
   induction todo with
   | nil => intro st h1 _ _; exact h1
   | cons p todo ih =>
    intro st h1 h2 h3
    have hfl : ∀ us : List (List Nat), (∀ t ∈ us, t.length ≤ l.length) → us.flatten.length ≤ us.length * l.length := by
     intro us
     induction us with
     | nil => simp
     | cons u us ih =>
      intro h
      have := ih fun t ht => h t (List.mem_cons_of_mem _ ht)
      have := h u List.mem_cons_self
      simp only [List.flatten_cons, List.length_append, List.length_cons, Nat.succ_mul]; omega
    have hstep : (stepS l st p).2.2 = st.2.2 ∨ ∃ a b, (stepS l st p).2.2 = st.2.2 ++ [sub l a b] := by
     unfold stepS
     split
     ·split
      ·exact .inl rfl
      ·simp only
       split
       ·exact .inr ⟨_, _, rfl⟩
       ·exact .inl rfl
     ·exact .inl rfl
    rw [List.foldl_cons]
    rw [List.length_cons, Nat.succ_mul] at h2
    rcases hstep with e | ⟨a, b, e⟩
    ·exact ih _ (by rw [e]; exact h1) (by rw [e]; omega) (by rw [e]; exact h3)
    ·have h4 : ∀ t ∈ st.2.2 ++ [sub l a b], t.length ≤ l.length := fun t ht => by
      rcases List.mem_append.mp ht with h | h
      ·exact h3 t h
      ·rw [List.mem_singleton.mp h]; exact sub_len ..
     have h5 := hfl _ h4
     rw [List.length_append, List.length_singleton, Nat.add_mul, Nat.one_mul] at h5
     refine ih _ (by rw [e]; omega) (by rw [e, List.length_append, List.length_singleton, Nat.add_mul, Nat.one_mul]; omega) (by rw [e]; exact h4)
  have hk := key (escN 0 l) (0, none, []) (by simp) (by
   have := escN_len 0 l
   have h6 : (escN 0 l).length * l.length ≤ 2 ^ 9 * 2 ^ 9 := Nat.mul_le_mul (by omega) h
   simp; omega) (by simp)
  simp only
  split
  ·rw [List.flatten_append, List.length_append]
   have := sub_len l (some (((escN 0 l).foldl (stepS l) (0, none, [])).1 : Int)) none
   simp only [List.flatten_cons, List.flatten_nil, List.append_nil]
   omega
  ·omega
 ·omega
theorem check_call (F : Fns c) {l : List Nat} (hr : Room A 8) (hl : l.length ≤ 2 ^ 9) (hΦ : Φ (.bool (checkP l)) K) : TCall c A K (.ref 77) [tS l] Φ := by
 obtain ⟨o, pm, cd, F1⟩ := F.f_check_parenthesis
 obtain ⟨o2, pm2, cd2, F2⟩ := F.f_iter_escaped_chars
 obtain ⟨o3, pm3, cd3, F3⟩ := F.f_strip_quoted_realnames
 have hT := F.tops
 refine call_fn F1 (p_check_parenthesis pm cd) rfl (hr.le (by omega)) fun L hG => ?_
 have hr' := hr.deeper (fnEnv (fd (st 11) "_check_parenthesis" 3 pm (.ref cd) 0) 77 L)
 show TS c _ _ [("addr", some (tS l)), ("opens", none), ("pos", none), ("ch", none)] K _ _
 have e40 : lit "(" = [40] := by decide
 have e41 : lit ")" = [41] := by decide
 have hsl : (stripQ l).length ≤ 2 ^ 20 := stripQ_len9 l hl
 refine S_cons ?_
 walk_at "W"
 refine strip_call F (hr'.le (by omega)) (by omega) (Fx.mk ?_)
 walk_at "W"
 refine Then.nx (S_cons ?_)
 walk_at "W"
 refine Then.nx (S_cons ?_)
 refine S_ForGen F2 ?_ rfl
 walk_at "E"
 refine ⟨rfl, ?_⟩
 walk_at "E"
 refine ⟨esc 0 (stripQ l), fun rest ρ' K' => ∃ (todo : List (Nat × List Nat)) (n : Int) (o1 o2 : Option SV), rest = todo.map pSV ∧ parens (todo.map (·.2)) n = checkP l ∧
   ρ' = ([("addr", some (tS (stripQ l))), ("opens", some (.int n)), ("pos", o1), ("ch", o2)] : Loc) ∧ K' = K,
  esc_call F (hr'.le (by omega)) hsl, ⟨escN 0 (stripQ l), 0, none, none, esc_eq 0 _, rfl, rfl, rfl⟩, ?_, ?_⟩
 ·rintro B Fi x rest ρ3 K3 ⟨todo, n, o1, o2, e1, e2, rfl, rfl⟩ _
  cases todo with
  | nil => cases e1
  | cons p todo =>
   rw [List.map_cons] at e1
   injection e1 with ex er
   subst ex er
   rw [List.map_cons] at e2
   refine G_Tuple (as := [.int p.1, tS p.2]) (by walk_at "pute") ?_
   refine S_last ?_
   refine S_If (B_Compare ?_ (by with_unfolding_all rfl))
   walk_at "E"
   walk_at "E"
   rw [e40]
   walk_at "W"
   refine ⟨fun hq => ?_, fun hq => ?_⟩
   ·have hq : p.2 = [40] := by simpa using hq
    walk_at "W"
    refine TurnI.nx (K5 := K3) (by walk_at "pick") ⟨todo, n + 1, _, _, rfl, ?_, rfl, rfl⟩
    rw [← e2]; simp [parens, hq]
   ·have hq : p.2 ≠ [40] := by simpa using hq
    refine S_last ?_
    refine S_If (B_Compare ?_ (by with_unfolding_all rfl))
    walk_at "E"
    walk_at "E"
    rw [e41]
    walk_at "W"
    refine ⟨fun hq2 => ?_, fun hq2 => ?_⟩
    ·have hq2 : p.2 = [41] := by simpa using hq2
     refine S_cons ?_
     walk_at "W"
     refine Then.nx (S_last ?_)
     walk_at "W"
     refine ⟨fun hn => ?_, fun hn => ?_⟩
     ·have hn := of_decide_eq_true hn
      walk_at "W"
      have e3 : checkP l = false := by rw [← e2]; simp [parens, hq, hq2, hn]
      rw [e3] at hΦ
      refine TurnI.rt ?_
      refine Ret.rtw (ρ := []) ?_ hΦ
      walk_at "subl"
     ·have hn := of_decide_eq_false hn
      refine S_nil ?_
      refine TurnI.nx (K5 := K3) (by walk_at "pick") ⟨todo, n - 1, _, _, rfl, ?_, rfl, rfl⟩
      rw [← e2]; simp [parens, hq2, hn]
    ·have hq2 : p.2 ≠ [41] := by simpa using hq2
     refine S_nil ?_
     refine TurnI.nx (K5 := K3) (by walk_at "pick") ⟨todo, n, _, _, rfl, ?_, rfl, rfl⟩
     rw [← e2]; simp [parens, hq, hq2]
 ·rintro ρ3 K3 ⟨todo, n, o1, o2, e1, e2, rfl, rfl⟩ _
  have ht : todo = [] := by
   cases todo with
   | nil => rfl
   | cons p t => cases e1
  subst ht
  have e2 : (n == 0) = checkP l := e2
  refine S_nil ?_
  refine Then.nx (S_cons ?_)
  walk_at "W"
  rw [e2]
  exact Ret.rt (ρ := []) hΦ
end
abbrev lexFs : List (Str × Addr) := [(Str.ofString "__init__", 91), (Str.ofString "_read_char", 98), (Str.ofString "get_token", 105), (Str.ofString "push_token", 112)]
abbrev lexNs : List Str := [Str.ofString "__getattribute__", Str.ofString "__getattr__", Str.ofString "__setattr__", Str.ofString "lineno", Str.ofString "instream", Str.ofString "whitespace", Str.ofString "pushback", Str.ofString "read"]
theorem lex_cls {c : Cx} (F : Fns c) : ClsK c 115 lexFs lexNs := by
 refine ⟨fun h o => ?_, ?_⟩
 ·obtain ⟨nm, q, N, bs, sn, sub, col, dd, k0, k1, k2, k3, k5, mN, hC, hN, f1, f2, f3, f4, n1, n2, n3, n4, n5, n6, n7, n8⟩ := F.cls.at_ h o
  refine ⟨N, mN, ⟨⟨nm, q, bs, sn, sub, col, dd, k0, k1, k2, k3, k5, hC⟩, hN⟩, fun p hp => ?_, fun n hn => ?_⟩
  ·simp only [List.mem_cons, List.not_mem_nil, or_false] at hp
   rcases hp with rfl | rfl | rfl | rfl <;> assumption
  ·simp only [List.mem_cons, List.not_mem_nil, or_false] at hn
   rcases hn with rfl | rfl | rfl | rfl | rfl | rfl | rfl | rfl <;> assumption
 ·obtain ⟨nm, q, N, bs, sn, sub, col, dd, k0, k1, k2, k3, k5, mN, hC, r⟩ := F.cls.at_ c.h0 (OldK.refl _)
  exact ⟨_, hC⟩
def wsL : List Nat := [10, 9, 13, 32]
def lrho (n : Int) (st : SV) (P : Addr) (rd : Option SV) : Loc := [("lineno", some (.int n)), (Str.ofString "instream", some st), ("whitespace", some (tS wsL)), ("pushback", some (.ref P)), (Str.ofString "read", rd)]
theorem init_call {c : Cx} (Fc : Fns c) {A : Around} {K : List Fact} {x dx : Addr} {st : SV} {Ψ : SV → List Fact → Prop} (hr : Room A 2)
  (hΨ : ∀ P, Ψ .none (FList P [] :: FInst x dx 115 (lrho 1 st P none) :: K)) : TCall c A (FInst x dx 115 (["lineno", "instream", "whitespace", "pushback", "read"].map fun a => (Str.ofString a, none)) :: K) (.ref 91) [.ref x, st] Ψ := by
 obtain ⟨o, pm, cd, F⟩ := Fc.m_init
 have hT := Fc.tops
 have hcl := lex_cls Fc
 refine call_fn F (p_init _ _) rfl (hr.le (by omega)) fun L hG => ?_
 have hr' := hr.deeper (fnEnv (fd (mt 13 0) "_netrclex.__init__" 3 pm (.ref cd) 0) 91 L)
 show TS c _ _ [("self", some (.ref x)), ("fp", some st)] (FInst x dx 115 [("lineno", none), ("instream", none), ("whitespace", none), ("pushback", none), ("read", none)] :: K) _ _
 refine S_cons ?_
 walk_at "W"
 refine Then.nx (S_cons ?_)
 walk_at "W"
 refine Then.nx (S_cons ?_)
 walk_at "W"
 refine Then.nx (S_cons ?_)
 walk_at "W"
 refine Then.nx ?_
 walk_at "W"
 exact ⟨_, .refl _, hΨ _⟩
theorem new_call {c : Cx} (Fc : Fns c) {A : Around} {K : List Fact} {st : SV} {Ψ : SV → List Fact → Prop} (hr : Room A 3)
  (hΨ : ∀ x dx P, Ψ (.ref x) (FList P [] :: FInst x dx 115 (lrho 1 st P none) :: K)) : TCall c A K (.ref 115) [st] Ψ := by
 obtain ⟨o, pm, cd, F⟩ := Fc.m_init
 refine c_class (attrs := ["lineno", "instream", "whitespace", "pushback", "read"].map Str.ofString) (n := 2) (lex_cls Fc) List.mem_cons_self F (by decide) (by decide) hr fun x dx A' hr' => ?_
 exact (init_call Fc (Ψ := fun v K' => v = .none ∧ ∃ P, K' = FList P [] :: FInst x dx 115 (lrho 1 st P none) :: K) hr' fun P => ⟨rfl, P, rfl⟩).mono fun v K' ⟨e, P, e2⟩ => ⟨e, e2 ▸ hΨ x dx P⟩
def lamPs : Arguments := match lamOf (st 20) with | .Lambda p _ _ _ => p | _ => default
def lamBd : Expr := match lamOf (st 20) with | .Lambda _ b _ _ => b | _ => default
def lamSc : Scope := match lamOf (st 20) with | .Lambda _ _ s _ => s | _ => default
def lamFd (clos : List (Str × Addr)) (doc pm cv ctv : Value) : FuncData := fdLam "_law_lexer.<locals>.<lambda>" lamPs lamBd lamSc clos doc pm cv ctv
theorem pl_lam (clos : List (Str × Addr)) (doc pm cv ctv : Value) : PlainE (lamFd clos doc pm cv ctv) lamBd [Str.ofString "count"] [Str.ofString "next"] := by
 refine ⟨by kernel_rfl, by kernel_rfl, by kernel_rfl, by kernel_rfl, by kernel_rfl, by kernel_rfl, of_decide_eq_true (by kernel_rfl), of_decide_eq_true (by kernel_rfl), by decide +kernel, by decide +kernel, of_decide_eq_true (by kernel_rfl), ?_⟩
 intro vs h
 match vs, h with
 | [x0], _ => kernel_rfl
structure LexA where
 x : Addr
 dx : Addr
 P : Addr
 sx : Addr
 sdx : Addr
 SP : Addr
 lam : Addr
 cell : Addr
 I : Addr
 doc : Value
 pm : Value
 cv : Value
 ctv : Value
def lcore (a : LexA) (l : List Nat) (n : Int) : List Fact := [FInst a.x a.dx 115 (lrho n (.ref a.sx) a.P none), FInst a.sx a.sdx 115 (lrho 1 .none a.SP (some (.ref a.lam))),
 FFn a.lam (lamFd [(Str.ofString "signs", a.cell)] a.doc a.pm a.cv a.ctv), FCs [(Str.ofString "signs", a.cell)] [("signs", some (.ref a.I))], FSi a.I l]
def FLex (a : LexA) (l : List Nat) (n : Int) (pb : List (List Nat)) : Fact := FJoin (FList a.P (pb.map tS) :: lcore a l n)
theorem lam_call {c : Cx} (Fc : Fns c) {A : Around} {K K' : List Fact} {f I cell : Addr} {doc pm cv ctv : Value} {l : List Nat} {Ψ : SV → List Fact → Prop} (hr : Room A 2)
  (hf : FFn f (lamFd [(Str.ofString "signs", cell)] doc pm cv ctv) ∈ K) (hc : FCs [(Str.ofString "signs", cell)] [("signs", some (.ref I))] ∈ K) (hch : Chg (FSi I l) (FSi I l.tail) K K') (hΨ : Ψ (tS (hd1 [] l)) K') :
  TCall c A K (.ref f) [.int 1] Ψ := by
 have hT := Fc.tops
 refine call_lam hf (pl_lam _ _ _ _ _) rfl (hr.le (by omega)) fun L hG => ?_
 have hr' := hr.deeper (fnEnv (lamFd [(Str.ofString "signs", cell)] doc pm cv ctv) f L)
 have hCl : Cells (fnEnv (lamFd [(Str.ofString "signs", cell)] doc pm cv ctv) f L) [(Str.ofString "signs", cell)] := cells1 (.inr (by kernel_rfl)) (by kernel_rfl) (by decide)
 show TE c _ _ [("count", some (.int 1))] K _ _
 refine E_Call ?_
 walk_at "W"
 refine x_nextSi hch ?_
 exact hΨ
theorem lit_nl : lit "\n" = [10] := by decide +kernel
theorem read_code {c : Cx} (Fc : Fns c) {A : Around} {K K' R : List Fact} {a : LexA} {l : List Nat} {n : Int} {Ψ : SV → List Fact → Prop} (hr : Room A 4) (p : K.Perm (lcore a l n ++ R))
  (p' : (lcore a l.tail (n + (if hd1 [] l = [10] then 1 else 0)) ++ R).Perm K') (hΨ : Ψ (tS (hd1 [] l)) K') : TCode c A K (.ref 98) [.ref a.x] Ψ := by
 refine TCode.perm p ?_
 obtain ⟨o, pm, cd, F⟩ := Fc.m_read_char
 have hT := Fc.tops
 have hcl := lex_cls Fc
 refine code_fn F (p_read_char _ _) rfl (hr.le (by omega)) fun L hG => ?_
 have hr' := hr.deeper (fnEnv (fd (mt 13 1) "_netrclex._read_char" 3 pm (.ref cd) 0) 98 L)
 show TS c _ _ [("self", some (.ref a.x)), ("ch", none)] (FInst a.x a.dx 115 [("lineno", some (.int n)), ("instream", some (.ref a.sx)), ("whitespace", some (tS wsL)), ("pushback", some (.ref a.P)), ("read", none)] ::
  FInst a.sx a.sdx 115 [("lineno", some (.int 1)), (Str.ofString "instream", some .none), ("whitespace", some (tS wsL)), ("pushback", some (.ref a.SP)), ("read", some (.ref a.lam))] ::
  FFn a.lam (lamFd [(Str.ofString "signs", a.cell)] a.doc a.pm a.cv a.ctv) :: FCs [(Str.ofString "signs", a.cell)] [("signs", some (.ref a.I))] :: FSi a.I l :: R) _ _
 refine S_cons ?_
 walk_at "W"
 refine TCall.fx (Ψ := fun v K1 => v = tS (hd1 [] l) ∧ K1 = _) (lam_call Fc (hr'.le (by omega)) (by walk_at "mem") (by walk_at "mem") (by walk_at "chg") ⟨rfl, rfl⟩) ?_
 rintro _ _ ⟨rfl, rfl⟩
 refine ⟨_, .refl _, ?_⟩
 walk_at "W"
 refine Then.nx (S_cons ?_)
 walk_at "W"
 refine ⟨fun hb => ?_, fun hb => ?_⟩
 ·have hb : hd1 [] l = [10] := by simpa [lit_nl] using hb
  walk_at "W"
  refine Then.nx ?_
  walk_at "W"
  rw [if_pos hb] at p'
  exact ⟨_, .refl _, _, p', hΨ⟩
 ·have hb : ¬ hd1 [] l = [10] := by simpa [lit_nl] using hb
  refine S_nil (Then.nx ?_)
  walk_at "W"
  rw [if_neg hb, Int.add_zero] at p'
  exact ⟨_, .refl _, _, p', hΨ⟩
theorem lexer_call {c : Cx} (Fc : Fns c) {A : Around} {K : List Fact} {l : List Nat} {Ψ : SV → List Fact → Prop} (hr : Room A 6) (hΨ : ∀ a, Ψ (.ref a.x) (FLex a l 1 [] :: K)) : TCall c A K (.ref 190) [tS l] Ψ := by
 obtain ⟨t, ht, hpos, hqual, o, pm, F⟩ := Fc.f_law_lexer
 have hT := Fc.tops
 have hcl := lex_cls Fc
 refine TCall.joins ?_
 refine call_defC F (pc_law_lexer _ _) (ρ0 := [("text", some (tS l)), ("stream", none)]) (γ0 := [("signs", none)]) rfl (hr.le (by omega)) (by simp [binds]) (by simp [binds]) rfl rfl fun L hG hC hK => ?_
 have hr' := hr.deeper (callEnvC (fd (st 20) "_law_lexer" 3 pm (.ref t.c) 0) L 190)
 refine S_cons ?_
 walk_at "W"
 rename_i I
 refine Then.nx (S_cons ?_)
 walk_at "W"
 refine TCall.fx (Ψ := fun v K1 => ∃ x dx P, v = .ref x ∧ K1 = FList P [] :: FInst x dx 115 (lrho 1 .none P none) :: _) (new_call Fc (hr'.le (by omega)) fun x dx P => ⟨x, dx, P, rfl, rfl⟩) ?_
 rintro _ _ ⟨sx, sdx, SP, rfl, rfl⟩
 refine ⟨FList SP [] :: FInst sx sdx 115 (lrho 1 .none SP none) :: FSi I l :: FCs [("signs", L + 1)] [("signs", some (.ref I))] :: K, (perm_mid [_, _] [_] _), ?_⟩
 unfold lrho
 walk_at "W"
 refine Then.nx (S_cons ?_)
 refine S_AssignAttr ?_ rfl
 refine E_Lambda2 (clos := [("signs", L + 1)]) (G := lamFd [("signs", L + 1)]) ht hpos hqual rfl (by kernel_rfl) (by kernel_rfl) (by kernel_rfl) (fun _ _ _ _ => rfl) ?_
 intro lam doc pm cv ctv
 walk_at "W"
 refine Then.nx ?_
 walk_at "W"
 refine TCall.fx (Ψ := fun v K1 => ∃ x dx P, v = .ref x ∧ K1 = FList P [] :: FInst x dx 115 (lrho 1 (.ref sx) P none) :: _) (new_call Fc (hr'.le (by omega)) fun x dx P => ⟨x, dx, P, rfl, rfl⟩) ?_
 rintro _ _ ⟨x, dx, P, rfl, rfl⟩
 refine ⟨_, perm_mid [_, _] [_] _, ?_⟩
 refine ⟨FList P [] :: FInst x dx 115 (lrho 1 (.ref sx) P none) :: FFn lam (lamFd [("signs", L + 1)] doc pm cv ctv) :: FInst sx sdx 115 (lrho 1 .none SP (some (.ref lam))) :: FSi I l :: FCs [("signs", L + 1)] [("signs", some (.ref I))] :: K, ?_, FList P ([].map tS) :: lcore ⟨x, dx, P, sx, sdx, SP, lam, L + 1, I, doc, pm, cv, ctv⟩ l 1, K, ?_,
  hΨ ⟨x, dx, P, sx, sdx, SP, lam, L + 1, I, doc, pm, cv, ctv⟩⟩
 ·exact .cons_cons _ (.cons_cons _ (.cons_cons _ (.cons _ (.refl _))))
 ·refine Rems.perm (.cons .here (.cons .here (.cons (.there .here) (.cons .here (.cons (.there .here) (.cons .here .nil))))))
theorem read_call {c : Cx} (Fc : Fns c) {A : Around} {K K' R : List Fact} {a : LexA} {l : List Nat} {n : Int} {Ψ : SV → List Fact → Prop} (hr : Room A 4) (p : K.Perm (lcore a l n ++ R))
  (p' : (lcore a l.tail (n + (if hd1 [] l = [10] then 1 else 0)) ++ R).Perm K') (hΨ : Ψ (tS (hd1 [] l)) K') : TCall c A K (.ref 98) [.ref a.x] Ψ := (read_code Fc hr p p' hΨ).call
theorem push_call {c : Cx} (Fc : Fns c) {A : Around} {K K' : List Fact} {a : LexA} {l t : List Nat} {n : Int} {pb : List (List Nat)} {Ψ : SV → List Fact → Prop} (hr : Room A 2) (hl : pb.length < 2 ^ 16) (hch : Chg (FLex a l n pb) (FLex a l n (pb ++ [t])) K K')
  (hΨ : Ψ .none K') : TCall c A K (.ref 112) [.ref a.x, tS t] Ψ := by
 refine TCall.opened hch (fun R => ?_) hΨ
 obtain ⟨o, pm, cd, F⟩ := Fc.m_push_token
 have hT := Fc.tops
 have hcl := lex_cls Fc
 refine call_fn F (p_push_token _ _) rfl (hr.le (by omega)) fun L hG => ?_
 have hr' := hr.deeper (fnEnv (fd (mt 13 3) "_netrclex.push_token" 3 pm (.ref cd) 0) 112 L)
 have hl2 : (pb.map tS).length < 2 ^ 20 := by rw [List.length_map]; omega
 show TS c _ _ [("self", some (.ref a.x)), ("token", some (tS t))] (FList a.P (pb.map tS) :: FInst a.x a.dx 115 [("lineno", some (.int n)), ("instream", some (.ref a.sx)), ("whitespace", some (tS wsL)), ("pushback", some (.ref a.P)), ("read", none)] ::
  FInst a.sx a.sdx 115 [("lineno", some (.int 1)), (Str.ofString "instream", some .none), ("whitespace", some (tS wsL)), ("pushback", some (.ref a.SP)), ("read", some (.ref a.lam))] ::
  FFn a.lam (lamFd [(Str.ofString "signs", a.cell)] a.doc a.pm a.cv a.ctv) :: FCs [(Str.ofString "signs", a.cell)] [("signs", some (.ref a.I))] :: FSi a.I l :: R) _ _
 refine S_cons ?_
 walk_at "W"
 refine Then.nx ?_
 walk_at "W"
 refine ⟨_, .refl _, rfl, ?_⟩
 have e : (pb ++ [t]).map tS = pb.map tS ++ [tS t] := by simp
 rw [e]
 exact .refl _
def tokB : List Nat → List Nat → List Nat × List Nat
 | acc, [] => (acc, [])
 | acc, c :: l => if c ∈ wsL then (acc, l) else if c = 92 then (match l with | [] => (acc, []) | d :: l' => tokB (acc ++ [d]) l') else tokB (acc ++ [c]) l
def tokQ : List Nat → List Nat → List Nat × List Nat
 | acc, [] => (acc, [])
 | acc, c :: l => if c = 34 then (acc, l) else if c = 92 then (match l with | [] => (acc, []) | d :: l' => tokQ (acc ++ [d]) l') else tokQ (acc ++ [c]) l
def tok : List Nat → List Nat × List Nat
 | [] => ([], [])
 | c :: l => if c ∈ wsL then tok l else if c = 34 then tokQ [] l else if c = 92 then (match l with | [] => ([], []) | d :: l' => tokB [d] l') else tokB [c] l
def nls (l l' : List Nat) : Int := (l.count 10 : Int) - l'.count 10
theorem nls_self (l : List Nat) : nls l l = 0 := by unfold nls; omega
theorem nls_step (c : Nat) (l l' : List Nat) : nls (c :: l) l' = (if [c] = [10] then 1 else 0) + nls l l' := by
 unfold nls
 rw [List.count_cons]
 by_cases h : c = 10
 ·subst h; simp; omega
 ·have : ¬ [c] = [10] := by simpa using h
  simp [h]
abbrev LS (a : LexA) (It b : Addr) (e : Bool) (l : List Nat) (n : Int) (R : List Fact) : List Fact := FCi It b [] e :: FMeth b 98 a.x :: FList a.P [] ::
 FInst a.x a.dx 115 [("lineno", some (.int n)), ("instream", some (.ref a.sx)), ("whitespace", some (tS wsL)), ("pushback", some (.ref a.P)), ("read", none)] ::
  FInst a.sx a.sdx 115 [("lineno", some (.int 1)), (Str.ofString "instream", some .none), ("whitespace", some (tS wsL)), ("pushback", some (.ref a.SP)), ("read", some (.ref a.lam))] ::
  FFn a.lam (lamFd [(Str.ofString "signs", a.cell)] a.doc a.pm a.cv a.ctv) :: FCs [(Str.ofString "signs", a.cell)] [("signs", some (.ref a.I))] :: FSi a.I l :: R
theorem for_lex {c : Cx} (Fc : Fns c) {A : Around} {env : Env} {ρ : Loc} {x : Str} {tp pos : Pos} {iter : Expr} {body orelse : List Stmt} {a : LexA} {It b : Addr} {R : List Fact} {l : List Nat} {n : Int} {e : Bool} {ΦS : SFl → Loc → List Fact → Prop} (hr : Room A 6)
  (J : Bool → List Nat → Int → Loc → Prop)
  (h : TE c A env ρ (LS a It b e l n R) (eval iter env) fun v ρ1 K1 => v = .ref It ∧ K1 = LS a It b e l n R ∧ J e l n ρ1)
  (he : ∀ e l n ρ1, J e l n ρ1 → e = true → l = [])
  (stop : ∀ e n ρ1, J e [] n ρ1 → names ρ1 = names ρ → TS c A env ρ1 (LS a It b true [] n R) (execs orelse env) ΦS)
  (turn : ∀ s l n ρ1, J false (s :: l) n ρ1 → names ρ1 = names ρ → ∃ ρ2, Put x (tS [s]) ρ1 ρ2 ∧ TS c A env ρ2 (LS a It b false l (n + (if [s] = [10] then 1 else 0)) R) (execs body env) fun f ρ3 K3 => match f with
   | .next => ∃ e' l' n', K3 = LS a It b e' l' n' R ∧ J e' l' n' ρ3 ∧ l'.length ≤ l.length
   | .cont => ∃ e' l' n', K3 = LS a It b e' l' n' R ∧ J e' l' n' ρ3 ∧ l'.length ≤ l.length
   | .brk => ΦS .next ρ3 K3
   | .ret v => ΦS (.ret v) ρ3 K3)
  (hs : ∀ x, foldedSetIterable iter env x = pure x := by intro _; rfl) : TS c A env ρ (LS a It b e l n R) (exec (.For (.Name x tp) iter body orelse pos) env) ΦS := by
 obtain ⟨o, pm, cd, F⟩ := Fc.m_read_char
 refine S_ForCi (It := It) (b := b) (o := a.x) (m := l.length) (n := 5) F hr (fun m ρ1 K1 => ∃ e l n, K1 = LS a It b e l n R ∧ J e l n ρ1 ∧ l.length = m) (h.mono fun v ρ1 K1 ⟨h1, h2, h3⟩ => ⟨h1, ⟨e, h2 ▸ List.mem_cons_self⟩, e, l, n, h2, h3, rfl⟩) ?_ hs
 rintro m ρ3 K3 ⟨e, l, n, rfl, hJ, rfl⟩ n3
 cases e with
 | true =>
  obtain rfl := he _ _ _ _ hJ rfl
  exact .inl ⟨List.mem_cons_self, stop _ _ _ hJ n3⟩
 | false =>
  refine .inr ⟨List.mem_cons_self, List.mem_cons_of_mem _ List.mem_cons_self, fun A' hr' => ?_⟩
  refine read_code Fc (R := FFr env.locals ρ3 :: FCi It b [] false :: FMeth b 98 a.x :: FList a.P [] :: R) (K' := FFr env.locals ρ3 :: LS a It b false l.tail (n + (if hd1 [] l = [10] then 1 else 0)) R) (hr'.le (by omega)) (perm_mid [_, _, _, _] (lcore a l n) R) (perm_mid [_, _, _, _] (lcore a l.tail _) R).symm ?_
  refine ⟨hd1 [] l, _, rfl, rfl, List.mem_cons_of_mem _ List.mem_cons_self, ?_⟩
  cases l with
  | nil =>
   rw [if_pos (show hd1 [] [] = [] from rfl)]
   refine ⟨_, Chg.here, ?_⟩
   have : n + (if hd1 [] [] = [10] then 1 else 0) = n := by rw [if_neg (by simp [hd1])]; omega
   rw [this]
   exact stop _ _ _ hJ n3
  | cons s l =>
   rw [if_neg (show ¬ hd1 [] (s :: l) = [] from by simp [hd1])]
   refine ⟨List.mem_cons_self, ?_⟩
   obtain ⟨ρ2, hp, ht⟩ := turn s l n ρ3 hJ n3
   refine ⟨ρ2, hp, ht.mono fun f ρ4 K4 q => ?_⟩
   cases f with
   | next => obtain ⟨e', l', n', q1, q2, q3⟩ := q; exact ⟨l'.length, by simp; omega, e', l', n', q1, q2, rfl⟩
   | cont => obtain ⟨e', l', n', q1, q2, q3⟩ := q; exact ⟨l'.length, by simp; omega, e', l', n', q1, q2, rfl⟩
   | brk => exact q
   | ret v => exact q
theorem tok_cons (c : Nat) (l : List Nat) : tok (c :: l) = if c ∈ wsL then tok l else if c = 34 then tokQ [] l else if c = 92 then tokB (hd1 [] l) l.tail else tokB [c] l := by
 cases l <;> simp [tok, tokB, hd1]
theorem tokQ_cons (acc : List Nat) (c : Nat) (l : List Nat) : tokQ acc (c :: l) = if c = 34 then (acc, l) else if c = 92 then tokQ (acc ++ hd1 [] l) l.tail else tokQ (acc ++ [c]) l := by
 cases l <;> simp [tokQ, hd1]
theorem tokB_cons (acc : List Nat) (c : Nat) (l : List Nat) : tokB acc (c :: l) = if c ∈ wsL then (acc, l) else if c = 92 then tokB (acc ++ hd1 [] l) l.tail else tokB (acc ++ [c]) l := by
 cases l <;> simp [tokB, hd1]
theorem hd1_len (l : List Nat) : (hd1 [] l).length + l.tail.length = l.length := by cases l <;> simp [hd1]; omega
theorem nls_read (l r : List Nat) : (if hd1 [] l = [10] then (1 : Int) else 0) + nls l.tail r = nls l r := by
 cases l with
 | nil => simp [hd1]
 | cons s l => rw [nls_step]; rfl
theorem lit_q : lit "\"" = [34] := by decide +kernel
theorem lit_b : lit "\\" = [92] := by decide +kernel
theorem lit_e : lit "" = [] := by decide +kernel
theorem x_read {c : Cx} (Fc : Fns c) {A : Around} {ρ : Loc} {L It b : Addr} {Φ : SV → Loc → List Fact → Prop} {R : List Fact} {a : LexA} {e : Bool} {l : List Nat} {n : Int} (hr : Room A 4)
  (hq : Φ (tS (hd1 [] l)) ρ (LS a It b e l.tail (n + (if hd1 [] l = [10] then 1 else 0)) R)) : TCall c A (FFr L ρ :: LS a It b e l n R) (.ref 98) [.ref a.x] (Fx L ρ Φ) :=
 read_call Fc hr (R := FFr L ρ :: FCi It b [] e :: FMeth b 98 a.x :: FList a.P [] :: R) (perm_mid [_, _, _, _] (lcore a l n) R) (perm_mid [_, _, _, _] (lcore a l.tail _) R).symm ⟨_, rfl, hq⟩
abbrev grho (a : LexA) (It : Addr) (acc : List Nat) (ch : Option SV) : Loc := [("self", some (.ref a.x)), ("token", some (tS acc)), ("fiter", some (.ref It)), (Str.ofString "ch", ch)]
set_option maxHeartbeats 1000000 in
theorem get_call {c : Cx} (Fc : Fns c) {A : Around} {K K' : List Fact} {a : LexA} {l : List Nat} {n : Int} {Ψ : SV → List Fact → Prop} (hr : Room A 8) (hl : l.length ≤ 2 ^ 16)
  (hch : Chg (FLex a l n []) (FLex a (tok l).2 (n + nls l (tok l).2) []) K K') (hΨ : Ψ (tS (tok l).1) K') : TCall c A K (.ref 105) [.ref a.x] Ψ := by
 refine TCall.opened hch (fun R => ?_) hΨ
 obtain ⟨o, pm, cd, F⟩ := Fc.m_get_token
 obtain ⟨oR, pmR, cdR, FR⟩ := Fc.m_read_char
 have hT := Fc.tops
 have hcl := lex_cls Fc
 refine call_fn F (p_get_token _ _) rfl (hr.le (by omega)) fun L hG => ?_
 have hr' := hr.deeper (fnEnv (fd (mt 13 2) "_netrclex.get_token" 3 pm (.ref cd) 0) 105 L)
 have hz : ([] : List SV).length < 2 ^ 20 := by decide
 show TS c _ _ [("self", some (.ref a.x)), ("token", none), ("fiter", none), ("ch", none)] (FList a.P [] :: FInst a.x a.dx 115 [("lineno", some (.int n)), ("instream", some (.ref a.sx)), ("whitespace", some (tS wsL)), ("pushback", some (.ref a.P)), ("read", none)] ::
  FInst a.sx a.sdx 115 [("lineno", some (.int 1)), (Str.ofString "instream", some .none), ("whitespace", some (tS wsL)), ("pushback", some (.ref a.SP)), ("read", some (.ref a.lam))] ::
  FFn a.lam (lamFd [(Str.ofString "signs", a.cell)] a.doc a.pm a.cv a.ctv) :: FCs [(Str.ofString "signs", a.cell)] [("signs", some (.ref a.I))] :: FSi a.I l :: R) _ _
 refine S_cons ?_
 walk_at "W"
 refine ⟨fun hb => by simp at hb, fun _ => ?_⟩
 refine S_nil (Then.nx (S_cons ?_))
 walk_at "W"
 rw [show lit "" = [] from lit_e]
 refine Then.nx (S_cons ?_)
 walk_at "W"
 refine A_bound FR hcl (by walk_at "mem") (by walk_at "mem") (by walk_at "mem") nb_read_char (.mem (by walk_at "mem")) (by simp only [names, List.map_cons, List.map_nil]; decide) (by decide) fun b => ?_
 walk_at "W"
 rename_i It
 rw [show lit "" = [] from lit_e]
 refine Then.nx (S_cons ?_)
 refine for_lex Fc (l := l) (n := n) (e := false) (R := R) (It := It) (b := b) (a := a) (hr'.le (by omega)) (fun e l1 n1 ρ1 => ∃ acc ch, ρ1 = grho a It acc ch ∧ ((acc = [] ∧ tok l1 = tok l) ∨ (l1 = [] ∧ tok l = (acc, []))) ∧ n1 + nls l1 (tok l).2 = n + nls l (tok l).2 ∧ l1.length ≤ l.length ∧ (e = true → l1 = [])) ?start ?ended ?stop ?turn (fun _ => rfl)
 case start =>
  walk_at "W"
  exact ⟨[], none, rfl, .inl ⟨rfl, rfl⟩, rfl, Nat.le_refl _, by simp⟩
 case ended =>
  rintro e l1 n1 ρ1 ⟨acc, ch, _, _, _, _, h⟩ he
  exact h he
 case stop =>
  rintro e n1 ρ1 ⟨acc, ch, rfl, h1, h2, h3, h4⟩ hn
  have h1 : tok l = (acc, []) := by
   rcases h1 with ⟨rfl, h1⟩ | ⟨_, h1⟩
   ·exact h1.symm
   ·exact h1
  refine S_nil (Then.nx ?_)
  walk_at "W"
  rw [h1] at h2 ⊢
  have : n1 = n + nls l [] := by rw [← h2]; show _ = n1 + nls [] []; rw [nls_self]; omega
  subst this
  exact ⟨_, .cons _ (.cons _ (.refl _)), rfl, .refl _⟩
 case turn =>
  rintro s l1 n1 ρ1 ⟨acc, ch, rfl, hd, h2, h3, h4⟩ hn
  have hk : acc = [] ∧ tok (s :: l1) = tok l := by
   rcases hd with h1 | ⟨h1, _⟩
   ·exact h1
   ·cases h1
  obtain ⟨hacc, h1⟩ := hk
  clear hd h4
  subst hacc
  rw [nls_step] at h2
  generalize hn2 : n1 + (if [s] = [10] then (1 : Int) else 0) = n2
  have h2 : n2 + nls l1 (tok l).2 = n + nls l (tok l).2 := by omega
  have h3 : l1.length + 1 ≤ l.length := by simpa using h3
  refine ⟨grho a It [] (some (tS [s])), .there (.there (.there .here)), ?_⟩
  refine S_cons ?_
  walk_at "W"
  refine ⟨fun hb => ?_, fun hb => ?_⟩
  ·have hb : s ∈ wsL := by simpa using hb
   rw [tok_cons, if_pos hb] at h1
   walk_at "W"
   exact ⟨false, l1, n2, rfl, ⟨[], _, rfl, .inl ⟨rfl, h1⟩, h2, by omega, by simp⟩, Nat.le_refl _⟩
  have hw : s ∉ wsL := by simpa using hb
  rw [tok_cons, if_neg hw] at h1
  refine S_nil (Then.nx ?_)
  walk_at "W"
  rw [lit_q]
  refine ⟨fun hb => ?_, fun hb => ?_⟩
  ·have hb : s = 34 := by simpa using hb
   rw [if_pos hb] at h1
   refine S_last ?_
   refine for_lex Fc (l := l1) (n := n2) (e := false) (R := R) (It := It) (b := b) (a := a) (hr'.le (by omega)) (fun e l3 n3 ρ3 => ∃ acc ch, ρ3 = grho a It acc ch ∧ tokQ acc l3 = tok l ∧ n3 + nls l3 (tok l).2 = n + nls l (tok l).2 ∧ acc.length + l3.length ≤ l1.length ∧ (e = true → l3 = [])) ?start ?ended ?stop ?turn (fun _ => rfl)
   case start =>
    walk_at "W"
    exact ⟨[], _, rfl, h1, h2, by simp, by simp⟩
   case ended =>
    rintro e l3 n3 ρ3 ⟨acc, ch, _, _, _, _, h⟩ he
    exact h he
   case stop =>
    rintro e n3 ρ3 ⟨acc, ch, rfl, q1, q2, q3, q4⟩ hn'
    refine S_nil ?_
    refine ⟨true, [], n3, rfl, ⟨acc, ch, rfl, .inr ⟨rfl, q1.symm⟩, q2, by simp, by simp⟩, by simp⟩
   case turn =>
    rintro s l3 n3 ρ3 ⟨acc, ch, rfl, q1, q2, q3, q4⟩ hn'
    rw [nls_step] at q2
    generalize hn4 : n3 + (if [s] = [10] then (1 : Int) else 0) = n4
    have q2 : n4 + nls l3 (tok l).2 = n + nls l (tok l).2 := by omega
    have q3 : acc.length + (l3.length + 1) ≤ l1.length := by simpa using q3
    refine ⟨grho a It acc (some (tS [s])), .there (.there (.there .here)), ?_⟩
    refine S_cons ?_
    walk_at "W"
    rw [lit_q]
    refine ⟨fun hb => ?_, fun hb => ?_⟩
    ·have hb : s = 34 := by simpa using hb
     rw [tokQ_cons, if_pos hb] at q1
     rw [← q1] at q2 ⊢
     dsimp only at q2 ⊢
     have : n4 = n + nls l l3 := by rw [nls_self] at q2; omega
     subst this
     walk_at "W"
     exact ⟨_, .cons _ (.cons _ (.refl _)), rfl, .refl _⟩
    ·have hb : ¬ s = 34 := by simpa using hb
     rw [tokQ_cons, if_neg hb] at q1
     walk_at "W"
     rw [lit_b]
     refine ⟨fun hb => ?_, fun hb => ?_⟩
     ·have hb : s = 92 := by simpa using hb
      rw [if_pos hb] at q1
      walk_at "W"
      refine E_Meth (name := Str.ofString "_read_char") FR nb_read_char ?_ rfl rfl rfl
      walk_at "W"
      refine ex_meth hcl (by walk_at "mem") (by walk_at "mem") (by walk_at "mem") (by walk_at "mem") (by simp only [names, List.map_cons, List.map_nil]; decide) ?_
      walk_at "W"
      refine x_read Fc (hr'.le (by omega)) ?_
      walk_at "W"
      refine Then.nx ?_
      have hlen : acc.length + (hd1 [] l3).length ≤ 2 ^ 24 := by have := hd1_len l3; omega
      walk_at "W"
      refine ⟨false, l3.tail, _, rfl, ⟨_, _, rfl, q1, ?_, ?_, by simp⟩, by simp⟩
      ·rw [← q2, ← nls_read l3]; omega
      ·have := hd1_len l3; simp only [List.length_append]; omega
     ·have hb : ¬ s = 92 := by simpa using hb
      rw [if_neg hb] at q1
      refine S_nil (Then.nx ?_)
      have hlen : acc.length + [s].length ≤ 2 ^ 24 := by simp; omega
      walk_at "W"
      exact ⟨false, l3, n4, rfl, ⟨_, _, rfl, q1, q2, by simp; omega, by simp⟩, Nat.le_refl _⟩
  ·have hb : ¬ s = 34 := by simpa using hb
   rw [if_neg hb] at h1
   refine S_cons ?_
   walk_at "W"
   rw [lit_b]
   refine ⟨fun hb => ?_, fun hb => ?_⟩
   ·have hb : s = 92 := by simpa using hb
    rw [if_pos hb] at h1
    walk_at "W"
    refine E_Meth (name := Str.ofString "_read_char") FR nb_read_char ?_ rfl rfl rfl
    walk_at "W"
    refine ex_meth hcl (by walk_at "mem") (by walk_at "mem") (by walk_at "mem") (by walk_at "mem") (by simp only [names, List.map_cons, List.map_nil]; decide) ?_
    walk_at "W"
    refine x_read Fc (hr'.le (by omega)) ?_
    walk_at "W"
    refine Then.nx (S_cons ?_)
    have hlen : ([] : List Nat).length + (hd1 [] l1).length ≤ 2 ^ 24 := by have := hd1_len l1; simp; omega
    walk_at "W"
    refine Then.nx ?_
    refine S_last ?_
    refine for_lex Fc (l := l1.tail) (n := (n2 + if hd1 [] l1 = [10] then 1 else 0)) (e := false) (R := R) (It := It) (b := b) (a := a) (hr'.le (by omega)) (fun e l3 n3 ρ3 => ∃ acc ch, ρ3 = grho a It acc ch ∧ tokB acc l3 = tok l ∧ n3 + nls l3 (tok l).2 = n + nls l (tok l).2 ∧ acc.length + l3.length ≤ l1.length + 1 ∧ l3.length ≤ l1.length ∧ (e = true → l3 = [])) ?start ?ended ?stop ?turn (fun _ => rfl)
    case start =>
     walk_at "W"
     refine ⟨_, _, rfl, h1, ?_, ?_, ?_, by simp⟩
     ·rw [← h2, ← nls_read l1]; omega
     ·have := hd1_len l1; simp only [List.length_append, List.length_nil]; omega
     ·have := hd1_len l1; omega
    case ended =>
     rintro e l3 n3 ρ3 ⟨acc, ch, _, _, _, _, _, h⟩ he
     exact h he
    case stop =>
     rintro e n3 ρ3 ⟨acc, ch, rfl, q1, q2, q3, q4, q5⟩ hn'
     refine S_nil ?_
     refine ⟨true, [], n3, rfl, ⟨acc, ch, rfl, .inr ⟨rfl, q1.symm⟩, q2, by simp, by simp⟩, by simp⟩
    case turn =>
     rintro s l3 n3 ρ3 ⟨acc, ch, rfl, q1, q2, q3, q4, q5⟩ hn'
     clear q5
     rw [nls_step] at q2
     generalize hn4 : n3 + (if [s] = [10] then (1 : Int) else 0) = n4
     have q2 : n4 + nls l3 (tok l).2 = n + nls l (tok l).2 := by omega
     have q3 : acc.length + (l3.length + 1) ≤ l1.length + 1 := by simpa using q3
     have q4 : l3.length + 1 ≤ l1.length := by simpa using q4
     refine ⟨grho a It acc (some (tS [s])), .there (.there (.there .here)), ?_⟩
     refine S_cons ?_
     walk_at "W"
     refine ⟨fun hb => ?_, fun hb => ?_⟩
     ·have hb : s ∈ wsL := by simpa using hb
      rw [tokB_cons, if_pos hb] at q1
      rw [← q1] at q2 ⊢
      dsimp only at q2 ⊢
      have : n4 = n + nls l l3 := by rw [nls_self] at q2; omega
      subst this
      walk_at "W"
      exact ⟨_, .cons _ (.cons _ (.refl _)), rfl, .refl _⟩
     ·have hb : ¬ s ∈ wsL := by simpa using hb
      rw [tokB_cons, if_neg hb] at q1
      walk_at "W"
      rw [lit_b]
      refine ⟨fun hb => ?_, fun hb => ?_⟩
      ·have hb : s = 92 := by simpa using hb
       rw [if_pos hb] at q1
       walk_at "W"
       refine E_Meth (name := Str.ofString "_read_char") FR nb_read_char ?_ rfl rfl rfl
       walk_at "W"
       refine ex_meth hcl (by walk_at "mem") (by walk_at "mem") (by walk_at "mem") (by walk_at "mem") (by simp only [names, List.map_cons, List.map_nil]; decide) ?_
       walk_at "W"
       refine x_read Fc (hr'.le (by omega)) ?_
       walk_at "W"
       refine Then.nx ?_
       have hlen : acc.length + (hd1 [] l3).length ≤ 2 ^ 24 := by have := hd1_len l3; omega
       walk_at "W"
       refine ⟨false, l3.tail, _, rfl, ⟨_, _, rfl, q1, ?_, ?_, ?_, by simp⟩, by simp⟩
       ·rw [← q2, ← nls_read l3]; omega
       ·have := hd1_len l3; simp only [List.length_append]; omega
       ·have := hd1_len l3; omega
      ·have hb : ¬ s = 92 := by simpa using hb
       rw [if_neg hb] at q1
       refine S_nil (Then.nx ?_)
       have hlen : acc.length + [s].length ≤ 2 ^ 24 := by simp; omega
       walk_at "W"
       exact ⟨false, l3, n4, rfl, ⟨_, _, rfl, q1, q2, by simp; omega, by omega, by simp⟩, Nat.le_refl _⟩
   ·have hb : ¬ s = 92 := by simpa using hb
    rw [if_neg hb] at h1
    refine S_nil (Then.nx (S_cons ?_))
    have hlen : ([] : List Nat).length + [s].length ≤ 2 ^ 24 := by simp
    walk_at "W"
    refine Then.nx ?_
    refine S_last ?_
    refine for_lex Fc (l := l1) (n := n2) (e := false) (R := R) (It := It) (b := b) (a := a) (hr'.le (by omega)) (fun e l3 n3 ρ3 => ∃ acc ch, ρ3 = grho a It acc ch ∧ tokB acc l3 = tok l ∧ n3 + nls l3 (tok l).2 = n + nls l (tok l).2 ∧ acc.length + l3.length ≤ l1.length + 1 ∧ l3.length ≤ l1.length ∧ (e = true → l3 = [])) ?start ?ended ?stop ?turn (fun _ => rfl)
    case start =>
     walk_at "W"
     exact ⟨_, _, rfl, h1, h2, by simp; omega, Nat.le_refl _, by simp⟩
    case ended =>
     rintro e l3 n3 ρ3 ⟨acc, ch, _, _, _, _, _, h⟩ he
     exact h he
    case stop =>
     rintro e n3 ρ3 ⟨acc, ch, rfl, q1, q2, q3, q4, q5⟩ hn'
     refine S_nil ?_
     refine ⟨true, [], n3, rfl, ⟨acc, ch, rfl, .inr ⟨rfl, q1.symm⟩, q2, by simp, by simp⟩, by simp⟩
    case turn =>
     rintro s l3 n3 ρ3 ⟨acc, ch, rfl, q1, q2, q3, q4, q5⟩ hn'
     clear q5
     rw [nls_step] at q2
     generalize hn4 : n3 + (if [s] = [10] then (1 : Int) else 0) = n4
     have q2 : n4 + nls l3 (tok l).2 = n + nls l (tok l).2 := by omega
     have q3 : acc.length + (l3.length + 1) ≤ l1.length + 1 := by simpa using q3
     have q4 : l3.length + 1 ≤ l1.length := by simpa using q4
     refine ⟨grho a It acc (some (tS [s])), .there (.there (.there .here)), ?_⟩
     refine S_cons ?_
     walk_at "W"
     refine ⟨fun hb => ?_, fun hb => ?_⟩
     ·have hb : s ∈ wsL := by simpa using hb
      rw [tokB_cons, if_pos hb] at q1
      rw [← q1] at q2 ⊢
      dsimp only at q2 ⊢
      have : n4 = n + nls l l3 := by rw [nls_self] at q2; omega
      subst this
      walk_at "W"
      exact ⟨_, .cons _ (.cons _ (.refl _)), rfl, .refl _⟩
     ·have hb : ¬ s ∈ wsL := by simpa using hb
      rw [tokB_cons, if_neg hb] at q1
      walk_at "W"
      rw [lit_b]
      refine ⟨fun hb => ?_, fun hb => ?_⟩
      ·have hb : s = 92 := by simpa using hb
       rw [if_pos hb] at q1
       walk_at "W"
       refine E_Meth (name := Str.ofString "_read_char") FR nb_read_char ?_ rfl rfl rfl
       walk_at "W"
       refine ex_meth hcl (by walk_at "mem") (by walk_at "mem") (by walk_at "mem") (by walk_at "mem") (by simp only [names, List.map_cons, List.map_nil]; decide) ?_
       walk_at "W"
       refine x_read Fc (hr'.le (by omega)) ?_
       walk_at "W"
       refine Then.nx ?_
       have hlen : acc.length + (hd1 [] l3).length ≤ 2 ^ 24 := by have := hd1_len l3; omega
       walk_at "W"
       refine ⟨false, l3.tail, _, rfl, ⟨_, _, rfl, q1, ?_, ?_, ?_, by simp⟩, by simp⟩
       ·rw [← q2, ← nls_read l3]; omega
       ·have := hd1_len l3; simp only [List.length_append]; omega
       ·have := hd1_len l3; omega
      ·have hb : ¬ s = 92 := by simpa using hb
       rw [if_neg hb] at q1
       refine S_nil (Then.nx ?_)
       have hlen : acc.length + [s].length ≤ 2 ^ 24 := by simp; omega
       walk_at "W"
       exact ⟨false, l3, n4, rfl, ⟨_, _, rfl, q1, q2, by simp; omega, by omega, by simp⟩, Nat.le_refl _⟩
theorem get_pushed {c : Cx} (Fc : Fns c) {A : Around} {K K' : List Fact} {a : LexA} {l t : List Nat} {n : Int} {pb : List (List Nat)} {Ψ : SV → List Fact → Prop} (hr : Room A 8) (hl : pb.length < 2 ^ 16)
  (hch : Chg (FLex a l n (t :: pb)) (FLex a l n pb) K K') (hΨ : Ψ (tS t) K') : TCall c A K (.ref 105) [.ref a.x] Ψ := by
 refine TCall.opened hch (fun R => ?_) hΨ
 obtain ⟨o, pm, cd, F⟩ := Fc.m_get_token
 have hT := Fc.tops
 have hcl := lex_cls Fc
 refine call_fn F (p_get_token _ _) rfl (hr.le (by omega)) fun L hG => ?_
 have hr' := hr.deeper (fnEnv (fd (mt 13 2) "_netrclex.get_token" 3 pm (.ref cd) 0) 105 L)
 have hz : (tS t :: pb.map tS).length < 2 ^ 20 := by simp; omega
 show TS c _ _ [("self", some (.ref a.x)), ("token", none), ("fiter", none), ("ch", none)] (FList a.P (tS t :: pb.map tS) :: FInst a.x a.dx 115 [("lineno", some (.int n)), ("instream", some (.ref a.sx)), ("whitespace", some (tS wsL)), ("pushback", some (.ref a.P)), ("read", none)] ::
  FInst a.sx a.sdx 115 [("lineno", some (.int 1)), (Str.ofString "instream", some .none), ("whitespace", some (tS wsL)), ("pushback", some (.ref a.SP)), ("read", some (.ref a.lam))] ::
  FFn a.lam (lamFd [(Str.ofString "signs", a.cell)] a.doc a.pm a.cv a.ctv) :: FCs [(Str.ofString "signs", a.cell)] [("signs", some (.ref a.I))] :: FSi a.I l :: R) _ _
 refine S_cons ?_
 walk_at "W"
 refine ⟨fun _ => ?_, fun hb => by simp at hb⟩
 walk_at "W"
 refine x_pop (i := 0) (x := tS t) rfl .here hz ?_
 walk_at "W"
 exact ⟨_, .refl _, rfl, .refl _⟩
def b3map (k : Nat) : List Nat := match b3L.lookup k with
 | some t => t
 | none => if 65 ≤ k ∧ k ≤ 90 then [k + 32] else [k]
def b3D : List Nat := b3L.map Prod.fst ++ b3N
theorem lower_b3N : ∀ k ∈ b3N, Txt.lower (tx [k]) = tx (b3map k) ∧ (b3map k).length ≤ 2 ^ 20 := by
 have h : b3N.all (fun k => (Txt.lower (tx [k])).cps.toList == b3map k && decide ((b3map k).length ≤ 2 ^ 20)) = true := by kernel_rfl
 intro k hk
 have := List.all_eq_true.mp h k hk
 simp only [Bool.and_eq_true, decide_eq_true_eq, beq_iff_eq] at this
 exact ⟨by rw [tx_of (Txt.lower (tx [k])), this.1], this.2⟩
theorem o_inB1 {c : Cx} (Fc : Fns c) {A : Around} {env : Env} {ρ : Loc} {K : List Fact} {k : Nat} {Φ : SV → Loc → List Fact → Prop} (hq : Φ (.bool (isB1 k)) ρ K) : U2 Rep c A env ρ K (.int k) (.ref 127) (compareOp .In) Φ := fun ok s v u kn rv ru => by
 obtain ⟨t, rfl⟩ := rv
 obtain rfl : u = .ref 127 := ru
 obtain ⟨S, n, hS, hk⟩ := Fc.b1 _ kn.old
 refine wpAny_inSet_of (knd := intKind c.prog c.w) (k := (k : Int)) (intKind_is _ _ _ _) rfl hS ?_
 rw [hk]
 exact ⟨.bool (isB1 k), ρ, K, kn.toks _, rfl, rfl, Keep.refl _, hq⟩
theorem b1_call {c : Cx} (Fc : Fns c) {A : Around} {K : List Fact} {k : Nat} {Ψ : SV → List Fact → Prop} (hr : Room A 2) (hΨ : Ψ (.bool (isB1 k)) K) : TCall c A K (.ref 137) [tS [k]] Ψ := by
 obtain ⟨o, pm, cd, F⟩ := Fc.f_in_table_b1
 have hT := Fc.tops
 refine call_fn F (p_in_table_b1 _ _) rfl (hr.le (by omega)) fun L hG => ?_
 have hr' := hr.deeper (fnEnv (fd (st 16) "in_table_b1" 3 pm (.ref cd) 0) 137 L)
 show TS c _ _ [("code", some (tS [k]))] K _ _
 refine S_last ?_
 walk_at "W"
 refine o_inB1 Fc ?_
 exact ⟨_, .refl _, hΨ⟩
theorem get_b3 {c : Cx} (Fc : Fns c) {A : Around} {K : List Fact} {k : Nat} {Ψ : SV → List Fact → Prop} (hΨ : (∀ t, b3L.lookup k = some t → Ψ (tS t) K)) (hn : k ∈ b3N → Ψ .none K) (hk : k ∈ b3D) : TCall c A K (.bi "dict.get") [.ref 138, .int k] Ψ := fun rm s fv vs kn rf rs => by
 obtain rfl : fv = .builtin "dict.get" := rf
 obtain ⟨v, ws, rfl, rfl, ht⟩ := rs.uncons
 obtain ⟨u, ws, rfl, ⟨t, rfl⟩, ht2⟩ := ht.uncons
 obtain rfl : ws = [] := ht2
 obtain ⟨f, hm, h1, h2⟩ := Fc.b3 _ kn.old
 refine call_meetsIn PySem.F.slot_dict_get hm.typeIs PySem.F.entry_dict_get (PySem.F.args_dict_get_2 _ _) (meets_dict_get (intKind c.prog c.w) 138 (intKind_is _ _ _ _) (by decide)) ⟨f, hm, ?_⟩
 rcases List.mem_append.mp hk with hk | hk
 ·obtain ⟨p, hp, rfl⟩ := List.mem_map.mp hk
  obtain ⟨t', e⟩ := h1 p hp
  have hl : b3L.lookup p.1 = some p.2 := by
   have h : b3L.all (fun p => b3L.lookup p.1 == some p.2) = true := by decide
   simpa using List.all_eq_true.mp h p hp
  rw [e]
  exact ⟨tS p.2, K, kn.toks _, ⟨t', rfl⟩, Keep.refl _, hΨ _ hl⟩
 ·rw [h2 k hk]
  exact ⟨.none, K, kn.toks _, rfl, Keep.refl _, hn hk⟩
theorem b3_call {c : Cx} (Fc : Fns c) {A : Around} {K : List Fact} {k : Nat} {Ψ : SV → List Fact → Prop} (hr : Room A 2) (hk : k ∈ b3D) (hΨ : Ψ (tS (b3map k)) K) : TCall c A K (.ref 183) [tS [k]] Ψ := by
 obtain ⟨o, pm, cd, F⟩ := Fc.f_map_table_b3
 have hT := Fc.tops
 refine call_fn F (p_map_table_b3 _ _) rfl (hr.le (by omega)) fun L hG => ?_
 have hr' := hr.deeper (fnEnv (fd (st 18) "map_table_b3" 3 pm (.ref cd) 0) 183 L)
 show TS c _ _ [("code", some (tS [k])), ("r", none)] K _ _
 refine S_cons ?_
 refine S_Assign ?_ rfl
 refine E_CallM (name := Str.ofString "get") "dict" "dict.get" PySem.F.plainAttrs_dict PySem.F.slot_dict_get PySem.F.type_dict_get ?_ rfl rfl rfl
 walk_at "W"
 refine ⟨fun s v kn r => ?_, ?_⟩
 ·obtain ⟨f, hm, _⟩ := Fc.b3 _ kn.old
  obtain rfl : v = .ref 138 := r
  exact ⟨hm.typeIs, fun a e => by cases e; exact hm.noDict _ rfl⟩
 walk_at "W"
 refine TCall.fx (Ψ := fun v K1 => K1 = _ ∧ (v = tS (b3map k) ∨ (v = .none ∧ k ∈ b3N))) (get_b3 Fc (fun t ht => ⟨rfl, .inl ?_⟩) (fun h => ⟨rfl, .inr ⟨rfl, h⟩⟩) hk) ?_
 ·unfold b3map; rw [ht]
 rintro v _ ⟨rfl, hv⟩
 refine ⟨_, .refl _, ?_⟩
 rcases hv with rfl | ⟨rfl, hN⟩
 ·walk_at "W"
  refine Then.nx (S_cons ?_)
  walk_at "W"
  refine ⟨fun _ => ?_, fun hb => by simp at hb⟩
  walk_at "W"
  exact ⟨_, .refl _, hΨ⟩
 ·walk_at "W"
  refine Then.nx (S_cons ?_)
  walk_at "W"
  refine ⟨fun hb => by simp at hb, fun _ => ?_⟩
  refine S_nil (Then.nx ?_)
  walk_at "W"
  refine TCall.opx (c_lower _ _ (lower_b3N k hN).1 (lower_b3N k hN).2) ?_
  exact ⟨_, .refl _, hΨ⟩
def slashAt (m way : Int) (p : Nat × Nat) : List Nat := (if ((p.2 : Int) + way).fmod m == 0 then [92] else []) ++ [p.1]
def slashed (m way : Int) (l : List Nat) : List Nat := (l.zipIdx.map (slashAt m way)).flatten
theorem slashAt_len (m way : Int) (p : Nat × Nat) : (slashAt m way p).length ≤ 2 := by unfold slashAt; split <;> simp
theorem slashed_len (m way : Int) (l : List Nat) : (slashed m way l).length ≤ 2 * l.length := by
 have : ∀ (l : List Nat) i, ((l.zipIdx i).map (slashAt m way)).flatten.length ≤ 2 * l.length := by
  intro l
  induction l with
  | nil => intro i; simp
  | cons n l ih =>
   intro i
   have h1 := slashAt_len m way (n, i)
   have h2 := ih (i + 1)
   rw [List.zipIdx_cons, List.map_cons, List.flatten_cons, List.length_append, List.length_cons]
   omega
 exact this l 0
def writ (way : Int) (l : List Nat) : List Nat :=
 if way.fmod 2 == 0 then [34] ++ slashed 3 way l ++ [34] else slashed 3 way l ++ [([32, 9, 13, 10] : List Nat).getD ((way.fdiv 6).fmod 4).toNat 0]
theorem lit_ws : lit " \t\r\n" = [32, 9, 13, 10] := by decide +kernel
theorem written_call {c : Cx} (Fc : Fns c) {A : Around} {K : List Fact} {l : List Nat} {way : Int} {Ψ : SV → List Fact → Prop} (hr : Room A 4) (hl : l.length ≤ 2 ^ 10) (hΨ : Ψ (tS (writ way l)) K) : TCall c A K (.ref 207) [tS l, .int way] Ψ := by
 obtain ⟨o, pm, cd, F⟩ := Fc.f_law_written
 have hT := Fc.tops
 refine call_defC F (pc_law_written _ _) (ρ0 := [("word", some (tS l)), ("slashed", none)]) (γ0 := [("way", some (.int way))]) rfl (hr.le (by omega)) (by simp [binds]) (by simp [binds]) rfl rfl fun L hG hC hK => ?_
 have hr' := hr.deeper (callEnvC (fd (st 23) "_law_written" 3 pm (.ref cd) 0) L 207)
 have hsl := slashed_len 3 way l
 refine S_cons ?_
 walk_at "W"
 refine E_ListComp (cl := [("way", L + 1)]) (xs0 := ["place", "sign"]) (by walk_at "comp") ?_ (by intro _; rfl)
 walk_at "W"
 rename_i e it t
 have hI := Itb.enumStr (c := c) (A := _) hr'.hh (e := e) (it := it) (x := tx l) (t := t) (K' := FCs [("way", L + 1)] [("way", some (.int way))] :: K) .here
 rw [chs_tx, show (0 : Int) = ((0 : Nat) : Int) from rfl, pairs_zip] at hI
 refine CompI.pure _ _ (fun p => [tS (slashAt 3 way p)]) hI trivial (by simp) (by simp; omega) ?_ ?_
 ·intro C D G acc p hp ρc hρ
  obtain ⟨o1, o2, rfl⟩ := names2 hρ
  refine U1.sees [("way", L + 1)] [] (by walk_at "cells") (by walk_at "globs") fun hC2 hG2 => ?_
  walk_at "W"
  refine ⟨fun hb => ?_, fun hb => ?_⟩
  ·walk_at "W"
   rw [lit_b]
   walk_at "W"
   refine ⟨?_, by walk_at "pick"⟩
   unfold slashAt
   rw [if_pos hb]
  ·walk_at "W"
   rw [lit_e]
   walk_at "W"
   refine ⟨?_, by walk_at "pick"⟩
   unfold slashAt
   rw [if_neg (by simp [hb])]
 ·intro D
  rw [flatT]
  walk_at "W"
  refine x_joinL lit_e (by walk_at "mem") (show (slashed 3 way l).length ≤ _ by omega) ?_
  show ∃ ρ2, Put _ (tS (slashed 3 way l)) _ _ ∧ _
  walk_at "W"
  refine Then.nx (S_cons ?_)
  walk_at "W"
  refine ⟨fun hb => ?_, fun hb => ?_⟩
  ·have h1 : (lit "\"").length + (slashed 3 way l).length ≤ 2 ^ 24 := by rw [lit_q]; simp; omega
   have h2 : (lit "\"" ++ slashed 3 way l).length + (lit "\"").length ≤ 2 ^ 24 := by rw [lit_q]; simp; omega
   walk_at "W"
   refine ⟨K, by walk_at "subl", ?_⟩
   have : writ way l = lit "\"" ++ slashed 3 way l ++ lit "\"" := by unfold writ; rw [if_pos hb, lit_q]
   rw [← this]; exact hΨ
  ·refine S_nil (Then.nx ?_)
   have h0 : 0 ≤ (way.fdiv 6).fmod 4 := Int.fmod_nonneg_of_pos _ (by decide)
   have h4 : (way.fdiv 6).fmod 4 < 4 := Int.fmod_lt_of_pos _ (by decide)
   have hx : (lit " \t\r\n")[((way.fdiv 6).fmod 4).toNat]? = some (([32, 9, 13, 10] : List Nat).getD ((way.fdiv 6).fmod 4).toNat 0) := by
    rw [lit_ws, List.getD_eq_getElem?_getD]
    have : ((way.fdiv 6).fmod 4).toNat < 4 := by omega
    generalize ((way.fdiv 6).fmod 4).toNat = i at this
    match i, this with
    | 0, _ | 1, _ | 2, _ | 3, _ => rfl
   have h2 : (slashed 3 way l).length + [([32, 9, 13, 10] : List Nat).getD ((way.fdiv 6).fmod 4).toNat 0].length ≤ 2 ^ 24 := by simp only [List.length_singleton]; omega
   walk_at "W"
   refine ⟨K, by walk_at "subl", ?_⟩
   have : writ way l = slashed 3 way l ++ [([32, 9, 13, 10] : List Nat).getD ((way.fdiv 6).fmod 4).toNat 0] := by unfold writ; rw [if_neg (by simp [hb])]
   rw [← this]; exact hΨ
def plc (p : Int) : List Nat → Int
 | [] => p
 | n :: l => plc (3 * p + ((n : Int) - 102).fdiv 3) l
theorem place_call {c : Cx} (Fc : Fns c) {A : Around} {K : List Fact} {l : List Nat} {Ψ : SV → List Fact → Prop} (hr : Room A 3) (hl : l.length ≤ 2 ^ 4) (hd : ∀ n ∈ l, 102 ≤ n ∧ n ≤ 108) (hΨ : Ψ (.int (plc 0 l)) K) : TCall c A K (.ref 231) [tS l] Ψ := by
 obtain ⟨o, pm, cd, F⟩ := Fc.f_law_place
 have hT := Fc.tops
 refine call_fn F (p_law_place _ _) rfl (hr.le (by omega)) fun L hG => ?_
 have hr' := hr.deeper (fnEnv (fd (st 27) "_law_place" 3 pm (.ref cd) 0) 231 L)
 show TS c _ _ [("word", some (tS l)), ("place", none), ("letter", none)] K _ _
 refine S_cons ?_
 walk_at "W"
 refine Then.nx (S_cons ?_)
 refine S_ForI ?_ (fun _ => rfl)
 walk_at "W"
 have hI := Itb.str (c := c) (A := A.deeper (fnEnv (fd (st 27) "_law_place" 3 pm (.ref cd) 0) 231 L)) (K := K) hr'.hh (x := tx l)
 rw [chs_tx] at hI
 refine ⟨_, _, _, _, fun r ρ1 K1 => K1 = K ∧ ∃ p o d t, l = d ++ t ∧ r = cs t ∧ ρ1 = ([("word", some (tS l)), ("place", some (.int p)), ("letter", o)] : Loc) ∧ plc p t = plc 0 l ∧ 0 ≤ p ∧ p < 3 ^ (d.length), hI, trivial, ⟨rfl, 0, _, [], l, rfl, rfl, rfl, rfl, by omega, by simp⟩, by simp, ?_, ?_⟩
 ·rintro F x rest ρ2 _ ⟨rfl, p, o, d, t, hlt, hx, rfl, hp, h0, h3⟩ hn
  cases t with
  | nil => cases hx
  | cons n t =>
   obtain ⟨rfl, rfl⟩ : x = tS [n] ∧ rest = cs t := by simpa [cs] using hx
   have hnl : n ∈ l := by rw [hlt]; simp
   have hdn := hd n hnl
   have hlen : d.length < 16 := by rw [hlt] at hl; simp at hl; omega
   have hpw : (3 : Int) ^ d.length ≤ 3 ^ 16 := by
    have := Nat.pow_le_pow_right (n := 3) (by decide) (Nat.le_of_lt hlen)
    exact_mod_cast this
   have hmul : IntMulOk 3 p := .of_left (by decide)
   walk_at "W"
   refine TurnI.nx (by walk_at "pick") ⟨rfl, _, _, d ++ [n], t, by rw [hlt]; simp, rfl, rfl, hp, ?_, ?_⟩
   ·have : 0 ≤ ((n : Int) - 102).fdiv 3 := Int.fdiv_nonneg (by omega) (by decide)
    omega
   ·have h1 : ((n : Int) - 102).fdiv 3 ≤ 2 := by
     rw [Int.fdiv_eq_ediv_of_nonneg _ (by decide)]; omega
    rw [List.length_append, List.length_singleton, Int.pow_succ]; omega
 ·rintro ρ2 _ ⟨rfl, p, o, d, t, hlt, hx, rfl, hp, h0, h3⟩ hn
  obtain rfl : t = [] := by cases t with | nil => rfl | cons n t => cases hx
  refine S_nil (Then.nx ?_)
  walk_at "W"
  rw [show p = plc 0 l from hp]
  exact ⟨_, .refl _, hΨ⟩
def dress (n : Nat) : List Nat := if n = 102 then [92, 41] else if n = 105 then [34, 40, 34] else if n = 108 then [92, 92] else [n]
def mail (l : List Nat) : List Nat := (l.map dress).flatten
abbrev dressKV : List (Str × SV) := [(Str.ofString "f", .str (Str.ofString "\\)")), (Str.ofString "i", .str (Str.ofString "\"(\"")), (Str.ofString "l", .str (Str.ofString "\\\\")), (Str.ofString "(", .str (Str.ofString "(")), (Str.ofString ")", .str (Str.ofString ")"))]
def lawSigns : List Nat := [102, 105, 108, 40, 41]
theorem dress_kv (n : Nat) (h : n ∈ lawSigns) : dressKV.lookup (tx [n]) = some (tS (dress n)) := by
 simp only [lawSigns, List.mem_cons, List.not_mem_nil, or_false] at h
 rcases h with rfl | rfl | rfl | rfl | rfl <;> kernel_rfl
theorem dress_len (n : Nat) : (dress n).length ≤ 3 := by unfold dress; repeat (first | split | simp)
theorem mail_len : ∀ l : List Nat, (mail l).length ≤ 3 * l.length
 | [] => by simp [mail]
 | n :: l => by
  have h1 := dress_len n
  have h2 := mail_len l
  unfold mail at *
  simp only [List.map_cons, List.flatten_cons, List.length_append, List.length_cons]; omega
theorem mail_call {c : Cx} (Fc : Fns c) {A : Around} {K : List Fact} {l : List Nat} {Ψ : SV → List Fact → Prop} (hr : Room A 3) (hl : l.length ≤ 2 ^ 7) (hd : ∀ n ∈ l, n ∈ lawSigns) (hΨ : Ψ (tS (mail l)) K) : TCall c A K (.ref 212) [tS l] Ψ := by
 obtain ⟨o, pm, cd, F⟩ := Fc.f_law_mail
 have hT := Fc.tops
 refine call_defC F (pc_law_mail _ _) (ρ0 := [("text", some (tS l))]) (γ0 := [("dresses", none)]) rfl (hr.le (by omega)) (by simp [binds]) (by simp [binds]) rfl rfl fun L hG hC hK => ?_
 have hr' := hr.deeper (callEnvC (fd (st 24) "_law_mail" 3 pm (.ref cd) 0) L 212)
 refine S_cons ?_
 walk_at "W"
 rename_i dd
 refine Then.nx ?_
 walk_at "W"
 refine E_ListComp (cl := [("dresses", L + 1)]) (xs0 := ["sign"]) (by walk_at "comp") ?_ (by intro _; rfl)
 walk_at "W"
 refine CompI.strT hr'.hh l (fun n => [tS (dress n)]) (by omega) ?_ ?_
 ·intro C D G acc n hn ρc hρ
  obtain ⟨o1, rfl⟩ := names1 hρ
  have hkv := dress_kv n (hd n hn)
  refine U1.sees [("dresses", L + 1)] [] (by walk_at "cells") (by walk_at "globs") fun hC2 hG2 => ?_
  walk_at "W"
  walk_at "pick"
 ·intro D
  have hml := mail_len l
  rw [flatT]
  walk_at "W"
  refine x_joinL lit_e (by walk_at "mem") (show (mail l).length ≤ _ by omega) ?_
  exact ⟨K, by walk_at "subl", hΨ⟩
theorem figs_fval (w : Nat) : ∀ ds : List Int, (∀ d ∈ ds, 0 ≤ d ∧ d < 2 ^ w) → figs (fval w ds) w ds.length = ds
 | [], _ => rfl
 | d :: ds, h => by
  have h1 := h d List.mem_cons_self
  have hp : (0 : Int) < 2 ^ w := Int.pow_pos (by decide)
  simp only [List.length_cons, figs, fval]
  rw [Int.add_mul_emod_self_left, Int.emod_eq_of_lt h1.1 h1.2, Int.add_mul_ediv_left _ _ (by omega), Int.ediv_eq_zero_of_lt h1.1 h1.2, Int.zero_add, figs_fval w ds fun x hx => h x (List.mem_cons_of_mem _ hx)]
theorem fval_pos (w : Nat) : ∀ ds : List Int, (∀ d ∈ ds, 0 ≤ d ∧ d < 2 ^ w) → 0 ≤ fval w ds ∧ fval w ds < 2 ^ (w * ds.length)
 | [], _ => by simp [fval]
 | d :: ds, h => by
  have h1 := h d List.mem_cons_self
  have h2 := fval_pos w ds fun x hx => h x (List.mem_cons_of_mem _ hx)
  have hp : (0 : Int) < 2 ^ w := Int.pow_pos (by decide)
  have e : (2 : Int) ^ (w * (d :: ds).length) = 2 ^ w * 2 ^ (w * ds.length) := by rw [← Int.pow_add, List.length_cons]; congr 1; rw [Nat.mul_succ, Nat.add_comm]
  rw [e]
  simp only [fval]
  have h3 := Int.mul_nonneg (Int.le_of_lt hp) h2.1
  have h4 : 2 ^ w * (fval w ds + 1) ≤ 2 ^ w * 2 ^ (w * ds.length) := Int.mul_le_mul_of_nonneg_left (by omega) (by omega)
  rw [Int.mul_add] at h4
  exact ⟨by omega, by omega⟩
theorem fval_low (w : Nat) : ∀ (ds : List Int), (∀ d ∈ ds, 1 ≤ d ∧ d < 2 ^ w) → ds ≠ [] → (2 : Int) ^ (w * (ds.length - 1)) ≤ fval w ds
 | [], _, h => absurd rfl h
 | [d], h, _ => by have := h d List.mem_cons_self; simp [fval]; omega
 | d :: e :: ds, h, _ => by
  have h1 := h d List.mem_cons_self
  have h2 := fval_low w (e :: ds) (fun x hx => h x (List.mem_cons_of_mem _ hx)) (by simp)
  have hp : (0 : Int) < 2 ^ w := Int.pow_pos (by decide)
  have e2 : (2 : Int) ^ (w * ((d :: e :: ds).length - 1)) = 2 ^ w * 2 ^ (w * ((e :: ds).length - 1)) := by rw [← Int.pow_add]; congr 1; simp only [List.length_cons]; rw [show ds.length + 1 + 1 - 1 = (ds.length + 1 - 1) + 1 by omega, Nat.mul_succ, Nat.add_comm]
  rw [e2]
  have h3 := Int.mul_le_mul_of_nonneg_left h2 (Int.le_of_lt hp)
  show _ ≤ d + 2 ^ w * fval w (e :: ds)
  omega
theorem cnt_fval {w : Nat} (hw : 1 ≤ w) {ds : List Int} (h : ∀ d ∈ ds, 1 ≤ d ∧ d < 2 ^ w) (h0 : ds ≠ []) : cnt (fval w ds) w = ds.length := by
 have h1 := fval_pos w ds fun d hd => ⟨by have := h d hd; omega, (h d hd).2⟩
 have h2 := fval_low w ds h h0
 have b1 := bits_of_lt h1.1 h1.2
 have b2 := lt_of_bits h1.1
 have b3 : w * (ds.length - 1) < Builtin.Int.intBits (fval w ds) := by
  have : (2 : Int) ^ (w * (ds.length - 1)) < 2 ^ Builtin.Int.intBits (fval w ds) := by omega
  exact (Nat.pow_lt_pow_iff_right (a := 2) (by decide)).mp (by exact_mod_cast this)
 have hpos : 0 < ds.length := List.length_pos_iff.mpr h0
 unfold cnt
 generalize Builtin.Int.intBits (fval w ds) = b at *
 obtain ⟨n, hn⟩ : ∃ n, ds.length = n + 1 := ⟨ds.length - 1, by omega⟩
 have b3' : w * n < b := by rw [hn] at b3; exact b3
 have b1' : b ≤ w * n + w := by rw [hn, Nat.mul_succ] at b1; exact b1
 rw [hn]
 apply Nat.div_eq_of_lt_le
 ·rw [Nat.mul_comm, Nat.mul_succ]; omega
 ·rw [Nat.mul_comm, Nat.mul_succ, Nat.mul_succ]; omega
theorem fval_add (w : Nat) (h : Int) : ∀ cs : List Int, fval w cs + fval w (List.replicate cs.length h) = fval w (cs.map (· + h))
 | [] => by simp [fval]
 | x :: cs => by
  have := fval_add w h cs
  simp only [List.length_cons, List.replicate_succ, List.map_cons, fval]
  rw [← this, Int.mul_add]; omega
theorem figures_call {c : Cx} (Fc : Fns c) {A : Around} {K : List Fact} {cs : List Int} {w : Nat} {Ψ : SV → List Fact → Prop} (hr : Room A 16) (hw : 2 ≤ w) (hw2 : w ≤ 2 ^ 7) (hl : cs.length ≤ 2 ^ 8) (h0 : cs ≠ []) (hc : ∀ x ∈ cs, -(2 ^ (w - 1)) < x ∧ x < 2 ^ (w - 1))
  (hΨ : ∀ d, Ψ (.ref d) (FList d (ivs cs) :: K)) : TCall c A K (.ref 217) [.int (fval w cs), .int cs.length, .int w] Ψ := by
 obtain ⟨o, pm, cd, F⟩ := Fc.f_law_figures
 obtain ⟨ti, _, _, _, oi, pmi, Fi⟩ := Fc.f_int2digits
 obtain ⟨td, _, _, _, od, pmd, Fd⟩ := Fc.f_digits2int
 have hT := Fc.tops
 refine call_defC F (pc_law_figures _ _) (ρ0 := [("number", some (.int (fval w cs))), ("places", some (.int cs.length)), ("width", some (.int w))]) (γ0 := [("half", none)]) rfl (hr.le (by omega)) (by simp [binds]) (by simp [binds]) rfl rfl fun L hG hC hK => ?_
 have hr' := hr.deeper (callEnvC (fd (st 25) "_law_figures" 3 pm (.ref cd) 0) L 217)
 have hw1 : (0 : Int) ≤ (w : Int) - 1 := by omega
 have hw3 : (Builtin.Int.intBits 1 : Int) + ((w : Int) - 1) ≤ 2 ^ 27 := by
  have : Builtin.Int.intBits 1 ≤ 1 := bits_of_lt (by decide) (by decide)
  omega
 have hhalf : (1 : Int) * 2 ^ ((w : Int) - 1).toNat = 2 ^ (w - 1) := by rw [Int.one_mul]; congr 1; omega
 have hpw : (2 : Int) ^ w = 2 * 2 ^ (w - 1) := by obtain ⟨v, rfl⟩ : ∃ v, w = v + 1 := ⟨w - 1, by omega⟩; rw [Nat.add_sub_cancel, Int.pow_succ, Int.mul_comm]
 refine S_cons ?_
 walk_at "W"
 rw [hhalf]
 generalize hh : (2 : Int) ^ (w - 1) = half at *
 refine Then.nx ?_
 walk_at "W"
 refine E_ListComp (cl := [("half", L + 1)]) (xs0 := ["figure"]) (by walk_at "comp") ?_ (by intro _; rfl)
 walk_at "W"
 rename_i d0 d1
 have e0 : (List.replicate ((cs.length : Nat) : Int).toNat [SV.int half]).flatten = ivs (List.replicate cs.length half) := by rw [Int.toNat_natCast]; simp [ivs]
 rw [e0]
 have hhp : 2 ≤ half := by
  rw [← hh]
  obtain ⟨v, rfl⟩ : ∃ v, w = v + 2 := ⟨w - 2, by omega⟩
  have : (0 : Int) < 2 ^ v := Int.pow_pos (by decide)
  rw [show v + 2 - 1 = v + 1 by omega, Int.pow_succ]; omega
 have hds : ∀ d ∈ cs.map (· + half), 1 ≤ d ∧ d < 2 ^ w := by
  intro d hd
  obtain ⟨x, hx, rfl⟩ := List.mem_map.mp hd
  have := hc x hx
  constructor <;> omega
 have hds0 : cs.map (· + half) ≠ [] := by simpa using h0
 have hfp := fval_pos w (cs.map (· + half)) fun d hd => ⟨by have := hds d hd; omega, (hds d hd).2⟩
 have hcnt := cnt_fval (w := w) (by omega) hds hds0
 have hwl : w * cs.length ≤ 2 ^ 7 * 2 ^ 8 := Nat.mul_le_mul hw2 hl
 refine digits2int Fc (ds := List.replicate cs.length half) (n := w) (B := w) (hr'.le (by omega)) (by walk_at "mem") ?_ (by simp; omega) ?_ (Fx.mk ?_)
 ·intro d hd
  rw [(List.mem_replicate.mp hd).2]
  have : (half.natAbs : Int) < 2 ^ w := by omega
  exact_mod_cast this
 ·rw [List.length_replicate, Nat.add_mul]; omega
 walk_at "W"
 rw [fval_add]
 refine TCall.new1 (fun Ψ hΨ => int2digits Fc (x := fval w (cs.map (· + half))) (n := w) (hr'.le (by omega)) hfp.1 (by omega) ?_ (by rw [hcnt]; simp; omega) hΨ) fun d2 => ?_
 ·have := bits_of_lt hfp.1 hfp.2
  rw [List.length_map] at this
  omega
 have hfg : figs (fval w (cs.map (· + half))) w (cnt (fval w (cs.map (· + half))) w) = cs.map (· + half) := by
  rw [hcnt]; exact figs_fval w _ fun d hd => ⟨by have := hds d hd; omega, (hds d hd).2⟩
 rw [hfg]
 refine CompI.listT hr'.hh (cs.map (· + half)) SV.int List.mem_cons_self (fun x => [SV.int (x - half)]) (by simp; omega) ?_ ?_
 ·intro C D G acc n hn ρc hρ
  obtain ⟨o1, rfl⟩ := names1 hρ
  refine U1.sees [("half", L + 1)] [] (by walk_at "cells") (by walk_at "globs") fun hC2 hG2 => ?_
  walk_at "W"
  walk_at "pick"
 ·intro D
  rw [flatI]
  have : (cs.map (fun x => x + half)).map (fun x => x - half) = cs := by
   rw [List.map_map]
   conv => rhs; rw [← List.map_id cs]
   apply List.map_congr_left
   intro x _
   simp only [Function.comp_def, id_eq]
   omega
  rw [this]
  exact ⟨_, .cons_cons _ (.cons _ (.cons _ (.cons _ (.cons _ (.refl _))))), hΨ D⟩
theorem sub_take {α : Type} (l : List α) (k : Nat) : sub l none (some k) = l.take k := by
 unfold sub slo shi cl
 simp only [List.drop_zero, Nat.sub_zero]
 have : ¬ ((k : Int) < 0) := by omega
 simp only [this, if_false]
 rw [List.take_eq_take_iff]; omega
theorem sub_drop {α : Type} (l : List α) (k : Nat) : sub l (some k) none = l.drop k := by
 unfold sub slo shi cl
 have : ¬ ((k : Int) < 0) := by omega
 simp only [this, if_false]
 rw [List.take_of_length_le (by simp)]
 by_cases h : k ≤ l.length
 ·congr 1; omega
 ·rw [List.drop_eq_nil_of_le (by omega), List.drop_eq_nil_of_le (by omega)]
def lig (two : List Nat) : Nat := if two = [102, 102] then 64256 else if two = [102, 105] then 64257 else 64258
def shft (k : Int) : Int := ([0, -32, 119711] : List Int).getD k.toNat 0
def sgn (c : Nat) (ch : Int) : Nat := ((c : Int) + (if c ∈ [102, 105, 108] then shft (ch.fmod 3) else 0)).toNat
def b1List : List Nat := [173, 847, 6150, 6155, 6156, 6157, 8203, 8204, 8205, 8288, 65024, 65039, 65279]
def hid (ch w : Int) : List Nat := if ch.fmod 5 == 2 then [b1List.getD (w.fmod 13).toNat 0] else []
def typ : List Nat → Int → List Nat
 | [], _ => []
 | [c], way => [sgn c (way.fmod 8)] ++ hid (way.fmod 8) (way.fdiv 8)
 | c :: d :: r, way => if way.fmod 8 < 5 ∧ [c, d] ∈ ([[102, 102], [102, 105], [102, 108]] : List (List Nat)) then [lig [c, d]] ++ hid (way.fmod 8) (way.fdiv 8) ++ typ r (way.fdiv 8)
   else [sgn c (way.fmod 8)] ++ hid (way.fmod 8) (way.fdiv 8) ++ typ (d :: r) (way.fdiv 8)
theorem typ_eq (t : List Nat) (way : Int) (h : t ≠ []) : typ t way = if way.fmod 8 < 5 ∧ t.take 2 ∈ ([[102, 102], [102, 105], [102, 108]] : List (List Nat)) then [lig (t.take 2)] ++ hid (way.fmod 8) (way.fdiv 8) ++ typ (t.drop 2) (way.fdiv 8)
   else [sgn (t.headD 0) (way.fmod 8)] ++ hid (way.fmod 8) (way.fdiv 8) ++ typ (t.drop 1) (way.fdiv 8) := by
 match t, h with
 | [c], _ =>
  rw [if_neg (by simp)]
  simp [typ]
 | c :: d :: r, _ => rfl
abbrev ligKV : List (Str × SV) := [(Str.ofString "ff", .int 64256), (Str.ofString "fi", .int 64257), (Str.ofString "fl", .int 64258)]
theorem lig_kv (t : List Nat) (h : t ∈ ([[102, 102], [102, 105], [102, 108]] : List (List Nat))) : ligKV.lookup (tx t) = some (.int (lig t)) := by
 simp only [List.mem_cons, List.not_mem_nil, or_false] at h
 rcases h with rfl | rfl | rfl <;> kernel_rfl
theorem lit_fil : lit "fil" = [102, 105, 108] := by decide +kernel
theorem lits2 : [SV.str (tx (lit "ff")), .str (tx (lit "fi")), .str (tx (lit "fl"))] = ([[102, 102], [102, 105], [102, 108]] : List (List Nat)).map tS := by
 have h1 : lit "ff" = [102, 102] := by decide +kernel
 have h2 : lit "fi" = [102, 105] := by decide +kernel
 have h3 : lit "fl" = [102, 108] := by decide +kernel
 rw [h1, h2, h3]; rfl
theorem any_txs (ds : List (List Nat)) (x : List Nat) : ((ds.map fun t => PyData.str (tx t)).any fun y => PyData.eqv y (.str (tx x))) = decide (x ∈ ds) := by
 rw [List.any_map]
 rw [Bool.eq_iff_iff]
 simp only [List.any_eq_true, Function.comp_def, PyData.eqv, tx_beq', beq_iff_eq, decide_eq_true_eq]
 constructor
 ·rintro ⟨y, hy, rfl⟩; exact hy
 ·intro h; exact ⟨x, h, rfl⟩
theorem shft_mem (ch : Int) : shft (ch.fmod 3) = 0 ∨ shft (ch.fmod 3) = -32 ∨ shft (ch.fmod 3) = 119711 := by
 have h0 : 0 ≤ ch.fmod 3 := Int.fmod_nonneg_of_pos _ (by decide)
 have h3 : ch.fmod 3 < 3 := Int.fmod_lt_of_pos _ (by decide)
 unfold shft
 have : (ch.fmod 3).toNat < 3 := by omega
 generalize (ch.fmod 3).toNat = i at this
 match i, this with
 | 0, _ => exact .inl rfl
 | 1, _ => exact .inr (.inl rfl)
 | 2, _ => exact .inr (.inr rfl)
theorem sgn_ok (n : Nat) (ch : Int) (h : n ∈ lawSigns) : (n : Int) + (if n ∈ [102, 105, 108] then shft (ch.fmod 3) else 0) = (sgn n ch : Int) ∧ (sgn n ch : Int) ≤ 1114111 := by
 simp only [lawSigns, List.mem_cons, List.not_mem_nil, or_false] at h
 unfold sgn
 rcases shft_mem ch with e | e | e <;> rw [e] <;> rcases h with rfl | rfl | rfl | rfl | rfl <;> decide
set_option maxHeartbeats 2000000 in
theorem typed_call {c : Cx} (Fc : Fns c) {A : Around} {K : List Fact} {l : List Nat} {way : Int} {Ψ : SV → List Fact → Prop} (hr : Room A 4) (hl : l.length ≤ 2 ^ 7) (hd : ∀ n ∈ l, n ∈ lawSigns) (hΨ : Ψ (tS (typ l way)) K) : TCall c A K (.ref 202) [tS l, .int way] Ψ := by
 obtain ⟨o, pm, cd, F⟩ := Fc.f_law_typed
 have hT := Fc.tops
 refine call_fn F (p_law_typed _ _) rfl (hr.le (by omega)) fun L hG => ?_
 have hr' := hr.deeper (fnEnv (fd (st 22) "_law_typed" 3 pm (.ref cd) 0) 202 L)
 show TS c _ _ [("text", some (tS l)), ("way", some (.int way)), ("word", none), ("choice", none)] K _ _
 refine S_cons ?_
 walk_at "W"
 rw [lit_e]
 refine Then.nx (S_cons ?_)
 refine S_While (fun m ρ1 K1 => K.Sublist K1 ∧ ∃ t w word ch, m = t.length ∧ ρ1 = ([("text", some (tS t)), ("way", some (.int w)), ("word", some (tS word)), ("choice", ch)] : Loc) ∧ word ++ typ t w = typ l way ∧ word.length + 2 * t.length ≤ 2 * l.length ∧ (∀ n ∈ t, n ∈ lawSigns)) l.length ⟨.refl _, l, way, [], none, rfl, rfl, rfl, by simp, hd⟩ ?_
 rintro m ρ1 K1 ⟨hs, t, w, word, ch, rfl, rfl, ht, hlen, hdt⟩ hn
 walk_at "W"
 rw [lit_e]
 refine ⟨fun hb => ?_, fun hb => ?_⟩
 ·have hne : t ≠ [] := by simpa using hb
  have hlt : t.length ≤ l.length := by omega
  have htp : 0 < t.length := List.length_pos_iff.mpr hne
  rw [typ_eq t w hne] at ht
  refine S_cons ?_
  walk_at "W"
  refine Then.nx (S_cons ?_)
  have hm0 : 0 ≤ w.fmod 8 := Int.fmod_nonneg_of_pos _ (by decide)
  have hm8 : w.fmod 8 < 8 := Int.fmod_lt_of_pos _ (by decide)
  generalize hch : w.fmod 8 = cho at *
  generalize hw' : w.fdiv 8 = w' at *
  walk_at "W"
  refine ⟨fun hb1 => ?_, fun hb1 => ?_⟩
  ·have hb1 : cho < 5 := by simpa using hb1
   walk_at "W"
   rw [show sub t none (some 2) = t.take 2 from sub_take t 2]
   refine o_inD (ds := ([[102, 102], [102, 105], [102, 108]] : List (List Nat)).map fun t => .str (tx t)) (.str _) (.list (by walk_at "mem") (by rw [lits2]; exact DRs.txs _)) (.txt fun k hk => ?_) (.list (.txts (by decide))) ?_
   ·have := hdt k (List.mem_of_mem_take hk)
    simp only [lawSigns, List.mem_cons, List.not_mem_nil, or_false] at this
    omega
   rw [any_txs]
   walk_at "W"
   refine ⟨fun hb2 => ?_, fun hb2 => ?_⟩
   ·have hlig : t.take 2 ∈ ([[102, 102], [102, 105], [102, 108]] : List (List Nat)) := of_decide_eq_true hb2
    rw [if_pos ⟨hb1, hlig⟩] at ht
    walk_at "W"
    refine ⟨fun _ => ?_, (fun h => nomatch h)⟩
    walk_at "W"
    rw [show sub t none (some 2) = t.take 2 from sub_take t 2]
    refine i_dict (by walk_at "mem") (lig_kv _ hlig) ?_ (by intros; with_unfolding_all rfl)
    have hlg : (lig (t.take 2) : Int) ≤ 1114111 := by unfold lig; repeat (first | split | decide)
    have hlg0 : (0 : Int) ≤ (lig (t.take 2) : Int) := Int.natCast_nonneg _
    walk_at "W"
    rw [Int.toNat_natCast]
    have hlen1 : word.length + [lig (t.take 2)].length ≤ 2 ^ 24 := by simp; omega
    walk_at "W"
    refine Then.nx ?_
    walk_at "W"
    rw [show sub t (some 2) none = t.drop 2 from sub_drop t 2]
    walk_at "W"
    refine Then.nx ?_
    walk_at "W"
    refine ⟨fun hb5 => ?_, fun hb5 => ?_⟩
    ·have hi0 : 0 ≤ w'.fmod 13 := Int.fmod_nonneg_of_pos _ (by decide)
     have hi1 : w'.fmod 13 < 13 := Int.fmod_lt_of_pos _ (by decide)
     have hsel : (([173, 847, 6150, 6155, 6156, 6157, 8203, 8204, 8205, 8288, 65024, 65039, 65279] : List Int).map SV.int)[(w'.fmod 13).toNat]? = some (.int ((b1List.getD (w'.fmod 13).toNat 0 : Nat) : Int)) := by
      have : (w'.fmod 13).toNat < 13 := by omega
      generalize (w'.fmod 13).toNat = i at this
      match i, this with
      | 0, _ | 1, _ | 2, _ | 3, _ | 4, _ | 5, _ | 6, _ | 7, _ | 8, _ | 9, _ | 10, _ | 11, _ | 12, _ => rfl
     have hsel2 : ((b1List.getD (w'.fmod 13).toNat 0 : Nat) : Int) ≤ 1114111 := by
      have : (w'.fmod 13).toNat < 13 := by omega
      generalize (w'.fmod 13).toNat = i at this
      match i, this with
      | 0, _ | 1, _ | 2, _ | 3, _ | 4, _ | 5, _ | 6, _ | 7, _ | 8, _ | 9, _ | 10, _ | 11, _ | 12, _ => decide
     have hsel3 : (0 : Int) ≤ ((b1List.getD (w'.fmod 13).toNat 0 : Nat) : Int) := Int.natCast_nonneg _
     walk_at "W"
     refine i_list List.mem_cons_self hi0 hsel (by decide) ?_ (by intros; with_unfolding_all rfl)
     walk_at "W"
     have hlen2 : (word ++ [lig (t.take 2)]).length + [((b1List.getD (w'.fmod 13).toNat 0 : Nat) : Int).toNat].length ≤ 2 ^ 24 := by simp; omega
     walk_at "W"
     refine Turn.nx _ (by simp; omega) ⟨(by repeat (first | exact hs | apply List.Sublist.cons)), _, _, _, _, rfl, rfl, ?_, by simp; omega, fun n hn => hdt n (List.mem_of_mem_drop hn)⟩
     rw [← ht, hid, if_pos hb5, Int.toNat_natCast]
     simp
    ·refine S_nil ?_
     refine Turn.nx _ (by simp; omega) ⟨(by repeat (first | exact hs | apply List.Sublist.cons)), _, _, _, _, rfl, rfl, ?_, by simp; omega, fun n hn => hdt n (List.mem_of_mem_drop hn)⟩
     rw [← ht, hid, if_neg (by simp [hb5])]
     simp
   ·have hlig : ¬ t.take 2 ∈ ([[102, 102], [102, 105], [102, 108]] : List (List Nat)) := of_decide_eq_false hb2
    rw [if_neg (fun h => hlig h.2)] at ht
    refine ⟨(fun h => nomatch h), fun _ => ?_⟩
    walk_at "W"
    have hc0 : t[(0 : Int).toNat]? = some (t.headD 0) := by cases t with | nil => exact absurd rfl hne | cons a b => rfl
    refine i_str (by decide) hc0 (by omega) ?_ (by intros; with_unfolding_all rfl)
    walk_at "W"
    rw [lit_fil]
    have hs0 : 0 ≤ cho.fmod 3 := Int.fmod_nonneg_of_pos _ (by decide)
    have hs3 : cho.fmod 3 < 3 := Int.fmod_lt_of_pos _ (by decide)
    have hhd : t.headD 0 ∈ lawSigns := hdt _ (by cases t with | nil => exact absurd rfl hne | cons a b => exact List.mem_cons_self)
    obtain ⟨hsg, hsg2⟩ := sgn_ok (t.headD 0) cho hhd
    have hsg0 : (0 : Int) ≤ (sgn (t.headD 0) cho : Int) := Int.natCast_nonneg _
    have hlen1 : word.length + [sgn (t.headD 0) cho].length ≤ 2 ^ 24 := by simp; omega
    refine ⟨fun hb3 => ?_, fun hb3 => ?_⟩
    ·have hb3 : t.headD 0 ∈ [102, 105, 108] := by simpa using hb3
     rw [if_pos hb3] at hsg
     walk_at "W"
     refine i_list (xs := ([0, -32, 119711] : List Int).map SV.int) List.mem_cons_self hs0 (show _ = some (.int (shft (cho.fmod 3))) from ?_) (by decide) ?_ (by intros; with_unfolding_all rfl)
     case refine_1 =>
      unfold shft
      have : (cho.fmod 3).toNat < 3 := by omega
      generalize (cho.fmod 3).toNat = i at this
      match i, this with
      | 0, _ | 1, _ | 2, _ => rfl
     walk_at "W"
     rw [hsg]
     walk_at "W"
     rw [Int.toNat_natCast]
     walk_at "W"
     refine Then.nx ?_
     walk_at "W"
     rw [show sub t (some 1) none = t.drop 1 from sub_drop t 1]
     walk_at "W"
     refine Then.nx ?_
     walk_at "W"
     refine ⟨fun hb5 => ?_, fun hb5 => ?_⟩
     ·have hi0 : 0 ≤ w'.fmod 13 := Int.fmod_nonneg_of_pos _ (by decide)
      have hi1 : w'.fmod 13 < 13 := Int.fmod_lt_of_pos _ (by decide)
      have hsel : (([173, 847, 6150, 6155, 6156, 6157, 8203, 8204, 8205, 8288, 65024, 65039, 65279] : List Int).map SV.int)[(w'.fmod 13).toNat]? = some (.int ((b1List.getD (w'.fmod 13).toNat 0 : Nat) : Int)) := by
       have : (w'.fmod 13).toNat < 13 := by omega
       generalize (w'.fmod 13).toNat = i at this
       match i, this with
       | 0, _ | 1, _ | 2, _ | 3, _ | 4, _ | 5, _ | 6, _ | 7, _ | 8, _ | 9, _ | 10, _ | 11, _ | 12, _ => rfl
      have hsel2 : ((b1List.getD (w'.fmod 13).toNat 0 : Nat) : Int) ≤ 1114111 := by
       have : (w'.fmod 13).toNat < 13 := by omega
       generalize (w'.fmod 13).toNat = i at this
       match i, this with
       | 0, _ | 1, _ | 2, _ | 3, _ | 4, _ | 5, _ | 6, _ | 7, _ | 8, _ | 9, _ | 10, _ | 11, _ | 12, _ => decide
      have hsel3 : (0 : Int) ≤ ((b1List.getD (w'.fmod 13).toNat 0 : Nat) : Int) := Int.natCast_nonneg _
      walk_at "W"
      refine i_list List.mem_cons_self hi0 hsel (by decide) ?_ (by intros; with_unfolding_all rfl)
      walk_at "W"
      have hlen2 : (word ++ [sgn (t.headD 0) cho]).length + [((b1List.getD (w'.fmod 13).toNat 0 : Nat) : Int).toNat].length ≤ 2 ^ 24 := by simp; omega
      walk_at "W"
      refine Turn.nx _ (by simp; omega) ⟨(by repeat (first | exact hs | apply List.Sublist.cons)), _, _, _, _, rfl, rfl, ?_, by simp; omega, fun n hn => hdt n (List.mem_of_mem_drop hn)⟩
      rw [← ht, hid, if_pos hb5, Int.toNat_natCast]
      simp
     ·refine S_nil ?_
      refine Turn.nx _ (by simp; omega) ⟨(by repeat (first | exact hs | apply List.Sublist.cons)), _, _, _, _, rfl, rfl, ?_, by simp; omega, fun n hn => hdt n (List.mem_of_mem_drop hn)⟩
      rw [← ht, hid, if_neg (by simp [hb5])]
      simp
    ·have hb3 : ¬ t.headD 0 ∈ [102, 105, 108] := by simpa using hb3
     rw [if_neg hb3] at hsg
     walk_at "W"
     rw [hsg]
     walk_at "W"
     rw [Int.toNat_natCast]
     walk_at "W"
     refine Then.nx ?_
     walk_at "W"
     rw [show sub t (some 1) none = t.drop 1 from sub_drop t 1]
     walk_at "W"
     refine Then.nx ?_
     walk_at "W"
     refine ⟨fun hb5 => ?_, fun hb5 => ?_⟩
     ·have hi0 : 0 ≤ w'.fmod 13 := Int.fmod_nonneg_of_pos _ (by decide)
      have hi1 : w'.fmod 13 < 13 := Int.fmod_lt_of_pos _ (by decide)
      have hsel : (([173, 847, 6150, 6155, 6156, 6157, 8203, 8204, 8205, 8288, 65024, 65039, 65279] : List Int).map SV.int)[(w'.fmod 13).toNat]? = some (.int ((b1List.getD (w'.fmod 13).toNat 0 : Nat) : Int)) := by
       have : (w'.fmod 13).toNat < 13 := by omega
       generalize (w'.fmod 13).toNat = i at this
       match i, this with
       | 0, _ | 1, _ | 2, _ | 3, _ | 4, _ | 5, _ | 6, _ | 7, _ | 8, _ | 9, _ | 10, _ | 11, _ | 12, _ => rfl
      have hsel2 : ((b1List.getD (w'.fmod 13).toNat 0 : Nat) : Int) ≤ 1114111 := by
       have : (w'.fmod 13).toNat < 13 := by omega
       generalize (w'.fmod 13).toNat = i at this
       match i, this with
       | 0, _ | 1, _ | 2, _ | 3, _ | 4, _ | 5, _ | 6, _ | 7, _ | 8, _ | 9, _ | 10, _ | 11, _ | 12, _ => decide
      have hsel3 : (0 : Int) ≤ ((b1List.getD (w'.fmod 13).toNat 0 : Nat) : Int) := Int.natCast_nonneg _
      walk_at "W"
      refine i_list List.mem_cons_self hi0 hsel (by decide) ?_ (by intros; with_unfolding_all rfl)
      walk_at "W"
      have hlen2 : (word ++ [sgn (t.headD 0) cho]).length + [((b1List.getD (w'.fmod 13).toNat 0 : Nat) : Int).toNat].length ≤ 2 ^ 24 := by simp; omega
      walk_at "W"
      refine Turn.nx _ (by simp; omega) ⟨(by repeat (first | exact hs | apply List.Sublist.cons)), _, _, _, _, rfl, rfl, ?_, by simp; omega, fun n hn => hdt n (List.mem_of_mem_drop hn)⟩
      rw [← ht, hid, if_pos hb5, Int.toNat_natCast]
      simp
     ·refine S_nil ?_
      refine Turn.nx _ (by simp; omega) ⟨(by repeat (first | exact hs | apply List.Sublist.cons)), _, _, _, _, rfl, rfl, ?_, by simp; omega, fun n hn => hdt n (List.mem_of_mem_drop hn)⟩
      rw [← ht, hid, if_neg (by simp [hb5])]
      simp
  ·have hb1 : ¬ cho < 5 := by simpa using hb1
   rw [if_neg (fun h => hb1 h.1)] at ht
   refine ⟨(fun h => nomatch h), fun _ => ?_⟩
   walk_at "W"
   have hc0 : t[(0 : Int).toNat]? = some (t.headD 0) := by cases t with | nil => exact absurd rfl hne | cons a b => rfl
   refine i_str (by decide) hc0 (by omega) ?_ (by intros; with_unfolding_all rfl)
   walk_at "W"
   rw [lit_fil]
   have hs0 : 0 ≤ cho.fmod 3 := Int.fmod_nonneg_of_pos _ (by decide)
   have hs3 : cho.fmod 3 < 3 := Int.fmod_lt_of_pos _ (by decide)
   have hhd : t.headD 0 ∈ lawSigns := hdt _ (by cases t with | nil => exact absurd rfl hne | cons a b => exact List.mem_cons_self)
   obtain ⟨hsg, hsg2⟩ := sgn_ok (t.headD 0) cho hhd
   have hsg0 : (0 : Int) ≤ (sgn (t.headD 0) cho : Int) := Int.natCast_nonneg _
   have hlen1 : word.length + [sgn (t.headD 0) cho].length ≤ 2 ^ 24 := by simp; omega
   refine ⟨fun hb3 => ?_, fun hb3 => ?_⟩
   ·have hb3 : t.headD 0 ∈ [102, 105, 108] := by simpa using hb3
    rw [if_pos hb3] at hsg
    walk_at "W"
    refine i_list (xs := ([0, -32, 119711] : List Int).map SV.int) List.mem_cons_self hs0 (show _ = some (.int (shft (cho.fmod 3))) from ?_) (by decide) ?_ (by intros; with_unfolding_all rfl)
    case refine_1 =>
     unfold shft
     have : (cho.fmod 3).toNat < 3 := by omega
     generalize (cho.fmod 3).toNat = i at this
     match i, this with
     | 0, _ | 1, _ | 2, _ => rfl
    walk_at "W"
    rw [hsg]
    walk_at "W"
    rw [Int.toNat_natCast]
    walk_at "W"
    refine Then.nx ?_
    walk_at "W"
    rw [show sub t (some 1) none = t.drop 1 from sub_drop t 1]
    walk_at "W"
    refine Then.nx ?_
    walk_at "W"
    refine ⟨fun hb5 => ?_, fun hb5 => ?_⟩
    ·have hi0 : 0 ≤ w'.fmod 13 := Int.fmod_nonneg_of_pos _ (by decide)
     have hi1 : w'.fmod 13 < 13 := Int.fmod_lt_of_pos _ (by decide)
     have hsel : (([173, 847, 6150, 6155, 6156, 6157, 8203, 8204, 8205, 8288, 65024, 65039, 65279] : List Int).map SV.int)[(w'.fmod 13).toNat]? = some (.int ((b1List.getD (w'.fmod 13).toNat 0 : Nat) : Int)) := by
      have : (w'.fmod 13).toNat < 13 := by omega
      generalize (w'.fmod 13).toNat = i at this
      match i, this with
      | 0, _ | 1, _ | 2, _ | 3, _ | 4, _ | 5, _ | 6, _ | 7, _ | 8, _ | 9, _ | 10, _ | 11, _ | 12, _ => rfl
     have hsel2 : ((b1List.getD (w'.fmod 13).toNat 0 : Nat) : Int) ≤ 1114111 := by
      have : (w'.fmod 13).toNat < 13 := by omega
      generalize (w'.fmod 13).toNat = i at this
      match i, this with
      | 0, _ | 1, _ | 2, _ | 3, _ | 4, _ | 5, _ | 6, _ | 7, _ | 8, _ | 9, _ | 10, _ | 11, _ | 12, _ => decide
     have hsel3 : (0 : Int) ≤ ((b1List.getD (w'.fmod 13).toNat 0 : Nat) : Int) := Int.natCast_nonneg _
     walk_at "W"
     refine i_list List.mem_cons_self hi0 hsel (by decide) ?_ (by intros; with_unfolding_all rfl)
     walk_at "W"
     have hlen2 : (word ++ [sgn (t.headD 0) cho]).length + [((b1List.getD (w'.fmod 13).toNat 0 : Nat) : Int).toNat].length ≤ 2 ^ 24 := by simp; omega
     walk_at "W"
     refine Turn.nx _ (by simp; omega) ⟨(by repeat (first | exact hs | apply List.Sublist.cons)), _, _, _, _, rfl, rfl, ?_, by simp; omega, fun n hn => hdt n (List.mem_of_mem_drop hn)⟩
     rw [← ht, hid, if_pos hb5, Int.toNat_natCast]
     simp
    ·refine S_nil ?_
     refine Turn.nx _ (by simp; omega) ⟨(by repeat (first | exact hs | apply List.Sublist.cons)), _, _, _, _, rfl, rfl, ?_, by simp; omega, fun n hn => hdt n (List.mem_of_mem_drop hn)⟩
     rw [← ht, hid, if_neg (by simp [hb5])]
     simp
   ·have hb3 : ¬ t.headD 0 ∈ [102, 105, 108] := by simpa using hb3
    rw [if_neg hb3] at hsg
    walk_at "W"
    rw [hsg]
    walk_at "W"
    rw [Int.toNat_natCast]
    walk_at "W"
    refine Then.nx ?_
    walk_at "W"
    rw [show sub t (some 1) none = t.drop 1 from sub_drop t 1]
    walk_at "W"
    refine Then.nx ?_
    walk_at "W"
    refine ⟨fun hb5 => ?_, fun hb5 => ?_⟩
    ·have hi0 : 0 ≤ w'.fmod 13 := Int.fmod_nonneg_of_pos _ (by decide)
     have hi1 : w'.fmod 13 < 13 := Int.fmod_lt_of_pos _ (by decide)
     have hsel : (([173, 847, 6150, 6155, 6156, 6157, 8203, 8204, 8205, 8288, 65024, 65039, 65279] : List Int).map SV.int)[(w'.fmod 13).toNat]? = some (.int ((b1List.getD (w'.fmod 13).toNat 0 : Nat) : Int)) := by
      have : (w'.fmod 13).toNat < 13 := by omega
      generalize (w'.fmod 13).toNat = i at this
      match i, this with
      | 0, _ | 1, _ | 2, _ | 3, _ | 4, _ | 5, _ | 6, _ | 7, _ | 8, _ | 9, _ | 10, _ | 11, _ | 12, _ => rfl
     have hsel2 : ((b1List.getD (w'.fmod 13).toNat 0 : Nat) : Int) ≤ 1114111 := by
      have : (w'.fmod 13).toNat < 13 := by omega
      generalize (w'.fmod 13).toNat = i at this
      match i, this with
      | 0, _ | 1, _ | 2, _ | 3, _ | 4, _ | 5, _ | 6, _ | 7, _ | 8, _ | 9, _ | 10, _ | 11, _ | 12, _ => decide
     have hsel3 : (0 : Int) ≤ ((b1List.getD (w'.fmod 13).toNat 0 : Nat) : Int) := Int.natCast_nonneg _
     walk_at "W"
     refine i_list List.mem_cons_self hi0 hsel (by decide) ?_ (by intros; with_unfolding_all rfl)
     walk_at "W"
     have hlen2 : (word ++ [sgn (t.headD 0) cho]).length + [((b1List.getD (w'.fmod 13).toNat 0 : Nat) : Int).toNat].length ≤ 2 ^ 24 := by simp; omega
     walk_at "W"
     refine Turn.nx _ (by simp; omega) ⟨(by repeat (first | exact hs | apply List.Sublist.cons)), _, _, _, _, rfl, rfl, ?_, by simp; omega, fun n hn => hdt n (List.mem_of_mem_drop hn)⟩
     rw [← ht, hid, if_pos hb5, Int.toNat_natCast]
     simp
    ·refine S_nil ?_
     refine Turn.nx _ (by simp; omega) ⟨(by repeat (first | exact hs | apply List.Sublist.cons)), _, _, _, _, rfl, rfl, ?_, by simp; omega, fun n hn => hdt n (List.mem_of_mem_drop hn)⟩
     rw [← ht, hid, if_neg (by simp [hb5])]
     simp
 ·have hne : t = [] := by simpa using hb
  subst hne
  refine S_nil (Then.nx ?_)
  walk_at "W"
  have : word = typ l way := by simpa [typ] using ht
  rw [this]
  exact ⟨K, hs, hΨ⟩
inductive Tr where
 | leaf (n : Nat)
 | node (a b : Tr)
def Tr.word : Tr → List Nat
 | .leaf n => [n]
 | .node a b => a.word ++ b.word
def Tr.text : Tr → List Nat
 | .leaf n => [n]
 | .node a b => [40] ++ a.text ++ b.text ++ [41]
abbrev Tm := Int × List Nat
def Tr.pairs (x y : List Tm) : List (Int × List Nat × List Nat) := x.flatMap fun t => y.map fun u => (t.1 * u.1, t.2, u.2)
def Tr.terms : Tr → List Tm
 | .leaf n => [(1, [n])]
 | .node a b => (Tr.pairs a.terms b.terms).map (fun p => (p.1, p.2.1 ++ p.2.2)) ++ (Tr.pairs a.terms b.terms).map (fun p => (-p.1, p.2.2 ++ p.2.1))
def Tr.of : Nat → List Nat → Int → Tr
 | 0, l, _ => .leaf (l.headD 0)
 | k + 1, l, way => if l.length ≤ 1 then .leaf (l.headD 0) else
   .node (Tr.of k (l.take (1 + way.fmod ((l.length : Int) - 1)).toNat) (way.fdiv 3)) (Tr.of k (l.drop (1 + way.fmod ((l.length : Int) - 1)).toNat) (way.fdiv 9))
theorem take_ne {α : Type} {l : List α} {n : Nat} (h : 1 ≤ n) (hl : 1 ≤ l.length) : l.take n ≠ [] := by
 intro e; have := congrArg List.length e; rw [List.length_take, List.length_nil] at this; omega
theorem drop_ne {α : Type} {l : List α} {n : Nat} (hl : n < l.length) : l.drop n ≠ [] := by
 intro e; have := congrArg List.length e; rw [List.length_drop, List.length_nil] at this; omega
theorem Tr.of_word : ∀ (k : Nat) (l : List Nat) (way : Int), l ≠ [] → l.length ≤ k + 1 → (Tr.of k l way).word = l
 | 0, l, way, h, hl => by
  match l, h with
  | [n], _ => rfl
  | _ :: _ :: _, _ => simp at hl
 | k + 1, l, way, h, hl => by
  unfold Tr.of
  split
  ·match l, h with
   | [n], _ => rfl
   | _ :: _ :: _, _ => rename_i h2; simp at h2
  ·rename_i h2
   have h0 : 0 ≤ way.fmod ((l.length : Int) - 1) := Int.fmod_nonneg_of_pos _ (by omega)
   have h1 : way.fmod ((l.length : Int) - 1) < (l.length : Int) - 1 := Int.fmod_lt_of_pos _ (by omega)
   generalize hc : (1 + way.fmod ((l.length : Int) - 1)).toNat = n
   simp only [Tr.word]
   rw [Tr.of_word k (l.take n) _ (take_ne (by omega) (by omega)) (by rw [List.length_take]; omega), Tr.of_word k (l.drop n) _ (drop_ne (by omega)) (by rw [List.length_drop]; omega), List.take_append_drop]
def Tr.leaves : Tr → Nat
 | .leaf _ => 1
 | .node a b => a.leaves + b.leaves
theorem Tr.word_len : ∀ t : Tr, t.word.length = t.leaves
 | .leaf _ => rfl
 | .node a b => by simp only [Tr.word, Tr.leaves, List.length_append, a.word_len, b.word_len]
theorem Tr.leaves_pos : ∀ t : Tr, 1 ≤ t.leaves
 | .leaf _ => Nat.le_refl _
 | .node a b => by have := a.leaves_pos; have := b.leaves_pos; simp only [Tr.leaves]; omega
theorem Tr.text_len : ∀ t : Tr, t.text.length + 2 = 3 * t.leaves
 | .leaf _ => rfl
 | .node a b => by have := a.text_len; have := b.text_len; simp only [Tr.text, Tr.leaves, List.length_append, List.length_singleton]; omega
theorem Tr.pairs_len (x y : List Tm) : (Tr.pairs x y).length = x.length * y.length := by
 induction x with
 | nil => simp [Tr.pairs]
 | cons a x ih =>
  unfold Tr.pairs at *
  rw [List.flatMap_cons, List.length_append, ih, List.length_map, List.length_cons, Nat.succ_mul, Nat.add_comm]
theorem Tr.terms_len : ∀ t : Tr, 2 * t.terms.length = 2 ^ t.leaves
 | .leaf _ => rfl
 | .node a b => by
  have h1 := a.terms_len
  have h2 := b.terms_len
  have : (Tr.node a b).terms.length = 2 * (a.terms.length * b.terms.length) := by
   simp only [Tr.terms, List.length_append, List.length_map, Tr.pairs_len]; omega
  rw [this, Tr.leaves, Nat.pow_add, ← h1, ← h2]
  rw [Nat.mul_mul_mul_comm]; omega
def tmE (t : Tm) : SV := .tup [.int t.1, tS t.2]
def trE (p : Int × List Nat × List Nat) : SV := .tup [.int p.1, tS p.2.1, tS p.2.2]
theorem Tr.terms_word : ∀ (t : Tr), ∀ u ∈ t.terms, u.2.length = t.leaves
 | .leaf n, u, h => by
  obtain rfl : u = (1, [n]) := by simpa [Tr.terms] using h
  rfl
 | .node a b, u, h => by
  simp only [Tr.terms, List.mem_append, List.mem_map, Tr.pairs, List.mem_flatMap] at h
  rcases h with ⟨p, ⟨x, hx, y, hy, rfl⟩, rfl⟩ | ⟨p, ⟨x, hx, y, hy, rfl⟩, rfl⟩
  ·simp only [List.length_append, a.terms_word x hx, b.terms_word y hy, Tr.leaves]
  ·simp only [List.length_append, a.terms_word x hx, b.terms_word y hy, Tr.leaves]; omega
theorem Tr.terms_pm : ∀ (t : Tr), ∀ u ∈ t.terms, u.1 = 1 ∨ u.1 = -1
 | .leaf n, u, h => by
  obtain rfl : u = (1, [n]) := by simpa [Tr.terms] using h
  exact .inl rfl
 | .node a b, u, h => by
  simp only [Tr.terms, List.mem_append, List.mem_map, Tr.pairs, List.mem_flatMap] at h
  rcases h with ⟨p, ⟨x, hx, y, hy, rfl⟩, rfl⟩ | ⟨p, ⟨x, hx, y, hy, rfl⟩, rfl⟩ <;> rcases a.terms_pm x hx with e1 | e1 <;> rcases b.terms_pm y hy with e2 | e2 <;> simp [e1, e2]
theorem lit_lp : lit "(" = [40] := by decide +kernel
theorem lit_rp : lit ")" = [41] := by decide +kernel
set_option maxHeartbeats 1000000 in
theorem drawn_call {c : Cx} (Fc : Fns c) : ∀ (k : Nat) {A : Around} {K : List Fact} {l : List Nat} {way : Int} {Ψ : SV → List Fact → Prop}, Room A (k + 4) → l ≠ [] → l.length ≤ k + 1 → l.length ≤ 4 →
  (∀ d, Ψ (.tup [tS (Tr.of k l way).text, .ref d]) (FList d ((Tr.of k l way).terms.map tmE) :: K)) → TCall c A K (.ref 195) [tS l, .int way] Ψ := by
 intro k
 induction k with
 | zero =>
  intro A K l way Ψ hr hne hl hl4 hΨ
  obtain ⟨o, pm, cd, F⟩ := Fc.f_law_drawn
  have hT := Fc.tops
  refine call_defC F (pc_law_drawn _ _) (ρ0 := [("letters", some (tS l)), ("way", some (.int way)), ("cut", none), ("left", none), ("lefts", none), ("right", none), ("pairs", none)]) (γ0 := [("rights", none)]) rfl (hr.le (by omega)) (by simp [binds]) (by simp [binds]) rfl rfl fun L hG hC hK => ?_
  have hr' := hr.deeper (callEnvC (fd (st 21) "_law_drawn" 3 pm (.ref cd) 0) L 195)
  obtain ⟨n, rfl⟩ : ∃ n, l = [n] := by
   match l, hne with
   | [n], _ => exact ⟨n, rfl⟩
   | _ :: _ :: _, _ => simp at hl
  refine S_cons ?_
  walk_at "W"
  refine ⟨fun _ => ?_, fun hb => by simp at hb⟩
  walk_at "W"
  exact ⟨FList _ [.tup [.int 1, tS [n]]] :: K, by walk_at "subl", hΨ _⟩
 | succ k ih =>
  intro A K l way Ψ hr hne hl hl4 hΨ
  obtain ⟨o, pm, cd, F⟩ := Fc.f_law_drawn
  have hT := Fc.tops
  refine call_defC F (pc_law_drawn _ _) (ρ0 := [("letters", some (tS l)), ("way", some (.int way)), ("cut", none), ("left", none), ("lefts", none), ("right", none), ("pairs", none)]) (γ0 := [("rights", none)]) rfl (hr.le (by omega)) (by simp [binds]) (by simp [binds]) rfl rfl fun L hG hC hK => ?_
  have hr' := hr.deeper (callEnvC (fd (st 21) "_law_drawn" 3 pm (.ref cd) 0) L 195)
  refine S_cons ?_
  walk_at "W"
  refine ⟨fun hb => ?_, fun hb => ?_⟩
  ·obtain ⟨n, rfl⟩ : ∃ n, l = [n] := by
    have hb : (l.length : Int) = 1 := by simpa using hb
    exact List.length_eq_one_iff.mp (by omega)
   walk_at "W"
   exact ⟨FList _ [.tup [.int 1, tS [n]]] :: K, by walk_at "subl", hΨ _⟩
  ·have hb : ¬ (l.length : Int) = 1 := by simpa using hb
   have hpos : 0 < l.length := List.length_pos_iff.mpr hne
   refine S_nil (Then.nx (S_cons ?_))
   have hnz : (l.length : Int) - 1 ≠ 0 := by omega
   walk_at "W"
   refine Then.nx (S_cons ?_)
   have h0 : 0 ≤ way.fmod ((l.length : Int) - 1) := Int.fmod_nonneg_of_pos _ (by omega)
   have h1 : way.fmod ((l.length : Int) - 1) < (l.length : Int) - 1 := Int.fmod_lt_of_pos _ (by omega)
   have hof : Tr.of (k + 1) l way = .node (Tr.of k (l.take (1 + way.fmod ((l.length : Int) - 1)).toNat) (way.fdiv 3)) (Tr.of k (l.drop (1 + way.fmod ((l.length : Int) - 1)).toNat) (way.fdiv 9)) := by
    conv => lhs; unfold Tr.of
    rw [if_neg (by omega)]
   rw [hof] at hΨ
   obtain ⟨n, hn⟩ : ∃ n : Nat, 1 + way.fmod ((l.length : Int) - 1) = n := ⟨(1 + way.fmod ((l.length : Int) - 1)).toNat, by omega⟩
   rw [hn, Int.toNat_natCast] at hΨ
   rw [hn]
   walk_at "W"
   rw [show sub l none (some ↑n) = l.take n from sub_take l n]
   walk_at "W"
   have htn : l.take n ≠ [] := take_ne (by omega) (by omega)
   have hdn : l.drop n ≠ [] := drop_ne (by omega)
   have w1 : (Tr.of k (l.take n) (way.fdiv 3)).word = l.take n := Tr.of_word k _ _ htn (by rw [List.length_take]; omega)
   have w2 : (Tr.of k (l.drop n) (way.fdiv 9)).word = l.drop n := Tr.of_word k _ _ hdn (by rw [List.length_drop]; omega)
   have v1 := (Tr.of k (l.take n) (way.fdiv 3)).word_len
   have v2 := (Tr.of k (l.drop n) (way.fdiv 9)).word_len
   rw [w1, List.length_take] at v1
   rw [w2, List.length_drop] at v2
   refine TCall.newV (fun Ψ hΨ => ih (l := l.take n) (way := way.fdiv 3) (hr'.le (by omega)) htn (by rw [List.length_take]; omega) (by rw [List.length_take]; omega) hΨ) fun d1 => ?_
   generalize Tr.of k (l.take n) (way.fdiv 3) = T1 at *
   walk_at "W"
   refine Then.nx (S_cons ?_)
   walk_at "W"
   rw [show sub l (some ↑n) none = l.drop n from sub_drop l n]
   walk_at "W"
   refine TCall.newV (fun Ψ hΨ => ih (l := l.drop n) (way := way.fdiv 9) (hr'.le (by omega)) hdn (by rw [List.length_drop]; omega) (by rw [List.length_drop]; omega) hΨ) fun d2 => ?_
   generalize Tr.of k (l.drop n) (way.fdiv 9) = T2 at *
   refine G_Tuple2 ?_ rfl
   walk_at "W"
   refine G_Cell hC (by walk_at "mem") hK (by walk_at "mem") (by walk_at "chg") (by walk_at "mem") (by walk_at "put") ?_
   have t1 := T1.terms_len
   have t2 := T2.terms_len
   have p1 : 2 ^ T1.leaves ≤ 2 ^ 4 := Nat.pow_le_pow_right (by decide) (by omega)
   have p2 : 2 ^ T2.leaves ≤ 2 ^ 4 := Nat.pow_le_pow_right (by decide) (by omega)
   have m12 : T1.terms.length * T2.terms.length ≤ 8 * 8 := Nat.mul_le_mul (by omega) (by omega)
   refine Then.nx (S_cons ?_)
   refine S_AssignLC2 (α := Tm) (β := Tm) (cl := [("rights", L + 1)]) (xs0 := ["one", "front", "two", "back"]) (by walk_at "comp") ?_ rfl (by intro _; rfl) (by intro _ _; rfl)
   walk_at "W"
   refine ⟨d1, d2, T1.terms, tmE, T2.terms, tmE, fun t u => trE (t.1 * u.1, t.2, u.2), fun t ρ => ∃ o o', ρ = ([("one", some (.int t.1)), ("front", some (tS t.2)), ("two", o), ("back", o')] : Loc), rfl, ⟨hr'.hh, by walk_at "mem", by walk_at "mem", by omega, ?nm, ?out, ?inn⟩, fun D => ?_⟩
   case nm =>
    rintro t ρc ⟨o, o', rfl⟩
    rfl
   case out =>
    intro C D G acc t ht ρc hρ
    obtain ⟨o1, o2, o3, o4, rfl⟩ := names4 hρ
    refine U1.sees [("rights", L + 1)] [] (by walk_at "cells") (by walk_at "globs") fun hC2 hG2 => ?_
    unfold tmE
    walk_at "W"
    exact ⟨⟨_, _, rfl⟩, by walk_at "pick"⟩
   case inn =>
    rintro C D G G' acc t ht u hu ρc ⟨o1, o2, rfl⟩
    have hmul : IntMulOk t.1 u.1 := by rcases T1.terms_pm t ht with e | e <;> rw [e] <;> exact .of_left (by decide)
    refine U1.sees [("rights", L + 1)] [] (by walk_at "cells") (by walk_at "globs") fun hC2 hG2 => ?_
    unfold tmE
    walk_at "W"
    exact ⟨⟨_, _, rfl⟩, by walk_at "pick"⟩
   walk_at "W"
   have hps : (T1.terms.flatMap fun t => T2.terms.map fun u => trE (t.1 * u.1, t.2, u.2)) = (Tr.pairs T1.terms T2.terms).map trE := by
    unfold Tr.pairs
    rw [List.map_flatMap]
    congr 1; funext t; rw [List.map_map]; rfl
   rw [hps]
   have hpl := Tr.pairs_len T1.terms T2.terms
   have hpw : ∀ p ∈ Tr.pairs T1.terms T2.terms, p.2.1.length ≤ 4 ∧ p.2.2.length ≤ 4 := by
    intro p hp
    simp only [Tr.pairs, List.mem_flatMap, List.mem_map] at hp
    obtain ⟨x, hx, y, hy, rfl⟩ := hp
    have := Tr.terms_word T1 x hx
    have := Tr.terms_word T2 y hy
    exact ⟨by dsimp only; omega, by dsimp only; omega⟩
   have hx1 := T1.text_len
   have hx2 := T2.text_len
   have g1 : (lit "(").length + T1.text.length ≤ 2 ^ 24 := by rw [lit_lp]; simp only [List.length_singleton]; omega
   have g2 : (lit "(" ++ T1.text).length + T2.text.length ≤ 2 ^ 24 := by rw [lit_lp]; simp only [List.length_append, List.length_singleton]; omega
   have g3 : (lit "(" ++ T1.text ++ T2.text).length + (lit ")").length ≤ 2 ^ 24 := by rw [lit_lp, lit_rp]; simp only [List.length_append, List.length_singleton]; omega
   refine Then.nx ?_
   walk_at "W"
   refine E_ListComp (cl := []) (xs0 := ["k", "u", "v"]) (by walk_at "comp") ?_ (by intro _; rfl)
   walk_at "W"
   refine CompI.listT hr'.hh (Tr.pairs T1.terms T2.terms) trE List.mem_cons_self (fun p => [tmE (p.1, p.2.1 ++ p.2.2)]) (by omega) ?_ ?_
   ·intro C D' G acc p hp ρc hρ
    obtain ⟨o1, o2, o3, rfl⟩ := names3 hρ
    have := hpw p hp
    refine U1.sees [] [] (by walk_at "cells") (by walk_at "globs") fun hC2 hG2 => ?_
    unfold trE
    walk_at "W"
    walk_at "pick"
   ·intro D1
    rw [flat1]
    walk_at "W"
    refine E_ListComp (cl := []) (xs0 := ["k", "u", "v"]) (by walk_at "comp") ?_ (by intro _; rfl)
    walk_at "W"
    refine CompI.listT hr'.hh (Tr.pairs T1.terms T2.terms) trE (.tail _ (.head _)) (fun p => [tmE (-p.1, p.2.2 ++ p.2.1)]) (by omega) ?_ ?_
    ·intro C D' G acc p hp ρc hρ
     obtain ⟨o1, o2, o3, rfl⟩ := names3 hρ
     have := hpw p hp
     refine U1.sees [] [] (by walk_at "cells") (by walk_at "globs") fun hC2 hG2 => ?_
     unfold trE
     walk_at "W"
     walk_at "pick"
    ·intro D2
     rw [flat1]
     refine o_addL (.tail _ (.head _)) (.head _) (by simp only [List.length_map]; omega) fun d => ?_
     walk_at "W"
     rw [lit_lp, lit_rp]
     refine ⟨FList d ((Tr.node T1 T2).terms.map tmE) :: K, ?_, hΨ d⟩
     have he : (Tr.node T1 T2).terms.map tmE = (Tr.pairs T1.terms T2.terms).map (fun p => tmE (p.1, p.2.1 ++ p.2.2)) ++ (Tr.pairs T1.terms T2.terms).map (fun p => tmE (-p.1, p.2.2 ++ p.2.1)) := by
      simp only [Tr.terms, List.map_append, List.map_map]; rfl
     rw [he]
     walk_at "subl"
theorem escN_sign (i c : Nat) (r : List Nat) (h : c ≠ 92) : escN i (c :: r) = (i, [c]) :: escN (i + 1) r := by
 cases r with
 | nil => rfl
 | cons d r => simp only [escN, if_neg h]
theorem escN_bs (i d : Nat) (r : List Nat) : escN i (92 :: d :: r) = (i + 1, [92, d]) :: escN (i + 2) r := by simp only [escN, if_true]
def mailS (t : List Nat) : List Nat := mail (t.filter (· != 105))
theorem mail_cons (n : Nat) (t : List Nat) : mail (n :: t) = dress n ++ mail t := rfl
theorem sub_whole (l : List Nat) (a b : Nat) (hb : b ≤ l.length) : sub l (some (a : Int)) (some (b : Int)) = (l.drop a).take (b - a) := by
 unfold sub slo shi cl
 have h1 : ¬ ((a : Int) < 0) := by omega
 have h2 : ¬ ((b : Int) < 0) := by omega
 simp only [h1, h2, if_false]
 by_cases h : a ≤ l.length
 ·rw [show (max 0 (min (a : Int) (l.length : Int))).toNat = a by omega, show (max 0 (min (b : Int) (l.length : Int))).toNat = b by omega]
 ·rw [List.drop_eq_nil_of_le (show l.length ≤ a by omega), List.drop_eq_nil_of_le (by omega)]; simp
theorem strip_fold (l0 : List Nat) : ∀ (t pre : List Nat) (start : Nat) (res : List (List Nat)), (∀ n ∈ t, n ∈ lawSigns) → l0 = pre ++ mail t → start ≤ pre.length →
  (let st := (escN pre.length (mail t)).foldl (stepS l0) (start, none, res)
  (if st.1 < l0.length then st.2.2 ++ [sub l0 (some (st.1 : Int)) none] else st.2.2).flatten) = res.flatten ++ pre.drop start ++ mailS t
 | [], pre, start, res, _, h, hs => by
  have h : l0 = pre := by simpa [mail] using h
  subst h
  show (if start < l0.length then res ++ [sub l0 (some (start : Int)) none] else res).flatten = _
  rw [sub_drop]
  have : mailS [] = [] := rfl
  rw [this]
  split
  ·simp
  ·rw [List.drop_eq_nil_of_le (by omega)]; simp
 | n :: t, pre, start, res, hd, h, hs => by
  have hn := hd n List.mem_cons_self
  have hdt : ∀ n ∈ t, n ∈ lawSigns := fun x hx => hd x (List.mem_cons_of_mem _ hx)
  have step : ∀ (d : List Nat), dress n = d → n ≠ 105 → (∀ r, ∃ q, escN pre.length (d ++ r) = q :: escN (pre.length + d.length) r ∧ q.2 ≠ [34]) →
   (let st := (escN pre.length (mail (n :: t))).foldl (stepS l0) (start, none, res)
   (if st.1 < l0.length then st.2.2 ++ [sub l0 (some (st.1 : Int)) none] else st.2.2).flatten) = res.flatten ++ pre.drop start ++ mailS (n :: t) := by
   intro d hd' hne hq
   obtain ⟨q, e1, e2⟩ := hq (mail t)
   have ih := strip_fold l0 t (pre ++ d) start res hdt (by rw [h, mail_cons, hd', List.append_assoc]) (by rw [List.length_append]; omega)
   rw [List.length_append] at ih
   rw [mail_cons, hd', e1, List.foldl_cons]
   have e3 : stepS l0 (start, none, res) q = (start, none, res) := by unfold stepS; rw [if_neg e2]
   rw [e3]
   refine ih.trans ?_
   have e4 : mailS (n :: t) = d ++ mailS t := by
    unfold mailS
    rw [List.filter_cons_of_pos (by simpa using hne), mail_cons, hd']
   rw [e4, List.drop_append_of_le_length hs]; simp
  simp only [lawSigns, List.mem_cons, List.not_mem_nil, or_false] at hn
  rcases hn with rfl | rfl | rfl | rfl | rfl
  ·exact step [92, 41] rfl (by decide) fun r => ⟨_, escN_bs _ _ _, by simp⟩
  ·have ih := strip_fold l0 t (pre ++ [34, 40, 34]) (pre.length + 3) (if start ≠ pre.length then res ++ [sub l0 (some (start : Int)) (some (pre.length : Int))] else res) hdt (by rw [h, mail_cons]; simp [dress]) (by simp)
   rw [List.length_append] at ih
   rw [mail_cons, show dress 105 = [34, 40, 34] from rfl]
   have e5 : escN pre.length ([34, 40, 34] ++ mail t) = (pre.length, [34]) :: (pre.length + 1, [40]) :: (pre.length + 1 + 1, [34]) :: escN (pre.length + 1 + 1 + 1) (mail t) := by
    show escN pre.length (34 :: 40 :: 34 :: mail t) = _
    rw [escN_sign _ _ _ (by decide), escN_sign _ _ _ (by decide), escN_sign _ _ _ (by decide)]
   have e1 : stepS l0 (start, none, res) (pre.length, [34]) = (start, some pre.length, res) := rfl
   have e2 : stepS l0 (start, some pre.length, res) (pre.length + 1, [40]) = (start, some pre.length, res) := rfl
   have e3 : stepS l0 (start, some pre.length, res) (pre.length + 1 + 1, [34]) = (pre.length + 3, none, if start ≠ pre.length then res ++ [sub l0 (some (start : Int)) (some (pre.length : Int))] else res) := rfl
   have e6 : (escN pre.length ([34, 40, 34] ++ mail t)).foldl (stepS l0) (start, none, res) = (escN (pre.length + [34, 40, 34].length) (mail t)).foldl (stepS l0) (pre.length + 3, none, if start ≠ pre.length then res ++ [sub l0 (some (start : Int)) (some (pre.length : Int))] else res) := by
    rw [e5, List.foldl_cons, List.foldl_cons, List.foldl_cons, e1, e2, e3]; rfl
   rw [e6]
   refine ih.trans ?_
   have e4 : mailS (105 :: t) = mailS t := by unfold mailS; rw [List.filter_cons_of_neg (by simp)]
   rw [e4, List.drop_eq_nil_of_le (by simp), sub_whole _ _ _ (by rw [h, List.length_append]; omega), h]
   rw [List.drop_append_of_le_length hs, List.take_append_of_le_length (by rw [List.length_drop]; omega), List.take_of_length_le (by rw [List.length_drop]; omega)]
   split
   ·simp
   ·rename_i h2
    have h2 : start = pre.length := by omega
    rw [h2, List.drop_eq_nil_of_le (Nat.le_refl _)]
  ·exact step [92, 92] rfl (by decide) fun r => ⟨_, escN_bs _ _ _, by simp⟩
  ·exact step [40] rfl (by decide) fun r => ⟨_, escN_sign _ _ _ (by decide), by simp⟩
  ·exact step [41] rfl (by decide) fun r => ⟨_, escN_sign _ _ _ (by decide), by simp⟩
theorem strip_mail (t : List Nat) (h : ∀ n ∈ t, n ∈ lawSigns) : stripQ (mail t) = mailS t := by
 unfold stripQ
 split
 ·have := strip_fold (mail t) t [] 0 [] h rfl (Nat.le_refl _)
  simpa using this
 ·rename_i h34
  have : ∀ n ∈ t, (n != 105) = true := by
   intro n hn
   by_cases e : n = 105
   ·subst e
    exact absurd (List.mem_flatten.mpr ⟨dress 105, List.mem_map.mpr ⟨105, hn, rfl⟩, by decide⟩) h34
   ·simpa using e
  unfold mailS
  rw [List.filter_eq_self.mpr this]
def bal : List Nat → Int → Bool
 | [], o => o == 0
 | n :: r, o => if n = 40 then bal r (o + 1) else if n = 41 then (if o - 1 < 0 then false else bal r (o - 1)) else bal r o
theorem parens_mail : ∀ (t : List Nat) (i : Nat) (o : Int), (∀ n ∈ t, n ∈ lawSigns) → parens ((escN i (mailS t)).map (·.2)) o = bal t o
 | [], i, o, _ => rfl
 | n :: t, i, o, hd => by
  have hn := hd n List.mem_cons_self
  have hdt : ∀ n ∈ t, n ∈ lawSigns := fun x hx => hd x (List.mem_cons_of_mem _ hx)
  have e0 : n ≠ 105 → mailS (n :: t) = dress n ++ mailS t := fun h => by
   unfold mailS
   rw [List.filter_cons_of_pos (by simpa using h), mail_cons]
  simp only [lawSigns, List.mem_cons, List.not_mem_nil, or_false] at hn
  rcases hn with rfl | rfl | rfl | rfl | rfl
  ·rw [e0 (by decide), show dress 102 = [92, 41] from rfl]
   show parens ((escN i (92 :: 41 :: mailS t)).map (·.2)) o = _
   rw [escN_bs, List.map_cons, parens, if_neg (by simp), if_neg (by simp), parens_mail t _ _ hdt]
   rfl
  ·have e4 : mailS (105 :: t) = mailS t := by unfold mailS; rw [List.filter_cons_of_neg (by simp)]
   rw [e4, parens_mail t _ _ hdt]; rfl
  ·rw [e0 (by decide), show dress 108 = [92, 92] from rfl]
   show parens ((escN i (92 :: 92 :: mailS t)).map (·.2)) o = _
   rw [escN_bs, List.map_cons, parens, if_neg (by simp), if_neg (by simp), parens_mail t _ _ hdt]
   rfl
  ·rw [e0 (by decide), show dress 40 = [40] from rfl]
   show parens ((escN i (40 :: mailS t)).map (·.2)) o = _
   rw [escN_sign _ _ _ (by decide), List.map_cons, parens, if_pos rfl, parens_mail t _ _ hdt]
   rfl
  ·rw [e0 (by decide), show dress 41 = [41] from rfl]
   show parens ((escN i (41 :: mailS t)).map (·.2)) o = _
   rw [escN_sign _ _ _ (by decide), List.map_cons, parens, if_neg (by simp), if_pos rfl, parens_mail t _ _ hdt]
   rfl
theorem check_mail (t : List Nat) (h : ∀ n ∈ t, n ∈ lawSigns) : checkP (mail t) = bal t 0 := by
 unfold checkP
 rw [strip_mail t h, parens_mail t 0 0 h]
def fil : List Nat := [102, 105, 108]
def Tr.ok (t : Tr) : Prop := ∀ n ∈ t.word, n ∈ fil
theorem Tr.ok_a {a b : Tr} (h : (Tr.node a b).ok) : a.ok := fun n hn => h n (List.mem_append_left _ hn)
theorem Tr.ok_b {a b : Tr} (h : (Tr.node a b).ok) : b.ok := fun n hn => h n (List.mem_append_right _ hn)
theorem Tr.signs : ∀ (t : Tr), t.ok → ∀ n ∈ t.text, n ∈ lawSigns
 | .leaf m, h, n, hn => by
  obtain rfl : n = m := by simpa [Tr.text] using hn
  have := h n (by simp [Tr.word])
  simp only [fil, List.mem_cons, List.not_mem_nil, or_false] at this
  rcases this with rfl | rfl | rfl <;> decide
 | .node a b, h, n, hn => by
  simp only [Tr.text, List.mem_append, List.mem_singleton] at hn
  rcases hn with ((rfl | hn) | hn) | rfl
  ·decide
  ·exact a.signs (Tr.ok_a h) n hn
  ·exact b.signs (Tr.ok_b h) n hn
  ·decide
theorem Tr.bal_all : ∀ (t : Tr), t.ok → ∀ (r : List Nat) (o : Int), 0 ≤ o → bal (t.text ++ r) o = bal r o
 | .leaf m, h, r, o, ho => by
  have := h m (by simp [Tr.word])
  simp only [fil, List.mem_cons, List.not_mem_nil, or_false] at this
  rcases this with rfl | rfl | rfl <;> rfl
 | .node a b, h, r, o, ho => by
  have e : (Tr.node a b).text ++ r = 40 :: (a.text ++ (b.text ++ 41 :: r)) := by simp [Tr.text]
  rw [e, bal, if_pos rfl, a.bal_all (Tr.ok_a h) _ _ (by omega), b.bal_all (Tr.ok_b h) _ _ (by omega), bal, if_neg (by decide), if_pos rfl, if_neg (by omega)]
  congr 1; omega
theorem Tr.bal_pre : ∀ (t : Tr), t.ok → ∀ (j : Nat) (o : Int), 1 ≤ o → bal (t.text.take j) o = false
 | .leaf m, h, j, o, ho => by
  have := h m (by simp [Tr.word])
  simp only [fil, List.mem_cons, List.not_mem_nil, or_false] at this
  have ho : (o == 0) = false := by simp; omega
  cases j with
  | zero => exact ho
  | succ j =>
   have e : (Tr.leaf m).text.take (j + 1) = [m] := by simp [Tr.text]
   rw [e]
   rcases this with rfl | rfl | rfl <;> exact ho
 | .node a b, h, j, o, ho => by
  have ho' : (o == 0) = false := by simp; omega
  cases j with
  | zero => exact ho'
  | succ j =>
   have e : (Tr.node a b).text.take (j + 1) = 40 :: (a.text ++ (b.text ++ [41])).take j := by simp [Tr.text]
   rw [e, bal, if_pos rfl]
   by_cases hj : j ≤ a.text.length
   ·rw [List.take_append_of_le_length hj]
    exact a.bal_pre (Tr.ok_a h) j _ (by omega)
   ·have e2 : (a.text ++ (b.text ++ [41])).take j = a.text ++ (b.text ++ [41]).take (j - a.text.length) := by
     rw [List.take_append, List.take_of_length_le (by omega)]
    rw [e2, a.bal_all (Tr.ok_a h) _ _ (by omega)]
    generalize j - a.text.length = i
    by_cases hi : i ≤ b.text.length
    ·rw [List.take_append_of_le_length hi]
     exact b.bal_pre (Tr.ok_b h) i _ (by omega)
    ·rw [List.take_of_length_le (by simp; omega), b.bal_all (Tr.ok_b h) _ _ (by omega), bal, if_neg (by decide), if_pos rfl, if_neg (by omega)]
     show (o + 1 - 1 == 0) = false
     simp; omega
theorem Tr.bal_cut (t : Tr) (h : t.ok) (j : Nat) (h1 : 1 ≤ j) (h2 : j < t.text.length) : bal (t.text.take j) 0 = false := by
 cases t with
 | leaf m => simp [Tr.text] at h2; omega
 | node a b =>
  obtain ⟨j, rfl⟩ : ∃ i, j = i + 1 := ⟨j - 1, by omega⟩
  have e : (Tr.node a b).text.take (j + 1) = 40 :: (a.text ++ (b.text ++ [41])).take j := by simp [Tr.text]
  have hl : j ≤ a.text.length + b.text.length := by simp [Tr.text] at h2; omega
  rw [e, bal, if_pos rfl]
  by_cases hj : j ≤ a.text.length
  ·rw [List.take_append_of_le_length hj]
   exact a.bal_pre (Tr.ok_a h) j _ (by omega)
  ·have e2 : (a.text ++ (b.text ++ [41])).take j = a.text ++ (b.text ++ [41]).take (j - a.text.length) := by
    rw [List.take_append, List.take_of_length_le (by omega)]
   rw [e2, a.bal_all (Tr.ok_a h) _ _ (by omega), List.take_append_of_le_length (by omega)]
   exact b.bal_pre (Tr.ok_b h) _ _ (by omega)
theorem Tr.bal_whole (t : Tr) (h : t.ok) : bal t.text 0 = true := by
 have := t.bal_all h [] 0 (by omega)
 rw [List.append_nil] at this
 rw [this]; rfl
theorem Tr.bal_turned (a b : Tr) (h : (Tr.node a b).ok) : bal ((Tr.node a b).text.drop 1 ++ (Tr.node a b).text.take 1) 0 = false := by
 have e : (Tr.node a b).text.drop 1 ++ (Tr.node a b).text.take 1 = a.text ++ (b.text ++ 41 :: [40]) := by simp [Tr.text]
 rw [e, a.bal_all (Tr.ok_a h) _ _ (by omega), b.bal_all (Tr.ok_b h) _ _ (by omega), bal, if_neg (by decide), if_pos rfl, if_pos (by omega)]
def dg (n : Nat) : Nat := (n - 102) / 3
def plA (p : Nat) : List Nat → Nat
 | [] => p
 | n :: l => plA (3 * p + dg n) l
def plN (l : List Nat) : Nat := plA 0 l
theorem dg_lt {n : Nat} (h : n ∈ fil) : dg n < 3 := by
 simp only [fil, List.mem_cons, List.not_mem_nil, or_false] at h
 rcases h with rfl | rfl | rfl <;> decide
theorem plc_plA : ∀ (l : List Nat) (p : Nat), (∀ n ∈ l, n ∈ fil) → plc p l = (plA p l : Nat)
 | [], p, _ => rfl
 | n :: l, p, h => by
  have hn := h n List.mem_cons_self
  have e : 3 * (p : Int) + ((n : Int) - 102).fdiv 3 = ((3 * p + dg n : Nat) : Int) := by
   simp only [fil, List.mem_cons, List.not_mem_nil, or_false] at hn
   rcases hn with rfl | rfl | rfl
   ·show 3 * (p : Int) + 0 = _; simp [dg]
   ·show 3 * (p : Int) + 1 = _; simp [dg]
   ·show 3 * (p : Int) + 2 = _; simp [dg]
  rw [plc, e, plc_plA l _ fun m hm => h m (List.mem_cons_of_mem _ hm)]
  rfl
theorem plc_plN (l : List Nat) (h : ∀ n ∈ l, n ∈ fil) : plc 0 l = (plN l : Nat) := plc_plA l 0 h
theorem plA_eq : ∀ (l : List Nat) (p : Nat), plA p l = p * 3 ^ l.length + plN l
 | [], p => by simp [plA, plN]
 | n :: l, p => by
  unfold plN
  rw [plA, plA_eq l, plA, plA_eq l (3 * 0 + dg n), List.length_cons, Nat.pow_succ, Nat.add_mul, Nat.add_mul]
  have : 3 * p * 3 ^ l.length = p * (3 ^ l.length * 3) := by rw [Nat.mul_comm (3 ^ l.length) 3, Nat.mul_comm 3 p, Nat.mul_assoc]
  rw [this]; simp; omega
theorem plN_append (u v : List Nat) : plN (u ++ v) = plN u * 3 ^ v.length + plN v := by
 have : ∀ (u : List Nat) p, plA p (u ++ v) = plA (plA p u) v := by
  intro u
  induction u with
  | nil => intro p; rfl
  | cons n u ih => intro p; simp only [List.cons_append, plA, ih]
 unfold plN
 rw [this, plA_eq]
 rfl
theorem plN_lt : ∀ (l : List Nat), (∀ n ∈ l, n ∈ fil) → plN l < 3 ^ l.length
 | [], _ => by decide
 | n :: l, h => by
  have hn := dg_lt (h n List.mem_cons_self)
  have ih := plN_lt l fun m hm => h m (List.mem_cons_of_mem _ hm)
  have e : plN (n :: l) = dg n * 3 ^ l.length + plN l := by unfold plN; rw [plA, plA_eq]; simp; rfl
  rw [e, List.length_cons, Nat.pow_succ]
  have : dg n * 3 ^ l.length ≤ 2 * 3 ^ l.length := Nat.mul_le_mul_right _ (by omega)
  omega
def vl (w : Nat) (ts : List Tm) : Int := (ts.map fun t => t.1 * 2 ^ (w * plN t.2)).sum
theorem vl_cons (w : Nat) (t : Tm) (ts : List Tm) : vl w (t :: ts) = t.1 * 2 ^ (w * plN t.2) + vl w ts := rfl
theorem vl_append (w : Nat) (a b : List Tm) : vl w (a ++ b) = vl w a + vl w b := by
 unfold vl; rw [List.map_append, List.sum_append]
theorem two_pow_split (w a m b : Nat) : (2 : Int) ^ (w * (a * m + b)) = 2 ^ (w * m * a) * 2 ^ (w * b) := by
 rw [← Int.pow_add]; congr 1; rw [Nat.mul_add, Nat.mul_assoc w m a, Nat.mul_comm m a]
theorem vl_row (w m : Nat) (k : Int) (u : List Nat) : ∀ (y : List Tm), (∀ t ∈ y, t.2.length = m) → vl w ((y.map fun t => (k * t.1, u, t.2)).map fun p : Int × List Nat × List Nat => (p.1, p.2.1 ++ p.2.2)) = k * 2 ^ (w * 3 ^ m * plN u) * vl w y
 | [], _ => by simp [vl]
 | t :: y, h => by
  have ih := vl_row w m k u y fun s hs => h s (List.mem_cons_of_mem _ hs)
  have ht := h t List.mem_cons_self
  rw [List.map_cons, List.map_cons, vl_cons, ih, vl_cons, plN_append, ht, two_pow_split, Int.mul_add]
  congr 1
  dsimp only
  generalize (2 : Int) ^ (w * 3 ^ m * plN u) = x
  generalize (2 : Int) ^ (w * plN t.2) = z
  rw [Int.mul_assoc, Int.mul_assoc, Int.mul_left_comm t.1 x z]
theorem vl_pairs (w m : Nat) (y : List Tm) (hy : ∀ t ∈ y, t.2.length = m) : ∀ (x : List Tm), vl w ((Tr.pairs x y).map fun p => (p.1, p.2.1 ++ p.2.2)) = vl (w * 3 ^ m) x * vl w y
 | [] => by simp [Tr.pairs, vl]
 | t :: x => by
  have ih := vl_pairs w m y hy x
  unfold Tr.pairs at *
  rw [List.flatMap_cons, List.map_append, vl_append, ih, vl_row w m t.1 t.2 y hy, vl_cons, Int.add_mul]
theorem vl_rowN (w m : Nat) (k : Int) (u : List Nat) (hu : u.length = m) : ∀ (y : List Tm), vl w ((y.map fun t => (k * t.1, u, t.2)).map fun p : Int × List Nat × List Nat => (-p.1, p.2.2 ++ p.2.1)) = -(vl (w * 3 ^ m) y * (k * 2 ^ (w * plN u)))
 | [] => by simp [vl]
 | t :: y => by
  have ih := vl_rowN w m k u hu y
  rw [List.map_cons, List.map_cons, vl_cons, ih, vl_cons, plN_append, hu, two_pow_split, Int.add_mul, Int.neg_add]
  congr 1
  dsimp only
  generalize (2 : Int) ^ (w * 3 ^ m * plN t.2) = x
  generalize (2 : Int) ^ (w * plN u) = z
  rw [Int.neg_mul, Int.mul_comm k t.1, Int.mul_assoc, Int.mul_assoc, Int.mul_left_comm k x z]
theorem vl_pairsN (w m : Nat) (y : List Tm) : ∀ (x : List Tm), (∀ t ∈ x, t.2.length = m) → vl w ((Tr.pairs x y).map fun p => (-p.1, p.2.2 ++ p.2.1)) = -(vl (w * 3 ^ m) y * vl w x)
 | [], _ => by simp [Tr.pairs, vl]
 | t :: x, h => by
  have ih := vl_pairsN w m y x fun s hs => h s (List.mem_cons_of_mem _ hs)
  unfold Tr.pairs at *
  rw [List.flatMap_cons, List.map_append, vl_append, ih, vl_rowN w m t.1 t.2 (h t List.mem_cons_self) y, vl_cons, Int.mul_add, Int.neg_add]
theorem vl_node (w : Nat) (a b : Tr) : vl w (Tr.node a b).terms = vl (w * 3 ^ b.leaves) a.terms * vl w b.terms - vl (w * 3 ^ a.leaves) b.terms * vl w a.terms := by
 rw [Tr.terms, vl_append, vl_pairs w b.leaves _ b.terms_word, vl_pairsN w a.leaves _ _ a.terms_word, Int.sub_eq_add_neg]
def cf (ts : List Tm) (p : Nat) : Int := ((ts.filter fun t => plN t.2 == p).map (·.1)).sum
def cof (n : Nat) (ts : List Tm) : List Int := (List.range (3 ^ n)).map (cf ts)
theorem cof_len (n : Nat) (ts : List Tm) : (cof n ts).length = 3 ^ n := by simp [cof]
theorem fval_app (w : Nat) : ∀ (a b : List Int), fval w (a ++ b) = fval w a + 2 ^ (w * a.length) * fval w b
 | [], b => by simp [fval]
 | x :: a, b => by
  have e : (2 : Int) ^ (w * (x :: a).length) = 2 ^ w * 2 ^ (w * a.length) := by rw [← Int.pow_add, List.length_cons, Nat.mul_succ, Nat.add_comm]
  rw [List.cons_append, fval, fval, fval_app w a b, e, Int.mul_add, Int.mul_assoc]; omega
theorem fval_plus (w : Nat) (f g : Nat → Int) (n : Nat) : fval w ((List.range n).map fun p => f p + g p) = fval w ((List.range n).map f) + fval w ((List.range n).map g) := by
 induction n with
 | zero => rfl
 | succ n ih =>
  simp only [List.range_succ, List.map_append, List.map_cons, List.map_nil, fval_app, List.length_map, List.length_range, ih]
  simp only [fval, Int.mul_zero, Int.add_zero, Int.mul_add]; omega
theorem fval_one (w q : Nat) (k : Int) (n : Nat) : fval w ((List.range n).map fun p => if q = p then k else 0) = if q < n then k * 2 ^ (w * q) else 0 := by
 induction n with
 | zero => rfl
 | succ n ih =>
  simp only [List.range_succ, List.map_append, List.map_cons, List.map_nil, fval_app, List.length_map, List.length_range, ih, fval, Int.mul_zero, Int.add_zero]
  by_cases h : q = n
  ·subst h
   rw [if_neg (by omega), if_pos rfl, if_pos (by omega), Int.mul_comm]; omega
  ·by_cases h2 : q < n
   ·rw [if_pos h2, if_neg h, if_pos (by omega)]; omega
   ·rw [if_neg h2, if_neg h, if_neg (by omega)]; omega
theorem cf_cons (t : Tm) (ts : List Tm) (p : Nat) : cf (t :: ts) p = (if plN t.2 = p then t.1 else 0) + cf ts p := by
 unfold cf
 by_cases h : plN t.2 = p
 ·rw [List.filter_cons_of_pos (by simpa using h), if_pos h]; rfl
 ·rw [List.filter_cons_of_neg (by simpa using h), if_neg h, Int.zero_add]
theorem fval_zero (w n : Nat) : fval w ((List.range n).map fun _ => (0 : Int)) = 0 := by
 induction n with
 | zero => rfl
 | succ n ih => simp only [List.range_succ, List.map_append, List.map_cons, List.map_nil, fval_app, ih, fval]; simp
theorem fval_cof (w n : Nat) : ∀ (ts : List Tm), (∀ t ∈ ts, t.2.length = n ∧ ∀ m ∈ t.2, m ∈ fil) → fval w (cof n ts) = vl w ts
 | [], _ => fval_zero w _
 | t :: ts, h => by
  have ih := fval_cof w n ts fun s hs => h s (List.mem_cons_of_mem _ hs)
  have ht := h t List.mem_cons_self
  have hlt := plN_lt t.2 ht.2
  rw [ht.1] at hlt
  unfold cof at *
  have e : cf (t :: ts) = fun p => (if plN t.2 = p then t.1 else 0) + cf ts p := funext fun p => cf_cons t ts p
  rw [e, fval_plus, ih, fval_one, if_pos hlt, vl_cons]
theorem cf_bound (p : Nat) : ∀ (ts : List Tm), (∀ t ∈ ts, t.1 = 1 ∨ t.1 = -1) → -(ts.length : Int) ≤ cf ts p ∧ cf ts p ≤ ts.length
 | [], _ => by simp [cf]
 | t :: ts, h => by
  have ih := cf_bound p ts fun s hs => h s (List.mem_cons_of_mem _ hs)
  have ht := h t List.mem_cons_self
  rw [cf_cons, List.length_cons]
  split
  ·omega
  ·omega
theorem Tr.terms_fil : ∀ (t : Tr), t.ok → ∀ u ∈ t.terms, ∀ m ∈ u.2, m ∈ fil
 | .leaf n, h, u, hu, m, hm => by
  obtain rfl : u = (1, [n]) := by simpa [Tr.terms] using hu
  obtain rfl : m = n := by simpa using hm
  exact h m (by simp [Tr.word])
 | .node a b, h, u, hu, m, hm => by
  simp only [Tr.terms, List.mem_append, List.mem_map, Tr.pairs, List.mem_flatMap] at hu
  rcases hu with ⟨p, ⟨x, hx, y, hy, rfl⟩, rfl⟩ | ⟨p, ⟨x, hx, y, hy, rfl⟩, rfl⟩ <;> rcases List.mem_append.mp hm with hm | hm
  ·exact a.terms_fil (Tr.ok_a h) x hx m hm
  ·exact b.terms_fil (Tr.ok_b h) y hy m hm
  ·exact b.terms_fil (Tr.ok_b h) y hy m hm
  ·exact a.terms_fil (Tr.ok_a h) x hx m hm
theorem Tr.fval_cof (t : Tr) (h : t.ok) (w : Nat) : fval w (cof t.leaves t.terms) = vl w t.terms :=
 Mine.fval_cof w t.leaves t.terms fun u hu => ⟨t.terms_word u hu, t.terms_fil h u hu⟩
theorem Tr.cof_bound (t : Tr) (h4 : t.leaves ≤ 4) (w : Nat) (hw : 5 ≤ w) : ∀ x ∈ cof t.leaves t.terms, -(2 ^ (w - 1)) < x ∧ x < 2 ^ (w - 1) := by
 intro x hx
 obtain ⟨p, _, rfl⟩ := List.mem_map.mp hx
 have h1 := cf_bound p t.terms t.terms_pm
 have h2 := t.terms_len
 have h3 : 2 ^ t.leaves ≤ 2 ^ 4 := Nat.pow_le_pow_right (by decide) h4
 have h5 : (2 : Int) ^ 4 ≤ 2 ^ (w - 1) := by exact_mod_cast Nat.pow_le_pow_right (n := 2) (by decide) (by omega)
 omega
theorem vl_bits (w n : Nat) : ∀ (ts : List Tm), (∀ t ∈ ts, (t.1 = 1 ∨ t.1 = -1) ∧ t.2.length = n ∧ ∀ m ∈ t.2, m ∈ fil) → (vl w ts).natAbs ≤ ts.length * 2 ^ (w * 3 ^ n)
 | [], _ => by simp [vl]
 | t :: ts, h => by
  have ih := vl_bits w n ts fun s hs => h s (List.mem_cons_of_mem _ hs)
  obtain ⟨h1, h2, h3⟩ := h t List.mem_cons_self
  have hlt := plN_lt t.2 h3
  rw [h2] at hlt
  have hp : 2 ^ (w * plN t.2) ≤ 2 ^ (w * 3 ^ n) := Nat.pow_le_pow_right (by decide) (Nat.mul_le_mul_left _ (by omega))
  have e : (t.1 * 2 ^ (w * plN t.2)).natAbs = 2 ^ (w * plN t.2) := by
   rw [Int.natAbs_mul, Int.natAbs_pow]
   rcases h1 with e | e <;> rw [e] <;> simp
  rw [vl_cons, List.length_cons, Nat.succ_mul]
  have := Int.natAbs_add_le (t.1 * 2 ^ (w * plN t.2)) (vl w ts)
  omega
theorem Tr.vl_bits (t : Tr) (h : t.ok) (h4 : t.leaves ≤ 4) (w : Nat) : Builtin.Int.intBits (vl w t.terms) ≤ w * 3 ^ t.leaves + 4 := by
 have h1 := Mine.vl_bits w t.leaves t.terms fun u hu => ⟨t.terms_pm u hu, t.terms_word u hu, t.terms_fil h u hu⟩
 have h2 := t.terms_len
 have h3 : 2 ^ t.leaves ≤ 2 ^ 4 := Nat.pow_le_pow_right (by decide) h4
 refine bits_le ?_
 have h5 : t.terms.length * 2 ^ (w * 3 ^ t.leaves) ≤ 8 * 2 ^ (w * 3 ^ t.leaves) := Nat.mul_le_mul_right _ (by omega)
 have h6 : 0 < 2 ^ (w * 3 ^ t.leaves) := Nat.pow_pos (by decide)
 rw [Nat.pow_add]; omega
theorem sub_inner (a b : Tr) : sub (Tr.node a b).text (some 1) (some (-1)) = a.text ++ b.text := by
 unfold sub slo shi cl
 have e : (Tr.node a b).text = 40 :: ((a.text ++ b.text) ++ [41]) := by simp [Tr.text]
 have hl : (Tr.node a b).text.length = (a.text ++ b.text).length + 2 := by rw [e]; simp; omega
 have h1 : ¬ ((1 : Int) < 0) := by omega
 have h2 : ((-1 : Int) < 0) := by omega
 simp only [h1, h2, if_false, if_true]
 rw [hl]
 rw [show (max 0 (min (1 : Int) (((a.text ++ b.text).length + 2 : Nat) : Int))).toNat = 1 by omega]
 rw [show (max 0 (min (-1 + (((a.text ++ b.text).length + 2 : Nat) : Int)) (((a.text ++ b.text).length + 2 : Nat) : Int))).toNat - 1 = (a.text ++ b.text).length by omega]
 rw [e, List.drop_succ_cons, List.drop_zero, List.take_left]
theorem bits_nat {n m : Nat} (h : n < 2 ^ m) : Builtin.Int.intBits (n : Int) ≤ m := bits_le (by simpa using h)
theorem cof_ne (n : Nat) (ts : List Tm) : cof n ts ≠ [] := by
 intro e
 have := congrArg List.length e
 rw [cof_len, List.length_nil] at this
 have : 0 < 3 ^ n := Nat.pow_pos (by decide)
 omega
theorem figures_tree {c : Cx} (Fc : Fns c) {A : Around} {K : List Fact} {w : Nat} (t : Tr) (h : t.ok) (h4 : t.leaves ≤ 4) (hw : 5 ≤ w) (hw2 : w ≤ 104) {Ψ : SV → List Fact → Prop} (hr : Room A 16) (hΨ : ∀ d, Ψ (.ref d) (FList d (ivs (cof t.leaves t.terms)) :: K)) :
  TCall c A K (.ref 217) [.int (vl w t.terms), .int ((3 ^ t.leaves : Nat) : Int), .int w] Ψ := by
 have p1 : 3 ^ t.leaves ≤ 3 ^ 4 := Nat.pow_le_pow_right (by decide) (by omega)
 have := figures_call Fc (A := A) (K := K) (cs := cof t.leaves t.terms) (w := w) (Ψ := Ψ) hr (by omega) (by omega) (by rw [cof_len]; omega) (cof_ne _ _) (t.cof_bound h4 w hw) hΨ
 rwa [t.fval_cof h w, cof_len] at this
theorem cof_small (t : Tr) (h4 : t.leaves ≤ 4) : ∀ d ∈ cof t.leaves t.terms, d.natAbs < 2 ^ 4 := by
 intro d hd
 have := t.cof_bound h4 5 (by omega) d hd
 have e : (2 : Int) ^ (5 - 1) = 16 := by decide
 rw [e] at this; omega
theorem digits_tree {c : Cx} (Fc : Fns c) {A : Around} {K : List Fact} {d : Addr} {w : Nat} (t : Tr) (h : t.ok) (h4 : t.leaves ≤ 4) (hw : w ≤ 2 ^ 13) {Ψ : SV → List Fact → Prop} (hr : Room A 14) (hd : FList d (ivs (cof t.leaves t.terms)) ∈ K) (hΨ : Ψ (.int (vl w t.terms)) K) :
  TCall c A K (.ref 42) [.ref d, .int w] Ψ := by
 have p1 : 3 ^ t.leaves ≤ 3 ^ 4 := Nat.pow_le_pow_right (by decide) (by omega)
 have p2 : (w + 1) * 3 ^ t.leaves ≤ (2 ^ 13 + 1) * 3 ^ 4 := Nat.mul_le_mul (by omega) p1
 refine digits2int Fc (ds := cof t.leaves t.terms) (n := w) (B := 4) hr hd (cof_small t h4) (by rw [cof_len]; omega) (by rw [cof_len]; omega) ?_
 rwa [t.fval_cof h w]
set_option maxHeartbeats 1000000 in
theorem value_call {c : Cx} (Fc : Fns c) : ∀ (T : Tr) {A : Around} {K : List Fact} {w : Nat} {Ψ : SV → List Fact → Prop}, Room A (T.leaves + 20) → T.ok → T.leaves ≤ 4 → 5 ≤ w → w ≤ 104 →
  Ψ (.tup [.int ((3 ^ T.leaves : Nat) : Int), .int (vl w T.terms)]) K → TCall c A K (.ref 224) [tS T.text, .int w] Ψ := by
 intro T
 induction T with
 | leaf m =>
  intro A K w Ψ hr hok h4 hw hw2 hΨ
  obtain ⟨o, pm, cd, F⟩ := Fc.f_law_value
  have hT := Fc.tops
  refine call_fn F (p_law_value _ _) rfl (hr.le (by omega)) fun L hG => ?_
  have hr' := (hr.le (show 20 ≤ _ by omega)).deeper (fnEnv (fd (st 26) "_law_value" 3 pm (.ref cd) 0) 224 L)
  have hm := hok m (by simp [Tr.word])
  show TS c _ _ [("text", some (tS [m])), ("width", some (.int w)), ("inner", none), ("cut", none), ("many", none), ("left", none), ("much", none), ("right", none), ("first", none)] K _ _
  refine S_cons ?_
  walk_at "W"
  refine ⟨fun _ => ?_, fun hb => by simp at hb⟩
  walk_at "W"
  rw [show sub [m] none (some 1) = [m] from rfl]
  have hfi : Txt.find (tx (lit "fil")) (tx [m]) = (dg m : Int) := by
   simp only [fil, List.mem_cons, List.not_mem_nil, or_false] at hm
   rcases hm with rfl | rfl | rfl <;> decide +kernel
  have hdg := dg_lt hm
  walk_at "W"
  rw [hfi]
  have hmul : IntMulOk (w : Int) (dg m : Int) := .of_right (Nat.le_trans (bits_of_lt (m := 2) (by omega) (by omega)) (by decide))
  walk_at "W"
  have hq : w * dg m ≤ 104 * 2 := Nat.mul_le_mul hw2 (by omega)
  rw [show (w : Int) * (dg m : Int) = ((w * dg m : Nat) : Int) from rfl]
  have hb1 : Builtin.Int.intBits 1 ≤ 1 := bits_of_lt (by decide) (by decide)
  have hs1 : (0 : Int) ≤ ((w * dg m : Nat) : Int) := Int.natCast_nonneg _
  have hs2 : (Builtin.Int.intBits 1 : Int) + ((w * dg m : Nat) : Int) ≤ 2 ^ 27 := by omega
  have he : (1 : Int) * 2 ^ (((w * dg m : Nat) : Int)).toNat = vl w (Tr.leaf m).terms := by
   rw [Int.toNat_natCast]
   show _ = 1 * 2 ^ (w * plN [m]) + 0
   rw [show plN [m] = dg m by unfold plN; rw [plA, plA]; omega, Int.add_zero]
  walk_at "W"
  rw [he]
  exact ⟨_, by walk_at "subl", hΨ⟩
 | node a b iha ihb =>
  intro A K w Ψ hr hok h4 hw hw2 hΨ
  obtain ⟨o, pm, cd, F⟩ := Fc.f_law_value
  obtain ⟨o2, pm2, cd2, F2⟩ := Fc.f_law_mail
  obtain ⟨o3, pm3, cd3, F3⟩ := Fc.f_check_parenthesis
  obtain ⟨o4, pm4, cd4, F4⟩ := Fc.f_law_figures
  obtain ⟨td, _, _, _, od, pmd, Fd⟩ := Fc.f_digits2int
  have hT := Fc.tops
  refine call_fn F (p_law_value _ _) rfl (hr.le (by omega)) fun L hG => ?_
  have ha := a.leaves_pos
  have hb := b.leaves_pos
  have hlv : (Tr.node a b).leaves = a.leaves + b.leaves := rfl
  rw [hlv] at h4 hr
  have hr' := (hr.le (show max a.leaves b.leaves + 20 + 1 ≤ _ by omega)).deeper (fnEnv (fd (st 26) "_law_value" 3 pm (.ref cd) 0) 224 L)
  have htl := (Tr.node a b).text_len
  have hta := a.text_len
  have htb := b.text_len
  rw [hlv] at htl
  show TS c _ _ [("text", some (tS (Tr.node a b).text)), ("width", some (.int w)), ("inner", none), ("cut", none), ("many", none), ("left", none), ("much", none), ("right", none), ("first", none)] K _ _
  refine S_cons ?_
  walk_at "W"
  refine ⟨fun hb => ?_, fun _ => ?_⟩
  ·have hb : ((Tr.node a b).text.length : Int) < 3 := by simpa using hb
   omega
  refine S_nil (Then.nx (S_cons ?_))
  walk_at "W"
  rw [sub_inner]
  refine Then.nx (S_cons ?_)
  walk_at "W"
  refine Then.nx (S_cons ?_)
  have hoa := Tr.ok_a hok
  have hob := Tr.ok_b hok
  have hsa := a.signs hoa
  have hsb := b.signs hob
  refine S_While (fun m ρ1 K1 => K.Sublist K1 ∧ ∃ j : Nat, m + j = a.text.length ∧ 1 ≤ j ∧ ρ1 = ([("text", some (tS (Tr.node a b).text)), ("width", some (.int w)), ("inner", some (tS (a.text ++ b.text))), ("cut", some (.int j)), ("many", none), ("left", none), ("much", none), ("right", none), ("first", none)] : Loc)) (a.text.length - 1) ⟨by walk_at "subl", 1, by omega, Nat.le_refl _, rfl⟩ ?_
  rintro m ρ1 K1 ⟨hs, j, hmj, h1j, rfl⟩ hn
  have hil : (a.text ++ b.text).length ≤ 2 ^ 24 := by rw [List.length_append]; omega
  walk_at "W"
  refine ⟨fun hb => ?_, fun hb => ?_⟩
  ·walk_at "W"
   rw [show sub (a.text ++ b.text) none (some (j : Int)) = (a.text ++ b.text).take j from sub_take _ j, List.take_append_of_le_length (by omega)]
   walk_at "W"
   have hst : ∀ n ∈ a.text.take j, n ∈ lawSigns := fun n hn => hsa n (List.mem_of_mem_take hn)
   have hml := mail_len (a.text.take j)
   rw [List.length_take] at hml
   refine mail_call Fc (hr'.le (by omega)) (by rw [List.length_take]; omega) hst (Fx.mk ?_)
   walk_at "W"
   refine check_call Fc (hr'.le (by omega)) (by omega) (Fx.mk ?_)
   rw [check_mail _ hst]
   walk_at "W"
   by_cases hj : j < a.text.length
   ·rw [a.bal_cut hoa j h1j hj]
    refine ⟨fun _ => ?_, fun h => absurd h (by decide)⟩
    walk_at "W"
    refine ⟨fun _ => ?_, fun h => absurd h (by decide)⟩
    walk_at "W"
    exact Turn.nx (m - 1) (by omega) ⟨by repeat (first | exact hs | apply List.Sublist.cons), j + 1, by omega, by omega, rfl⟩
   ·obtain rfl : j = a.text.length := by omega
    rw [List.take_of_length_le (Nat.le_refl _), a.bal_whole hoa]
    refine ⟨fun h => absurd h (by decide), fun _ => ?_⟩
    refine ⟨fun h => absurd h (by decide), fun _ => ?_⟩
    refine S_nil (Then.nx (S_cons ?_))
    walk_at "W"
    rw [show sub (a.text ++ b.text) none (some (a.text.length : Int)) = a.text by rw [sub_take, List.take_left]]
    walk_at "W"
    refine iha (hr'.le (by omega)) hoa (by omega) hw hw2 (Fx.mk ?_)
    walk_at "W"
    refine Then.nx (S_cons ?_)
    walk_at "W"
    rw [show sub (a.text ++ b.text) (some (a.text.length : Int)) none = b.text by rw [sub_drop, List.drop_left]]
    walk_at "W"
    refine ihb (hr'.le (by omega)) hob (by omega) hw hw2 (Fx.mk ?_)
    walk_at "W"
    refine Then.nx (S_cons ?_)
    walk_at "W"
    have p1 : 3 ^ a.leaves ≤ 3 ^ 3 := Nat.pow_le_pow_right (by decide) (by omega)
    have p2 : 3 ^ b.leaves ≤ 3 ^ 3 := Nat.pow_le_pow_right (by decide) (by omega)
    refine TCall.new1 (fun Ψ hΨ => figures_tree Fc a hoa (by omega) hw hw2 (hr'.le (by omega)) hΨ) fun d1 => ?_
    have hm1 : IntMulOk (w : Int) ((3 ^ b.leaves : Nat) : Int) := .of_left (Nat.le_trans (bits_nat (m := 7) (by omega)) (by decide))
    have hm2 : IntMulOk (w : Int) ((3 ^ a.leaves : Nat) : Int) := .of_left (Nat.le_trans (bits_nat (m := 7) (by omega)) (by decide))
    have hm3 : IntMulOk ((3 ^ a.leaves : Nat) : Int) ((3 ^ b.leaves : Nat) : Int) := .of_left (Nat.le_trans (bits_nat (m := 5) (by omega)) (by decide))
    have w1 : w * 3 ^ a.leaves ≤ 104 * 3 ^ 3 := Nat.mul_le_mul hw2 p1
    have w2 : w * 3 ^ b.leaves ≤ 104 * 3 ^ 3 := Nat.mul_le_mul hw2 p2
    have w3 : w * 3 ^ b.leaves * 3 ^ a.leaves ≤ 104 * 3 ^ 3 * 3 ^ 3 := Nat.mul_le_mul w2 p1
    have w4 : w * 3 ^ a.leaves * 3 ^ b.leaves ≤ 104 * 3 ^ 3 * 3 ^ 3 := Nat.mul_le_mul w1 p2
    have hm4 : IntMulOk (vl (w * 3 ^ b.leaves) a.terms) (vl w b.terms) := .of_le (a.vl_bits hoa (by omega) _) (b.vl_bits hob (by omega) _) (by omega)
    have hm5 : IntMulOk (vl (w * 3 ^ a.leaves) b.terms) (vl w a.terms) := .of_le (b.vl_bits hob (by omega) _) (a.vl_bits hoa (by omega) _) (by omega)
    walk_at "W"
    rw [show (w : Int) * ((3 ^ b.leaves : Nat) : Int) = ((w * 3 ^ b.leaves : Nat) : Int) from rfl]
    walk_at "W"
    refine digits_tree Fc a hoa (by omega) (by omega) (hr'.le (by omega)) (by walk_at "mem") (Fx.mk ?_)
    walk_at "W"
    refine Then.nx ?_
    walk_at "W"
    refine TCall.new1 (fun Ψ hΨ => figures_tree Fc b hob (by omega) hw hw2 (hr'.le (by omega)) hΨ) fun d2 => ?_
    walk_at "W"
    rw [show (w : Int) * ((3 ^ a.leaves : Nat) : Int) = ((w * 3 ^ a.leaves : Nat) : Int) from rfl]
    walk_at "W"
    refine digits_tree Fc b hob (by omega) (by omega) (hr'.le (by omega)) (by walk_at "mem") (Fx.mk ?_)
    walk_at "W"
    refine ⟨K, by repeat (first | exact hs | apply List.Sublist.cons), ?_⟩
    rw [vl_node, hlv, Nat.pow_add] at hΨ
    exact hΨ
  ·exfalso
   have hb : ¬ (j : Int) < ((a.text ++ b.text).length : Nat) := by simpa using hb
   rw [List.length_append] at hb
   omega
def nrmS (q : List (List Nat)) (x : Nat) : List (List Nat) := q.flatMap fun f => [f ++ [x], [x] ++ f]
def nrm : List Nat → List (List Nat)
 | [] => []
 | x :: r => r.foldl nrmS [[x]]
theorem nrmS_len (q : List (List Nat)) (x : Nat) : (nrmS q x).length = 2 * q.length := by
 unfold nrmS
 induction q with
 | nil => rfl
 | cons f q ih => rw [List.flatMap_cons, List.length_append, ih]; simp; omega
theorem nrmS_word (q : List (List Nat)) (x m : Nat) (h : ∀ f ∈ q, f.length = m) : ∀ f ∈ nrmS q x, f.length = m + 1 := by
 intro f hf
 obtain ⟨g, hg, hf⟩ := List.mem_flatMap.mp hf
 have := h g hg
 simp only [List.mem_cons, List.not_mem_nil, or_false] at hf
 rcases hf with rfl | rfl <;> simp <;> omega
theorem nrm_fold (x : Nat) : ∀ (r : List Nat), (r.foldl nrmS [[x]]).length = 2 ^ r.length ∧ ∀ f ∈ r.foldl nrmS [[x]], f.length = r.length + 1 := by
 intro r
 have : ∀ (r : List Nat) (q : List (List Nat)) m, (∀ f ∈ q, f.length = m) → (r.foldl nrmS q).length = 2 ^ r.length * q.length ∧ ∀ f ∈ r.foldl nrmS q, f.length = r.length + m := by
  intro r
  induction r with
  | nil => intro q m h; exact ⟨by simp, fun f hf => by have := h f hf; simp; omega⟩
  | cons y r ih =>
   intro q m h
   have h2 := ih (nrmS q y) (m + 1) (nrmS_word q y m h)
   rw [nrmS_len] at h2
   refine ⟨?_, fun f hf => ?_⟩
   ·rw [List.foldl_cons, h2.1, List.length_cons, Nat.pow_succ, Nat.mul_assoc]
   ·rw [h2.2 f hf, List.length_cons]; omega
 have := this r [[x]] 1 (by simp)
 simpa using this
theorem ex_methL {c : Cx} {a : LexA} {l : List Nat} {n : Int} {pb : List (List Nat)} {K : List Fact} {name : Str} {f : Addr} {P : Addr → Prop} (hcl : ClsK c 115 lexFs lexNs) (hm : FLex a l n pb ∈ K) (hf : (name, f) ∈ lexFs) (hsh : name ∉ [Str.ofString "lineno", Str.ofString "instream", Str.ofString "whitespace", Str.ofString "pushback", Str.ofString "read"]) (h : P a.x) :
  ∃ x dx C fs ns ρi, SV.ref a.x = .ref x ∧ ClsK c C fs ns ∧ (name, f) ∈ fs ∧ ("__getattribute__" : Str) ∈ ns ∧ ("__getattr__" : Str) ∈ ns ∧ Ins c K x dx C ρi ∧ name ∉ names ρi ∧ P x :=
 ⟨a.x, a.dx, 115, lexFs, lexNs, lrho n (.ref a.sx) a.P none, rfl, hcl, hf, List.mem_cons_self, .tail _ (.head _), .joined hm (.tail _ (.head _)), hsh, h⟩
set_option maxHeartbeats 1000000 in
theorem normed_call {c : Cx} (Fc : Fns c) {A : Around} {K R : List Fact} {a : LexA} {l : List Nat} {n : Int} {x : Nat} {r : List Nat} {Ψ : SV → List Fact → Prop} (hr : Room A 12) (hrem : Rem (FLex a l n []) K R) (hl : (x :: r).length ≤ 4)
  (hΨ : ∀ d, Ψ (.ref d) (FList d ((nrm (x :: r)).map tS) :: K)) : TCall c A K (.ref 236) [.ref a.x, tS (x :: r)] Ψ := by
 refine TCall.perm hrem.perm ?_
 obtain ⟨o, pm, cd, F⟩ := Fc.f_law_normed
 obtain ⟨oG, pmG, cdG, FG⟩ := Fc.m_get_token
 obtain ⟨oP, pmP, cdP, FP⟩ := Fc.m_push_token
 have hT := Fc.tops
 have hcl := lex_cls Fc
 refine call_defC F (pc_law_normed _ _) (ρ0 := [("word", some (tS (x :: r))), ("k", none), ("turn", none), ("front", none)]) (γ0 := [("line", some (.ref a.x))]) rfl (hr.le (by omega)) (by simp [binds]) (by simp [binds]) rfl rfl fun L hG hC hK => ?_
 have hr' := hr.deeper (callEnvC (fd (st 28) "_law_normed" 3 pm (.ref cd) 0) L 236)
 refine S_cons ?_
 walk_at "W"
 refine E_Meth (name := Str.ofString "push_token") FP nb_push_token ?_ rfl rfl rfl
 walk_at "W"
 refine ex_methL hcl (by walk_at "mem") (by walk_at "mem") (by decide) ?_
 walk_at "W"
 rename_i sl
 rw [show sub (x :: r) none (some 1) = [x] from sub_take _ 1]
 refine push_call Fc (pb := []) (hr'.le (by omega)) (by decide) (by walk_at "chg") (Fx.mk ?_)
 walk_at "W"
 refine ⟨(fun h => nomatch h), fun _ => ?_⟩
 refine S_nil (Then.nx (S_cons ?_))
 have hlr : r.length ≤ 3 := by simpa using hl
 have hl24 : (x :: r).length ≤ 2 ^ 24 := by omega
 refine S_ForI ?_ (fun _ => rfl)
 walk_at "W"
 rename_i rg
 refine ⟨_, _, _, _, fun rest ρ1 K1 => ∃ d t o1 o2 o3, r = d ++ t ∧ rest = iota (1 + d.length) t.length ∧ ρ1 = ([("word", some (tS (x :: r))), ("k", o1), ("turn", o2), ("front", o3)] : Loc) ∧
   K1 = FRange rg 1 ((x :: r).length : Nat) :: FSl sl none (some 1) :: FCs [("line", L + 1)] [("line", some (.ref a.x))] :: FLex a l n (d.foldl nrmS [[x]]) :: R,
  Itb.range (a := 1) (n := r.length) hr'.hh (by walk_at "mem") (.inl (by simp)) (by decide) (by decide) (by omega) (by omega), trivial, ⟨[], r, _, _, _, rfl, by simp, rfl, rfl⟩, by simp, ?turn, ?fin⟩
 case turn =>
  rintro F0 v rest ρ2 _ ⟨d, t, o1, o2, o3, hdt, hrest, rfl, rfl⟩ hn
  cases t with
  | nil => cases hrest
  | cons y t =>
   obtain ⟨rfl, rfl⟩ : v = .int (1 + d.length) ∧ rest = iota (1 + d.length + 1) t.length := by simpa [iota] using hrest
   have hdl : d.length < r.length := by rw [hdt]; simp
   have hq0 := nrm_fold x d
   generalize hq : d.foldl nrmS [[x]] = q at *
   have hb2 : Builtin.Int.intBits 2 = 2 := by decide +kernel
   have hp1 : (0 : Int) ≤ 1 + (d.length : Int) - 1 := by omega
   have hp2 : (Builtin.Int.intBits 2 : Int) * (1 + (d.length : Int) - 1) ≤ 2 ^ 27 := by rw [hb2]; omega
   have hpw : (2 : Int) ^ (1 + (d.length : Int) - 1).toNat = ((2 ^ d.length : Nat) : Int) := by
    rw [show (1 + (d.length : Int) - 1).toNat = d.length by omega, Int.natCast_pow]; rfl
   have hpl : 2 ^ d.length ≤ 2 ^ 3 := Nat.pow_le_pow_right (by decide) (by omega)
   walk_at "W"
   refine S_ForI ?_ (fun _ => rfl)
   walk_at "W"
   rw [hpw]
   rename_i r2
   have hI := Itb.rangeN (c := c) (A := A.deeper (callEnvC (fd (st 28) "_law_normed" 3 pm (.ref cd) 0) L 236)) hr'.hh (r := r2) (b := ((2 ^ d.length : Nat) : Int)) (K := FRange r2 0 ((2 ^ d.length : Nat) : Int) :: F0 :: FRange rg 1 ((x :: r).length : Nat) :: FSl sl none (some 1) :: FCs [("line", L + 1)] [("line", some (.ref a.x))] :: FLex a l n q :: R) List.mem_cons_self (Int.natCast_nonneg _) (by omega)
   rw [Int.toNat_natCast] at hI
   refine ⟨_, _, _, _, fun rest ρ1 K1 => ∃ e u o2 o3, q = e ++ u ∧ rest.length = u.length ∧ ρ1 = ([("word", some (tS (x :: r))), ("k", some (.int (1 + d.length))), ("turn", o2), ("front", o3)] : Loc) ∧
     K1 = FRange r2 0 ((2 ^ d.length : Nat) : Int) :: F0 :: FRange rg 1 ((x :: r).length : Nat) :: FSl sl none (some 1) :: FCs [("line", L + 1)] [("line", some (.ref a.x))] :: FLex a l n (u ++ nrmS e y) :: R,
    hI, trivial, ⟨[], q, _, _, rfl, by simp [hq0.1], rfl, by rw [show nrmS [] y = [] from rfl, List.append_nil]⟩, by simp, ?turn2, ?fin2⟩
   case turn2 =>
    rintro F2 v rest2 ρ2 _ ⟨e, u, o2, o3, heu, hrl, rfl, rfl⟩ hn2
    cases u with
    | nil => simp at hrl
    | cons f u =>
     have hrl : rest2.length = u.length := by simpa using hrl
     have hfl : f.length = d.length + 1 := hq0.2 f (by rw [heu]; simp)
     have hql : e.length + (u.length + 1) = 2 ^ d.length := by rw [← hq0.1, heu]; simp
     have hnl := nrmS_len e y
     have hk0 : (0 : Int) ≤ 1 + (d.length : Int) := by omega
     have hky : (x :: r)[(1 + (d.length : Int)).toNat]? = some y := by
      rw [show (1 + (d.length : Int)).toNat = d.length + 1 by omega, List.getElem?_cons_succ, hdt]; simp
     have hlen1 : f.length + [y].length ≤ 2 ^ 24 := by simp; omega
     have hlen2 : [y].length + f.length ≤ 2 ^ 24 := by simp; omega
     rw [List.cons_append]
     walk_at "W"
     refine E_Meth (name := Str.ofString "get_token") FG nb_get_token ?_ rfl rfl rfl
     walk_at "W"
     refine ex_methL hcl (by walk_at "mem") (by walk_at "mem") (by decide) ?_
     walk_at "W"
     refine get_pushed Fc (pb := u ++ nrmS e y) (hr'.le (by omega)) (by rw [List.length_append]; omega) (by walk_at "chg") (Fx.mk ?_)
     walk_at "W"
     refine Then.nx (S_cons ?_)
     walk_at "W"
     refine E_Meth (name := Str.ofString "push_token") FP nb_push_token ?_ rfl rfl rfl
     walk_at "W"
     refine ex_methL hcl (by walk_at "mem") (by walk_at "mem") (by decide) ?_
     walk_at "W"
     refine push_call Fc (pb := u ++ nrmS e y) (hr'.le (by omega)) (by rw [List.length_append]; omega) (by walk_at "chg") (Fx.mk ?_)
     walk_at "W"
     refine Then.nx ?_
     walk_at "W"
     refine E_Meth (name := Str.ofString "push_token") FP nb_push_token ?_ rfl rfl rfl
     walk_at "W"
     refine ex_methL hcl (by walk_at "mem") (by walk_at "mem") (by decide) ?_
     walk_at "W"
     refine push_call Fc (pb := u ++ nrmS e y ++ [f ++ [y]]) (hr'.le (by omega)) (by rw [List.length_append, List.length_append, List.length_singleton]; omega) (by walk_at "chg") (Fx.mk ?_)
     walk_at "W"
     refine TurnI.nx (by walk_at "pick") ⟨e ++ [f], u, _, _, by rw [heu]; simp, hrl, rfl, ?_⟩
     have : u ++ nrmS e y ++ [f ++ [y]] ++ [[y] ++ f] = u ++ nrmS (e ++ [f]) y := by
      unfold nrmS
      rw [List.flatMap_append]; simp
     rw [this]
   case fin2 =>
    rintro ρ2 _ ⟨e, u, o2, o3, heu, hrl, rfl, rfl⟩ hn2
    obtain rfl : u = [] := List.length_eq_zero_iff.mp hrl.symm
    obtain rfl : q = e := by simpa using heu
    rw [List.nil_append]
    refine S_nil (TurnI.nx (K5 := FRange rg 1 ((x :: r).length : Nat) :: FSl sl none (some 1) :: FCs [("line", L + 1)] [("line", some (.ref a.x))] :: FLex a l n ((d ++ [y]).foldl nrmS [[x]]) :: R) ?_ ⟨d ++ [y], t, _, _, _, by rw [hdt]; simp, ?_, rfl, rfl⟩)
    ·rw [List.foldl_append, hq, List.foldl_cons, List.foldl_nil]
     walk_at "pick"
    ·rw [List.length_append, List.length_singleton, Int.natCast_add, Int.add_assoc]; rfl
 case fin =>
  rintro ρ2 _ ⟨d, t, o1, o2, o3, hdt, hrest, rfl, rfl⟩ hn
  obtain rfl : t = [] := by cases t with | nil => rfl | cons _ _ => cases hrest
  rw [List.append_nil] at hdt
  subst hdt
  refine S_nil (Then.nx ?_)
  have hb2 : Builtin.Int.intBits 2 = 2 := by decide +kernel
  have hp1 : (0 : Int) ≤ ((x :: r).length : Nat) - 1 := by simp
  have hp2 : (Builtin.Int.intBits 2 : Int) * (((x :: r).length : Nat) - 1) ≤ 2 ^ 27 := by rw [hb2]; omega
  have hpw : (2 : Int) ^ (((x :: r).length : Nat) - 1 : Int).toNat = ((2 ^ r.length : Nat) : Int) := by
   rw [show (((x :: r).length : Nat) - 1 : Int).toNat = r.length by simp, Int.natCast_pow]; rfl
  have hpl : 2 ^ r.length ≤ 2 ^ 3 := Nat.pow_le_pow_right (by decide) (by omega)
  have hq0 := nrm_fold x r
  walk_at "W"
  refine E_ListComp (cl := [("line", L + 1)]) (xs0 := ["turn"]) (by walk_at "comp") ?_ (by intro _; rfl)
  walk_at "W"
  rw [hpw]
  rename_i r3
  have hI := Itb.rangeN (c := c) (A := A.deeper (callEnvC (fd (st 28) "_law_normed" 3 pm (.ref cd) 0) L 236)) hr'.hh (r := r3) (b := ((2 ^ r.length : Nat) : Int)) (K := FRange r3 0 ((2 ^ r.length : Nat) : Int) :: FRange rg 1 ((x :: r).length : Nat) :: FSl sl none (some 1) :: FCs [("line", L + 1)] [("line", some (.ref a.x))] :: FLex a l n (r.foldl nrmS [[x]]) :: R) List.mem_cons_self (Int.natCast_nonneg _) (by omega)
  rw [Int.toNat_natCast] at hI
  generalize hq : r.foldl nrmS [[x]] = q at *
  refine ⟨_, _, _, _, fun rest acc K2 => ∃ e u, q = e ++ u ∧ rest.length = u.length ∧ acc = e.map tS ∧ K2 = FRange r3 0 ((2 ^ r.length : Nat) : Int) :: FRange rg 1 ((x :: r).length : Nat) :: FSl sl none (some 1) :: FCs [("line", L + 1)] [("line", some (.ref a.x))] :: FLex a l n u :: R,
   hI, trivial, ⟨[], q, rfl, by simp [hq0.1], rfl, rfl⟩, by simp, ?_, ?_⟩
  ·rintro C D G v rest acc K2 ⟨e, u, heu, hrl, rfl, rfl⟩ ρc hρ
   obtain ⟨o4, rfl⟩ := names1 hρ
   cases u with
   | nil => simp at hrl
   | cons f u =>
    have hrl : rest.length = u.length := by simpa using hrl
    have hql : e.length + (u.length + 1) = 2 ^ r.length := by rw [← hq0.1, heu]; simp
    refine U1.sees [("line", L + 1)] [] (by walk_at "cells") (by walk_at "globs") fun hC2 hG2 => ?_
    walk_at "W"
    refine E_Meth (name := Str.ofString "get_token") FG nb_get_token ?_ rfl rfl rfl
    walk_at "W"
    refine ex_methL hcl (by walk_at "mem") (by walk_at "mem") (by decide) ?_
    walk_at "W"
    refine get_pushed Fc (pb := u) (hr'.le (by omega)) (by omega) (by walk_at "chg") (Fx.mk ?_)
    exact ⟨by simp; omega, _, .refl, e ++ [f], u, by rw [heu]; simp, hrl, by simp, rfl⟩
  ·rintro D acc K2 ⟨e, u, heu, hrl, rfl, rfl⟩
   obtain rfl : u = [] := List.length_eq_zero_iff.mp hrl.symm
   obtain rfl : q = e := by simpa using heu
   walk_at "W"
   refine ⟨FList D ((nrm (x :: r)).map tS) :: FLex a l n [] :: R, ?_, _, List.Perm.cons _ hrem.perm.symm, hΨ D⟩
   rw [show nrm (x :: r) = q from hq]
   walk_at "subl"
abbrev clean (n : Nat) : Prop := n ≠ 34 ∧ n ≠ 92 ∧ n ∉ wsL
theorem tokQ_sl (m way : Int) : ∀ (l : List Nat) (i : Nat) (acc r : List Nat), (∀ n ∈ l, clean n) → tokQ acc (((l.zipIdx i).map (slashAt m way)).flatten ++ 34 :: r) = (acc ++ l, r)
 | [], i, acc, r, _ => by
  show tokQ acc (34 :: r) = _
  rw [tokQ_cons, if_pos rfl]; simp
 | n :: l, i, acc, r, h => by
  obtain ⟨h1, h2, h3⟩ := h n List.mem_cons_self
  have ih := tokQ_sl m way l (i + 1) (acc ++ [n]) r fun x hx => h x (List.mem_cons_of_mem _ hx)
  rw [List.zipIdx_cons, List.map_cons, List.flatten_cons]
  unfold slashAt at ih ⊢
  dsimp only
  split
  ·simp only [List.cons_append, List.nil_append]
   rw [tokQ_cons, if_neg (by decide), if_pos rfl]
   show tokQ (acc ++ [n]) _ = _
   rw [List.tail_cons, ih]; simp
  ·simp only [List.cons_append, List.nil_append]
   rw [tokQ_cons, if_neg h1, if_neg h2, ih]; simp
theorem tokB_sl (m way : Int) (c : Nat) (hc : c ∈ wsL) : ∀ (l : List Nat) (i : Nat) (acc r : List Nat), (∀ n ∈ l, clean n) → tokB acc (((l.zipIdx i).map (slashAt m way)).flatten ++ c :: r) = (acc ++ l, r)
 | [], i, acc, r, _ => by
  show tokB acc (c :: r) = _
  rw [tokB_cons, if_pos hc]; simp
 | n :: l, i, acc, r, h => by
  obtain ⟨h1, h2, h3⟩ := h n List.mem_cons_self
  have ih := tokB_sl m way c hc l (i + 1) (acc ++ [n]) r fun x hx => h x (List.mem_cons_of_mem _ hx)
  rw [List.zipIdx_cons, List.map_cons, List.flatten_cons]
  unfold slashAt at ih ⊢
  dsimp only
  split
  ·simp only [List.cons_append, List.nil_append]
   rw [tokB_cons, if_neg (by decide), if_pos rfl]
   show tokB (acc ++ [n]) _ = _
   rw [List.tail_cons, ih]; simp
  ·simp only [List.cons_append, List.nil_append]
   rw [tokB_cons, if_neg h3, if_neg h2, ih]; simp
theorem ws_at (i : Nat) (h : i < 4) : ([32, 9, 13, 10] : List Nat).getD i 0 ∈ wsL := by
 match i, h with
 | 0, _ | 1, _ | 2, _ | 3, _ => decide
theorem tok_sl (m way : Int) (l r : List Nat) (c : Nat) (h : ∀ n ∈ l, clean n) (hc : c ∈ wsL) (hne : l ≠ []) : tok (slashed m way l ++ c :: r) = (l, r) := by
 cases l with
 | nil => exact absurd rfl hne
 | cons n l =>
  obtain ⟨h1, h2, h3⟩ := h n List.mem_cons_self
  have ih := tokB_sl m way c hc l 1 [n] r fun x hx => h x (List.mem_cons_of_mem _ hx)
  unfold slashed
  rw [List.zipIdx_cons, List.map_cons, List.flatten_cons]
  unfold slashAt at ih ⊢
  dsimp only
  split
  ·simp only [List.cons_append, List.nil_append]
   rw [tok_cons, if_neg (by decide), if_neg (by decide), if_pos rfl]
   show tokB [n] _ = _
   rw [List.tail_cons, ih]; rfl
  ·simp only [List.cons_append, List.nil_append]
   rw [tok_cons, if_neg h3, if_neg h1, if_neg h2, ih]; rfl
theorem tok_writ (way : Int) (l suf : List Nat) (h : ∀ n ∈ l, clean n) (hne : l ≠ []) : tok (writ way l ++ suf) = (l, suf) := by
 unfold writ
 split
 ·have : [34] ++ slashed 3 way l ++ [34] ++ suf = 34 :: (slashed 3 way l ++ 34 :: suf) := by simp
  rw [this, tok_cons, if_neg (by decide), if_pos rfl]
  exact (tokQ_sl 3 way l 0 [] suf h).trans (by simp)
 ·have h0 : 0 ≤ (way.fdiv 6).fmod 4 := Int.fmod_nonneg_of_pos _ (by decide)
  have h4 : (way.fdiv 6).fmod 4 < 4 := Int.fmod_lt_of_pos _ (by decide)
  rw [List.append_assoc, List.singleton_append]
  exact tok_sl 3 way l suf _ h (ws_at _ (by omega)) hne
def suff : List Nat := [10, 32, 9, 13, 34, 92, 34, 32, 10, 122, 34, 92, 34, 92, 32, 92, 10, 34, 122]
theorem lit_suff : lit "\n \t\r\"\\\" \nz\"\\\"\\ \\\n\"z" = suff := by decide +kernel
theorem tok_suff : tok suff = ([34, 32, 10, 122], [92, 34, 92, 32, 92, 10, 34, 122]) := by decide +kernel
theorem tok_suff2 : tok [92, 34, 92, 32, 92, 10, 34, 122] = ([34, 32, 10, 34, 122], []) := by decide +kernel
theorem tok_suff3 : tok [] = ([], []) := rfl
theorem sgn_reads (c : Nat) (ch : Int) (h : c ∈ lawSigns) : clean (sgn c ch) ∧ sgn c ch ∈ b3D ∧ isB1 (sgn c ch) = false ∧ b3map (sgn c ch) = [c] := by
 simp only [lawSigns, List.mem_cons, List.not_mem_nil, or_false] at h
 unfold sgn
 rcases shft_mem ch with e | e | e <;> rw [e] <;> rcases h with rfl | rfl | rfl | rfl | rfl <;> decide +kernel
theorem lig_reads (t : List Nat) (h : t ∈ ([[102, 102], [102, 105], [102, 108]] : List (List Nat))) : clean (lig t) ∧ lig t ∈ b3D ∧ isB1 (lig t) = false ∧ b3map (lig t) = t := by
 simp only [List.mem_cons, List.not_mem_nil, or_false] at h
 rcases h with rfl | rfl | rfl <;> decide +kernel
theorem b1List_reads : ∀ n ∈ b1List, clean n ∧ isB1 n = true := by decide +kernel
theorem hid_reads (ch w : Int) : ∀ n ∈ hid ch w, clean n ∧ isB1 n = true := by
 intro n hn
 unfold hid at hn
 split at hn
 ·have hn : n = b1List.getD (w.fmod 13).toNat 0 := by simpa using hn
  have h0 : 0 ≤ w.fmod 13 := Int.fmod_nonneg_of_pos _ (by decide)
  have h1 : w.fmod 13 < 13 := Int.fmod_lt_of_pos _ (by decide)
  have hlt : (w.fmod 13).toNat < b1List.length := by show _ < 13; omega
  refine b1List_reads n ?_
  rw [hn, List.getD_eq_getElem?_getD, List.getElem?_eq_getElem hlt]
  exact List.getElem_mem hlt
 ·cases hn
def fold (l : List Nat) : List Nat := ((l.filter fun n => !isB1 n).map b3map).flatten
theorem fold_append (a b : List Nat) : fold (a ++ b) = fold a ++ fold b := by unfold fold; rw [List.filter_append, List.map_append, List.flatten_append]
theorem fold_hid (ch w : Int) : fold (hid ch w) = [] := by
 unfold fold
 rw [List.filter_eq_nil_iff.mpr fun n hn => by simp [(hid_reads ch w n hn).2]]; rfl
theorem fold_one (n : Nat) (h : isB1 n = false) : fold [n] = b3map n := by unfold fold; simp [h]
theorem typ_reads : ∀ (k : Nat) (t : List Nat) (way : Int), t.length ≤ k → (∀ n ∈ t, n ∈ lawSigns) → fold (typ t way) = t ∧ ∀ n ∈ typ t way, clean n ∧ (isB1 n = false → n ∈ b3D)
 | _, [], _, _, _ => ⟨rfl, by simp [typ]⟩
 | 0, _ :: _, _, h, _ => by simp at h
 | k + 1, c :: t, way, hk, h => by
  rw [typ_eq (c :: t) way (by simp)]
  have hc := h c List.mem_cons_self
  split
  ·rename_i hl
   have h1 := lig_reads _ hl.2
   have ih := typ_reads k ((c :: t).drop 2) (way.fdiv 8) (by rw [List.length_drop]; omega) fun n hn => h n (List.mem_of_mem_drop hn)
   refine ⟨?_, fun n hn => ?_⟩
   ·rw [fold_append, fold_append, fold_hid, fold_one _ h1.2.2.1, h1.2.2.2, ih.1, List.append_nil, List.take_append_drop]
   ·rcases List.mem_append.mp hn with hn | hn
    ·rcases List.mem_append.mp hn with hn | hn
     ·obtain rfl := List.mem_singleton.mp hn
      exact ⟨h1.1, fun _ => h1.2.1⟩
     ·have := hid_reads _ _ n hn
      exact ⟨this.1, fun e => by rw [this.2] at e; cases e⟩
    ·exact ih.2 n hn
  ·have h1 := sgn_reads c (way.fmod 8) hc
   have ih := typ_reads k t (way.fdiv 8) (by simp at hk; omega) fun n hn => h n (List.mem_cons_of_mem _ hn)
   have e1 : (c :: t).headD 0 = c := rfl
   have e2 : (c :: t).drop 1 = t := rfl
   rw [e1, e2]
   refine ⟨?_, fun n hn => ?_⟩
   ·rw [fold_append, fold_append, fold_hid, fold_one _ h1.2.2.1, h1.2.2.2, ih.1]; simp
   ·rcases List.mem_append.mp hn with hn | hn
    ·rcases List.mem_append.mp hn with hn | hn
     ·obtain rfl := List.mem_singleton.mp hn
      exact ⟨h1.1, fun _ => h1.2.1⟩
     ·have := hid_reads _ _ n hn
      exact ⟨this.1, fun e => by rw [this.2] at e; cases e⟩
    ·exact ih.2 n hn
theorem typ_len : ∀ (k : Nat) (t : List Nat) (way : Int), t.length ≤ k → (typ t way).length ≤ 2 * t.length
 | _, [], _, _ => by simp [typ]
 | 0, _ :: _, _, h => by simp at h
 | k + 1, c :: t, way, hk => by
  have hh : ∀ ch w, (hid ch w).length ≤ 1 := by intro ch w; unfold hid; split <;> simp
  have h1 := hh (way.fmod 8) (way.fdiv 8)
  rw [typ_eq (c :: t) way (by simp)]
  split
  ·rename_i hl
   have ih := typ_len k ((c :: t).drop 2) (way.fdiv 8) (by rw [List.length_drop]; omega)
   rw [List.length_drop] at ih
   simp only [List.length_append, List.length_cons, List.length_nil] at ih ⊢
   have : 2 ≤ (c :: t).length := by
    have := congrArg List.length (show (c :: t).take 2 = (c :: t).take 2 from rfl)
    simp only [List.mem_cons, List.not_mem_nil, or_false] at hl
    rcases hl.2 with e | e | e <;> (have := congrArg List.length e; rw [List.length_take] at this; simp at this; simp; omega)
   simp only [List.length_cons] at this; omega
  ·have ih := typ_len k t (way.fdiv 8) (by simp at hk; omega)
   have e2 : (c :: t).drop 1 = t := rfl
   rw [e2]
   simp only [List.length_append, List.length_cons, List.length_nil] at ih ⊢; omega
theorem typ_ne (t : List Nat) (way : Int) (h : t ≠ []) : typ t way ≠ [] := by
 rw [typ_eq t way h]
 split <;> simp
def turnF (k : Nat) : Int := 1 - 2 * ((figs k 1 (cnt k 1)).sum.fmod 2)
def turnL (n : Nat) : List Int := (List.range (2 ^ (n - 1))).map turnF
theorem turnL3 : turnL 3 = [1, -1, -1, 1] := by decide +kernel
theorem turnL4 : turnL 4 = [1, -1, -1, 1, -1, 1, 1, -1] := by decide +kernel
def nv (g : List Nat → Int) (n : Nat) (u : List Nat) : Int := (((turnL n).zip (nrm u)).map fun p => p.1 * g p.2).sum
theorem leaves1 : ∀ (t : Tr), t.leaves = 1 → ∃ x, t = .leaf x
 | .leaf x, _ => ⟨x, rfl⟩
 | .node a b, h => by have := a.leaves_pos; have := b.leaves_pos; simp only [Tr.leaves] at h; omega
theorem leaves2 : ∀ (t : Tr), t.leaves = 2 → ∃ x y, t = .node (.leaf x) (.leaf y)
 | .leaf x, h => by simp [Tr.leaves] at h
 | .node a b, h => by
  have := a.leaves_pos; have := b.leaves_pos
  simp only [Tr.leaves] at h
  obtain ⟨x, rfl⟩ := leaves1 a (by omega)
  obtain ⟨y, rfl⟩ := leaves1 b (by omega)
  exact ⟨x, y, rfl⟩
theorem leaves3 : ∀ (t : Tr), t.leaves = 3 → (∃ x y z, t = .node (.leaf x) (.node (.leaf y) (.leaf z))) ∨ ∃ x y z, t = .node (.node (.leaf x) (.leaf y)) (.leaf z)
 | .leaf x, h => by simp [Tr.leaves] at h
 | .node a b, h => by
  have := a.leaves_pos; have := b.leaves_pos
  simp only [Tr.leaves] at h
  by_cases h1 : a.leaves = 1
  ·obtain ⟨x, rfl⟩ := leaves1 a h1
   obtain ⟨y, z, rfl⟩ := leaves2 b (by omega)
   exact .inl ⟨x, y, z, rfl⟩
  ·obtain ⟨x, y, rfl⟩ := leaves2 a (by omega)
   obtain ⟨z, rfl⟩ := leaves1 b (by omega)
   exact .inr ⟨x, y, z, rfl⟩
def dsw (g : List Nat → Int) (n : Nat) (t : Tr) : Prop := (t.terms.map fun u => u.1 * nv g n u.2).sum = n * (t.terms.map fun u => u.1 * g u.2).sum
theorem dsw3 (g : List Nat → Int) (t : Tr) (h : t.leaves = 3) : dsw g 3 t := by
 rcases leaves3 t h with ⟨x, y, z, rfl⟩ | ⟨x, y, z, rfl⟩ <;>
 ·unfold dsw nv
  rw [turnL3]
  simp [Tr.terms, Tr.pairs, nrm, nrmS]
  omega
theorem dsw4 (g : List Nat → Int) (t : Tr) (h : t.leaves = 4) : dsw g 4 t := by
 have shapes : (∃ x b, t = .node (.leaf x) b ∧ b.leaves = 3) ∨ (∃ a z, t = .node a (.leaf z) ∧ a.leaves = 3) ∨ ∃ x y z w, t = .node (.node (.leaf x) (.leaf y)) (.node (.leaf z) (.leaf w)) := by
  cases t with
  | leaf x => simp [Tr.leaves] at h
  | node a b =>
   have := a.leaves_pos; have := b.leaves_pos
   simp only [Tr.leaves] at h
   by_cases h1 : a.leaves = 1
   ·obtain ⟨x, rfl⟩ := leaves1 a h1
    exact .inl ⟨x, b, rfl, by omega⟩
   ·by_cases h2 : a.leaves = 2
    ·obtain ⟨x, y, rfl⟩ := leaves2 a h2
     obtain ⟨z, w, rfl⟩ := leaves2 b (by omega)
     exact .inr (.inr ⟨x, y, z, w, rfl⟩)
    ·obtain ⟨z, rfl⟩ := leaves1 b (by omega)
     exact .inr (.inl ⟨a, z, rfl, by omega⟩)
 rcases shapes with ⟨x, b, rfl, hb⟩ | ⟨a, z, rfl, ha⟩ | ⟨x, y, z, w, rfl⟩
 ·rcases leaves3 b hb with ⟨y, z, w, rfl⟩ | ⟨y, z, w, rfl⟩ <;>
  ·unfold dsw nv
   rw [turnL4]
   simp [Tr.terms, Tr.pairs, nrm, nrmS]
   omega
 ·rcases leaves3 a ha with ⟨x, y, w, rfl⟩ | ⟨x, y, w, rfl⟩ <;>
  ·unfold dsw nv
   rw [turnL4]
   simp [Tr.terms, Tr.pairs, nrm, nrmS]
   omega
 ·unfold dsw nv
  rw [turnL4]
  simp [Tr.terms, Tr.pairs, nrm, nrmS]
  omega
def filAt (i : Nat) : Nat := 102 + 3 * i
def wd (n p : Nat) : List Nat := (List.range n).map fun i => filAt (p / 3 ^ (n - 1 - i) % 3)
theorem wd_succ (m p : Nat) : wd (m + 1) p = filAt (p / 3 ^ m % 3) :: wd m p := by
 unfold wd
 rw [List.range_succ_eq_map, List.map_cons, List.map_map]
 congr 1
 apply List.map_congr_left
 intro i _
 simp only [Function.comp_def]
 rw [show m + 1 - 1 - (i + 1) = m - 1 - i by omega]
theorem wd_high : ∀ (m d q : Nat), wd m (d * 3 ^ m + q) = wd m q := by
 intro m d q
 unfold wd
 apply List.map_congr_left
 intro i hi
 have hi : i < m := List.mem_range.mp hi
 generalize hj : m - 1 - i = j
 have e : d * 3 ^ m = 3 ^ j * (d * 3 ^ (m - 1 - j) * 3) := by
  have : 3 ^ m = 3 ^ j * (3 ^ (m - 1 - j) * 3) := by rw [← Nat.pow_succ, ← Nat.pow_add]; congr 1; omega
  rw [this, Nat.mul_left_comm, Nat.mul_assoc]
 rw [e, Nat.mul_add_div (Nat.pow_pos (by decide)), Nat.mul_add_mod_self_right]
theorem wd_plN : ∀ (u : List Nat), (∀ n ∈ u, n ∈ fil) → wd u.length (plN u) = u
 | [], _ => rfl
 | c :: u, h => by
  have hc := h c List.mem_cons_self
  have hu : ∀ n ∈ u, n ∈ fil := fun n hn => h n (List.mem_cons_of_mem _ hn)
  have hlt := plN_lt u hu
  have e : plN (c :: u) = dg c * 3 ^ u.length + plN u := by
   have := plN_append [c] u
   rw [List.singleton_append] at this
   rw [this]
   congr 2
   unfold plN; rw [plA, plA]; omega
  rw [e, List.length_cons, wd_succ, wd_high, wd_plN u hu, Nat.add_comm, Nat.add_mul_div_right _ _ (Nat.pow_pos (by decide)), Nat.div_eq_of_lt hlt, Nat.zero_add]
  congr 1
  simp only [fil, List.mem_cons, List.not_mem_nil, or_false] at hc
  rcases hc with rfl | rfl | rfl <;> decide
theorem wd_fil (n p : Nat) : (∀ m ∈ wd n p, m ∈ fil) ∧ (wd n p).length = n := by
 refine ⟨fun m hm => ?_, by unfold wd; simp⟩
 obtain ⟨i, _, rfl⟩ := List.mem_map.mp hm
 have h3 := Nat.mod_lt (p / 3 ^ (n - 1 - i)) (show 3 > 0 by decide)
 generalize p / 3 ^ (n - 1 - i) % 3 = j at h3
 match j, h3 with
 | 0, _ | 1, _ | 2, _ => decide
theorem sum_one (k : Int) (q n : Nat) (H : Nat → Int) : ((List.range n).map fun p => (if q = p then k else 0) * H p).sum = if q < n then k * H q else 0 := by
 induction n with
 | zero => rfl
 | succ n ih =>
  rw [List.range_succ, List.map_append, List.sum_append, ih]
  simp only [List.map_cons, List.map_nil, List.sum_cons, List.sum_nil, Int.add_zero]
  by_cases h : q = n
  ·subst h
   rw [if_neg (by omega), if_pos rfl, if_pos (by omega)]; omega
  ·by_cases h2 : q < n
   ·rw [if_pos h2, if_neg h, if_pos (by omega)]; omega
   ·rw [if_neg h2, if_neg h, if_neg (by omega)]; omega
theorem sum_plus (f g : Nat → Int) (l : List Nat) : (l.map fun p => f p + g p).sum = (l.map f).sum + (l.map g).sum := by
 induction l with
 | nil => rfl
 | cons p l ih => simp only [List.map_cons, List.sum_cons, ih]; omega
theorem sum_zero {α : Type} (l : List α) : (l.map fun _ => (0 : Int)).sum = 0 := by
 induction l with
 | nil => rfl
 | cons p l ih => simp only [List.map_cons, List.sum_cons, ih]; rfl
theorem sum_places (n : Nat) (H : List Nat → Int) : ∀ (ts : List Tm), (∀ t ∈ ts, t.2.length = n ∧ ∀ m ∈ t.2, m ∈ fil) → ((List.range (3 ^ n)).map fun p => cf ts p * H (wd n p)).sum = (ts.map fun t => t.1 * H t.2).sum
 | [], _ => by
  have : (fun p => cf [] p * H (wd n p)) = fun _ => (0 : Int) := by funext p; show 0 * _ = _; simp
  rw [this, sum_zero]; rfl
 | t :: ts, h => by
  have ih := sum_places n H ts fun s hs => h s (List.mem_cons_of_mem _ hs)
  obtain ⟨h1, h2⟩ := h t List.mem_cons_self
  have hlt := plN_lt t.2 h2
  rw [h1] at hlt
  have e : (fun p => cf (t :: ts) p * H (wd n p)) = fun p => (if plN t.2 = p then t.1 else 0) * H (wd n p) + cf ts p * H (wd n p) := by funext p; rw [cf_cons, Int.add_mul]
  rw [e, sum_plus, ih, sum_one t.1 (plN t.2) (3 ^ n) fun p => H (wd n p), if_pos hlt, List.map_cons, List.sum_cons]
  have := wd_plN t.2 h2
  rw [h1] at this
  rw [this]
theorem total_is (t : Tr) (hok : t.ok) (n : Nat) (hn : t.leaves = n) (h34 : n = 3 ∨ n = 4) (w : Nat) : ((List.range (3 ^ n)).map fun p => cf t.terms p * nv (fun u => 2 ^ (w * plN u)) n (wd n p)).sum = n * vl w t.terms := by
 rw [sum_places n _ t.terms fun u hu => ⟨(t.terms_word u hu).trans hn, t.terms_fil hok u hu⟩]
 rcases h34 with rfl | rfl
 ·exact dsw3 _ t hn
 ·exact dsw4 _ t hn
theorem flat_ones {α β : Type} (g : α → β) : ∀ l : List α, (l.map fun k => [g k]).flatten = l.map g
 | [] => rfl
 | a :: l => by rw [List.map_cons, List.flatten_cons, flat_ones g l]; rfl
theorem fil_at (x : Int) : (lit "fil")[(x.fmod 3).toNat]? = some (filAt (x.fmod 3).toNat) ∧ 0 ≤ x.fmod 3 := by
 have h0 : 0 ≤ x.fmod 3 := Int.fmod_nonneg_of_pos _ (by decide)
 have h3 : x.fmod 3 < 3 := Int.fmod_lt_of_pos _ (by decide)
 refine ⟨?_, h0⟩
 rw [lit_fil]
 have : (x.fmod 3).toNat < 3 := by omega
 generalize (x.fmod 3).toNat = i at this
 match i, this with
 | 0, _ | 1, _ | 2, _ => rfl
theorem fil_in (x : Int) : filAt (x.fmod 3).toNat ∈ fil := by
 have h0 : 0 ≤ x.fmod 3 := Int.fmod_nonneg_of_pos _ (by decide)
 have h3 : x.fmod 3 < 3 := Int.fmod_lt_of_pos _ (by decide)
 have : (x.fmod 3).toNat < 3 := by omega
 generalize (x.fmod 3).toNat = i at this
 match i, this with
 | 0, _ | 1, _ | 2, _ => decide
theorem pow3_fits (k : Nat) (hk : k < 18) (x : Int) : (3 : Int) ^ k ≠ 0 ∧ Builtin.divisionGoesByPylong x (3 ^ k) = false := by
 have h1 : 3 ^ k ≤ 3 ^ 17 := Nat.pow_le_pow_right (by decide) (by omega)
 have h2 : 0 < 3 ^ k := Nat.pow_pos (by decide)
 have e : ((3 ^ k : Nat) : Int) = 3 ^ k := Int.natCast_pow 3 k
 rw [← e]
 exact ⟨by omega, PyProof.noPylong_small (by rw [Int.natAbs_natCast]; omega)⟩
theorem scale_parts (c5 c6 : Int) (n : Nat) (hn : n = 3 ∨ n = 4) : ∃ M sg : Int, ((2 * (c5.fmod 500) + 1) * 2 ^ (300 + (c5.fdiv 500).fmod 9000).toNat - 1) = M ∧ 1 - 2 * (c6.fmod 2) = sg ∧ (sg = 1 ∨ sg = -1) ∧ 2 ^ 299 ≤ M ∧ Builtin.Int.intBits M ≤ 9320 ∧ 0 ≤ c5.fmod 500 ∧ c5.fmod 500 < 500 ∧ 0 ≤ (c5.fdiv 500).fmod 9000 ∧ (c5.fdiv 500).fmod 9000 < 9000 := by
 have q0 : 0 ≤ c5.fmod 500 := Int.fmod_nonneg_of_pos _ (by decide)
 have q1 : c5.fmod 500 < 500 := Int.fmod_lt_of_pos _ (by decide)
 have e0 : 0 ≤ (c5.fdiv 500).fmod 9000 := Int.fmod_nonneg_of_pos _ (by decide)
 have e1 : (c5.fdiv 500).fmod 9000 < 9000 := Int.fmod_lt_of_pos _ (by decide)
 have s0 : 0 ≤ c6.fmod 2 := Int.fmod_nonneg_of_pos _ (by decide)
 have s1 : c6.fmod 2 < 2 := Int.fmod_lt_of_pos _ (by decide)
 refine ⟨_, _, rfl, rfl, by omega, ?_, ?_, q0, q1, e0, e1⟩
 ·generalize c5.fmod 500 = q at *
  generalize (c5.fdiv 500).fmod 9000 = e at *
  obtain ⟨k, hk⟩ : ∃ k : Nat, 300 + e = ((k + 300 : Nat) : Int) := ⟨e.toNat, by omega⟩
  rw [hk, Int.toNat_natCast, Int.pow_add]
  have h1 : (1 : Int) ≤ 2 ^ k := by have : 0 < 2 ^ k := Nat.pow_pos (by decide : 0 < 2); exact_mod_cast this
  have h2 : (1 : Int) * 1 ≤ (2 * q + 1) * 2 ^ k := Int.mul_le_mul (by omega) h1 (by decide) (by omega)
  rw [← Int.mul_assoc]
  generalize (2 * q + 1) * (2 : Int) ^ k = y at h2
  omega
 ·generalize c5.fmod 500 = q at *
  generalize (c5.fdiv 500).fmod 9000 = e at *
  obtain ⟨k, hk⟩ : ∃ k : Nat, 300 + e = (k : Int) := ⟨(300 + e).toNat, by omega⟩
  rw [hk, Int.toNat_natCast]
  have hk2 : k ≤ 9300 := by omega
  have hq : Builtin.Int.intBits (2 * q + 1) ≤ 10 := bits_of_lt (by omega) (by omega)
  have hp : Builtin.Int.intBits ((2 : Int) ^ k) ≤ 9301 := by
   have := intBits_pow_le (x := 2) (m := 1 + 1) (show Builtin.Int.intBits 2 ≤ 2 by decide +kernel) k
   refine bits_le ?_
   have e2 : ((2 : Int) ^ k).natAbs = 2 ^ k := by rw [Int.natAbs_pow]; rfl
   rw [e2]
   exact Nat.pow_lt_pow_right (by decide) (by omega)
  have h3 := intBits_sub_le (intBits_mul_le hq hp) (show Builtin.Int.intBits 1 ≤ 1 from bits_of_lt (by decide) (by decide))
  omega
theorem divmod_law (n : Nat) (hn : n = 3 ∨ n = 4) (V M sg r0 : Int) (hs : sg = 1 ∨ sg = -1) (hM : 0 < M) (h0 : 0 ≤ r0) (h1 : r0 < n * M) :
  (((n : Int) * V - n) * (M * sg) + r0 * sg).fdiv (n * (M * sg)) = V - 1 ∧ (((n : Int) * V - n) * (M * sg) + r0 * sg).fmod (n * (M * sg)) = r0 * sg := by
 have hb : 0 < (n : Int) * M := Int.mul_pos (by omega) hM
 have key : ((n : Int) * V - n) * M + r0 = r0 + n * M * (V - 1) := by
  rw [Int.mul_sub, Int.sub_mul, Int.mul_one, Int.mul_assoc (n : Int) V M, Int.mul_comm V M, ← Int.mul_assoc]; omega
 have d1 : (r0 + n * M * (V - 1)).fdiv (n * M) = V - 1 := by
  rw [Int.fdiv_eq_ediv_of_nonneg _ (by omega), Int.add_mul_ediv_left _ _ (by omega), Int.ediv_eq_zero_of_lt h0 h1]; omega
 have d2 : (r0 + n * M * (V - 1)).fmod (n * M) = r0 := by
  rw [Int.fmod_eq_emod_of_nonneg _ (by omega), Int.add_mul_emod_self_left, Int.emod_eq_of_lt h0 h1]
 rcases hs with rfl | rfl
 ·simp only [Int.mul_one]
  rw [key]
  exact ⟨d1, d2⟩
 ·have e1 : ((n : Int) * V - n) * (M * -1) + r0 * -1 = -(r0 + n * M * (V - 1)) := by
   rw [← key]; simp only [Int.mul_neg, Int.mul_one]; omega
  have e2 : (n : Int) * (M * -1) = -(n * M) := by simp only [Int.mul_neg, Int.mul_one]
  rw [e1, e2, Int.neg_fdiv_neg, Int.neg_fmod_neg, d1, d2]
  exact ⟨rfl, by omega⟩
structure LawAt (A : Around) (pm : Value) (cd L : Addr) : Prop where
 hr : Room (A.deeper (callEnvC (fd (st 29) "law" 3 pm (.ref cd) 0) L 241)) 29
 hG : ∀ x ∈ [Str.ofString "enumerate", Str.ofString "len", Str.ofString "_law_drawn", Str.ofString "range", Str.ofString "_law_written", Str.ofString "_law_typed", Str.ofString "_law_lexer", Str.ofString "_check_parenthesis", Str.ofString "_law_mail", Str.ofString "_law_value", Str.ofString "sum", Str.ofString "_law_figures", Str.ofString "_law_normed", Str.ofString "zip", Str.ofString "abs", Str.ofString "int_divmod"], (callEnvC (fd (st 29) "law" 3 pm (.ref cd) 0) L 241).kindOf x = some .globalImplicit
 hC : Cells (callEnvC (fd (st 29) "law" 3 pm (.ref cd) 0) L 241) [("width", L + 1 + 1 + 1 + 1), ("cells", L + 1 + 1 + 1), ("place", L + 1 + 1), ("script", L + 1)]
 hK : ∀ x ∈ [Str.ofString "width", Str.ofString "cells", Str.ofString "place", Str.ofString "script"], (callEnvC (fd (st 29) "law" 3 pm (.ref cd) 0) L 241).kindOf x = some .cell
theorem A_getL {c : Cx} {A : Around} {env : Env} {ρ : Loc} {K : List Fact} {Φ : SV → Loc → List Fact → Prop} {a : LexA} {l : List Nat} {n : Int} {pb : List (List Nat)} {ex : Bool} (hcl : ClsK c 115 lexFs lexNs) (hm : FLex a l n pb ∈ K) (hq : Φ (.int n) ρ K) :
  U1 Rep c A env ρ K (.ref a.x) (fun o => getAttr o (Str.ofString "lineno") ex) Φ :=
 A_getI hcl (.tail _ (.tail _ (.tail _ (.head _)))) List.mem_cons_self nb_lineno (Ins.joined (C := 115) (ρi := lrho n (.ref a.sx) a.P none) hm (.tail _ (.head _))) List.mem_cons_self rfl hq
theorem eqv_pair (x y : Int) : (PyData.tuple [PyData.int x, PyData.int y]).eqv (PyData.tuple [PyData.int x, PyData.int y]) = true := by simp [PyData.eqv, PyData.eqvAll]
theorem lit_t1 : lit "\" \nz" = [34, 32, 10, 122] := by decide +kernel
theorem lit_t2 : lit "\" \n\"z" = [34, 32, 10, 34, 122] := by decide +kernel
theorem eqv_end (a b d : Str) (x : Int) : (PyData.list [.str a, .str b, .str d, .int x]).eqv (.list [.str a, .str b, .str d, .int x]) = true := by simp [PyData.eqv, PyData.eqvAll]
theorem OkD.end_ (a b d : List Nat) (x : Int) (ha : ∀ k ∈ a, k < 0x110000) (hb : ∀ k ∈ b, k < 0x110000) (hd : ∀ k ∈ d, k < 0x110000) : OkD 20 (.list [.str (tx a), .str (tx b), .str (tx d), .int x]) := by
 refine OkD.list fun y hy => ?_
 simp only [List.mem_cons, List.not_mem_nil, or_false] at hy
 rcases hy with rfl | rfl | rfl | rfl
 ·exact .txt ha
 ·exact .txt hb
 ·exact .txt hd
 ·exact .int _
theorem cnt_small {a : Int} {m : Nat} (h : Builtin.Int.intBits a ≤ 2 ^ 17) (hm : 299 ≤ m) : cnt a m ≤ 2 ^ 12 := by
 unfold cnt
 apply Nat.div_le_of_le_mul
 have : m * 2 ^ 12 = m + m * 4095 := by omega
 have : 299 * 4095 ≤ m * 4095 := Nat.mul_le_mul_right _ hm
 omega
set_option maxHeartbeats 1000000 in
theorem law_D {c : Cx} (Fc : Fns c) {A : Around} {K : List Fact} {Ψ : SV → List Fact → Prop} {L cd : Addr} {pm : Value} (W : LawAt A pm cd L) {n : Nat} (hn : n = 3 ∨ n = 4) {V : Int} (hV : Builtin.Int.intBits V ≤ 8500) {a : LexA} {wr : List Nat} {ln : Int}
  (hln : ln + nls suff [] = 1 + (wr.count 10 : Nat)) (hwl : wr.length ≤ 2 ^ 12) {cls : List SV} {D : Addr} {c5 c6 : Int} (hc5 : cls[(5 : Int).toNat]? = some (.int c5)) (hc6 : cls[(6 : Int).toNat]? = some (.int c6)) (hcl : cls.length < 2 ^ 20) {γ : Loc} (hγ : (Str.ofString "cells", some (.ref D)) ∈ γ)
  {o1 o2 o3 o4 o5 o6 o7 o8 o9 : Option SV} (hΨ : Ψ (.bool true) K) :
  TS c (A.deeper (callEnvC (fd (st 29) "law" 3 pm (.ref cd) 0) L 241)) (callEnvC (fd (st 29) "law" 3 pm (.ref cd) 0) L 241)
   [("size", some (.int n)), ("text", o1), ("terms", o2), ("written", some (tS wr)), ("line", some (.ref a.x)), ("kept", o3), ("changed", o4), ("due", o5), ("many", o6), ("value", some (.int V)), ("figures", o7), ("turns", o8), ("total", some (.int (n * V))), ("told", o9), ("scale", none), ("rest", none)]
   (FLex a suff ln [] :: FList D cls :: FCs [("width", L + 1 + 1 + 1 + 1), ("cells", L + 1 + 1 + 1), ("place", L + 1 + 1), ("script", L + 1)] γ :: K)
   (execs ((bodyOf (st 29)).drop 15) (callEnvC (fd (st 29) "law" 3 pm (.ref cd) 0) L 241)) (Ret Ψ) := by
 obtain ⟨hr', hG, hC, hK⟩ := W
 obtain ⟨o, pmD, cdD, FD⟩ := Fc.f_int_divmod
 obtain ⟨oG, pmG, cdG, FG⟩ := Fc.m_get_token
 have hT := Fc.tops
 have hcx := lex_cls Fc
 obtain ⟨M, sg, hM, hsg, hs, hM2, hMb, q0, q1, e0, e1⟩ := scale_parts c5 c6 n hn
 generalize hq : c5.fmod 500 = q at *
 generalize he : (c5.fdiv 500).fmod 9000 = e at *
 refine S_cons ?_
 have hqb : Builtin.Int.intBits (2 * q + 1) ≤ 10 := bits_of_lt (by omega) (by omega)
 have m1 : IntMulOk 2 q := .of_left (by decide +kernel)
 have m2 : IntMulOk 2 (c6.fmod 2) := .of_left (by decide +kernel)
 have z1 : (0 : Int) ≤ 300 + e := by omega
 have z2 : (Builtin.Int.intBits (2 * q + 1) : Int) + (300 + e) ≤ 2 ^ 27 := by omega
 have hsb : Builtin.Int.intBits sg ≤ 64 := Nat.le_trans (bits_le (m := 2) (by omega)) (by decide)
 have m3 : IntMulOk M sg := .of_right hsb
 walk_at "W"
 rw [hq]
 walk_at "W"
 rw [he]
 walk_at "W"
 rw [hM]
 walk_at "W"
 rw [hsg]
 walk_at "W"
 refine Then.nx (S_cons ?_)
 have hMn : ((M.natAbs : Nat) : Int) = M := by omega
 have hMa : (((M * sg).natAbs : Nat) : Int) = M := by rcases hs with rfl | rfl <;> omega
 have hnM0 : 0 < (n : Int) * M := Int.mul_pos (by omega) (by omega)
 have hnb : Builtin.Int.intBits (n : Int) ≤ 3 := bits_nat (by omega)
 have k0 : 0 ≤ c6.fmod 1001 := Int.fmod_nonneg_of_pos _ (by decide)
 have k1 : c6.fmod 1001 < 1001 := Int.fmod_lt_of_pos _ (by decide)
 have m4 : IntMulOk (n : Int) M := .of_left (Nat.le_trans hnb (by decide))
 have m5 : IntMulOk ((n : Int) * M - 1) (c6.fmod 1001) := .of_right (Nat.le_trans (bits_of_lt (m := 10) k0 (by omega)) (by decide))
 have m6 : ∀ x, IntMulOk x sg := fun x => .of_right hsb
 have hr0 : 0 ≤ (((n : Int) * M - 1) * (c6.fmod 1001)).fdiv 1000 ∧ (((n : Int) * M - 1) * (c6.fmod 1001)).fdiv 1000 < n * M := by
  have p0 : 0 ≤ ((n : Int) * M - 1) * (c6.fmod 1001) := Int.mul_nonneg (by omega) k0
  have p1 : ((n : Int) * M - 1) * (c6.fmod 1001) ≤ (n * M - 1) * 1000 := Int.mul_le_mul_of_nonneg_left (by omega) (by omega)
  rw [Int.fdiv_eq_ediv_of_nonneg _ (by decide)]
  generalize ((n : Int) * M - 1) * (c6.fmod 1001) = y at p0 p1 ⊢
  omega
 refine S_Assign ?_ rfl
 refine U0.val (SV.int ((((n : Int) * M - 1) * (c6.fmod 1001)).fdiv 1000 * sg)) ?_ ?_
 ·walk_at "W"
  rw [hMa]
  have m8 : IntMulOk ((((n : Int) * M - 1) * (c6.fmod 1001)).fdiv 1000) 1 := .of_right (by decide +kernel)
  have m9 : IntMulOk ((((n : Int) * M - 1) * (c6.fmod 1001)).fdiv 1000) (-1) := .of_right (by decide +kernel)
  walk_at "W"
  refine ⟨fun hb => ?_, fun hb => ?_⟩
  ·have hb : 0 < M * sg := by simpa using hb
   have hs1 : sg = 1 := by
    rcases hs with e | e
    ·exact e
    ·rw [e] at hb; omega
   walk_at "W"
   exact ⟨by rw [hs1], rfl, rfl⟩
  ·have hb : ¬ 0 < M * sg := by simpa using hb
   have hs1 : sg = -1 := by
    rcases hs with e | e
    ·rw [e] at hb; omega
    ·exact e
   walk_at "W"
   exact ⟨by rw [hs1], rfl, rfl⟩
 generalize hr : (((n : Int) * M - 1) * (c6.fmod 1001)).fdiv 1000 = r0 at hr0 ⊢
 have m7 := m6 r0
 have hMs : Builtin.Int.intBits (M * sg) ≤ 9330 := Nat.le_trans (intBits_mul_le hMb (show Builtin.Int.intBits sg ≤ 2 from bits_le (by omega))) (by decide)
 have hVn : Builtin.Int.intBits ((n : Int) * V - n) ≤ 8504 := Nat.le_trans (intBits_sub_le (intBits_mul_le hnb hV) hnb) (by omega)
 have m8 : IntMulOk ((n : Int) * V - n) (M * sg) := .of_le hVn hMs (by decide)
 have m9 : IntMulOk (n : Int) (M * sg) := .of_left (Nat.le_trans hnb (by decide))
 have hr0b : Builtin.Int.intBits (r0 * sg) ≤ 9340 := by
  have h1 : Builtin.Int.intBits ((n : Int) * M) ≤ 3 + 9320 := intBits_mul_le hnb hMb
  have h2 : Builtin.Int.intBits r0 ≤ 3 + 9320 := intBits_le_of_natAbs (by omega) h1
  exact Nat.le_trans (intBits_mul_le h2 (show Builtin.Int.intBits sg ≤ 2 from bits_le (by omega))) (by decide)
 have hb1 : Builtin.Int.intBits ((n : Int) * (M * sg)) ≤ 16000 := Nat.le_trans (intBits_mul_le hnb hMs) (by decide)
 have ha1 : Builtin.Int.intBits (((n : Int) * V - n) * (M * sg) + r0 * sg) ≤ 2 ^ 17 := Nat.le_trans (intBits_add_le (intBits_mul_le hVn hMs) hr0b) (by decide)
 have hbz : (n : Int) * (M * sg) ≠ 0 := by
  rw [← Int.mul_assoc]
  rcases hs with rfl | rfl
  ·rw [Int.mul_one]; omega
  ·omega
 have hb2 : 299 ≤ Builtin.Int.intBits ((n : Int) * (M * sg)) := by
  have h1 : ¬ Builtin.Int.intBits ((n : Int) * (M * sg)) ≤ 298 := by
   rw [intBits_le_iff]
   have h2 : ((n : Int) * (M * sg)).natAbs = ((n : Int) * M).natAbs := by rcases hs with rfl | rfl <;> simp [Int.natAbs_mul]
   have h3 : M ≤ n * M := by rcases hn with rfl | rfl <;> omega
   rw [h2]
   have h4 : (2 : Nat) ^ 298 < 2 ^ 299 := by decide +kernel
   have h5 : ((2 ^ 299 : Nat) : Int) = 2 ^ 299 := by decide +kernel
   generalize (2 : Nat) ^ 299 = p at *
   generalize (2 : Nat) ^ 298 = p2 at *
   omega
  omega
 have hdm := divmod_law n hn V M sg r0 hs (by omega) hr0.1 hr0.2
 walk_at "W"
 refine Then.nx (S_cons ?_)
 walk_at "W"
 refine int_divmod Fc (hr'.le (by omega)) hbz hb1 ha1 (cnt_small ha1 hb2) (Fx.mk ?_)
 rw [hdm.1, hdm.2]
 walk_at "W"
 refine o_neD (.tup (.cons (.int _) (.cons (.int _) .nil))) (.tup (.cons (.int _) (.cons (.int _) .nil))) (OkD.tup (fun d hd => ?_)) (OkD.tup (fun d hd => ?_)) ?_
 ·simp only [List.mem_cons, List.not_mem_nil, or_false] at hd
  rcases hd with rfl | rfl <;> exact .int _
 ·simp only [List.mem_cons, List.not_mem_nil, or_false] at hd
  rcases hd with rfl | rfl <;> exact .int _
 rw [eqv_pair]
 walk_at "W"
 refine ⟨fun h => absurd h (by decide), fun _ => ?_⟩
 refine S_nil (Then.nx ?_)
 walk_at "W"
 refine E_Meth (name := Str.ofString "get_token") FG nb_get_token ?_ rfl rfl rfl
 walk_at "W"
 refine ex_methL hcx (by walk_at "mem") (by walk_at "mem") (by decide) ?_
 walk_at "W"
 refine get_call Fc (l := suff) (hr'.le (by omega)) (by decide) (by walk_at "chg") (Fx.mk ?_)
 rw [tok_suff]
 walk_at "W"
 refine E_Meth (name := Str.ofString "get_token") FG nb_get_token ?_ rfl rfl rfl
 walk_at "W"
 refine ex_methL hcx (by walk_at "mem") (by walk_at "mem") (by decide) ?_
 walk_at "W"
 refine get_call Fc (l := [92, 34, 92, 32, 92, 10, 34, 122]) (hr'.le (by omega)) (by decide) (by walk_at "chg") (Fx.mk ?_)
 dsimp only
 rw [tok_suff2]
 walk_at "W"
 refine E_Meth (name := Str.ofString "get_token") FG nb_get_token ?_ rfl rfl rfl
 walk_at "W"
 refine ex_methL hcx (by walk_at "mem") (by walk_at "mem") (by decide) ?_
 walk_at "W"
 refine get_call Fc (l := []) (hr'.le (by omega)) (by decide) (by walk_at "chg") (Fx.mk ?_)
 dsimp only
 rw [tok_suff3]
 walk_at "W"
 refine A_getL hcx (by walk_at "mem") ?_
 walk_at "W"
 have hX : ln + nls suff [92, 34, 92, 32, 92, 10, 34, 122] + nls [92, 34, 92, 32, 92, 10, 34, 122] [] + nls [] [] = 1 + ((wr.count 10 : Nat) : Int) := by
  rw [← hln]; unfold nls; omega
 dsimp only
 rw [hX, lit_t1, lit_t2, lit_e]
 refine o_eqD (.list (by walk_at "mem") (.cons (.str _) (.cons (.str _) (.cons (.str _) (.cons (.int _) .nil))))) (.list List.mem_cons_self (.cons (.str _) (.cons (.str _) (.cons (.str _) (.cons (.int _) .nil))))) (OkD.end_ _ _ _ _ (by decide) (by decide) (by decide)) (OkD.end_ _ _ _ _ (by decide) (by decide) (by decide)) ?_
 rw [show ((UInt8.ofNat '\n'.val.toNat).toNat) = 10 from rfl, eqv_end]
 exact ⟨K, by walk_at "subl", hΨ⟩
theorem nrm_in : ∀ (u : List Nat), ∀ f ∈ nrm u, ∀ m ∈ f, m ∈ u
 | [], f, hf, m, hm => by cases hf
 | x :: r, f, hf, m, hm => by
  have key : ∀ (r : List Nat) (q : List (List Nat)) (P : Nat → Prop), (∀ f ∈ q, ∀ m ∈ f, P m) → (∀ y ∈ r, P y) → ∀ f ∈ r.foldl nrmS q, ∀ m ∈ f, P m := by
   intro r
   induction r with
   | nil => intro q P hq _ f hf m hm; exact hq f hf m hm
   | cons y r ih =>
    intro q P hq hr
    refine ih (nrmS q y) P ?_ fun z hz => hr z (List.mem_cons_of_mem _ hz)
    intro f hf m hm
    obtain ⟨g, hg, hf⟩ := List.mem_flatMap.mp hf
    have hy := hr y List.mem_cons_self
    simp only [List.mem_cons, List.not_mem_nil, or_false] at hf
    rcases hf with rfl | rfl
    ·rcases List.mem_append.mp hm with hm | hm
     ·exact hq g hg m hm
     ·rw [List.mem_singleton.mp hm]; exact hy
    ·rcases List.mem_append.mp hm with hm | hm
     ·rw [List.mem_singleton.mp hm]; exact hy
     ·exact hq g hg m hm
  exact key r [[x]] (fun m => m ∈ x :: r) (by intro f hf m hm; rw [List.mem_singleton.mp hf] at hm; rw [List.mem_singleton.mp hm]; exact List.mem_cons_self) (fun y hy => List.mem_cons_of_mem _ hy) f hf m hm
theorem nrm_size (n p : Nat) (hn : 0 < n) : (nrm (wd n p)).length = 2 ^ (n - 1) ∧ ∀ f ∈ nrm (wd n p), f.length = n := by
 obtain ⟨m, rfl⟩ : ∃ m, n = m + 1 := ⟨n - 1, by omega⟩
 have h := nrm_fold (filAt (p / 3 ^ m % 3)) (wd m p)
 have hl := (wd_fil m p).2
 rw [wd_succ]
 rw [hl] at h
 exact h
theorem turnL_pm (n : Nat) (hn : n = 3 ∨ n = 4) : (∀ a ∈ turnL n, a = 1 ∨ a = -1) ∧ (turnL n).length = 2 ^ (n - 1) := by
 rcases hn with rfl | rfl
 ·rw [turnL3]; decide
 ·rw [turnL4]; decide
def tot (w n : Nat) (ts : List Tm) (p : Nat) : Int := ((List.range p).map fun q => cf ts q * nv (fun u => 2 ^ (w * plN u)) n (wd n q)).sum
theorem tot_succ (w n : Nat) (ts : List Tm) (p : Nat) : tot w n ts (p + 1) = tot w n ts p + cf ts p * nv (fun u => 2 ^ (w * plN u)) n (wd n p) := by
 unfold tot
 rw [List.range_succ, List.map_append, List.sum_append]; simp
theorem fdiv_nat (p j : Nat) : ((p : Int).fdiv (3 ^ j)).fmod 3 = ((p / 3 ^ j % 3 : Nat) : Int) := by
 have e : ((3 ^ j : Nat) : Int) = 3 ^ j := Int.natCast_pow 3 j
 rw [← e, Int.fdiv_eq_ediv_of_nonneg _ (Int.natCast_nonneg _), Int.fmod_eq_emod_of_nonneg _ (by decide)]
 push_cast; rfl
theorem cf_small (t : Tr) (h4 : t.leaves ≤ 4) (p : Nat) : Builtin.Int.intBits (cf t.terms p) ≤ 4 := by
 have h1 := cf_bound p t.terms t.terms_pm
 have h2 := t.terms_len
 have h3 : 2 ^ t.leaves ≤ 2 ^ 4 := Nat.pow_le_pow_right (by decide) h4
 exact bits_le (by omega)
set_option maxHeartbeats 2000000 in
theorem law_C {c : Cx} (Fc : Fns c) {A : Around} {K : List Fact} {Ψ : SV → List Fact → Prop} {L cd : Addr} {pm : Value} (W : LawAt A pm cd L) {n : Nat} (hn : n = 3 ∨ n = 4) {T : Tr} (hTo : T.ok) (hTl : T.leaves = n) {w : Nat} (hw : 5 ≤ w) (hw2 : w ≤ 104) {a : LexA} {wr : List Nat} {ln : Int}
  (hln : ln + nls suff [] = 1 + (wr.count 10 : Nat)) (hwl : wr.length ≤ 2 ^ 12) {cls : List SV} {D : Addr} {c5 c6 : Int} (hc5 : cls[(5 : Int).toNat]? = some (.int c5)) (hc6 : cls[(6 : Int).toNat]? = some (.int c6)) (hcl : cls.length < 2 ^ 20)
  {o1 o2 o3 o4 o5 oP oS : Option SV} (hfl : flatL [("", o1), ("", o2), ("", o3), ("", o4), ("", o5), ("", oS)] = true) (hΨ : Ψ (.bool true) K) :
  TS c (A.deeper (callEnvC (fd (st 29) "law" 3 pm (.ref cd) 0) L 241)) (callEnvC (fd (st 29) "law" 3 pm (.ref cd) 0) L 241)
   [("size", some (.int n)), ("text", o1), ("terms", o2), ("written", some (tS wr)), ("line", some (.ref a.x)), ("kept", o3), ("changed", o4), ("due", o5), ("many", some (.int ((3 ^ T.leaves : Nat) : Int))), ("value", some (.int (vl w T.terms))), ("figures", none), ("turns", none), ("total", none), ("told", none), ("scale", none), ("rest", none)]
   (FLex a suff ln [] :: FList D cls :: FCs [("width", L + 1 + 1 + 1 + 1), ("cells", L + 1 + 1 + 1), ("place", L + 1 + 1), ("script", L + 1)] [("width", some (.int w)), ("cells", some (.ref D)), (Str.ofString "place", oP), (Str.ofString "script", oS)] :: K)
   (execs ((bodyOf (st 29)).drop 11) (callEnvC (fd (st 29) "law" 3 pm (.ref cd) 0) L 241)) (Ret Ψ) := by
 have W0 := W
 obtain ⟨hr', hG, hC, hK⟩ := W
 obtain ⟨oF, pmF, cdF, FF⟩ := Fc.f_law_figures
 obtain ⟨oN, pmN, cdN, FN⟩ := Fc.f_law_normed
 obtain ⟨oQ, pmQ, cdQ, FQ⟩ := Fc.f_law_place
 obtain ⟨ti, _, _, _, oi, pmi, Fi⟩ := Fc.f_int2digits
 have hT := Fc.tops
 refine S_cons ?_
 walk_at "W"
 refine TCall.new1 (fun Ψ hΨ => figures_tree Fc T hTo (by omega) hw hw2 (hr'.le (by omega)) hΨ) fun df => ?_
 walk_at "W"
 refine Then.nx (S_cons ?_)
 have hb2 : Builtin.Int.intBits 2 = 2 := by decide +kernel
 have hp1 : (0 : Int) ≤ (n : Int) - 1 := by omega
 have hp2 : (Builtin.Int.intBits 2 : Int) * ((n : Int) - 1) ≤ 2 ^ 27 := by rw [hb2]; omega
 have hpw : (2 : Int) ^ ((n : Int) - 1).toNat = ((2 ^ (n - 1) : Nat) : Int) := by
  rw [show ((n : Int) - 1).toNat = n - 1 by omega, Int.natCast_pow]; rfl
 have hpl : 2 ^ (n - 1) ≤ 2 ^ 3 := Nat.pow_le_pow_right (by decide) (by omega)
 refine S_AssignLC (cl := []) (xs0 := ["k"]) (by walk_at "comp") ?_ rfl (by intro _; rfl)
 walk_at "W"
 rw [hpw]
 refine CompI.rangeT hr'.hh (by walk_at "mem") (Int.natCast_nonneg _) (by omega) (fun k => [SV.int (turnF k)]) ?_ ?_
 ·intro C D' G acc k hk ρc hρ
  obtain ⟨o6, rfl⟩ := names1 hρ
  have hk : k < 2 ^ (n - 1) := by have := List.mem_range.mp hk; omega
  have hkb : Builtin.Int.intBits (k : Int) ≤ 3 := bits_nat (by omega)
  have hcnt : cnt (k : Int) 1 ≤ 2 ^ 12 := by unfold cnt; rw [Nat.div_one]; omega
  have hmul : IntMulOk 2 ((figs (k : Int) 1 (cnt (k : Int) 1)).sum.fmod 2) := .of_left (by decide +kernel)
  refine U1.sees [] [Str.ofString "sum", Str.ofString "_int2digits"] (by walk_at "cells") (by walk_at "globs") fun hC2 hG2 => ?_
  walk_at "W"
  refine TCall.new1 (fun Ψ hΨ => int2digits Fc (x := (k : Int)) (n := 1) (hr'.le (by omega)) (Int.natCast_nonneg _) (Nat.le_refl _) (by omega) hcnt hΨ) fun d => ?_
  walk_at "W"
  refine x_sum (ns := figs (k : Int) 1 (cnt (k : Int) 1)) List.mem_cons_self ?_
  walk_at "W"
  walk_at "pick"
 ·intro D1
  rw [flatI, Int.toNat_natCast, show (List.range (2 ^ (n - 1))).map turnF = turnL n from rfl]
  walk_at "W"
  refine Then.nx (S_cons ?_)
  walk_at "W"
  refine Then.nx (S_cons ?_)
  have p1 : 3 ^ T.leaves ≤ 3 ^ 4 := Nat.pow_le_pow_right (by decide) (by omega)
  generalize hN : 3 ^ T.leaves = N at *
  refine S_ForI ?_ (fun _ => rfl)
  walk_at "W"
  rename_i r2 r1
  have hI := Itb.rangeN (c := c) (A := A.deeper (callEnvC (fd (st 29) "law" 3 pm (.ref cd) 0) L 241)) hr'.hh (r := r1) (b := ((N : Nat) : Int)) (K := FRange r1 0 ((N : Nat) : Int) :: FList D1 ((turnL n).map .int) :: FRange r2 0 ((2 ^ (n - 1) : Nat) : Int) :: FList df (ivs (cof T.leaves T.terms)) :: FLex a suff ln [] :: FList D cls :: FCs [("width", L + 1 + 1 + 1 + 1), ("cells", L + 1 + 1 + 1), ("place", L + 1 + 1), ("script", L + 1)] [("width", some (.int w)), ("cells", some (.ref D)), (Str.ofString "place", oP), (Str.ofString "script", oS)] :: K) List.mem_cons_self (Int.natCast_nonneg _) (by omega)
  rw [Int.toNat_natCast, List.range_eq_range'] at hI
  refine ⟨_, _, _, _, fun rest ρ1 K1 => ∃ p m oT oP, p + m = N ∧ rest = (List.range' p m).map (fun (i : Nat) => SV.int i) ∧ flatL [("", oT)] = true ∧
    ρ1 = ([("size", some (.int n)), ("text", o1), ("terms", o2), ("written", some (tS wr)), ("line", some (.ref a.x)), ("kept", o3), ("changed", o4), ("due", o5), ("many", some (.int (N : Nat))), ("value", some (.int (vl w T.terms))), ("figures", some (.ref df)), ("turns", some (.ref D1)), ("total", some (.int (tot w n T.terms p))), ("told", oT), ("scale", none), ("rest", none)] : Loc) ∧
    K1 = FRange r1 0 ((N : Nat) : Int) :: FList D1 ((turnL n).map .int) :: FRange r2 0 ((2 ^ (n - 1) : Nat) : Int) :: FList df (ivs (cof T.leaves T.terms)) :: FLex a suff ln [] :: FList D cls :: FCs [("width", L + 1 + 1 + 1 + 1), ("cells", L + 1 + 1 + 1), ("place", L + 1 + 1), ("script", L + 1)] [("width", some (.int w)), ("cells", some (.ref D)), (Str.ofString "place", oP), (Str.ofString "script", oS)] :: K,
   hI, trivial, ?start, by simp, ?turn, ?fin⟩
  case start => exact ⟨0, N, none, oP, by omega, rfl, rfl, rfl, rfl⟩
  case turn =>
   rintro F0 v rest ρ2 _ ⟨p, m, oT, oP, hpm, hrest, hflT, rfl, rfl⟩ hnn
   cases m with
   | zero => cases hrest
   | succ m =>
    rw [List.range'_succ, List.map_cons] at hrest
    obtain ⟨rfl, rfl⟩ := List.cons.inj hrest
    have hcf : (ivs (cof T.leaves T.terms))[((p : Nat) : Int).toNat]? = some (.int (cf T.terms p)) := by
     rw [Int.toNat_natCast]
     unfold ivs cof
     rw [hN, List.getElem?_map, List.getElem?_map, List.getElem?_range (by omega)]; rfl
    have hp0 : (0 : Int) ≤ ((p : Nat) : Int) := Int.natCast_nonneg _
    have hvl : (ivs (cof T.leaves T.terms)).length < 2 ^ 20 := by unfold ivs; rw [List.length_map, cof_len, hN]; omega
    refine G_Cell hC (by walk_at "mem") hK (by walk_at "mem") (by walk_at "chg") (by walk_at "mem") (by walk_at "put") ?_
    walk_at "W"
    refine ⟨fun hb => ?_, fun hb => ?_⟩
    ·refine S_cons ?_
     walk_at "W"
     refine E_ListComp (cl := [("place", L + 1 + 1)]) (xs0 := ["k"]) (by walk_at "comp") ?_ (by intro _; rfl)
     walk_at "W"
     rename_i r3
     have hsz : Builtin.Range.rangeSize ((n : Int) - 1) (-1) (-1) = n := by rcases hn with rfl | rfl <;> decide +kernel
     have hsm : Builtin.Range.small ((n : Int) - 1) (-1) (-1) = true := by rcases hn with rfl | rfl <;> decide +kernel
     have hI2 := Itb.rangeS (c := c) (A := A.deeper (callEnvC (fd (st 29) "law" 3 pm (.ref cd) 0) L 241)) hr'.hh (r := r3) (a := (n : Int) - 1) (b := -1) (st := -1) (n := n) (K := FRange3 r3 ((n : Int) - 1) (-1) (-1) :: F0 :: FRange r1 0 ((N : Nat) : Int) :: FList D1 ((turnL n).map .int) :: FRange r2 0 ((2 ^ (n - 1) : Nat) : Int) :: FList df (ivs (cof T.leaves T.terms)) :: FLex a suff ln [] :: FList D cls :: FCs [("width", L + 1 + 1 + 1 + 1), ("cells", L + 1 + 1 + 1), ("place", L + 1 + 1), ("script", L + 1)] [("width", some (.int w)), ("cells", some (.ref D)), ("place", some (.int p)), (Str.ofString "script", oS)] :: K) List.mem_cons_self hsz hsm
     rw [iotaS_eq] at hI2
     refine CompI.pure (List.range n) _ (fun i => [tS [filAt (p / 3 ^ (n - 1 - i) % 3)]]) hI2 trivial (by simp) (by rw [List.length_range]; omega) ?_ ?_
     ·intro C D' G acc i hi ρc hρ
      obtain ⟨o6, rfl⟩ := names1 hρ
      have hi : i < n := List.mem_range.mp hi
      have hj : (n : Int) - 1 + (i : Int) * -1 = ((n - 1 - i : Nat) : Int) := by omega
      rw [hj]
      generalize hjj : n - 1 - i = j
      have hj4 : j < 4 := by omega
      have hb3 : Builtin.Int.intBits 3 = 2 := by decide +kernel
      have hp2 : (Builtin.Int.intBits 3 : Int) * (j : Int) ≤ 2 ^ 27 := by rw [hb3]; omega
      have hp1 : (0 : Int) ≤ (j : Int) := by omega
      have hq := pow3_fits j (by omega) (p : Int)
      have hz1 : (3 : Int) ^ ((j : Int)).toNat ≠ 0 := hq.1
      have hz2 : Builtin.divisionGoesByPylong (p : Int) (3 ^ ((j : Int)).toNat) = false := hq.2
      have hf := fil_at ((p : Int).fdiv (3 ^ ((j : Int)).toNat))
      have hf1 := hf.1
      have hf2 := hf.2
      refine U1.sees [("place", L + 1 + 1)] [] (by walk_at "cells") (by walk_at "globs") fun hC2 hG2 => ?_
      walk_at "W"
      rw [Int.toNat_natCast, fdiv_nat, Int.toNat_natCast]
      exact ⟨rfl, by walk_at "pick"⟩
     ·intro D'
      rw [flatT]
      walk_at "W"
      have hwd := wd_fil n p
      have hflat : ((List.range n).map fun i => [filAt (p / 3 ^ (n - 1 - i) % 3)]).flatten = wd n p := flat_ones _ _
      refine x_joinL (ts := (List.range n).map fun i => [filAt (p / 3 ^ (n - 1 - i) % 3)]) lit_e (by walk_at "mem") (by rw [hflat, hwd.2]; omega) ?_
      rw [hflat]
      walk_at "W"
      have hns := nrm_size n p (by omega)
      have hni := nrm_in (wd n p)
      have hnv : nv (fun u => 2 ^ (w * plN u)) n (wd n p) = (((turnL n).zip (nrm (wd n p))).map fun q => q.1 * 2 ^ (w * plN q.2)).sum := rfl
      obtain ⟨x, r, hxr⟩ : ∃ x r, wd n p = x :: r := by
       cases hw0 : wd n p with
       | nil => rw [hw0] at hwd; simp at hwd; omega
       | cons x r => exact ⟨x, r, rfl⟩
      rw [hxr] at hwd hns hni hnv ⊢
      refine TCall.new1 (fun Ψ hΨ => normed_call Fc (hr'.le (by omega)) (by walk_at "rem") (by rw [hwd.2]; omega) hΨ) fun dn => ?_
      walk_at "W"
      refine Then.nx ?_
      walk_at "W"
      refine E_ListCompZ (cl := [("width", L + 1 + 1 + 1 + 1)]) (xs0 := ["turn", "word"]) (by walk_at "comp") (fun g hg => ?_) (by intro _; rfl)
      walk_at "W"
      have hcfb := cf_small T (by omega) p
      have htp := turnL_pm n hn
      refine x_zip (Ku := [FList dn ((nrm (x :: r)).map tS), FList D1 ((turnL n).map .int), FCs [("width", L + 1 + 1 + 1 + 1), ("cells", L + 1 + 1 + 1), ("place", L + 1 + 1), ("script", L + 1)] [("width", some (.int w)), ("cells", some (.ref D)), ("place", some (.int p)), (Str.ofString "script", oS)]]) (by walk_at "pick") (by walk_at "mem") (by walk_at "mem") fun z TI TO i1 i2 R hR hTO => ?_
      refine ⟨z, TI, TO, i1, i2, D1, dn, R, _, turnL n, nrm (x :: r), fun t u => t * 2 ^ (w * plN u), rfl, rfl, hR, hTO, by walk_at "mem", by walk_at "mem", ?over, ?flat, by rw [htp.2, hns.1], by rw [htp.2]; omega, trivial, ?turn2, fun D2 => ?_⟩
      case over =>
       intro f hf
       simp only [List.mem_cons, List.not_mem_nil, or_false] at hf
       rcases hf with rfl | rfl | rfl
       ·exact Over.list (txs_flat _)
       ·exact Over.list (ints_flat _)
       ·refine Over.cells ?_
        unfold flatL at hfl ⊢
        simp only [List.all_cons, List.all_nil, Bool.and_eq_true] at hfl ⊢
        repeat' (first | exact trivial | rfl | exact hfl.2.2.2.2.2.1 | apply And.intro)
      case flat =>
       unfold flatL at hfl ⊢
       simp only [List.all_cons, List.all_nil, Bool.and_eq_true] at hfl ⊢
       obtain ⟨f1, f2, f3, f4, f5, f6, _⟩ := hfl
       repeat' (first | exact trivial | rfl | assumption | apply And.intro)
      case turn2 =>
       intro C D3 G G2 acc ta hta tb htb ρc hρ
       obtain ⟨o6, o7, rfl⟩ := names2 hρ
       have htbl := hns.2 tb htb
       have htbf : ∀ m ∈ tb, m ∈ fil := fun m hm => hwd.1 m (hni tb htb m hm)
       have hpb := plN_lt tb htbf
       rw [htbl] at hpb
       have hpb4 : 3 ^ n ≤ 3 ^ 4 := Nat.pow_le_pow_right (by decide) (by omega)
       have hrange : ∀ m ∈ tb, 102 ≤ m ∧ m ≤ 108 := by
        intro m hm
        have := htbf m hm
        simp only [fil, List.mem_cons, List.not_mem_nil, or_false] at this
        omega
       have hmul : IntMulOk (w : Int) ((plN tb : Nat) : Int) := .of_right (Nat.le_trans (bits_nat (m := 7) (by omega)) (by decide))
       have hq1 : w * plN tb ≤ 104 * 81 := Nat.mul_le_mul hw2 (by omega)
       have hs1 : (0 : Int) ≤ ((w * plN tb : Nat) : Int) := Int.natCast_nonneg _
       have hta1 : Builtin.Int.intBits ta ≤ 1 := bits_le (by have := htp.1 ta hta; omega)
       have hs2 : (Builtin.Int.intBits ta : Int) + ((w * plN tb : Nat) : Int) ≤ 2 ^ 27 := by omega
       refine U1.sees [("width", L + 1 + 1 + 1 + 1)] [Str.ofString "_law_place"] (by walk_at "cells") (by walk_at "globs") fun hC2 hG2 => ?_
       walk_at "W"
       refine place_call Fc (hr'.le (by omega)) (by omega) hrange (Fx.mk ?_)
       rw [plc_plN tb htbf]
       walk_at "W"
       walk_at "pick"
      have hmul2 : IntMulOk (cf T.terms p) (((turnL n).zip (nrm (x :: r))).map fun q => (fun (t : Int) (u : List Nat) => t * 2 ^ (w * plN u)) q.1 q.2).sum := .of_left (Nat.le_trans hcfb (by decide))
      walk_at "W"
      refine TurnI.nx (K5 := FRange r1 0 ((N : Nat) : Int) :: FList D1 ((turnL n).map .int) :: FRange r2 0 ((2 ^ (n - 1) : Nat) : Int) :: FList df (ivs (cof T.leaves T.terms)) :: FLex a suff ln [] :: FList D cls :: FCs [("width", L + 1 + 1 + 1 + 1), ("cells", L + 1 + 1 + 1), ("place", L + 1 + 1), ("script", L + 1)] [("width", some (.int w)), ("cells", some (.ref D)), ("place", some (.int p)), (Str.ofString "script", oS)] :: K) (by walk_at "pick") ⟨p + 1, m, some (.ref dn), _, by omega, rfl, rfl, ?_, rfl⟩
      rw [tot_succ, hxr, hnv]
    ·have hb : cf T.terms p = 0 := by simpa using hb
     refine S_nil (TurnI.nx (K5 := FRange r1 0 ((N : Nat) : Int) :: FList D1 ((turnL n).map .int) :: FRange r2 0 ((2 ^ (n - 1) : Nat) : Int) :: FList df (ivs (cof T.leaves T.terms)) :: FLex a suff ln [] :: FList D cls :: FCs [("width", L + 1 + 1 + 1 + 1), ("cells", L + 1 + 1 + 1), ("place", L + 1 + 1), ("script", L + 1)] [("width", some (.int w)), ("cells", some (.ref D)), ("place", some (.int p)), (Str.ofString "script", oS)] :: K) (by walk_at "pick") ⟨p + 1, m, oT, _, by omega, rfl, hflT, ?_, rfl⟩)
     rw [tot_succ, hb, Int.zero_mul, Int.add_zero]
  case fin =>
   rintro ρ2 _ ⟨p, m, oT, oP, hpm, hrest, hflT, rfl, rfl⟩ hnn
   obtain rfl : m = 0 := by cases m with | zero => rfl | succ m => rw [List.range'_succ] at hrest; cases hrest
   obtain rfl : p = N := by omega
   refine S_nil (Then.nx ?_)
   have htt : tot w n T.terms p = n * vl w T.terms := by
    rw [← total_is T hTo n hTl hn w, ← hTl, hN]; rfl
   rw [htt]
   refine U0.pick (K' := FLex a suff ln [] :: FList D cls :: FCs [("width", L + 1 + 1 + 1 + 1), ("cells", L + 1 + 1 + 1), ("place", L + 1 + 1), ("script", L + 1)] [("width", some (.int w)), ("cells", some (.ref D)), (Str.ofString "place", oP), (Str.ofString "script", oS)] :: K) (by walk_at "pick") ?_
   have hVb := T.vl_bits hTo (by omega) w
   have hw3 : w * 3 ^ T.leaves ≤ 104 * 81 := by rw [hN]; exact Nat.mul_le_mul hw2 (by omega)
   exact law_D Fc W0 hn (by omega) hln hwl hc5 hc6 hcl (.tail _ (.head _)) hΨ
theorem sub_init (l : List Nat) (h : l ≠ []) : sub l none (some (-1)) = l.take (l.length - 1) := by
 unfold sub slo shi cl
 have hl := List.length_pos_iff.mpr h
 simp only [List.drop_zero, Nat.sub_zero]
 rw [if_pos (by omega)]
 congr 1; omega
theorem filt_map (l : List Nat) : (l.flatMap fun n => if isB1 n then [] else [tS [n]]) = (l.filter fun n => !isB1 n).map fun n => tS [n] := by
 induction l with
 | nil => rfl
 | cons n l ih =>
  rw [List.flatMap_cons, ih]
  cases h : isB1 n
  ·rw [List.filter_cons_of_pos (by simp [h])]; simp
  ·rw [List.filter_cons_of_neg (by simp [h])]; simp
theorem flat_none {α β : Type} (l : List α) : (l.flatMap fun _ => ([] : List β)) = [] := by
 induction l with
 | nil => rfl
 | cons a l ih => rw [List.flatMap_cons, ih]; rfl
def tries (t : Tr) : List (List Nat × Bool) := [(t.text, true), (t.text.take (t.text.length - 1), false), (t.text.drop 1 ++ t.text.take 1, false)]
theorem tries_ok (t : Tr) (h : t.ok) (h2 : 2 ≤ t.leaves) : ∀ p ∈ tries t, (∀ m ∈ p.1, m ∈ lawSigns) ∧ bal p.1 0 = p.2 ∧ p.1.length ≤ t.text.length := by
 have hs := t.signs h
 have hl := t.text_len
 cases t with
 | leaf m => simp [Tr.leaves] at h2
 | node a b =>
  intro p hp
  simp only [tries, List.mem_cons, List.not_mem_nil, or_false] at hp
  rcases hp with rfl | rfl | rfl
  ·exact ⟨hs, Tr.bal_whole _ h, Nat.le_refl _⟩
  ·exact ⟨fun m hm => hs m (List.mem_of_mem_take hm), Tr.bal_cut _ h _ (by omega) (by omega), by rw [List.length_take]; omega⟩
  ·refine ⟨fun m hm => ?_, Tr.bal_turned a b h, by rw [List.length_append, List.length_drop, List.length_take]; omega⟩
   rcases List.mem_append.mp hm with hm | hm
   ·exact hs m (List.mem_of_mem_drop hm)
   ·exact hs m (List.mem_of_mem_take hm)
set_option maxHeartbeats 2000000 in
theorem law_B {c : Cx} (Fc : Fns c) {A : Around} {K : List Fact} {Ψ : SV → List Fact → Prop} {L cd : Addr} {pm : Value} (W : LawAt A pm cd L) {n : Nat} (hn : n = 3 ∨ n = 4) {T : Tr} (hTo : T.ok) (hTl : T.leaves = n) {a : LexA} {c2 c3 c4 c5 c6 : Int} {wr : List Nat} (hwr : wr = writ c3 (typ T.text c2) ++ suff)
  {cls : List SV} {D dt S : Addr} (hc4 : cls[(4 : Int).toNat]? = some (.int c4)) (hc5 : cls[(5 : Int).toNat]? = some (.int c5)) (hc6 : cls[(6 : Int).toNat]? = some (.int c6)) (hcl : cls.length < 2 ^ 20) (hΨ : Ψ (.bool true) K) :
  TS c (A.deeper (callEnvC (fd (st 29) "law" 3 pm (.ref cd) 0) L 241)) (callEnvC (fd (st 29) "law" 3 pm (.ref cd) 0) L 241)
   [("size", some (.int n)), ("text", some (tS T.text)), ("terms", some (.ref dt)), ("written", some (tS wr)), ("line", some (.ref a.x)), ("kept", none), ("changed", none), ("due", none), ("many", none), ("value", none), ("figures", none), ("turns", none), ("total", none), ("told", none), ("scale", none), ("rest", none)]
   (FLex a wr 1 [] :: FList dt (T.terms.map tmE) :: FList D cls :: FCs [("width", L + 1 + 1 + 1 + 1), ("cells", L + 1 + 1 + 1), ("place", L + 1 + 1), ("script", L + 1)] [("width", none), ("cells", some (.ref D)), ("place", none), ("script", some (.ref S))] :: K)
   (execs ((bodyOf (st 29)).drop 5) (callEnvC (fd (st 29) "law" 3 pm (.ref cd) 0) L 241)) (Ret Ψ) := by
 have W0 := W
 obtain ⟨hr', hG, hC, hK⟩ := W
 obtain ⟨o1, pm1, cd1, F1⟩ := Fc.f_in_table_b1
 obtain ⟨o2, pm2, cd2, F2⟩ := Fc.f_map_table_b3
 obtain ⟨o3, pm3, cd3, F3⟩ := Fc.f_law_mail
 obtain ⟨o4, pm4, cd4, F4⟩ := Fc.f_check_parenthesis
 obtain ⟨o5, pm5, cd5, F5⟩ := Fc.f_law_value
 obtain ⟨o6, pm6, cd6, F6⟩ := Fc.f_law_place
 obtain ⟨oG, pmG, cdG, FG⟩ := Fc.m_get_token
 have hT := Fc.tops
 have hcx := lex_cls Fc
 have hsg := T.signs hTo
 have htl := T.text_len
 have hne : T.text ≠ [] := by intro e; rw [e] at htl; simp at htl; omega
 obtain ⟨hfold, hgood⟩ := typ_reads T.text.length T.text c2 (Nat.le_refl _) hsg
 have htyl := typ_len T.text.length T.text c2 (Nat.le_refl _)
 have htok := tok_writ c3 (typ T.text c2) suff (fun m hm => (hgood m hm).1) (typ_ne _ _ hne)
 rw [← hwr] at htok
 have hwl : wr.length ≤ 2 ^ 10 := by
  have hs := slashed_len 3 c3 (typ T.text c2)
  rw [hwr]
  unfold writ
  split <;> (simp only [List.length_append, List.length_cons, List.length_nil, suff]; omega)
 generalize typ T.text c2 = ty at *
 refine S_cons ?_
 refine S_AssignLC (cl := []) (xs0 := ["sign"]) (by walk_at "comp") ?_ rfl (by intro _; rfl)
 walk_at "W"
 refine E_Meth (name := Str.ofString "get_token") FG nb_get_token ?_ rfl rfl rfl
 walk_at "W"
 refine ex_methL hcx (by walk_at "mem") (by walk_at "mem") (by decide) ?_
 walk_at "W"
 refine get_call Fc (l := wr) (hr'.le (by omega)) (by omega) (by walk_at "chg") (Fx.mk ?_)
 rw [htok]
 dsimp only
 have hln : 1 + nls wr suff + nls suff [] = 1 + ((wr.count 10 : Nat) : Int) := by unfold nls; simp; omega
 generalize 1 + nls wr suff = ln at hln ⊢
 refine CompI.strT hr'.hh ty (fun m => if isB1 m then [] else [tS [m]]) (by omega) ?_ ?_
 ·intro C D' G acc m hm ρc hρ
  obtain ⟨o7, rfl⟩ := names1 hρ
  refine U1.sees [] [Str.ofString "in_table_b1"] (by walk_at "cells") (by walk_at "globs") fun hC2 hG2 => ?_
  walk_at "W"
  refine b1_call Fc (hr'.le (by omega)) (Fx.mk ?_)
  walk_at "W"
  cases hb1 : isB1 m
  ·refine ⟨fun _ => ?_, fun h => absurd h (by decide)⟩
   walk_at "W"
   walk_at "pick"
  ·refine ⟨fun h => absurd h (by decide), fun _ => ?_⟩
   exact ⟨rfl, by walk_at "pick"⟩
 ·intro D1
  rw [filt_map]
  have hkl : ∀ m ∈ ty.filter (fun n => !isB1 n), isB1 m = false ∧ m ∈ b3D := by
   intro m hm
   obtain ⟨h1, h2⟩ := List.mem_filter.mp hm
   have h2 : isB1 m = false := by simpa using h2
   exact ⟨h2, (hgood m h1).2 h2⟩
  have hkn : (ty.filter (fun n => !isB1 n)).length ≤ ty.length := List.length_filter_le _ _
  unfold fold at hfold
  generalize ty.filter (fun n => !isB1 n) = kl at *
  walk_at "W"
  refine Then.nx (S_cons ?_)
  walk_at "W"
  refine E_ListComp (cl := []) (xs0 := ["sign"]) (by walk_at "comp") ?_ (by intro _; rfl)
  walk_at "W"
  refine CompI.listT hr'.hh kl (fun n => tS [n]) List.mem_cons_self (fun m => [tS (b3map m)]) (by omega) ?_ ?_
  ·intro C D' G acc m hm ρc hρ
   obtain ⟨o7, rfl⟩ := names1 hρ
   refine U1.sees [] [Str.ofString "map_table_b3"] (by walk_at "cells") (by walk_at "globs") fun hC2 hG2 => ?_
   walk_at "W"
   refine b3_call Fc (hr'.le (by omega)) (hkl m hm).2 (Fx.mk ?_)
   exact ⟨rfl, by walk_at "pick"⟩
  ·intro D2
   rw [flatT]
   walk_at "W"
   refine x_joinL (ts := kl.map fun m => b3map m) lit_e (by walk_at "mem") (by rw [show (kl.map fun m => b3map m).flatten = T.text from hfold]; omega) ?_
   rw [show (kl.map fun m => b3map m).flatten = T.text from hfold]
   walk_at "W"
   refine ⟨fun h => absurd h (by simp), fun _ => ?_⟩
   walk_at "W"
   refine E_ListComp (cl := []) (xs0 := ["sign"]) (by walk_at "comp") ?_ (by intro _; rfl)
   walk_at "W"
   refine CompI.listT hr'.hh kl (fun n => tS [n]) (.tail _ (.head _)) (fun _ => []) (by omega) ?_ ?_
   ·intro C D' G acc m hm ρc hρ
    obtain ⟨o7, rfl⟩ := names1 hρ
    refine U1.sees [] [Str.ofString "in_table_b1"] (by walk_at "cells") (by walk_at "globs") fun hC2 hG2 => ?_
    walk_at "W"
    refine b1_call Fc (hr'.le (by omega)) (Fx.mk ?_)
    rw [(hkl m hm).1]
    walk_at "W"
    refine ⟨fun h => absurd h (by decide), fun _ => ?_⟩
    exact ⟨rfl, by walk_at "pick"⟩
   intro D3
   rw [flat_none]
   walk_at "W"
   refine o_neD (.list (.tail _ (.head _)) .nil) (.list (.head _) .nil) (OkD.list (fun d hd => by cases hd)) (OkD.list (fun d hd => by cases hd)) ?_
   walk_at "W"
   refine ⟨fun h => absurd h (by decide), fun _ => ?_⟩
   walk_at "W"
   refine ⟨fun h => absurd h (by decide), fun _ => ?_⟩
   refine S_nil (Then.nx (S_cons ?_))
   refine S_ForSame (α := List Nat × Bool) hr'.hh ?_ (fun _ => rfl)
   walk_at "W"
   rw [show sub T.text (some 1) none = T.text.drop 1 from sub_drop _ 1, show sub T.text none (some 1) = T.text.take 1 from sub_take _ 1, sub_init _ hne]
   have hcat : (T.text.drop 1).length + (T.text.take 1).length ≤ 2 ^ 24 := by rw [List.length_drop, List.length_take]; omega
   walk_at "W"
   rename_i x1 x2 x3 dl
   have hto := tries_ok T hTo (by omega)
   refine ⟨dl, tries T, fun p => SV.tup [tS p.1, .bool p.2], fun ρ1 => ∃ o7 o8 : Option SV, flatL [("", o7), ("", o8)] = true ∧
     ρ1 = ([("size", some (.int n)), ("text", some (tS T.text)), ("terms", some (.ref dt)), ("written", some (tS wr)), ("line", some (.ref a.x)), ("kept", some (.ref D1)), ("changed", o7), ("due", o8), ("many", none), ("value", none), ("figures", none), ("turns", none), ("total", none), ("told", none), ("scale", none), ("rest", none)] : Loc),
    rfl, List.mem_cons_self, ⟨none, none, rfl, rfl⟩, ?turn, ?fin⟩
   case turn =>
    rintro F0 ρ2 ⟨o7, o8, hfl, rfl⟩ hnn p hp
    obtain ⟨hps, hpb, hpl⟩ := hto p hp
    obtain ⟨pt, pb⟩ := p
    dsimp only at hps hpb hpl ⊢
    have hml := mail_len pt
    walk_at "W"
    refine mail_call Fc (hr'.le (by omega)) (by omega) hps (Fx.mk ?_)
    walk_at "W"
    refine check_call Fc (hr'.le (by omega)) (by omega) (Fx.mk ?_)
    rw [check_mail _ hps, hpb]
    walk_at "W"
    refine ⟨fun h => absurd h (by simp), fun _ => ?_⟩
    exact S_nil (TurnI.nx (by walk_at "pick") ⟨rfl, _, _, rfl, rfl⟩)
   case fin =>
    rintro ρ2 ⟨o7, o8, hfl, rfl⟩ hnn
    refine S_nil (Then.nx (S_cons ?_))
    walk_at "W"
    have w0 : 0 ≤ c4.fmod 100 := Int.fmod_nonneg_of_pos _ (by decide)
    have w1 : c4.fmod 100 < 100 := Int.fmod_lt_of_pos _ (by decide)
    obtain ⟨w, hw⟩ : ∃ w : Nat, 5 + c4.fmod 100 = w := ⟨(5 + c4.fmod 100).toNat, by omega⟩
    rw [hw]
    have hw5 : 5 ≤ w := by omega
    have hw104 : w ≤ 104 := by omega
    refine Then.nx (S_cons ?_)
    walk_at "W"
    refine value_call Fc T (hr'.le (by omega)) hTo (by omega) hw5 hw104 (Fx.mk ?_)
    walk_at "W"
    refine Then.nx (S_cons ?_)
    walk_at "W"
    have htel := T.terms_len
    have hp4 : 2 ^ T.leaves ≤ 2 ^ 4 := Nat.pow_le_pow_right (by decide) (by omega)
    refine E_ListComp (cl := [("width", L + 1 + 1 + 1 + 1)]) (xs0 := ["k", "word"]) (by walk_at "comp") ?_ (by intro _; rfl)
    walk_at "W"
    refine CompI.listT hr'.hh T.terms tmE (by walk_at "mem") (fun t => [SV.int (t.1 * 2 ^ (w * plN t.2))]) (by omega) ?_ ?_
    ·intro C D' G acc t ht ρc hρ
     obtain ⟨o9, o10, rfl⟩ := names2 hρ
     have htbl := T.terms_word t ht
     have htbf := T.terms_fil hTo t ht
     have hpm := T.terms_pm t ht
     obtain ⟨tk, tw⟩ := t
     dsimp only at htbl htbf hpm ⊢
     have hpb := plN_lt tw htbf
     rw [htbl] at hpb
     have hpb4 : 3 ^ T.leaves ≤ 3 ^ 4 := Nat.pow_le_pow_right (by decide) (by omega)
     have hrange : ∀ m ∈ tw, 102 ≤ m ∧ m ≤ 108 := by
      intro m hm
      have := htbf m hm
      simp only [fil, List.mem_cons, List.not_mem_nil, or_false] at this
      omega
     have hmul : IntMulOk (w : Int) ((plN tw : Nat) : Int) := .of_right (Nat.le_trans (bits_nat (m := 7) (by omega)) (by decide))
     have hq1 : w * plN tw ≤ 104 * 81 := Nat.mul_le_mul hw104 (by omega)
     have hs1 : (0 : Int) ≤ ((w * plN tw : Nat) : Int) := Int.natCast_nonneg _
     have hta1 : Builtin.Int.intBits tk ≤ 1 := bits_le (by omega)
     have hs2 : (Builtin.Int.intBits tk : Int) + ((w * plN tw : Nat) : Int) ≤ 2 ^ 27 := by omega
     refine U1.sees [("width", L + 1 + 1 + 1 + 1)] [Str.ofString "_law_place"] (by walk_at "cells") (by walk_at "globs") fun hC2 hG2 => ?_
     unfold tmE
     walk_at "W"
     refine place_call Fc (l := tw) (hr'.le (by omega)) (by omega) hrange (Fx.mk ?_)
     rw [plc_plN tw htbf]
     walk_at "W"
     walk_at "pick"
    ·intro D4
     rw [flatI]
     walk_at "W"
     rw [show (T.terms.map fun t => t.1 * 2 ^ (w * plN t.2)).sum = vl w T.terms from rfl]
     refine ⟨fun h => absurd h (by simp), fun _ => ?_⟩
     refine S_nil (Then.nx ?_)
     refine U0.pick (K' := FLex a suff ln [] :: FList D cls :: FCs [("width", L + 1 + 1 + 1 + 1), ("cells", L + 1 + 1 + 1), ("place", L + 1 + 1), ("script", L + 1)] [("width", some (.int w)), ("cells", some (.ref D)), ("place", none), ("script", some (.ref S))] :: K) (by walk_at "pick") ?_
     refine law_C Fc W0 hn hTo hTl hw5 hw104 hln (by omega) hc5 hc6 hcl ?_ hΨ
     unfold flatL at hfl ⊢
     simp only [List.all_cons, List.all_nil, Bool.and_eq_true] at hfl ⊢
     obtain ⟨f1, f2, _⟩ := hfl
     repeat' (first | exact trivial | rfl | assumption | apply And.intro)
def siz (ns : List Int) : Nat := if ns.length < 4 then 3 else 4
theorem siz_is (ns : List Int) : siz ns = 3 ∨ siz ns = 4 := by unfold siz; split <;> simp
theorem seven (ms : List Int) (h : ms.length = 7) : ∃ c0 c1 c2 c3 c4 c5 c6, ms = [c0, c1, c2, c3, c4, c5, c6] := by
 match ms, h with
 | [c0, c1, c2, c3, c4, c5, c6], _ => exact ⟨_, _, _, _, _, _, _, rfl⟩
theorem TCall.newLex {c : Cx} {A : Around} {ρ : Loc} {K : List Fact} {Φ : SV → Loc → List Fact → Prop} {f : SV} {xs : List SV} {L : Addr} {V : LexA → SV} {G : LexA → Fact} (h : ∀ Ψ : SV → List Fact → Prop, (∀ d, Ψ (V d) (G d :: FFr L ρ :: K)) → TCall c A (FFr L ρ :: K) f xs Ψ) (hq : ∀ d, Φ (V d) ρ (G d :: K)) :
  TCall c A (FFr L ρ :: K) f xs (Fx L ρ Φ) :=
 TCall.fx (h (fun v K' => ∃ d, v = V d ∧ K' = G d :: FFr L ρ :: K) fun d => ⟨d, rfl, rfl⟩) fun v K' ⟨d, e1, e2⟩ => ⟨G d :: K, e2 ▸ .swap .., e1 ▸ hq d⟩
set_option maxHeartbeats 1000000 in
theorem law_call {c : Cx} (Fc : Fns c) {A : Around} {K : List Fact} {S : Addr} {ns : List Int} {Ψ : SV → List Fact → Prop} (hr : Room A 30) (hS : OldL c S ns) (hl : ns.length ≤ 63) (hΨ : Ψ (.bool true) K) : TCall c A K (.ref 241) [.ref S] Ψ := by
 obtain ⟨o, pm, cd, F⟩ := Fc.f_law
 obtain ⟨o1, pm1, cd1, F1⟩ := Fc.f_law_drawn
 obtain ⟨o2, pm2, cd2, F2⟩ := Fc.f_law_typed
 obtain ⟨o3, pm3, cd3, F3⟩ := Fc.f_law_written
 obtain ⟨t4, ht4, hpos4, hqual4, o4, pm4, F4⟩ := Fc.f_law_lexer
 have hT := Fc.tops
 refine call_defC F (pc_law _ _) (ρ0 := [("size", none), ("text", none), ("terms", none), ("written", none), ("line", none), ("kept", none), ("changed", none), ("due", none), ("many", none), ("value", none), ("figures", none), ("turns", none), ("total", none), ("told", none), ("scale", none), ("rest", none)])
  (γ0 := [("width", none), ("cells", none), ("place", none), ("script", some (.ref S))]) rfl (hr.le (by omega)) (by simp [binds]) (by simp [binds]) rfl rfl fun L hG hC hK => ?_
 have hr' := hr.deeper (callEnvC (fd (st 29) "law" 3 pm (.ref cd) 0) L 241)
 refine S_cons ?_
 refine S_AssignC2 hC (by walk_at "mem") hK (by walk_at "mem") ?_ rfl
 refine E_ListComp (cl := [("script", L + 1)]) (xs0 := ["place", "first"]) (by walk_at "comp") ?_ (by intro _; rfl)
 walk_at "W"
 rename_i l0 e0 i0
 have hI := Itb.enumList (c := c) (A := A.deeper (callEnvC (fd (st 29) "law" 3 pm (.ref cd) 0) L 241)) hr'.hh (e := e0) (it := i0) (l := l0) (xs := ([65, 4, 5535368, 7, 3, 12, 460] : List Int).map SV.int)
  (K' := FList l0 (([65, 4, 5535368, 7, 3, 12, 460] : List Int).map SV.int) :: FCs [("width", L + 1 + 1 + 1 + 1), ("cells", L + 1 + 1 + 1), ("place", L + 1 + 1), ("script", L + 1)] [("width", none), ("cells", none), ("place", none), ("script", some (.ref S))] :: K) .here List.mem_cons_self
 rw [show (0 : Int) = ((0 : Nat) : Int) from rfl, pairs_ints] at hI
 refine CompI.someInts _ _ hI trivial (by simp) (by decide) ?_ ?_
 ·intro C D G acc p hp ρc hρ
  obtain ⟨o1, o2, rfl⟩ := names2 hρ
  refine U1.sees [("script", L + 1)] [Str.ofString "sum"] (by walk_at "cells") (by walk_at "globs") fun hC2 hG2 => ?_
  walk_at "W"
  intro ms
  walk_at "W"
  exact ⟨⟨_, rfl⟩, by walk_at "pick"⟩
 ·intro D ms hms
  walk_at "W"
  obtain ⟨c0, c1, c2, c3, c4, c5, c6, rfl⟩ := seven ms hms
  generalize hcs : List.map SV.int [c0, c1, c2, c3, c4, c5, c6] = cls
  have hc0 : cls[(0 : Int).toNat]? = some (.int c0) := by rw [← hcs]; rfl
  have hc1 : cls[(1 : Int).toNat]? = some (.int c1) := by rw [← hcs]; rfl
  have hc2 : cls[(2 : Int).toNat]? = some (.int c2) := by rw [← hcs]; rfl
  have hc3 : cls[(3 : Int).toNat]? = some (.int c3) := by rw [← hcs]; rfl
  have hc4 : cls[(4 : Int).toNat]? = some (.int c4) := by rw [← hcs]; rfl
  have hc5 : cls[(5 : Int).toNat]? = some (.int c5) := by rw [← hcs]; rfl
  have hc6 : cls[(6 : Int).toNat]? = some (.int c6) := by rw [← hcs]; rfl
  have hcl : cls.length < 2 ^ 20 := by rw [← hcs]; simp
  refine Then.nx (S_cons ?_)
  refine S_Assign ?_ rfl
  refine U0.val (SV.int (siz ns : Nat)) ?_ ?_
  ·walk_at "W"
   refine ⟨fun hb => ?_, fun hb => ?_⟩
   ·have hb : (ns.length : Int) < 4 := by simpa using hb
    walk_at "W"
    exact ⟨by unfold siz; rw [if_pos (by omega)]; rfl, rfl, rfl⟩
   ·have hb : ¬ (ns.length : Int) < 4 := by simpa using hb
    walk_at "W"
    exact ⟨by unfold siz; rw [if_neg (by omega)]; rfl, rfl, rfl⟩
  have hn := siz_is ns
  generalize siz ns = n at hn ⊢
  walk_at "W"
  refine Then.nx (S_cons ?_)
  walk_at "W"
  refine E_ListComp (cl := [("cells", L + 1 + 1 + 1)]) (xs0 := ["k"]) (by walk_at "comp") ?_ (by intro _; rfl)
  walk_at "W"
  refine CompI.rangeT hr'.hh (by walk_at "mem") (by omega) (by omega) (fun k => [tS [filAt (((c0.fdiv (3 ^ k)).fmod 3).toNat)]]) ?_ ?_
  ·intro C D' G acc k hk ρc hρ
   obtain ⟨o1, rfl⟩ := names1 hρ
   have hk : k < (n : Int).toNat := List.mem_range.mp hk
   have hk4 : k < 4 := by omega
   refine U1.sees [("cells", L + 1 + 1 + 1)] [] (by walk_at "cells") (by walk_at "globs") fun hC2 hG2 => ?_
   have hb3 : Builtin.Int.intBits 3 = 2 := by decide +kernel
   have hp2 : (Builtin.Int.intBits 3 : Int) * (k : Int) ≤ 2 ^ 27 := by rw [hb3]; omega
   have hp1 : (0 : Int) ≤ (k : Int) := by omega
   have hq := pow3_fits k (by omega) c0
   have hz1 : (3 : Int) ^ ((k : Int)).toNat ≠ 0 := hq.1
   have hz2 : Builtin.divisionGoesByPylong c0 (3 ^ ((k : Int)).toNat) = false := hq.2
   have hf := fil_at (c0.fdiv (3 ^ ((k : Int)).toNat))
   have hf1 := hf.1
   have hf2 := hf.2
   walk_at "W"
   walk_at "pick"
  ·intro D'
   rw [flatT]
   rw [Int.toNat_natCast]
   generalize hw0 : (List.range n).map (fun k => [filAt (((c0.fdiv (3 ^ k)).fmod 3).toNat)]) = w0
   have hwl : w0.flatten.length = n ∧ ∀ m ∈ w0.flatten, m ∈ fil := by
    rw [← hw0]
    rw [flat_ones]
    refine ⟨by simp, fun m hm => ?_⟩
    obtain ⟨k, _, rfl⟩ := List.mem_map.mp hm
    exact fil_in _
   walk_at "W"
   generalize w0.flatten = w0 at hwl
   obtain ⟨hwn, hwf⟩ := hwl
   have hne : w0 ≠ [] := by intro e; rw [e] at hwn; simp at hwn; omega
   refine TCall.newV (fun Ψ hΨ => drawn_call Fc 3 (l := w0) (way := c1) (hr'.le (by omega)) hne (by omega) (by omega) hΨ) fun dt => ?_
   have hTw := Tr.of_word 3 w0 c1 hne (by omega)
   generalize Tr.of 3 w0 c1 = T at hTw ⊢
   have hTl : T.leaves = n := by rw [← T.word_len, hTw, hwn]
   have hTo : T.ok := by unfold Tr.ok; rw [hTw]; exact hwf
   have htl := T.text_len
   have hts := T.signs hTo
   walk_at "W"
   refine Then.nx (S_cons ?_)
   walk_at "W"
   refine typed_call Fc (l := T.text) (hr'.le (by omega)) (by omega) hts (Fx.mk ?_)
   walk_at "W"
   have htyl := typ_len T.text.length T.text c2 (Nat.le_refl _)
   refine written_call Fc (hr'.le (by omega)) (by omega) (Fx.mk ?_)
   have hwl : (writ c3 (typ T.text c2)).length + suff.length ≤ 2 ^ 24 := by
    have hs := slashed_len 3 c3 (typ T.text c2)
    unfold writ
    split <;> (simp only [List.length_append, List.length_cons, List.length_nil, suff]; omega)
   walk_at "W"
   rw [lit_suff]
   walk_at "W"
   refine Then.nx (S_cons ?_)
   walk_at "W"
   refine TCall.newLex (fun Ψ hΨ => lexer_call Fc (hr'.le (by omega)) hΨ) fun a => ?_
   walk_at "W"
   refine Then.nx ?_
   refine U0.pick (K' := FLex a (writ c3 (typ T.text c2) ++ suff) 1 [] :: FList dt (T.terms.map tmE) :: FList D cls :: FCs [("width", L + 1 + 1 + 1 + 1), ("cells", L + 1 + 1 + 1), ("place", L + 1 + 1), ("script", L + 1)] [("width", none), ("cells", some (.ref D)), ("place", none), ("script", some (.ref S))] :: K) (by walk_at "pick") ?_
   exact law_B Fc ⟨hr', hG, hC, hK⟩ hn hTo hTl rfl hc4 hc5 hc6 hcl hΨ
end Mine
end
noncomputable section
open PySem PySem.W PySem.W.X PyProof.Rows
namespace Mine
theorem forall_cons {α : Type} {P : α → Prop} {a : α} {l : List α} (h : P a) (r : ∀ x ∈ l, P x) : ∀ x ∈ a :: l, P x := fun x hx => by
 rcases List.mem_cons.mp hx with rfl | hx
 ·exact h
 ·exact r x hx
theorem forall_nil {α : Type} {P : α → Prop} : ∀ x ∈ ([] : List α), P x := fun x hx => nomatch hx
def mainEs (P : Params) : Array DictEntry := match (o3_6 P).data with | .dict es _ => es | _ => #[]
theorem main_at (P : Params) : (H1 P).get? 3 = some (o3_6 P) := by kernel_rfl
theorem main_data (P : Params) : ∃ n, (o3_6 P).data = .dict (mainEs P) n := ⟨_, rfl⟩
section
variable {c : Cx} {P : Params}
structure Found (c : Cx) (P : Params) : Prop where
 h : ∀ b o, (H1 P).get? b = some o → c.h0.get? b = some o
 g : c.h0.Ns mainGlobals c.mg
 mb : ∀ x : Str, x ≠ "__name__" → c.mb x = bootBuiltins x
theorem Found.mg (F : Found c P) (x : Str) : c.mg x = nsFind (mainEs P) x := by
 obtain ⟨n, hn⟩ := main_data P
 rw [F.g.eq_nsMap]
 unfold Heap.nsMap
 rw [show mainGlobals = 3 from rfl, F.h _ _ (main_at P)]
 dsimp only
 rw [hn]
theorem kept {h0 : Heap} (hk : ∀ b o, (H1 P).get? b = some o → h0.get? b = some o) {b : Addr} {o : Obj} (e : (H1 P).get? b = some o) (hc : o.cls ≠ .none) : ∀ h, OldK h0 h → h.get? b = some o := fun h k => k.get_of_cls (hk _ _ e) hc
theorem Found.at (F : Found c P) {b : Addr} {o : Obj} (e : (H1 P).get? b = some o) (hc : o.cls ≠ .none) : ∀ h, OldK c.h0 h → h.get? b = some o := fun h k => k.get_of_cls (F.h _ _ e) hc
theorem gl_ref (F : Found c P) {x : Str} {a : Addr} (hd : (x == ("__debug__" : Str)) = false) (e : nsFind (mainEs P) x = some (.ref a)) : Gl c x (.ref a) := ⟨hd, _, .inl ((F.mg x).trans e), fun _ => rfl⟩
theorem gl_int (F : Found c P) {x : Str} {i : Int} {t : Tok} (hd : (x == ("__debug__" : Str)) = false) (e : nsFind (mainEs P) x = some (.int i t)) : Gl c x (.int i) := ⟨hd, _, .inl ((F.mg x).trans e), fun _ => ⟨t, rfl⟩⟩
theorem gl_bi (F : Found c P) {x : Str} {i : String} (hd : (x == ("__debug__" : Str)) = false) (hn : x ≠ "__name__") (e : nsFind (mainEs P) x = none) (eb : bootBuiltins x = some (.builtin i)) : Gl c x (.bi i) := ⟨hd, _, .inr ⟨(F.mg x).trans e, (F.mb x hn).trans eb⟩, fun _ => rfl⟩
theorem gl_type (F : Found c P) {x : Str} {i : String} (hd : (x == ("__debug__" : Str)) = false) (hn : x ≠ "__name__") (e : nsFind (mainEs P) x = none) (eb : bootBuiltins x = some (.type i)) : Gl c x (.type i) := ⟨hd, _, .inr ⟨(F.mg x).trans e, (F.mb x hn).trans eb⟩, fun _ => rfl⟩
theorem tops_ok (F : Found c P) : ∀ p ∈ tops, Gl c p.1 p.2 := by
 refine forall_cons (gl_int (t := 189) F (by decide) (by kernel_rfl)) ?_
 refine forall_cons (gl_bi F (by decide) (by decide) (by kernel_rfl) (by kernel_rfl)) ?_
 refine forall_cons (gl_ref F (by decide) (by kernel_rfl)) ?_
 refine forall_cons (gl_ref F (by decide) (by kernel_rfl)) ?_
 refine forall_cons (gl_bi F (by decide) (by decide) (by kernel_rfl) (by kernel_rfl)) ?_
 refine forall_cons (gl_ref F (by decide) (by kernel_rfl)) ?_
 refine forall_cons (gl_type F (by decide) (by decide) (by kernel_rfl) (by kernel_rfl)) ?_
 refine forall_cons (gl_ref F (by decide) (by kernel_rfl)) ?_
 refine forall_cons (gl_type F (by decide) (by decide) (by kernel_rfl) (by kernel_rfl)) ?_
 refine forall_cons (gl_ref F (by decide) (by kernel_rfl)) ?_
 refine forall_cons (gl_ref F (by decide) (by kernel_rfl)) ?_
 refine forall_cons (gl_type F (by decide) (by decide) (by kernel_rfl) (by kernel_rfl)) ?_
 refine forall_cons (gl_ref F (by decide) (by kernel_rfl)) ?_
 refine forall_cons (gl_ref F (by decide) (by kernel_rfl)) ?_
 refine forall_cons (gl_bi F (by decide) (by decide) (by kernel_rfl) (by kernel_rfl)) ?_
 refine forall_cons (gl_ref F (by decide) (by kernel_rfl)) ?_
 refine forall_cons (gl_ref F (by decide) (by kernel_rfl)) ?_
 refine forall_cons (gl_bi F (by decide) (by decide) (by kernel_rfl) (by kernel_rfl)) ?_
 refine forall_cons (gl_ref F (by decide) (by kernel_rfl)) ?_
 refine forall_cons (gl_ref F (by decide) (by kernel_rfl)) ?_
 refine forall_cons (gl_bi F (by decide) (by decide) (by kernel_rfl) (by kernel_rfl)) ?_
 refine forall_cons (gl_ref F (by decide) (by kernel_rfl)) ?_
 refine forall_cons (gl_ref F (by decide) (by kernel_rfl)) ?_
 refine forall_cons (gl_ref F (by decide) (by kernel_rfl)) ?_
 refine forall_cons (gl_ref F (by decide) (by kernel_rfl)) ?_
 refine forall_cons (gl_type F (by decide) (by decide) (by kernel_rfl) (by kernel_rfl)) ?_
 refine forall_cons (gl_ref F (by decide) (by kernel_rfl)) ?_
 refine forall_cons (gl_ref F (by decide) (by kernel_rfl)) ?_
 refine forall_cons (gl_ref F (by decide) (by kernel_rfl)) ?_
 refine forall_cons (gl_bi F (by decide) (by decide) (by kernel_rfl) (by kernel_rfl)) ?_
 refine forall_cons (gl_ref F (by decide) (by kernel_rfl)) ?_
 refine forall_cons (gl_type F (by decide) (by decide) (by kernel_rfl) (by kernel_rfl)) ?_
 refine forall_cons (gl_bi F (by decide) (by decide) (by kernel_rfl) (by kernel_rfl)) ?_
 refine forall_cons (gl_bi F (by decide) (by decide) (by kernel_rfl) (by kernel_rfl)) ?_
 refine forall_cons (gl_ref F (by decide) (by kernel_rfl)) ?_
 refine forall_cons (gl_ref F (by decide) (by kernel_rfl)) ?_
 refine forall_cons (gl_ref F (by decide) (by kernel_rfl)) ?_
 exact forall_nil
theorem mkFn (F : Found c P) {a cd : Addr} {o oc : Obj} {s : Stmt} {qual : Str} {pm : Value} {vs : Array Value} {t : Tok} (h1 : (H1 P).get? a = some o) (h2 : (H1 P).get? cd = some oc) (e1 : o.data = .func (fd s qual 3 pm (.ref cd) 0)) (e2 : o.cls = .type "function") (e3 : oc.cls = .type "code")
  (e4 : oc.data = .fields vs) (e5 : vs[1]? = some (.str qual t)) (e6 : (fd s qual 3 pm (.ref cd) 0).code = .ref cd) (e7 : (fd s qual 3 pm (.ref cd) 0).qualname = qual) : FnAt c a o (fd s qual 3 pm (.ref cd) 0) :=
 ⟨e1, e2, F.at h1 (by rw [e2]; nofun), fun h k => by rw [e6, e7]; exact ⟨cd, oc, vs, t, rfl, F.at h2 (by rw [e3]; nofun) h k, e4, e5⟩⟩
theorem at_f_div2n1n (F : Found c P) : FnS c 21 (st 2) "_div2n1n" := ⟨_, _, _, mkFn F (o := o21 P) (oc := o20 P) (by kernel_rfl) (by kernel_rfl) rfl rfl rfl rfl rfl rfl rfl⟩
theorem at_f_div3n2n (F : Found c P) : FnS c 28 (st 3) "_div3n2n" := ⟨_, _, _, mkFn F (o := o28 P) (oc := o27 P) (by kernel_rfl) (by kernel_rfl) rfl rfl rfl rfl rfl rfl rfl⟩
theorem at_f_divmod_pos (F : Found c P) : FnS c 49 (st 6) "_divmod_pos" := ⟨_, _, _, mkFn F (o := o49 P) (oc := o48 P) (by kernel_rfl) (by kernel_rfl) rfl rfl rfl rfl rfl rfl rfl⟩
theorem at_f_int_divmod (F : Found c P) : FnS c 56 (st 7) "int_divmod" := ⟨_, _, _, mkFn F (o := o56 P) (oc := o55 P) (by kernel_rfl) (by kernel_rfl) rfl rfl rfl rfl rfl rfl rfl⟩
theorem at_f_iter_escaped_chars (F : Found c P) : FnS c 63 (st 9) "_iter_escaped_chars" := ⟨_, _, _, mkFn F (o := o63 P) (oc := o62 P) (by kernel_rfl) (by kernel_rfl) rfl rfl rfl rfl rfl rfl rfl⟩
theorem at_f_strip_quoted_realnames (F : Found c P) : FnS c 70 (st 10) "_strip_quoted_realnames" := ⟨_, _, _, mkFn F (o := o70 P) (oc := o69 P) (by kernel_rfl) (by kernel_rfl) rfl rfl rfl rfl rfl rfl rfl⟩
theorem at_f_check_parenthesis (F : Found c P) : FnS c 77 (st 11) "_check_parenthesis" := ⟨_, _, _, mkFn F (o := o77 P) (oc := o76 P) (by kernel_rfl) (by kernel_rfl) rfl rfl rfl rfl rfl rfl rfl⟩
theorem at_f_in_table_b1 (F : Found c P) : FnS c 137 (st 16) "in_table_b1" := ⟨_, _, _, mkFn F (o := o137 P) (oc := o136 P) (by kernel_rfl) (by kernel_rfl) rfl rfl rfl rfl rfl rfl rfl⟩
theorem at_f_map_table_b3 (F : Found c P) : FnS c 183 (st 18) "map_table_b3" := ⟨_, _, _, mkFn F (o := o183 P) (oc := o182 P) (by kernel_rfl) (by kernel_rfl) rfl rfl rfl rfl rfl rfl rfl⟩
theorem at_f_law_drawn (F : Found c P) : FnS c 195 (st 21) "_law_drawn" := ⟨_, _, _, mkFn F (o := o195 P) (oc := o194 P) (by kernel_rfl) (by kernel_rfl) rfl rfl rfl rfl rfl rfl rfl⟩
theorem at_f_law_typed (F : Found c P) : FnS c 202 (st 22) "_law_typed" := ⟨_, _, _, mkFn F (o := o202 P) (oc := o201 P) (by kernel_rfl) (by kernel_rfl) rfl rfl rfl rfl rfl rfl rfl⟩
theorem at_f_law_written (F : Found c P) : FnS c 207 (st 23) "_law_written" := ⟨_, _, _, mkFn F (o := o207 P) (oc := o206 P) (by kernel_rfl) (by kernel_rfl) rfl rfl rfl rfl rfl rfl rfl⟩
theorem at_f_law_mail (F : Found c P) : FnS c 212 (st 24) "_law_mail" := ⟨_, _, _, mkFn F (o := o212 P) (oc := o211 P) (by kernel_rfl) (by kernel_rfl) rfl rfl rfl rfl rfl rfl rfl⟩
theorem at_f_law_figures (F : Found c P) : FnS c 217 (st 25) "_law_figures" := ⟨_, _, _, mkFn F (o := o217 P) (oc := o216 P) (by kernel_rfl) (by kernel_rfl) rfl rfl rfl rfl rfl rfl rfl⟩
theorem at_f_law_value (F : Found c P) : FnS c 224 (st 26) "_law_value" := ⟨_, _, _, mkFn F (o := o224 P) (oc := o223 P) (by kernel_rfl) (by kernel_rfl) rfl rfl rfl rfl rfl rfl rfl⟩
theorem at_f_law_place (F : Found c P) : FnS c 231 (st 27) "_law_place" := ⟨_, _, _, mkFn F (o := o231 P) (oc := o230 P) (by kernel_rfl) (by kernel_rfl) rfl rfl rfl rfl rfl rfl rfl⟩
theorem at_f_law_normed (F : Found c P) : FnS c 236 (st 28) "_law_normed" := ⟨_, _, _, mkFn F (o := o236 P) (oc := o235 P) (by kernel_rfl) (by kernel_rfl) rfl rfl rfl rfl rfl rfl rfl⟩
theorem at_f_law (F : Found c P) : FnS c 241 (st 29) "law" := ⟨_, _, _, mkFn F (o := o241 P) (oc := o240 P) (by kernel_rfl) (by kernel_rfl) rfl rfl rfl rfl rfl rfl rfl⟩
theorem at_m_init (F : Found c P) : FnS c 91 (mt 13 0) "_netrclex.__init__" := ⟨_, _, _, mkFn F (o := o91 P) (oc := o90 P) (by kernel_rfl) (by kernel_rfl) rfl rfl rfl rfl rfl rfl rfl⟩
theorem at_m_read_char (F : Found c P) : FnS c 98 (mt 13 1) "_netrclex._read_char" := ⟨_, _, _, mkFn F (o := o98 P) (oc := o97 P) (by kernel_rfl) (by kernel_rfl) rfl rfl rfl rfl rfl rfl rfl⟩
theorem at_m_get_token (F : Found c P) : FnS c 105 (mt 13 2) "_netrclex.get_token" := ⟨_, _, _, mkFn F (o := o105 P) (oc := o104 P) (by kernel_rfl) (by kernel_rfl) rfl rfl rfl rfl rfl rfl rfl⟩
theorem at_m_push_token (F : Found c P) : FnS c 112 (mt 13 3) "_netrclex.push_token" := ⟨_, _, _, mkFn F (o := o112 P) (oc := o111 P) (by kernel_rfl) (by kernel_rfl) rfl rfl rfl rfl rfl rfl rfl⟩
def theTabs : List Tab := [⟨34, 30, posIn (st 4), "_int2digits.<locals>.inner"⟩, ⟨41, 37, posIn (st 5), "_digits2int.<locals>.inner"⟩, ⟨189, 185, posLam (lamOf (st 20)), "_law_lexer.<locals>.<lambda>"⟩]
theorem at_f_int2digits (F : Found c P) (hT : c.tabs = theTabs) : FnT c 35 (st 4) "_int2digits" (posIn (st 4)) "_int2digits.<locals>.inner" := ⟨⟨34, 30, posIn (st 4), "_int2digits.<locals>.inner"⟩, (by rw [hT]; exact .head _), rfl, rfl, _, _, mkFn F (o := o35 P) (oc := o34 P) (by kernel_rfl) (by kernel_rfl) rfl rfl rfl rfl rfl rfl rfl⟩
theorem at_f_digits2int (F : Found c P) (hT : c.tabs = theTabs) : FnT c 42 (st 5) "_digits2int" (posIn (st 5)) "_digits2int.<locals>.inner" := ⟨⟨41, 37, posIn (st 5), "_digits2int.<locals>.inner"⟩, (by rw [hT]; exact .tail _ (.head _)), rfl, rfl, _, _, mkFn F (o := o42 P) (oc := o41 P) (by kernel_rfl) (by kernel_rfl) rfl rfl rfl rfl rfl rfl rfl⟩
theorem at_f_law_lexer (F : Found c P) (hT : c.tabs = theTabs) : FnT c 190 (st 20) "_law_lexer" (posLam (lamOf (st 20))) "_law_lexer.<locals>.<lambda>" := ⟨⟨189, 185, posLam (lamOf (st 20)), "_law_lexer.<locals>.<lambda>"⟩, (by rw [hT]; exact .tail _ (.tail _ (.head _))), rfl, rfl, _, _, mkFn F (o := o190 P) (oc := o189 P) (by kernel_rfl) (by kernel_rfl) rfl rfl rfl rfl rfl rfl rfl⟩
theorem tabHd_ok {h0 : Heap} (hk : ∀ b o, (H1 P).get? b = some o → h0.get? b = some o) : ∀ t ∈ theTabs, ∀ h, OldK h0 h → PySem.W.CodeHd h t.c t.P := by
 unfold theTabs
 refine forall_cons (fun h k => ⟨o34 P, _, _, _, _, _, _, _, _, kept hk (by kernel_rfl) (by nofun) h k, rfl, rfl, rfl, rfl, rfl, rfl, rfl, rfl, by decide⟩) ?_
 refine forall_cons (fun h k => ⟨o41 P, _, _, _, _, _, _, _, _, kept hk (by kernel_rfl) (by nofun) h k, rfl, rfl, rfl, rfl, rfl, rfl, rfl, rfl, by decide⟩) ?_
 refine forall_cons (fun h k => ⟨o189 P, _, _, _, _, _, _, _, _, kept hk (by kernel_rfl) (by nofun) h k, rfl, rfl, rfl, rfl, rfl, rfl, rfl, rfl, by decide⟩) ?_
 exact forall_nil
theorem tabAt_ok {h0 : Heap} (hk : ∀ b o, (H1 P).get? b = some o → h0.get? b = some o) : ∀ t ∈ theTabs, (∃ ps, h0.TableAt t.c t.P ps) ∧ t.P ≠ cStatics ∧ t.P ≠ mainGlobals := by
 unfold theTabs
 refine forall_cons ⟨⟨#[], ⟨o34 P, _, hk _ _ (by kernel_rfl), rfl, rfl, rfl⟩, hk _ (o30 P) (by kernel_rfl)⟩, by decide, by decide⟩ ?_
 refine forall_cons ⟨⟨#[], ⟨o41 P, _, hk _ _ (by kernel_rfl), rfl, rfl, rfl⟩, hk _ (o37 P) (by kernel_rfl)⟩, by decide, by decide⟩ ?_
 refine forall_cons ⟨⟨#[], ⟨o189 P, _, hk _ _ (by kernel_rfl), rfl, rfl, rfl⟩, hk _ (o185 P) (by kernel_rfl)⟩, by decide, by decide⟩ ?_
 exact forall_nil
theorem tabOne_ok : ∀ t ∈ theTabs, ∀ t' ∈ theTabs, t.P = t'.P → t = t' := by
 unfold theTabs
 intro t ht t' ht' e
 simp only [List.mem_cons, List.not_mem_nil, or_false] at ht ht'
 rcases ht with rfl | rfl | rfl <;> rcases ht' with rfl | rfl | rfl <;> first | rfl | exact absurd e (by decide)
theorem tabOk_ok {h0 : Heap} (hk : ∀ b o, (H1 P).get? b = some o → h0.get? b = some o) : ∀ t ∈ theTabs, TabOk t h0 [] := by
 unfold theTabs
 refine forall_cons ⟨#[], hk _ (o30 P) (by kernel_rfl), trivial, .inl rfl⟩ ?_
 refine forall_cons ⟨#[], hk _ (o37 P) (by kernel_rfl), trivial, .inl rfl⟩ ?_
 refine forall_cons ⟨#[], hk _ (o185 P) (by kernel_rfl), trivial, .inl rfl⟩ ?_
 exact forall_nil
theorem set_data (P : Params) : ∃ es t, (o127 P).data = .set es 29 t ∧ (es.toList.all fun e => match e.2 with | .int i _ => decide (e.1 = hashInt i) && e.2.scannable | _ => false) = true ∧ t.fits es.size = true ∧ es.size < scanBound ∧
  ∀ k : Int, (es.toList.any fun e => Value.isInt k e.2) = ([65024, 65025, 65026, 65027, 65028, 65029, 6150, 65030, 65031, 65032, 65033, 6155, 6156, 6157, 8203, 8204, 8205, 65034, 65035, 65036, 65037, 65038, 65039, 173, 847, 8288, 65279] : List Int).any (fun i => i == k) :=
 ⟨_, _, rfl, by kernel_rfl, by kernel_rfl, of_decide_eq_true (by kernel_rfl), fun k => rfl⟩
theorem b1_same (k : Nat) : (([65024, 65025, 65026, 65027, 65028, 65029, 6150, 65030, 65031, 65032, 65033, 6155, 6156, 6157, 8203, 8204, 8205, 65034, 65035, 65036, 65037, 65038, 65039, 173, 847, 8288, 65279] : List Int).any fun i => i == (k : Int)) = isB1 k := by
 unfold isB1
 rw [Bool.eq_iff_iff]
 simp only [List.any_eq_true, Bool.or_eq_true, Bool.and_eq_true, decide_eq_true_eq, List.contains_iff_mem, beq_iff_eq]
 constructor
 ·rintro ⟨i, hi, rfl⟩
  by_cases h : 65024 ≤ k ∧ k ≤ 65039
  ·exact .inr h
  ·refine .inl ?_
   simp only [List.mem_cons, List.not_mem_nil, or_false] at hi ⊢
   omega
 ·rintro (h | h)
  ·refine ⟨k, ?_, rfl⟩
   simp only [List.mem_cons, List.not_mem_nil, or_false] at h ⊢
   omega
  ·refine ⟨k, ?_, rfl⟩
   simp only [List.mem_cons, List.not_mem_nil, or_false]
   omega
theorem b1_ok (F : Found c P) : ∀ h, OldK c.h0 h → ∃ S n, h.SetOf (intKind c.prog c.w) 127 S n ∧ ∀ k : Nat, S k = isB1 k := fun h k => by
 obtain ⟨es, t, hd, he, hf, hz, hs⟩ := set_data P
 refine ⟨fun k => es.toList.any fun e => Value.isInt k e.2, es.size, ⟨o127 P, es, 29, t, F.at (by kernel_rfl) (by nofun) h k, ⟨rfl, rfl, rfl⟩, hd, fun e hm => ?_, fun k => List.any_eq_true, hz, hf, rfl⟩, fun k => (hs k).trans (b1_same k)⟩
 have q := List.all_eq_true.mp he e hm
 obtain ⟨e1, e2⟩ := e
 cases e2 with
 | int i t =>
  simp only [Bool.and_eq_true, decide_eq_true_eq] at q
  exact ⟨⟨i, by show (i == i) = true; simp, q.1⟩, q.2⟩
 | _ => cases q
theorem dict_at (P : Params) : (H1 P).get? 138 = some (dO dEnts 650) := by kernel_rfl
theorem dict_keys : (dEnts.all fun e => match e.key with | .int i _ => decide (e.hash = hashInt i) && decide (109 ≤ i) | _ => false) = true := by kernel_rfl
theorem dict_L : (b3L.all fun p => match findBy Value.isInt dEnts.toArray (p.1 : Int) with | some (.str x _) => x.cps.toList == p.2 | _ => false) = true := by kernel_rfl
theorem small_N : ∀ k ∈ b3N, k ≤ 108 := by decide
theorem b3_ok (F : Found c P) : ∀ h, OldK c.h0 h → ∃ f, h.MapOf (intKind c.prog c.w) 138 f ∧ (∀ p ∈ b3L, ∃ t, f (p.1 : Nat) = some (.str ⟨p.2.toArray⟩ t)) ∧ ∀ k ∈ b3N, f (k : Nat) = none := fun h k => by
 refine ⟨fun k => findBy Value.isInt dEnts.toArray k, ⟨dO dEnts 650, dEnts.toArray, 650, F.at (dict_at P) (by nofun) h k, ⟨rfl, rfl, rfl⟩, rfl, fun e hm => ?_, fun _ => rfl⟩, fun p hp => ?_, fun k hk => ?_⟩
 ·have q := List.all_eq_true.mp dict_keys e (by simpa using hm)
  cases hk : e.key with
  | int i t =>
   rw [hk] at q
   have q : e.hash = hashInt i := by simp only [Bool.and_eq_true, decide_eq_true_eq] at q; exact q.1
   exact ⟨i, by show Value.isInt i (.int i t) = true; show (i == i) = true; simp, q⟩
  | _ => rw [hk] at q; cases q
 ·have q := List.all_eq_true.mp dict_L p hp
  cases hf : findBy Value.isInt dEnts.toArray (p.1 : Int) with
  | none => rw [hf] at q; cases q
  | some v =>
   rw [hf] at q
   cases v with
   | str x t =>
    have q : x.cps.toList = p.2 := by simpa using q
    exact ⟨t, by show findBy Value.isInt dEnts.toArray (p.1 : Int) = _; rw [hf, ← q, Array.toArray_toList]⟩
   | _ => cases q
 ·have hs := small_N k hk
  show findBy Value.isInt dEnts.toArray (k : Int) = none
  unfold findBy
  rw [Array.find?_eq_none.mpr]
  ·rfl
  ·intro e hm he
   have q := List.all_eq_true.mp dict_keys e (by simpa using hm)
   cases hk : e.key with
   | int i t =>
    rw [hk] at q he
    simp only [Bool.and_eq_true, decide_eq_true_eq] at q
    have he : i = (k : Int) := by simpa [Value.isInt] using he
    omega
   | _ => rw [hk] at q; cases q
theorem cls_ok (F : Found c P) : ClsOk c 115 91 98 105 112 := ⟨fun h k => by
 have hN : h.get? 114 = some (o114 P) := F.at (by kernel_rfl) (by nofun) h k
 have hm : ∀ x, h.nsMap 114 x = nsFind (match (o114 P).data with | .dict es _ => es | _ => #[]) x := fun x => by
  unfold Heap.nsMap; rw [hN]; rfl
 have hi : h.isNs 114 = true := by unfold Heap.isNs; rw [hN]; kernel_rfl
 refine ⟨_, _, 114, _, _, _, _, _, _, _, _, _, _, h.nsMap 114, (F.at (o := o115 P) (by kernel_rfl) (by nofun) h k).trans rfl, Heap.Ns.of_isNs hi, ?_, ?_, ?_, ?_, ?_, ?_, ?_, ?_, ?_, ?_, ?_, ?_⟩ <;> (rw [hm]; kernel_rfl)⟩
theorem fns_ok (F : Found c P) (hT : c.tabs = theTabs) : Fns c := ⟨tops_ok F, at_f_div2n1n F, at_f_div3n2n F, at_f_int2digits F hT, at_f_digits2int F hT, at_f_divmod_pos F, at_f_int_divmod F, at_f_iter_escaped_chars F, at_f_strip_quoted_realnames F, at_f_check_parenthesis F, at_f_in_table_b1 F, at_f_map_table_b3 F, at_f_law_lexer F hT, at_f_law_drawn F, at_f_law_typed F, at_f_law_written F, at_f_law_mail F, at_f_law_figures F, at_f_law_value F, at_f_law_place F, at_f_law_normed F, at_f_law F, at_m_init F, at_m_read_char F, at_m_get_token F, at_m_push_token F, b1_ok F, b3_ok F, cls_ok F⟩
end
def theCx (w : World) (s₁ : Shared) (mg mb : Str → Option Value) (hg : s₁.heap.Ns mainGlobals mg) (hb : s₁.heap.Ns builtinsNs mb) (h3 : s₁.heap.get? 3 = some (o3_6 w.params)) (h0 : s₁.heap.get? 0 = some (boot_o_0 w.params)) (hbm : ∃ bm ob, mg "__builtins__" = some (.ref bm) ∧ bm ≠ builtinsNs ∧ s₁.heap.get? bm = some ob ∧ ob.cls = .type "module" ∧ ob.dict = some builtinsNs ∧ ob.data = .plain)
  (hk : ∀ b o, (H1 w.params).get? b = some o → s₁.heap.get? b = some o) : Cx where
 prog := PR
 w := w
 h0 := s₁.heap
 os0 := s₁.os
 big := ⟨_, hk cStatics _ (show (H1 w.params).get? 2 = some (boot_o_2 w.params) by kernel_rfl)⟩
 mg := mg
 mb := mb
 hg := fun h k => by
  obtain ⟨o, es, ep, e, r⟩ := hg
  rw [show mainGlobals = 3 from rfl, h3] at e
  cases e
  exact ⟨o3_6 w.params, es, ep, k.get_of_cls h3 (by nofun), r⟩
 hb := fun h k => by
  obtain ⟨o, es, ep, e, r⟩ := hb
  rw [show builtinsNs = 0 from rfl, h0] at e
  cases e
  exact ⟨boot_o_0 w.params, es, ep, k.get_of_cls h0 (by nofun), r⟩
 hbm := fun h k P hP ⟨ps, hps⟩ => by
  obtain ⟨bm, ob, h1, h2, e, h4, h5, h6⟩ := hbm
  have e2 := k.get_of_cls e (by rw [h4]; nofun)
  refine ⟨bm, ob, h1, h2, fun q => ?_, fun q => ?_, e2, h4, h5, h6⟩
  ·subst q
   rw [show mainGlobals = 3 from rfl, h3] at e
   cases e; exact absurd h4 (by show ¬ (Value.type "dict" = Value.type "module"); decide)
  ·subst q
   rw [hps] at e2
   cases e2; exact absurd h4 (by show ¬ (Value.none = Value.type "module"); nofun)
 tabs := theTabs
 tabHd := tabHd_ok hk
 tabAt := tabAt_ok hk
 tabOne := tabOne_ok
 base := #[]
end Mine
end
noncomputable section
open PySem PySem.W PySem.W.X PyProof.Rows
namespace Mine
theorem ints_read {R : WRecords} {cl : Str → Option Addr} {h : Heap} : ∀ (ns : List Int) {vs : List Value} {as : List Addr}, ReadsAllW R cl h vs (ns.map .int) as → ∀ h', Reps h' (ns.map .int) vs
 | [], vs, as, r, h' => by cases r; rfl
 | n :: ns, vs, as, r, h' => by
  cases r with
  | cons r1 r2 =>
   cases r1
   exact ⟨_, _, rfl, ⟨_, rfl⟩, ints_read ns r2 h'⟩
theorem pre_val (R : WRecords) (n : Int) (e : WCtx) (xs : List WData) (he : e.args[0]? = some (.list xs)) : WTm.value R (.and (.not (.lt (.lit (.int n)) (.len (.arg 0)))) (.lit (.bool true))) e = some (.bool (!decide (n < (xs.length : Int)))) := by
 simp only [WTm.value, he]
 show (match (match ((less? (.int n) (.int (xs.length : Int))).map WData.bool) with | some (.bool b) => some (WData.bool (!b)) | _ => none) with | some (.bool false) => some (WData.bool false) | some (.bool true) => some (.bool true) | _ => none) = _
 rw [show less? (.int n) (.int (xs.length : Int)) = some (decide (n < (xs.length : Int))) from rfl]
 cases decide (n < (xs.length : Int)) <;> rfl
theorem walk : WalkX qP looseP (fun _ _ => True) (fun s => s.heap) (fun w => H1 w.params) PySem.Challenge.rw_uc0048_02.row.toRowW lawD [] fun f vs => PySem.call f vs := by
 intro w s₀ s₁ mg mb G hY a o pm cd doc dV kV ha hd hcode hdf hmg hgens args vals as L hpre hlay hrd hwell hne
 obtain ⟨hsh, hpr⟩ := pre_splitW hpre
 obtain ⟨d, r, rfl, hd1, hr⟩ := hasAllW_cons hsh
 obtain rfl := hasAllW_nil hr
 obtain ⟨xs, rfl, hxs⟩ := hasW_list hd1
 obtain ⟨ns, rfl⟩ := items_int hxs
 have hlen : ns.length ≤ 63 := by
  clear hpre hlay hrd hwell hd1 hsh L
  have h2 : (PySem.Challenge.rw_uc0048_02.row.pre).value PySem.Challenge.rw_uc0048_02.row.records { args := [WData.list (ns.map .int)] } = some (.bool (!decide ((63 : Int) < ((ns.map WData.int).length : Int)))) := by
   exact pre_val _ 63 _ _ rfl
  rw [List.length_map] at h2
  unfold WTm.holds at hpr
  have h3 := (show PySem.Challenge.rw_uc0048_02.row.toRowW.pre = PySem.Challenge.rw_uc0048_02.row.pre from rfl)
  rw [show (PySem.Challenge.rw_uc0048_02.row.toRowW.pre).value PySem.Challenge.rw_uc0048_02.row.toRowW.records { args := [WData.list (ns.map .int)] } = _ from h2] at hpr
  cases hb : decide ((63 : Int) < (ns.length : Int))
  ·have := of_decide_eq_false hb; omega
  ·rw [hb] at hpr; cases hpr
 cases hrd with
 | cons r1 r2 =>
  cases r2
  cases r1 with
  | @list S oS vs n xs' as' hoS hcS hdS hreads =>
   have hk : ∀ b o, (H1 w.params).get? b = some o → s₁.heap.get? b = some o := fun b o e => L.keeps b o (by rw [show s₀.heap = H1 w.params from hY]; exact e)
   have F : Found (theCx w s₁ mg mb G.T.g G.T.b (hk _ _ (main_at _)) (hk _ _ (show (H1 w.params).get? 0 = some (boot_o_0 w.params) by kernel_rfl)) G.T.bmain hk) w.params := ⟨hk, G.T.g, G.T.builtins⟩
   have Fc := fns_ok F rfl
   have haa : a = 241 := by
    have h1 := F.mg lawD.name
    rw [show nsFind (mainEs w.params) lawD.name = some (.ref 241) by kernel_rfl] at h1
    have h2 : some (Value.ref a) = some (.ref 241) := hmg.symm.trans h1
    injection h2 with h2; injection h2
   subst haa
   have kn : Kn (theCx w s₁ mg mb G.T.g G.T.b (hk _ _ (main_at _)) (hk _ _ (show (H1 w.params).get? 0 = some (boot_o_0 w.params) by kernel_rfl)) G.T.bmain hk) [] s₁ :=
    ⟨OldK.refl _, G.T.nolimit, rfl, ⟨.of_eq hgens, fun i hi => absurd hi (Nat.not_lt_zero _)⟩, by simp, by simp, by simp, tabOk_ok hk⟩
   have hS : OldL (theCx w s₁ mg mb G.T.g G.T.b (hk _ _ (main_at _)) (hk _ _ (show (H1 w.params).get? 0 = some (boot_o_0 w.params) by kernel_rfl)) G.T.bmain hk) S ns := ⟨vs, ⟨oS, hoS, hcS, _, hdS⟩, ints_read ns hreads⟩
   have hroom : Room callerA 30 := ⟨rfl, by decide +kernel, by decide +kernel⟩
   have key := law_call Fc (A := callerA) (K := []) (S := S) (ns := ns) (Ψ := fun v _ => v = .bool true) hroom hS hlen rfl (hroom.le (by omega)) s₁ (.ref 241) [.ref S] kn rfl (Reps.one rfl)
   refine wpAny_mono key (fun v s' ⟨x, K', k', rx, kp, e⟩ => ?_) (fun _ _ e => e.elim)
   subst e
   obtain rfl : v = .bool true := rx
   exact ⟨.inl ⟨.bool true, .bool true, [], rfl, fun _ => rfl, .bool true, postW_of (X := true) rfl (by kernel_rfl) rfl, fun _ => ⟨List.nodup_nil, by simp⟩⟩, k'.old, k'.os, k'.bare.all⟩
theorem the_end : PySem.Challenge.rw_uc0048_02.Holds := heads witness walk
end Mine
end
theorem PySem.Challenge.cw_uc0048_02_holds : PySem.Challenge.rw_uc0048_02.Holds :=
 Mine.the_end
