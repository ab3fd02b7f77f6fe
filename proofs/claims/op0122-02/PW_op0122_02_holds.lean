import PyProof.Rows.All
import Wide.All
import OpenK.AllK
import Wide.FinOn
import Wide.BytesRules
import PySem.Challenge.RW_op0122_02
set_option Elab.async false

section
-- L0
open PySem PySem.W PySem.Calls PyProof.Rows
set_option maxRecDepth 100000

namespace Mine

/-- Plain data. -/
inductive Dt where
  | none | bool (b : Bool) | int (i : Int) | str (s : Str) | bytes (b : Array UInt8)
  | tup (l : List Dt) | lst (l : List Dt) | lsw (l : List Dt) | raw (v : Value)

mutual
/-- `v` stands for the datum in the heap `h`, and no list or tuple of it lies at an address of `O`. -/
def Rep (h : Heap) (O : List Addr) : Dt → Value → Prop
  | .none, v => v = .none
  | .bool b, v => v = .bool b
  | .int i, v => ∃ t, v = .int i t
  | .str x, v => ∃ t, v = .str x t
  | .bytes b, v => ∃ t, v = .bytes b t
  | .tup l, v => ∃ a vs, v = .ref a ∧ a ∉ O ∧ IsTup h a vs ∧ RepL h O l vs.toList
  | .lst l, v => ∃ a vs, v = .ref a ∧ a ∉ O ∧ h.PlainList a vs ∧ RepL h O l vs.toList
  | .lsw l, v => ∃ a vs, v = .ref a ∧ a ∉ O ∧ h.IsList a vs ∧ RepL h O l vs.toList
  | .raw u, v => v = u
def RepL (h : Heap) (O : List Addr) : List Dt → List Value → Prop
  | [], vs => vs = []
  | d :: ds, vs => ∃ v r, vs = v :: r ∧ Rep h O d v ∧ RepL h O ds r
end

/-- Sequences off `O` stay. -/
def SeqKeep (O : List Addr) (h h' : Heap) : Prop := ∀ b o xs n, b ∉ O → o.data = .seq xs n → h.get? b = some o → h'.get? b = some o

theorem IsList.seqKeep {O : List Addr} {h h' : Heap} {a : Addr} {vs : Array Value} (k : SeqKeep O h h') (ha : a ∉ O) (x : h.IsList a vs) : h'.IsList a vs :=
  let ⟨o, ho, hc, n, hd⟩ := x; ⟨o, k a o vs n ha hd ho, hc, n, hd⟩
theorem PlainList.seqKeep {O : List Addr} {h h' : Heap} {a : Addr} {vs : Array Value} (k : SeqKeep O h h') (ha : a ∉ O) (x : h.PlainList a vs) : h'.PlainList a vs :=
  let ⟨n, e⟩ := x; ⟨n, k a _ vs n ha rfl e⟩
theorem IsTup.seqKeep {O : List Addr} {h h' : Heap} {a : Addr} {vs : Array Value} (k : SeqKeep O h h') (ha : a ∉ O) (x : IsTup h a vs) : IsTup h' a vs :=
  let ⟨o, ho, hc, n, hd⟩ := x; ⟨o, k a o vs n ha hd ho, hc, n, hd⟩

mutual
theorem Rep.mono {O : List Addr} {h h' : Heap} (k : SeqKeep O h h') : ∀ {d : Dt} {v : Value}, Rep h O d v → Rep h' O d v
  | .none, _, x | .bool _, _, x | .int _, _, x | .str _, _, x | .bytes _, _, x | .raw _, _, x => by simpa only [Rep] using x
  | .tup l, _, x => by
    simp only [Rep] at x ⊢
    obtain ⟨a, vs, e, ha, ht, hl⟩ := x
    exact ⟨a, vs, e, ha, IsTup.seqKeep k ha ht, RepL.mono k hl⟩
  | .lst l, _, x => by
    simp only [Rep] at x ⊢
    obtain ⟨a, vs, e, ha, ht, hl⟩ := x
    exact ⟨a, vs, e, ha, PlainList.seqKeep k ha ht, RepL.mono k hl⟩
  | .lsw l, _, x => by
    simp only [Rep] at x ⊢
    obtain ⟨a, vs, e, ha, ht, hl⟩ := x
    exact ⟨a, vs, e, ha, IsList.seqKeep k ha ht, RepL.mono k hl⟩
theorem RepL.mono {O : List Addr} {h h' : Heap} (k : SeqKeep O h h') : ∀ {ds : List Dt} {vs : List Value}, RepL h O ds vs → RepL h' O ds vs
  | [], _, x => by simpa only [RepL] using x
  | _ :: _, _, x => by
    simp only [RepL] at x ⊢
    obtain ⟨v, r, e, x1, x2⟩ := x
    exact ⟨v, r, e, Rep.mono k x1, RepL.mono k x2⟩
end

mutual
theorem Rep.sub {O O' : List Addr} {h : Heap} (k : ∀ a ∈ O', a ∈ O) : ∀ {d : Dt} {v : Value}, Rep h O d v → Rep h O' d v
  | .none, _, x | .bool _, _, x | .int _, _, x | .str _, _, x | .bytes _, _, x | .raw _, _, x => by simpa only [Rep] using x
  | .tup l, _, x => by
    simp only [Rep] at x ⊢
    obtain ⟨a, vs, e, ha, ht, hl⟩ := x
    exact ⟨a, vs, e, fun q => ha (k a q), ht, RepL.sub k hl⟩
  | .lst l, _, x => by
    simp only [Rep] at x ⊢
    obtain ⟨a, vs, e, ha, ht, hl⟩ := x
    exact ⟨a, vs, e, fun q => ha (k a q), ht, RepL.sub k hl⟩
  | .lsw l, _, x => by
    simp only [Rep] at x ⊢
    obtain ⟨a, vs, e, ha, ht, hl⟩ := x
    exact ⟨a, vs, e, fun q => ha (k a q), ht, RepL.sub k hl⟩
theorem RepL.sub {O O' : List Addr} {h : Heap} (k : ∀ a ∈ O', a ∈ O) : ∀ {ds : List Dt} {vs : List Value}, RepL h O ds vs → RepL h O' ds vs
  | [], _, x => by simpa only [RepL] using x
  | _ :: _, _, x => by
    simp only [RepL] at x ⊢
    obtain ⟨v, r, e, x1, x2⟩ := x
    exact ⟨v, r, e, Rep.sub k x1, RepL.sub k x2⟩
end

mutual
theorem Rep.fresh {O : List Addr} {h : Heap} {l : Addr} (k : h.get? l = none) : ∀ {d : Dt} {v : Value}, Rep h O d v → Rep h (l :: O) d v
  | .none, _, x | .bool _, _, x | .int _, _, x | .str _, _, x | .bytes _, _, x | .raw _, _, x => by simpa only [Rep] using x
  | .tup _, _, x => by
    simp only [Rep] at x ⊢
    obtain ⟨a, vs, e, ha, ht, hl⟩ := x
    refine ⟨a, vs, e, fun q => ?_, ht, RepL.fresh k hl⟩
    rcases List.mem_cons.mp q with q | q
    · obtain ⟨o, ho, _⟩ := ht; rw [q, k] at ho; cases ho
    · exact ha q
  | .lst _, _, x => by
    simp only [Rep] at x ⊢
    obtain ⟨a, vs, e, ha, ht, hl⟩ := x
    refine ⟨a, vs, e, fun q => ?_, ht, RepL.fresh k hl⟩
    rcases List.mem_cons.mp q with q | q
    · obtain ⟨o, ho⟩ := ht; rw [q, k] at ho; cases ho
    · exact ha q
  | .lsw _, _, x => by
    simp only [Rep] at x ⊢
    obtain ⟨a, vs, e, ha, ht, hl⟩ := x
    refine ⟨a, vs, e, fun q => ?_, ht, RepL.fresh k hl⟩
    rcases List.mem_cons.mp q with q | q
    · obtain ⟨o, ho, _⟩ := ht; rw [q, k] at ho; cases ho
    · exact ha q
theorem RepL.fresh {O : List Addr} {h : Heap} {l : Addr} (k : h.get? l = none) : ∀ {ds : List Dt} {vs : List Value}, RepL h O ds vs → RepL h (l :: O) ds vs
  | [], _, x => by simpa only [RepL] using x
  | _ :: _, _, x => by
    simp only [RepL] at x ⊢
    obtain ⟨v, r, e, x1, x2⟩ := x
    exact ⟨v, r, e, Rep.fresh k x1, RepL.fresh k x2⟩
end

theorem RepL.length {h : Heap} {O : List Addr} : ∀ {ds : List Dt} {vs : List Value}, RepL h O ds vs → vs.length = ds.length
  | [], _, x => by simp only [RepL] at x; subst x; rfl
  | _ :: _, _, x => by
    simp only [RepL] at x
    obtain ⟨v, r, e, x1, x2⟩ := x
    subst e
    simp only [List.length_cons, RepL.length x2]
theorem RepL.get {h : Heap} {O : List Addr} : ∀ {ds : List Dt} {vs : List Value} {i : Nat} {d : Dt}, RepL h O ds vs → ds[i]? = some d → ∃ v, vs[i]? = some v ∧ Rep h O d v
  | [], _, _, _, _, e => by simp at e
  | _ :: _, _, 0, _, x, e => by
    simp only [RepL] at x
    obtain ⟨v, r, rfl, x1, x2⟩ := x
    simp only [List.getElem?_cons_zero, Option.some.injEq] at e
    exact ⟨v, rfl, e ▸ x1⟩
  | _ :: _, _, i + 1, _, x, e => by
    simp only [RepL] at x
    obtain ⟨v, r, rfl, x1, x2⟩ := x
    rw [List.getElem?_cons_succ] at e ⊢
    exact RepL.get x2 e
theorem RepL.append {h : Heap} {O : List Addr} : ∀ {ds ds' : List Dt} {vs vs' : List Value}, RepL h O ds vs → RepL h O ds' vs' → RepL h O (ds ++ ds') (vs ++ vs')
  | [], _, _, _, x, y => by simp only [RepL] at x; subst x; exact y
  | _ :: _, _, _, _, x, y => by
    simp only [RepL] at x
    obtain ⟨v, r, rfl, x1, x2⟩ := x
    simp only [List.cons_append, RepL]
    exact ⟨v, _, rfl, x1, RepL.append x2 y⟩
/-- One code table: the code object, its table, the place of the one inner def, its qualified name. -/
structure Tb where
  c : Addr
  P : Addr
  pos : Pos
  qual : Str

structure Wd where
  prog : Program
  w : World
  g : Heap
  mg : Str → Option Value
  mb : Str → Option Value
  tabs : List Tb

abbrev Wd.M (W : Wd) : Model := model W.prog W.w
abbrev Wd.Ps (W : Wd) : List Addr := W.tabs.map (·.P)

def TabOk (h : Heap) (Ps : List Addr) (t : Tb) : Prop :=
  ∃ ps, h.get? t.P = some (tabObj ps) ∧ TriplesOk ps.toList ∧
    (codeAmong t.pos ps.toList = none ∨ ∃ c' : Addr, codeAmong t.pos ps.toList = some (Value.ref c') ∧ h.CodeRec (Value.ref c') t.qual ∧ c' ∉ Ps)

structure Wd.Ok (W : Wd) : Prop where
  ng : W.g.Ns mainGlobals W.mg
  nb : W.g.Ns builtinsNs W.mb
  nolimit : W.g.NoLimit
  nodigits : ∃ mc, W.g.Ns cStatics mc ∧ mc "sys.int_max_str_digits" = none
  builtins : ∀ x : Str, x ≠ "__name__" → W.mb x = bootBuiltins x
  bmain : ∃ bm ob, W.mg "__builtins__" = some (.ref bm) ∧ bm ≠ builtinsNs ∧ W.g.get? bm = some ob ∧ ob.cls = .type "module" ∧ ob.dict = some builtinsNs ∧ ob.data = .plain
  code : ∀ t ∈ W.tabs, CodeHd W.g t.c t.P
  hid : ∀ t ∈ W.tabs, W.g.get? t.P = none
  nd : (W.tabs.map (·.P)).Nodup

structure Inv (W : Wd) (h : Heap) : Prop where
  base : ∀ b o, W.g.get? b = some o → h.get? b = some o
  tab : ∀ t ∈ W.tabs, TabOk h W.Ps t

/-- What stands stays, but for the tables and for the slots of dicts (a frame's own object is kept there once an exception has gone through it). -/
def Ext (W : Wd) (h h' : Heap) : Prop := ∀ b o, b ∉ W.Ps → h.get? b = some o → ∃ sl, h'.get? b = some { o with slots := sl } ∧ ((∀ es n, o.data ≠ .dict es n) → sl = o.slots)

theorem Ext.refl (W : Wd) (h : Heap) : Ext W h h := fun _ o _ e => ⟨o.slots, e, fun _ => rfl⟩
theorem Ext.trans {W : Wd} {h₁ h₂ h₃ : Heap} (x : Ext W h₁ h₂) (y : Ext W h₂ h₃) : Ext W h₁ h₃ := fun b o hb e => by
  obtain ⟨sl, e1, k1⟩ := x b o hb e
  obtain ⟨sl', e2, k2⟩ := y b _ hb e1
  exact ⟨sl', e2, fun hd => (k2 hd).trans (k1 hd)⟩
theorem Ext.of_keep {W : Wd} {h h' : Heap} (k : ∀ b o, h.get? b = some o → h'.get? b = some o) : Ext W h h' := fun b o _ e => ⟨o.slots, k b o e, fun _ => rfl⟩
theorem Ext.at {W : Wd} {h h' : Heap} (x : Ext W h h') {b : Addr} {o : Obj} (hb : b ∉ W.Ps) (e : h.get? b = some o) (hd : ∀ es n, o.data ≠ .dict es n) : h'.get? b = some o := by
  obtain ⟨sl, e1, k1⟩ := x b o hb e
  rw [e1, k1 hd]
theorem Ext.there {W : Wd} {h h' : Heap} (x : Ext W h h') {b : Addr} {o : Obj} (hb : b ∉ W.Ps) (e : h.get? b = some o) : ∃ sl, h'.get? b = some { o with slots := sl } := let ⟨sl, e1, _⟩ := x b o hb e; ⟨sl, e1⟩
theorem Ext.butP {W : Wd} {h h₁ h' : Heap} (x : Ext W h h₁) {P : Addr → Prop} (hx : ∀ a o, ¬ P a → h₁.get? a = some o → h'.get? a = some o) (hc : ∀ a, P a → h.get? a = none) : Ext W h h' := fun b o hb e => by
  obtain ⟨sl, e1, k1⟩ := x b o hb e
  exact ⟨sl, hx b _ (fun q => by rw [hc b q] at e; cases e) e1, k1⟩
theorem Ext.of_butP {W : Wd} {h h' : Heap} (hx : ∀ a o, a ∉ W.Ps → h.get? a = some o → h'.get? a = some o) : Ext W h h' := fun b o hb e => ⟨o.slots, hx b o hb e, fun _ => rfl⟩

theorem Inv.notP {W : Wd} {h : Heap} (I : Inv W h) {a : Addr} (hP : a ∈ W.Ps) : ∃ ps, h.get? a = some (tabObj ps) := by
  obtain ⟨t, ht, rfl⟩ := List.mem_map.mp hP
  obtain ⟨ps, e, _⟩ := I.tab t ht
  exact ⟨ps, e⟩
theorem Inv.seqKeep {W : Wd} {h h' : Heap} (I : Inv W h) (x : Ext W h h') (O : List Addr) : SeqKeep O h h' := fun b o xs n _ hd e => by
  refine x.at (fun hP => ?_) e (by rw [hd]; nofun)
  obtain ⟨ps, e'⟩ := I.notP hP
  rw [e] at e'; cases e'; cases hd
theorem Rep.ext {W : Wd} {h h' : Heap} {O : List Addr} {d : Dt} {v : Value} (I : Inv W h) (x : Ext W h h') (r : Rep h O d v) : Rep h' O d v := r.mono (I.seqKeep x O)
theorem RepL.ext {W : Wd} {h h' : Heap} {O : List Addr} {d : List Dt} {v : List Value} (I : Inv W h) (x : Ext W h h') (r : RepL h O d v) : RepL h' O d v := r.mono (I.seqKeep x O)

theorem Inv.keeps {W : Wd} {h h' : Heap} (I : Inv W h) (k : ∀ b o, h.get? b = some o → h'.get? b = some o) : Inv W h' where
  base := fun b o e => k b o (I.base b o e)
  tab := fun t ht => by
    obtain ⟨ps, e, ok, c⟩ := I.tab t ht
    refine ⟨ps, k _ _ e, ok, c.imp id ?_⟩
    rintro ⟨c', e1, e2, e3⟩
    exact ⟨c', e1, e2.keeps k, e3⟩

/-- A write at `a`, which the base does not hold and which is no table and no code object. -/
theorem Inv.extBut {W : Wd} {h h' : Heap} {a : Addr} (I : Inv W h) (x : Heap.ExtBut a h h') (hg : W.g.get? a = none) (hP : a ∉ W.Ps) (hf : ∀ o, h.get? a = some o → ∀ vs, o.data ≠ .fields vs) : Inv W h' where
  base := fun b o e => x b o (fun q => by rw [q, hg] at e; cases e) (I.base b o e)
  tab := fun t ht => by
    obtain ⟨ps, e, ok, c⟩ := I.tab t ht
    refine ⟨ps, x _ _ (fun q => hP (q ▸ List.mem_map_of_mem ht)) e, ok, c.imp id ?_⟩
    rintro ⟨c', e1, ⟨c₂, o, vs, t', e2, e3, e4, e5⟩, e6⟩
    refine ⟨c', e1, ⟨c₂, o, vs, t', e2, x _ _ (fun q => ?_) e3, e4, e5⟩, e6⟩
    rw [q] at e3
    exact hf o e3 vs e4

/-- A step of a pure piece. -/
structure Stp (W : Wd) (s s' : Shared) : Prop where
  inv : Inv W s'.heap
  ext : Ext W s.heap s'.heap
  same : ∃ h tk, s' = { s with heap := h, toks := tk }

theorem Stp.refl {W : Wd} {s : Shared} (I : Inv W s.heap) : Stp W s s := ⟨I, .refl _ _, s.heap, s.toks, rfl⟩
theorem Stp.tok {W : Wd} {s : Shared} (I : Inv W s.heap) {tk : Nat} : Stp W s { s with toks := tk } := ⟨I, .refl _ _, s.heap, tk, rfl⟩
theorem Stp.keep {W : Wd} {s : Shared} (I : Inv W s.heap) {h : Heap} {tk : Nat} (k : ∀ b o, s.heap.get? b = some o → h.get? b = some o) : Stp W s { s with heap := h, toks := tk } := ⟨I.keeps k, .of_keep k, h, tk, rfl⟩
theorem Stp.push {W : Wd} {s : Shared} (I : Inv W s.heap) {o : Obj} {tk : Nat} : Stp W s { s with heap := s.heap.push o, toks := tk } := .keep I fun _ _ e => Heap.get?_push_of_some _ e
theorem Stp.trans {W : Wd} {s₁ s₂ s₃ : Shared} (x : Stp W s₁ s₂) (y : Stp W s₂ s₃) : Stp W s₁ s₃ := by
  obtain ⟨h, tk, rfl⟩ := x.same
  obtain ⟨h', tk', rfl⟩ := y.same
  exact ⟨y.inv, x.ext.trans y.ext, h', tk', rfl⟩

/-- Addresses that no datum may use: they are alive, no table's, not the base's. -/
def OOk (W : Wd) (O : List Addr) (h : Heap) : Prop := ∀ a ∈ O, W.g.get? a = none ∧ a ∉ W.Ps ∧ ∃ o xs n, h.get? a = some o ∧ o.data = .seq xs n
theorem OOk.ext {W : Wd} {O : List Addr} {h h' : Heap} (k : OOk W O h) (x : Ext W h h') : OOk W O h' := fun a ha => let ⟨h1, h2, o, xs, n, h3, h4⟩ := k a ha; ⟨h1, h2, o, xs, n, x.at h2 h3 (by rw [h4]; nofun), h4⟩
theorem OOk.new {W : Wd} {O : List Addr} {h : Heap} (k : OOk W O h) {a : Addr} (e : h.get? a = none) : a ∉ O := fun q => by
  obtain ⟨_, _, o, _, _, h3, _⟩ := k a q
  rw [e] at h3; cases h3
theorem OOk.keep {W : Wd} {O : List Addr} {h h' : Heap} (k : OOk W O h) (x : SeqKeep [] h h') : OOk W O h' := fun a ha => let ⟨h1, h2, o, xs, n, h3, h4⟩ := k a ha; ⟨h1, h2, o, xs, n, x a o xs n List.not_mem_nil h4 h3, h4⟩
theorem OOk.size {W : Wd} {O : List Addr} {h : Heap} (k : OOk W O h) : h.objs.size ∉ O := k.new (Heap.get?_none_of_le (Nat.le_refl _))
theorem OOk.nil {W : Wd} {h : Heap} : OOk W [] h := fun _ q => nomatch q

structure IO (W : Wd) (O : List Addr) (h : Heap) : Prop where
  inv : Inv W h
  ook : OOk W O h

/-- A tree that yields the datum `d`, purely. -/
def Yl (W : Wd) (A : Around) (O : List Addr) (m : Sem Value) (d : Dt) (s : Shared) : Prop :=
  wpAny W.M A m (fun v s' => Stp W s s' ∧ Rep s'.heap O d v) (fun _ _ => False) s

theorem Yl.use {W : Wd} {A : Around} {O : List Addr} {m : Sem Value} {d : Dt} {s : Shared} {Q : Value → Shared → Prop} {E : Value → Shared → Prop} (y : Yl W A O m d s)
    (h : ∀ v s', Stp W s s' → Rep s'.heap O d v → Q v s') : wpAny W.M A m Q E s := wpAny_mono y (fun v s' x => h v s' x.1 x.2) fun _ _ x => x.elim
theorem Yl.after {W : Wd} {A : Around} {O : List Addr} {m : Sem Value} {d : Dt} {s s' : Shared} (x : Stp W s s') (y : Yl W A O m d s') : wpAny W.M A m (fun v s'' => Stp W s s'' ∧ Rep s''.heap O d v) (fun _ _ => False) s' :=
  wpAny_mono y (fun _ _ z => ⟨x.trans z.1, z.2⟩) fun _ _ z => z

/-- Only the heap and the token counter differ. -/
def Sm (s s' : Shared) : Prop := ∃ h tk, s' = { s with heap := h, toks := tk }
theorem Sm.trans {s₁ s₂ s₃ : Shared} (x : Sm s₁ s₂) (y : Sm s₂ s₃) : Sm s₁ s₃ := by
  obtain ⟨h, tk, rfl⟩ := x
  obtain ⟨h', tk', rfl⟩ := y
  exact ⟨h', tk', rfl⟩
theorem Sm.mk (s : Shared) (h : Heap) (tk : Nat) : Sm s { s with heap := h, toks := tk } := ⟨h, tk, rfl⟩

/-- Where a frame stands: the heap that must stay, the state at its start, the addresses that its data may not use. -/
structure Base where
  hb : Heap
  s₀ : Shared
  O : List Addr

abbrev ad (OL : List (Addr × List Dt)) : List Addr := OL.map (·.1)

/-- The variables of a frame (or of a comprehension) hold the data of `D`; the lists of `OL` are the frame's own. -/
structure St (W : Wd) (b : Base) (env : Env) (D : List (Str × Dt)) (OL : List (Addr × List Dt)) (s : Shared) : Prop where
  inv : Inv W s.heap
  ext : Ext W b.hb s.heap
  same : Sm b.s₀ s
  ook : OOk W (ad OL ++ b.O) s.heap
  fk : env.scope.kind = .function
  eg : env.globals = mainGlobals
  eb : env.builtins = builtinsNs
  loc : ∃ m, s.heap.Ns env.locals m ∧ ∀ x d, env.kindOf x = some .local → D.lookup x = some d → ∃ v, m x = some v ∧ Rep s.heap (ad OL ++ b.O) d v
  cel : ∀ x d, (env.kindOf x = some .cell ∨ env.kindOf x = some .free) → D.lookup x = some d → ∃ c v, env.cells.lookup x = some c ∧ s.heap.IsCell c (some v) ∧ Rep s.heap (ad OL ++ b.O) d v
  all : ∀ x c, env.cells.lookup x = some c → ∃ v, s.heap.IsCell c v
  own : ∀ p ∈ OL, ∃ vs, s.heap.PlainList p.1 vs ∧ RepL s.heap (ad OL ++ b.O) p.2 vs.toList
  ofresh : ∀ p ∈ OL, b.hb.get? p.1 = none
  odisj : ∀ p ∈ OL, p.1 ∉ b.O
  apart : env.cells.Pairwise fun x y => x.2 ≠ y.2
  lfresh : b.hb.get? env.locals = none ∧ W.g.get? env.locals = none

theorem St.io {W : Wd} {b : Base} {env : Env} {D : List (Str × Dt)} {OL : List (Addr × List Dt)} {s : Shared} (S : St W b env D OL s) : IO W (ad OL ++ b.O) s.heap := ⟨S.inv, S.ook⟩
theorem St.stp {W : Wd} {b : Base} {env : Env} {D : List (Str × Dt)} {OL : List (Addr × List Dt)} {s s' : Shared} (S : St W b env D OL s) (x : Stp W s s') : St W b env D OL s' where
  inv := x.inv
  ext := S.ext.trans x.ext
  same := S.same.trans x.same
  ook := S.ook.ext x.ext
  fk := S.fk
  eg := S.eg
  eb := S.eb
  loc := by
    obtain ⟨m, hn, k⟩ := S.loc
    obtain ⟨o, es, ep, e, hd, r⟩ := hn
    obtain ⟨sl, e1⟩ := x.ext.there (fun hP => by
      obtain ⟨ps, e'⟩ := S.inv.notP hP
      rw [e] at e'; cases e'; cases hd) e
    refine ⟨m, ⟨_, es, ep, e1, hd, r⟩, fun y d h1 h2 => ?_⟩
    · obtain ⟨v, h3, h4⟩ := k y d h1 h2
      exact ⟨v, h3, h4.ext S.inv x.ext⟩
  cel := fun y d h1 h2 => by
    obtain ⟨c, v, h3, ⟨o, e, hd⟩, h5⟩ := S.cel y d h1 h2
    refine ⟨c, v, h3, ⟨o, x.ext.at (fun hP => ?_) e (by rw [hd]; nofun), hd⟩, h5.ext S.inv x.ext⟩
    obtain ⟨ps, e'⟩ := S.inv.notP hP
    rw [e] at e'; cases e'; cases hd
  all := fun y c h1 => by
    obtain ⟨v, ⟨o, e, hd⟩⟩ := S.all y c h1
    refine ⟨v, o, x.ext.at (fun hP => ?_) e (by rw [hd]; nofun), hd⟩
    obtain ⟨ps, e'⟩ := S.inv.notP hP
    rw [e] at e'; cases e'; cases hd
  own := fun p hp => by
    obtain ⟨vs, ⟨n, e⟩, r⟩ := S.own p hp
    exact ⟨vs, ⟨n, x.ext.at (S.ook p.1 (List.mem_append_left _ (List.mem_map_of_mem hp))).2.1 e (by nofun)⟩, r.ext S.inv x.ext⟩
  ofresh := S.ofresh
  odisj := S.odisj
  apart := S.apart
  lfresh := S.lfresh

/-- A narrower or a reordered table of variables. -/
theorem St.pick {W : Wd} {b : Base} {env : Env} {D D' : List (Str × Dt)} {OL : List (Addr × List Dt)} {s : Shared} (S : St W b env D OL s) (k : ∀ p ∈ D', D.lookup p.1 = some p.2) : St W b env D' OL s :=
  { S with
    loc := let ⟨m, hn, q⟩ := S.loc; ⟨m, hn, fun x d h1 h2 => q x d h1 (k (x, d) (mem_of_lookup h2))⟩
    cel := fun x d h1 h2 => S.cel x d h1 (k (x, d) (mem_of_lookup h2)) }

/-- The expression yields `d`, wherever the variables hold the data of `D`. -/
def Ev (W : Wd) (A : Around) (env : Env) (D : List (Str × Dt)) (e : Expr) (d : Dt) : Prop :=
  ∀ b OL s, St W b env D OL s → Yl W A (ad OL ++ b.O) (eval e env) d s

/-- The test comes out as `c`. -/
def Tst (W : Wd) (A : Around) (env : Env) (D : List (Str × Dt)) (e : Expr) (c : Bool) : Prop :=
  ∀ b OL s, St W b env D OL s → wpAny W.M A (isTrue e env (eval e env)) (fun c' s' => c' = c ∧ Stp W s s') (fun _ _ => False) s

theorem Tst.use {W : Wd} {A : Around} {env : Env} {D : List (Str × Dt)} {e : Expr} {c : Bool} {b : Base} {OL : List (Addr × List Dt)} {s : Shared} {Q : Bool → Shared → Prop} {E : Value → Shared → Prop} (t : Tst W A env D e c) (S : St W b env D OL s)
    (h : ∀ s', Stp W s s' → Q c s') : wpAny W.M A (isTrue e env (eval e env)) Q E s := wpAny_mono (t b OL s S) (fun _ s' x => x.1 ▸ h s' x.2) fun _ _ x => x.elim

section
variable {W : Wd} {A : Around} {env : Env} {D : List (Str × Dt)}

theorem Ev.cast {e : Expr} {d d' : Dt} (h : Ev W A env D e d) (q : d = d') : Ev W A env D e d' := q ▸ h
theorem Tst.cast {e : Expr} {d d' : Bool} (h : Tst W A env D e d) (q : d = d') : Tst W A env D e d' := q ▸ h

theorem ev_loc {x : Str} {pos : Pos} {d : Dt} (hd : D.lookup x = some d) (hk : env.kindOf x = some .local) (hb : (x == ("__debug__" : Str)) = false) : Ev W A env D (.Name x pos) d := fun b OL s S => by
  obtain ⟨m, hn, k⟩ := S.loc
  obtain ⟨v, h1, h2⟩ := k x d hk hd
  exact wpAny_Name (wpAny_loadName_local S.fk hk hn h1 ⟨.refl S.inv, h2⟩) hb
theorem ev_cell {x : Str} {pos : Pos} {d : Dt} (hd : D.lookup x = some d) (hk : env.kindOf x = some .cell) (hb : (x == ("__debug__" : Str)) = false) : Ev W A env D (.Name x pos) d := fun b OL s S => by
  obtain ⟨c, v, h1, h2, h3⟩ := S.cel x d (.inl hk) hd
  exact wpAny_Name (wpAny_loadName_cell S.fk hk h1 h2 ⟨.refl S.inv, h3⟩) hb
theorem ev_free {x : Str} {pos : Pos} {d : Dt} (hd : D.lookup x = some d) (hk : env.kindOf x = some .free) (hb : (x == ("__debug__" : Str)) = false) (hn : (x == ("__classdict__" : Str)) = false) : Ev W A env D (.Name x pos) d := fun b OL s S => by
  obtain ⟨c, v, h1, h2, h3⟩ := S.cel x d (.inr hk) hd
  exact wpAny_Name (wpAny_loadName_free S.fk hk h1 h2 ⟨.refl S.inv, h3⟩ hn) hb
theorem ev_glob {x : Str} {pos : Pos} {v : Value} (G : W.Ok) (hk : env.kindOf x = some .globalImplicit) (hv : W.mg x = some v) (hb : (x == ("__debug__" : Str)) = false) : Ev W A env D (.Name x pos) (.raw v) := fun b OL s S =>
  Name_function_global S.fk hk (loadGlobal_global (S.eg ▸ G.ng.keeps S.inv.base) hv ⟨.refl S.inv, by simp only [Rep]⟩) hb
theorem ev_globI {x : Str} {pos : Pos} {i : Int} {t : Tok} (G : W.Ok) (hk : env.kindOf x = some .globalImplicit) (hv : W.mg x = some (.int i t)) (hb : (x == ("__debug__" : Str)) = false) : Ev W A env D (.Name x pos) (.int i) := fun b OL s S =>
  Name_function_global S.fk hk (loadGlobal_global (S.eg ▸ G.ng.keeps S.inv.base) hv ⟨.refl S.inv, by simp only [Rep]; exact ⟨t, rfl⟩⟩) hb
theorem ev_boot {x : Str} {pos : Pos} {v : Value} (G : W.Ok) (hk : env.kindOf x = some .globalImplicit) (hm : W.mg x = none) (hv : bootBuiltins x = some v) (hn : x ≠ "__name__") (hb : (x == ("__debug__" : Str)) = false) : Ev W A env D (.Name x pos) (.raw v) := fun b OL s S =>
  Name_function_global S.fk hk (loadGlobal_builtin (S.eg ▸ G.ng.keeps S.inv.base) hm (S.eb ▸ G.nb.keeps S.inv.base) ((G.builtins x hn).trans hv) ⟨.refl S.inv, by simp only [Rep]⟩) hb
theorem ev_int {i : Int} {k : Nat} {pos : Pos} : Ev W A env D (.Constant (.int i) k pos) (.int i) := fun _ _ _ S => wpAny_Constant_int ⟨.tok S.inv, by simp only [Rep]; exact ⟨_, rfl⟩⟩
theorem ev_str {x : Str} {k : Nat} {pos : Pos} : Ev W A env D (.Constant (.str x) k pos) (.str x) := fun _ _ _ S => Constant_str ⟨.tok S.inv, by simp only [Rep]; exact ⟨_, rfl⟩⟩
theorem ev_bytes {b : List UInt8} {k : Nat} {pos : Pos} : Ev W A env D (.Constant (.bytes b) k pos) (.bytes b.toArray) := fun _ _ s S => by
  show wpAny W.M A (mkTextBytes b.toArray) _ _ s
  exact fun _ _ _ => ⟨.tok S.inv, by simp only [Rep]; exact ⟨_, rfl⟩⟩

/-- A two-place operation on values. -/
def Op2 (W : Wd) (A : Around) (m : Value → Value → Sem Value) (a b c : Dt) : Prop :=
  ∀ O s va vb, IO W O s.heap → Rep s.heap O a va → Rep s.heap O b vb → Yl W A O (m va vb) c s
def Op1 (W : Wd) (A : Around) (m : Value → Sem Value) (a c : Dt) : Prop :=
  ∀ O s va, IO W O s.heap → Rep s.heap O a va → Yl W A O (m va) c s

theorem ev_bin {l r : Expr} {op : Operator} {pos : Pos} {a b c : Dt} (hl : Ev W A env D l a) (hr : Ev W A env D r b) (ho : Op2 W A (binaryOp op) a b c) : Ev W A env D (.BinOp l op r pos) c := fun b OL s S =>
  wpAny_BinOp ((hl b OL s S).use fun va s₁ x₁ r₁ => (hr b OL s₁ (S.stp x₁)).use fun vb s₂ x₂ r₂ => Yl.after (x₁.trans x₂) (ho _ s₂ va vb ((S.stp x₁).stp x₂).io (r₁.ext x₁.inv x₂.ext) r₂))
theorem ev_un {e : Expr} {op : UnaryOp} {pos : Pos} {a c : Dt} (he : Ev W A env D e a) (ho : Op1 W A (unaryOp op) a c) : Ev W A env D (.UnaryOp op e pos) c := fun b OL s S =>
  UnaryOp_ ((he b OL s S).use fun va s₁ x₁ r₁ => Yl.after x₁ (ho _ s₁ va (S.stp x₁).io r₁))
theorem ev_cmp {l r : Expr} {op : CmpOp} {pos : Pos} {a b c : Dt} (hl : Ev W A env D l a) (hr : Ev W A env D r b) (ho : Op2 W A (compareOp op) a b c) (hm : behindInMarks op r = false) : Ev W A env D (.Compare l [op] [r] pos) c := fun b OL s S =>
  wpAny_Compare1 ((hl b OL s S).use fun va s₁ x₁ r₁ => (hr b OL s₁ (S.stp x₁)).use fun vb s₂ x₂ r₂ => Yl.after (x₁.trans x₂) (ho _ s₂ va vb ((S.stp x₁).stp x₂).io (r₁.ext x₁.inv x₂.ext) r₂)) hm
theorem tst_cmp {l r : Expr} {op : CmpOp} {pos : Pos} {a b : Dt} {c : Bool} (hl : Ev W A env D l a) (hr : Ev W A env D r b) (ho : Op2 W A (compareOp op) a b (.bool c)) (hm : behindInMarks op r = false) : Tst W A env D (.Compare l [op] [r] pos) c := fun b OL s S =>
  wpAny_isTrue_Compare1 ((hl b OL s S).use fun va s₁ x₁ r₁ => (hr b OL s₁ (S.stp x₁)).use fun vb s₂ x₂ r₂ => (ho _ s₂ va vb ((S.stp x₁).stp x₂).io (r₁.ext x₁.inv x₂.ext) r₂).use fun vc s₃ x₃ r₃ => by
    simp only [Rep] at r₃
    subst r₃
    exact wpAny_truthy_bool ⟨rfl, (x₁.trans x₂).trans x₃⟩) hm

/-- The truth of a datum. -/
def Tru (W : Wd) (A : Around) (d : Dt) (c : Bool) : Prop := ∀ O s v, IO W O s.heap → Rep s.heap O d v → wpAny W.M A (truthy v) (fun b s' => b = c ∧ Stp W s s') (fun _ _ => False) s

theorem tst_ev {e : Expr} {d : Dt} {c : Bool} (he : Ev W A env D e d) (ht : Tru W A d c)
    (hp : isTrue e env (eval e env) = (do let v ← eval e env; standAt e.pos; holding [v] (truthy v))) : Tst W A env D e c := fun b OL s S =>
  isTrue_plain ((he b OL s S).use fun v s₁ x₁ r₁ => wpAny_mono (ht _ s₁ v (S.stp x₁).io r₁) (fun _ _ y => ⟨y.1, x₁.trans y.2⟩) fun _ _ y => y) hp
theorem ev_or2 {a b : Expr} {pos : Pos} {c : Bool} {d₁ d : Dt} (h1 : Ev W A env D a d₁) (ht : Tru W A d₁ c) (h2 : c = false → Ev W A env D b d) (h3 : c = true → d = d₁) : Ev W A env D (.BoolOp .Or [a, b] pos) d := fun b OL s S => by
  refine BoolOp_or ((h1 b OL s S).use fun v s₁ x₁ r₁ => ?_)
  refine wpAny_mono (ht _ s₁ v (S.stp x₁).io r₁) (fun c' s₂ y => ?_) fun _ _ y => y.elim
  obtain ⟨rfl, x₂⟩ := y
  cases c' with
  | true => rw [h3 rfl]; exact ⟨x₁.trans x₂, r₁.ext x₁.inv x₂.ext⟩
  | false => exact BoolOp_one (Yl.after (x₁.trans x₂) (h2 rfl b OL s₂ (S.stp (x₁.trans x₂))))
theorem ev_if {t a b : Expr} {pos : Pos} {c : Bool} {d : Dt} (ht : Tst W A env D t c) (h1 : c = true → Ev W A env D a d) (h2 : c = false → Ev W A env D b d) : Ev W A env D (.IfExp t a b pos) d := fun b OL s S => by
  refine IfExp_ (ht.use S fun s₁ x₁ => ?_)
  cases c with
  | true => exact Yl.after x₁ (h1 rfl b OL s₁ (S.stp x₁))
  | false => exact Yl.after x₁ (h2 rfl b OL s₁ (S.stp x₁))
end

end Mine
end

section
-- L1
open PySem PySem.W PySem.Calls PyProof.Rows
set_option maxRecDepth 100000

namespace Mine

theorem seqKeep_but {O : List Addr} {h h' : Heap} {a : Addr} (x : Heap.ExtBut a h h') (ha : ∀ o, h.get? a = some o → ∀ xs n, o.data ≠ .seq xs n) : SeqKeep O h h' :=
  fun b o xs n _ hd e => x b o (fun q => ha o (q ▸ e) xs n hd) e

theorem Inv.notP_of {W : Wd} {h : Heap} (I : Inv W h) {a : Addr} {o : Obj} (e : h.get? a = some o) (hd : ∀ vs, o.data ≠ .fields vs) : a ∉ W.Ps := fun hP => by
  obtain ⟨ps, e'⟩ := I.notP hP
  rw [e] at e'; cases e'; exact hd _ rfl

/-- The frame's own cells are new. -/
def CF (W : Wd) (b : Base) (env : Env) : Prop := ∀ x c, env.cells.lookup x = some c → b.hb.get? c = none ∧ W.g.get? c = none

section
variable {W : Wd} {A : Around} {b : Base} {env : Env} {D : List (Str × Dt)} {OL : List (Addr × List Dt)} {s : Shared} {E : Value → Shared → Prop}

theorem lookup_cons_self {x : Str} {d : Dt} : ((x, d) :: D).lookup x = some d := by simp
theorem lookup_cons_ne {x y : Str} {d : Dt} (h : y ≠ x) : ((x, d) :: D).lookup y = D.lookup y := by
  rw [List.lookup_cons, beq_eq_false_iff_ne.mpr h]

theorem store_loc {x : Str} {v : Value} {d : Dt} {Q : Unit → Shared → Prop} (S : St W b env D OL s) (hk : env.kindOf x = some .local) (r : Rep s.heap (ad OL ++ b.O) d v)
    (h : ∀ s', St W b env ((x, d) :: D) OL s' → (∀ d' v', Rep s.heap (ad OL ++ b.O) d' v' → Rep s'.heap (ad OL ++ b.O) d' v') → Q () s') : wpAny W.M A (storeName env x v) Q E s := by
  obtain ⟨m, hn, km⟩ := S.loc
  have hn' := hn
  obtain ⟨oL, es, ep, eL, hdL, _⟩ := hn'
  have hLP : env.locals ∉ W.Ps := S.inv.notP_of eL fun vs => by rw [hdL]; nofun
  refine wpAny_storeName_local hk hn (fun h' hn' hs => ?_) (by rw [S.fk]; rfl)
  have hx := hs.extBut
  have sk : SeqKeep (ad OL ++ b.O) s.heap h' := seqKeep_but hx fun o e xs n q => by rw [eL] at e; cases e; rw [hdL] at q; cases q
  have ne : ∀ {c : Addr} {o : Obj}, s.heap.get? c = some o → (∀ es ep, o.data ≠ .dict es ep) → c ≠ env.locals := fun e q e' => by
    rw [e', eL] at e; cases e; exact q _ _ hdL
  refine h _ { inv := S.inv.extBut hx S.lfresh.2 hLP fun o e vs q => by rw [eL] at e; cases e; rw [hdL] at q; cases q
               ext := S.ext.butP (P := (· = env.locals)) hx (fun a q => by rw [q]; exact S.lfresh.1)
               same := S.same.trans (Sm.mk _ _ _)
               ook := fun a ha => ?_
               fk := S.fk, eg := S.eg, eb := S.eb
               loc := ⟨_, hn', fun y d' h1 h2 => ?_⟩
               cel := fun y d' h1 h2 => ?_
               all := fun y c h1 => ?_
               own := fun p hp => ?_
               ofresh := S.ofresh, odisj := S.odisj, apart := S.apart, lfresh := S.lfresh } fun _ _ r' => r'.mono sk
  · exact S.ook.keep (seqKeep_but hx fun o e xs n q => by rw [eL] at e; cases e; rw [hdL] at q; cases q) a ha
  · by_cases q : y = x
    · subst q
      rw [lookup_cons_self] at h2; cases h2
      exact ⟨v, by simp, r.mono sk⟩
    · rw [lookup_cons_ne q] at h2
      obtain ⟨v', h3, h4⟩ := km y d' h1 h2
      exact ⟨v', by simp [q, h3], h4.mono sk⟩
  · have q : y ≠ x := fun q => by rw [q, hk] at h1; simp at h1
    rw [lookup_cons_ne q] at h2
    obtain ⟨c, v', h3, ⟨o, e, hd⟩, h5⟩ := S.cel y d' h1 h2
    exact ⟨c, v', h3, ⟨o, hx c o (ne e fun _ _ q => by rw [hd] at q; cases q) e, hd⟩, h5.mono sk⟩
  · obtain ⟨v', o, e, hd⟩ := S.all y c h1
    exact ⟨v', o, hx c o (ne e fun _ _ q => by rw [hd] at q; cases q) e, hd⟩
  · obtain ⟨vs, ⟨n, e⟩, r'⟩ := S.own p hp
    exact ⟨vs, ⟨n, hx _ _ (ne e fun _ _ q => by cases q) e⟩, r'.mono sk⟩

theorem store_cell {x : Str} {v : Value} {d : Dt} {c : Addr} {Q : Unit → Shared → Prop} (S : St W b env D OL s) (C : CF W b env) (hk : env.kindOf x = some .cell) (hc : env.cells.lookup x = some c) (r : Rep s.heap (ad OL ++ b.O) d v)
    (h : ∀ s', St W b env ((x, d) :: D) OL s' → (∀ d' v', Rep s.heap (ad OL ++ b.O) d' v' → Rep s'.heap (ad OL ++ b.O) d' v') → Q () s') : wpAny W.M A (storeName env x v) Q E s := by
  obtain ⟨v₀, oc, ec, hdc⟩ := S.all x c hc
  have hcP : c ∉ W.Ps := S.inv.notP_of ec fun vs => by rw [hdc]; nofun
  obtain ⟨m, hn, km⟩ := S.loc
  have ne : ∀ {a : Addr} {o : Obj}, s.heap.get? a = some o → (∀ w, o.data ≠ .cell w) → a ≠ c := fun e q e' => by
    rw [e', ec] at e; cases e; exact q _ hdc
  refine wpAny_storeName_cell S.fk hk hc ⟨oc, ec, hdc⟩ fun h' hv hs => ?_
  have hx := hs.extBut
  have sk : SeqKeep (ad OL ++ b.O) s.heap h' := seqKeep_but hx fun o e xs n q => by rw [ec] at e; cases e; rw [hdc] at q; cases q
  have hs' : Sm s { s with heap := h' } := ⟨h', s.toks, rfl⟩
  refine h _ { inv := S.inv.extBut hx (C x c hc).2 hcP fun o e vs q => by rw [ec] at e; cases e; rw [hdc] at q; cases q
               ext := S.ext.butP (P := (· = c)) hx (fun a q => by rw [q]; exact (C x c hc).1)
               same := S.same.trans hs'
               ook := fun a ha => ?_
               fk := S.fk, eg := S.eg, eb := S.eb
               loc := ?_
               cel := fun y d' h1 h2 => ?_
               all := fun y a h1 => ?_
               own := fun p hp => ?_
               ofresh := S.ofresh, odisj := S.odisj, apart := S.apart, lfresh := S.lfresh } fun _ _ r' => r'.mono sk
  · exact S.ook.keep (seqKeep_but hx fun o e xs n q => by rw [ec] at e; cases e; rw [hdc] at q; cases q) a ha
  · obtain ⟨oL, es, ep, eL, hdL, rL⟩ := hn
    refine ⟨m, ⟨oL, es, ep, hx _ _ (ne eL fun _ q => by rw [hdL] at q; cases q) eL, hdL, rL⟩, fun y d' h1 h2 => ?_⟩
    have q : y ≠ x := fun q => by rw [q, hk] at h1; simp at h1
    rw [lookup_cons_ne q] at h2
    obtain ⟨v', h3, h4⟩ := km y d' h1 h2
    exact ⟨v', h3, h4.mono sk⟩
  · by_cases q : y = x
    · subst q
      rw [lookup_cons_self] at h2; cases h2
      exact ⟨c, v, hc, hv, r.mono sk⟩
    · rw [lookup_cons_ne q] at h2
      obtain ⟨c', v', h3, ⟨o, e, hd⟩, h5⟩ := S.cel y d' h1 h2
      have hcc : c' ≠ c := fun q' => q (name_of_addr S.apart (mem_of_lookup h3) (q' ▸ mem_of_lookup hc))
      exact ⟨c', v', h3, ⟨o, hx c' o hcc e, hd⟩, h5.mono sk⟩
  · by_cases q : a = c
    · exact ⟨_, q ▸ hv⟩
    · obtain ⟨v', o, e, hd⟩ := S.all y a h1
      exact ⟨v', o, hx a o q e, hd⟩
  · obtain ⟨vs, ⟨n, e⟩, r'⟩ := S.own p hp
    exact ⟨vs, ⟨n, hx _ _ (ne e fun _ q => by cases q) e⟩, r'.mono sk⟩

/-- A name that the frame may store: a local, or a cell of its own. -/
def Sto (W : Wd) (b : Base) (env : Env) (x : Str) : Prop := env.kindOf x = some .local ∨ (env.kindOf x = some .cell ∧ CF W b env ∧ (env.cells.lookup x).isSome = true)

theorem store {x : Str} {v : Value} {d : Dt} {Q : Unit → Shared → Prop} (S : St W b env D OL s) (hk : Sto W b env x) (r : Rep s.heap (ad OL ++ b.O) d v)
    (h : ∀ s', St W b env ((x, d) :: D) OL s' → (∀ d' v', Rep s.heap (ad OL ++ b.O) d' v' → Rep s'.heap (ad OL ++ b.O) d' v') → Q () s') : wpAny W.M A (storeName env x v) Q E s := by
  rcases hk with hk | ⟨hk, C, hc⟩
  · exact store_loc S hk r h
  · obtain ⟨c, hc⟩ := Option.isSome_iff_exists.mp hc
    exact store_cell S C hk hc r h

variable {rest : List Stmt} {Q : Flow → Shared → Prop}

theorem x_assign {x : Str} {e : Expr} {p₁ pos : Pos} {d : Dt} (S : St W b env D OL s) (he : Ev W A env D e d) (hk : Sto W b env x) (hs : swapsWith e (some (.Name x p₁)) pos.line env = pure false)
    (h : ∀ s', St W b env ((x, d) :: D) OL s' → wpAny W.M A (execs rest env) Q E s') : wpAny W.M A (execs (.Assign [.Name x p₁] e pos :: rest) env) Q E s :=
  wpAny_execs_cons (wpAny_Assign_Name ((he b OL s S).use fun v s₁ x₁ r₁ => store (S.stp x₁) hk r₁ fun s₂ S₂ _ => h s₂ S₂) hs)

/-- A name is loaded. -/
def Ld (W : Wd) (A : Around) (env : Env) (D : List (Str × Dt)) (x : Str) (d : Dt) : Prop :=
  ∀ b OL s, St W b env D OL s → Yl W A (ad OL ++ b.O) (loadName env x) d s
theorem ld_loc {x : Str} {d : Dt} (hd : D.lookup x = some d) (hk : env.kindOf x = some .local) : Ld W A env D x d := fun b OL s S => by
  obtain ⟨m, hn, k⟩ := S.loc
  obtain ⟨v, h1, h2⟩ := k x d hk hd
  exact wpAny_loadName_local S.fk hk hn h1 ⟨.refl S.inv, h2⟩
theorem x_aug {x : Str} {e : Expr} {op : Operator} {p₁ pos : Pos} {d₀ d₁ d : Dt} (S : St W b env D OL s) (h0 : Ld W A env D x d₀) (he : Ev W A env D e d₁) (ho : Op2 W A (inplaceOp op) d₀ d₁ d) (hk : Sto W b env x)
    (h : ∀ s', St W b env ((x, d) :: D) OL s' → wpAny W.M A (execs rest env) Q E s') : wpAny W.M A (execs (.AugAssign (.Name x p₁) op e pos :: rest) env) Q E s :=
  wpAny_execs_cons (wpAny_AugAssign_Name ((h0 b OL s S).use fun v₀ s₁ x₁ r₁ => (he b OL s₁ (S.stp x₁)).use fun v₂ s₂ x₂ r₂ =>
    (ho _ s₂ v₀ v₂ ((S.stp x₁).stp x₂).io (r₁.ext x₁.inv x₂.ext) r₂).use fun _ _ x₃ r₃ => store (((S.stp x₁).stp x₂).stp x₃) hk r₃ fun s₄ S₄ _ => h s₄ S₄))

/-- What is done behind a suite that has fallen through. -/
abbrev Then (W : Wd) (A : Around) (env : Env) (rest : List Stmt) (Q : Flow → Shared → Prop) (E : Value → Shared → Prop) : Flow → Shared → Prop :=
  fun f s' => match f with | .next => wpAny W.M A (execs rest env) Q E s' | f => Q f s'

theorem x_if {t : Expr} {body orelse : List Stmt} {pos : Pos} {c : Bool} (S : St W b env D OL s) (ht : Tst W A env D t c)
    (h1 : c = true → ∀ s', St W b env D OL s' → wpAny W.M A (execs body env) (Then W A env rest Q E) E s')
    (h2 : c = false → ∀ s', St W b env D OL s' → wpAny W.M A (execs orelse env) (Then W A env rest Q E) E s') : wpAny W.M A (execs (.If t body orelse pos :: rest) env) Q E s := by
  refine wpAny_execs_cons (wpAny_If (ht.use S fun s₁ x₁ => ?_))
  cases c with
  | true => exact h1 rfl s₁ (S.stp x₁)
  | false => exact h2 rfl s₁ (S.stp x₁)
theorem x_nil (h : Q .next s) : wpAny W.M A (execs [] env) Q E s := wpAny_execs_nil h

/-- What a frame leaves behind. -/
structure Left (W : Wd) (b : Base) (s : Shared) : Prop where
  inv : Inv W s.heap
  ext : Ext W b.hb s.heap
  same : Sm b.s₀ s
theorem St.left (S : St W b env D OL s) : Left W b s := ⟨S.inv, S.ext, S.same⟩

theorem x_return {e : Expr} {pos : Pos} {d : Dt} (S : St W b env D OL s) (he : Ev W A env D e d)
    (h : ∀ v s', St W b env D OL s' → Rep s'.heap (ad OL ++ b.O) d v → Q (.ret v) s') : wpAny W.M A (execs (.Return (some e) pos :: rest) env) Q E s :=
  wpAny_execs_cons (wpAny_Return_some ((he b OL s S).use fun v s₁ x₁ r₁ => h v s₁ (S.stp x₁) r₁))
theorem x_return_none {pos : Pos} (h : Q (.ret .none) s) : wpAny W.M A (execs (.Return none pos :: rest) env) Q E s := wpAny_execs_cons (wpAny_Return_none h)
end

end Mine
end

section
-- L2
open PySem PySem.W PySem.Calls PyProof.Rows
set_option maxRecDepth 100000

namespace Mine

structure AOk (A : Around) (k : Nat) : Prop where
  handled : A.handled = none
  depth : A.depth + k < 900
  units : A.units + 3 * k < 9000

theorem AOk.le {A : Around} {k k' : Nat} (a : AOk A k) (h : k' ≤ k) : AOk A k' := ⟨a.handled, by have := a.depth; omega, by have := a.units; omega⟩
theorem AOk.deeper {A : Around} {k : Nat} (a : AOk A (k + 1)) (env : Env) : AOk (A.deeper env) k :=
  ⟨a.handled, by have := a.depth; show A.depth + 1 + k < 900; omega, by have := a.units; show A.units + 3 + 3 * k < 9000; omega⟩
theorem AOk.room {A : Around} {k : Nat} (a : AOk A k) : A.depth < recursionLimit := by have := a.depth; show A.depth < 1000; omega

/-- Several expressions, in their order. -/
def Evs (W : Wd) (A : Around) (env : Env) (D : List (Str × Dt)) (es : List Expr) (ds : List Dt) : Prop :=
  ∀ (pos : Pos) b OL s, St W b env D OL s → wpAny W.M A (spliced (backTo pos (starEach es env))) (fun vs s' => Stp W s s' ∧ RepL s'.heap (ad OL ++ b.O) ds vs) (fun _ _ => False) s

/-- A call's contract: needs `k` frames. -/
def Fn (W : Wd) (k : Nat) (f : Value) (ds : List Dt) (d : Dt) : Prop :=
  ∀ A O s vs, AOk A k → IO W O s.heap → RepL s.heap O ds vs → Yl W A O (call f vs) d s

/-- A def of the text, in the base. -/
structure FnAtC (W : Wd) (f : Addr) (name : Str) (params : Arguments) (body : List Stmt) (scope : Scope) (cd : Value) : Prop where
  ex : ∃ o pm doc, W.g.get? f = some o ∧ o.data = .func (docDef name params body scope pm cd doc) ∧ W.g.CodeRec cd name
def FnAt (W : Wd) (f : Addr) (name : Str) (params : Arguments) (body : List Stmt) (scope : Scope) : Prop := ∃ cd, FnAtC W f name params body scope cd

section
variable {W : Wd} {A : Around} {env : Env} {D : List (Str × Dt)}

theorem evs_nil : Evs W A env D [] [] := fun _ _ _ _ S => args_nil ⟨.refl S.inv, by simp only [RepL]⟩
theorem evs_cons {e : Expr} {es : List Expr} {d : Dt} {ds : List Dt} (h1 : Ev W A env D e d) (h2 : Evs W A env D es ds) (he : starEach (e :: es) env = (false, eval e env) :: starEach es env) : Evs W A env D (e :: es) (d :: ds) := fun pos b OL s S =>
  args_cons ((h1 b OL s S).use fun v s₁ x₁ r₁ => wpAny_mono (h2 pos b OL s₁ (S.stp x₁)) (fun vs s₂ y => ⟨x₁.trans y.1, by simp only [RepL]; exact ⟨v, vs, rfl, r₁.ext x₁.inv y.1.ext, y.2⟩⟩) fun _ _ y => y.elim) he

theorem ev_callG {x : Str} {p pos : Pos} {e : Expr} {es : List Expr} {ds : List Dt} {d : Dt} {f : Addr} {k : Nat} {name : Str} {params : Arguments} {body : List Stmt} {scope : Scope} (G : W.Ok) (hA : AOk A k)
    (hk : env.kindOf x = some .globalImplicit) (hb : (x == ("__debug__" : Str)) = false) (hv : W.mg x = some (.ref f)) (F : FnAt W f name params body scope) (ha : Evs W A env D (e :: es) ds) (hf : Fn W k (.ref f) ds d)
    (he : starEach (e :: es) env = (false, eval e env) :: starEach es env) : Ev W A env D (.Call (.Name x p) (e :: es) [] pos) d := fun b OL s S => by
  obtain ⟨cd, F⟩ := F
  obtain ⟨o, pm, doc, h1, h2, _⟩ := F.ex
  refine Call_ ((ev_glob G hk hv hb b OL s S).use fun v s₁ x₁ r₁ => ?_)
  simp only [Rep] at r₁
  subst r₁
  refine callWith_def h2 (wpAny_mono (ha pos b OL s₁ (S.stp x₁)) (fun vs s₂ y => ?_) fun _ _ y => y.elim) he
  exact ⟨y.1.inv.base _ _ h1, Yl.after (x₁.trans y.1) (hf A _ s₂ vs hA ((S.stp x₁).stp y.1).io y.2)⟩

theorem bindL_get {kd : Str → Option NameKind} : ∀ {xs : List Str} {vs : List Value} {m : Str → Option Value} {x : Str} {v : Value}, kd x = some .local → xs.Nodup → ((xs.zip vs).lookup x = some v ∨ (x ∉ xs ∧ m x = some v)) → bindL kd (xs.zip vs) m x = some v
  | [], _, _, _, _, _, _, h => by simpa [bindL] using h
  | _ :: _, [], _, _, _, _, _, h => by
    rcases h with h | h
    · simp at h
    · simpa [bindL] using h.2
  | y :: ys, w :: ws, m, x, v, hk, hn, h => by
    have hn' := List.nodup_cons.mp hn
    simp only [List.zip_cons_cons, bindL]
    refine bindL_get hk hn'.2 ?_
    by_cases q : x = y
    · subst q
      right
      refine ⟨hn'.1, ?_⟩
      rcases h with h | h
      · simp at h; simp [hk, h]
      · exact absurd List.mem_cons_self h.1
    · rcases h with h | h
      · left
        rw [List.zip_cons_cons, List.lookup_cons, beq_eq_false_iff_ne.mpr q] at h
        exact h
      · right
        refine ⟨fun hm => h.1 (List.mem_cons_of_mem _ hm), ?_⟩
        by_cases q' : kd y = some .local
        · simp [q', q, h.2]
        · simp [q', h.2]
theorem bindC_get {kd : Str → Option NameKind} : ∀ {xs : List Str} {vs : List Value} {m : Str → Option Value} {x : Str} {v : Value}, kd x ≠ some .local → xs.Nodup → ((xs.zip vs).lookup x = some v ∨ (x ∉ xs ∧ m x = some v)) → bindC kd (xs.zip vs) m x = some v
  | [], _, _, _, _, _, _, h => by simpa [bindC] using h
  | _ :: _, [], _, _, _, _, _, h => by
    rcases h with h | h
    · simp at h
    · simpa [bindC] using h.2
  | y :: ys, w :: ws, m, x, v, hk, hn, h => by
    have hn' := List.nodup_cons.mp hn
    simp only [List.zip_cons_cons, bindC]
    refine bindC_get hk hn'.2 ?_
    by_cases q : x = y
    · subst q
      right
      refine ⟨hn'.1, ?_⟩
      rcases h with h | h
      · simp at h; simp [hk, h]
      · exact absurd List.mem_cons_self h.1
    · rcases h with h | h
      · left
        rw [List.zip_cons_cons, List.lookup_cons, beq_eq_false_iff_ne.mpr q] at h
        exact h
      · right
        refine ⟨fun hm => h.1 (List.mem_cons_of_mem _ hm), ?_⟩
        by_cases q' : kd y = some .local
        · simp [q', h.2]
        · simp [q', q, h.2]
theorem zip_get {h : Heap} {O : List Addr} : ∀ {xs : List Str} {ds : List Dt} {vs : List Value} {x : Str} {d : Dt}, RepL h O ds vs → (xs.zip ds).lookup x = some d → ∃ v, (xs.zip vs).lookup x = some v ∧ Rep h O d v
  | [], _, _, _, _, _, e => by simp at e
  | _ :: _, [], _, _, _, _, e => by simp at e
  | y :: ys, d₀ :: ds, vs, x, d, r, e => by
    simp only [RepL] at r
    obtain ⟨v, vs', rfl, r1, r2⟩ := r
    rw [List.zip_cons_cons, List.lookup_cons] at e ⊢
    cases hq : x == y with
    | true => rw [hq] at e; cases e; exact ⟨v, rfl, r1⟩
    | false => rw [hq] at e; exact zip_get r2 e

/-- What a def's body must do. -/
def BodyOk (W : Wd) (A : Around) (b : Base) (env : Env) (body : List Stmt) (d : Dt) (s : Shared) : Prop :=
  wpAny W.M A (execs body env) (fun fl s' => ∃ v, fl = .ret v ∧ Left W b s' ∧ Rep s'.heap b.O d v) (fun _ _ => False) s

/-- The start of a call of a def of the text. -/
theorem enter {f : Addr} {name : Str} {params : Arguments} {body : List Stmt} {scope : Scope} {xs : List Str} {ds : List Dt} {vs : List Value} {k : Nat} {O : List Addr} {s : Shared} {hb : Heap} {R : Result → Shared → Prop} {cd : Value} (G : W.Ok) (F : FnAtC W f name params body scope cd)
    (hA : AOk A (k + 1)) (I : IO W O s.heap) (hhb : Ext W hb s.heap) (ra : RepL s.heap O ds vs)
    (hbind : ∀ pm cd doc (vs : List Value), vs.length = xs.length → bindArgs (docDef name params body scope pm cd doc) ⟨vs, []⟩ = pure (xs.zip vs))
    (hlen : ds.length = xs.length) (hnd : xs.Nodup)
    (hkind : ∀ x ∈ xs, scope.names.lookup x = some .local ∨ scope.names.lookup x = some .cell) (hfr : ∀ x, scope.names.lookup x ≠ some .free)
    (hcl : ∀ n x, scope.names.lookup x = some .cell → ((cellsFrom n scope.names []).lookup x).isSome = true)
    (hb' : ∀ L s', AOk (A.deeper (envOfC name scope L f cd)) k → St W ⟨hb, s, O⟩ (envOfC name scope L f cd) (xs.zip ds) [] s' → CF W ⟨hb, s, O⟩ (envOfC name scope L f cd) →
      wpAny W.M (A.deeper (envOfC name scope L f cd)) (execs body (envOfC name scope L f cd)) (fun fl s' => R (.ok (.ret (match fl with | .ret v => v | _ => .none))) s')
        (fun e s' => wpAny W.M (A.deeper (envOfC name scope L f cd)) (leaving (envOfC name scope L f cd) e) (fun _ s'' => R (.error e) s'') (fun e' s'' => R (.error e') s'') s') s')
    (hco : scope.isCoroutine = false) (hgen : scope.isGenerator = false) (hk : scope.kind = .function) : codeAny W.M A (.call (.ref f) ⟨vs, []⟩) R s := by
  obtain ⟨o, pm, doc, h1, h2, h3⟩ := F.ex
  have hvl : vs.length = xs.length := ra.length.trans hlen
  refine call_cells hA.room (I.inv.base _ _ h1) h2 (G.nolimit.keeps I.inv.base) (h3.keeps I.inv.base) (hbind pm cd doc vs hvl) (fun p hp => ?_) (fun h₁ tk Fr₁ Cl₁ => ?_) hco hgen hk
  · have hx := hkind p.1 (List.of_mem_zip hp).1
    exact hx.imp id fun q => ⟨q, hcl _ _ q⟩
  · have keep := Fr₁.keep
    have hLn : s.heap.get? s.heap.objs.size = none := Heap.get?_none_of_le (Nat.le_refl _)
    have fresh : ∀ a, s.heap.objs.size ≤ a → hb.get? a = none ∧ W.g.get? a = none := fun a ha => by
      have hn : s.heap.get? a = none := Heap.get?_none_of_le ha
      refine ⟨?_, ?_⟩
      · cases q : hb.get? a with
        | none => rfl
        | some o' =>
          by_cases hP : a ∈ W.Ps
          · obtain ⟨ps, e⟩ := I.inv.notP hP
            rw [hn] at e; cases e
          · obtain ⟨sl, q'⟩ := hhb.there hP q; rw [q'] at hn; cases hn
      · cases q : W.g.get? a with
        | none => rfl
        | some o' => rw [I.inv.base a o' q] at hn; cases hn
    refine hb' s.heap.objs.size _ (hA.deeper _) { inv := I.inv.keeps keep, ext := hhb.trans (.of_keep keep), same := Sm.mk _ _ _, ook := I.ook.ext (.of_keep keep), fk := hk, eg := rfl, eb := rfl, loc := ⟨_, Fr₁.ns, fun x d hx hd => ?_⟩, cel := fun x d hx hd => ?_, all := fun x c hx => ⟨_, Cl₁.cell x c hx⟩, own := fun p hp => (nomatch hp), ofresh := fun p hp => (nomatch hp), odisj := fun p hp => (nomatch hp), apart := Cl₁.apart, lfresh := fresh _ (Nat.le_refl _) } fun x c hx => fresh _ (Nat.le_of_lt (Cl₁.above x c (mem_of_lookup hx)))
    · obtain ⟨v, e, r⟩ := zip_get ra hd
      exact ⟨v, bindL_get hx hnd (.inl e), r.ext I.inv (.of_keep keep)⟩
    · have hx' : (envOfC name scope s.heap.objs.size f cd).kindOf x = some .cell := by
        rcases hx with hx | hx
        · exact hx
        · exact absurd hx (hfr x)
      obtain ⟨c, hc⟩ := Option.isSome_iff_exists.mp (hcl (s.heap.objs.size + 1) x hx')
      obtain ⟨v, e, r⟩ := zip_get ra hd
      have hcell := Cl₁.cell x c hc
      rw [bindC_get (by rw [hx']; decide) hnd (.inl e)] at hcell
      exact ⟨c, v, hc, hcell, r.ext I.inv (.of_keep keep)⟩

theorem fnC_intro {f : Addr} {name : Str} {params : Arguments} {body : List Stmt} {scope : Scope} {xs : List Str} {ds : List Dt} {d : Dt} {k : Nat} {cd : Value} (G : W.Ok) (F : FnAtC W f name params body scope cd)
    (hbind : ∀ pm cd doc (vs : List Value), vs.length = xs.length → bindArgs (docDef name params body scope pm cd doc) ⟨vs, []⟩ = pure (xs.zip vs))
    (hlen : ds.length = xs.length) (hnd : xs.Nodup)
    (hkind : ∀ x ∈ xs, scope.names.lookup x = some .local ∨ scope.names.lookup x = some .cell) (hfr : ∀ x, scope.names.lookup x ≠ some .free)
    (hcl : ∀ n x, scope.names.lookup x = some .cell → ((cellsFrom n scope.names []).lookup x).isSome = true)
    (hb : ∀ A b L s, AOk A k → St W b (envOfC name scope L f cd) (xs.zip ds) [] s → CF W b (envOfC name scope L f cd) → BodyOk W A b (envOfC name scope L f cd) body d s)
    (hco : scope.isCoroutine = false) (hgen : scope.isGenerator = false) (hk : scope.kind = .function) : Fn W (k + 1) (.ref f) ds d := fun A O s vs hA I ra => by
  refine wpAny_call (enter G F hA I (.refl _ _) ra hbind hlen hnd hkind hfr hcl (fun L s' hA' S C => ?_) hco hgen hk)
  refine wpAny_mono (hb _ _ L s' hA' S C) (fun fl s'' y => ?_) fun _ _ y => y.elim
  obtain ⟨v, rfl, l, r⟩ := y
  exact ⟨⟨l.inv, l.ext, l.same⟩, r⟩
end

end Mine
end

section
-- L3
open PySem PySem.W PySem.Calls PyProof.Rows
set_option maxRecDepth 100000

namespace Mine
open Builtin.Int (intBits)

section
variable {W : Wd} {A : Around} {a b : Int}

theorem yl_int {O : List Addr} {s : Shared} {i : Int} (I : IO W O s.heap) : Stp W s { s with toks := s.toks + 1 } ∧ Rep ({ s with toks := s.toks + 1 } : Shared).heap O (.int i) (.int i s.toks) := ⟨.tok I.inv, by simp only [Rep]; exact ⟨_, rfl⟩⟩
theorem yl_bool {O : List Addr} {s : Shared} {c : Bool} (I : IO W O s.heap) : Stp W s s ∧ Rep s.heap O (.bool c) (.bool c) := ⟨.refl I.inv, by simp only [Rep]⟩

theorem op_add : Op2 W A (binaryOp .Add) (.int a) (.int b) (.int (a + b)) := fun O s va vb I ra rb => by
  simp only [Rep] at ra rb; obtain ⟨t, rfl⟩ := ra; obtain ⟨u, rfl⟩ := rb
  unfold Yl; with_reducible refine PyProof.Rows.add_int ?_; exact yl_int I
theorem op_sub : Op2 W A (binaryOp .Sub) (.int a) (.int b) (.int (a - b)) := fun O s va vb I ra rb => by
  simp only [Rep] at ra rb; obtain ⟨t, rfl⟩ := ra; obtain ⟨u, rfl⟩ := rb
  unfold Yl; with_reducible refine PyProof.Rows.sub_int' ?_; exact yl_int I
theorem op_mul (h : IntMulOk a b) : Op2 W A (binaryOp .Mult) (.int a) (.int b) (.int (a * b)) := fun O s va vb I ra rb => by
  simp only [Rep] at ra rb; obtain ⟨t, rfl⟩ := ra; obtain ⟨u, rfl⟩ := rb
  unfold Yl; with_reducible refine PyProof.Rows.mul_int ?_ h; exact yl_int I
theorem op_fdiv (h0 : b ≠ 0) (h : Builtin.divisionGoesByPylong a b = false) : Op2 W A (binaryOp .FloorDiv) (.int a) (.int b) (.int (a.fdiv b)) := fun O s va vb I ra rb => by
  simp only [Rep] at ra rb; obtain ⟨t, rfl⟩ := ra; obtain ⟨u, rfl⟩ := rb
  unfold Yl; with_reducible refine PyProof.Rows.floordiv_int h0 ?_ (.inl h); exact yl_int I
theorem op_mod (h0 : b ≠ 0) : Op2 W A (binaryOp .Mod) (.int a) (.int b) (.int (a.fmod b)) := fun O s va vb I ra rb => by
  simp only [Rep] at ra rb; obtain ⟨t, rfl⟩ := ra; obtain ⟨u, rfl⟩ := rb
  unfold Yl; with_reducible refine PyProof.Rows.mod_int' h0 ?_; exact yl_int I
theorem op_pow (h0 : 0 ≤ b) (h : (intBits a : Int) * b ≤ 2 ^ 27) : Op2 W A (binaryOp .Pow) (.int a) (.int b) (.int (a ^ b.toNat)) := fun O s va vb I ra rb => by
  simp only [Rep] at ra rb; obtain ⟨t, rfl⟩ := ra; obtain ⟨u, rfl⟩ := rb
  unfold Yl; with_reducible refine PyProof.Rows.pow_int h0 h ?_; exact yl_int I
theorem op_shl (h0 : 0 ≤ b) (h : (intBits a : Int) + b ≤ 2 ^ 27) : Op2 W A (binaryOp .LShift) (.int a) (.int b) (.int (a * 2 ^ b.toNat)) := fun O s va vb I ra rb => by
  simp only [Rep] at ra rb; obtain ⟨t, rfl⟩ := ra; obtain ⟨u, rfl⟩ := rb
  unfold Yl; with_reducible refine PyProof.Rows.lshift_int h0 h ?_; exact yl_int I
theorem op_shr (h0 : 0 ≤ b) : Op2 W A (binaryOp .RShift) (.int a) (.int b) (.int (a.fdiv (2 ^ b.toNat))) := fun O s va vb I ra rb => by
  simp only [Rep] at ra rb; obtain ⟨t, rfl⟩ := ra; obtain ⟨u, rfl⟩ := rb
  unfold Yl; with_reducible refine PyProof.Rows.rshift_int h0 ?_; exact yl_int I
theorem op_and : Op2 W A (binaryOp .BitAnd) (.int a) (.int b) (.int (Builtin.bitAnd a b)) := fun O s va vb I ra rb => by
  simp only [Rep] at ra rb; obtain ⟨t, rfl⟩ := ra; obtain ⟨u, rfl⟩ := rb
  unfold Yl; with_reducible refine PyProof.Rows.and_int ?_; exact yl_int I
theorem op_or : Op2 W A (binaryOp .BitOr) (.int a) (.int b) (.int (Builtin.bitOr a b)) := fun O s va vb I ra rb => by
  simp only [Rep] at ra rb; obtain ⟨t, rfl⟩ := ra; obtain ⟨u, rfl⟩ := rb
  unfold Yl; with_reducible refine PyProof.Rows.or_int ?_; exact yl_int I
theorem op_xor : Op2 W A (binaryOp .BitXor) (.int a) (.int b) (.int (Builtin.bitXor a b)) := fun O s va vb I ra rb => by
  simp only [Rep] at ra rb; obtain ⟨t, rfl⟩ := ra; obtain ⟨u, rfl⟩ := rb
  unfold Yl; with_reducible refine PyProof.Rows.xor_int ?_; exact yl_int I
theorem iop_add : Op2 W A (inplaceOp .Add) (.int a) (.int b) (.int (a + b)) := fun O s va vb I ra rb => by
  simp only [Rep] at ra rb; obtain ⟨t, rfl⟩ := ra; obtain ⟨u, rfl⟩ := rb
  unfold Yl; with_reducible refine PyProof.Rows.iadd_int ?_; exact yl_int I
theorem iop_sub : Op2 W A (inplaceOp .Sub) (.int a) (.int b) (.int (a - b)) := fun O s va vb I ra rb => by
  simp only [Rep] at ra rb; obtain ⟨t, rfl⟩ := ra; obtain ⟨u, rfl⟩ := rb
  unfold Yl; with_reducible refine PyProof.Rows.isub_int ?_; exact yl_int I
theorem iop_shl (h0 : 0 ≤ b) (h : (intBits a : Int) + b ≤ 2 ^ 27) : Op2 W A (inplaceOp .LShift) (.int a) (.int b) (.int (a * 2 ^ b.toNat)) := fun O s va vb I ra rb => by
  simp only [Rep] at ra rb; obtain ⟨t, rfl⟩ := ra; obtain ⟨u, rfl⟩ := rb
  unfold Yl; with_reducible refine PyProof.Rows.ilshift_int h0 h ?_; exact yl_int I
theorem iop_shr (h0 : 0 ≤ b) : Op2 W A (inplaceOp .RShift) (.int a) (.int b) (.int (a.fdiv (2 ^ b.toNat))) := fun O s va vb I ra rb => by
  simp only [Rep] at ra rb; obtain ⟨t, rfl⟩ := ra; obtain ⟨u, rfl⟩ := rb
  unfold Yl; with_reducible refine PyProof.Rows.irshift_int h0 ?_; exact yl_int I
theorem op_neg : Op1 W A (unaryOp .USub) (.int a) (.int (-a)) := fun O s va I ra => by
  simp only [Rep] at ra; obtain ⟨t, rfl⟩ := ra
  unfold Yl; with_reducible refine PyProof.Rows.neg_int ?_; exact yl_int I
theorem op_inv : Op1 W A (unaryOp .Invert) (.int a) (.int (Builtin.bitNot a)) := fun O s va I ra => by
  simp only [Rep] at ra; obtain ⟨t, rfl⟩ := ra
  unfold Yl; with_reducible refine PyProof.Rows.invert_int ?_; exact yl_int I
theorem op_eq : Op2 W A (compareOp .Eq) (.int a) (.int b) (.bool (a == b)) := fun O s va vb I ra rb => by
  simp only [Rep] at ra rb; obtain ⟨t, rfl⟩ := ra; obtain ⟨u, rfl⟩ := rb
  unfold Yl; with_reducible refine PyProof.Rows.eq_int ?_; exact yl_bool I
theorem op_lt : Op2 W A (compareOp .Lt) (.int a) (.int b) (.bool (decide (a < b))) := fun O s va vb I ra rb => by
  simp only [Rep] at ra rb; obtain ⟨t, rfl⟩ := ra; obtain ⟨u, rfl⟩ := rb
  unfold Yl; with_reducible refine PyProof.Rows.lt_int ?_; exact yl_bool I
theorem op_gt : Op2 W A (compareOp .Gt) (.int a) (.int b) (.bool (decide (b < a))) := fun O s va vb I ra rb => by
  simp only [Rep] at ra rb; obtain ⟨t, rfl⟩ := ra; obtain ⟨u, rfl⟩ := rb
  unfold Yl; with_reducible refine PyProof.Rows.gt_int ?_; exact yl_bool I
theorem op_le : Op2 W A (compareOp .LtE) (.int a) (.int b) (.bool (decide (a ≤ b))) := fun O s va vb I ra rb => by
  simp only [Rep] at ra rb; obtain ⟨t, rfl⟩ := ra; obtain ⟨u, rfl⟩ := rb
  unfold Yl; with_reducible refine PyProof.Rows.le_int ?_; exact yl_bool I
theorem tru_int : Tru W A (.int a) (a != 0) := fun O s v I r => by
  simp only [Rep] at r; obtain ⟨t, rfl⟩ := r
  exact PyProof.Rows.truthy_int ⟨rfl, .refl I.inv⟩
theorem tru_bool {c : Bool} : Tru W A (.bool c) c := fun O s v I r => by
  simp only [Rep] at r; subst r
  exact wpAny_truthy_bool ⟨rfl, .refl I.inv⟩
theorem op_eq_str {x y : Str} : Op2 W A (compareOp .Eq) (.str x) (.str y) (.bool (x == y)) := fun O s va vb I ra rb => by
  simp only [Rep] at ra rb; obtain ⟨t, rfl⟩ := ra; obtain ⟨u, rfl⟩ := rb
  unfold Yl; with_reducible refine PyProof.Rows.eq_str ?_; exact yl_bool I
theorem op_ne_str {x y : Str} : Op2 W A (compareOp .NotEq) (.str x) (.str y) (.bool (x != y)) := fun O s va vb I ra rb => by
  simp only [Rep] at ra rb; obtain ⟨t, rfl⟩ := ra; obtain ⟨u, rfl⟩ := rb
  unfold Yl; with_reducible refine PyProof.Rows.ne_str ?_; exact yl_bool I
theorem op_in_str {x y : Str} : Op2 W A (compareOp .In) (.str y) (.str x) (.bool !(Builtin.Str.occurrences x y 0 x.length 1).isEmpty) := fun O s va vb I ra rb => by
  simp only [Rep] at ra rb; obtain ⟨t, rfl⟩ := ra; obtain ⟨u, rfl⟩ := rb
  unfold Yl; with_reducible refine PyProof.Rows.in_str ?_; exact yl_bool I
end

end Mine
end

section
-- L4
open PySem PySem.W PySem.Calls PyProof.Rows
set_option maxRecDepth 100000

namespace Mine
open Builtin.Int (intBits)

/-- A built-in's call. -/
def Bc (W : Wd) (A : Around) (f : Value) (ds : List Dt) (d : Dt) : Prop := ∀ O s vs, IO W O s.heap → RepL s.heap O ds vs → Yl W A O (call f vs) d s
/-- A datum's method. -/
def GetM (W : Wd) (A : Around) (d : Dt) (name : Str) (id : String) : Prop :=
  ∀ O s v (pl : Sem Bool) (Q : Value × List Value → Shared → Prop), IO W O s.heap → Rep s.heap O d v → Q (.builtin id, [v]) s → wpAny W.M A (getMethod v name pl) Q (fun _ _ => False) s

section
variable {W : Wd} {A : Around} {env : Env} {D : List (Str × Dt)}

theorem ev_bcall {x : Str} {p pos : Pos} {e : Expr} {es : List Expr} {ds : List Dt} {d : Dt} {id : String} (G : W.Ok)
    (hk : env.kindOf x = some .globalImplicit) (hb : (x == ("__debug__" : Str)) = false) (hm : W.mg x = none) (hv : bootBuiltins x = some (.builtin id)) (hn : x ≠ "__name__") (ha : Evs W A env D (e :: es) ds) (hf : Bc W A (.builtin id) ds d)
    (he : starEach (e :: es) env = (false, eval e env) :: starEach es env) (hplain : (backTo pos (starEach es env)).any (·.1) = false) : Ev W A env D (.Call (.Name x p) (e :: es) [] pos) d := fun b OL s S => by
  refine Call_ ((ev_boot G hk hm hv hn hb b OL s S).use fun v s₁ x₁ r₁ => ?_)
  simp only [Rep] at r₁
  subst r₁
  exact PyProof.Rows.callWith_builtin1 (wpAny_mono (ha pos b OL s₁ (S.stp x₁)) (fun vs s₂ y => Yl.after (x₁.trans y.1) (hf _ s₂ vs ((S.stp x₁).stp y.1).io y.2)) fun _ _ y => y.elim) he hplain
theorem ev_tcall {x : Str} {p pos : Pos} {e : Expr} {es : List Expr} {ds : List Dt} {d : Dt} {T : String} (G : W.Ok)
    (hk : env.kindOf x = some .globalImplicit) (hb : (x == ("__debug__" : Str)) = false) (hm : W.mg x = none) (hv : bootBuiltins x = some (.type T)) (hn : x ≠ "__name__") (ha : Evs W A env D (e :: es) ds) (hf : Bc W A (.type T) ds d)
    (he : starEach (e :: es) env = (false, eval e env) :: starEach es env) (hplain : (backTo pos (starEach es env)).any (·.1) = false) : Ev W A env D (.Call (.Name x p) (e :: es) [] pos) d := fun b OL s S => by
  refine Call_ ((ev_boot G hk hm hv hn hb b OL s S).use fun v s₁ x₁ r₁ => ?_)
  simp only [Rep] at r₁
  subst r₁
  exact PyProof.Rows.callWith_type1 (wpAny_mono (ha pos b OL s₁ (S.stp x₁)) (fun vs s₂ y => Yl.after (x₁.trans y.1) (hf _ s₂ vs ((S.stp x₁).stp y.1).io y.2)) fun _ _ y => y.elim) he hplain

abbrev MethEq (env : Env) (o : Expr) (name : Str) (apos pos : Pos) (args : List Expr) (pl : Sem Bool) : Prop :=
  eval (.Call (.Attribute o name apos) args [] pos) env = (do
      let ov ← eval o env
      standAt apos.atName
      let (f, first) ← holding [ov] (getMethod ov name pl)
      callWith pos f first (backTo pos (starEach args env)) [])

theorem ev_meth0 {o : Expr} {name : Str} {apos pos : Pos} {pl : Sem Bool} {d₀ d : Dt} {id : String} (ho : Ev W A env D o d₀) (hg : GetM W A d₀ name id) (hc : Bc W A (.builtin id) [d₀] d) (he : MethEq env o name apos pos [] pl) :
    Ev W A env D (.Call (.Attribute o name apos) [] [] pos) d := fun b OL s S => by
  refine MethodCall_ (pl := pl) ((ho b OL s S).use fun v s₁ x₁ r₁ => ?_) he
  refine wpAny_mono (hg _ s₁ v pl (fun fx s' => fx = (.builtin id, [v]) ∧ s' = s₁) (S.stp x₁).io r₁ ⟨rfl, rfl⟩) (fun fx s₂ y => ?_) fun _ _ y => y.elim
  obtain ⟨rfl, rfl⟩ := y
  exact PyProof.Rows.callWith_method0 (Yl.after x₁ (hc _ _ [v] (S.stp x₁).io (by simp only [RepL]; exact ⟨v, [], rfl, r₁, rfl⟩)))
theorem ev_meth1 {o e : Expr} {es : List Expr} {name : Str} {apos pos : Pos} {pl : Sem Bool} {d₀ d : Dt} {ds : List Dt} {id : String} (ho : Ev W A env D o d₀) (hg : GetM W A d₀ name id) (ha : Evs W A env D (e :: es) ds) (hc : Bc W A (.builtin id) (d₀ :: ds) d)
    (he : MethEq env o name apos pos (e :: es) pl) (he' : starEach (e :: es) env = (false, eval e env) :: starEach es env) (hplain : (backTo pos (starEach es env)).any (·.1) = false) :
    Ev W A env D (.Call (.Attribute o name apos) (e :: es) [] pos) d := fun b OL s S => by
  refine MethodCall_ (pl := pl) ((ho b OL s S).use fun v s₁ x₁ r₁ => ?_) he
  refine wpAny_mono (hg _ s₁ v pl (fun fx s' => fx = (.builtin id, [v]) ∧ s' = s₁) (S.stp x₁).io r₁ ⟨rfl, rfl⟩) (fun fx s₂ y => ?_) fun _ _ y => y.elim
  obtain ⟨rfl, rfl⟩ := y
  exact PyProof.Rows.callWith_method1 (wpAny_mono (ha pos b OL _ (S.stp x₁)) (fun vs s₃ y => Yl.after (x₁.trans y.1) (hc _ s₃ (v :: vs) ((S.stp x₁).stp y.1).io (by simp only [RepL]; exact ⟨v, vs, rfl, r₁.ext x₁.inv y.1.ext, y.2⟩))) fun _ _ y => y.elim) he' hplain

theorem ev_tuple {es : List Expr} {ds : List Dt} {k : Nat} {pos : Pos} (h : Evs W A env D es ds) (hsz : ds.length ≤ 1000) : Ev W A env D (.Tuple es k pos) (.tup ds) := fun b OL s S => by
  refine Tuple_ (wpAny_mono (h pos b OL s S) (fun vs s₁ y => ?_) fun _ _ y => y.elim)
  refine wpAny_newTuple ⟨y.1.trans (Stp.push (tk := s₁.toks) y.1.inv), ?_⟩ (by rw [y.2.length, sizeLine_eq]; omega)
  simp only [Rep]
  refine ⟨_, vs.toArray, rfl, ((S.stp y.1).ook).size, ⟨_, Heap.get?_push_size _ rfl, rfl, _, rfl⟩, ?_⟩
  exact y.2.ext y.1.inv (.of_keep fun _ _ e => Heap.get?_push_of_some _ e)
theorem ev_list {es : List Expr} {ds : List Dt} {pos : Pos} (h : Evs W A env D es ds) (hsz : ds.length ≤ 1000) : Ev W A env D (.List es pos) (.lst ds) := fun b OL s S => by
  refine List_ (wpAny_mono (h pos b OL s S) (fun vs s₁ y => ?_) fun _ _ y => y.elim)
  refine wpAny_newList ⟨y.1.trans (Stp.push (tk := s₁.toks) y.1.inv), ?_⟩ (by rw [y.2.length, sizeLine_eq]; omega)
  simp only [Rep]
  refine ⟨_, vs.toArray, rfl, ((S.stp y.1).ook).size, ⟨_, Heap.get?_push_size _ rfl⟩, ?_⟩
  exact y.2.ext y.1.inv (.of_keep fun _ _ e => Heap.get?_push_of_some _ e)

theorem bc_bit_length {a : Int} : Bc W A (.builtin "int.bit_length") [.int a] (.int (intBits a)) := fun O s vs I r => by
  simp only [RepL, Rep] at r
  obtain ⟨v, _, rfl, ⟨t, rfl⟩, rfl⟩ := r
  unfold Yl; with_reducible refine PyProof.Rows.call_int_bit_length ?_; exact yl_int I
theorem gm_bit_length {a : Int} : GetM W A (.int a) (Str.ofString "bit_length") "int.bit_length" := fun O s v pl Q _ r h => by
  simp only [Rep] at r
  obtain ⟨t, rfl⟩ := r
  with_reducible refine PyProof.Rows.getMethod_int_bit_length ?_
  exact h
theorem bc_divmod {a b : Int} (h0 : b ≠ 0) (h : Builtin.divisionGoesByPylong a b = false) : Bc W A (.builtin "divmod") [.int a, .int b] (.tup [.int (a.fdiv b), .int (a.fmod b)]) := fun O s vs I r => by
  simp only [RepL, Rep] at r
  obtain ⟨v, _, rfl, ⟨t, rfl⟩, v', _, rfl, ⟨t', rfl⟩, rfl⟩ := r
  unfold Yl
  with_reducible refine PyProof.Rows.divmod_int h0 ?_ (.inl h)
  refine ⟨Stp.push (tk := s.toks + 1 + 1) I.inv, ?_⟩
  simp only [Rep]
  refine ⟨_, _, rfl, I.ook.size, ⟨_, Heap.get?_push_size _ rfl, rfl, _, rfl⟩, ?_⟩
  simp only [RepL, Rep]
  exact ⟨_, _, rfl, ⟨_, rfl⟩, _, _, rfl, ⟨_, rfl⟩, rfl⟩

/-- An item of a list or a tuple. -/
theorem op_item_list {value slice : Expr} {ds : List Dt} {k : Int} {d : Dt} (h0 : 0 ≤ k) (h1 : k < 2 ^ 63) (hd : ds[k.toNat]? = some d) (hs : ∀ o i, subscripted slice false o i = operate [o, i] (getItem o i)) :
    Op2 W A (subscriptTail value slice) (.lst ds) (.int k) d := fun O s va vb I ra rb => by
  simp only [Rep] at ra rb
  obtain ⟨l, vs, rfl, _, hl, rl⟩ := ra
  obtain ⟨u, rfl⟩ := rb
  obtain ⟨v, hv, rv⟩ := rl.get hd
  exact tail_any hl.isList.typeIs slot_list_getitem.lookup (wpAny_getItem_list hl.isList h0 h1 (by simpa using hv) ⟨.refl I.inv, rv⟩) (hs _ _)
theorem op_item_lsw {value slice : Expr} {ds : List Dt} {k : Int} {d : Dt} (h0 : 0 ≤ k) (h1 : k < 2 ^ 63) (hd : ds[k.toNat]? = some d) (hs : ∀ o i, subscripted slice false o i = operate [o, i] (getItem o i)) :
    Op2 W A (subscriptTail value slice) (.lsw ds) (.int k) d := fun O s va vb I ra rb => by
  simp only [Rep] at ra rb
  obtain ⟨l, vs, rfl, _, hl, rl⟩ := ra
  obtain ⟨u, rfl⟩ := rb
  obtain ⟨v, hv, rv⟩ := rl.get hd
  exact tail_any hl.typeIs slot_list_getitem.lookup (wpAny_getItem_list hl h0 h1 (by simpa using hv) ⟨.refl I.inv, rv⟩) (hs _ _)
theorem op_item_tup {value slice : Expr} {ds : List Dt} {k : Int} {d : Dt} (h0 : 0 ≤ k) (h1 : k < 2 ^ 63) (hd : ds[k.toNat]? = some d) (hs : ∀ o i, subscripted slice false o i = operate [o, i] (getItem o i)) :
    Op2 W A (subscriptTail value slice) (.tup ds) (.int k) d := fun O s va vb I ra rb => by
  simp only [Rep] at ra rb
  obtain ⟨l, vs, rfl, _, hl, rl⟩ := ra
  obtain ⟨u, rfl⟩ := rb
  obtain ⟨v, hv, rv⟩ := rl.get hd
  have hv' : vs[k.toNat]? = some v := by simpa using hv
  have hlt : k.toNat < vs.size := by
    rcases Nat.lt_or_ge k.toNat vs.size with q | q
    · exact q
    · rw [Array.getElem?_eq_none q] at hv'; cases hv'
  have hj : seqIndex? k vs.size = some k.toNat := by
    unfold seqIndex?
    simp only [show ¬ k < 0 by omega, if_false]
    rw [if_pos (by simp; omega)]
  exact tail_any hl.typeIs slot_tuple_getitem.lookup (getItem_tuple hl (by omega) h1 hj hv' ⟨.refl I.inv, rv⟩) (hs _ _)
theorem ev_sub {value slice : Expr} {pos : Pos} {a i d : Dt} (h1 : Ev W A env D value a) (h2 : Ev W A env D slice i) (ho : Op2 W A (subscriptTail value slice) a i d) : Ev W A env D (.Subscript value slice pos) d := fun b OL s S =>
  Subscript_ ((h1 b OL s S).use fun va s₁ x₁ r₁ => (h2 b OL s₁ (S.stp x₁)).use fun vb s₂ x₂ r₂ => Yl.after (x₁.trans x₂) (ho _ s₂ va vb ((S.stp x₁).stp x₂).io (r₁.ext x₁.inv x₂.ext) r₂))

variable {b : Base} {OL : List (Addr × List Dt)} {s : Shared} {E : Value → Shared → Prop} {rest : List Stmt} {Q : Flow → Shared → Prop}

theorem assign_name {x : Str} {pos : Pos} {v : Value} {Q : Unit → Shared → Prop} (h : wpAny W.M A (storeName env x v) Q E s) : wpAny W.M A (assign (.Name x pos) env v) Q E s := PyProof.Rows.assign_Name h

theorem x_unpack2 {x y : Str} {e : Expr} {p₁ p₂ pt pos : Pos} {k : Nat} {d₁ d₂ : Dt} (S : St W b env D OL s) (hA : A.handled = none) (he : Ev W A env D e (.tup [d₁, d₂])) (hx : Sto W b env x) (hy : Sto W b env y)
    (hs : swapsWithSole [.Tuple [.Name x p₁, .Name y p₂] k pt] e pos.line env = pure false) (hw : swappedStores [.Tuple [.Name x p₁, .Name y p₂] k pt] e env = pure none)
    (h : ∀ s', St W b env ((y, d₂) :: (x, d₁) :: D) OL s' → wpAny W.M A (execs rest env) Q E s') : wpAny W.M A (execs (.Assign [.Tuple [.Name x p₁, .Name y p₂] k pt] e pos :: rest) env) Q E s := by
  refine wpAny_execs_cons (PyProof.Rows.Assign_Tuple ((he b OL s S).use fun v s₁ x₁ r₁ => ?_) hs hw)
  simp only [Rep, RepL] at r₁
  obtain ⟨a, vs, rfl, ha, ht, v₁, _, e1, r1, v₂, _, rfl, r2, rfl⟩ := r₁
  have hvs : vs = #[v₁, v₂] := by
    have := congrArg List.toArray e1
    simpa using this
  subst hvs
  refine assign_Tuple_tuple hA ht rfl rfl fun h' he' => ?_
  have kp : ∀ c o, s₁.heap.get? c = some o → h'.get? c = some o := fun c o q => he' c o (Nat.ne_of_lt (Heap.lt_size q)) q
  have x₂ : Stp W s₁ { s₁ with heap := h' } := Stp.keep (tk := s₁.toks) x₁.inv kp
  show wpAny W.M A (do holding [v₂] (assign (.Name x p₁) env v₁); assignInOrder [assign (.Name y p₂) env] [v₂]) _ _ _
  refine wpAny_bind (wpAny_holding (assign_name (store ((S.stp x₁).stp x₂) hx (r1.ext x₁.inv x₂.ext) fun s₃ S₃ k₃ => ?_)))
  show wpAny W.M A (do holding [] (assign (.Name y p₂) env v₂); assignInOrder [] []) _ _ _
  refine wpAny_bind (wpAny_holding (assign_name (store S₃ hy (k₃ _ _ (r2.ext x₁.inv x₂.ext)) fun s₄ S₄ _ => ?_)))
  exact wpAny_pure (h s₄ S₄)

theorem x_unpack2s {x y : Str} {e : Expr} {p₁ p₂ pt pos : Pos} {k : Nat} {d₁ d₂ : Dt} (S : St W b env D OL s) (hA : A.handled = none) (he : Ev W A env D e (.tup [d₁, d₂])) (hx : Sto W b env x) (hy : Sto W b env y)
    (hs : swapsWithSole [.Tuple [.Name x p₁, .Name y p₂] k pt] e pos.line env = pure false) (hw : swappedStores [.Tuple [.Name x p₁, .Name y p₂] k pt] e env = pure (some [x, y]))
    (h : ∀ s', St W b env ((x, d₁) :: (y, d₂) :: D) OL s' → wpAny W.M A (execs rest env) Q E s') : wpAny W.M A (execs (.Assign [.Tuple [.Name x p₁, .Name y p₂] k pt] e pos :: rest) env) Q E s := by
  refine wpAny_execs_cons (PyProof.Rows.Assign_Tuple_swapped (names := [x, y]) ((he b OL s S).use fun v s₁ x₁ r₁ => ?_) hs hw)
  simp only [Rep, RepL] at r₁
  obtain ⟨a, vs, rfl, ha, ht, v₁, _, e1, r1, v₂, _, rfl, r2, rfl⟩ := r₁
  have hvs : vs = #[v₁, v₂] := by
    have := congrArg List.toArray e1
    simpa using this
  subst hvs
  refine unpackItems_tuple (items := #[v₁, v₂]) hA ht fun h' he' => ?_
  have kp : ∀ c o, s₁.heap.get? c = some o → h'.get? c = some o := fun c o q => he' c o (Nat.ne_of_lt (Heap.lt_size q)) q
  have x₂ : Stp W s₁ { s₁ with heap := h' } := Stp.keep (tk := s₁.toks) x₁.inv kp
  show wpAny W.M A (do holding [v₁] (bindName env y v₂); assignInOrder [bindName env x] [v₁]) _ _ _
  refine wpAny_bind (wpAny_holding (wpAny_bindName (store ((S.stp x₁).stp x₂) hy (r2.ext x₁.inv x₂.ext) fun s₃ S₃ k₃ => ?_)))
  show wpAny W.M A (do holding [] (bindName env x v₁); assignInOrder [] []) _ _ _
  refine wpAny_bind (wpAny_holding (wpAny_bindName (store S₃ hx (k₃ _ _ (r1.ext x₁.inv x₂.ext)) fun s₄ S₄ _ => ?_)))
  exact wpAny_pure (h s₄ S₄)
end

end Mine
end

section
-- L5
open PySem PySem.W PySem.Calls PyProof.Rows
set_option maxRecDepth 100000

namespace Mine

/-- The same frame, with all that stands now (but its own cells, its locals, its lists) as what must stay. -/
def rb (b : Base) (env : Env) (OL : List (Addr × List Dt)) (s : Shared) : Base := { b with hb := hideAll s.heap (env.locals :: (env.cells.map (·.2) ++ ad OL)) }

section
variable {W : Wd} {A : Around} {b : Base} {env : Env} {D : List (Str × Dt)} {OL : List (Addr × List Dt)} {s : Shared} {E : Value → Shared → Prop}

theorem rb_ext (S : St W b env D OL s) (C : CF W b env) (hcn : ∀ x c, (x, c) ∈ env.cells → env.cells.lookup x = some c) {h : Heap} (k : Ext W (rb b env OL s).hb h) : Ext W b.hb h := fun a o ha e => by
  obtain ⟨sl, e1, k1⟩ := S.ext a o ha e
  refine (fun ⟨sl', e2, k2⟩ => ⟨sl', e2, fun hd => (k2 hd).trans (k1 hd)⟩ : _ → _) (k a _ ha (hideAll_get _ e1 fun q => ?_))
  rcases List.mem_cons.mp q with q | q
  · rw [q, S.lfresh.1] at e; cases e
  · rcases List.mem_append.mp q with q | q
    · obtain ⟨p, hp, rfl⟩ := List.mem_map.mp q
      rw [(C p.1 p.2 (hcn _ _ hp)).1] at e; cases e
    · obtain ⟨p, hp, rfl⟩ := List.mem_map.mp q
      rw [S.ofresh p hp] at e; cases e
theorem rb_st (S : St W b env D OL s) : St W (rb b env OL s) env D OL s :=
  { S with
    ext := .of_keep fun _ _ e => of_hideAll _ e
    ofresh := fun p hp => hideAll_none _ (List.mem_cons_of_mem _ (List.mem_append_right _ (List.mem_map_of_mem hp)))
    lfresh := ⟨hideAll_none _ List.mem_cons_self, S.lfresh.2⟩ }
theorem rb_cf (C : CF W b env) : CF W (rb b env OL s) env := fun x c hc =>
  ⟨hideAll_none _ (List.mem_cons_of_mem _ (List.mem_append_left _ (List.mem_map.mpr ⟨(x, c), mem_of_lookup hc, rfl⟩))), (C x c hc).2⟩
theorem rb_get (S : St W b env D OL s) (hcn : ∀ x c, (x, c) ∈ env.cells → env.cells.lookup x = some c) {a : Addr} {o : Obj} (e : s.heap.get? a = some o) (h1 : ∀ es n, o.data ≠ .dict es n) (h2 : ∀ v, o.data ≠ .cell v) (h3 : ∀ xs n, o.data ≠ .seq xs n) : (rb b env OL s).hb.get? a = some o :=
  hideAll_get _ e fun q => by
    rcases List.mem_cons.mp q with q | q
    · obtain ⟨m, ⟨o', es, ep, e', hd, _⟩, _⟩ := S.loc
      rw [← q, e] at e'; cases e'; exact h1 _ _ hd
    · rcases List.mem_append.mp q with q | q
      · obtain ⟨p, hp, rfl⟩ := List.mem_map.mp q
        obtain ⟨v, o', e', hd⟩ := S.all p.1 p.2 (hcn _ _ hp)
        rw [e] at e'; cases e'; exact h2 _ hd
      · obtain ⟨p, hp, rfl⟩ := List.mem_map.mp q
        obtain ⟨vs, ⟨n, e'⟩, _⟩ := S.own p hp
        rw [e] at e'; cases e'; exact h3 _ _ rfl

theorem nodup_inj {α β : Type} {f : α → β} : ∀ {l : List α} {a b : α}, (l.map f).Nodup → a ∈ l → b ∈ l → f a = f b → a = b
  | x :: l, a, b, hn, ha, hb, e => by
    rw [List.map_cons, List.nodup_cons] at hn
    rcases List.mem_cons.mp ha with q | ha' <;> rcases List.mem_cons.mp hb with q' | hb'
    · rw [q, q']
    · exact absurd (show f x ∈ l.map f from q ▸ e ▸ List.mem_map_of_mem hb') hn.1
    · exact absurd (show f x ∈ l.map f from q' ▸ e ▸ List.mem_map_of_mem ha') hn.1
    · exact nodup_inj hn.2 ha' hb' e

/-- A def within a def. -/
theorem x_def {name qual : Str} {params : Arguments} {body : List Stmt} {scope : Scope} {pos : Pos} {clos : List (Str × Addr)} {t : Tb} {rest : List Stmt} {Q : Flow → Shared → Prop} (G : W.Ok) (S : St W b env D OL s) (C : CF W b env)
    (hcn : ∀ x c, (x, c) ∈ env.cells → env.cells.lookup x = some c)
    (ht : t ∈ W.tabs) (hcode : env.code = .ref t.c) (hpos : t.pos = pos) (hq : qualnameIn env name name = t.qual) (hq' : qual = t.qual) (hcl : closureFor scope env = pure clos) (hk : Sto W b env name)
    (hd0 : params.defaults = []) (hk0 : params.kw_defaults = []) (ha : annTrees params none env = [])
    (h : ∀ f doc pm c' ctv b' s', St W b' env ((name, .raw (.ref f)) :: D) OL s' → CF W b' env → b'.O = b.O → b'.s₀ = b.s₀ → (∀ h, Ext W b'.hb h → Ext W b.hb h) →
      b'.hb.get? f = some (fnMade name qual params body scope clos doc pm c' ctv) → f ∉ W.Ps → b'.hb.CodeRec (.ref c') qual → c' ∉ W.Ps → wpAny W.M A (execs rest env) Q E s') :
    wpAny W.M A (execs (.FunctionDef name params body [] none [] scope none name pos :: rest) env) Q E s := by
  subst hpos
  obtain ⟨ps, eP, tok, hc⟩ := S.inv.tab t ht
  have hPm : t.P ∈ W.Ps := List.mem_map_of_mem ht
  have hgs := G.ng.keeps S.inv.base
  obtain ⟨bm, ob, b1, b2, b3, b4, b5, b6⟩ := G.bmain
  have hgP : mainGlobals ≠ t.P := fun q => by
    obtain ⟨o, es, ep, e, hd, _⟩ := hgs
    rw [q, eP] at e; cases e; cases hd
  have hbP : bm ≠ t.P := fun q => by
    have e := S.inv.base _ _ b3
    rw [q, eP] at e; cases e; cases b4
  have hbG : bm ≠ mainGlobals := fun q => by
    obtain ⟨o, es, ep, e, hd, _⟩ := G.ng
    rw [q, e] at b3; cases b3; rw [hd] at b6; cases b6
  have hB : s.heap.BuiltinsAt W.mg t.P := ⟨bm, ob, b1, b2, hbG, hbP, S.inv.base _ _ b3, b4, b5, b6⟩
  -- what is done behind the making
  have tail : ∀ (f c' : Addr) (doc ctv : Value) (h' : Heap) (tk : Nat), Inv W h' → Ext W s.heap h' → h'.get? f = some (fnMade name qual params body scope clos doc ((W.mg "__name__").getD .none) c' ctv) → h'.CodeRec (.ref c') qual → c' ∉ W.Ps →
      wpAny W.M A (storeName env name (.ref f)) (fun _ s'' => wpAny W.M A (execs rest env) Q E s'') E { s with heap := h', toks := tk } := fun f c' doc ctv h' tk I' X' ef hrec hc' => by
    have S' : St W b env D OL { s with heap := h', toks := tk } := S.stp ⟨I', X', h', tk, rfl⟩
    have hk' : Sto W (rb b env OL { s with heap := h', toks := tk }) env name := hk.imp id fun q => ⟨q.1, rb_cf C, q.2.2⟩
    refine store (rb_st S') hk' (d := .raw (.ref f)) (by simp only [Rep]) fun s₂ S₂ _ => ?_
    obtain ⟨c₂, oc, vs, tq, e1, e2, e3, e4⟩ := hrec
    refine h f doc _ c' ctv _ s₂ S₂ (rb_cf C) rfl rfl (fun hh k => rb_ext S' C hcn k) (rb_get S' hcn ef (fun _ _ q => by cases q) (fun _ q => by cases q) (fun _ _ q => by cases q)) (I'.notP_of ef fun vs => by nofun)
      ⟨c₂, oc, vs, tq, e1, rb_get S' hcn e2 (fun _ _ q => by rw [e3] at q; cases q) (fun _ q => by rw [e3] at q; cases q) (fun _ _ q => by rw [e3] at q; cases q), e3, e4⟩ hc'
  refine wpAny_execs_cons (nestDef_K hd0 hk0 ha ?_)
  rw [hq, ← hq']
  rcases hc with hc | ⟨c', hc, hrec, hcP⟩
  · -- the first time: a new code object
    refine makeFunction_K (mg := W.mg) hcl S.eg hgs hcode ((G.code t ht).keeps S.inv.base) eP tok hc hgP hB fun c' ctv doc h' tk hx hge hlt hrec htb => ?_
    have hnew : ∀ p ∈ W.Ps, p < s.heap.objs.size := fun p hp => by
      obtain ⟨qs, e⟩ := S.inv.notP hp
      exact Heap.lt_size e
    have hcP : c' ∉ W.Ps := fun q => Nat.lt_irrefl _ (Nat.lt_of_lt_of_le (hnew _ q) hge)
    have X' : Ext W s.heap h' := .of_butP fun a o ha e => hx a o (fun q => ha (q ▸ hPm)) e
    have I' : Inv W h' := by
      refine ⟨fun a o e => hx a o (fun q => by rw [q, G.hid t ht] at e; cases e) (S.inv.base a o e), fun t' ht' => ?_⟩
      by_cases q : t' = t
      · subst q
        refine ⟨_, htb, ?_, .inr ⟨c', ?_, hq' ▸ hrec, hcP⟩⟩
        · have : TriplesOk (ps.toList ++ [rawInt t'.pos.line, rawInt t'.pos.col, .ref c']) := by
            clear htb hc hB eP
            generalize ps.toList = l at tok
            fun_induction TriplesOk l with
            | case1 => simp [TriplesOk, rawInt]
            | case2 _ _ _ _ _ _ ih => simp only [List.cons_append, TriplesOk]; exact ih tok
            | case3 => exact tok.elim
          simpa using this
        · simpa using codeAmong_snoc (c := .ref c') ps.toList tok hc
      · have hne : t'.P ≠ t.P := fun e => q (nodup_inj G.nd ht' ht e)
        obtain ⟨ps', e', tok', hc''⟩ := S.inv.tab t' ht'
        refine ⟨ps', hx _ _ hne e', tok', hc''.imp id ?_⟩
        rintro ⟨d', q1, ⟨d₂, od, vs, tq, q2, q3, q4, q5⟩, q6⟩
        refine ⟨d', q1, ⟨d₂, od, vs, tq, q2, hx _ _ (fun q => ?_) q3, q4, q5⟩, q6⟩
        cases q2
        exact q6 (q ▸ hPm)
    have X2 : Ext W s.heap (h'.push (fnMade name qual params body scope clos doc ((W.mg "__name__").getD .none) c' ctv)) := X'.trans (.of_keep fun _ _ e => Heap.get?_push_of_some _ e)
    exact tail _ c' doc ctv _ tk (I'.keeps fun _ _ e => Heap.get?_push_of_some _ e) X2 (Heap.get?_push_size _ rfl) (hrec.push _) hcP
  · refine makeFunction_hit (mg := W.mg) hcl S.eg hgs hcode ((G.code t ht).keeps S.inv.base) eP tok hc hB fun ctv doc h' tk hk hsz => ?_
    exact tail _ c' doc ctv _ tk ((S.inv.keeps hk).keeps fun _ _ e => Heap.get?_push_of_some _ e) ((Ext.of_keep hk).trans (.of_keep fun _ _ e => Heap.get?_push_of_some _ e)) (Heap.get?_push_size _ rfl) ((hq' ▸ hrec.keeps hk).push _) hcP

theorem lookup_rev_of {β : Type} : ∀ {l : List (Str × β)} {x : Str} {v : β}, (l.map (·.1)).Nodup → l.lookup x = some v → l.reverse.lookup x = some v
  | (y, w) :: l, x, v, hn, e => by
    rw [List.map_cons, List.nodup_cons] at hn
    rw [List.reverse_cons, List.lookup_append]
    rw [List.lookup_cons] at e
    cases hq : x == y with
    | true =>
      rw [hq] at e; cases e
      have hx : x = y := beq_iff_eq.mp hq
      have : l.reverse.lookup x = none := by
        cases hl : l.reverse.lookup x with
        | none => rfl
        | some u =>
          have hm := mem_of_lookup hl
          exact absurd (List.mem_map.mpr ⟨_, List.mem_reverse.mp hm, hx⟩) hn.1
      rw [this, List.lookup_cons, hq]; rfl
    | false =>
      rw [hq] at e
      rw [lookup_rev_of hn.2 e]; rfl

theorem map_fst_zip' {β : Type} : ∀ {xs : List Str} {vs : List β}, vs.length = xs.length → (xs.zip vs).map (·.1) = xs
  | [], [], _ => rfl
  | _ :: _, _ :: _, e => by simp only [List.zip_cons_cons, List.map_cons]; rw [map_fst_zip' (by simpa using e)]

/-- The start of a call of a def that was made within a def. -/
theorem enterX {f c' : Addr} {name qual : Str} {params : Arguments} {body : List Stmt} {scope : Scope} {cl : List (Str × Addr)} {doc pm ctv : Value} {xs : List Str} {ds : List Dt} {vs : List Value} {DC : List (Str × Dt)} {k : Nat} {O : List Addr} {hb : Heap} {R : Result → Shared → Prop} (G : W.Ok)
    (hf : s.heap.get? f = some (fnMade name qual params body scope cl doc pm c' ctv)) (hc : s.heap.CodeRec (.ref c') qual)
    (hA : AOk A (k + 1)) (I : IO W (ad OL ++ O) s.heap) (hhb : Ext W hb s.heap) (hown : ∀ p ∈ OL, ∃ vs, s.heap.PlainList p.1 vs ∧ RepL s.heap (ad OL ++ O) p.2 vs.toList) (hofr : ∀ p ∈ OL, hb.get? p.1 = none) (hod : ∀ p ∈ OL, p.1 ∉ O) (ra : RepL s.heap (ad OL ++ O) ds vs)
    (hDC : ∀ x d, DC.lookup x = some d → ∃ c v, cl.lookup x = some c ∧ s.heap.IsCell c (some v) ∧ Rep s.heap (ad OL ++ O) d v)
    (hdk : ∀ p ∈ DC, scope.names.lookup p.1 = some .free) (hall : ∀ x c, cl.lookup x = some c → ∃ v, s.heap.IsCell c v) (hap : cl.Pairwise fun x y => x.2 ≠ y.2)
    (hbind : ∀ (vs : List Value), vs.length = xs.length → bindArgs (fnX name qual params body scope cl .none .none doc pm none (.ref c') ctv) ⟨vs, []⟩ = pure (xs.zip vs))
    (hlen : ds.length = xs.length) (hnd : xs.Nodup)
    (hkind : ∀ x ∈ xs, scope.names.lookup x = some .local) (hcell : ∀ x ∈ scope.names, x.2 ≠ .cell)
    (hb' : ∀ L s', AOk (A.deeper (envX qual scope L f (.ref c') cl)) k → St W ⟨hb, s, O⟩ (envX qual scope L f (.ref c') cl) (xs.zip ds ++ DC) OL s' →
      wpAny W.M (A.deeper (envX qual scope L f (.ref c') cl)) (execs body (envX qual scope L f (.ref c') cl)) (fun fl s' => R (.ok (.ret (match fl with | .ret v => v | _ => .none))) s') (fun _ _ => False) s')
    (hco : scope.isCoroutine = false) (hgen : scope.isGenerator = false) (hk : scope.kind = .function) : codeAny W.M A (.call (.ref f) ⟨vs, []⟩) R s := by
  have hvl : vs.length = xs.length := ra.length.trans hlen
  refine codeAny_call_def (fd := fnX name qual params body scope cl .none .none doc pm none (.ref c') ctv) (body := body) (binds := xs.zip vs) hA.room hf rfl (G.nolimit.keeps I.inv.base) hc rfl (BindsTo.of_eq (hbind vs hvl)) hcell
    (fun p hp => hkind p.1 (List.of_mem_zip hp).1) (fun h₁ hns keep => ?_) hco hgen hk
  have fresh : ∀ a, s.heap.objs.size ≤ a → hb.get? a = none ∧ W.g.get? a = none := fun a ha => by
    have hn : s.heap.get? a = none := Heap.get?_none_of_le ha
    refine ⟨?_, ?_⟩
    · cases q : hb.get? a with
      | none => rfl
      | some o' =>
        by_cases hP : a ∈ W.Ps
        · obtain ⟨ps, e⟩ := I.inv.notP hP
          rw [hn] at e; cases e
        · obtain ⟨sl, q'⟩ := hhb.there hP q; rw [q'] at hn; cases hn
    · cases q : W.g.get? a with
      | none => rfl
      | some o' => rw [I.inv.base a o' q] at hn; cases hn
  have X : Ext W s.heap h₁ := .of_keep keep
  have lk : ∀ x, scope.names.lookup x ≠ some .local → (xs.zip ds ++ DC).lookup x = DC.lookup x := fun x hx => by
    have : (xs.zip ds).lookup x = none := by
      cases q : (xs.zip ds).lookup x with
      | none => rfl
      | some d => exact absurd (hkind x (List.of_mem_zip (mem_of_lookup q)).1) hx
    rw [List.lookup_append, this]; rfl
  refine wpAny_mono (hb' s.heap.objs.size _ (hA.deeper _) { inv := I.inv.keeps keep, ext := hhb.trans X, same := Sm.mk _ _ _, ook := I.ook.ext X, fk := hk, eg := rfl, eb := rfl, loc := ⟨_, hns, fun x d hx hd => ?_⟩, cel := fun x d hx hd => ?_, all := fun x c hx => ?_, own := fun p hp => ?_, ofresh := hofr, odisj := hod, apart := hap, lfresh := fresh _ (Nat.le_refl _) }) (fun _ _ y => y) fun _ _ y => y.elim
  · have hxs : (xs.zip ds).lookup x = some d ∨ DC.lookup x = some d := by
      rw [List.lookup_append] at hd
      cases q : (xs.zip ds).lookup x with
      | some d' => rw [q] at hd; exact .inl hd
      | none => rw [q] at hd; exact .inr hd
    rcases hxs with hd | hd'
    · obtain ⟨v, e, r⟩ := zip_get ra hd
      exact ⟨v, lookup_rev_of (by rw [map_fst_zip' hvl]; exact hnd) e, r.ext I.inv X⟩
    · have h1 : scope.names.lookup x = some .free := hdk (x, d) (mem_of_lookup hd')
      have h2 : scope.names.lookup x = some .local := hx
      rw [h1] at h2; cases h2
  · have hx' : scope.names.lookup x ≠ some .local := by
      rcases hx with hx | hx
      · have : scope.names.lookup x = some .cell := hx
        rw [this]; decide
      · have : scope.names.lookup x = some .free := hx
        rw [this]; decide
    rw [lk x hx'] at hd
    obtain ⟨c, v, h1, ⟨o, e, q⟩, h3⟩ := hDC x d hd
    exact ⟨c, v, h1, ⟨o, keep _ _ e, q⟩, h3.ext I.inv X⟩
  · obtain ⟨v, o, e, q⟩ := hall x c hx
    exact ⟨v, o, keep _ _ e, q⟩
  · obtain ⟨vs', ⟨n, e⟩, r⟩ := hown p hp
    exact ⟨vs', ⟨n, keep _ _ e⟩, r.ext I.inv X⟩
end

end Mine
end

section
-- L6
open PySem PySem.W PySem.Calls PyProof.Rows
set_option maxRecDepth 100000

namespace Mine

section
variable {W : Wd} {A : Around} {b : Base} {env : Env} {D : List (Str × Dt)} {OL : List (Addr × List Dt)} {s s' : Shared} {E : Value → Shared → Prop}

/-- A new list of the frame's own. -/
theorem St.grow {l : Addr} {vs : Array Value} {ds : List Dt} (S : St W b env D OL s) (x : Stp W s s') (hl : s.heap.get? l = none) (hp : s'.heap.PlainList l vs) (hr : RepL s'.heap (l :: (ad OL ++ b.O)) ds vs.toList) : St W b env D ((l, ds) :: OL) s' := by
  have hlP : l ∉ W.Ps := fun q => by
    obtain ⟨ps, e⟩ := S.inv.notP q
    rw [hl] at e; cases e
  have up : ∀ {d : Dt} {v : Value}, Rep s.heap (ad OL ++ b.O) d v → Rep s'.heap (l :: (ad OL ++ b.O)) d v := fun r => (r.fresh hl).ext S.inv x.ext
  have upL : ∀ {d : List Dt} {v : List Value}, RepL s.heap (ad OL ++ b.O) d v → RepL s'.heap (l :: (ad OL ++ b.O)) d v := fun r => (r.fresh hl).ext S.inv x.ext
  have S' := S.stp x
  refine { S' with ook := fun a ha => ?_, loc := ?_, cel := fun y d h1 h2 => ?_, own := fun p hp' => ?_, ofresh := fun p hp' => ?_, odisj := fun p hp' => ?_ }
  · rcases List.mem_cons.mp ha with q' | ha
    · have q' : a = l := q'
      subst q'
      refine ⟨?_, hlP, ?_⟩
      · cases q : W.g.get? a with
        | none => rfl
        | some o => rw [S.inv.base _ _ q] at hl; cases hl
      · obtain ⟨n, e⟩ := hp; exact ⟨_, _, _, e, rfl⟩
    · exact S'.ook a ha
  · obtain ⟨m, hn, k⟩ := S.loc
    obtain ⟨m', hn', k'⟩ := S'.loc
    have hm : m' = m := by
      obtain ⟨o, es, ep, e, hd, _, hf⟩ := hn
      obtain ⟨o', es', ep', e', hd', _, hf'⟩ := hn'
      obtain ⟨sl, e2⟩ := x.ext.there (S.inv.notP_of e fun vs => by rw [hd]; nofun) e
      rw [e'] at e2; cases e2
      rw [hd] at hd'; cases hd'
      funext y
      rw [← hf y, ← hf' y]
    subst hm
    refine ⟨m', hn', fun y d h1 h2 => ?_⟩
    obtain ⟨v, h3, h4⟩ := k y d h1 h2
    exact ⟨v, h3, up h4⟩
  · obtain ⟨c, v, h3, ⟨o, e, hd⟩, h5⟩ := S.cel y d h1 h2
    exact ⟨c, v, h3, ⟨o, x.ext.at (S.inv.notP_of e fun vs => by rw [hd]; nofun) e (by rw [hd]; nofun), hd⟩, up h5⟩
  · rcases List.mem_cons.mp hp' with rfl | hp'
    · exact ⟨vs, hp, hr⟩
    · obtain ⟨us, ⟨n, e⟩, r⟩ := S.own p hp'
      exact ⟨us, ⟨n, x.ext.at (S.ook p.1 (List.mem_append_left _ (List.mem_map_of_mem hp'))).2.1 e (by nofun)⟩, upL r⟩
  · rcases List.mem_cons.mp hp' with rfl | hp'
    · cases q : b.hb.get? l with
      | none => rfl
      | some o => obtain ⟨sl, q'⟩ := S.ext.there hlP q; rw [q'] at hl; cases hl
    · exact S.ofresh p hp'
  · rcases List.mem_cons.mp hp' with rfl | hp'
    · exact fun q => S.ook.new hl (List.mem_append_right _ q)
    · exact S.odisj p hp'

/-- The frame's own list is written. -/
theorem St.upd {l : Addr} {ds ds' : List Dt} {vs : Array Value} {h' : Heap} {tk : Nat} (S : St W b env D [(l, ds)] s) (hs : Heap.ExtBut l s.heap h') (hp : h'.PlainList l vs) (hr : RepL h' (l :: b.O) ds' vs.toList) : St W b env D [(l, ds')] { s with heap := h', toks := tk } := by
  obtain ⟨us, ⟨n, el⟩, _⟩ := S.own _ List.mem_cons_self
  have hl := S.ook l (by simp)
  have sk : SeqKeep (l :: b.O) s.heap h' := fun a o xs n' ha _ e => hs a o (fun q => ha (q ▸ List.mem_cons_self)) e
  have ne : ∀ {a : Addr} {o : Obj}, s.heap.get? a = some o → (∀ xs n, o.data ≠ .seq xs n) → a ≠ l := fun e q e' => by
    rw [e', el] at e; cases e; exact q _ _ rfl
  refine { inv := S.inv.extBut hs hl.1 hl.2.1 fun o e vs q => by rw [el] at e; cases e; cases q
           ext := S.ext.butP (P := (· = l)) hs (fun a q => by rw [q]; exact S.ofresh _ List.mem_cons_self)
           same := S.same.trans (Sm.mk _ _ _)
           ook := fun a ha => ?_
           fk := S.fk, eg := S.eg, eb := S.eb
           loc := ?_
           cel := fun y d h1 h2 => ?_
           all := fun y c h1 => ?_
           own := fun p hp' => ?_
           ofresh := fun p hp' => ?_
           odisj := fun p hp' => ?_
           apart := S.apart, lfresh := S.lfresh }
  · obtain ⟨h1, h2, o, xs, n, h3, h4⟩ := S.ook a ha
    refine ⟨h1, h2, ?_⟩
    by_cases q : a = l
    · obtain ⟨n', e⟩ := hp; exact ⟨_, _, _, q ▸ e, rfl⟩
    · exact ⟨o, xs, n, hs a o q h3, h4⟩
  · obtain ⟨m, ⟨o, es, ep, e, hd, r⟩, k⟩ := S.loc
    refine ⟨m, ⟨o, es, ep, hs _ _ (ne e fun _ _ q => by rw [hd] at q; cases q) e, hd, r⟩, fun y d h1 h2 => ?_⟩
    obtain ⟨v, h3, h4⟩ := k y d h1 h2
    exact ⟨v, h3, h4.mono sk⟩
  · obtain ⟨c, v, h3, ⟨o, e, hd⟩, h5⟩ := S.cel y d h1 h2
    exact ⟨c, v, h3, ⟨o, hs _ _ (ne e fun _ _ q => by rw [hd] at q; cases q) e, hd⟩, h5.mono sk⟩
  · obtain ⟨v, o, e, hd⟩ := S.all y c h1
    exact ⟨v, o, hs _ _ (ne e fun _ _ q => by rw [hd] at q; cases q) e, hd⟩
  · rcases List.mem_cons.mp hp' with rfl | hp'
    · exact ⟨vs, hp, hr⟩
    · exact nomatch hp'
  · rcases List.mem_cons.mp hp' with rfl | hp'
    · exact S.ofresh (l, ds) List.mem_cons_self
    · exact nomatch hp'
  · rcases List.mem_cons.mp hp' with rfl | hp'
    · exact S.odisj (l, ds) List.mem_cons_self
    · exact nomatch hp'

/-- The frame's own list is a list like any other from here on. -/
theorem St.freeze {l : Addr} {ds : List Dt} {x : Str} (S : St W b env D [(l, ds)] s) (hx : D.lookup x = some (.raw (.ref l))) : St W b env ((x, .lst ds) :: D) [] s := by
  have sub : ∀ a ∈ ad [] ++ b.O, a ∈ ad [(l, ds)] ++ b.O := fun a ha => List.mem_cons_of_mem _ ha
  obtain ⟨us, ⟨n, el⟩, rl⟩ := S.own _ List.mem_cons_self
  have key : Rep s.heap (ad [] ++ b.O) (.lst ds) (.ref l) := by
    simp only [Rep]
    exact ⟨l, us, rfl, S.odisj _ List.mem_cons_self, ⟨n, el⟩, rl.sub sub⟩
  refine { S with ook := fun a ha => S.ook a (sub a ha), loc := ?_, cel := fun y d h1 h2 => ?_, own := fun p hp => (nomatch hp), ofresh := fun p hp => (nomatch hp), odisj := fun p hp => (nomatch hp) }
  · obtain ⟨m, hn, k⟩ := S.loc
    refine ⟨m, hn, fun y d h1 h2 => ?_⟩
    by_cases q : y = x
    · subst q
      rw [lookup_cons_self] at h2; cases h2
      obtain ⟨v, h3, h4⟩ := k y _ h1 hx
      simp only [Rep] at h4; subst h4
      exact ⟨_, h3, key⟩
    · rw [lookup_cons_ne q] at h2
      obtain ⟨v, h3, h4⟩ := k y d h1 h2
      exact ⟨v, h3, h4.sub sub⟩
  · by_cases q : y = x
    · subst q
      rw [lookup_cons_self] at h2; cases h2
      obtain ⟨c, v, h3, h4, h5⟩ := S.cel y _ h1 hx
      simp only [Rep] at h5; subst h5
      exact ⟨c, _, h3, h4, key⟩
    · rw [lookup_cons_ne q] at h2
      obtain ⟨c, v, h3, h4, h5⟩ := S.cel y d h1 h2
      exact ⟨c, v, h3, h4, h5.sub sub⟩

/-- An expression that yields a new list. -/
def EvN (W : Wd) (A : Around) (env : Env) (D : List (Str × Dt)) (e : Expr) (ds : List Dt) : Prop :=
  ∀ b OL s, St W b env D OL s → wpAny W.M A (eval e env) (fun v s' => Stp W s s' ∧ ∃ l vs, v = .ref l ∧ s.heap.get? l = none ∧ s'.heap.PlainList l vs ∧ RepL s'.heap (l :: (ad OL ++ b.O)) ds vs.toList) (fun _ _ => False) s

theorem evn_nil {pos : Pos} : EvN W A env D (.List [] pos) [] := fun b OL s S => by
  refine List_ (args_nil ?_)
  refine wpAny_newList ⟨Stp.push (tk := s.toks) S.inv, _, #[], rfl, Heap.get?_none_of_le (Nat.le_refl _), ⟨0, Heap.get?_push_size _ rfl⟩, by simp only [RepL]⟩ (by rw [sizeLine_eq]; decide)

theorem x_new {x : Str} {e : Expr} {p₁ pos : Pos} {ds : List Dt} {rest : List Stmt} {Q : Flow → Shared → Prop} (S : St W b env D OL s) (he : EvN W A env D e ds) (hk : Sto W b env x) (hs : swapsWith e (some (.Name x p₁)) pos.line env = pure false)
    (h : ∀ l s', St W b env ((x, .raw (.ref l)) :: D) ((l, ds) :: OL) s' → wpAny W.M A (execs rest env) Q E s') : wpAny W.M A (execs (.Assign [.Name x p₁] e pos :: rest) env) Q E s := by
  refine wpAny_execs_cons (wpAny_Assign_Name (wpAny_mono (he b OL s S) (fun v s₁ y => ?_) fun _ _ y => y.elim) hs)
  obtain ⟨x₁, l, vs, rfl, h1, h2, h3⟩ := y
  exact store (S.grow x₁ h1 h2 h3) hk (d := .raw (.ref l)) (by simp only [Rep]) fun s₂ S₂ _ => h l s₂ S₂

end
end Mine
end

section
-- L7
open PySem PySem.W PySem.Calls PyProof.Rows
set_option maxRecDepth 100000

namespace Mine

/-- An iterator over the data `ds`: how it is walked, what it may write, and that its items stand for the data. -/
structure Itr (W : Wd) (A : Around) (O : List Addr) (I : Addr) (fp wr : List Addr) (ds : List Dt) (P : Nat → Value → Prop) (T : Nat → Heap → Prop) (K : Heap → Prop) : Prop where
  walk : Walks W.prog W.w A I fp wr ds.length P T
  item : ∀ i v h, P i v → K h → ∃ d, ds[i]? = some d ∧ Rep h O d v
  kmono : ∀ h h', SeqKeep O h h' → K h → K h'
  wrok : ∀ i h a, T i h → a ∈ wr → ∃ o vs, h.get? a = some o ∧ o.data = .fields vs ∧ o.cls ≠ .none ∧ ∀ q t, vs[1]? ≠ some (.str q t)
  fpok : ∀ i h a, T i h → a ∈ fp → ∃ o, h.get? a = some o ∧ ((∃ vs, o.data = .fields vs ∧ o.cls ≠ .none) ∨ (∃ xs n, o.data = .seq xs n ∧ a ∉ O))

/-- A write at `a`, no code object. -/
theorem Inv.extBut' {W : Wd} {h h' : Heap} {H : List Addr} (I : Inv W h) (x : ∀ b o, b ∉ H → h.get? b = some o → h'.get? b = some o) (hg : ∀ a ∈ H, W.g.get? a = none) (hP : ∀ a ∈ H, a ∉ W.Ps) (hf : ∀ a ∈ H, ∀ q, ¬ h.CodeRec (.ref a) q) : Inv W h' where
  base := fun b o e => x b o (fun q => by rw [hg b q] at e; cases e) (I.base b o e)
  tab := fun t ht => by
    obtain ⟨ps, e, ok, c⟩ := I.tab t ht
    refine ⟨ps, x _ _ (fun q => hP _ q (List.mem_map_of_mem ht)) e, ok, c.imp id ?_⟩
    rintro ⟨c', e1, e2, e6⟩
    refine ⟨c', e1, ?_, e6⟩
    obtain ⟨c₂, o, vs, t', e2', e3, e4, e5⟩ := e2
    cases e2'
    exact ⟨c', o, vs, t', rfl, x _ _ (fun q => hf _ q t.qual ⟨c', o, vs, t', rfl, e3, e4, e5⟩) e3, e4, e5⟩

section
variable {W : Wd} {A : Around} {b : Base} {env : Env} {D : List (Str × Dt)} {OL : List (Addr × List Dt)} {s : Shared} {E : Value → Shared → Prop}
variable {I : Addr} {fp wr : List Addr} {ds : List Dt} {P : Nat → Value → Prop} {T : Nat → Heap → Prop} {K : Heap → Prop} {O : List Addr}

/-- What a step of an iterator keeps. -/
theorem St.walked {i : Nat} {h' : Heap} {tk : Nat} (S : St W b env D OL s) (Z : Itr W A O I fp wr ds P T K) (hT : T i s.heap) (hwf : ∀ a ∈ wr, W.g.get? a = none ∧ b.hb.get? a = none)
    (kp : ∀ a o, a ∉ wr → s.heap.get? a = some o → h'.get? a = some o) : St W b env D OL { s with heap := h', toks := tk } := by
  have cls : ∀ a ∈ wr, ∃ o vs, s.heap.get? a = some o ∧ o.data = .fields vs ∧ o.cls ≠ .none ∧ ∀ q t, vs[1]? ≠ some (.str q t) := fun a ha => Z.wrok i _ a hT ha
  have nw : ∀ {a : Addr} {o : Obj}, s.heap.get? a = some o → (∀ vs, o.data ≠ .fields vs) → a ∉ wr := fun e q hm => by
    obtain ⟨o', vs, e', hd, _⟩ := cls _ hm
    rw [e] at e'; cases e'; exact q _ hd
  have sk : SeqKeep (ad OL ++ b.O) s.heap h' := fun a o xs n _ hd e => kp a o (nw e fun vs q => by rw [hd] at q; cases q) e
  refine { inv := S.inv.extBut' kp (fun a ha => (hwf a ha).1) (fun a ha hP => ?_) (fun a ha q hq => ?_)
           ext := S.ext.butP (P := (· ∈ wr)) kp (fun a q => (hwf a q).2)
           same := S.same.trans (Sm.mk _ _ _)
           ook := fun a ha => ?_
           fk := S.fk, eg := S.eg, eb := S.eb
           loc := ?_
           cel := fun y d h1 h2 => ?_
           all := fun y c h1 => ?_
           own := fun p hp' => ?_
           ofresh := S.ofresh, odisj := S.odisj, apart := S.apart, lfresh := S.lfresh }
  · obtain ⟨ps, e⟩ := S.inv.notP hP
    obtain ⟨o', vs, e', _, hc, _⟩ := cls a ha
    rw [e] at e'; cases e'; exact hc rfl
  · obtain ⟨c, o, vs, t, e1, e2, e3, e4⟩ := hq
    cases e1
    obtain ⟨o', vs', e', hd, _, hn⟩ := cls a ha
    rw [e2] at e'; cases e'
    rw [e3] at hd; cases hd
    exact hn _ _ e4
  · exact S.ook.keep (fun a o xs n _ hd e => kp a o (nw e fun vs q => by rw [hd] at q; cases q) e) a ha
  · obtain ⟨m, ⟨o, es, ep, e, hd, r⟩, k⟩ := S.loc
    refine ⟨m, ⟨o, es, ep, kp _ _ (nw e fun vs q => by rw [hd] at q; cases q) e, hd, r⟩, fun y d h1 h2 => ?_⟩
    obtain ⟨v, h3, h4⟩ := k y d h1 h2
    exact ⟨v, h3, h4.mono sk⟩
  · obtain ⟨c, v, h3, ⟨o, e, hd⟩, h5⟩ := S.cel y d h1 h2
    exact ⟨c, v, h3, ⟨o, kp _ _ (nw e fun vs q => by rw [hd] at q; cases q) e, hd⟩, h5.mono sk⟩
  · obtain ⟨v, o, e, hd⟩ := S.all y c h1
    exact ⟨v, o, kp _ _ (nw e fun vs q => by rw [hd] at q; cases q) e, hd⟩
  · obtain ⟨vs, ⟨n, e⟩, r⟩ := S.own p hp'
    exact ⟨vs, ⟨n, kp _ _ (nw e fun vs q => by cases q) e⟩, r.mono sk⟩

theorem codeAny_for1 {R : Result → Shared → Prop} {target : Expr} {it : Value} {body orelse : List Stmt}
    (turn : wpAny W.M A (pyNext it) (fun r s₁ => match r with
      | none => wpAny W.M A (execs orelse env) (fun f s₃ => R (.ok f) s₃) (notedBy W.M A env fun e s' => R (.error e) s') s₁
      | some v => wpAny W.M A (letOwnedTupleGo target it v) (fun _ s₁' => wpAny W.M A (assign target env v) (fun _ s₂ => wpAny W.M A (execs body env) (fun f s₃ => match f with
          | .next | .cont => codeAny W.M A (.forLoop target it body orelse env) R s₃
          | .brk => R (.ok .next) s₃
          | .ret v => R (.ok (.ret v)) s₃) (notedBy W.M A env fun e s' => R (.error e) s') s₂) (notedBy W.M A env fun e s' => R (.error e) s') s₁') (notedBy W.M A env fun e s' => R (.error e) s') s₁) (notedBy W.M A env fun e s' => R (.error e) s') s) :
    codeAny W.M A (.forLoop target it body orelse env) R s := by
  refine codeAny_of_tree ?_
  show wpAny _ _ ((forTurn target it body orelse env).onRaise (fun x => do noteFrame x env; theTreesLotGoes x)) _ _ s
  refine wpAny_noted ?_
  simp only [forTurn]
  refine wpAny_bind (wpAny_standAt (wpAny_bind (wpAny_onRaise (wpAny_mono turn (fun r s₁ h₁ => ?_) fun _ _ h' => wpAny_standAt h'))))
  cases r with
  | none => exact wpAny_pure ⟨rfl, codeAny_block h₁⟩
  | some v =>
    refine wpAny_bind (wpAny_mono h₁ (fun _ s₁' h₁' => ?_) fun _ _ h' => h')
    refine wpAny_bind (wpAny_mono h₁' (fun _ s₂ h₂ => wpAny_bind (wpAny_mono h₂ (fun f s₃ h₃ => ?_) fun _ _ h' => h')) fun _ _ h' => h')
    cases f with
    | next => exact wpAny_pure ⟨rfl, h₃⟩
    | cont => exact wpAny_pure ⟨rfl, h₃⟩
    | brk => exact wpAny_pure h₃
    | ret v => exact wpAny_pure h₃

/-- From the rebased frame back to the frame. -/
theorem St.back {D' : List (Str × Dt)} {OL' : List (Addr × List Dt)} {s' : Shared} (S : St W b env D OL s) (C : CF W b env) (hcn : ∀ x c, (x, c) ∈ env.cells → env.cells.lookup x = some c) (S' : St W (rb b env OL s) env D' OL' s') (hO : ad OL' = ad OL) : St W b env D' OL' s' :=
  { S' with
    ext := rb_ext S C hcn S'.ext
    ofresh := fun p hp => by
      have : p.1 ∈ ad OL := hO ▸ List.mem_map_of_mem hp
      obtain ⟨q, hq, e⟩ := List.mem_map.mp this
      exact e ▸ S.ofresh q hq
    lfresh := S.lfresh }

/-- One turn of a for. -/
theorem for_turn {R : Result → Shared → Prop} {target : Expr} {body orelse : List Stmt} {i : Nat} {d : Dt} (S : St W b env D OL s) (C : CF W b env) (hcn : ∀ x c, (x, c) ∈ env.cells → env.cells.lookup x = some c) (Z : Itr W A (ad OL ++ b.O) I fp wr ds P T K) (hT : T i s.heap) (hK : K s.heap)
    (hwf : ∀ a ∈ wr, W.g.get? a = none ∧ b.hb.get? a = none) (hi : ds[i]? = some d)
    (turn : ∀ b' v s₁, St W b' env D OL s₁ → CF W b' env → b'.O = b.O → b'.s₀ = b.s₀ → Rep s₁.heap (ad OL ++ b.O) d v →
      (∀ D' OL' s', St W b' env D' OL' s' → ad OL' = ad OL → St W b env D' OL' s' ∧ T (i + 1) s'.heap ∧ K s'.heap) →
      wpAny W.M A (letOwnedTupleGo target (.ref I) v) (fun _ s₁' => wpAny W.M A (assign target env v) (fun _ s₂ => wpAny W.M A (execs body env) (fun f s₃ => match f with
          | .next | .cont => codeAny W.M A (.forLoop target (.ref I) body orelse env) R s₃
          | .brk => R (.ok .next) s₃
          | .ret v => R (.ok (.ret v)) s₃) (notedBy W.M A env fun e s' => R (.error e) s') s₂) (notedBy W.M A env fun e s' => R (.error e) s') s₁') (notedBy W.M A env fun e s' => R (.error e) s') s₁) :
    codeAny W.M A (.forLoop target (.ref I) body orelse env) R s := by
  have hlt : i < ds.length := by
    rcases Nat.lt_or_ge i ds.length with q | q
    · exact q
    · rw [List.getElem?_eq_none q] at hi; cases hi
  refine codeAny_for1 (Z.walk.item i s _ _ hlt hT fun v h' tk hP hT' kp => ?_)
  have S₁ : St W b env D OL { s with heap := h', toks := tk } := S.walked Z hT hwf kp
  have sk : SeqKeep (ad OL ++ b.O) s.heap h' := fun a o xs n _ hd e => kp a o (fun hm => by
    obtain ⟨o', vs, e', hd', _⟩ := Z.wrok i _ a hT hm
    rw [e] at e'; cases e'; rw [hd] at hd'; cases hd') e
  have hK' := Z.kmono _ _ sk hK
  obtain ⟨d', hd', r⟩ := Z.item i v h' hP hK'
  rw [hi] at hd'; cases hd'
  refine turn (rb b env OL { s with heap := h', toks := tk }) v _ (rb_st S₁) (rb_cf C) rfl rfl r fun D' OL' s' S' hO => ⟨S₁.back C hcn S' hO, ?_, ?_⟩
  · refine Z.walk.frame _ _ _ hT' fun a ha o e => ?_
    obtain ⟨o', e', hc⟩ := Z.fpok _ _ a hT' ha
    rw [e] at e'; cases e'
    refine S'.ext.at (fun hP => ?_) (hideAll_get _ e fun q => ?_) (by rcases hc with ⟨_, hc, _⟩ | ⟨_, _, hc, _⟩ <;> (rw [hc]; nofun))
    · obtain ⟨ps, e2⟩ := S₁.inv.notP hP
      have e2' : h'.get? a = some (tabObj ps) := e2
      rw [e] at e2'; cases e2'
      rcases hc with ⟨_, _, hc⟩ | ⟨_, _, hc, _⟩
      · exact hc rfl
      · cases hc
    · rcases List.mem_cons.mp q with q | q
      · obtain ⟨m, ⟨oL, es, ep, eL, hdL, _⟩, _⟩ := S₁.loc
        have eL' : h'.get? env.locals = some oL := eL
        rw [← q, e] at eL'; cases eL'
        rcases hc with ⟨_, hc, _⟩ | ⟨_, _, hc, _⟩ <;> (rw [hdL] at hc; cases hc)
      · rcases List.mem_append.mp q with q | q
        · obtain ⟨p, hp, rfl⟩ := List.mem_map.mp q
          obtain ⟨v', oc, ec, hdc⟩ := S₁.all p.1 p.2 (hcn _ _ hp)
          have ec' : h'.get? p.2 = some oc := ec
          rw [e] at ec'; cases ec'
          rcases hc with ⟨_, hc, _⟩ | ⟨_, _, hc, _⟩ <;> (rw [hdc] at hc; cases hc)
        · rcases hc with ⟨_, hc, _⟩ | ⟨_, _, _, hc⟩
          · obtain ⟨_, _, oo, xs, n, eo, hdo⟩ := S₁.ook a (List.mem_append_left _ q)
            have eo' : h'.get? a = some oo := eo
            rw [e] at eo'; cases eo'
            rw [hdo] at hc; cases hc
          · exact hc (List.mem_append_left _ q)
  · refine Z.kmono _ _ (fun a o xs n ha hd e => ?_) hK'
    refine S'.ext.at (S₁.inv.notP_of e fun vs q => by rw [hd] at q; cases q) (hideAll_get _ e fun q => ?_) (by rw [hd]; nofun)
    rcases List.mem_cons.mp q with q | q
    · obtain ⟨m, ⟨oL, es, ep, eL, hdL, _⟩, _⟩ := S₁.loc
      have eL' : h'.get? env.locals = some oL := eL
      rw [← q, e] at eL'; cases eL'
      rw [hdL] at hd; cases hd
    · rcases List.mem_append.mp q with q | q
      · obtain ⟨p, hp, rfl⟩ := List.mem_map.mp q
        obtain ⟨v', oc, ec, hdc⟩ := S₁.all p.1 p.2 (hcn _ _ hp)
        have ec' : h'.get? p.2 = some oc := ec
        rw [e] at ec'; cases ec'
        rw [hdc] at hd; cases hd
      · exact ha (List.mem_append_left _ q)

/-- The end of a for. -/
theorem for_end {R : Result → Shared → Prop} {target : Expr} {body orelse : List Stmt} (S : St W b env D OL s) (Z : Itr W A (ad OL ++ b.O) I fp wr ds P T K) (hT : T ds.length s.heap) (hwf : ∀ a ∈ wr, W.g.get? a = none ∧ b.hb.get? a = none)
    (h : ∀ s', St W b env D OL s' → wpAny W.M A (execs orelse env) (fun f s₃ => R (.ok f) s₃) (notedBy W.M A env fun e s' => R (.error e) s') s') : codeAny W.M A (.forLoop target (.ref I) body orelse env) R s :=
  codeAny_for1 (Z.walk.done s _ _ hT fun _ _ kp => h _ (S.walked Z hT hwf kp))

end

end Mine
end

section
-- L8
open PySem PySem.W PySem.Calls PyProof.Rows
set_option maxRecDepth 100000

namespace Mine

/-- An expression that is iterated: its iterator goes over the data `ds`. -/
def Ib (W : Wd) (A : Around) (env : Env) (D : List (Str × Dt)) (iter : Expr) (ds : List Dt) : Prop :=
  ∀ b OL s, St W b env D OL s → wpAny W.M A (eval iter env) (fun v s₁ => wpAny W.M A (pyIter v) (fun it s₂ => Stp W s s₂ ∧ ∃ I fp wr P T K, it = .ref I ∧ Itr W A (ad OL ++ b.O) I fp wr ds P T K ∧ T 0 s₂.heap ∧ K s₂.heap ∧ (∀ a ∈ wr, s.heap.get? a = none)) (fun _ _ => False) s₁) (fun _ _ => False) s

section
variable {W : Wd} {A : Around} {O : List Addr}

theorem itr_list {I l : Addr} {items : Array Value} {ds : List Dt} (hA : A.handled = none) (hne : l ≠ I) (hlO : l ∉ O) (hlen : items.size = ds.length) :
    Itr W A O I [I, l] [I] ds (fun i v => items[i]? = some v) (fun i h => h.IsListIter I l i ∧ h.IsList l items) (fun h => RepL h O ds items.toList) where
  walk := hlen ▸ Walks.list hA I l hne items
  item := fun i v h hP hK => by
    have hi : i < ds.length := by
      rcases Nat.lt_or_ge i items.size with q | q
      · omega
      · rw [Array.getElem?_eq_none q] at hP; cases hP
    obtain ⟨v', hv, r⟩ := hK.get (List.getElem?_eq_getElem hi)
    rw [Array.getElem?_toList, hP] at hv; cases hv
    exact ⟨_, List.getElem?_eq_getElem hi, r⟩
  kmono := fun h h' k r => r.mono k
  wrok := fun i h a hT ha => by
    simp only [List.mem_singleton] at ha; subst ha
    obtain ⟨o, e, hc, hd⟩ := hT.1
    exact ⟨o, _, e, hd, by rw [hc]; nofun, fun q t x => by simp at x⟩
  fpok := fun i h a hT ha => by
    rcases List.mem_cons.mp ha with rfl | ha
    · obtain ⟨o, e, hc, hd⟩ := hT.1
      exact ⟨o, e, .inl ⟨_, hd, by rw [hc]; nofun⟩⟩
    · simp only [List.mem_singleton] at ha; subst ha
      obtain ⟨o, e, hc, n, hd⟩ := hT.2
      exact ⟨o, e, .inr ⟨_, n, hd, hlO⟩⟩

theorem itr_tup {I l : Addr} {items : Array Value} {ds : List Dt} (hA : A.handled = none) (hne : l ≠ I) (hlO : l ∉ O) (hlen : items.size = ds.length) :
    Itr W A O I [I, l] [I] ds (fun i v => items[i]? = some v) (fun i h => h.IsTupleIter I l i ∧ h.IsTuple l items) (fun h => RepL h O ds items.toList) where
  walk := hlen ▸ Walks.tuple hA I l hne items
  item := fun i v h hP hK => by
    have hi : i < ds.length := by
      rcases Nat.lt_or_ge i items.size with q | q
      · omega
      · rw [Array.getElem?_eq_none q] at hP; cases hP
    obtain ⟨v', hv, r⟩ := hK.get (List.getElem?_eq_getElem hi)
    rw [Array.getElem?_toList, hP] at hv; cases hv
    exact ⟨_, List.getElem?_eq_getElem hi, r⟩
  kmono := fun h h' k r => r.mono k
  wrok := fun i h a hT ha => by
    simp only [List.mem_singleton] at ha; subst ha
    obtain ⟨o, e, hc, hd⟩ := hT.1
    exact ⟨o, _, e, hd, by rw [hc]; nofun, fun q t x => by simp at x⟩
  fpok := fun i h a hT ha => by
    rcases List.mem_cons.mp ha with rfl | ha
    · obtain ⟨o, e, hc, hd⟩ := hT.1
      exact ⟨o, e, .inl ⟨_, hd, by rw [hc]; nofun⟩⟩
    · simp only [List.mem_singleton] at ha; subst ha
      obtain ⟨o, e, hc, n, hd⟩ := hT.2
      exact ⟨o, e, .inr ⟨_, n, hd, hlO⟩⟩

theorem itr_rev {I l : Addr} {items : Array Value} {ds : List Dt} (hA : A.handled = none) (hne : l ≠ I) (hlO : l ∉ O) (hlen : items.size = ds.length) :
    Itr W A O I [I, l] [I] ds.reverse (fun i v => items[items.size - 1 - i]? = some v ∧ i < items.size) (fun i h => i ≤ items.size ∧ h.IsRevIter I l ((items.size : Int) - 1 - (i : Int)) ∧ h.IsList l items) (fun h => RepL h O ds items.toList) where
  walk := by
    have w := Walks.listRev (prog := W.prog) (w := W.w) hA I l hne items
    rw [List.length_reverse, ← hlen]
    exact { w with item := fun i s Q E hi st hQ => w.item i s Q E hi st fun v h' tk hP => hQ v h' tk ⟨hP, hi⟩ }
  item := fun i v h hP hK => by
    have hi := hP.2
    have e : ds.reverse[i]? = ds[items.size - 1 - i]? := by
      rw [List.getElem?_reverse (by omega), hlen]
    have hj : items.size - 1 - i < ds.length := by omega
    obtain ⟨v', hv, r⟩ := hK.get (List.getElem?_eq_getElem hj)
    rw [Array.getElem?_toList, hP.1] at hv; cases hv
    exact ⟨_, e.trans (List.getElem?_eq_getElem hj), r⟩
  kmono := fun h h' k r => r.mono k
  wrok := fun i h a hT ha => by
    simp only [List.mem_singleton] at ha; subst ha
    obtain ⟨o, e, hc, hd⟩ := hT.2.1
    exact ⟨o, _, e, hd, by rw [hc]; nofun, fun q t x => by simp [rawInt] at x⟩
  fpok := fun i h a hT ha => by
    rcases List.mem_cons.mp ha with rfl | ha
    · obtain ⟨o, e, hc, hd⟩ := hT.2.1
      exact ⟨o, e, .inl ⟨_, hd, by rw [hc]; nofun⟩⟩
    · simp only [List.mem_singleton] at ha; subst ha
      obtain ⟨o, e, hc, n, hd⟩ := hT.2.2
      exact ⟨o, e, .inr ⟨_, n, hd, hlO⟩⟩

def rng (n : Nat) : List Dt := (List.range n).map fun (i : Nat) => .int (i : Int)
theorem rng_length (n : Nat) : (rng n).length = n := by simp [rng]
theorem rng_get {n i : Nat} (h : i < n) : (rng n)[i]? = some (.int (i : Int)) := by simp [rng, h]

theorem itr_range {I : Addr} {n : Nat} (hA : A.handled = none) :
    Itr W A O I [I] [I] (rng n) (fun i v => (∃ t, v = .int (0 + i * 1) t) ∧ i < n) (fun i h => IsRangeIter h I (0 + (i : Nat) * 1) ((n : Int) - (i : Nat)) 1) (fun _ => True) where
  walk := by
    have w := Walks.range (prog := W.prog) (w := W.w) hA I 0 1 n
    rw [rng_length]
    exact { w with item := fun i s Q E hi st hQ => w.item i s Q E hi st fun v h' tk hP => hQ v h' tk ⟨hP, hi⟩ }
  item := fun i v h hP _ => by
    obtain ⟨⟨t, rfl⟩, hi⟩ := hP
    exact ⟨_, rng_get hi, by simp only [Rep]; exact ⟨t, by simp⟩⟩
  kmono := fun _ _ _ x => x
  wrok := fun i h a hT ha => by
    simp only [List.mem_singleton] at ha; subst ha
    exact ⟨_, _, hT, rfl, by nofun, fun q t x => by simp [rawInt] at x⟩
  fpok := fun i h a hT ha => by
    simp only [List.mem_singleton] at ha; subst ha
    exact ⟨_, hT, .inl ⟨_, rfl, by nofun⟩⟩
end

section
variable {W : Wd} {A : Around} {b : Base} {env : Env} {D : List (Str × Dt)} {OL : List (Addr × List Dt)} {s : Shared} {E : Value → Shared → Prop}

theorem ib_list {iter : Expr} {ds : List Dt} (hA : A.handled = none) (h : Ev W A env D iter (.lst ds)) : Ib W A env D iter ds := fun b OL s S => by
  refine (h b OL s S).use fun v s₁ x₁ r₁ => ?_
  simp only [Rep] at r₁
  obtain ⟨l, items, rfl, hlO, hl, hr⟩ := r₁
  have hlt : l ≠ s₁.heap.objs.size := by obtain ⟨n, e⟩ := hl; exact Nat.ne_of_lt (Heap.lt_size e)
  have x₂ : Stp W s₁ { s₁ with heap := s₁.heap.push { cls := .type "list_iterator", data := .fields #[.ref l, .int 0 0] } } := Stp.push (tk := s₁.toks) x₁.inv
  refine wpAny_pyIter_list hl.isList ⟨x₁.trans x₂, _, _, _, _, _, _, rfl, itr_list hA hlt hlO (by rw [← Array.length_toList]; exact hr.length), ⟨⟨_, Heap.get?_push_size _ rfl, rfl, rfl⟩, ?_⟩, hr.ext x₁.inv x₂.ext, fun a ha => ?_⟩
  · obtain ⟨n, e⟩ := hl
    exact ⟨_, Heap.get?_push_of_some _ e, rfl, n, rfl⟩
  · simp only [List.mem_singleton] at ha; subst ha
    cases q : s.heap.get? s₁.heap.objs.size with
    | none => rfl
    | some o =>
      by_cases hP : s₁.heap.objs.size ∈ W.Ps
      · obtain ⟨ps, e⟩ := x₁.inv.notP hP
        exact absurd (Heap.lt_size e) (Nat.lt_irrefl _)
      · exact absurd (Heap.lt_size (x₁.ext.there hP q).choose_spec) (Nat.lt_irrefl _)
theorem fresh_of_stp {s s₁ : Shared} (x₁ : Stp W s s₁) {a : Addr} (ha : s₁.heap.objs.size ≤ a) : s.heap.get? a = none := by
  cases q : s.heap.get? a with
  | none => rfl
  | some o =>
    by_cases hP : a ∈ W.Ps
    · obtain ⟨ps, e⟩ := x₁.inv.notP hP
      exact absurd (Nat.lt_of_lt_of_le (Heap.lt_size e) ha) (Nat.lt_irrefl _)
    · exact absurd (Nat.lt_of_lt_of_le (Heap.lt_size (x₁.ext.there hP q).choose_spec) ha) (Nat.lt_irrefl _)
theorem ib_tup {iter : Expr} {ds : List Dt} (hA : A.handled = none) (h : Ev W A env D iter (.tup ds)) : Ib W A env D iter ds := fun b OL s S => by
  refine (h b OL s S).use fun v s₁ x₁ r₁ => ?_
  simp only [Rep] at r₁
  obtain ⟨l, items, rfl, hlO, hl, hr⟩ := r₁
  have hlt : l ≠ s₁.heap.objs.size := by obtain ⟨o, e, _⟩ := hl; exact Nat.ne_of_lt (Heap.lt_size e)
  have x₂ : Stp W s₁ { s₁ with heap := s₁.heap.push { cls := .type "tuple_iterator", data := .fields #[.ref l, .int 0 0] } } := Stp.push (tk := s₁.toks) x₁.inv
  refine iter_tuple hl ⟨x₁.trans x₂, _, _, _, _, _, _, rfl, itr_tup hA hlt hlO (by rw [← Array.length_toList]; exact hr.length), ⟨⟨_, Heap.get?_push_size _ rfl, rfl, rfl⟩, ?_⟩, hr.ext x₁.inv x₂.ext, fun a ha => ?_⟩
  · obtain ⟨o, e, hc, n, hd⟩ := hl
    exact ⟨_, Heap.get?_push_of_some _ e, hc, n, hd⟩
  · simp only [List.mem_singleton] at ha; subst ha
    exact fresh_of_stp x₁ (Nat.le_refl _)

theorem ib_rev {x : Str} {p pos : Pos} {e : Expr} {ds : List Dt} (G : W.Ok) (hA : A.handled = none)
    (hk : env.kindOf x = some .globalImplicit) (hb : (x == ("__debug__" : Str)) = false) (hm : W.mg x = none) (hv : bootBuiltins x = some (.type "reversed")) (hn : x ≠ "__name__") (ha : Ev W A env D e (.lst ds))
    (he : starEach [e] env = (false, eval e env) :: starEach [] env) : Ib W A env D (.Call (.Name x p) [e] [] pos) ds.reverse := fun b OL s S => by
  refine Call_ ((ev_boot G hk hm hv hn hb b OL s S).use fun v s₁ x₁ r₁ => ?_)
  simp only [Rep] at r₁
  subst r₁
  refine PyProof.Rows.callWith_type1 (wpAny_mono (evs_cons ha evs_nil he pos b OL s₁ (S.stp x₁)) (fun vs s₂ y => ?_) fun _ _ y => y.elim) he rfl
  have y2 := y.2
  simp only [RepL, Rep] at y2
  obtain ⟨v, _, rfl, ⟨l, items, rfl, hlO, hl, hr⟩, rfl⟩ := y2
  have hlt : l ≠ s₂.heap.objs.size := by obtain ⟨n, e⟩ := hl; exact Nat.ne_of_lt (Heap.lt_size e)
  refine call_reversed_list hl.isList ?_
  have x₃ : Stp W s₂ { s₂ with heap := s₂.heap.push (revObj l ((items.size : Int) - 1)) } := Stp.push (tk := s₂.toks) y.1.inv
  have hit : (s₂.heap.push (revObj l ((items.size : Int) - 1))).IsRevIter s₂.heap.objs.size l ((items.size : Int) - 1) := ⟨_, Heap.get?_push_size _ rfl, rfl, rfl⟩
  refine wpAny_pyIter_revIter (s := { s₂ with heap := s₂.heap.push (revObj l ((items.size : Int) - 1)) }) hit ⟨(x₁.trans y.1).trans x₃, _, _, _, _, _, _, rfl, itr_rev hA hlt hlO (by rw [← Array.length_toList]; exact hr.length), ⟨Nat.zero_le _, ?_, ?_⟩, hr.ext y.1.inv x₃.ext, fun a ha => ?_⟩
  · simpa using hit
  · obtain ⟨n, e⟩ := hl
    exact ⟨_, Heap.get?_push_of_some _ e, rfl, n, rfl⟩
  · simp only [List.mem_singleton] at ha; subst ha
    exact fresh_of_stp (x₁.trans y.1) (Nat.le_refl _)

theorem ib_range {x : Str} {p pos : Pos} {e : Expr} {n : Int} (G : W.Ok) (hA : A.handled = none)
    (hk : env.kindOf x = some .globalImplicit) (hb : (x == ("__debug__" : Str)) = false) (hm : W.mg x = none) (hv : bootBuiltins x = some (.type "range")) (hn : x ≠ "__name__") (ha : Ev W A env D e (.int n)) (h0 : 0 ≤ n) (h1 : n < 2 ^ 40)
    (he : starEach [e] env = (false, eval e env) :: starEach [] env) : Ib W A env D (.Call (.Name x p) [e] [] pos) (rng n.toNat) := fun b OL s S => by
  refine Call_ ((ev_boot G hk hm hv hn hb b OL s S).use fun v s₁ x₁ r₁ => ?_)
  simp only [Rep] at r₁
  subst r₁
  refine PyProof.Rows.callWith_type1 (wpAny_mono (evs_cons ha evs_nil he pos b OL s₁ (S.stp x₁)) (fun vs s₂ y => ?_) fun _ _ y => y.elim) he rfl
  have y2 := y.2
  simp only [RepL, Rep] at y2
  obtain ⟨v, _, rfl, ⟨t, rfl⟩, rfl⟩ := y2
  refine call_range_1 ?_
  have hsz : Builtin.Range.rangeSize 0 n 1 = n := by rw [rangeSize_one]; split <;> omega
  have x₃ : Stp W s₂ { s₂ with heap := s₂.heap.push { cls := .type "range", data := .fields #[.int 0 s₂.toks, .int n t, .int 1 (s₂.toks + 1)] }, toks := s₂.toks + 1 + 1 } := Stp.push y.1.inv
  have hsm : Builtin.Range.small 0 n 1 = true := by
    unfold Builtin.Range.small
    rw [hsz]
    simp [Builtin.Range.rangeFitsLong]
    omega
  refine wpAny_pyIter_range (Heap.get?_push_size _ rfl) hsm ?_
  rw [hsz]
  generalize hs₃ : ({ s₂ with heap := s₂.heap.push { cls := .type "range", data := .fields #[.int 0 s₂.toks, .int n t, .int 1 (s₂.toks + 1)] }, toks := s₂.toks + 1 + 1 } : Shared) = s₃ at x₃ ⊢
  have x₄ : Stp W s₃ { s₃ with heap := s₃.heap.push { cls := .type "range_iterator", data := .fields #[rawInt 0, rawInt n, rawInt 1] } } := Stp.push (tk := s₃.toks) x₃.inv
  refine ⟨((x₁.trans y.1).trans x₃).trans x₄, _, _, _, _, _, _, rfl, itr_range hA, ?_, trivial, fun a ha => ?_⟩
  · show Heap.get? _ _ = _
    rw [Heap.get?_push_size _ rfl]
    simp [rawInt]
    omega
  · simp only [List.mem_singleton] at ha; subst ha
    exact fresh_of_stp ((x₁.trans y.1).trans x₃) (Nat.le_refl _)

/-- A for, from its head, over what can be iterated. -/
theorem x_for' {target iter : Expr} {body orelse rest : List Stmt} {pos : Pos} {ds : List Dt} {Q : Flow → Shared → Prop} (S : St W b env D OL s) (hi : Ib W A env D iter ds) (hs : ∀ x, foldedSetIterable iter env x = pure x)
    (h : ∀ I fp wr P T K s₂, St W b env D OL s₂ → Itr W A (ad OL ++ b.O) I fp wr ds P T K → T 0 s₂.heap → K s₂.heap → (∀ a ∈ wr, W.g.get? a = none ∧ b.hb.get? a = none) →
      codeAny W.M A (.forLoop target (.ref I) body orelse env) (fun r s' => match r with | .ok f => Then W A env rest Q E f s' | .error e => cameBackBy W.M A env E e s') s₂) :
    wpAny W.M A (execs (.For target iter body orelse pos :: rest) env) Q E s := by
  refine wpAny_execs_cons (wpAny_For (wpAny_mono (hi b OL s S) (fun v s₁ y => wpAny_mono y (fun it s₂ y => ?_) fun _ _ y => y.elim) fun _ _ y => y.elim) hs)
  obtain ⟨x, I, fp, wr, P, T, K, rfl, Z, h0, hK, hf⟩ := y
  refine h I fp wr P T K s₂ (S.stp x) Z h0 hK fun a ha => ⟨?_, ?_⟩
  · cases q : W.g.get? a with
    | none => rfl
    | some o => have := S.inv.base _ _ q; rw [hf a ha] at this; cases this
  · cases q : b.hb.get? a with
    | none => rfl
    | some o =>
      by_cases hP : a ∈ W.Ps
      · obtain ⟨ps, e⟩ := S.inv.notP hP
        rw [hf a ha] at e; cases e
      · obtain ⟨sl, this⟩ := S.ext.there hP q; rw [hf a ha] at this; cases this

/-- `x.append(e)` on a list of the frame's own. -/
theorem x_append {x : Str} {e : Expr} {p apos cpos epos : Pos} {l : Addr} {ds : List Dt} {d : Dt} {rest : List Stmt} {pl : Sem Bool} {Q : Flow → Shared → Prop} (S : St W b env D [(l, ds)] s) (hx : Ev W A env D (.Name x p) (.raw (.ref l))) (he : Ev W A env D e d) (hsz : ds.length ≤ 1000)
    (hm : MethEq env (.Name x p) (Str.ofString "append") apos cpos [e] pl) (he' : starEach [e] env = (false, eval e env) :: starEach [] env) (hi : interactive env = false) (hs : swapsWith (.Call (.Attribute (.Name x p) (Str.ofString "append") apos) [e] [] cpos) none epos.line env = pure false)
    (h : ∀ s', St W b env D [(l, ds ++ [d])] s' → wpAny W.M A (execs rest env) Q E s') : wpAny W.M A (execs (.Expr (.Call (.Attribute (.Name x p) (Str.ofString "append") apos) [e] [] cpos) epos :: rest) env) Q E s := by
  refine wpAny_execs_cons (wpAny_Expr (MethodCall_ (pl := pl) ((hx b _ s S).use fun v s₁ x₁ r₁ => ?_) hm) hi hs)
  simp only [Rep] at r₁
  subst r₁
  have S₁ := S.stp x₁
  obtain ⟨us, ⟨n, el⟩, _⟩ := S₁.own _ List.mem_cons_self
  refine getMethod_list_append el rfl rfl ?_
  refine PyProof.Rows.callWith_method1 (wpAny_mono (evs_cons he evs_nil he' cpos b _ s₁ S₁) (fun vs s₂ y => ?_) fun _ _ y => y.elim) he' rfl
  have S₂ := S₁.stp y.1
  obtain ⟨us, hp, hr⟩ := S₂.own _ List.mem_cons_self
  have y2 := y.2
  simp only [RepL] at y2
  obtain ⟨v, _, rfl, rv, rfl⟩ := y2
  have hlen := hr.length
  refine wpAny_list_append_plain hp (fun h' hp' hs' => ?_) (by rw [← Array.length_toList, hlen, sizeLine_eq]; simp only; omega)
  have sk : SeqKeep (l :: b.O) s₂.heap h' := fun a o xs n' ha _ e => hs'.extBut a o (fun q => ha (q ▸ List.mem_cons_self)) e
  refine h _ (S₂.upd (tk := s₂.toks) hs'.extBut hp' ?_)
  rw [Array.toList_push]
  exact RepL.append (hr.mono sk) (by simp only [RepL]; exact ⟨v, [], rfl, rv.mono sk, rfl⟩)
end

end Mine
end

section
-- M1
open PySem PySem.W PySem.Calls PyProof.Rows
set_option maxRecDepth 100000

namespace Mine
open Builtin.Int (intBits)

theorem two_pow_pos (k : Nat) : (0 : Int) < 2 ^ k := Int.pow_pos (by decide)
theorem two_pow_mono {a b : Nat} (h : a ≤ b) : (2 : Int) ^ a ≤ 2 ^ b := by
  have := Nat.pow_le_pow_right (n := 2) (by decide) h
  exact_mod_cast this
theorem natCast_two_pow (k : Nat) : ((2 ^ k : Nat) : Int) = 2 ^ k := by simp
theorem fdiv_pow (a : Int) (k : Nat) : a.fdiv (2 ^ k) = a / 2 ^ k := Int.fdiv_eq_ediv_of_nonneg _ (Int.le_of_lt (two_pow_pos k))
theorem fmod_pos (a : Int) {b : Int} (h : 0 < b) : a.fmod b = a % b := Int.fmod_eq_emod_of_nonneg _ (Int.le_of_lt h)
theorem fdiv_pos (a : Int) {b : Int} (h : 0 < b) : a.fdiv b = a / b := Int.fdiv_eq_ediv_of_nonneg _ (Int.le_of_lt h)

theorem bitAnd_mask {x : Int} (hx : 0 ≤ x) (k : Nat) : Builtin.bitAnd x (2 ^ k - 1) = x % 2 ^ k := by
  have hp := two_pow_pos k
  rw [bitAnd_pp hx (by omega)]
  have e : ((2 : Int) ^ k - 1).toNat = 2 ^ k - 1 := by
    have := natCast_two_pow k
    omega
  rw [e, Nat.and_two_pow_sub_one_eq_mod]
  obtain ⟨n, rfl⟩ := Int.eq_ofNat_of_zero_le hx
  simp

theorem nat_and_low {r k a : Nat} (h : a < 2 ^ k) : (r * 2 ^ k) &&& a = 0 := by
  refine Nat.eq_of_testBit_eq fun i => ?_
  rw [Nat.testBit_and, Nat.zero_testBit, Nat.mul_comm, Nat.testBit_two_pow_mul]
  by_cases q : k ≤ i
  · have : a.testBit i = false := Nat.testBit_lt_two_pow (Nat.lt_of_lt_of_le h (Nat.pow_le_pow_right (by decide) q))
    simp [this]
  · simp [q]

theorem bitOr_low {r a : Int} {k : Nat} (hr : 0 ≤ r) (h0 : 0 ≤ a) (h1 : a < 2 ^ k) : Builtin.bitOr (r * 2 ^ k) a = r * 2 ^ k + a := by
  have hp := two_pow_pos k
  have hm : 0 ≤ r * 2 ^ k := Int.mul_nonneg hr (Int.le_of_lt hp)
  rw [bitOr_and, bitAnd_pp hm h0]
  obtain ⟨r', rfl⟩ := Int.eq_ofNat_of_zero_le hr
  obtain ⟨a', rfl⟩ := Int.eq_ofNat_of_zero_le h0
  have e : ((r' : Int) * 2 ^ k).toNat = r' * 2 ^ k := by
    rw [show (r' : Int) * 2 ^ k = ((r' * 2 ^ k : Nat) : Int) by push_cast; rfl, Int.toNat_natCast]
  have h1' : a' < 2 ^ k := by
    rw [← natCast_two_pow] at h1; exact_mod_cast h1
  rw [e, Int.toNat_natCast, nat_and_low h1']
  simp

theorem nat_and_high (x k : Nat) : x &&& (x / 2 ^ k * 2 ^ k) = x / 2 ^ k * 2 ^ k := by
  refine Nat.eq_of_testBit_eq fun i => ?_
  rw [Nat.testBit_and, Nat.mul_comm, Nat.testBit_two_pow_mul]
  by_cases q : k ≤ i
  · rw [Nat.testBit_div_two_pow]
    have : i - k + k = i := by omega
    simp [q, this]
  · simp [q]

theorem bitXor_high {x : Int} (hx : 0 ≤ x) (k : Nat) : Builtin.bitXor x (x / 2 ^ k * 2 ^ k) = x % 2 ^ k := by
  have hp := two_pow_pos k
  have hq : 0 ≤ x / 2 ^ k := Int.ediv_nonneg hx (Int.le_of_lt hp)
  have hm : 0 ≤ x / 2 ^ k * 2 ^ k := Int.mul_nonneg hq (Int.le_of_lt hp)
  rw [bitXor_and, bitAnd_pp hx hm]
  obtain ⟨x', rfl⟩ := Int.eq_ofNat_of_zero_le hx
  have e : ((x' : Int) / 2 ^ k * 2 ^ k).toNat = x' / 2 ^ k * 2 ^ k := by
    rw [show (x' : Int) / 2 ^ k * 2 ^ k = ((x' / 2 ^ k * 2 ^ k : Nat) : Int) by push_cast; rfl, Int.toNat_natCast]
  rw [e, Int.toNat_natCast, nat_and_high]
  have h2 : ((x' / 2 ^ k * 2 ^ k : Nat) : Int) = (x' : Int) / 2 ^ k * 2 ^ k := by push_cast; rfl
  rw [h2]
  have := Int.emod_add_mul_ediv (x' : Int) (2 ^ k)
  rw [Int.mul_comm] at this
  omega

theorem intBits_pos {b : Int} {n : Nat} (h1 : 1 ≤ n) (h2 : 2 ^ (n - 1) ≤ b) (h3 : b < 2 ^ n) : intBits b = n := by
  have hp := two_pow_pos (n - 1)
  have e : ((b.natAbs : Nat) : Int) = b := by omega
  refine Nat.le_antisymm (intBits_le_iff.mpr ?_) ?_
  · have : ((b.natAbs : Nat) : Int) < ((2 ^ n : Nat) : Int) := by rw [e, natCast_two_pow]; exact h3
    exact_mod_cast this
  · rcases Nat.lt_or_ge (intBits b) n with q | q
    · have q' : intBits b ≤ n - 1 := by omega
      have := intBits_le_iff.mp q'
      have : ((b.natAbs : Nat) : Int) < ((2 ^ (n - 1) : Nat) : Int) := by exact_mod_cast this
      rw [e, natCast_two_pow] at this
      omega
    · exact q
theorem intBits_bounds {b : Int} (h : 0 < b) : 1 ≤ intBits b ∧ 2 ^ (intBits b - 1) ≤ b ∧ b < 2 ^ intBits b := by
  have e : ((b.natAbs : Nat) : Int) = b := by omega
  have h1 : 1 ≤ intBits b := by
    rcases Nat.eq_zero_or_pos (intBits b) with q | q
    · have := intBits_le_iff.mp (Nat.le_of_eq q)
      omega
    · exact q
  refine ⟨h1, ?_, ?_⟩
  · have : ¬ intBits b ≤ intBits b - 1 := by omega
    rw [intBits_le_iff] at this
    have : ((2 ^ (intBits b - 1) : Nat) : Int) ≤ ((b.natAbs : Nat) : Int) := by exact_mod_cast Nat.le_of_not_lt this
    rwa [e, natCast_two_pow] at this
  · have := intBits_le_iff.mp (Nat.le_refl (intBits b))
    have : ((b.natAbs : Nat) : Int) < ((2 ^ intBits b : Nat) : Int) := by exact_mod_cast this
    rwa [e, natCast_two_pow] at this
theorem intBits_le_of_lt {x : Int} {m : Nat} (h0 : 0 ≤ x) (h : x < 2 ^ m) : intBits x ≤ m := by
  refine intBits_le_iff.mpr ?_
  have e : ((x.natAbs : Nat) : Int) = x := by omega
  have : ((x.natAbs : Nat) : Int) < ((2 ^ m : Nat) : Int) := by rw [e, natCast_two_pow]; exact h
  exact_mod_cast this
theorem lt_of_intBits_le {x : Int} {m : Nat} (h0 : 0 ≤ x) (h : intBits x ≤ m) : x < 2 ^ m := by
  have := intBits_le_iff.mp h
  have e : ((x.natAbs : Nat) : Int) = x := by omega
  have : ((x.natAbs : Nat) : Int) < ((2 ^ m : Nat) : Int) := by exact_mod_cast this
  rwa [e, natCast_two_pow] at this

theorem noPylong_near {a b : Int} (h : intBits a ≤ intBits b + 4000) : Builtin.divisionGoesByPylong a b = false := by
  have key : (if a == 0 then 0 else a.natAbs.log2 / 30 + 1) ≤ (if b == 0 then 0 else b.natAbs.log2 / 30 + 1) + 150 := by
    unfold Builtin.Int.intBits at h
    by_cases ha : (a == 0) = true
    · rw [if_pos ha]; omega
    · rw [if_neg ha] at h ⊢
      by_cases hb : (b == 0) = true
      · rw [if_pos hb] at h ⊢; omega
      · rw [if_neg hb] at h ⊢; omega
  show (decide _ && decide ((if a == 0 then 0 else a.natAbs.log2 / 30 + 1) > (if b == 0 then 0 else b.natAbs.log2 / 30 + 1) + 150)) = false
  rw [decide_eq_false (Nat.not_lt.mpr key)]
  simp

/-! The division of Burnikel and Ziegler. -/

/-- Three digits by two: the guess. -/
theorem guess_ok {a12 a3 b b1 b2 q r H : Int} (hH : 0 < H) (hb : b = b1 * H + b2) (hb1 : 0 < b1) (hb2 : 0 ≤ b2) (h3 : 0 ≤ a3) (h3' : a3 < H) (ha : 0 ≤ a12) (hab : a12 < b)
    (hq : (a12 / H = b1 ∧ b2 < H ∧ q = H - 1 ∧ r = a12 - b1 * H + b1) ∨ (a12 < b1 * H ∧ q = a12 / b1 ∧ r = a12 % b1)) :
    0 ≤ q ∧ q ≤ H - 1 ∧ 0 ≤ r ∧ r * H + a3 - q * b2 = a12 * H + a3 - q * b ∧ a12 * H + a3 - q * b < b := by
  have hbp : 0 < b := by
    have : 0 < b1 * H := Int.mul_pos hb1 hH
    omega
  rcases hq with ⟨h1, hb2', rfl, rfl⟩ | ⟨h1, rfl, rfl⟩
  · have hle : b1 * H ≤ a12 := by
      have h8 := Int.emod_add_mul_ediv a12 H
      have h9 := Int.emod_nonneg a12 (show H ≠ 0 by omega)
      rw [h1, Int.mul_comm] at h8
      omega
    refine ⟨by omega, by omega, by omega, ?_, ?_⟩
    · subst hb
      have e1 : (a12 - b1 * H + b1) * H + a3 - (H - 1) * b2 = a12 * H + a3 - (H - 1) * (b1 * H + b2) := by
        grind
      exact e1
    · have e : a12 * H + a3 - (H - 1) * b = (a12 - b) * H + a3 + b := by
        simp only [Int.sub_mul, Int.one_mul, Int.mul_comm H b]; omega
      rw [e]
      have : (a12 - b) * H ≤ -1 * H := Int.mul_le_mul_of_nonneg_right (by omega) (by omega)
      omega
  · have hq0 : 0 ≤ a12 / b1 := Int.ediv_nonneg ha (by omega)
    have hm := Int.emod_add_mul_ediv a12 b1
    have hm0 := Int.emod_nonneg a12 (show b1 ≠ 0 by omega)
    have hm1 := Int.emod_lt_of_pos a12 hb1
    have hqH : a12 / b1 < H := by
      refine Int.ediv_lt_of_lt_mul hb1 ?_
      rw [Int.mul_comm]; exact h1
    refine ⟨hq0, by omega, hm0, ?_, ?_⟩
    · subst hb
      generalize a12 / b1 = q at *
      generalize a12 % b1 = r at *
      subst hm
      grind
    · generalize a12 / b1 = q at *
      generalize a12 % b1 = r at *
      subst hb
      have e : a12 * H + a3 - q * (b1 * H + b2) = r * H + a3 - q * b2 := by
        subst hm
        grind
      rw [e]
      have h4 : 0 ≤ q * b2 := Int.mul_nonneg hq0 hb2
      have h5 : r * H ≤ (b1 - 1) * H := Int.mul_le_mul_of_nonneg_right (by omega) (by omega)
      rw [Int.sub_mul, Int.one_mul] at h5
      omega

/-- The loop's end. -/
theorem quot_unique {a b q r : Int} (h : a = q * b + r) (h0 : 0 ≤ r) (h1 : r < b) : q = a / b ∧ r = a % b := by
  have hb : 0 < b := by omega
  have hd : a / b = q := by
    rw [h, Int.add_comm, Int.add_mul_ediv_right _ _ (by omega), Int.ediv_eq_zero_of_lt h0 h1]; omega
  have hm := Int.emod_add_mul_ediv a b
  rw [hd, Int.mul_comm] at hm
  exact ⟨hd.symm, by omega⟩

/-- Two halves of the quotient. -/
theorem halves {a b H : Int} (hH : 0 < H) (hb : 0 < b) (ha : 0 ≤ a) :
    let A1 := a / H
    let r := A1 % b
    let A2 := r * H + a % H
    A1 / b * H + A2 / b = a / b ∧ A2 % b = a % b ∧ 0 ≤ A2 / b ∧ A2 / b < H := by
  intro A1 r A2
  have e1 := Int.emod_add_mul_ediv a H
  have e2 := Int.emod_add_mul_ediv A1 b
  have e3 := Int.emod_add_mul_ediv A2 b
  have m0 := Int.emod_nonneg a (show H ≠ 0 by omega)
  have m1 := Int.emod_lt_of_pos a hH
  have r0 : 0 ≤ r := Int.emod_nonneg A1 (show b ≠ 0 by omega)
  have r1 : r < b := Int.emod_lt_of_pos A1 hb
  have q0 := Int.emod_nonneg A2 (show b ≠ 0 by omega)
  have q1 := Int.emod_lt_of_pos A2 hb
  have hA2 : 0 ≤ A2 := by
    have : 0 ≤ r * H := Int.mul_nonneg r0 (by omega)
    show 0 ≤ r * H + a % H
    omega
  have key : a = (A1 / b * H + A2 / b) * b + A2 % b := by
    have : a = A2 + b * (A1 / b) * H := by
      have h4 : a % H + H * A1 = a := e1
      have h5 : r + b * (A1 / b) = A1 := e2
      have h6 : A2 = r * H + a % H := rfl
      have h7 : H * A1 = r * H + b * (A1 / b) * H := by
        generalize A1 / b = u at h5 ⊢
        rw [← h5]; grind
      omega
    rw [Int.add_mul, Int.mul_assoc, Int.mul_comm H b, ← Int.mul_assoc, Int.mul_comm (A1 / b) b]
    have : b * (A2 / b) = A2 / b * b := Int.mul_comm _ _
    omega
  have u := quot_unique key q0 q1
  refine ⟨u.1, u.2, Int.ediv_nonneg hA2 (by omega), ?_⟩
  refine Int.ediv_lt_of_lt_mul hb ?_
  have : r * H ≤ (b - 1) * H := Int.mul_le_mul_of_nonneg_right (by omega) (by omega)
  rw [Int.sub_mul, Int.one_mul] at this
  rw [Int.mul_comm H b]
  show r * H + a % H < b * H
  omega

theorem split_top {a H : Int} (hH : 0 < H) : a / (H * H) * H + a / H % H = a / H := by
  have e1 := Int.emod_add_mul_ediv (a / H) H
  have e2 : a / H / H = a / (H * H) := Int.ediv_ediv_of_nonneg (by omega)
  rw [e2, Int.mul_comm] at e1
  omega
theorem top_bounds {b : Int} {h : Nat} (h1 : 1 ≤ h) (hb : 2 ^ (2 * h - 1) ≤ b) (hb' : b < 2 ^ (2 * h)) : 2 ^ (h - 1) ≤ b / 2 ^ h ∧ b / 2 ^ h < 2 ^ h ∧ 0 < b / 2 ^ h := by
  have hp := two_pow_pos h
  have hp' := two_pow_pos (h - 1)
  have e1 : (2 : Int) ^ (2 * h - 1) = 2 ^ (h - 1) * 2 ^ h := by rw [← Int.pow_add]; congr 1; omega
  have e2 : (2 : Int) ^ (2 * h) = 2 ^ h * 2 ^ h := by rw [← Int.pow_add]; congr 1; omega
  have l1 : 2 ^ (h - 1) ≤ b / 2 ^ h := Int.le_ediv_of_mul_le hp (by omega)
  exact ⟨l1, Int.ediv_lt_of_lt_mul hp (by omega), by omega⟩
end Mine

namespace Mine
/-- Digits to the base 2^n, the lowest first. -/
def packI (n : Nat) : List Int → Int
  | [] => 0
  | d :: r => d + packI n r * 2 ^ n
theorem packI_append (n : Nat) : ∀ (xs ys : List Int), packI n (xs ++ ys) = packI n xs + packI n ys * 2 ^ (n * xs.length)
  | [], ys => by simp [packI]
  | x :: xs, ys => by
    simp only [List.cons_append, packI, packI_append n xs ys, List.length_cons, Nat.mul_add, Nat.mul_one, Int.pow_add]
    grind
theorem packI_single (n : Nat) (x : Int) : packI n [x] = x := by simp [packI]
theorem packI_bound (n : Nat) {k : Nat} : ∀ (xs : List Int), (∀ x ∈ xs, 0 ≤ x ∧ x < 2 ^ k) → 0 ≤ packI n xs ∧ packI n xs < 2 ^ (k + (n + 1) * xs.length)
  | [], _ => by simp only [packI]; exact ⟨Int.le_refl _, two_pow_pos _⟩
  | x :: xs, h => by
    have hx := h x List.mem_cons_self
    have ih := packI_bound n xs fun y hy => h y (List.mem_cons_of_mem _ hy)
    simp only [packI, List.length_cons]
    have hp := two_pow_pos n
    have hm : 0 ≤ packI n xs * 2 ^ n := Int.mul_nonneg ih.1 (Int.le_of_lt hp)
    refine ⟨by omega, ?_⟩
    have e : (2 : Int) ^ (k + (n + 1) * (xs.length + 1)) = 2 ^ (k + (n + 1) * xs.length) * 2 ^ n * 2 := by
      rw [← Int.pow_add, ← Int.pow_succ]; congr 1
      rw [Nat.mul_add]; omega
    rw [e]
    have h1 : packI n xs * 2 ^ n < 2 ^ (k + (n + 1) * xs.length) * 2 ^ n := Int.mul_lt_mul_of_pos_right ih.2 hp
    have h2 : (2 : Int) ^ k ≤ 2 ^ (k + (n + 1) * xs.length) * 2 ^ n := by
      rw [← Int.pow_add]
      exact two_pow_mono (by omega)
    omega
end Mine
end

section
-- L9
open PySem PySem.W PySem.Calls PyProof.Rows
set_option maxRecDepth 100000

namespace Mine
open Builtin.Int (intBits)

section
variable {W : Wd} {A : Around} {b : Base} {env : Env} {D : List (Str × Dt)} {OL : List (Addr × List Dt)} {s : Shared} {E : Value → Shared → Prop}

theorem codeAny_while1 {R : Result → Shared → Prop} {test : Expr} {body orelse : List Stmt}
    (turn : wpAny W.M A (isTrue test env (eval test env)) (fun c s₁ => if c then wpAny W.M A (execs body env) (fun f s₂ => match f with
          | .next | .cont => codeAny W.M A (.whileLoop test body orelse env) R s₂
          | .brk => R (.ok .next) s₂
          | .ret v => R (.ok (.ret v)) s₂) (notedBy W.M A env fun e s' => R (.error e) s') s₁
        else wpAny W.M A (execs orelse env) (fun f s₂ => R (.ok f) s₂) (notedBy W.M A env fun e s' => R (.error e) s') s₁) (notedBy W.M A env fun e s' => R (.error e) s') s) :
    codeAny W.M A (.whileLoop test body orelse env) R s := by
  refine codeAny_of_tree ?_
  show wpAny _ _ ((whileTurn test body orelse env).onRaise (fun x => do noteFrame x env; theTreesLotGoes x)) _ _ s
  refine wpAny_noted ?_
  simp only [whileTurn]
  refine wpAny_bind (wpAny_mono turn (fun c s₁ h₁ => ?_) fun _ _ h' => h')
  cases c with
  | false => exact wpAny_bind (wpAny_mono h₁ (fun f s₂ h₂ => wpAny_pure h₂) fun _ _ h' => h')
  | true =>
    refine wpAny_bind (wpAny_mono h₁ (fun f s₂ h₂ => ?_) fun _ _ h' => h')
    cases f with
    | next => exact wpAny_pure ⟨rfl, h₂⟩
    | cont => exact wpAny_pure ⟨rfl, h₂⟩
    | brk => exact wpAny_pure h₂
    | ret v => exact wpAny_pure h₂

/-- What a loop's end leads to. -/
abbrev LoopR (W : Wd) (A : Around) (env : Env) (rest : List Stmt) (Q : Flow → Shared → Prop) (E : Value → Shared → Prop) : Result → Shared → Prop :=
  fun r s' => match r with | .ok f => Then W A env rest Q E f s' | .error e => cameBackBy W.M A env E e s'

theorem x_while {test : Expr} {body orelse rest : List Stmt} {pos : Pos} {Q : Flow → Shared → Prop} (h : codeAny W.M A (.whileLoop test body orelse env) (LoopR W A env rest Q E) s) :
    wpAny W.M A (execs (.While test body orelse pos :: rest) env) Q E s := wpAny_execs_cons (wpAny_While h)
theorem while_turn {R : Result → Shared → Prop} {test : Expr} {body orelse : List Stmt} {c : Bool} (S : St W b env D OL s) (ht : Tst W A env D test c)
    (h1 : c = true → ∀ s₁, St W b env D OL s₁ → wpAny W.M A (execs body env) (fun f s₂ => match f with
          | .next | .cont => codeAny W.M A (.whileLoop test body orelse env) R s₂
          | .brk => R (.ok .next) s₂
          | .ret v => R (.ok (.ret v)) s₂) (notedBy W.M A env fun e s' => R (.error e) s') s₁)
    (h2 : c = false → ∀ s₁, St W b env D OL s₁ → wpAny W.M A (execs orelse env) (fun f s₂ => R (.ok f) s₂) (notedBy W.M A env fun e s' => R (.error e) s') s₁) :
    codeAny W.M A (.whileLoop test body orelse env) R s := by
  refine codeAny_while1 (ht.use S fun s₁ x₁ => ?_)
  cases c with
  | true => exact h1 rfl s₁ (S.stp x₁)
  | false => exact h2 rfl s₁ (S.stp x₁)
end

def stAt (p : Program) (i : Nat) : Stmt := p.main.body.getD i (.Pass ⟨0, 0, 0, 0⟩)
def fnP : Stmt → Arguments
  | .FunctionDef _ a .. => a
  | _ => ⟨[], [], none, [], [], none, []⟩
def fnB : Stmt → List Stmt
  | .FunctionDef _ _ b .. => b
  | _ => []
def fnS : Stmt → Scope
  | .FunctionDef _ _ _ _ _ _ s .. => s
  | _ => default
def fnN : Stmt → Str
  | .FunctionDef n .. => n
  | _ => Str.empty

/-- The text's def at place `i` stands in the base under its name. -/
def HasFn (W : Wd) (p : Program) (i : Nat) : Prop := ∃ f, W.mg (fnN (stAt p i)) = some (.ref f) ∧ FnAt W f (fnN (stAt p i)) (fnP (stAt p i)) (fnB (stAt p i)) (fnS (stAt p i))
def FnC (W : Wd) (p : Program) (i : Nat) (k : Nat) (ds : List Dt) (d : Dt) : Prop := ∀ f, W.mg (fnN (stAt p i)) = some (.ref f) → Fn W k (.ref f) ds d
abbrev fenv (p : Program) (i : Nat) (L f : Addr) (cd : Value) : Env := envOfC (fnN (stAt p i)) (fnS (stAt p i)) L f cd

theorem FnC.le {W : Wd} {p : Program} {i k k' : Nat} {ds : List Dt} {d : Dt} (h : FnC W p i k ds d) (hk : k ≤ k') : FnC W p i k' ds d := fun f hf A O s vs hA I ra => h f hf A O s vs (hA.le hk) I ra
theorem ev_callN {W : Wd} {A : Around} {env : Env} {D : List (Str × Dt)} {p : Program} {i : Nat} {x : Str} {p₁ pos : Pos} {e : Expr} {es : List Expr} {ds : List Dt} {d : Dt} {k : Nat} (G : W.Ok) (hA : AOk A k) (H : HasFn W p i)
    (hx : fnN (stAt p i) = x) (hk : env.kindOf x = some .globalImplicit) (hb : (x == ("__debug__" : Str)) = false) (ha : Evs W A env D (e :: es) ds) (hf : FnC W p i k ds d)
    (he : starEach (e :: es) env = (false, eval e env) :: starEach es env) : Ev W A env D (.Call (.Name x p₁) (e :: es) [] pos) d := by
  obtain ⟨f, h1, h2⟩ := H
  subst hx
  exact ev_callG G hA hk hb h1 h2 ha (hf f h1) he

theorem fn_def {W : Wd} {p : Program} {i : Nat} {xs : List Str} {ds : List Dt} {d : Dt} {k : Nat} (G : W.Ok) (H : HasFn W p i)
    (hbind : ∀ pm cd doc (vs : List Value), vs.length = xs.length → bindArgs (docDef (fnN (stAt p i)) (fnP (stAt p i)) (fnB (stAt p i)) (fnS (stAt p i)) pm cd doc) ⟨vs, []⟩ = pure (xs.zip vs))
    (hlen : ds.length = xs.length) (hnd : xs.Nodup)
    (hkind : (xs.all fun x => (fnS (stAt p i)).names.lookup x == some .local || (fnS (stAt p i)).names.lookup x == some .cell) = true) (hfr : (fnS (stAt p i)).names.all (fun y => y.2 != .free) = true)
    (hb : ∀ A b L f cd s, AOk A k → St W b (fenv p i L f cd) (xs.zip ds) [] s → CF W b (fenv p i L f cd) → BodyOk W A b (fenv p i L f cd) (fnB (stAt p i)) d s)
    (hco : (fnS (stAt p i)).isCoroutine = false) (hgen : (fnS (stAt p i)).isGenerator = false) (hk : (fnS (stAt p i)).kind = .function) : FnC W p i (k + 1) ds d := fun f hf => by
  obtain ⟨f', h1, cd, h2⟩ := H
  rw [hf] at h1; cases h1
  refine fnC_intro G h2 hbind hlen hnd (fun x hx => ?_) (fun x q => ?_) (fun n x q => cellsFrom_some _ n [] (.inl q)) (fun A b L s hA S C => hb A b L f cd s hA S C) hco hgen hk
  · have := List.all_eq_true.mp hkind x hx
    simpa using this
  · have := List.all_eq_true.mp hfr (x, .free) (mem_of_lookup q)
    simp at this
end Mine
end

section
-- L10
open PySem PySem.W PySem.Calls PyProof.Rows
set_option maxRecDepth 100000

namespace Mine
open Builtin.Int (intBits)

mutual
/-- A datum of the base. -/
theorem Rep.ofBase {W : Wd} {O : List Addr} {h : Heap} (I : IO W O h) : ∀ {d : Dt} {v : Value}, Rep W.g [] d v → Rep h O d v
  | .none, _, x | .bool _, _, x | .int _, _, x | .str _, _, x | .bytes _, _, x | .raw _, _, x => by simpa only [Rep] using x
  | .tup _, _, x => by
    simp only [Rep] at x ⊢
    obtain ⟨a, vs, e, _, ⟨o, ho, r⟩, hl⟩ := x
    exact ⟨a, vs, e, fun q => (by rw [(I.ook a q).1] at ho; cases ho), ⟨o, I.inv.base _ _ ho, r⟩, RepL.ofBase I hl⟩
  | .lst _, _, x => by
    simp only [Rep] at x ⊢
    obtain ⟨a, vs, e, _, ⟨n, ho⟩, hl⟩ := x
    exact ⟨a, vs, e, fun q => (by rw [(I.ook a q).1] at ho; cases ho), ⟨n, I.inv.base _ _ ho⟩, RepL.ofBase I hl⟩
  | .lsw _, _, x => by
    simp only [Rep] at x ⊢
    obtain ⟨a, vs, e, _, ⟨o, ho, r⟩, hl⟩ := x
    exact ⟨a, vs, e, fun q => (by rw [(I.ook a q).1] at ho; cases ho), ⟨o, I.inv.base _ _ ho, r⟩, RepL.ofBase I hl⟩
theorem RepL.ofBase {W : Wd} {O : List Addr} {h : Heap} (I : IO W O h) : ∀ {ds : List Dt} {vs : List Value}, RepL W.g [] ds vs → RepL h O ds vs
  | [], _, x => by simpa only [RepL] using x
  | _ :: _, _, x => by
    simp only [RepL] at x ⊢
    obtain ⟨v, r, e, x1, x2⟩ := x
    exact ⟨v, r, e, Rep.ofBase I x1, RepL.ofBase I x2⟩
end

mutual
theorem Rep.hide {H : List Addr} {h : Heap} : ∀ {d : Dt} {v : Value}, Rep h H d v → Rep (hideAll h H) [] d v
  | .none, _, x | .bool _, _, x | .int _, _, x | .str _, _, x | .bytes _, _, x | .raw _, _, x => by simpa only [Rep] using x
  | .tup _, _, x => by
    simp only [Rep] at x ⊢
    obtain ⟨a, vs, e, ha, ⟨o, ho, r⟩, hl⟩ := x
    exact ⟨a, vs, e, List.not_mem_nil, ⟨o, hideAll_get _ ho ha, r⟩, RepL.hide hl⟩
  | .lst _, _, x => by
    simp only [Rep] at x ⊢
    obtain ⟨a, vs, e, ha, ⟨n, ho⟩, hl⟩ := x
    exact ⟨a, vs, e, List.not_mem_nil, ⟨n, hideAll_get _ ho ha⟩, RepL.hide hl⟩
  | .lsw _, _, x => by
    simp only [Rep] at x ⊢
    obtain ⟨a, vs, e, ha, ⟨o, ho, r⟩, hl⟩ := x
    exact ⟨a, vs, e, List.not_mem_nil, ⟨o, hideAll_get _ ho ha, r⟩, RepL.hide hl⟩
theorem RepL.hide {H : List Addr} {h : Heap} : ∀ {ds : List Dt} {vs : List Value}, RepL h H ds vs → RepL (hideAll h H) [] ds vs
  | [], _, x => by simpa only [RepL] using x
  | _ :: _, _, x => by
    simp only [RepL] at x ⊢
    obtain ⟨v, r, e, x1, x2⟩ := x
    exact ⟨v, r, e, Rep.hide x1, RepL.hide x2⟩
end

mutual
theorem Rep.wider {O H : List Addr} {h : Heap} (k : ∀ a ∈ H, ∀ o xs n, h.get? a = some o → o.data ≠ .seq xs n) : ∀ {d : Dt} {v : Value}, Rep h O d v → Rep h (H ++ O) d v
  | .none, _, x | .bool _, _, x | .int _, _, x | .str _, _, x | .bytes _, _, x | .raw _, _, x => by simpa only [Rep] using x
  | .tup _, _, x => by
    simp only [Rep] at x ⊢
    obtain ⟨a, vs, e, ha, ⟨o, ho, hc, n, hd⟩, hl⟩ := x
    exact ⟨a, vs, e, fun q => (List.mem_append.mp q).elim (fun q => k a q o vs n ho hd) ha, ⟨o, ho, hc, n, hd⟩, RepL.wider k hl⟩
  | .lst _, _, x => by
    simp only [Rep] at x ⊢
    obtain ⟨a, vs, e, ha, ⟨n, ho⟩, hl⟩ := x
    exact ⟨a, vs, e, fun q => (List.mem_append.mp q).elim (fun q => k a q _ vs n ho rfl) ha, ⟨n, ho⟩, RepL.wider k hl⟩
  | .lsw _, _, x => by
    simp only [Rep] at x ⊢
    obtain ⟨a, vs, e, ha, ⟨o, ho, hc, n, hd⟩, hl⟩ := x
    exact ⟨a, vs, e, fun q => (List.mem_append.mp q).elim (fun q => k a q o vs n ho hd) ha, ⟨o, ho, hc, n, hd⟩, RepL.wider k hl⟩
theorem RepL.wider {O H : List Addr} {h : Heap} (k : ∀ a ∈ H, ∀ o xs n, h.get? a = some o → o.data ≠ .seq xs n) : ∀ {ds : List Dt} {vs : List Value}, RepL h O ds vs → RepL h (H ++ O) ds vs
  | [], _, x => by simpa only [RepL] using x
  | _ :: _, _, x => by
    simp only [RepL] at x ⊢
    obtain ⟨v, r, e, x1, x2⟩ := x
    exact ⟨v, r, e, Rep.wider k x1, RepL.wider k x2⟩
end

/-- The world in which all that stands now, but the frame's locals, its lists and the tables, is the base. -/
def lift (W : Wd) (b : Base) (env : Env) (OL : List (Addr × List Dt)) (s : Shared) : Wd := { W with g := hideAll s.heap ((env.locals :: W.Ps) ++ (ad OL ++ b.O)) }

section
variable {W : Wd} {A : Around} {b : Base} {env : Env} {D : List (Str × Dt)} {OL : List (Addr × List Dt)} {s : Shared} {E : Value → Shared → Prop}

theorem lift_get (S : St W b env D OL s) {a : Addr} {o : Obj} (e : s.heap.get? a = some o) (h1 : a ≠ env.locals) (h2 : a ∉ W.Ps) (h3 : ∀ xs n, o.data ≠ .seq xs n) : (lift W b env OL s).g.get? a = some o :=
  hideAll_get _ e fun q => by
    rcases List.mem_append.mp q with q | q
    · rcases List.mem_cons.mp q with q | q
      · exact h1 q
      · exact h2 q
    · obtain ⟨_, _, o', xs, n, e', hd⟩ := S.ook a q
      rw [e] at e'; cases e'; exact h3 _ _ hd
theorem lift_base (S : St W b env D OL s) {a : Addr} {o : Obj} (G : W.Ok) (e : W.g.get? a = some o) : (lift W b env OL s).g.get? a = some o :=
  hideAll_get _ (S.inv.base _ _ e) fun q => by
    rcases List.mem_append.mp q with q | q
    · rcases List.mem_cons.mp q with q | q
      · rw [q, S.lfresh.2] at e; cases e
      · obtain ⟨t, ht, rfl⟩ := List.mem_map.mp q
        rw [G.hid t ht] at e; cases e
    · rw [(S.ook a q).1] at e; cases e
theorem lift_ok (S : St W b env D OL s) (G : W.Ok) : (lift W b env OL s).Ok where
  ng := G.ng.keeps fun _ _ e => lift_base S G e
  nb := G.nb.keeps fun _ _ e => lift_base S G e
  nolimit := G.nolimit.keeps fun _ _ e => lift_base S G e
  nodigits := let ⟨mc, h1, h2⟩ := G.nodigits; ⟨mc, h1.keeps fun _ _ e => lift_base S G e, h2⟩
  builtins := G.builtins
  bmain := let ⟨bm, ob, h1, h2, h3, r⟩ := G.bmain; ⟨bm, ob, h1, h2, lift_base S G h3, r⟩
  code := fun t ht => (G.code t ht).keeps fun _ _ e => lift_base S G e
  hid := fun t ht => hideAll_none _ (List.mem_append_left _ (List.mem_cons_of_mem _ (List.mem_map_of_mem ht)))
  nd := G.nd
theorem lift_inv (S : St W b env D OL s) : Inv (lift W b env OL s) s.heap := ⟨fun _ _ e => of_hideAll _ e, S.inv.tab⟩
theorem lift_st (S : St W b env D OL s) : St (lift W b env OL s) b env D OL s :=
  { S with
    inv := lift_inv S
    ook := fun a ha => ⟨hideAll_none _ (List.mem_append_right _ ha), (S.ook a ha).2⟩
    lfresh := ⟨S.lfresh.1, hideAll_none _ (List.mem_append_left _ List.mem_cons_self)⟩ }
theorem lift_down (S : St W b env D OL s) (G : W.Ok) {h : Heap} (I : Inv (lift W b env OL s) h) : Inv W h := ⟨fun _ _ e => I.base _ _ (lift_base S G e), I.tab⟩
theorem lift_left (S : St W b env D OL s) (G : W.Ok) {s' : Shared} (l : Left (lift W b env OL s) b s') : Left W b s' := ⟨lift_down S G l.inv, l.ext, l.same⟩
theorem lift_rep (S : St W b env D OL s) {d : Dt} {v : Value} (r : Rep s.heap (ad OL ++ b.O) d v) : Rep (lift W b env OL s).g [] d v := by
  refine Rep.hide (Rep.wider (fun a ha o xs n e hd => ?_) r)
  rcases List.mem_cons.mp ha with q | q
  · obtain ⟨m, ⟨o', es, ep, e', hd', _⟩, _⟩ := S.loc
    rw [q, e'] at e; cases e
    rw [hd'] at hd; cases hd
  · obtain ⟨ps, e'⟩ := S.inv.notP q
    rw [e'] at e; cases e; cases hd
theorem lift_cell (S : St W b env D OL s) {x : Str} {d : Dt} (hk : env.kindOf x = some .cell ∨ env.kindOf x = some .free) (hd : D.lookup x = some d) : ∃ c v, env.cells.lookup x = some c ∧ (lift W b env OL s).g.IsCell c (some v) ∧ Rep (lift W b env OL s).g [] d v := by
  obtain ⟨c, v, h1, ⟨o, e, hc⟩, h3⟩ := S.cel x d hk hd
  refine ⟨c, v, h1, ⟨o, lift_get S e (fun q => ?_) (S.inv.notP_of e fun vs q => by rw [hc] at q; cases q) (fun xs n q => by rw [hc] at q; cases q), hc⟩, lift_rep S h3⟩
  obtain ⟨m, ⟨o', es, ep, e', hd', _⟩, _⟩ := S.loc
  rw [q, e'] at e; cases e
  rw [hd'] at hc; cases hc
theorem lift_fn (S : St W b env D OL s) {f c' : Addr} {name qual : Str} {params : Arguments} {body : List Stmt} {scope : Scope} {cl : List (Str × Addr)} {doc pm ctv : Value} (e : b.hb.get? f = some (fnMade name qual params body scope cl doc pm c' ctv)) (hf : f ∉ W.Ps) (hr : b.hb.CodeRec (.ref c') qual) (hc : c' ∉ W.Ps) :
    (lift W b env OL s).g.get? f = some (fnMade name qual params body scope cl doc pm c' ctv) ∧ (lift W b env OL s).g.CodeRec (.ref c') qual := by
  obtain ⟨m, ⟨o', es, ep, e', hd', _⟩, _⟩ := S.loc
  refine ⟨lift_get S (S.ext.at hf e (by nofun)) (fun q => ?_) hf (fun xs n q => by cases q), ?_⟩
  · have := S.ext.at hf e (by nofun)
    rw [q, e'] at this; cases this; cases hd'
  · obtain ⟨c₂, o, vs, t, e1, e2, e3, e4⟩ := hr
    cases e1
    refine ⟨c', o, vs, t, rfl, lift_get S (S.ext.at hc e2 (by rw [e3]; nofun)) (fun q => ?_) hc (fun xs n q => by rw [e3] at q; cases q), e3, e4⟩
    have := S.ext.at hc e2 (by rw [e3]; nofun)
    rw [q, e'] at this; cases this
    rw [hd'] at e3; cases e3

/-- A call of a def that a variable holds. -/
theorem ev_callV {x : Str} {p pos : Pos} {e : Expr} {es : List Expr} {ds : List Dt} {d : Dt} {f : Addr} {o : Obj} {fd : FuncData} {k : Nat} (hA : AOk A k)
    (hx : Ev W A env D (.Name x p) (.raw (.ref f))) (ho : W.g.get? f = some o) (hd : o.data = .func fd) (ha : Evs W A env D (e :: es) ds) (hf : Fn W k (.ref f) ds d)
    (he : starEach (e :: es) env = (false, eval e env) :: starEach es env) : Ev W A env D (.Call (.Name x p) (e :: es) [] pos) d := fun b OL s S => by
  refine Call_ ((hx b OL s S).use fun v s₁ x₁ r₁ => ?_)
  simp only [Rep] at r₁
  subst r₁
  refine callWith_def hd (wpAny_mono (ha pos b OL s₁ (S.stp x₁)) (fun vs s₂ y => ?_) fun _ _ y => y.elim) he
  exact ⟨y.1.inv.base _ _ ho, Yl.after (x₁.trans y.1) (hf A _ s₂ vs hA ((S.stp x₁).stp y.1).io y.2)⟩

/-- The contract of a def that was made within a def and stands in the base. -/
theorem fnX_intro {f c' : Addr} {name qual : Str} {params : Arguments} {body : List Stmt} {scope : Scope} {cl : List (Str × Addr)} {doc pm ctv : Value} {xs : List Str} {ds : List Dt} {d : Dt} {DC : List (Str × Dt)} {k : Nat} (G : W.Ok)
    (hf : W.g.get? f = some (fnMade name qual params body scope cl doc pm c' ctv)) (hc : W.g.CodeRec (.ref c') qual)
    (hDC : ∀ x d, DC.lookup x = some d → ∃ c v, cl.lookup x = some c ∧ W.g.IsCell c (some v) ∧ Rep W.g [] d v)
    (hdk : ∀ p ∈ DC, scope.names.lookup p.1 = some .free) (hall : ∀ x c, cl.lookup x = some c → ∃ v, W.g.IsCell c v) (hap : cl.Pairwise fun x y => x.2 ≠ y.2)
    (hbind : ∀ (vs : List Value), vs.length = xs.length → bindArgs (fnX name qual params body scope cl .none .none doc pm none (.ref c') ctv) ⟨vs, []⟩ = pure (xs.zip vs))
    (hlen : ds.length = xs.length) (hnd : xs.Nodup)
    (hkind : ∀ x ∈ xs, scope.names.lookup x = some .local) (hcell : ∀ x ∈ scope.names, x.2 ≠ .cell)
    (hb : ∀ A b L s, AOk A k → St W b (envX qual scope L f (.ref c') cl) (xs.zip ds ++ DC) [] s → BodyOk W A b (envX qual scope L f (.ref c') cl) body d s)
    (hco : scope.isCoroutine = false) (hgen : scope.isGenerator = false) (hk : scope.kind = .function) : Fn W (k + 1) (.ref f) ds d := fun A O s vs hA I ra => by
  refine wpAny_call (enterX (OL := []) (hb := s.heap) G (I.inv.base _ _ hf) (hc.keeps I.inv.base) hA I (.refl _ _) (fun p hp => (nomatch hp)) (fun p hp => (nomatch hp)) (fun p hp => (nomatch hp)) ra
    (fun x d q => let ⟨c, v, h1, h2, h3⟩ := hDC x d q; ⟨c, v, h1, h2.keeps I.inv.base, h3.ofBase I⟩) hdk (fun x c q => let ⟨v, h⟩ := hall x c q; ⟨v, h.keeps I.inv.base⟩) hap hbind hlen hnd hkind hcell (fun L s' hA' S => ?_) hco hgen hk)
  refine wpAny_mono (hb _ _ L s' hA' S) (fun fl s'' y => ?_) fun _ _ y => y
  obtain ⟨v, rfl, l, r⟩ := y
  exact ⟨⟨l.inv, l.ext, l.same⟩, r⟩

theorem bc_len_list {ds : List Dt} (h : ds.length ≤ 1000000) : Bc W A (.builtin "len") [.lst ds] (.int ds.length) := fun O s vs I r => by
  simp only [RepL, Rep] at r
  obtain ⟨v, _, rfl, ⟨l, us, rfl, _, hl, hr⟩, rfl⟩ := r
  have e : us.size = ds.length := by rw [← Array.length_toList]; exact hr.length
  unfold Yl
  with_reducible refine PyProof.Rows.len_list hl.isList ?_ ?_
  · omega
  · rw [e]
    exact ⟨.tok I.inv, by simp only [Rep]; exact ⟨_, rfl⟩⟩
theorem tru_list {ds : List Dt} (h : ds.length ≤ 1000000) : Tru W A (.lst ds) (!ds.isEmpty) := fun O s v I r => by
  simp only [Rep] at r
  obtain ⟨l, us, rfl, _, hl, hr⟩ := r
  have e : us.size = ds.length := by rw [← Array.length_toList]; exact hr.length
  with_reducible refine wpAny_truthy_list hl.isList ?_ ?_
  · omega
  · refine ⟨?_, .tok I.inv⟩
    congr 1
    cases ds with
    | nil => simpa using e
    | cons d ds =>
      have : us.size ≠ 0 := by rw [e]; simp
      simp only [List.isEmpty_cons]
      simpa using this
end
end Mine
end

section
-- L11
open PySem PySem.W PySem.Calls PyProof.Rows
set_option maxRecDepth 100000

namespace Mine
open Builtin.Int (intBits)

def stPos : Stmt → Pos
  | .FunctionDef _ _ _ _ _ _ _ _ _ p => p
  | _ => ⟨0, 0, 0, 0⟩
def inDef (p : Program) (i j : Nat) : Stmt := (fnB (stAt p i)).getD j (.Pass ⟨0, 0, 0, 0⟩)

/-- As HasFn, for a def that makes a def (at place `j` of its body): its code object is the table's. -/
structure HasFnT (W : Wd) (p : Program) (i j : Nat) (t : Tb) : Prop where
  mem : t ∈ W.tabs
  pos : t.pos = stPos (inDef p i j)
  qual : t.qual = fnN (stAt p i) ++ ".<locals>." ++ fnN (inDef p i j)
  fn : ∃ f, W.mg (fnN (stAt p i)) = some (.ref f) ∧ FnAtC W f (fnN (stAt p i)) (fnP (stAt p i)) (fnB (stAt p i)) (fnS (stAt p i)) (.ref t.c)
theorem HasFnT.has {W : Wd} {p : Program} {i j : Nat} {t : Tb} (h : HasFnT W p i j t) : HasFn W p i := let ⟨f, h1, h2⟩ := h.fn; ⟨f, h1, _, h2⟩

theorem cells_cn {names : List (Str × NameKind)} (hnd : ((cellsFrom 0 names []).map (·.1)).Nodup) {n : Nat} : ∀ x c, (x, c) ∈ cellsFrom n names [] → (cellsFrom n names []).lookup x = some c :=
  fun _ _ hm => lookup_of_mem_nodup (cellsFrom_names names 0 n [] [] rfl ▸ hnd) hm

theorem fn_defT {W : Wd} {p : Program} {i j : Nat} {t : Tb} {xs : List Str} {ds : List Dt} {d : Dt} {k : Nat} (G : W.Ok) (H : HasFnT W p i j t)
    (hbind : ∀ pm cd doc (vs : List Value), vs.length = xs.length → bindArgs (docDef (fnN (stAt p i)) (fnP (stAt p i)) (fnB (stAt p i)) (fnS (stAt p i)) pm cd doc) ⟨vs, []⟩ = pure (xs.zip vs))
    (hlen : ds.length = xs.length) (hnd : xs.Nodup)
    (hkind : (xs.all fun x => (fnS (stAt p i)).names.lookup x == some .local || (fnS (stAt p i)).names.lookup x == some .cell) = true) (hfr : (fnS (stAt p i)).names.all (fun y => y.2 != .free) = true)
    (hb : ∀ A b L f s, AOk A k → St W b (fenv p i L f (.ref t.c)) (xs.zip ds) [] s → CF W b (fenv p i L f (.ref t.c)) → BodyOk W A b (fenv p i L f (.ref t.c)) (fnB (stAt p i)) d s)
    (hco : (fnS (stAt p i)).isCoroutine = false) (hgen : (fnS (stAt p i)).isGenerator = false) (hk : (fnS (stAt p i)).kind = .function) : FnC W p i (k + 1) ds d := fun f hf => by
  obtain ⟨f', h1, h2⟩ := H.fn
  rw [hf] at h1; cases h1
  refine fnC_intro G h2 hbind hlen hnd (fun x hx => ?_) (fun x q => ?_) (fun n x q => cellsFrom_some _ n [] (.inl q)) (fun A b L s hA S C => hb A b L f s hA S C) hco hgen hk
  · have := List.all_eq_true.mp hkind x hx
    simpa using this
  · have := List.all_eq_true.mp hfr (x, .free) (mem_of_lookup q)
    simp at this

theorem intMulOk_small {a b : Int} (ha : 0 ≤ a) (ha' : a < 2 ^ 40) (hb : 0 ≤ b) (hb' : b < 2 ^ 40) : IntMulOk a b :=
  IntMulOk.of_le (m := 40) (n := 40) (intBits_le_of_lt ha ha') (intBits_le_of_lt hb hb') (by decide)
end Mine
end

section
-- L12
open PySem PySem.W PySem.Calls PyProof.Rows
set_option maxRecDepth 100000

namespace Mine
open Builtin.Int (intBits)

section
variable {W : Wd} {A : Around} {b : Base} {env : Env} {D : List (Str × Dt)} {OL : List (Addr × List Dt)} {s : Shared} {E : Value → Shared → Prop}

/-- What stands stays, but for the list at `l`. -/
def ExtL (W : Wd) (l : Addr) (h h' : Heap) : Prop := ∀ a o, a ∉ W.Ps → a ≠ l → h.get? a = some o → ∃ sl, h'.get? a = some { o with slots := sl } ∧ ((∀ es n, o.data ≠ .dict es n) → sl = o.slots)
theorem ExtL.at {W : Wd} {l : Addr} {h h' : Heap} (x : ExtL W l h h') {a : Addr} {o : Obj} (ha : a ∉ W.Ps) (hl : a ≠ l) (e : h.get? a = some o) (hd : ∀ es n, o.data ≠ .dict es n) : h'.get? a = some o := by
  obtain ⟨sl, e1, k⟩ := x a o ha hl e
  rw [e1, k hd]
/-- The frame's own list is written, and tables may grow. -/
theorem St.updX {l : Addr} {ds ds' : List Dt} {us : Array Value} {s' : Shared} (S : St W b env D [(l, ds)] s) (I : Inv W s'.heap) (hs : ExtL W l s.heap s'.heap) (hsm : Sm s s') (hp : s'.heap.PlainList l us) (hr : RepL s'.heap (l :: b.O) ds' us.toList) : St W b env D [(l, ds')] s' := by
  obtain ⟨us₀, ⟨n, el⟩, _⟩ := S.own _ List.mem_cons_self
  have hl := S.ook l (by simp)
  have sk : SeqKeep (l :: b.O) s.heap s'.heap := fun a o xs n' ha hd e => hs.at (S.inv.notP_of e fun vs q => by rw [hd] at q; cases q) (fun q => ha (q ▸ List.mem_cons_self)) e (by rw [hd]; nofun)
  have ne : ∀ {a : Addr} {o : Obj}, s.heap.get? a = some o → (∀ xs n, o.data ≠ .seq xs n) → a ≠ l := fun e q e' => by
    rw [e', el] at e; cases e; exact q _ _ rfl
  have nP : ∀ {a : Addr} {o : Obj}, s.heap.get? a = some o → (∀ vs, o.data ≠ .fields vs) → a ∉ W.Ps := fun e q => S.inv.notP_of e q
  refine { inv := I
           ext := fun a o ha e => by
             obtain ⟨sl, e1, k1⟩ := S.ext a o ha e
             obtain ⟨sl', e2, k2⟩ := hs a _ ha (fun q => by rw [q, S.ofresh _ List.mem_cons_self] at e; cases e) e1
             exact ⟨sl', e2, fun hd => (k2 hd).trans (k1 hd)⟩
           same := S.same.trans hsm
           ook := fun a ha => ?_
           fk := S.fk, eg := S.eg, eb := S.eb
           loc := ?_
           cel := fun y d h1 h2 => ?_
           all := fun y c h1 => ?_
           own := fun p hp' => ?_
           ofresh := fun p hp' => ?_
           odisj := fun p hp' => ?_
           apart := S.apart, lfresh := S.lfresh }
  · obtain ⟨h1, h2, o, xs, n, h3, h4⟩ := S.ook a ha
    refine ⟨h1, h2, ?_⟩
    by_cases q : a = l
    · obtain ⟨n', e⟩ := hp; exact ⟨_, _, _, q ▸ e, rfl⟩
    · exact ⟨o, xs, n, hs.at h2 q h3 (by rw [h4]; nofun), h4⟩
  · obtain ⟨m, ⟨o, es, ep, e, hd, r⟩, k⟩ := S.loc
    obtain ⟨sl, e1, _⟩ := hs _ _ (nP e fun _ q => by rw [hd] at q; cases q) (ne e fun _ _ q => by rw [hd] at q; cases q) e
    refine ⟨m, ⟨_, es, ep, e1, hd, r⟩, fun y d h1 h2 => ?_⟩
    obtain ⟨v, h3, h4⟩ := k y d h1 h2
    exact ⟨v, h3, h4.mono sk⟩
  · obtain ⟨c, v, h3, ⟨o, e, hd⟩, h5⟩ := S.cel y d h1 h2
    exact ⟨c, v, h3, ⟨o, hs.at (nP e fun _ q => by rw [hd] at q; cases q) (ne e fun _ _ q => by rw [hd] at q; cases q) e (by rw [hd]; nofun), hd⟩, h5.mono sk⟩
  · obtain ⟨v, o, e, hd⟩ := S.all y c h1
    exact ⟨v, o, hs.at (nP e fun _ q => by rw [hd] at q; cases q) (ne e fun _ _ q => by rw [hd] at q; cases q) e (by rw [hd]; nofun), hd⟩
  · rcases List.mem_cons.mp hp' with rfl | hp'
    · exact ⟨us, hp, hr⟩
    · exact nomatch hp'
  · rcases List.mem_cons.mp hp' with rfl | hp'
    · exact S.ofresh (l, ds) List.mem_cons_self
    · exact nomatch hp'
  · rcases List.mem_cons.mp hp' with rfl | hp'
    · exact S.odisj (l, ds) List.mem_cons_self
    · exact nomatch hp'

/-- A call that writes the list at `l` and gives None. -/
def MFn (W : Wd) (k : Nat) (f : Value) (l : Addr) (args ds ds' : List Dt) : Prop :=
  ∀ A O s vs us, AOk A k → IO W (l :: O) s.heap → l ∉ O → s.heap.PlainList l us → RepL s.heap (l :: O) ds us.toList → RepL s.heap (l :: O) args vs →
    wpAny W.M A (call f vs) (fun v s' => v = .none ∧ Inv W s'.heap ∧ ExtL W l s.heap s'.heap ∧ Sm s s' ∧ ∃ us', s'.heap.PlainList l us' ∧ RepL s'.heap (l :: O) ds' us'.toList) (fun _ _ => False) s

/-- Expressions under one frame and its own lists. -/
def EvO (W : Wd) (A : Around) (b : Base) (env : Env) (D : List (Str × Dt)) (OL : List (Addr × List Dt)) (e : Expr) (d : Dt) : Prop := ∀ s, St W b env D OL s → Yl W A (ad OL ++ b.O) (eval e env) d s
def EvsO (W : Wd) (A : Around) (b : Base) (env : Env) (D : List (Str × Dt)) (OL : List (Addr × List Dt)) (es : List Expr) (ds : List Dt) : Prop :=
  ∀ (pos : Pos) s, St W b env D OL s → wpAny W.M A (spliced (backTo pos (starEach es env))) (fun vs s' => Stp W s s' ∧ RepL s'.heap (ad OL ++ b.O) ds vs) (fun _ _ => False) s
theorem Ev.o {e : Expr} {d : Dt} (h : Ev W A env D e d) : EvO W A b env D OL e d := fun s S => h b OL s S
theorem Evs.o {es : List Expr} {ds : List Dt} (h : Evs W A env D es ds) : EvsO W A b env D OL es ds := fun pos s S => h pos b OL s S
theorem evsO_cons {e : Expr} {es : List Expr} {d : Dt} {ds : List Dt} (h1 : EvO W A b env D OL e d) (h2 : EvsO W A b env D OL es ds) (he : starEach (e :: es) env = (false, eval e env) :: starEach es env) : EvsO W A b env D OL (e :: es) (d :: ds) := fun pos s S =>
  args_cons ((h1 s S).use fun v s₁ x₁ r₁ => wpAny_mono (h2 pos s₁ (S.stp x₁)) (fun vs s₂ y => ⟨x₁.trans y.1, by simp only [RepL]; exact ⟨v, vs, rfl, r₁.ext x₁.inv y.1.ext, y.2⟩⟩) fun _ _ y => y.elim) he
/-- `len(x)` of a list of the frame's own. -/
theorem evO_len {x f : Str} {p p' pos : Pos} {l : Addr} {ds : List Dt} (G : W.Ok) (hk : env.kindOf f = some .globalImplicit) (hb : (f == ("__debug__" : Str)) = false) (hm : W.mg f = none) (hv : bootBuiltins f = some (.builtin "len")) (hn : f ≠ "__name__")
    (hx : Ev W A env D (.Name x p) (.raw (.ref l))) (hsz : ds.length ≤ 1000000) (he : starEach [.Name x p] env = (false, eval (.Name x p) env) :: starEach [] env) : EvO W A b env D [(l, ds)] (.Call (.Name f p') [.Name x p] [] pos) (.int ds.length) := fun s S => by
  refine Call_ ((ev_boot G hk hm hv hn hb b _ s S).use fun v s₁ x₁ r₁ => ?_)
  simp only [Rep] at r₁
  subst r₁
  refine PyProof.Rows.callWith_builtin1 (wpAny_mono (evs_cons hx evs_nil he pos b _ s₁ (S.stp x₁)) (fun vs s₂ y => ?_) fun _ _ y => y.elim) he rfl
  have y2 := y.2
  simp only [RepL, Rep] at y2
  obtain ⟨v, _, rfl, rfl, rfl⟩ := y2
  have S₂ := (S.stp x₁).stp y.1
  obtain ⟨us, hp, hr⟩ := S₂.own _ List.mem_cons_self
  have e : us.size = ds.length := by rw [← Array.length_toList]; exact hr.length
  with_reducible refine PyProof.Rows.len_list hp.isList ?_ ?_
  · omega
  · rw [e]
    exact ⟨(x₁.trans y.1).trans (.tok S₂.inv), by simp only [Rep]; exact ⟨_, rfl⟩⟩

theorem x_mcall {x : Str} {p pos epos : Pos} {e : Expr} {es : List Expr} {args ds ds' : List Dt} {l f : Addr} {o : Obj} {fd : FuncData} {k : Nat} {rest : List Stmt} {Q : Flow → Shared → Prop} (S : St W b env D [(l, ds)] s) (hA : AOk A k)
    (hx : Ev W A env D (.Name x p) (.raw (.ref f))) (ho : W.g.get? f = some o) (hd : o.data = .func fd) (ha : EvsO W A b env D [(l, ds)] (e :: es) args) (hf : MFn W k (.ref f) l args ds ds')
    (he : starEach (e :: es) env = (false, eval e env) :: starEach es env) (hi : interactive env = false) (hs : swapsWith (.Call (.Name x p) (e :: es) [] pos) none epos.line env = pure false)
    (h : ∀ s', St W b env D [(l, ds')] s' → wpAny W.M A (execs rest env) Q E s') : wpAny W.M A (execs (.Expr (.Call (.Name x p) (e :: es) [] pos) epos :: rest) env) Q E s := by
  refine wpAny_execs_cons (wpAny_Expr (Call_ ((hx b _ s S).use fun v s₁ x₁ r₁ => ?_)) hi hs)
  simp only [Rep] at r₁
  subst r₁
  refine callWith_def hd (wpAny_mono (ha pos s₁ (S.stp x₁)) (fun vs s₂ y => ?_) fun _ _ y => y.elim) he
  have S₂ := (S.stp x₁).stp y.1
  obtain ⟨us, hp, hr⟩ := S₂.own _ List.mem_cons_self
  refine ⟨y.1.inv.base _ _ ho, wpAny_mono (hf A b.O s₂ vs us hA S₂.io (S₂.odisj _ List.mem_cons_self) hp hr y.2) (fun v s₃ z => ?_) fun _ _ z => z.elim⟩
  obtain ⟨rfl, I, X, sm, us', hp', hr'⟩ := z
  exact h s₃ (S₂.updX I X sm hp' hr')

theorem RepL.set {h : Heap} {O : List Addr} {d : Dt} {v : Value} (r : Rep h O d v) : ∀ {ds : List Dt} {vs : List Value} {i : Nat}, RepL h O ds vs → RepL h O (ds.set i d) (vs.set i v)
  | [], _, _, x => by simp only [RepL] at x; subst x; simp only [List.set_nil, RepL]
  | _ :: _, _, 0, x => by
    simp only [RepL] at x
    obtain ⟨v', r', rfl, x1, x2⟩ := x
    simp only [List.set_cons_zero, RepL]
    exact ⟨v, r', rfl, r, x2⟩
  | _ :: _, _, i + 1, x => by
    simp only [RepL] at x
    obtain ⟨v', r', rfl, x1, x2⟩ := x
    simp only [List.set_cons_succ, RepL]
    exact ⟨v', _, rfl, x1, RepL.set r x2⟩

theorem plain_update {h : Heap} {l : Addr} {us : Array Value} {f : Array Value → Array Value} (hp : h.PlainList l us) : (h.update l (Obj.mapSeq f)).PlainList l (f us) := by
  obtain ⟨n, e⟩ := hp
  exact ⟨_, Heap.get?_update_self _ e rfl⟩

/-- `x[i] = e` on a list of the frame's own. -/
theorem x_setitem {x e i : Expr} {p₁ pos : Pos} {l : Addr} {ds : List Dt} {d : Dt} {k : Int} {rest : List Stmt} {Q : Flow → Shared → Prop} (S : St W b env D [(l, ds)] s) (he : Ev W A env D e d) (hx : Ev W A env D x (.raw (.ref l))) (hi : Ev W A env D i (.int k)) (h0 : 0 ≤ k) (h1 : k < ds.length) (h2 : ds.length < 2 ^ 60)
    (hs : swapsWith e (some (.Subscript x i p₁)) pos.line env = pure false)
    (h : ∀ s', St W b env D [(l, ds.set k.toNat d)] s' → wpAny W.M A (execs rest env) Q E s') : wpAny W.M A (execs (.Assign [.Subscript x i p₁] e pos :: rest) env) Q E s := by
  refine wpAny_execs_cons (wpAny_Assign_Subscript ((he b _ s S).use fun v s₁ x₁ r₁ => (hx b _ s₁ (S.stp x₁)).use fun v₂ s₂ x₂ r₂ => (hi b _ s₂ ((S.stp x₁).stp x₂)).use fun v₃ s₃ x₃ r₃ => ?_) hs)
  simp only [Rep] at r₂ r₃
  subst r₂
  obtain ⟨u, rfl⟩ := r₃
  have S₃ := ((S.stp x₁).stp x₂).stp x₃
  have rv := (r₁.ext x₁.inv x₂.ext).ext x₂.inv x₃.ext
  obtain ⟨us, hp, hr⟩ := S₃.own _ List.mem_cons_self
  have hsz : us.size = ds.length := by rw [← Array.length_toList]; exact hr.length
  have hp' := hp
  obtain ⟨n, el⟩ := hp'
  refine ki_setAt (n := n) el h0 (by omega) (by omega) ?_
  have hs' : Heap.ExtBut l s₃.heap (s₃.heap.update l (Obj.mapSeq (·.setIfInBounds k.toNat v))) := (Heap.SameBut.update _ _ _).extBut
  have sk : SeqKeep (l :: b.O) s₃.heap (s₃.heap.update l (Obj.mapSeq (·.setIfInBounds k.toNat v))) := fun a o xs n' ha _ e => hs' a o (fun q => ha (q ▸ List.mem_cons_self)) e
  refine h _ (S₃.upd (tk := s₃.toks) hs' (plain_update hp) ?_)
  rw [Array.toList_setIfInBounds]
  exact RepL.set (rv.mono sk) (hr.mono sk)

theorem foldl_replicate_single {v : Value} : ∀ (m : Nat) (acc : Array Value), (List.foldl (fun x1 x2 => x1 ++ x2) acc (List.replicate m #[v])).toList = acc.toList ++ List.replicate m v
  | 0, acc => by simp
  | m + 1, acc => by
    rw [List.replicate_succ, List.foldl_cons, foldl_replicate_single m, List.replicate_succ]
    simp

theorem mul_list_push {l : Addr} {v : Value} {x : Int} {u : Tok} {Q : Value → Shared → Prop} (hp : s.heap.PlainList l #[v]) (hlo : -(2 ^ 40 : Int) ≤ x) (hhi : x ≤ 100000)
    (h : ∀ us : Array Value, us.toList = List.replicate x.toNat v → Q (.ref s.heap.objs.size) { s with heap := s.heap.push { cls := .type "list", data := .seq us } }) : wpAny W.M A (binaryOp .Mult (.ref l) (.int x u)) Q E s := by
  obtain ⟨k, hl⟩ := hp
  exact wpAny_binaryOp_repeat_ref (T := "list") (U := "int") (by decide) ⟨_, hl, rfl⟩ (fun s' => typeIs_int s' x u) noFill_list_mul F.fills_int_mul F.slot_int_rmul repeat_list F.slot_int_index.lookup
    (call_meets F.slot_int_rmul (typeIs_int s x u) F.entry_int_rmul (F.args_int_rmul_2 _ _) (int___rmul___int_list x u l #[v] k)
      ⟨hl, rfl, ⟨_, hl, rfl⟩, call_meets F.slot_list_mul ⟨_, hl, rfl⟩ F.entry_list_mul (F.args_list_mul_2 _ _)
        (AutoListH.list___mul___list_int_3 l #[v] k x u (by simp [Builtin.List.listFitsIndex]; omega) (by simp; omega) (by simp [Builtin.List.listTooLong, sizeLine]; omega))
        ⟨hl, h _ (by simp [foldl_replicate_single])⟩⟩)

theorem RepL.replicate {h : Heap} {O : List Addr} {d : Dt} {v : Value} (r : Rep h O d v) : ∀ n, RepL h O (List.replicate n d) (List.replicate n v)
  | 0 => by simp only [List.replicate_zero, RepL]
  | n + 1 => by
    simp only [List.replicate_succ, RepL]
    exact ⟨v, _, rfl, r, RepL.replicate r n⟩

theorem op_mul_list {d : Dt} {x : Int} (hlo : -(2 ^ 40 : Int) ≤ x) (hhi : x ≤ 100000) : Op2 W A (binaryOp .Mult) (.lst [d]) (.int x) (.lst (List.replicate x.toNat d)) := fun O s va vb I ra rb => by
  simp only [Rep, RepL] at ra rb
  obtain ⟨l, us, rfl, hlO, hl, v, _, e, rv, rfl⟩ := ra
  obtain ⟨u, rfl⟩ := rb
  have hus : us = #[v] := by have := congrArg List.toArray e; simpa using this
  subst hus
  refine mul_list_push hl hlo hhi fun us hus => ⟨Stp.push (tk := s.toks) I.inv, ?_⟩
  simp only [Rep]
  refine ⟨_, us, rfl, I.ook.size, ⟨0, Heap.get?_push_size _ rfl⟩, ?_⟩
  rw [hus]
  exact RepL.replicate (rv.ext I.inv (.of_keep fun _ _ e => Heap.get?_push_of_some _ e)) _

theorem evn_mul {p pos : Pos} {e n : Expr} {d : Dt} {x : Int} (he : Ev W A env D e d) (hn : Ev W A env D n (.int x)) (hlo : -(2 ^ 40 : Int) ≤ x) (hhi : x ≤ 100000) (hst : starEach [e] env = (false, eval e env) :: starEach [] env) : EvN W A env D (.BinOp (.List [e] p) .Mult n pos) (List.replicate x.toNat d) := fun b OL s S => by
  refine wpAny_BinOp ((ev_list (evs_cons he evs_nil hst) (by simp) b OL s S).use fun va s₁ x₁ r₁ => (hn b OL s₁ (S.stp x₁)).use fun vb s₂ x₂ r₂ => ?_)
  have r₁' := r₁.ext x₁.inv x₂.ext
  simp only [Rep, RepL] at r₁' r₂
  obtain ⟨l, us, rfl, hlO, hl, v, _, e, rv, rfl⟩ := r₁'
  obtain ⟨u, rfl⟩ := r₂
  have hus : us = #[v] := by have := congrArg List.toArray e; simpa using this
  subst hus
  have x₁₂ := x₁.trans x₂
  refine mul_list_push hl hlo hhi fun us hus => ⟨x₁₂.trans (Stp.push (tk := s₂.toks) x₂.inv), s₂.heap.objs.size, us, rfl, fresh_of_stp x₁₂ (Nat.le_refl _), ⟨0, Heap.get?_push_size _ rfl⟩, ?_⟩
  rw [hus]
  have hfr : s₂.heap.get? s₂.heap.objs.size = none := Heap.get?_none_of_le (Nat.le_refl _)
  exact RepL.replicate ((rv.fresh hfr).ext x₂.inv (.of_keep fun _ _ e => Heap.get?_push_of_some _ e)) _

theorem op_add_list {ds ds' : List Dt} (h : ds.length + ds'.length ≤ 100000) : Op2 W A (binaryOp .Add) (.lst ds) (.lst ds') (.lst (ds ++ ds')) := fun O s va vb I ra rb => by
  simp only [Rep] at ra rb
  obtain ⟨l, us, rfl, hlO, ⟨n, hl⟩, hr⟩ := ra
  obtain ⟨l', us', rfl, hlO', ⟨n', hl'⟩, hr'⟩ := rb
  have e1 : us.size = ds.length := by rw [← Array.length_toList]; exact hr.length
  have e2 : us'.size = ds'.length := by rw [← Array.length_toList]; exact hr'.length
  unfold Yl
  with_reducible refine P.add_list hl hl' ?_ ?_
  · refine ⟨Stp.push (tk := s.toks) I.inv, ?_⟩
    simp only [Rep]
    refine ⟨_, us ++ us', rfl, I.ook.size, ⟨0, Heap.get?_push_size _ rfl⟩, ?_⟩
    rw [Array.toList_append]
    have X : Ext W s.heap (s.heap.push { cls := .type "list", data := .seq (us ++ us') }) := .of_keep fun _ _ e => Heap.get?_push_of_some _ e
    exact RepL.append (hr.ext I.inv X) (hr'.ext I.inv X)
  · rw [sizeLine_eq]; omega
end
end Mine
end

section
-- M2
open PySem PySem.W PySem.Calls PyProof.Rows
set_option maxRecDepth 100000

namespace Mine
open Builtin.Int (intBits)

/-- The `m` lowest digits of `x` to the base 2^n. -/
def digitsI (n : Nat) : Nat → Int → List Int
  | 0, _ => []
  | m + 1, x => x % 2 ^ n :: digitsI n m (x / 2 ^ n)
theorem digitsI_length (n : Nat) : ∀ (m : Nat) (x : Int), (digitsI n m x).length = m
  | 0, _ => rfl
  | m + 1, x => by simp [digitsI, digitsI_length n m]

theorem emod_mul_ediv' {x a b : Int} (ha : 0 < a) (hb : 0 < b) : x % (a * b) / a = x / a % b := by
  have e1 := Int.emod_add_mul_ediv x (a * b)
  have e2 := Int.emod_add_mul_ediv (x / a) b
  have e3 : x / a / b = x / (a * b) := Int.ediv_ediv_of_nonneg (by omega)
  have e4 : x % (a * b) = x - a * (b * (x / (a * b))) := by rw [← Int.mul_assoc]; omega
  rw [e4, Int.sub_eq_add_neg, ← Int.mul_neg, Int.add_mul_ediv_left _ _ (by omega)]
  rw [e3] at e2
  omega
theorem emod_mul_emod {x a b : Int} : x % (a * b) % a = x % a := Int.emod_emod_of_dvd x ⟨b, rfl⟩

theorem digitsI_add (n : Nat) : ∀ (p q : Nat) (x : Int), digitsI n (p + q) x = digitsI n p (x % 2 ^ (n * p)) ++ digitsI n q (x / 2 ^ (n * p))
  | 0, q, x => by simp [digitsI]
  | p + 1, q, x => by
    have hn := two_pow_pos n
    have hp := two_pow_pos (n * p)
    have e : (2 : Int) ^ (n * (p + 1)) = 2 ^ n * 2 ^ (n * p) := by rw [← Int.pow_add]; congr 1; rw [Nat.mul_add]; omega
    rw [show p + 1 + q = (p + q) + 1 by omega]
    simp only [digitsI, List.cons_append]
    rw [digitsI_add n p q (x / 2 ^ n), e, emod_mul_emod, emod_mul_ediv' hn hp, Int.ediv_ediv_of_nonneg (Int.le_of_lt hn)]

theorem digitsI_one (n : Nat) {x : Int} (h0 : 0 ≤ x) (h : x < 2 ^ n) : digitsI n 1 x = [x] := by
  simp [digitsI, Int.emod_eq_of_lt h0 h]

theorem packI_digitsI (n : Nat) : ∀ (m : Nat) (x : Int), packI n (digitsI n m x) = x % 2 ^ (n * m)
  | 0, x => by simp [digitsI, packI]
  | m + 1, x => by
    have hn := two_pow_pos n
    have hm := two_pow_pos (n * m)
    have e : (2 : Int) ^ (n * (m + 1)) = 2 ^ n * 2 ^ (n * m) := by rw [← Int.pow_add]; congr 1; rw [Nat.mul_add]; omega
    simp only [digitsI, packI]
    rw [packI_digitsI n m, e]
    have h1 := Int.emod_add_mul_ediv (x % (2 ^ n * 2 ^ (n * m))) (2 ^ n)
    rw [emod_mul_emod, emod_mul_ediv' hn hm] at h1
    rw [Int.mul_comm _ (2 ^ n)]; exact h1

theorem digitsI_packI (n : Nat) : ∀ (xs : List Int), (∀ x ∈ xs, 0 ≤ x ∧ x < 2 ^ n) → digitsI n xs.length (packI n xs) = xs
  | [], _ => rfl
  | x :: xs, h => by
    have hx := h x List.mem_cons_self
    have hn := two_pow_pos n
    simp only [List.length_cons, digitsI, packI]
    have e1 : (x + packI n xs * 2 ^ n) % 2 ^ n = x := by
      rw [Int.add_mul_emod_self_right, Int.emod_eq_of_lt hx.1 hx.2]
    have e2 : (x + packI n xs * 2 ^ n) / 2 ^ n = packI n xs := by
      rw [Int.add_mul_ediv_right _ _ (by omega), Int.ediv_eq_zero_of_lt hx.1 hx.2]; omega
    rw [e1, e2, digitsI_packI n xs fun y hy => h y (List.mem_cons_of_mem _ hy)]

theorem digitsI_bound (n : Nat) : ∀ (m : Nat) (x : Int), ∀ d ∈ digitsI n m x, 0 ≤ d ∧ d < 2 ^ n
  | 0, _, _, h => nomatch h
  | m + 1, x, d, h => by
    have hn := two_pow_pos n
    simp only [digitsI] at h
    rcases List.mem_cons.mp h with rfl | h
    · exact ⟨Int.emod_nonneg _ (by omega), Int.emod_lt_of_pos _ hn⟩
    · exact digitsI_bound n m _ d h

/-- How many digits `_int2digits` gives. -/
def nDig (a : Int) (n : Nat) : Nat := (intBits a + n - 1) / n
theorem nDig_bound {a : Int} {n : Nat} (hn : 1 ≤ n) (ha : 0 ≤ a) : a < 2 ^ (n * nDig a n) := by
  refine lt_of_intBits_le ha ?_
  unfold nDig
  have := Nat.div_add_mod (intBits a + n - 1) n
  have h2 := Nat.mod_lt (intBits a + n - 1) (show n > 0 by omega)
  omega
theorem splice1 {α : Type} {A B : List α} {M : Nat} (h : A.length = M) : (A ++ B).take M = A := by subst h; simp
theorem splice2 {α : Type} {A ds : List α} {M r : Nat} (h : A.length = M) (hr : M ≤ r) : (A ++ ds.drop M).drop r = ds.drop r := by
  have e : r = M + (r - M) := by omega
  rw [e, ← List.drop_drop, ← h, List.drop_left, h, List.drop_drop]
end Mine
end

section
-- L13
open PySem PySem.W PySem.Calls PyProof.Rows
set_option maxRecDepth 100000

namespace Mine
open Builtin.Int (intBits)

section
variable {W : Wd}

/-- The contract of an inner def that writes a list. -/
theorem mfnX_intro {f c' l : Addr} {name qual : Str} {params : Arguments} {body : List Stmt} {scope : Scope} {cl : List (Str × Addr)} {doc pm ctv : Value} {xs : List Str} {args ds ds' : List Dt} {DC : List (Str × Dt)} {k : Nat} (G : W.Ok)
    (hf : W.g.get? f = some (fnMade name qual params body scope cl doc pm c' ctv)) (hc : W.g.CodeRec (.ref c') qual)
    (hDC : ∀ x d, DC.lookup x = some d → ∃ c v, cl.lookup x = some c ∧ W.g.IsCell c (some v) ∧ Rep W.g [] d v)
    (hdk : ∀ p ∈ DC, scope.names.lookup p.1 = some .free) (hall : ∀ x c, cl.lookup x = some c → ∃ v, W.g.IsCell c v) (hap : cl.Pairwise fun x y => x.2 ≠ y.2)
    (hbind : ∀ (vs : List Value), vs.length = xs.length → bindArgs (fnX name qual params body scope cl .none .none doc pm none (.ref c') ctv) ⟨vs, []⟩ = pure (xs.zip vs))
    (hlen : args.length = xs.length) (hnd : xs.Nodup)
    (hkind : ∀ x ∈ xs, scope.names.lookup x = some .local) (hcell : ∀ x ∈ scope.names, x.2 ≠ .cell)
    (hb : ∀ A b L s, AOk A k → St W b (envX qual scope L f (.ref c') cl) (xs.zip args ++ DC) [(l, ds)] s → wpAny W.M A (execs body (envX qual scope L f (.ref c') cl)) (fun fl s' => (fl = .next ∨ fl = .ret .none) ∧ ∃ D', St W b (envX qual scope L f (.ref c') cl) D' [(l, ds')] s') (fun _ _ => False) s)
    (hco : scope.isCoroutine = false) (hgen : scope.isGenerator = false) (hk : scope.kind = .function) : MFn W (k + 1) (.ref f) l args ds ds' := fun A O s vs us hA I hlO hp hr ra => by
  refine wpAny_call (enterX (OL := [(l, ds)]) (hb := hideAll s.heap [l]) (O := O) G (I.inv.base _ _ hf) (hc.keeps I.inv.base) hA I (.of_keep fun _ _ e => of_hideAll _ e) (fun p hp' => ?_) (fun p hp' => ?_) (fun p hp' => ?_) ra
    (fun x d q => let ⟨c, v, h1, h2, h3⟩ := hDC x d q; ⟨c, v, h1, h2.keeps I.inv.base, h3.ofBase I⟩) hdk (fun x c q => let ⟨v, h⟩ := hall x c q; ⟨v, h.keeps I.inv.base⟩) hap hbind hlen hnd hkind hcell (fun L s' hA' S => ?_) hco hgen hk)
  · rcases List.mem_cons.mp hp' with rfl | q
    · exact ⟨us, hp, hr⟩
    · exact nomatch q
  · rcases List.mem_cons.mp hp' with rfl | q
    · exact hideAll_none _ List.mem_cons_self
    · exact nomatch q
  · rcases List.mem_cons.mp hp' with rfl | q
    · exact hlO
    · exact nomatch q
  · refine wpAny_mono (hb _ _ L s' hA' S) (fun fl s'' y => ?_) fun _ _ y => y
    obtain ⟨hfl, D', S''⟩ := y
    obtain ⟨us', hp', hr'⟩ := S''.own _ List.mem_cons_self
    have fin : Inv W s''.heap ∧ ExtL W l s.heap s''.heap ∧ Sm s s'' ∧ ∃ us', s''.heap.PlainList l us' ∧ RepL s''.heap (l :: O) ds' us'.toList :=
      ⟨S''.inv, fun a o ha hal e => S''.ext a o ha (hideAll_get _ e fun q => hal (List.mem_singleton.mp q)), S''.same, us', hp', hr'⟩
    rcases hfl with rfl | rfl
    · exact ⟨rfl, fin⟩
    · exact ⟨rfl, fin⟩
end
end Mine
end

section
-- L14
open PySem PySem.W PySem.Calls PyProof.Rows
set_option maxRecDepth 100000

namespace Mine
open Builtin.Int (intBits)

section
variable {W : Wd} {A : Around} {b : Base} {env : Env} {D : List (Str × Dt)} {OL : List (Addr × List Dt)} {s : Shared} {E : Value → Shared → Prop}

theorem RepL.reverse {h : Heap} {O : List Addr} : ∀ {ds : List Dt} {vs : List Value}, RepL h O ds vs → RepL h O ds.reverse vs.reverse
  | [], _, x => by simp only [RepL] at x; subst x; simp only [List.reverse_nil, RepL]
  | _ :: _, _, x => by
    simp only [RepL] at x
    obtain ⟨v, r, rfl, x1, x2⟩ := x
    rw [List.reverse_cons, List.reverse_cons]
    exact RepL.append (RepL.reverse x2) (by simp only [RepL]; exact ⟨v, [], rfl, x1, rfl⟩)

/-- `x.reverse()` on a list of the frame's own. -/
theorem x_reverse {x : Str} {p apos cpos epos : Pos} {l : Addr} {ds : List Dt} {rest : List Stmt} {pl : Sem Bool} {Q : Flow → Shared → Prop} (S : St W b env D [(l, ds)] s) (hx : Ev W A env D (.Name x p) (.raw (.ref l))) (hsz : ds.length ≤ 1000)
    (hm : MethEq env (.Name x p) (Str.ofString "reverse") apos cpos [] pl) (hi : interactive env = false) (hs : swapsWith (.Call (.Attribute (.Name x p) (Str.ofString "reverse") apos) [] [] cpos) none epos.line env = pure false)
    (h : ∀ s', St W b env D [(l, ds.reverse)] s' → wpAny W.M A (execs rest env) Q E s') : wpAny W.M A (execs (.Expr (.Call (.Attribute (.Name x p) (Str.ofString "reverse") apos) [] [] cpos) epos :: rest) env) Q E s := by
  refine wpAny_execs_cons (wpAny_Expr (MethodCall_ (pl := pl) ((hx b _ s S).use fun v s₁ x₁ r₁ => ?_) hm) hi hs)
  simp only [Rep] at r₁
  subst r₁
  have S₁ := S.stp x₁
  obtain ⟨us, hp, hr⟩ := S₁.own _ List.mem_cons_self
  have hp' := hp
  obtain ⟨n, el⟩ := hp'
  have e : us.size = ds.length := by rw [← Array.length_toList]; exact hr.length
  refine getMethod_builtin hp.isList.typeIs PySem.F.plainAttrs_list PySem.F.slot_list_reverse PySem.F.type_list_reverse (fun a q => by cases q; exact ⟨_, el, rfl⟩) ?_
  refine P.reverse_list el ?_ (by rw [e, sizeLine_eq]; omega)
  have hs' : Heap.ExtBut l s₁.heap (s₁.heap.update l (Obj.mapSeq fun x => x.reverse)) := (Heap.SameBut.update _ _ _).extBut
  have sk : SeqKeep (l :: b.O) s₁.heap (s₁.heap.update l (Obj.mapSeq fun x => x.reverse)) := fun a o xs n' ha _ e => hs' a o (fun q => ha (q ▸ List.mem_cons_self)) e
  refine h _ (S₁.upd (tk := s₁.toks) hs' (plain_update hp) ?_)
  rw [Array.toList_reverse]
  exact RepL.reverse (hr.mono sk)
end
end Mine
end

section
-- L15
open PySem PySem.W PySem.Calls PyProof.Rows
set_option maxRecDepth 100000

namespace Mine

/-- What no statement of a frame may touch: iterators, and the sequences off `O`. -/
def Kp (O : List Addr) (h h' : Heap) : Prop := ∀ a o, h.get? a = some o → ((∃ vs, o.data = .fields vs ∧ o.cls ≠ .none) ∨ (∃ xs n, o.data = .seq xs n ∧ a ∉ O)) → h'.get? a = some o
theorem Kp.seq {O : List Addr} {h h' : Heap} (k : Kp O h h') : SeqKeep O h h' := fun a o xs n ha hd e => k a o e (.inr ⟨xs, n, hd, ha⟩)
theorem Kp.trans {O : List Addr} {h₁ h₂ h₃ : Heap} (x : Kp O h₁ h₂) (y : Kp O h₂ h₃) : Kp O h₁ h₃ := fun a o e q => y a o (x a o e q) q
theorem Kp.ofExt {W : Wd} {O : List Addr} {h h' : Heap} (I : Inv W h) (x : Ext W h h') : Kp O h h' := fun a o e q => x.at (fun hP => by
  obtain ⟨ps, e'⟩ := I.notP hP
  rw [e] at e'; cases e'
  rcases q with ⟨_, _, q⟩ | ⟨_, _, q, _⟩
  · exact q rfl
  · cases q) e (by rcases q with ⟨_, q, _⟩ | ⟨_, _, q, _⟩ <;> (rw [q]; nofun))

/-- A name that may be stored. -/
def StoX (W : Wd) (b : Base) (env : Env) (x : Str) : Prop := env.kindOf x = some .local ∨ (env.kindOf x = some .cell ∧ ∃ c, env.cells.lookup x = some c ∧ b.hb.get? c = none ∧ W.g.get? c = none)

section
variable {W : Wd} {A : Around} {b : Base} {env : Env} {D : List (Str × Dt)} {OL : List (Addr × List Dt)} {s : Shared} {E : Value → Shared → Prop}

theorem storeK {x : Str} {v : Value} {d : Dt} {Q : Unit → Shared → Prop} (S : St W b env D OL s) (hk : StoX W b env x) (r : Rep s.heap (ad OL ++ b.O) d v)
    (h : ∀ s', St W b env ((x, d) :: D) OL s' → Kp (ad OL ++ b.O) s.heap s'.heap → Q () s') : wpAny W.M A (storeName env x v) Q E s := by
  rcases hk with hk | ⟨hk, c, hc, hcb, hcg⟩
  · obtain ⟨m, hn, km⟩ := S.loc
    have hn' := hn
    obtain ⟨oL, es, ep, eL, hdL, _⟩ := hn'
    have hLP : env.locals ∉ W.Ps := S.inv.notP_of eL fun vs => by rw [hdL]; nofun
    refine wpAny_storeName_local hk hn (fun h' hn' hs => ?_) (by rw [S.fk]; rfl)
    have hx := hs.extBut
    have kp : Kp (ad OL ++ b.O) s.heap h' := fun a o e q => hx a o (fun q' => by
      rw [q', eL] at e; cases e
      rcases q with ⟨_, q, _⟩ | ⟨_, _, q, _⟩ <;> (rw [hdL] at q; cases q)) e
    have sk := kp.seq
    have ne : ∀ {c : Addr} {o : Obj}, s.heap.get? c = some o → (∀ es ep, o.data ≠ .dict es ep) → c ≠ env.locals := fun e q e' => by
      rw [e', eL] at e; cases e; exact q _ _ hdL
    refine h _ { inv := S.inv.extBut hx S.lfresh.2 hLP fun o e vs q => by rw [eL] at e; cases e; rw [hdL] at q; cases q
                 ext := S.ext.butP (P := (· = env.locals)) hx (fun a q => by rw [q]; exact S.lfresh.1)
                 same := S.same.trans (Sm.mk _ _ _)
                 ook := fun a ha => ?_
                 fk := S.fk, eg := S.eg, eb := S.eb
                 loc := ⟨_, hn', fun y d' h1 h2 => ?_⟩
                 cel := fun y d' h1 h2 => ?_
                 all := fun y c h1 => ?_
                 own := fun p hp => ?_
                 ofresh := S.ofresh, odisj := S.odisj, apart := S.apart, lfresh := S.lfresh } kp
    · exact S.ook.keep (seqKeep_but hx fun o e xs n q => by rw [eL] at e; cases e; rw [hdL] at q; cases q) a ha
    · by_cases q : y = x
      · subst q
        rw [lookup_cons_self] at h2; cases h2
        exact ⟨v, by simp, r.mono sk⟩
      · rw [lookup_cons_ne q] at h2
        obtain ⟨v', h3, h4⟩ := km y d' h1 h2
        exact ⟨v', by simp [q, h3], h4.mono sk⟩
    · have q : y ≠ x := fun q => by rw [q, hk] at h1; simp at h1
      rw [lookup_cons_ne q] at h2
      obtain ⟨c, v', h3, ⟨o, e, hd⟩, h5⟩ := S.cel y d' h1 h2
      exact ⟨c, v', h3, ⟨o, hx c o (ne e fun _ _ q => by rw [hd] at q; cases q) e, hd⟩, h5.mono sk⟩
    · obtain ⟨v', o, e, hd⟩ := S.all y c h1
      exact ⟨v', o, hx c o (ne e fun _ _ q => by rw [hd] at q; cases q) e, hd⟩
    · obtain ⟨vs, ⟨n, e⟩, r'⟩ := S.own p hp
      exact ⟨vs, ⟨n, hx _ _ (ne e fun _ _ q => by cases q) e⟩, r'.mono sk⟩
  · obtain ⟨v₀, oc, ec, hdc⟩ := S.all x c hc
    have hcP : c ∉ W.Ps := S.inv.notP_of ec fun vs => by rw [hdc]; nofun
    obtain ⟨m, hn, km⟩ := S.loc
    have ne : ∀ {a : Addr} {o : Obj}, s.heap.get? a = some o → (∀ w, o.data ≠ .cell w) → a ≠ c := fun e q e' => by
      rw [e', ec] at e; cases e; exact q _ hdc
    refine wpAny_storeName_cell S.fk hk hc ⟨oc, ec, hdc⟩ fun h' hv hs => ?_
    have hx := hs.extBut
    have kp : Kp (ad OL ++ b.O) s.heap h' := fun a o e q => hx a o (fun q' => by
      rw [q', ec] at e; cases e
      rcases q with ⟨_, q, _⟩ | ⟨_, _, q, _⟩ <;> (rw [hdc] at q; cases q)) e
    have sk := kp.seq
    have hs' : Sm s { s with heap := h' } := ⟨h', s.toks, rfl⟩
    refine h _ { inv := S.inv.extBut hx hcg hcP fun o e vs q => by rw [ec] at e; cases e; rw [hdc] at q; cases q
                 ext := S.ext.butP (P := (· = c)) hx (fun a q => by rw [q]; exact hcb)
                 same := S.same.trans hs'
                 ook := fun a ha => ?_
                 fk := S.fk, eg := S.eg, eb := S.eb
                 loc := ?_
                 cel := fun y d' h1 h2 => ?_
                 all := fun y a h1 => ?_
                 own := fun p hp => ?_
                 ofresh := S.ofresh, odisj := S.odisj, apart := S.apart, lfresh := S.lfresh } kp
    · exact S.ook.keep (seqKeep_but hx fun o e xs n q => by rw [ec] at e; cases e; rw [hdc] at q; cases q) a ha
    · obtain ⟨oL, es, ep, eL, hdL, rL⟩ := hn
      refine ⟨m, ⟨oL, es, ep, hx _ _ (ne eL fun _ q => by rw [hdL] at q; cases q) eL, hdL, rL⟩, fun y d' h1 h2 => ?_⟩
      have q : y ≠ x := fun q => by rw [q, hk] at h1; simp at h1
      rw [lookup_cons_ne q] at h2
      obtain ⟨v', h3, h4⟩ := km y d' h1 h2
      exact ⟨v', h3, h4.mono sk⟩
    · by_cases q : y = x
      · subst q
        rw [lookup_cons_self] at h2; cases h2
        exact ⟨c, v, hc, hv, r.mono sk⟩
      · rw [lookup_cons_ne q] at h2
        obtain ⟨c', v', h3, ⟨o, e, hd⟩, h5⟩ := S.cel y d' h1 h2
        have hcc : c' ≠ c := fun q' => q (name_of_addr S.apart (mem_of_lookup h3) (q' ▸ mem_of_lookup hc))
        exact ⟨c', v', h3, ⟨o, hx c' o hcc e, hd⟩, h5.mono sk⟩
    · by_cases q : a = c
      · exact ⟨_, q ▸ hv⟩
      · obtain ⟨v', o, e, hd⟩ := S.all y a h1
        exact ⟨v', o, hx a o q e, hd⟩
    · obtain ⟨vs, ⟨n, e⟩, r'⟩ := S.own p hp
      exact ⟨vs, ⟨n, hx _ _ (ne e fun _ q => by cases q) e⟩, r'.mono sk⟩

/-- A walk that binds names: `n` turns, the turn `i` binds `Dn i`. -/
structure Bd (W : Wd) (A : Around) (b : Base) (env : Env) (O : List Addr) (target : Expr) (I : Addr) (n : Nat) (T : Nat → Heap → Prop) (Dn : Nat → List (Str × Dt)) : Prop where
  step : ∀ D OL s i (R : Shared → Prop) (E : Value → Shared → Prop), ad OL ++ b.O = O → i < n → St W b env D OL s → T i s.heap → (∀ s', St W b env (Dn i ++ D) OL s' → T (i + 1) s'.heap → R s') →
    wpAny W.M A (pyNext (.ref I)) (fun r s₁ => match r with
      | none => False
      | some v => wpAny W.M A (letOwnedTupleGo target (.ref I) v) (fun _ s₂ => wpAny W.M A (assign target env v) (fun _ s₃ => R s₃) E s₂) E s₁) E s
  done : ∀ D OL s (R : Shared → Prop) (E : Value → Shared → Prop), ad OL ++ b.O = O → St W b env D OL s → T n s.heap → (∀ s', St W b env D OL s' → R s') →
    wpAny W.M A (pyNext (.ref I)) (fun r s₁ => match r with | none => R s₁ | some _ => False) E s
  keep : ∀ i h h', T i h → Kp O h h' → T i h'
  self : ∀ i (s : Shared) (Q : Value → Shared → Prop) (E : Value → Shared → Prop), T i s.heap → Q (.ref I) s → wpAny W.M A (pyIter (.ref I)) Q E s

theorem Itr.kp {O : List Addr} {I : Addr} {fp wr : List Addr} {ds : List Dt} {P : Nat → Value → Prop} {T : Nat → Heap → Prop} {K : Heap → Prop} (Z : Itr W A O I fp wr ds P T K) {i : Nat} {h h' : Heap} (x : T i h ∧ K h) (k : Kp O h h') : T i h' ∧ K h' := by
  refine ⟨Z.walk.frame _ _ _ x.1 fun a ha o e => ?_, Z.kmono _ _ k.seq x.2⟩
  obtain ⟨o', e', hc⟩ := Z.fpok _ _ a x.1 ha
  rw [e] at e'; cases e'
  exact k a o e hc

theorem bd_name {O : List Addr} {I : Addr} {fp wr : List Addr} {ds : List Dt} {P : Nat → Value → Prop} {T : Nat → Heap → Prop} {K : Heap → Prop} {x : Str} {px : Pos} (Z : Itr W A O I fp wr ds P T K) (hwf : ∀ a ∈ wr, W.g.get? a = none ∧ b.hb.get? a = none) (hx : StoX W b env x) :
    Bd W A b env O (.Name x px) I ds.length (fun i h => T i h ∧ K h) (fun i => [(x, ds.getD i .none)]) where
  step := fun D OL s i R E hO hi S hT h => by
    refine Z.walk.item i s _ _ hi hT.1 fun v h' tk hP hT' kp => ?_
    have S₁ : St W b env D OL { s with heap := h', toks := tk } := S.walked Z hT.1 hwf kp
    have sk : SeqKeep O s.heap h' := fun a o xs n _ hd e => kp a o (fun hm => by
      obtain ⟨o', vs, e', hd', _⟩ := Z.wrok i _ a hT.1 hm
      rw [e] at e'; cases e'; rw [hd] at hd'; cases hd') e
    have hK' := Z.kmono _ _ sk hT.2
    obtain ⟨d, hd, r⟩ := Z.item i v h' hP hK'
    have hg : ds.getD i .none = d := by rw [List.getD_eq_getElem?_getD, hd]; rfl
    refine wpAny_of_eq (a := ()) rfl (assign_name (storeK S₁ hx (d := ds.getD i .none) (by rw [hg, hO]; exact r) fun s₂ S₂ k₂ => h s₂ S₂ ?_))
    rw [hO] at k₂
    exact Z.kp ⟨hT', hK'⟩ k₂
  done := fun D OL s R E hO S hT h => Z.walk.done s _ _ hT.1 fun h' tk kp => h _ (S.walked Z hT.1 hwf kp)
  keep := fun i h h' x k => Z.kp x k
  self := fun i s Q E hT hQ => Z.walk.self i s Q E hT.1 hQ

/-- The tests of a comprehension. -/
def Tsts (W : Wd) (A : Around) (env : Env) (D : List (Str × Dt)) (ifs : List Expr) (c : Bool) : Prop :=
  ∀ b OL s, St W b env D OL s → wpAny W.M A (forIn ifs true fun c r => if r = true then do let ok ← isTrue c env (eval c env); pure (ForInStep.yield ok) else pure (ForInStep.yield r)) (fun c' s' => c' = c ∧ Stp W s s') (fun _ _ => False) s
theorem tsts_nil : Tsts W A env D [] true := fun _ _ _ S => wpAny_tests_nil ⟨rfl, .refl S.inv⟩
theorem tsts_one {e : Expr} {c : Bool} (h : Tst W A env D e c) : Tsts W A env D [e] c := fun b OL s S => wpAny_tests_one (h b OL s S)

theorem codeAny_comp1 {R : Result → Shared → Prop} {elt target iter : Expr} {ifs : List Expr} {scope : Scope} {pos : Pos} {it acc : Value}
    (turn : wpAny W.M A (pyNext it) (fun r s₁ => match r with
      | none => R (.ok .next) s₁
      | some v => wpAny W.M A (letOwnedTupleGo target it v) (fun _ s₁' => wpAny W.M A (assign target env v) (fun _ s₂ =>
          wpAny W.M A (forIn ifs true fun c r => if r = true then do let ok ← isTrue c env (eval c env); pure (ForInStep.yield ok) else pure (ForInStep.yield r)) (fun ok s₃ =>
            if ok = true then wpAny W.M A (eval elt env) (fun x s₄ =>
              wpAny W.M A (call (.builtin "list.append") [acc, x]) (fun _ s₅ => codeAny W.M A (.compLoop (.ListComp elt [⟨target, iter, ifs, 0⟩] scope pos) 0 it acc env) R s₅) (notedBy W.M A env fun e s' => R (.error e) s') s₄) (notedBy W.M A env fun e s' => R (.error e) s') s₃
            else codeAny W.M A (.compLoop (.ListComp elt [⟨target, iter, ifs, 0⟩] scope pos) 0 it acc env) R s₃) (notedBy W.M A env fun e s' => R (.error e) s') s₂) (notedBy W.M A env fun e s' => R (.error e) s') s₁') (notedBy W.M A env fun e s' => R (.error e) s') s₁) (notedBy W.M A env fun e s' => R (.error e) s') s) :
    codeAny W.M A (.compLoop (.ListComp elt [⟨target, iter, ifs, 0⟩] scope pos) 0 it acc env) R s := by
  refine codeAny_of_tree ?_
  show wpAny _ A ((compTurn (.ListComp elt [⟨target, iter, ifs, 0⟩] scope pos) 0 it acc env).onRaise (fun x => do noteFrame x env; theTreesLotGoes x)) _ _ s
  refine wpAny_noted ?_
  rw [compTurn_list]
  refine wpAny_bind (wpAny_standAt (wpAny_bind (wpAny_mono turn (fun r s₁ h₁ => ?_) fun _ _ h' => h')))
  cases r with
  | none => exact wpAny_pure h₁
  | some v =>
    refine wpAny_bind (wpAny_mono h₁ (fun _ s₁' h₁' => ?_) fun _ _ h' => h')
    refine wpAny_bind (wpAny_mono h₁' (fun _ s₂ h₂ => wpAny_bind (wpAny_mono h₂ (fun ok s₃ h₃ => ?_) fun _ _ h' => h')) fun _ _ h' => h')
    cases ok with
    | false => exact wpAny_pure ⟨rfl, h₃⟩
    | true =>
      exact wpAny_bind (wpAny_bind (wpAny_mono h₃ (fun x s₄ h₄ => wpAny_bind (wpAny_mono h₄ (fun _ s₅ h₅ => wpAny_pure (wpAny_pure ⟨rfl, h₅⟩)) fun _ _ h' => h')) fun _ _ h' => h'))

/-- What a comprehension has gathered behind `i` turns. -/
def gather (ok : Nat → Bool) (res : Nat → Dt) : Nat → List Dt
  | 0 => []
  | i + 1 => gather ok res i ++ (if ok i then [res i] else [])
theorem gather_length (ok : Nat → Bool) (res : Nat → Dt) : ∀ i, (gather ok res i).length ≤ i
  | 0 => Nat.le_refl _
  | i + 1 => by
    have := gather_length ok res i
    unfold gather
    rw [List.length_append]
    split <;> simp <;> omega
theorem gather_true (res : Nat → Dt) : ∀ i, gather (fun _ => true) res i = (List.range i).map res
  | 0 => rfl
  | i + 1 => by
    unfold gather
    rw [gather_true res i, List.range_succ, List.map_append]
    rfl

theorem comp_run {elt target iter : Expr} {ifs : List Expr} {scope : Scope} {pos : Pos} {I acc : Addr} {n : Nat} {T : Nat → Heap → Prop} {Dn : Nat → List (Str × Dt)} {FV : List (Str × Dt)} {ok : Nat → Bool} {res : Nat → Dt} {R : Result → Shared → Prop}
    (B : Bd W A b env (acc :: b.O) target I n T Dn) (htest : ∀ i, i < n → Tsts W A env (Dn i ++ FV) ifs (ok i)) (helt : ∀ i, i < n → ok i = true → ∀ OL, EvO W A b env (Dn i ++ FV) OL elt (res i)) (hsz : n ≤ 100000)
    (hfv : ∀ i, i < n → ∀ p ∈ FV, (Dn i ++ FV).lookup p.1 = some p.2)
    (hR : ∀ s', St W b env FV [(acc, gather ok res n)] s' → R (.ok .next) s') :
    ∀ k i s, i + k = n → St W b env FV [(acc, gather ok res i)] s → T i s.heap → codeAny W.M A (.compLoop (.ListComp elt [⟨target, iter, ifs, 0⟩] scope pos) 0 (.ref I) (.ref acc) env) R s
  | 0, i, s, hik, S, hT => by
    obtain rfl : i = n := by omega
    refine codeAny_comp1 (wpAny_mono (B.done FV _ s (fun s' => R (.ok .next) s') _ rfl S hT fun s' S' => hR s' S') (fun r s₁ h₁ => ?_) fun _ _ h' => h')
    cases r with
    | none => exact h₁
    | some _ => exact h₁.elim
  | k + 1, i, s, hik, S, hT => by
    have hi : i < n := by omega
    refine codeAny_comp1 (wpAny_mono (B.step FV _ s i (fun s₂ => wpAny W.M A (forIn ifs true fun c r => if r = true then do let ok ← isTrue c env (eval c env); pure (ForInStep.yield ok) else pure (ForInStep.yield r)) (fun ok s₃ =>
            if ok = true then wpAny W.M A (eval elt env) (fun x s₄ =>
              wpAny W.M A (call (.builtin "list.append") [.ref acc, x]) (fun _ s₅ => codeAny W.M A (.compLoop (.ListComp elt [⟨target, iter, ifs, 0⟩] scope pos) 0 (.ref I) (.ref acc) env) R s₅) (notedBy W.M A env fun e s' => R (.error e) s') s₄) (notedBy W.M A env fun e s' => R (.error e) s') s₃
            else codeAny W.M A (.compLoop (.ListComp elt [⟨target, iter, ifs, 0⟩] scope pos) 0 (.ref I) (.ref acc) env) R s₃) (notedBy W.M A env fun e s' => R (.error e) s') s₂) (notedBy W.M A env fun e s' => R (.error e) s') rfl hi S hT fun s₂ S₂ hT₂ => ?_) (fun r s₁ h₁ => ?_) fun _ _ h' => h')
    · refine wpAny_mono (htest i hi b _ s₂ S₂) (fun c s₃ y => ?_) fun _ _ y => y.elim
      obtain ⟨rfl, x₃⟩ := y
      have S₃ := S₂.stp x₃
      have hT₃ := B.keep _ _ _ hT₂ (Kp.ofExt S₂.inv x₃.ext)
      cases hc : ok i with
      | false =>
        simp only [Bool.false_eq_true, if_false]
        have S₄ := S₃.pick (D' := FV) (hfv i hi)
        have hg : gather ok res (i + 1) = gather ok res i := by simp [gather, hc]
        rw [← hg] at S₄
        exact comp_run B htest helt hsz hfv hR k (i + 1) s₃ (by omega) S₄ hT₃
      | true =>
        simp only [if_true]
        refine (helt i hi hc _ s₃ S₃).use fun v s₄ x₄ r₄ => ?_
        have S₄ := S₃.stp x₄
        have hT₄ := B.keep _ _ _ hT₃ (Kp.ofExt S₃.inv x₄.ext)
        obtain ⟨us, hp, hr⟩ := S₄.own _ List.mem_cons_self
        have hlen := hr.length
        have hgl := gather_length ok res i
        refine wpAny_list_append_plain hp (fun h' hp' hs' => ?_) (by rw [← Array.length_toList, hlen, sizeLine_eq]; show (gather ok res i).length ≤ _; omega)
        have kp : Kp (acc :: b.O) s₄.heap h' := fun a o e q => hs'.extBut a o (fun q' => by
          obtain ⟨n', el⟩ := hp
          rw [q', el] at e; cases e
          rcases q with ⟨_, q, _⟩ | ⟨_, _, _, q⟩
          · cases q
          · exact q (by rw [q']; exact List.mem_cons_self)) e
        have S₅ := (S₄.upd (tk := s₄.toks) (ds' := gather ok res (i + 1)) hs'.extBut hp' (by
          rw [Array.toList_push]
          have hg : gather ok res (i + 1) = gather ok res i ++ [res i] := by simp [gather, hc]
          rw [hg]
          exact RepL.append (hr.mono kp.seq) (by simp only [RepL]; exact ⟨v, [], rfl, r₄.mono kp.seq, rfl⟩))).pick (D' := FV) (hfv i hi)
        exact comp_run B htest helt hsz hfv hR k (i + 1) _ (by omega) S₅ (B.keep _ _ _ hT₄ kp)
    · cases r with
      | none => exact h₁.elim
      | some v => exact h₁
end
end Mine
end

section
-- L16
open PySem PySem.W PySem.Calls PyProof.Rows
set_option maxRecDepth 100000

namespace Mine

theorem newEnvX {M : Model} {A : Around} {E : Value → Shared → Prop} {s : Shared} {scope : Scope} {globals : Addr} {cl : List (Str × Addr)} {qual : Str} {env : Env} {Q : Env → Shared → Prop}
    (h : Q { scope := scope, locals := s.heap.objs.size, globals := globals, cells := cellsFrom (s.heap.objs.size + 1) scope.names cl, qual := qual, func := none, code := env.code, frame := env.frame, builtins := env.builtins }
      { s with heap := pushCells (s.heap.push { cls := .type "dict", data := .dict #[] }) scope.names }) :
    wpAny M A (newFunctionEnv scope globals cl [] qual none .none (some env)) Q E s := by
  simp only [newFunctionEnv, Option.isSome_some, if_true]
  refine wpAny_bind (wpAny_alloc ?_)
  refine wpAny_bind (wpAny_layCells _ (fun name kind cells => by cases hkc : kind == NameKind.cell <;> simp [hkc]) _ _ _ _ ?_)
  rw [show ({ s with heap := s.heap.push { cls := .type "dict", data := .dict #[] } } : Shared).heap.objs.size = s.heap.objs.size + 1 from Heap.size_push ..]
  refine wpAny_bind ?_
  rw [List.forIn_nil]
  exact wpAny_pure (wpAny_pure h)

theorem cellsFrom_all : ∀ (names : List (Str × NameKind)) (h : Heap) (acc : List (Str × Addr)), (∀ p ∈ acc, ∃ v, h.IsCell p.2 v) → (acc.Pairwise fun x y => x.2 ≠ y.2) →
    (∀ p ∈ cellsFrom h.objs.size names acc, ∃ v, (pushCells h names).IsCell p.2 v) ∧ (cellsFrom h.objs.size names acc).Pairwise fun x y => x.2 ≠ y.2
  | [], _, _, h1, h2 => ⟨h1, h2⟩
  | (name, kind) :: r, h, acc, h1, h2 => by
    unfold pushCells cellsFrom
    split
    · have := cellsFrom_all r (h.push { cls := .type "cell", data := .cell none }) ((name, h.objs.size) :: acc) (fun p hp => ?_) (List.pairwise_cons.mpr ⟨fun y hy e => ?_, h2⟩)
      · rwa [Heap.size_push] at this
      · rcases List.mem_cons.mp hp with rfl | hp
        · exact ⟨_, _, Heap.get?_push_size _ rfl, rfl⟩
        · obtain ⟨v, hv⟩ := h1 p hp
          exact ⟨v, hv.keeps fun b o e => Heap.get?_push_of_some _ e⟩
      · obtain ⟨v, hv⟩ := h1 y hy
        have hlt := hv.lt
        have e' : h.objs.size = y.2 := e
        exact Nat.lt_irrefl _ (e' ▸ hlt)
    · exact cellsFrom_all r h acc h1 h2

section
variable {W : Wd} {A : Around} {b : Base} {env : Env} {D : List (Str × Dt)} {OL : List (Addr × List Dt)} {s : Shared} {E : Value → Shared → Prop}

/-- What a comprehension goes over. -/
def CompIn (W : Wd) (A : Around) (env : Env) (D : List (Str × Dt)) (iter target : Expr) (xs : List Str) (n : Nat) (Dn : Nat → List (Str × Dt)) : Prop :=
  ∀ b OL s, St W b env D OL s → wpAny W.M A (eval iter env) (fun v s₁ => wpAny W.M A (pyIter v) (fun it s₂ => Stp W s s₂ ∧ ∃ I T, it = .ref I ∧ T 0 s₂.heap ∧
    ∀ b' cenv, b'.hb = s.heap → b'.O = ad OL ++ b.O → (∀ x ∈ xs, StoX W b' cenv x) → Bd W A b' cenv (s₂.heap.objs.size :: b'.O) target I n T Dn) (fun _ _ => False) s₁) (fun _ _ => False) s

theorem Itr.up {O : List Addr} {I a : Addr} {fp wr : List Addr} {ds : List Dt} {P : Nat → Value → Prop} {T : Nat → Heap → Prop} {K : Heap → Prop} (Z : Itr W A O I fp wr ds P T K) (ha : a ∉ fp) :
    Itr W A (a :: O) I fp wr ds P T (fun h => ∀ i v, P i v → ∃ d, ds[i]? = some d ∧ Rep h (a :: O) d v) where
  walk := Z.walk
  item := fun i v h hP hK => hK i v hP
  kmono := fun h h' k hK i v hP => let ⟨d, h1, h2⟩ := hK i v hP; ⟨d, h1, h2.mono k⟩
  wrok := Z.wrok
  fpok := fun i h c hT hc => by
    obtain ⟨o, e, q⟩ := Z.fpok i h c hT hc
    refine ⟨o, e, q.imp id ?_⟩
    rintro ⟨xs, n, h1, h2⟩
    exact ⟨xs, n, h1, fun q => (List.mem_cons.mp q).elim (fun q => ha (q ▸ hc)) h2⟩

theorem fresh3 {h : Heap} (I : Inv W h) {a : Addr} (ha : h.objs.size ≤ a) : W.g.get? a = none ∧ a ∉ W.Ps := by
  have hn : h.get? a = none := Heap.get?_none_of_le ha
  refine ⟨?_, fun hP => ?_⟩
  · cases q : W.g.get? a with
    | none => rfl
    | some o => rw [I.base _ _ q] at hn; cases hn
  · obtain ⟨ps, e⟩ := I.notP hP
    rw [hn] at e; cases e

theorem compIn_name {iter : Expr} {x : Str} {px : Pos} {ds : List Dt} (hi : Ib W A env D iter ds) : CompIn W A env D iter (.Name x px) [x] ds.length (fun i => [(x, ds.getD i .none)]) := fun b OL s S => by
  refine wpAny_mono (hi b OL s S) (fun v s₁ y => wpAny_mono y (fun it s₂ y => ?_) fun _ _ y => y) fun _ _ y => y
  obtain ⟨x₂, I, fp, wr, P, T, K, rfl, Z, h0, hK, hf⟩ := y
  have hfp : s₂.heap.objs.size ∉ fp := fun hm => by
    obtain ⟨o, e, _⟩ := Z.fpok 0 _ _ h0 hm
    exact absurd (Heap.lt_size e) (Nat.lt_irrefl _)
  refine ⟨x₂, I, fun i h => T i h ∧ ∀ j v, P j v → ∃ d, ds[j]? = some d ∧ Rep h (s₂.heap.objs.size :: (ad OL ++ b.O)) d v, rfl, ⟨h0, fun i v hP => ?_⟩, fun b' cenv hb hO hx => ?_⟩
  · obtain ⟨d, h1, h2⟩ := Z.item i v _ hP hK
    exact ⟨d, h1, h2.fresh (Heap.get?_none_of_le (Nat.le_refl _))⟩
  · rw [hO]
    refine bd_name (Z.up hfp) (fun a ha => ⟨?_, by rw [hb]; exact hf a ha⟩) (hx x List.mem_cons_self)
    cases q : W.g.get? a with
    | none => rfl
    | some o => have := S.inv.base _ _ q; rw [hf a ha] at this; cases this

/-- A comprehension of a list. -/
theorem comp_core {elt target iter : Expr} {ifs : List Expr} {scope : Scope} {pos cpos : Pos} {cl : List (Str × Addr)} {xs : List Str} {n : Nat} {Dn : Nat → List (Str × Dt)} {FV : List (Str × Dt)} {ok : Nat → Bool} {res : Nat → Dt} {use : Option (Value → Sem Unit)} {Q : Value → Shared → Prop}
    (S : St W b env D OL s) (hin : CompIn W A env D iter target xs n Dn)
    (hclos : closureFor scope env = pure cl) (hkind : scope.kind = .function) (hnames : ∀ y ∈ scope.names, y.2 = .local → scope.names.lookup y.1 = some .local)
    (hs : ∀ x, foldedSetIterable iter env x = pure x)
    (hsub : ∀ p ∈ cl, env.cells.lookup p.1 = some p.2) (hap : cl.Pairwise fun x y => x.2 ≠ y.2)
    (hfv : ∀ p ∈ FV, D.lookup p.1 = some p.2 ∧ (env.kindOf p.1 = some .cell ∨ env.kindOf p.1 = some .free) ∧ (∀ k, (cellsFrom k scope.names cl).lookup p.1 = env.cells.lookup p.1) ∧ (relabel scope env).names.lookup p.1 ≠ some .local)
    (hsto : ∀ C b', (∀ a, C ≤ a → b'.hb.get? a = none ∧ W.g.get? a = none) → ∀ x ∈ xs, StoX W b' (compEnvC scope (cellsFrom (C + 1) scope.names cl) C env) x)
    (htest : ∀ C i, i < n → Tsts W A (compEnvC scope (cellsFrom (C + 1) scope.names cl) C env) (Dn i ++ FV) ifs (ok i))
    (helt : ∀ C i, i < n → ok i = true → ∀ OL', EvO W A ⟨s.heap, s, ad OL ++ b.O⟩ (compEnvC scope (cellsFrom (C + 1) scope.names cl) C env) (Dn i ++ FV) OL' elt (res i)) (hsz : n ≤ 100000)
    (hpick : ∀ i, i < n → ∀ p ∈ FV, (Dn i ++ FV).lookup p.1 = some p.2)
    (hQ : ∀ acc C s', Stp W s s' → s.heap.get? acc = none → s.heap.get? C = none → (∃ us, s'.heap.PlainList acc us ∧ RepL s'.heap (acc :: (ad OL ++ b.O)) (gather ok res n) us.toList) → (∃ m, s'.heap.Ns C m) →
      compPost W.M A E use Q (.ref acc) C (.ok .next) s') :
    wpAny W.M A (comprehension (.ListComp elt [⟨target, iter, ifs, 0⟩] scope pos) scope env cpos (newList []) false (eval iter env) use) Q E s := by
  refine wpAny_comprehension_free rfl hs hclos hkind hnames (wpAny_mono (hin b OL s S) (fun v s₁ y => wpAny_mono y (fun it s₂ y => ?_) fun _ _ y => y.elim) fun _ _ y => y.elim)
  obtain ⟨x₂, I, T, rfl, h0, hB⟩ := y
  refine wpAny_newObj_type (newEnvX ?_)
  dsimp only
  generalize hH2 : s₂.heap.push { cls := .type "list", dict := none, data := .seq ([] : List Value).toArray } = H2
  have hC : H2.objs.size = s₂.heap.objs.size + 1 := by rw [← hH2, Heap.size_push]
  generalize hH3 : pushCells (H2.push { cls := .type "dict", data := .dict #[] }) scope.names = H3
  have k2 : ∀ a o, s₂.heap.get? a = some o → H2.get? a = some o := fun a o e => hH2 ▸ Heap.get?_push_of_some _ e
  have k3 : ∀ a o, H2.get? a = some o → H3.get? a = some o := fun a o e => hH3 ▸ pushCells_keeps _ _ _ _ (Heap.get?_push_of_some _ e)
  have k23 : ∀ a o, s₂.heap.get? a = some o → H3.get? a = some o := fun a o e => k3 a o (k2 a o e)
  have S₂ := S.stp x₂
  have hfr : ∀ a, s₂.heap.objs.size ≤ a → s.heap.get? a = none ∧ W.g.get? a = none := fun a ha => ⟨fresh_of_stp x₂ ha, (fresh3 x₂.inv ha).1⟩
  have x₃ : Stp W s { s₂ with heap := H3 } := x₂.trans (Stp.keep (tk := s₂.toks) x₂.inv k23)
  have hsz2 : (H2.push { cls := .type "dict", data := .dict #[] }).objs.size = H2.objs.size + 1 := Heap.size_push ..
  have hcells := cellsFrom_all scope.names (H2.push { cls := .type "dict", data := .dict #[] }) cl (fun p hp => by
    obtain ⟨v', hv'⟩ := S₂.all p.1 p.2 (hsub p hp)
    exact ⟨v', hv'.keeps fun a o e => Heap.get?_push_of_some _ (k2 a o e)⟩) hap
  rw [hsz2, hH3] at hcells
  have S₃ : St W ⟨s.heap, s, ad OL ++ b.O⟩ (compEnvC scope (cellsFrom (H2.objs.size + 1) scope.names cl) H2.objs.size env) FV [(s₂.heap.objs.size, gather ok res 0)] { s₂ with heap := H3 } :=
    { inv := x₃.inv
      ext := x₃.ext
      same := x₃.same
      ook := fun a ha => by
        rcases List.mem_cons.mp ha with rfl | ha
        · exact ⟨(hfr _ (Nat.le_refl _)).2, (fresh3 x₂.inv (Nat.le_refl _)).2, _, _, _, k3 _ _ (hH2 ▸ Heap.get?_push_size _ rfl), rfl⟩
        · exact (S.ook.ext x₃.ext) a ha
      fk := hkind, eg := S.eg, eb := S.eb
      loc := ⟨fun _ => none, (Heap.Ns.new H2 (.type "dict")).keeps fun a o e => hH3 ▸ pushCells_keeps _ _ _ _ e, fun x d h1 h2 => absurd h1 (hfv (x, d) (mem_of_lookup h2)).2.2.2⟩
      cel := fun x d h1 h2 => by
        obtain ⟨q1, q2, q3, _⟩ := hfv (x, d) (mem_of_lookup h2)
        obtain ⟨c, v, h3, h4, h5⟩ := S₂.cel x d q2 q1
        exact ⟨c, v, (q3 _).trans h3, h4.keeps k23, (h5.fresh (Heap.get?_none_of_le (Nat.le_refl _))).ext x₂.inv (.of_keep k23)⟩
      all := fun x c hx => hcells.1 (x, c) (mem_of_lookup hx)
      own := fun p hp => by
        rcases List.mem_cons.mp hp with rfl | hp
        · exact ⟨#[], ⟨_, k3 _ _ (hH2 ▸ Heap.get?_push_size _ rfl)⟩, by simp only [gather, RepL]⟩
        · exact nomatch hp
      ofresh := fun p hp => by
        rcases List.mem_cons.mp hp with rfl | hp
        · exact (hfr _ (Nat.le_refl _)).1
        · exact nomatch hp
      odisj := fun p hp => by
        rcases List.mem_cons.mp hp with rfl | hp
        · exact S₂.ook.size
        · exact nomatch hp
      apart := hcells.2
      lfresh := hfr _ (by rw [hC]; exact Nat.le_succ _) }
  have B := hB ⟨s.heap, s, ad OL ++ b.O⟩ (compEnvC scope (cellsFrom (H2.objs.size + 1) scope.names cl) H2.objs.size env) rfl rfl (hsto _ _ fun a ha => hfr a (by have ha' : H2.objs.size ≤ a := ha; omega))
  have hT : T 0 H3 := B.keep _ _ _ h0 (fun a o e _ => k23 a o e)
  have loop : codeAny W.M A (.compLoop (.ListComp elt [⟨target, iter, ifs, 0⟩] scope pos) 0 (.ref I) (.ref s₂.heap.objs.size) (compEnvC scope (cellsFrom (H2.objs.size + 1) scope.names cl) H2.objs.size env)) (compPost W.M A E use Q (.ref s₂.heap.objs.size) H2.objs.size) { s₂ with heap := H3 } := by
    refine comp_run B (htest _) (helt _) hsz hpick (fun s' S' => ?_) n 0 _ (by omega) S₃ hT
    obtain ⟨us, hp, hr⟩ := S'.own _ List.mem_cons_self
    obtain ⟨m, hn, _⟩ := S'.loc
    exact hQ _ _ s' ⟨S'.inv, S'.ext, S'.same⟩ (hfr _ (Nat.le_refl _)).1 (hfr _ (by rw [hC]; exact Nat.le_succ _)).1 ⟨us, hp, hr⟩ ⟨m, hn⟩
  exact codeAny_compStart_list loop (B.self 0 _ _ _ hT loop)

/-- Behind the comprehension its variables are let go. -/
theorem comp_off {acc C : Addr} {ds : List Dt} {s' : Shared} {us : Array Value} {m : Str → Option Value} {h' : Heap} {O : List Addr} (I : Inv W s.heap) (x : Stp W s s') (hC : s.heap.get? C = none) (hp : s'.heap.PlainList acc us) (hr : RepL s'.heap O ds us.toList) (hn : s'.heap.Ns C m) (hs : Heap.SameBut C s'.heap h') :
    Stp W s { s' with heap := h' } ∧ h'.PlainList acc us ∧ RepL h' O ds us.toList := by
  obtain ⟨oC, es, ep, eC, hdC, _⟩ := hn
  have hx := hs.extBut
  have hCg : W.g.get? C = none := by
    cases q : W.g.get? C with
    | none => rfl
    | some o => rw [I.base _ _ q] at hC; cases hC
  have sk : SeqKeep O s'.heap h' := seqKeep_but hx fun o e xs n q => by rw [eC] at e; cases e; rw [hdC] at q; cases q
  have hI : Inv W h' := x.inv.extBut hx hCg (x.inv.notP_of eC (fun vs q => by rw [hdC] at q; cases q)) (fun o e vs q => by rw [eC] at e; cases e; rw [hdC] at q; cases q)
  have hX : Ext W s.heap h' := x.ext.butP (P := (· = C)) hx (fun a q => by rw [q]; exact hC)
  refine ⟨⟨hI, hX, Sm.trans x.same ⟨h', s'.toks, rfl⟩⟩, ?_, hr.mono sk⟩
  obtain ⟨k, e⟩ := hp
  exact ⟨k, hx _ _ (fun q => by rw [q, eC] at e; cases e; cases hdC) e⟩

theorem evn_comp {elt target iter : Expr} {ifs : List Expr} {scope : Scope} {pos : Pos} {cl : List (Str × Addr)} {xs : List Str} {n : Nat} {Dn : Nat → List (Str × Dt)} {FV : List (Str × Dt)} {ok : Nat → Bool} {res : Nat → Dt}
    (hin : CompIn W A env D iter target xs n Dn)
    (hclos : closureFor scope env = pure cl) (hkind : scope.kind = .function) (hnames : ∀ y ∈ scope.names, y.2 = .local → scope.names.lookup y.1 = some .local)
    (hs : ∀ x, foldedSetIterable iter env x = pure x)
    (hsub : ∀ p ∈ cl, env.cells.lookup p.1 = some p.2) (hap : (∀ x c, env.cells.lookup x = some c → (x, c) ∈ env.cells) → (env.cells.Pairwise fun x y => x.2 ≠ y.2) → cl.Pairwise fun x y => x.2 ≠ y.2)
    (hfv : ∀ p ∈ FV, D.lookup p.1 = some p.2 ∧ (env.kindOf p.1 = some .cell ∨ env.kindOf p.1 = some .free) ∧ (∀ k, (cellsFrom k scope.names cl).lookup p.1 = env.cells.lookup p.1) ∧ (relabel scope env).names.lookup p.1 ≠ some .local)
    (hsto : ∀ C b', (∀ a, C ≤ a → b'.hb.get? a = none ∧ W.g.get? a = none) → ∀ x ∈ xs, StoX W b' (compEnvC scope (cellsFrom (C + 1) scope.names cl) C env) x)
    (htest : ∀ C i, i < n → Tsts W A (compEnvC scope (cellsFrom (C + 1) scope.names cl) C env) (Dn i ++ FV) ifs (ok i))
    (helt : ∀ C i, i < n → ok i = true → Ev W A (compEnvC scope (cellsFrom (C + 1) scope.names cl) C env) (Dn i ++ FV) elt (res i)) (hsz : n ≤ 100000)
    (hpick : ∀ i, i < n → ∀ p ∈ FV, (Dn i ++ FV).lookup p.1 = some p.2) :
    EvN W A env D (.ListComp elt [⟨target, iter, ifs, 0⟩] scope pos) (gather ok res n) := fun b OL s S => by
  rw [eval_ListComp]
  refine comp_core (use := none) S hin hclos hkind hnames hs hsub (hap (fun _ _ h => mem_of_lookup h) S.apart) hfv hsto htest (fun C i hi hc OL' => (helt C i hi hc).o) hsz hpick fun acc C s' x h1 h2 h3 h4 => ?_
  obtain ⟨us, hp, hr⟩ := h3
  obtain ⟨m, hn⟩ := h4
  refine ⟨m, hn, fun h' hs' => ?_⟩
  obtain ⟨y1, y2, y3⟩ := comp_off S.inv x h2 hp hr hn hs'
  exact ⟨y1, acc, us, rfl, h1, y2, y3⟩

theorem EvN.ev {e : Expr} {ds : List Dt} (h : EvN W A env D e ds) : Ev W A env D e (.lst ds) := fun b OL s S =>
  wpAny_mono (h b OL s S) (fun v s' y => by
    obtain ⟨x, l, vs, rfl, h1, h2, h3⟩ := y
    refine ⟨x, ?_⟩
    simp only [Rep]
    exact ⟨l, vs, rfl, fun q => S.ook.new h1 q, h2, h3.sub fun a ha => List.mem_cons_of_mem _ ha⟩) fun _ _ y => y
end
end Mine
end

section
-- L17
open PySem PySem.W PySem.Calls PyProof.Rows
set_option maxRecDepth 100000

namespace Mine
open AutoSeq1 (wpAny_loadPart')

theorem meets_enumerate_newT (l : Addr) (items : Array Value) (n : Nat) (dct : Option Addr) (sl : Array (Option Value)) :
    Meets (Builtin.«enumerate.__new__» ⟨[.type "enumerate", .ref l], []⟩) (fun _ R s => s.heap.get? l = some { cls := .type "tuple", dict := dct, data := .seq items n, slots := sl } ∧
      R (.ok (.ret (.ref (s.heap.push { cls := .type "tuple_iterator", data := .fields #[.ref l, .int 0 0] }).objs.size)))
        { s with heap := (s.heap.push { cls := .type "tuple_iterator", data := .fields #[.ref l, .int 0 0] }).push { cls := .type "enumerate", data := .fields #[.none, .bool false, .ref s.heap.objs.size, rawInt 0, .none, .none] } }) :=
  .of_wp fun prog w A R s h => by
    obtain ⟨hp, g, d, tk, os⟩ := s; obtain ⟨hl, h⟩ := h
    have hsub := sub_enumerate
    have hL : Heap.IsTuple (Shared.heap ⟨hp, g, d, tk, os⟩) l items := ⟨_, hl, rfl, n, rfl⟩
    wp_walk using wpAny_loadPart' hl
    refine wpAny_stack_any fun st => wpAny_pure ?_
    split
    · rename_i c _ _ _ _ _
      cases (c == Value.type "enumerate")
      · wp_walk using wpAny_loadPart' hl, wpAny_pyIter_tuple hL
        exact ⟨_, rfl, h⟩
      · wp_walk using wpAny_loadPart' hl, wpAny_pyIter_tuple hL
        exact ⟨_, rfl, h⟩
    · wp_walk using wpAny_loadPart' hl, wpAny_pyIter_tuple hL
      exact ⟨_, rfl, h⟩

section
variable {prog : Program} {w : World} {A : Around} {E : Value → Shared → Prop} {s : Shared}

theorem call_enumerate_tuple {l : Addr} {items : Array Value} {Q : Value → Shared → Prop} (hL : s.heap.IsTuple l items)
    (h : ∀ h', IsEnum h' (s.heap.objs.size + 1) s.heap.objs.size 0 .none → h'.IsTupleIter s.heap.objs.size l 0 → h'.objs.size = s.heap.objs.size + 2 →
      (∀ b o, s.heap.get? b = some o → h'.get? b = some o) → Q (.ref (s.heap.objs.size + 1)) { s with heap := h' }) :
    wpAny (model prog w) A (call (.type "enumerate") [.ref l]) Q E s := by
  obtain ⟨⟨c, dct, dt, sl⟩, hl, hc, n, hd⟩ := hL
  replace hc : c = .type "tuple" := hc
  replace hd : dt = .seq items n := hd
  subst hc hd
  refine callType_new F.called_enumerate (by decide) (F.typeCall_enumerate_1 _) (F.newCall_enumerate_1 _) (fun obj => F.args_object_init_2 obj _) F.entry_enumerate_new
    (meets_enumerate_newT l items n dct sl) ⟨hl, ?_⟩
  have hz : (s.heap.push { cls := .type "tuple_iterator", data := .fields #[.ref l, .int 0 0] }).objs.size = s.heap.objs.size + 1 := Heap.size_push ..
  show _ ∧ _
  rw [hz]
  have he : IsEnum ((s.heap.push { cls := .type "tuple_iterator", data := .fields #[.ref l, .int 0 0] }).push
      { cls := .type "enumerate", data := .fields #[.none, .bool false, .ref s.heap.objs.size, rawInt 0, .none, .none] }) (s.heap.objs.size + 1) s.heap.objs.size 0 .none := by
    have := Heap.get?_push_size (s.heap.push { cls := .type "tuple_iterator", data := .fields #[.ref l, .int 0 0] })
      (o := { cls := .type "enumerate", data := .fields #[.none, .bool false, .ref s.heap.objs.size, rawInt 0, .none, .none] }) rfl
    rw [hz] at this; exact this
  refine ⟨⟨_, he, rfl⟩, h _ he ⟨_, Heap.get?_push_of_some _ (Heap.get?_push_size _ rfl), rfl, rfl⟩ (by rw [Heap.size_push, hz]) fun b o x => Heap.get?_push_of_some _ (Heap.get?_push_of_some _ x)⟩

theorem nextOf_tuple_item {it l : Addr} {i : Nat} {items} {x : Value} {Q : Value → Shared → Prop} (hit : s.heap.IsTupleIter it l i)
    (hl : s.heap.IsTuple l items) (hx : items[i]? = some x)
    (hQ : ∀ h', h'.IsTupleIter it l (i + 1) → Heap.SameBut it s.heap h' → Q x { s with heap := h' }) :
    wpAny (model prog w) A (Builtin.SmallTypes.nextOf (.ref it)) Q E s := by
  obtain ⟨o, ho, hc, hd⟩ := id hit
  obtain ⟨ol, hol, _, nl, hdl⟩ := hl
  unfold Builtin.SmallTypes.nextOf
  refine wpAny_bind (wpAny_callSpecial?_slot (name := Str.ofString "__next__") hit.typeIs F.slot_tuple_iterator_next
    (wpAny_call_entry F.slot_tuple_iterator_next hit.typeIs F.entry_tuple_iterator_next ?_ (F.args_tuple_iterator_next_1 _)))
  show wpAny _ _ (field (.ref it) 0 >>= _) _ _ s
  refine wpAny_bind (wpAny_field ho hd (x := .ref l) rfl ?_)
  show wpAny _ _ (if (Value.ref l == Value.none) = true then _ else _) _ _ s
  rw [if_neg (show ¬ ((Value.ref l == Value.none) = true) from Bool.false_ne_true)]
  show wpAny _ _ (field (.ref it) 1 >>= _) _ _ s
  refine wpAny_bind (wpAny_field ho hd (x := .int i 0) rfl ?_)
  show wpAny _ _ (seqItems? (.ref l) >>= _) _ _ s
  refine wpAny_bind (wpAny_seqItems hol hdl ?_)
  simp only [Int.toNat_natCast, hx]
  refine wpAny_bind (wpAny_setField ho hd (by simp) (wpAny_pure ⟨x, rfl, wpAny_pure (hQ _ ?_ (Heap.SameBut.update ..))⟩))
  exact ⟨_, Heap.get?_update_self _ ho (Obj.isFreed_of_fields (Obj.data_mapFields hd _)), (Obj.cls_mapFields ..).trans hc, by
    rw [Obj.data_mapFields hd]; simp [rawInt]⟩

theorem nextOf_tuple_end {it l : Addr} {i : Nat} {items} {Q : Value → Shared → Prop} (hh : A.handled = none)
    (hit : s.heap.IsTupleIter it l i) (hl : s.heap.IsTuple l items) (hx : items[i]? = none)
    (hE : ∀ h' e, Heap.ExtBut it s.heap h' → (∃ o, h'.get? e = some o ∧ o.cls = .type "StopIteration") → E (.ref e) { s with heap := h' }) :
    wpAny (model prog w) A (Builtin.SmallTypes.nextOf (.ref it)) Q E s := by
  obtain ⟨o, ho, hc, hd⟩ := id hit
  obtain ⟨ol, hol, _, nl, hdl⟩ := hl
  unfold Builtin.SmallTypes.nextOf
  refine wpAny_bind (wpAny_callSpecial?_slot (name := Str.ofString "__next__") hit.typeIs F.slot_tuple_iterator_next
    (wpAny_call_entry F.slot_tuple_iterator_next hit.typeIs F.entry_tuple_iterator_next ?_ (F.args_tuple_iterator_next_1 _)))
  show wpAny _ _ (field (.ref it) 0 >>= _) _ _ s
  refine wpAny_bind (wpAny_field ho hd (x := .ref l) rfl ?_)
  show wpAny _ _ (if (Value.ref l == Value.none) = true then _ else _) _ _ s
  rw [if_neg (show ¬ ((Value.ref l == Value.none) = true) from Bool.false_ne_true)]
  show wpAny _ _ (field (.ref it) 1 >>= _) _ _ s
  refine wpAny_bind (wpAny_field ho hd (x := .int i 0) rfl ?_)
  show wpAny _ _ (seqItems? (.ref l) >>= _) _ _ s
  refine wpAny_bind (wpAny_seqItems hol hdl ?_)
  simp only [Int.toNat_natCast, hx]
  refine wpAny_bind (wpAny_rule (wpAny_bind (wpAny_setField ho hd (by simp) ?_)))
  show wpAny _ _ (newExc (.type "StopIteration") [] >>= _) _ _ _
  refine wpAny_bind ?_
  simp only [newExc, newTuple]
  refine wpAny_bind (wpAny_newObj_type ?_ (by size_fits))
  refine wpAny_bind (m := firstArgMember _ _) (wpAny_of_eq (a := Value.none) (by first | rfl | (simp only [firstArgMember]; rfl)) ?_)
  refine wpAny_newObj_type ?_ (by size_fits)
  simp only [raiseNew]
  refine wpAny_bind (wpAny_handled ?_)
  first | rw [show A.in1.handled = none from hh] | rw [hh]
  refine wpAny_bind (wpAny_pure (wpAny_throw ?_))
  exact hE _ _ (((Heap.SameBut.update ..).extBut.push _).push _) ⟨_, Heap.get?_push_size _ rfl, rfl⟩

theorem letGo_tupleiter {elts : List Expr} {x1} {pos : Pos} {I l T : Addr} {i : Nat} {Q : Unit → Shared → Prop} (hit : s.heap.IsTupleIter I l i) (hQ : Q () s) :
    wpAny (model prog w) A (letOwnedTupleGo (.Tuple elts x1 pos) (.ref I) (.ref T)) Q E s := by
  obtain ⟨o, ho, hc, hd⟩ := hit
  unfold letOwnedTupleGo
  refine wpAny_bind (wpAny_load ho ?_)
  rw [hc, hd]
  show wpAny _ A (if (["enumerate", "zip", "dict_itemiterator", "dict_reverseitemiterator", "odict_iterator", "itertools.zip_longest", "itertools.pairwise"].contains "tuple_iterator" &&
      (#[.ref l, .int i 0] : Array Value)[0]? == some (rawInt T)) = true then _ else _) Q E s
  rw [if_neg (by
    intro h
    rw [show (["enumerate", "zip", "dict_itemiterator", "dict_reverseitemiterator", "odict_iterator", "itertools.zip_longest", "itertools.pairwise"].contains "tuple_iterator") = false from by decide, Bool.false_and] at h
    cases h)]
  exact wpAny_pure hQ
end

theorem drawsTuple {prog : Program} {w : World} {A : Around} (hh : A.handled = none) (it l : Addr) (hne : l ≠ it) (items : Array Value) :
    Draws prog w A it [it, l] items.size (fun i v => items[i]? = some v) (fun i h => h.IsTupleIter it l i ∧ h.IsTuple l items) where
  live := fun _ _ st => let ⟨o, ho, _⟩ := st.1; ⟨o, ho⟩
  frame := fun _ _ _ st hk => ⟨let ⟨o, ho, r⟩ := st.1; ⟨o, hk it (by simp) o ho, r⟩, let ⟨o, ho, r⟩ := st.2; ⟨o, hk l (by simp) o ho, r⟩⟩
  item := fun i s Q E hi st hQ => by
    refine nextOf_tuple_item st.1 st.2 (x := items[i]) (by simp [hi]) fun h' hit' hs' => ?_
    exact hQ _ h' s.toks (by simp [hi]) ⟨hit', let ⟨o, ho, r⟩ := st.2; ⟨o, hs'.extBut l o hne ho, r⟩⟩ hs'
  done := fun s Q E st hE => nextOf_tuple_end hh st.1 st.2 (by simp) hE

section
variable {W : Wd} {A : Around} {b : Base} {env : Env} {D : List (Str × Dt)} {OL : List (Addr × List Dt)} {s : Shared} {E : Value → Shared → Prop}

/-- A pair is bound to two names. -/
theorem assign2K {x y : Str} {p₁ p₂ pt : Pos} {k : Nat} {a : Addr} {v₁ v₂ : Value} {d₁ d₂ : Dt} {Q : Unit → Shared → Prop} (hA : A.handled = none) (S : St W b env D OL s) (ht : IsTup s.heap a #[v₁, v₂]) (hx : StoX W b env x) (hy : StoX W b env y)
    (r1 : Rep s.heap (ad OL ++ b.O) d₁ v₁) (r2 : Rep s.heap (ad OL ++ b.O) d₂ v₂) (h : ∀ s', St W b env ((y, d₂) :: (x, d₁) :: D) OL s' → Kp (ad OL ++ b.O) s.heap s'.heap → Q () s') :
    wpAny W.M A (assign (.Tuple [.Name x p₁, .Name y p₂] k pt) env (.ref a)) Q E s := by
  refine assign_Tuple_tuple hA ht rfl rfl fun h' he' => ?_
  have kp : ∀ c o, s.heap.get? c = some o → h'.get? c = some o := fun c o q => he' c o (Nat.ne_of_lt (Heap.lt_size q)) q
  have x₂ : Stp W s { s with heap := h' } := Stp.keep (tk := s.toks) S.inv kp
  show wpAny W.M A (do holding [v₂] (assign (.Name x p₁) env v₁); assignInOrder [assign (.Name y p₂) env] [v₂]) _ _ _
  refine wpAny_bind (wpAny_holding (assign_name (storeK (S.stp x₂) hx (r1.ext S.inv x₂.ext) fun s₃ S₃ k₃ => ?_)))
  show wpAny W.M A (do holding [] (assign (.Name y p₂) env v₂); assignInOrder [] []) _ _ _
  refine wpAny_bind (wpAny_holding (assign_name (storeK S₃ hy ((r2.ext S.inv x₂.ext).mono k₃.seq) fun s₄ S₄ k₄ => ?_)))
  exact wpAny_pure (h s₄ S₄ (Kp.trans (fun a o e _ => kp a o e) (k₃.trans k₄)))

/-- The iterator keeps no tuple of its own. -/
def NoOwn (W : Wd) (A : Around) (I : Addr) (T : Nat → Heap → Prop) : Prop := ∀ i (s : Shared) elts k pos a (Q : Unit → Shared → Prop) (E : Value → Shared → Prop), T i s.heap → Q () s → wpAny W.M A (letOwnedTupleGo (.Tuple elts k pos) (.ref I) (.ref a)) Q E s

abbrev pairs (ps : List (Dt × Dt)) : List Dt := ps.map fun p => .tup [p.1, p.2]

theorem bd_pair {O : List Addr} {I : Addr} {fp wr : List Addr} {ps : List (Dt × Dt)} {P : Nat → Value → Prop} {T : Nat → Heap → Prop} {K : Heap → Prop} {x y : Str} {p₁ p₂ pt : Pos} {k : Nat} (hA : A.handled = none) (Z : Itr W A O I fp wr (pairs ps) P T K) (hgo : NoOwn W A I T) (hwf : ∀ a ∈ wr, W.g.get? a = none ∧ b.hb.get? a = none) (hx : StoX W b env x) (hy : StoX W b env y) :
    Bd W A b env O (.Tuple [.Name x p₁, .Name y p₂] k pt) I ps.length (fun i h => T i h ∧ K h) (fun i => [(y, (ps.getD i (.none, .none)).2), (x, (ps.getD i (.none, .none)).1)]) where
  step := fun D OL s i R E hO hi S hT h => by
    have hi' : i < (pairs ps).length := by rw [List.length_map]; exact hi
    refine Z.walk.item i s _ _ hi' hT.1 fun v h' tk hP hT' kp => ?_
    have S₁ : St W b env D OL { s with heap := h', toks := tk } := S.walked Z hT.1 hwf kp
    have sk : SeqKeep O s.heap h' := fun a o xs n _ hd e => kp a o (fun hm => by
      obtain ⟨o', vs, e', hd', _⟩ := Z.wrok i _ a hT.1 hm
      rw [e] at e'; cases e'; rw [hd] at hd'; cases hd') e
    have hK' := Z.kmono _ _ sk hT.2
    obtain ⟨d, hd, r⟩ := Z.item i v h' hP hK'
    have hd' : d = .tup [(ps.getD i (.none, .none)).1, (ps.getD i (.none, .none)).2] := by
      rw [List.getElem?_map, List.getElem?_eq_getElem hi] at hd
      simp only [Option.map_some, Option.some.injEq] at hd
      rw [← hd, List.getD_eq_getElem?_getD, List.getElem?_eq_getElem hi]; rfl
    subst hd'
    simp only [Rep, RepL] at r
    obtain ⟨a, vs, rfl, ha, ht, v₁, _, e1, r1, v₂, _, rfl, r2, rfl⟩ := r
    have hvs : vs = #[v₁, v₂] := by
      have := congrArg List.toArray e1
      simpa using this
    subst hvs
    refine hgo (i + 1) _ _ _ _ _ _ _ hT' ?_
    refine assign2K hA S₁ ht hx hy (by rw [hO]; exact r1) (by rw [hO]; exact r2) fun s₂ S₂ k₂ => h s₂ S₂ ?_
    rw [hO] at k₂
    exact Z.kp ⟨hT', hK'⟩ k₂
  done := fun D OL s R E hO S hT h => Z.walk.done s _ _ (by rw [List.length_map]; exact hT.1) fun h' tk kp => h _ (S.walked Z (i := ps.length) hT.1 hwf kp)
  keep := fun i h h' x k => Z.kp x k
  self := fun i s Q E hT hQ => Z.walk.self i s Q E hT.1 hQ

/-- As Ib, for an iterator that keeps no tuple of its own. -/
def Ib2 (W : Wd) (A : Around) (env : Env) (D : List (Str × Dt)) (iter : Expr) (ds : List Dt) : Prop :=
  ∀ b OL s, St W b env D OL s → wpAny W.M A (eval iter env) (fun v s₁ => wpAny W.M A (pyIter v) (fun it s₂ => Stp W s s₂ ∧ ∃ I fp wr P T K, it = .ref I ∧ Itr W A (ad OL ++ b.O) I fp wr ds P T K ∧ NoOwn W A I T ∧ T 0 s₂.heap ∧ K s₂.heap ∧ (∀ a ∈ wr, s.heap.get? a = none)) (fun _ _ => False) s₁) (fun _ _ => False) s

theorem ib2_tup {iter : Expr} {ds : List Dt} (hA : A.handled = none) (h : Ev W A env D iter (.tup ds)) : Ib2 W A env D iter ds := fun b OL s S => by
  refine (h b OL s S).use fun v s₁ x₁ r₁ => ?_
  simp only [Rep] at r₁
  obtain ⟨l, items, rfl, hlO, hl, hr⟩ := r₁
  have hlt : l ≠ s₁.heap.objs.size := by obtain ⟨o, e, _⟩ := hl; exact Nat.ne_of_lt (Heap.lt_size e)
  have x₂ : Stp W s₁ { s₁ with heap := s₁.heap.push { cls := .type "tuple_iterator", data := .fields #[.ref l, .int 0 0] } } := Stp.push (tk := s₁.toks) x₁.inv
  refine iter_tuple hl ⟨x₁.trans x₂, _, _, _, _, _, _, rfl, itr_tup hA hlt hlO (by rw [← Array.length_toList]; exact hr.length), fun i s elts k pos a Q E hT hQ => letGo_tupleiter hT.1 hQ, ⟨⟨_, Heap.get?_push_size _ rfl, rfl, rfl⟩, ?_⟩, hr.ext x₁.inv x₂.ext, fun a ha => ?_⟩
  · obtain ⟨o, e, hc, n, hd⟩ := hl
    exact ⟨_, Heap.get?_push_of_some _ e, hc, n, hd⟩
  · simp only [List.mem_singleton] at ha; subst ha
    exact fresh_of_stp x₁ (Nat.le_refl _)

end
end Mine
end

section
-- L18
open PySem PySem.W PySem.Calls PyProof.Rows
set_option maxRecDepth 100000

namespace Mine

section
variable {W : Wd} {A : Around} {b : Base} {env : Env} {D : List (Str × Dt)} {OL : List (Addr × List Dt)} {s : Shared} {E : Value → Shared → Prop}

theorem rb_kp {D' : List (Str × Dt)} {OL' : List (Addr × List Dt)} {s' : Shared} (S : St W b env D OL s) (hcn : ∀ x c, (x, c) ∈ env.cells → env.cells.lookup x = some c) (S' : St W (rb b env OL s) env D' OL' s') : Kp (ad OL ++ b.O) s.heap s'.heap := fun a o e hc => by
  refine S'.ext.at (fun hP => ?_) (hideAll_get _ e fun q => ?_) (by rcases hc with ⟨_, hc, _⟩ | ⟨_, _, hc, _⟩ <;> (rw [hc]; nofun))
  · obtain ⟨ps, e2⟩ := S.inv.notP hP
    rw [e] at e2; cases e2
    rcases hc with ⟨_, _, hc⟩ | ⟨_, _, hc, _⟩
    · exact hc rfl
    · cases hc
  · rcases List.mem_cons.mp q with q | q
    · obtain ⟨m, ⟨oL, es, ep, eL, hdL, _⟩, _⟩ := S.loc
      rw [← q, e] at eL; cases eL
      rcases hc with ⟨_, hc, _⟩ | ⟨_, _, hc, _⟩ <;> (rw [hdL] at hc; cases hc)
    · rcases List.mem_append.mp q with q | q
      · obtain ⟨p, hp, rfl⟩ := List.mem_map.mp q
        obtain ⟨v', oc, ec, hdc⟩ := S.all p.1 p.2 (hcn _ _ hp)
        rw [e] at ec; cases ec
        rcases hc with ⟨_, hc, _⟩ | ⟨_, _, hc, _⟩ <;> (rw [hdc] at hc; cases hc)
      · rcases hc with ⟨_, hc, _⟩ | ⟨_, _, _, hc⟩
        · obtain ⟨_, _, oo, xs, n, eo, hdo⟩ := S.ook a (List.mem_append_left _ q)
          rw [e] at eo; cases eo
          rw [hdo] at hc; cases hc
        · exact hc (List.mem_append_left _ q)

/-- One turn of a for whose walk binds names. -/
theorem forB_turn {R : Result → Shared → Prop} {target : Expr} {body orelse : List Stmt} {I : Addr} {n i : Nat} {T : Nat → Heap → Prop} {Dn : Nat → List (Str × Dt)} (S : St W b env D OL s) (C : CF W b env) (hcn : ∀ x c, (x, c) ∈ env.cells → env.cells.lookup x = some c)
    (B : Bd W A b env (ad OL ++ b.O) target I n T Dn) (hT : T i s.heap) (hi : i < n)
    (turn : ∀ b' s₁, St W b' env (Dn i ++ D) OL s₁ → CF W b' env → b'.O = b.O → b'.s₀ = b.s₀ →
      (∀ D' OL' s', St W b' env D' OL' s' → ad OL' = ad OL → St W b env D' OL' s' ∧ T (i + 1) s'.heap) →
      wpAny W.M A (execs body env) (fun f s₃ => match f with
          | .next | .cont => codeAny W.M A (.forLoop target (.ref I) body orelse env) R s₃
          | .brk => R (.ok .next) s₃
          | .ret v => R (.ok (.ret v)) s₃) (notedBy W.M A env fun e s' => R (.error e) s') s₁) :
    codeAny W.M A (.forLoop target (.ref I) body orelse env) R s := by
  refine codeAny_for1 (wpAny_mono (B.step D OL s i (fun s₂ => wpAny W.M A (execs body env) (fun f s₃ => match f with
          | .next | .cont => codeAny W.M A (.forLoop target (.ref I) body orelse env) R s₃
          | .brk => R (.ok .next) s₃
          | .ret v => R (.ok (.ret v)) s₃) (notedBy W.M A env fun e s' => R (.error e) s') s₂) (notedBy W.M A env fun e s' => R (.error e) s') rfl hi S hT fun s₁ S₁ hT₁ => ?_) (fun r s₁ h₁ => ?_) fun _ _ h' => h')
  · exact turn (rb b env OL s₁) s₁ (rb_st S₁) (rb_cf C) rfl rfl fun D' OL' s' S' hO => ⟨S₁.back C hcn S' hO, B.keep _ _ _ hT₁ (rb_kp S₁ hcn S')⟩
  · cases r with
    | none => exact h₁.elim
    | some v => exact h₁

theorem forB_end {R : Result → Shared → Prop} {target : Expr} {body orelse : List Stmt} {I : Addr} {n : Nat} {T : Nat → Heap → Prop} {Dn : Nat → List (Str × Dt)} (S : St W b env D OL s) (B : Bd W A b env (ad OL ++ b.O) target I n T Dn) (hT : T n s.heap)
    (h : ∀ s', St W b env D OL s' → wpAny W.M A (execs orelse env) (fun f s₃ => R (.ok f) s₃) (notedBy W.M A env fun e s' => R (.error e) s') s') : codeAny W.M A (.forLoop target (.ref I) body orelse env) R s := by
  refine codeAny_for1 (wpAny_mono (B.done D OL s _ _ rfl S hT h) (fun r s₁ h₁ => ?_) fun _ _ h' => h')
  cases r with
  | none => exact h₁
  | some v => exact h₁.elim

/-- A for over pairs. -/
theorem x_forP {x y : Str} {p₁ p₂ pt : Pos} {k : Nat} {iter : Expr} {body orelse rest : List Stmt} {pos : Pos} {ps : List (Dt × Dt)} {Q : Flow → Shared → Prop} (S : St W b env D OL s) (hA : A.handled = none) (hi : Ib2 W A env D iter (pairs ps)) (hs : ∀ x, foldedSetIterable iter env x = pure x) (hx : StoX W b env x) (hy : StoX W b env y)
    (h : ∀ I T s₂, St W b env D OL s₂ → Bd W A b env (ad OL ++ b.O) (.Tuple [.Name x p₁, .Name y p₂] k pt) I ps.length T (fun i => [(y, (ps.getD i (.none, .none)).2), (x, (ps.getD i (.none, .none)).1)]) → T 0 s₂.heap →
      codeAny W.M A (.forLoop (.Tuple [.Name x p₁, .Name y p₂] k pt) (.ref I) body orelse env) (LoopR W A env rest Q E) s₂) :
    wpAny W.M A (execs (.For (.Tuple [.Name x p₁, .Name y p₂] k pt) iter body orelse pos :: rest) env) Q E s := by
  refine wpAny_execs_cons (wpAny_For (wpAny_mono (hi b OL s S) (fun v s₁ y => wpAny_mono y (fun it s₂ y => ?_) fun _ _ y => y.elim) fun _ _ y => y.elim) hs)
  obtain ⟨x₂, I, fp, wr, P, T, K, rfl, Z, hgo, h0, hK, hf⟩ := y
  refine h I (fun i h => T i h ∧ K h) s₂ (S.stp x₂) (bd_pair hA Z hgo (fun a ha => ⟨?_, ?_⟩) hx hy) ⟨h0, hK⟩
  · cases q : W.g.get? a with
    | none => rfl
    | some o => have := S.inv.base _ _ q; rw [hf a ha] at this; cases this
  · cases q : b.hb.get? a with
    | none => rfl
    | some o =>
      by_cases hP : a ∈ W.Ps
      · obtain ⟨ps, e⟩ := S.inv.notP hP
        rw [hf a ha] at e; cases e
      · obtain ⟨sl, this⟩ := S.ext.there hP q; rw [hf a ha] at this; cases this
end
end Mine
end

section
-- L19
open PySem PySem.W PySem.Calls PyProof.Rows
set_option maxRecDepth 100000

namespace Mine

section
variable {W : Wd} {A : Around} {b : Base} {env : Env} {D : List (Str × Dt)} {OL : List (Addr × List Dt)} {s : Shared} {E : Value → Shared → Prop}

/-- An object that may be an iterator. -/
def ItO (h : Heap) (a : Addr) : Prop := ∃ o vs, h.get? a = some o ∧ o.data = .fields vs ∧ o.cls ≠ .none ∧ ∀ q t, vs[1]? ≠ some (.str q t)

theorem St.wrote {wr : List Addr} {h' : Heap} {tk : Nat} (S : St W b env D OL s) (cls : ∀ a ∈ wr, ItO s.heap a) (hwf : ∀ a ∈ wr, W.g.get? a = none ∧ b.hb.get? a = none)
    (kp : ∀ a o, a ∉ wr → s.heap.get? a = some o → h'.get? a = some o) : St W b env D OL { s with heap := h', toks := tk } := by
  have nw : ∀ {a : Addr} {o : Obj}, s.heap.get? a = some o → (∀ vs, o.data ≠ .fields vs) → a ∉ wr := fun e q hm => by
    obtain ⟨o', vs, e', hd, _⟩ := cls _ hm
    rw [e] at e'; cases e'; exact q _ hd
  have sk : SeqKeep (ad OL ++ b.O) s.heap h' := fun a o xs n _ hd e => kp a o (nw e fun vs q => by rw [hd] at q; cases q) e
  refine { inv := S.inv.extBut' kp (fun a ha => (hwf a ha).1) (fun a ha hP => ?_) (fun a ha q hq => ?_)
           ext := S.ext.butP (P := (· ∈ wr)) kp (fun a q => (hwf a q).2)
           same := S.same.trans (Sm.mk _ _ _)
           ook := fun a ha => ?_
           fk := S.fk, eg := S.eg, eb := S.eb
           loc := ?_
           cel := fun y d h1 h2 => ?_
           all := fun y c h1 => ?_
           own := fun p hp' => ?_
           ofresh := S.ofresh, odisj := S.odisj, apart := S.apart, lfresh := S.lfresh }
  · obtain ⟨ps, e⟩ := S.inv.notP hP
    obtain ⟨o', vs, e', _, hc, _⟩ := cls a ha
    rw [e] at e'; cases e'; exact hc rfl
  · obtain ⟨c, o, vs, t, e1, e2, e3, e4⟩ := hq
    cases e1
    obtain ⟨o', vs', e', hd, _, hn⟩ := cls a ha
    rw [e2] at e'; cases e'
    rw [e3] at hd; cases hd
    exact hn _ _ e4
  · exact S.ook.keep (fun a o xs n _ hd e => kp a o (nw e fun vs q => by rw [hd] at q; cases q) e) a ha
  · obtain ⟨m, ⟨o, es, ep, e, hd, r⟩, k⟩ := S.loc
    refine ⟨m, ⟨o, es, ep, kp _ _ (nw e fun vs q => by rw [hd] at q; cases q) e, hd, r⟩, fun y d h1 h2 => ?_⟩
    obtain ⟨v, h3, h4⟩ := k y d h1 h2
    exact ⟨v, h3, h4.mono sk⟩
  · obtain ⟨c, v, h3, ⟨o, e, hd⟩, h5⟩ := S.cel y d h1 h2
    exact ⟨c, v, h3, ⟨o, kp _ _ (nw e fun vs q => by rw [hd] at q; cases q) e, hd⟩, h5.mono sk⟩
  · obtain ⟨v, o, e, hd⟩ := S.all y c h1
    exact ⟨v, o, kp _ _ (nw e fun vs q => by rw [hd] at q; cases q) e, hd⟩
  · obtain ⟨vs, ⟨n, e⟩, r⟩ := S.own p hp'
    exact ⟨vs, ⟨n, kp _ _ (nw e fun vs q => by cases q) e⟩, r.mono sk⟩

/-- enumerate over a tuple, bound to two names. -/
theorem bd_enum {O : List Addr} {e it l : Addr} {items : Array Value} {ds : List Dt} {x y : Str} {p₁ p₂ pt : Pos} {k : Nat} (hA : A.handled = none) (hei : e ≠ it) (hle : l ≠ e) (hli : l ≠ it) (hlO : l ∉ O) (hlen : items.size = ds.length)
    (hwf : ∀ a ∈ [e, it], W.g.get? a = none ∧ b.hb.get? a = none) (hx : StoX W b env x) (hy : StoX W b env y) :
    Bd W A b env O (.Tuple [.Name x p₁, .Name y p₂] k pt) e ds.length (fun i h => ((∃ old, IsEnum h e it i old) ∧ (h.IsTupleIter it l i ∧ h.IsTuple l items)) ∧ RepL h O ds items.toList) (fun i => [(y, ds.getD i .none), (x, .int i)]) := by
  have Wk := WalksT.enumerateD (prog := W.prog) (w := W.w) (A := A) (drawsTuple (A := A.in1) hA it l hli items) e hei (by simp [hei, Ne.symm hle]) (by simp)
  have clsI : ∀ {h : Heap} {i : Nat}, h.IsTupleIter it l i → ItO h it := fun hit => by
    obtain ⟨o, eo, hc, hd⟩ := hit
    exact ⟨o, _, eo, hd, by rw [hc]; nofun, fun q t x => by simp at x⟩
  have clsE : ∀ {h : Heap} {i : Int} {old : Value}, IsEnum h e it i old → ItO h e := fun he => ⟨_, _, he, rfl, nofun, fun q t x => by simp at x⟩
  have clsE' : ∀ {h : Heap} {i : Int} {old : Value} {a : Addr}, IsEnumOut h e it i old a → ItO h e := fun he => ⟨_, _, he, rfl, nofun, fun q t x => by simp at x⟩
  have skOf : ∀ {h h' : Heap}, ItO h e → ItO h it → (∀ a o, a ∉ [e, it] → h.get? a = some o → h'.get? a = some o) → SeqKeep O h h' := fun q1 q2 kp a o xs n _ hd eo => kp a o (fun hm => by
    rcases List.mem_cons.mp hm with rfl | hm
    · obtain ⟨o', vs, e', hd', _⟩ := q1
      rw [eo] at e'; cases e'; rw [hd] at hd'; cases hd'
    · simp only [List.mem_singleton] at hm; subst hm
      obtain ⟨o', vs, e', hd', _⟩ := q2
      rw [eo] at e'; cases e'; rw [hd] at hd'; cases hd') eo
  have keepT : ∀ (i : Nat) h h', (((∃ old, IsEnum h e it i old) ∧ (h.IsTupleIter it l i ∧ h.IsTuple l items)) ∧ RepL h O ds items.toList) → Kp O h h' → (((∃ old, IsEnum h' e it i old) ∧ (h'.IsTupleIter it l i ∧ h'.IsTuple l items)) ∧ RepL h' O ds items.toList) := fun i h h' x kp => by
    obtain ⟨⟨⟨old, he⟩, ⟨o, eo, hc, hd⟩, ⟨o', eo', hc', n', hd'⟩⟩, hr⟩ := x
    exact ⟨⟨⟨old, kp _ _ he (.inl ⟨_, rfl, nofun⟩)⟩, ⟨o, kp _ _ eo (.inl ⟨_, hd, by rw [hc]; nofun⟩), hc, hd⟩, ⟨o', kp _ _ eo' (.inr ⟨_, _, hd', hlO⟩), hc', n', hd'⟩⟩, hr.mono kp.seq⟩
  refine ⟨fun D OL s i R E hO hi S hT h => ?_, fun D OL s R E hO S hT h => ?_, keepT, fun i s Q E hT hQ => Wk.self i s Q E hT.1 hQ⟩
  · have c1 := clsE hT.1.1.choose_spec
    have c2 := clsI hT.1.2.1
    refine Wk.item i s _ _ (by omega) hT.1 fun Tt vals h₁ tk hPt hTs hTt hmid kp => ?_
    have cls : ∀ a ∈ [e, it], ItO s.heap a := fun a ha => by
      rcases List.mem_cons.mp ha with rfl | ha
      · exact c1
      · simp only [List.mem_singleton] at ha; subst ha; exact c2
    have S₁ : St W b env D OL { s with heap := h₁, toks := tk } := S.wrote cls hwf kp
    have hr₁ : RepL h₁ O ds items.toList := hT.2.mono (skOf c1 c2 kp)
    have hmid' := hmid
    obtain ⟨⟨xo, ho⟩, ⟨hit₁, htu₁⟩, hTe, hTi⟩ := hmid'
    have cls₁ : ∀ a ∈ [e, it], ItO h₁ a := fun a ha => by
      rcases List.mem_cons.mp ha with rfl | ha
      · exact clsE' ho
      · simp only [List.mem_singleton] at ha; subst ha; exact clsI hit₁
    refine Wk.go _ _ _ i Tt { s with heap := h₁, toks := tk } _ _ hmid fun h₂ hst₂ kp₂ => ?_
    have S₂ : St W b env D OL { s with heap := h₂, toks := tk } := S₁.wrote (tk := tk) cls₁ hwf kp₂
    have hr₂ : RepL h₂ O ds items.toList := hr₁.mono (skOf (cls₁ e (by simp)) (cls₁ it (by simp)) kp₂)
    have hTn : Tt ∉ [e, it] := Wk.apart _ _ _ hmid
    obtain ⟨t, xv, hP, rfl⟩ := hPt
    have hTt₂ : IsTup h₂ Tt #[.int i t, xv] := by
      obtain ⟨o, eo, r⟩ := hTt
      exact ⟨o, kp₂ _ _ hTn eo, r⟩
    obtain ⟨v', hv', rv⟩ := hr₂.get (List.getElem?_eq_getElem hi)
    have hP' : items.toList[i]? = some xv := by rw [Array.getElem?_toList]; exact hP
    rw [hP'] at hv'; cases hv'
    have hg : ds.getD i .none = ds[i] := by rw [List.getD_eq_getElem?_getD, List.getElem?_eq_getElem hi]; rfl
    refine assign2K hA S₂ hTt₂ hx hy (d₁ := .int i) (d₂ := ds.getD i .none) (by simp only [Rep]; exact ⟨t, rfl⟩) (by rw [hg, hO]; exact rv) fun s₃ S₃ k₃ => h s₃ S₃ ?_
    rw [hO] at k₃
    exact keepT (i + 1) h₂ _ ⟨by simpa using hst₂, hr₂⟩ k₃
  · have hT' : (∃ old, IsEnum s.heap e it ((items.size : Nat) : Int) old) ∧ (s.heap.IsTupleIter it l items.size ∧ s.heap.IsTuple l items) := by rw [hlen]; exact hT.1
    have c1 := clsE hT.1.1.choose_spec
    have c2 := clsI hT.1.2.1
    refine Wk.done s _ _ hT' fun h' tk kp => h _ (S.wrote (wr := [e, it]) (fun a ha => ?_) hwf kp)
    rcases List.mem_cons.mp ha with rfl | ha
    · exact c1
    · simp only [List.mem_singleton] at ha; subst ha; exact c2

theorem x_forE {f x y : Str} {p' p₁ p₂ pt cpos : Pos} {k : Nat} {e : Expr} {body orelse rest : List Stmt} {pos : Pos} {ds : List Dt} {Q : Flow → Shared → Prop} (S : St W b env D OL s) (G : W.Ok) (hA : A.handled = none)
    (hk : env.kindOf f = some .globalImplicit) (hb : (f == ("__debug__" : Str)) = false) (hm : W.mg f = none) (hv : bootBuiltins f = some (.type "enumerate")) (hn : f ≠ "__name__") (ha : Ev W A env D e (.tup ds))
    (he : starEach [e] env = (false, eval e env) :: starEach [] env) (hs : ∀ x, foldedSetIterable (.Call (.Name f p') [e] [] cpos) env x = pure x) (hx : StoX W b env x) (hy : StoX W b env y)
    (h : ∀ I T s₂, St W b env D OL s₂ → Bd W A b env (ad OL ++ b.O) (.Tuple [.Name x p₁, .Name y p₂] k pt) I ds.length T (fun i => [(y, ds.getD i .none), (x, .int i)]) → T 0 s₂.heap →
      codeAny W.M A (.forLoop (.Tuple [.Name x p₁, .Name y p₂] k pt) (.ref I) body orelse env) (LoopR W A env rest Q E) s₂) :
    wpAny W.M A (execs (.For (.Tuple [.Name x p₁, .Name y p₂] k pt) (.Call (.Name f p') [e] [] cpos) body orelse pos :: rest) env) Q E s := by
  refine wpAny_execs_cons (wpAny_For (Call_ ((ev_boot G hk hm hv hn hb b OL s S).use fun v s₁ x₁ r₁ => ?_)) hs)
  simp only [Rep] at r₁
  subst r₁
  refine PyProof.Rows.callWith_type1 (wpAny_mono (evs_cons ha evs_nil he cpos b OL s₁ (S.stp x₁)) (fun vs s₂ z => ?_) fun _ _ z => z.elim) he rfl
  have z2 := z.2
  simp only [RepL, Rep] at z2
  obtain ⟨v, _, rfl, ⟨l, items, rfl, hlO, hl, hr⟩, rfl⟩ := z2
  have hlt : l < s₂.heap.objs.size := by obtain ⟨o, e, _⟩ := hl; exact Heap.lt_size e
  refine call_enumerate_tuple hl fun h' he' hit hsz kp => wpAny_pyIter_enum he' ?_
  have x₂ : Stp W s { s₂ with heap := h' } := (x₁.trans z.1).trans (Stp.keep (tk := s₂.toks) z.1.inv kp)
  have S₃ := S.stp x₂
  have x₁₂ := x₁.trans z.1
  refine h _ _ { s₂ with heap := h' } S₃ (bd_enum (it := s₂.heap.objs.size) (l := l) (items := items) hA (Nat.succ_ne_self _) (Nat.ne_of_lt (Nat.lt_succ_of_lt hlt)) (Nat.ne_of_lt hlt) hlO (by rw [← Array.length_toList]; exact hr.length) (fun a ha => ?_) hx hy) ⟨⟨⟨_, he'⟩, hit, ?_⟩, hr.ext z.1.inv (.of_keep kp)⟩
  · have hle : s₂.heap.objs.size ≤ a := by
      rcases List.mem_cons.mp ha with rfl | ha
      · exact Nat.le_succ _
      · simp only [List.mem_singleton] at ha; subst ha; exact Nat.le_refl _
    have hn := fresh_of_stp x₁₂ hle
    refine ⟨(fresh3 z.1.inv hle).1, ?_⟩
    cases q : b.hb.get? a with
    | none => rfl
    | some o =>
      by_cases hP : a ∈ W.Ps
      · exact absurd hP (fresh3 z.1.inv hle).2
      · obtain ⟨sl, this⟩ := S.ext.there hP q; rw [hn] at this; cases this
  · obtain ⟨o, eo, r⟩ := hl
    exact ⟨o, kp _ _ eo, r⟩
end
end Mine
end

section
-- L20
open PySem PySem.W PySem.Calls PyProof.Rows
set_option maxRecDepth 100000

namespace Mine
open Builtin.Int (intBits)

section
variable {W : Wd} {A : Around} {b : Base} {env : Env} {D : List (Str × Dt)} {OL : List (Addr × List Dt)} {s : Shared} {E : Value → Shared → Prop}

theorem ev_globD {x : Str} {pos : Pos} {v : Value} {d : Dt} (G : W.Ok) (hk : env.kindOf x = some .globalImplicit) (hv : W.mg x = some v) (hr : Rep W.g [] d v) (hb : (x == ("__debug__" : Str)) = false) : Ev W A env D (.Name x pos) d := fun b OL s S =>
  Name_function_global S.fk hk (loadGlobal_global (S.eg ▸ G.ng.keeps S.inv.base) hv ⟨.refl S.inv, hr.ofBase S.io⟩) hb

theorem gm_str {x : Str} {name : Str} {id : String} (slot : Slot "str" name id) (hty : typeOf (.builtin id) = pure (.type "method_descriptor")) : GetM W A (.str x) name id := fun O s v pl Q _ r h => by
  simp only [Rep] at r
  obtain ⟨t, rfl⟩ := r
  exact getMethod_builtin (typeIs_str _ _ _) PySem.F.plainAttrs_str slot hty (fun a q => nomatch q) h
theorem gm_bytes {x : Array UInt8} {name : Str} {id : String} (slot : Slot "bytes" name id) (hty : typeOf (.builtin id) = pure (.type "method_descriptor")) : GetM W A (.bytes x) name id := fun O s v pl Q _ r h => by
  simp only [Rep] at r
  obtain ⟨t, rfl⟩ := r
  exact getMethod_builtin (typeIs_bytes _ _ _) FB.plainAttrs_bytes slot hty (fun a q => nomatch q) h

theorem strsAre_of {h : Heap} {O : List Addr} : ∀ {ys : List Str} {vs : List Value}, RepL h O (ys.map .str) vs → StrsAre vs ys
  | [], _, r => by simp only [List.map_nil, RepL] at r; subst r; exact .nil
  | y :: ys, _, r => by
    simp only [List.map_cons, RepL, Rep] at r
    obtain ⟨v, r', rfl, ⟨t, rfl⟩, r2⟩ := r
    exact .cons _ _ (strsAre_of r2)

theorem bc_join {sep : Str} {ys : List Str} (hok : (ys.map (·.length)).sum + ys.length * sep.length ≤ 16777216) : Bc W A (.builtin "str.join") [.str sep, .lst (ys.map .str)] (.str (Txt.join sep ys)) := fun O s vs I r => by
  simp only [RepL] at r
  obtain ⟨v, _, rfl, r1, v', _, rfl, r2, rfl⟩ := r
  simp only [Rep] at r1 r2
  obtain ⟨t, rfl⟩ := r1
  obtain ⟨l, us, rfl, _, hl, hr⟩ := r2
  unfold Yl
  refine join_list hl.isList (strsAre_of hr) hok fun t' k => ⟨.tok I.inv, by simp only [Rep]; exact ⟨_, rfl⟩⟩
end
end Mine
end

section
-- L21
open PySem PySem.W PySem.Calls PyProof.Rows
set_option maxRecDepth 100000

namespace Mine
open Builtin.Int (intBits)

theorem RepL.pick {h : Heap} {O : List Addr} {ds : List Dt} {vs : List Value} (r : RepL h O ds vs) : ∀ is : List Nat, RepL h O (is.filterMap (ds[·]?)) (is.filterMap (vs[·]?))
  | [] => by simp only [List.filterMap_nil, RepL]
  | i :: is => by
    have ih := RepL.pick r is
    cases hd : ds[i]? with
    | none =>
      have hv : vs[i]? = none := by
        rw [List.getElem?_eq_none_iff] at hd ⊢
        rw [r.length]; exact hd
      rw [List.filterMap_cons, List.filterMap_cons, hd, hv]
      exact ih
    | some d =>
      obtain ⟨v, hv, rv⟩ := r.get hd
      rw [List.filterMap_cons, List.filterMap_cons, hd, hv]
      simp only [RepL]
      exact ⟨v, _, rfl, rv, ih⟩

def dpick (ds : List Dt) (lo hi st : Option Int) : List Dt :=
  (sliceRange (sliceBounds lo hi st ds.length).1 (sliceBounds lo hi st ds.length).2.1 (sliceBounds lo hi st ds.length).2.2).filterMap (ds[·]?)
def strSl (x : Str) (lo hi st : Option Int) : Str :=
  if (st.getD 1 == 1 && (Builtin.Str.strSliceIndices lo hi (st.getD 1) x.length).length == x.length) = true then x else ⟨((Builtin.Str.strSliceIndices lo hi (st.getD 1) x.length).filterMap (x.cps[·]?)).toArray⟩

section
variable {W : Wd} {A : Around} {b : Base} {env : Env} {D : List (Str × Dt)} {OL : List (Addr × List Dt)} {s : Shared} {E : Value → Shared → Prop}

/-- A part of a slice. -/
def EvP (W : Wd) (A : Around) (env : Env) (D : List (Str × Dt)) (e : Option Expr) (p : Option Int) : Prop :=
  ∀ b OL s, St W b env D OL s → wpAny W.M A (evalPart e env) (fun v s' => Stp W s s' ∧ IsPart v p) (fun _ _ => False) s
theorem evp_none : EvP W A env D none none := fun _ _ _ S => wpAny_pure ⟨.refl S.inv, .none⟩
theorem evp_some {e : Expr} {i : Int} (h : Ev W A env D e (.int i)) : EvP W A env D (some e) (some i) := fun b OL s S => by
  rw [evalPart_some]
  refine (h b OL s S).use fun v s' x r => ⟨x, ?_⟩
  simp only [Rep] at r
  obtain ⟨t, rfl⟩ := r
  exact .int i t

theorem ev_slice_lsw {value : Expr} {lo hi st : Option Expr} {p pos : Pos} {ds : List Dt} {l u k : Option Int} {ops : Value → Value → List Value} (hv : Ev W A env D value (.lsw ds)) (hl : EvP W A env D lo l) (hu : EvP W A env D hi u) (hk : EvP W A env D st k) (h0 : k ≠ some 0) (hsz : ds.length ≤ 1000)
    (hs : ∀ o i, subscripted (.Slice lo hi st p) false o i = operate (ops o i) (getItem o i)) : Ev W A env D (.Subscript value (.Slice lo hi st p) pos) (.lst (dpick ds l u k)) := fun b OL s S => by
  refine Subscript_ ((hv b OL s S).use fun va s₁ x₁ r₁ => wpAny_Slice ?_)
  refine wpAny_mono (hl b OL s₁ (S.stp x₁)) (fun vl s₂ y₂ => wpAny_mono (hu b OL s₂ ((S.stp x₁).stp y₂.1)) (fun vu s₃ y₃ => wpAny_mono (hk b OL s₃ (((S.stp x₁).stp y₂.1).stp y₃.1)) (fun vk s₄ y₄ => ?_) fun _ _ y => y.elim) fun _ _ y => y.elim) fun _ _ y => y.elim
  have x₄ := (y₂.1.trans y₃.1).trans y₄.1
  have r₄ := r₁.ext x₁.inv x₄.ext
  simp only [Rep] at r₄
  obtain ⟨a, vs, rfl, _, hl', hr⟩ := r₄
  have hsz' : vs.size = ds.length := by rw [← Array.length_toList]; exact hr.length
  have X : Ext W s₄.heap ((s₄.heap.push { cls := .type "slice", data := .fields #[vl, vu, vk] }).push { cls := .type "list", data := .seq (slicePick vs l u k) }) := .of_keep fun _ _ e => Heap.get?_push_of_some _ (Heap.get?_push_of_some _ e)
  have x₅ : Stp W s₄ { s₄ with heap := (s₄.heap.push { cls := .type "slice", data := .fields #[vl, vu, vk] }).push { cls := .type "list", data := .seq (slicePick vs l u k) } } := Stp.keep (tk := s₄.toks) x₄.inv fun _ _ e => Heap.get?_push_of_some _ (Heap.get?_push_of_some _ e)
  refine tail_any (Heap.IsList.typeIs (s := { s₄ with heap := s₄.heap.push { cls := .type "slice", data := .fields #[vl, vu, vk] } }) (hl'.push _)) slot_list_getitem.lookup
    (wpAny_getItem_list_slice (hl'.push _) (Heap.IsSliceOf.new ..) y₂.2 y₃.2 y₄.2 h0 ⟨(x₁.trans x₄).trans x₅, ?_⟩ (by rw [hsz', sizeLine_eq]; omega)) (hs _ _)
  simp only [Rep]
  refine ⟨_, slicePick vs l u k, rfl, fun q => ?_, ⟨0, Heap.get?_push_size _ rfl⟩, ?_⟩
  · have hO := (S.stp (x₁.trans x₄)).ook
    refine hO.new (Heap.get?_none_of_le ?_) q
    show s₄.heap.objs.size ≤ (s₄.heap.push _).objs.size
    rw [Heap.size_push]; exact Nat.le_succ _
  · have e : (slicePick vs l u k).toList = (sliceRange (sliceBounds l u k ds.length).1 (sliceBounds l u k ds.length).2.1 (sliceBounds l u k ds.length).2.2).filterMap (vs.toList[·]?) := by
      unfold slicePick
      rw [hsz']
      simp
    rw [e]
    exact RepL.pick (hr.ext x₄.inv X) _
theorem ev_lst_lsw {e : Expr} {ds : List Dt} (h : Ev W A env D e (.lst ds)) : Ev W A env D e (.lsw ds) := fun b OL s S => (h b OL s S).use fun v s' x r => ⟨x, by
  simp only [Rep] at r ⊢
  obtain ⟨a, vs, e, h1, h2, h3⟩ := r
  exact ⟨a, vs, e, h1, h2.isList, h3⟩⟩

theorem op_item_str {value slice : Expr} {x : Str} {k : Int} (h0 : 0 ≤ k) (h1 : k < x.length) (h2 : x.length < 2 ^ 60) (hs : ∀ o i, subscripted slice false o i = operate [o, i] (getItem o i)) :
    Op2 W A (subscriptTail value slice) (.str x) (.int k) (.str (Txt.item x k)) := fun O s va vb I ra rb => by
  simp only [Rep] at ra rb
  obtain ⟨t, rfl⟩ := ra
  obtain ⟨u, rfl⟩ := rb
  obtain ⟨T, id, hl, hT, hg⟩ := SB.item (prog := W.prog) (w := W.w) (A := A) (E := fun _ _ => False) (s := s) (x := x) (t := t) (i := k) (u := u) (Q := fun v s' => Stp W s s' ∧ Rep s'.heap O (.str (Txt.item x k)) v) (by simp [fitsSsize]; omega) (charAt_isSome (by omega) h1) ⟨.tok I.inv, by simp only [Rep]; exact ⟨_, rfl⟩⟩
  exact tail_any hT hl hg (hs _ _)

theorem bc_len_lsw {ds : List Dt} (h : ds.length ≤ 1000000) : Bc W A (.builtin "len") [.lsw ds] (.int ds.length) := fun O s vs I r => by
  simp only [RepL, Rep] at r
  obtain ⟨v, _, rfl, ⟨l, us, rfl, _, hl, hr⟩, rfl⟩ := r
  have e : us.size = ds.length := by rw [← Array.length_toList]; exact hr.length
  unfold Yl
  with_reducible refine PyProof.Rows.len_list hl ?_ ?_
  · omega
  · rw [e]
    exact ⟨.tok I.inv, by simp only [Rep]; exact ⟨_, rfl⟩⟩
theorem bc_list {ds : List Dt} (h : ds.length ≤ 1000) : Bc W A (.type "list") [.lst ds] (.lst ds) := fun O s vs I r => by
  simp only [RepL, Rep] at r
  obtain ⟨v, _, rfl, ⟨l, us, rfl, _, ⟨n, hl⟩, hr⟩, rfl⟩ := r
  have e : us.size = ds.length := by rw [← Array.length_toList]; exact hr.length
  unfold Yl
  refine call_list_seq l (.inl rfl) hl rfl rfl (fun h' c' hk hD => ⟨Stp.keep (tk := s.toks) I.inv hk, ?_⟩) (by rw [e, sizeLine_eq]; omega)
  simp only [Rep]
  exact ⟨_, us, rfl, I.ook.size, ⟨c', hD⟩, hr.ext I.inv (.of_keep hk)⟩
theorem bc_min {a b : Int} (hA : A.handled = none) : Bc W A (.builtin "min") [.int a, .int b] (.int (min a b)) := fun O s vs I r => by
  simp only [RepL, Rep] at r
  obtain ⟨v, _, rfl, ⟨t, rfl⟩, v', _, rfl, ⟨u, rfl⟩, rfl⟩ := r
  unfold Yl
  refine min_two_ints hA fun h' tk hk => ⟨Stp.keep I.inv hk, ?_⟩
  simp only [Rep]
  split
  · exact ⟨u, by rw [Int.min_eq_right (by omega)]⟩
  · exact ⟨t, by rw [Int.min_eq_left (by omega)]⟩

theorem int_at {h : Heap} {O : List Addr} {xs : List Int} {us : Array Value} (hr : RepL h O (xs.map .int) us.toList) {i : Nat} {v : Value} (hv : us[i]? = some v) : ∃ t, v = .int (xs.getD i 0) t := by
  have hi : i < xs.length := by
    have := hr.length
    rw [List.length_map, Array.length_toList] at this
    rcases Nat.lt_or_ge i us.size with q | q
    · omega
    · rw [Array.getElem?_eq_none q] at hv; cases hv
  obtain ⟨v', hv', rv⟩ := hr.get (i := i) (d := .int xs[i]) (by rw [List.getElem?_map, List.getElem?_eq_getElem hi]; rfl)
  rw [Array.getElem?_toList, hv] at hv'; cases hv'
  simp only [Rep] at rv
  obtain ⟨t, rfl⟩ := rv
  exact ⟨t, by rw [List.getD_eq_getElem?_getD, List.getElem?_eq_getElem hi]; rfl⟩

theorem preSum_eq (xs : List Int) : ∀ n, n ≤ xs.length → preSum (fun i => xs.getD i 0) n = (xs.take n).sum
  | 0, _ => by simp [preSum]
  | n + 1, h => by
    have hn : n < xs.length := by omega
    rw [preSum, preSum_eq xs n (by omega), List.take_add_one, List.sum_append, List.getElem?_eq_getElem hn, List.getD_eq_getElem?_getD, List.getElem?_eq_getElem hn]
    simp
theorem bc_sum {xs : List Int} (hA : A.handled = none) : Bc W A (.builtin "sum") [.lst (xs.map .int)] (.int xs.sum) := fun O s vs I r => by
  simp only [RepL] at r
  obtain ⟨v, _, rfl, r1, rfl⟩ := r
  simp only [Rep] at r1
  obtain ⟨l, us, rfl, _, hl, hr⟩ := r1
  have e : us.size = xs.length := by rw [← Array.length_toList]; simpa using hr.length
  have hlt : l < s.heap.objs.size := by obtain ⟨n, e⟩ := hl; exact Heap.lt_size e
  unfold Yl
  refine call_sum_walkG (wpAny_pyIter_list hl.isList ⟨_, _, _, _, _, _, fun i => xs.getD i 0, rfl, Walks.list (A := A.in1) hA _ l (Nat.ne_of_lt hlt) us, ⟨⟨_, Heap.get?_push_size _ rfl, rfl, rfl⟩, ?_⟩, fun a ha => ?_, fun i v hv => int_at hr hv, fun h' tk t' hk => ?_⟩)
  · obtain ⟨n, e⟩ := hl
    exact ⟨_, Heap.get?_push_of_some _ e, rfl, n, rfl⟩
  · show a < (s.heap.push _).objs.size
    rw [Heap.size_push]
    simp only [List.mem_cons, List.not_mem_nil, or_false] at ha
    rcases ha with rfl | rfl
    · exact Nat.lt_succ_self _
    · exact Nat.lt_succ_of_lt hlt
  · have hk' : ∀ b o, s.heap.get? b = some o → h'.get? b = some o := fun b o eb => hk b o (fun q => by
      simp only [List.mem_singleton] at q
      exact absurd (Heap.lt_size eb) (by rw [q]; exact Nat.lt_irrefl _)) (Heap.get?_push_of_some _ eb)
    refine ⟨Stp.keep (tk := tk) I.inv hk', ?_⟩
    simp only [Rep]
    refine ⟨t', ?_⟩
    rw [e, preSum_eq xs _ (Nat.le_refl _), List.take_length]
end
end Mine
end

section
-- L22
open PySem PySem.W PySem.Calls PyProof.Rows
set_option maxRecDepth 100000

namespace Mine
open Builtin.Int (intBits)
open PySem.SeqAt

section
variable {W : Wd} {A : Around} {b : Base} {env : Env} {D : List (Str × Dt)} {OL : List (Addr × List Dt)} {s : Shared} {E : Value → Shared → Prop}

theorem int_items {h : Heap} {O : List Addr} {xs : List Int} {us : Array Value} (hr : RepL h O (xs.map .int) us.toList) (j : Nat) (hj : j < us.size) : ∃ t, us[j] = .int (xs.getD j 0) t :=
  int_at hr (Array.getElem?_eq_getElem hj)

theorem op_mul_bool {p : Bool} {n : Int} : Op2 W A (binaryOp .Mult) (.int n) (.bool p) (.int (n * if p = true then 1 else 0)) := fun O s va vb I ra rb => by
  simp only [Rep] at ra rb; subst rb; obtain ⟨u, rfl⟩ := ra
  unfold Yl; with_reducible refine PySem.IntBool.mul_int_bool ?_; exact yl_int I

theorem bc_isinst_str {x : Str} : Bc W A (.builtin "isinstance") [.str x, .raw (.type "bytes")] (.bool false) := fun O s vs I r => by
  simp only [RepL, Rep] at r
  obtain ⟨v, _, rfl, ⟨t, rfl⟩, v', _, rfl, rfl, rfl⟩ := r
  unfold Yl
  refine PySem.IsiPair.str_bytes ?_
  exact ⟨.tok I.inv, by simp only [Rep]⟩

theorem bc_index {x y : Str} {i : Nat} {rest : List Nat} (ho : Builtin.Str.occurrences x y 0 x.length 1 = i :: rest) : Bc W A (.builtin "str.index") [.str x, .str y] (.int i) := fun O s vs I r => by
  simp only [RepL, Rep] at r
  obtain ⟨v, _, rfl, ⟨t, rfl⟩, v', _, rfl, ⟨t', rfl⟩, rfl⟩ := r
  unfold Yl
  refine SC.index ho ?_
  exact yl_int I
end
end Mine
end

section
-- L23
open PySem PySem.W PySem.Calls PyProof.Rows
set_option maxRecDepth 100000

namespace Mine
open Builtin.Int (intBits)
open Builtin Builtin.Str

section
variable {W : Wd} {A : Around} {b : Base} {env : Env} {D : List (Str × Dt)} {OL : List (Addr × List Dt)} {s : Shared} {E : Value → Shared → Prop}

theorem bc_isinst_bytes {x : Array UInt8} : Bc W A (.builtin "isinstance") [.bytes x, .raw (.type "bytes")] (.bool true) := fun O s vs I r => by
  simp only [RepL, Rep] at r
  obtain ⟨v, _, rfl, ⟨t, rfl⟩, v', _, rfl, rfl, rfl⟩ := r
  unfold Yl
  refine call_isinstance (isinstance_true (Tx := "bytes") F.isi_meta_bytes F.sub_bytes_bytes) ⟨rfl, ?_⟩
  exact ⟨.refl I.inv, by simp only [Rep]⟩

theorem repL_strs {h : Heap} {O : List Addr} : ∀ (l : List (Str × Tok)), RepL h O ((l.map (·.1)).map .str) (strValues l)
  | [] => by simp only [List.map_nil, strValues, RepL]
  | (y, u) :: l => by
    simp only [List.map_cons, strValues, RepL, Rep]
    exact ⟨_, _, rfl, ⟨u, rfl⟩, repL_strs l⟩

theorem split_push {x y : Str} {t u : Tok} {Q : Value → Shared → Prop} (hy : (y.length == 0) = false) (hx : x.length ≤ sizeLine) (hsz2 : (partsBetween x (occurrences x y 0 x.length (x.length + 1)) y.length).length ≤ sizeLine)
    (hq : ∀ l k, l.map (·.1) = Txt.split x y → Q (.ref s.heap.objs.size) { s with heap := s.heap.push { cls := .type "list", data := .seq (strValues l).toArray }, toks := k }) :
    wpAny W.M A (call (.builtin "str.split") [.str x t, .str y u]) Q E s := by
  cases h1 : (decide (x.length < y.length) || decide (strKind x < strKind y))
  · cases hf : (occurrences x y 0 x.length (x.length + 1)).isEmpty
    · refine call_meets F.slot_str_split (typeIs_str _ _ _) F.entry_str_split (F.args_str_split_2 _ _) (meets_str_split_sep x y t u h1 hy hf hx hsz2) ?_
      show wants Q E _ { s with toks := _, heap := s.heap.push { cls := .type "list", data := .seq (strsFrom s.toks (partsBetween x (occurrences x y 0 x.length (x.length + 1)) y.length)).toArray } }
      rw [strsFrom_eq]
      exact hq (numbered s.toks _) _ ((numbered_texts _ _).trans ((if_neg (ne_true_of_eq_false h1)).trans (if_neg (ne_true_of_eq_false hf))).symm)
    · exact call_meets F.slot_str_split (typeIs_str _ _ _) F.entry_str_split (F.args_str_split_2 _ _) (meets_str_split_not_found x y t u h1 hy hf)
        (hq [(x, t)] s.toks ((if_neg (ne_true_of_eq_false h1)).trans (if_pos hf)).symm)
  · exact call_meets F.slot_str_split (typeIs_str _ _ _) F.entry_str_split (F.args_str_split_2 _ _) (meets_str_split_cannot_occur x y t u h1)
      (hq [(x, t)] s.toks (if_pos h1).symm)
theorem bc_split {x y : Str} (hy : (y.length == 0) = false) (hx : x.length ≤ 10000) (hsz2 : (partsBetween x (occurrences x y 0 x.length (x.length + 1)) y.length).length ≤ 100000) : Bc W A (.builtin "str.split") [.str x, .str y] (.lst ((Txt.split x y).map .str)) := fun O s vs I r => by
  simp only [RepL, Rep] at r
  obtain ⟨v, _, rfl, ⟨t, rfl⟩, v', _, rfl, ⟨t', rfl⟩, rfl⟩ := r
  unfold Yl
  refine split_push hy (by rw [sizeLine_eq]; omega) (by rw [sizeLine_eq]; omega) fun l k hl => ⟨Stp.push I.inv, ?_⟩
  simp only [Rep]
  refine ⟨_, (strValues l).toArray, rfl, I.ook.size, ⟨0, Heap.get?_push_size _ rfl⟩, ?_⟩
  rw [← hl]
  exact repL_strs l
end
end Mine
end

section
-- L24
open PySem PySem.W PySem.Calls PyProof.Rows
set_option maxRecDepth 100000

namespace Mine
open Builtin Builtin._codecs
theorem find_none {a : Array Nat} (h : ∀ c ∈ a.toList, c < 128) : a.findIdx? asciiCodec.bad = none := by
  rw [Array.findIdx?_eq_none_iff]
  intro x hx
  have := h x (Array.mem_toList_iff.mpr hx)
  simp [asciiCodec]
  omega
theorem fold_bytes : ∀ (l : List Nat) (acc : Array UInt8), l.foldl (fun acc y => acc ++ (asciiCodec.bytesOf y).toArray) acc = acc ++ (l.map Nat.toUInt8).toArray
  | [], acc => by simp
  | c :: l, acc => by
    rw [List.foldl_cons, fold_bytes l]
    simp [asciiCodec]
theorem encode_ascii {id : String} {self : Value} {x : PySem.Str} (h : ∀ c ∈ x.cps.toList, c < 128) (hsz : x.length ≤ 10000) :
    encodeNarrow id asciiCodec none self x = pure (x.cps.toList.map Nat.toUInt8).toArray := by
  unfold encodeNarrow
  simp only [Std.Legacy.Range.forIn_eq_forIn_range']
  have hl : x.length = x.cps.size := rfl
  rcases hn : x.length with _ | n
  · have he : x.cps = #[] := by rw [hl] at hn; exact Array.eq_empty_of_size_eq_zero hn
    simp [he, Std.Legacy.Range.size]
  · simp only [Std.Legacy.Range.size, Nat.sub_zero, Nat.add_sub_cancel, Nat.div_one, List.range'_succ, List.forIn_cons]
    have h0 : x.cps[0]? = some (x.cps.getD 0 0) := by
      have : 0 < x.cps.size := by omega
      simp [Array.getD, this]
    have hb : asciiCodec.bad (x.cps.getD 0 0) = false := by
      have hp : 0 < x.cps.size := by omega
      have := h (x.cps.getD 0 0) (by simp [Array.getD, hp])
      show decide (x.cps.getD 0 0 ≥ 128) = false
      exact decide_eq_false (by omega)
    have hs0 : ¬ ((#[] : Array UInt8).size > sizeLine) := by decide
    have hext : x.cps.extract 0 x.cps.size = x.cps := by simp
    simp only [h0, hb, hext, find_none h, Option.getD_none, Bool.not_false, if_true, Nat.zero_add, if_neg hs0, pure_bind]
    have hf : Array.foldl (fun acc y => acc ++ (asciiCodec.bytesOf y).toArray) #[] x.cps = (x.cps.toList.map Nat.toUInt8).toArray := by
      rw [← Array.foldl_toList, fold_bytes]; simp
    rw [hf]
    have hs1 : ¬ ((x.cps.toList.map Nat.toUInt8).toArray.size > sizeLine) := by
      rw [List.size_toArray, List.length_map, Array.length_toList, sizeLine_eq]; omega
    have hend : x.cps[x.cps.size]? = none := by simp
    cases n with
    | zero => simp only [List.range'_zero, List.forIn_nil, pure_bind]
    | succ n =>
      rw [List.range'_succ, List.forIn_cons]
      simp only [if_neg hs1, hend, pure_bind]
theorem encode_entry {x : PySem.Str} {t u : Tok} : «str.encode» ⟨[.str x t, .str (PySem.Str.ofString "ascii") u], []⟩ = ((encodeNarrow "str.encode" asciiCodec none (.str x t) x >>= fun b => mkBytes b) >>= fun v => ret v) := by kernel_rfl
theorem decode_entry {c : UInt8} {cs : List UInt8} {t u : Tok} : «bytes.decode» ⟨[.bytes (c :: cs).toArray t, .str (PySem.Str.ofString "ascii") u], []⟩ = (mkStr (PySem.Str.ofString "utf-8") >>= fun _ => mkStr (PySem.Str.ofString "ascii") >>= fun e => mkStr (PySem.Str.ofString "bytes.decode") >>= fun d =>
    call (.builtin "_codecs.decode.text") [.bytes (c :: cs).toArray t, e, .none, d] >>= fun v => ret v) := by kernel_rfl
theorem road_ascii {id : String} {b : Array UInt8} : _codecs.decodeRoad id b (PySem.Str.ofString "ascii") none [] = (_codecs.runDecoder id _codecs.asciiDecoder none true b 0 [] >>= fun r => mkStr ⟨r.1⟩) := by kernel_rfl
theorem run_loop {b : Array UInt8} (h : ∀ c ∈ b.toList, c.toNat < 128) (hsz : b.size ≤ 10000) (f : Nat → (Nat × Array Nat × Faults) → Sem (ForInStep (Nat × Array Nat × Faults)))
    (hf : ∀ k p (st : Faults), p < b.size → f k (p, (b.toList.take p).map UInt8.toNat |>.toArray, st) = pure (.yield (p + 1, (b.toList.take (p + 1)).map UInt8.toNat |>.toArray, st))) :
    ∀ (l : List Nat) (p : Nat) (st : Faults), p + l.length = b.size → forIn l (p, ((b.toList.take p).map UInt8.toNat).toArray, st) f = pure (b.size, (b.toList.map UInt8.toNat).toArray, st)
  | [], p, st, e => by
    have : p = b.size := by simpa using e
    subst this
    rw [List.forIn_nil, ← Array.length_toList, List.take_length]
  | k :: l, p, st, e => by
    rw [List.forIn_cons, hf k p st (by rw [List.length_cons] at e; omega), pure_bind]
    exact run_loop h hsz f hf l (p + 1) st (by rw [List.length_cons] at e; omega)
theorem run_ascii {b : Array UInt8} {id : String} (h : ∀ c ∈ b.toList, c.toNat < 128) (hsz : b.size ≤ 10000) : runDecoder id asciiDecoder none true b 0 [] = pure ((b.toList.map UInt8.toNat).toArray, b.size) := by
  unfold runDecoder
  simp only [Std.Legacy.Range.forIn_eq_forIn_range', Std.Legacy.Range.size, Nat.sub_zero, Nat.add_sub_cancel, Nat.div_one]
  have e0 : (#[] : Array Nat) = ((b.toList.take 0).map UInt8.toNat).toArray := by simp
  rw [e0]
  refine (congrArg (· >>= _) (run_loop h hsz _ (fun k p st hp => ?_) _ 0 _ (by simp))).trans ?_
  · have hs : ¬ (((b.toList.take p).map UInt8.toNat).toArray.size > sizeLine) := by
      rw [List.size_toArray, List.length_map, List.length_take, sizeLine_eq]; omega
    have hc : (b.getD p 0).toNat < 128 := h _ (by simp [Array.getD, hp])
    have hfind : asciiDecoder.find true b p = .char (b.getD p 0).toNat (p + 1) := by
      show (if (b.getD p 0).toNat < 128 then _ else _) = _
      rw [if_pos hc]
    simp only [if_neg hs, show ¬ (p ≥ b.size) by omega, if_false, hfind, pure_bind, Found.char]
    have e : ((b.toList.take p).map UInt8.toNat).toArray ++ [(b.getD p 0).toNat].toArray = ((b.toList.take (p + 1)).map UInt8.toNat).toArray := by
      rw [List.take_add_one]
      simp [Array.getD, hp]
    rw [e]
  · simp only [pure_bind]

theorem meets_encode {x : PySem.Str} {t u : Tok} (h : ∀ c ∈ x.cps.toList, c < 128) (hsz : x.length ≤ 10000) :
    Meets («str.encode» ⟨[.str x t, .str (PySem.Str.ofString "ascii") u], []⟩) (fun _ R s => R (.ok (.ret (.bytes (x.cps.toList.map Nat.toUInt8).toArray s.toks))) { s with toks := s.toks + 1 }) := by
  refine .of_wp fun prog w A R s hS => ?_
  rw [encode_entry, encode_ascii h hsz]
  refine wpAny_bind (wpAny_bind (wpAny_pure ?_))
  exact wpAny_mkBytes (wpAny_pure ⟨_, rfl, hS⟩) (by rw [List.size_toArray, List.length_map, Array.length_toList, sizeLine_eq]; show x.length ≤ _; omega)
theorem meets_text_ascii {b : Array UInt8} {t t1 t2 : Tok} {d : PySem.Str} (h : ∀ c ∈ b.toList, c.toNat < 128) (hsz : b.size ≤ 10000) :
    Meets («_codecs.decode.text» ⟨[.bytes b t, .str (PySem.Str.ofString "ascii") t1, .none, .str d t2], []⟩) (fun _ R s => R (.ok (.ret (.str ⟨(b.toList.map UInt8.toNat).toArray⟩ s.toks))) { s with toks := s.toks + 1 }) := by
  refine .of_wp fun prog w A R s hS => ?_
  show wpAny _ _ (Bytes.bytesLike _ (.bytes b t) >>= fun r => _) _ _ s
  refine wpAny_bind (wpAny_of_eq KBd.like_eq ?_)
  refine wpAny_bind (wpAny_of_eq KBd.held_eq ?_)
  show wpAny _ _ (_codecs.decodeRoad _ b (PySem.Str.ofString "ascii") none [] >>= fun v => _) _ _ s
  rw [road_ascii, run_ascii h hsz]
  refine wpAny_bind (wpAny_bind (wpAny_pure ?_))
  refine wpAny_mkStr (wpAny_pure ⟨_, rfl, hS⟩) ?_
  show (b.toList.map UInt8.toNat).toArray.size ≤ _
  rw [List.size_toArray, List.length_map, Array.length_toList, sizeLine_eq]; omega
theorem meets_decode_ascii {c : UInt8} {cs : List UInt8} {t u : Tok} (h : ∀ x ∈ c :: cs, x.toNat < 128) (hsz : (c :: cs).length ≤ 10000) :
    Meets («bytes.decode» ⟨[.bytes (c :: cs).toArray t, .str (PySem.Str.ofString "ascii") u], []⟩) (fun _ R s => ∀ t' k, R (.ok (.ret (.str ⟨((c :: cs).map UInt8.toNat).toArray⟩ t'))) { s with toks := k }) := by
  refine .of_wp fun prog w A R s hS => ?_
  rw [decode_entry]
  refine wpAny_bind (wpAny_mkStr ?_ (by decide))
  refine wpAny_bind (wpAny_mkStr ?_ (by decide))
  refine wpAny_bind (wpAny_mkStr ?_ (by decide))
  exact wpAny_bind (call_function_meets KBd.kind_text KBd.plain_text KBd.entry_text (KBd.args_text _ _ _ _) (meets_text_ascii h hsz) (wpAny_pure ⟨_, rfl, hS _ _⟩))

theorem args_bytes_decode_2 (a b : Value) : argsOk "bytes.decode" ⟨[a, b], []⟩ := by
  unfold argsOk; rw [signature?_of (id := "bytes.decode") (n := ['e', 'd', 'o', 'c', 'e', 'd']) (o := ['s', 'e', 't', 'y', 'b']) (by kernel_rfl) FB.owner_bytes]; kernel_rfl

section
variable {W : Wd} {A : Around}
theorem bc_encode {x : PySem.Str} (h : ∀ c ∈ x.cps.toList, c < 128) (hsz : x.length ≤ 10000) : Bc W A (.builtin "str.encode") [.str x, .str (PySem.Str.ofString "ascii")] (.bytes (x.cps.toList.map Nat.toUInt8).toArray) := fun O s vs I r => by
  simp only [RepL, Rep] at r
  obtain ⟨v, _, rfl, ⟨t, rfl⟩, v', _, rfl, ⟨t', rfl⟩, rfl⟩ := r
  exact call_meets F.slot_str_encode (typeIs_str _ _ _) F.entry_str_encode (F.args_str_encode_2 _ _) (meets_encode h hsz) ⟨.tok I.inv, by simp only [Rep]; exact ⟨_, rfl⟩⟩
theorem bc_decode {b : Array UInt8} (h : ∀ c ∈ b.toList, c.toNat < 128) (hsz : b.size ≤ 10000) (h0 : b ≠ #[]) : Bc W A (.builtin "bytes.decode") [.bytes b, .str (PySem.Str.ofString "ascii")] (.str ⟨(b.toList.map UInt8.toNat).toArray⟩) := fun O s vs I r => by
  simp only [RepL, Rep] at r
  obtain ⟨v, _, rfl, ⟨t, rfl⟩, v', _, rfl, ⟨t', rfl⟩, rfl⟩ := r
  obtain ⟨l⟩ := b
  cases l with
  | nil => exact absurd rfl h0
  | cons c cs =>
    exact call_meets FB.slot_bytes_decode (typeIs_bytes _ _ _) FB.entry_bytes_decode (args_bytes_decode_2 _ _) (meets_decode_ascii h hsz) fun t'' k => ⟨.tok I.inv, by simp only [Rep]; exact ⟨_, rfl⟩⟩
end
end Mine
end

section
-- L25
open PySem PySem.W PySem.Calls PyProof.Rows
set_option maxRecDepth 100000

namespace Mine
open Builtin

theorem slot_bytes_split : Slot "bytes" "split" "bytes.split" :=
  .of (owner := "bytes") (n := "split") (by rw [typeLookup_type, builtinLookup_eq_fast]; kernel_rfl) (by decide +kernel) (by decide +kernel) (by decide +kernel)
    (by first | exact .inl (by decide +kernel) | exact .inr (by decide +kernel)) (by rw [isSubtype_type]; kernel_rfl)
theorem type_bytes_split : typeOf (.builtin "bytes.split") = pure (.type "method_descriptor") := by show builtinType _ = _; rw [builtinType_eq_fast]; kernel_rfl
theorem entry_bytes_split : entryFor table "bytes.split" = some Builtin.«bytes.split» := entryFor_of_tree (by kernel_rfl)
theorem args_bytes_split_2 (a b : Value) : argsOk "bytes.split" ⟨[a, b], []⟩ := by
  unfold argsOk; rw [signature?_of (id := "bytes.split") (n := ['t', 'i', 'l', 'p', 's']) (o := ['s', 'e', 't', 'y', 'b']) (by kernel_rfl) FB.owner_bytes]; kernel_rfl
theorem slot_bytes_join : Slot "bytes" "join" "bytes.join" :=
  .of (owner := "bytes") (n := "join") (by rw [typeLookup_type, builtinLookup_eq_fast]; kernel_rfl) (by decide +kernel) (by decide +kernel) (by decide +kernel)
    (by first | exact .inl (by decide +kernel) | exact .inr (by decide +kernel)) (by rw [isSubtype_type]; kernel_rfl)
theorem type_bytes_join : typeOf (.builtin "bytes.join") = pure (.type "method_descriptor") := by show builtinType _ = _; rw [builtinType_eq_fast]; kernel_rfl
theorem entry_bytes_join : entryFor table "bytes.join" = some Builtin.«bytes.join» := entryFor_of_tree (by kernel_rfl)
theorem args_bytes_join_2 (a b : Value) : argsOk "bytes.join" ⟨[a, b], []⟩ := by
  unfold argsOk; rw [signature?_of (id := "bytes.join") (n := ['n', 'i', 'o', 'j']) (o := ['s', 'e', 't', 'y', 'b']) (by kernel_rfl) FB.owner_bytes]; kernel_rfl

def bsplit (b sep : Array UInt8) : List (Array UInt8) :=
  if ((Bytes.occurrences b sep 0 b.size).take (b.size + 1)).isEmpty then [b] else Bytes.between b sep.size ((Bytes.occurrences b sep 0 b.size).take (b.size + 1))

section
variable {W : Wd} {A : Around} {s : Shared} {E : Value → Shared → Prop}

theorem mapM_mkBytes {M : Model} {O : List Addr} {h : Heap} : ∀ (xs : List (Array UInt8)) (s : Shared) (Q : List Value → Shared → Prop), (∀ x ∈ xs, x.size ≤ sizeLine) → (∀ vs k, RepL h O (xs.map .bytes) vs → Q vs { s with toks := k }) → wpAny M A (xs.mapM mkBytes) Q E s
  | [], s, Q, _, hq => by rw [List.mapM_nil]; exact wpAny_pure (hq [] s.toks (by simp only [List.map_nil, RepL]))
  | x :: r, s, Q, hx, hq => by
    rw [List.mapM_cons]
    refine wpAny_bind (wpAny_mkBytes (wpAny_bind (mapM_mkBytes (O := O) (h := h) r _ _ (fun y hy => hx y (List.mem_cons_of_mem _ hy)) fun vs k hr => wpAny_pure ?_)) (hx x List.mem_cons_self))
    exact hq _ k (by simp only [List.map_cons, RepL, Rep]; exact ⟨_, _, rfl, ⟨_, rfl⟩, hr⟩)

theorem bc_bsplit {b sep : Array UInt8} (hs : sep.isEmpty = false) (hp : ∀ x ∈ bsplit b sep, x.size ≤ 10000) (hn : (bsplit b sep).length ≤ 10000) : Bc W A (.builtin "bytes.split") [.bytes b, .bytes sep] (.lst ((bsplit b sep).map .bytes)) := fun O s vs I r => by
  simp only [RepL, Rep] at r
  obtain ⟨v, _, rfl, ⟨t, rfl⟩, v', _, rfl, ⟨t', rfl⟩, rfl⟩ := r
  refine wpAny_call_entry slot_bytes_split (typeIs_bytes _ _ _) entry_bytes_split ?_ (args_bytes_split_2 _ _)
  show wpAny _ _ (Bytes.bytesLike "bytes.split" (.bytes sep t') >>= fun r => _) _ _ s
  refine wpAny_bind (wpAny_of_eq KBd.like_eq ?_)
  show wpAny _ _ (if sep.isEmpty = true then _ else _) _ _ s
  rw [if_neg (by rw [hs]; exact Bool.false_ne_true)]
  show wpAny _ _ (if ((Bytes.occurrences b sep 0 b.size).take (b.size + 1)).isEmpty = true then _ else _) _ _ s
  have fin : ∀ (us : List Value) k, RepL s.heap O ((bsplit b sep).map .bytes) us → Stp W s { s with heap := s.heap.push { cls := .type "list", data := .seq us.toArray }, toks := k } ∧ Rep (s.heap.push { cls := .type "list", data := .seq us.toArray }) O (.lst ((bsplit b sep).map .bytes)) (.ref s.heap.objs.size) := fun us k hr => by
    refine ⟨Stp.push I.inv, ?_⟩
    simp only [Rep]
    exact ⟨_, us.toArray, rfl, I.ook.size, ⟨0, Heap.get?_push_size _ rfl⟩, hr.ext I.inv (.of_keep fun _ _ e => Heap.get?_push_of_some _ e)⟩
  split
  · rename_i hc
    have e : bsplit b sep = [b] := by unfold bsplit; rw [if_pos hc]
    rw [e] at fin ⊢
    refine wpAny_bind (wpAny_rule ?_)
    refine wpAny_bind (wpAny_of_eq (a := Value.bytes b t) rfl ?_)
    refine wpAny_bind (wpAny_newList ?_ (by rw [sizeLine_eq]; show 1 ≤ _; omega))
    exact wpAny_pure ⟨_, rfl, fin [.bytes b t] s.toks (by simp only [List.map_cons, List.map_nil, RepL, Rep]; exact ⟨_, _, rfl, ⟨_, rfl⟩, rfl⟩)⟩
  · rename_i hc
    have e : bsplit b sep = Bytes.between b sep.size ((Bytes.occurrences b sep 0 b.size).take (b.size + 1)) := by unfold bsplit; rw [if_neg hc]
    rw [e] at fin hp hn ⊢
    refine wpAny_bind (mapM_mkBytes (O := O) (h := s.heap) (Bytes.between b sep.size ((Bytes.occurrences b sep 0 b.size).take (b.size + 1))) _ _ (fun x hx => by rw [sizeLine_eq]; exact Nat.le_trans (hp x hx) (by decide)) fun us k hr => ?_)
    refine wpAny_bind (wpAny_newList ?_ (by have := hr.length; rw [List.length_map] at this; rw [this, sizeLine_eq]; omega))
    exact wpAny_pure ⟨_, rfl, fin us k hr⟩

theorem take_quiet {id : String} {b : Array UInt8} {t : Tok} : Bytes.takeBuffer? id (.bytes b t) 0 = pure (some (b, none)) := by
  unfold Bytes.takeBuffer?
  rw [KBy.special_eq KBy.look_buffer, KBy.own_buffer]
  simp only [pure_bind]
  show (Bytes.buffer? id (.bytes b t) >>= fun r => pure (r.map (·, none))) = _
  rw [KBy.buffer_eq]
  rfl
end
end Mine
end

section
-- L26
open PySem PySem.W PySem.Calls PyProof.Rows
set_option maxRecDepth 100000

namespace Mine
open Builtin

section
variable {W : Wd} {A : Around} {s : Shared} {E : Value → Shared → Prop}

theorem joinLetGo_none {M : Model} : ∀ (l : List Value) (keep : List Value) (s : Shared) (Q : Unit → Shared → Prop), Q () s → wpAny M A (Bytes.joinLetGo (l.map fun v => (v, none)) keep) Q E s
  | [], keep, s, Q, h => wpAny_pure h
  | v :: l, keep, s, Q, h => by
    show wpAny M A (letGo _ _ >>= fun _ => Bytes.joinLetGo (l.map fun v => (v, none)) keep) Q E s
    exact wpAny_bind (wpAny_letGo (joinLetGo_none l keep s Q h))
theorem foldl_size : ∀ (xs : List (Array UInt8)) (n : Nat), (∀ x ∈ xs, x.size ≤ 100) → xs.foldl (fun a b => a + b.size) n ≤ n + xs.length * 100
  | [], n, _ => by simp
  | x :: xs, n, h => by
    rw [List.foldl_cons]
    have h1 := foldl_size xs (n + x.size) fun y hy => h y (List.mem_cons_of_mem _ hy)
    have h2 := h x List.mem_cons_self
    rw [List.length_cons]
    omega
theorem joined_size (sep : Array UInt8) (hs : sep.size ≤ 100) : ∀ (xs : List (Array UInt8)) (k : Nat) (acc : Array UInt8), (∀ x ∈ xs, x.size ≤ 100) → ((xs.zipIdx k).foldl (fun out (p : Array UInt8 × Nat) => (if p.2 > 0 then out ++ sep else out) ++ p.1) acc).size ≤ acc.size + xs.length * 200
  | [], k, acc, _ => by simp
  | x :: xs, k, acc, h => by
    rw [List.zipIdx_cons, List.foldl_cons]
    have h1 := joined_size sep hs xs (k + 1) ((if k > 0 then acc ++ sep else acc) ++ x) fun y hy => h y (List.mem_cons_of_mem _ hy)
    have h2 := h x List.mem_cons_self
    rw [List.length_cons]
    have h3 : ((if k > 0 then acc ++ sep else acc) ++ x).size ≤ acc.size + 200 := by
      rw [Array.size_append]
      split
      · rw [Array.size_append]; omega
      · omega
    refine Nat.le_trans h1 ?_
    omega
theorem bc_bjoin {sep : Array UInt8} {xs : List (Array UInt8)} (hn : xs.length ≤ 1000) (hp : ∀ x ∈ xs, x.size ≤ 100) (hs : sep.size ≤ 100) (h0 : xs ≠ []) : Bc W A (.builtin "bytes.join") [.bytes sep, .lst (xs.map .bytes)] (.bytes (Bytes.joined sep xs)) := fun O s vs I r => by
  simp only [RepL] at r
  obtain ⟨v, _, rfl, r1, v', _, rfl, r2, rfl⟩ := r
  simp only [Rep] at r1 r2
  obtain ⟨t, rfl⟩ := r1
  obtain ⟨l, us, rfl, _, hl, hr⟩ := r2
  refine wpAny_call_entry slot_bytes_join (typeIs_bytes _ _ _) entry_bytes_join ?_ (args_bytes_join_2 _ _)
  have hj : wpAny W.M A.in1 (Bytes.joinItems (.ref l)) (fun v s' => v = .ref l ∧ s' = s) (fun _ _ => False) s := by
    unfold Bytes.joinItems
    refine wpAny_bind (wpAny_typeOf hl.isList.typeIs ?_)
    simp only [beq_self_eq_true, Bool.true_or, if_true]
    exact wpAny_pure ⟨rfl, rfl⟩
  obtain ⟨n, el⟩ := hl
  obtain ⟨ul⟩ := us
  show wpAny _ _ (Bytes.joinItems (.ref l) >>= fun r => _) _ _ s
  refine wpAny_bind (wpAny_mono hj (fun v s' y => ?_) fun _ _ y => y.elim)
  obtain ⟨rfl, rfl⟩ := y
  refine wpAny_bind (wpAny_seqItems el rfl ?_)
  match ul, hr with
  | [], hr =>
    have := hr.length
    cases xs with
    | nil => exact absurd rfl h0
    | cons _ _ => simp at this
  | [x], hr =>
    match xs, hr with
    | [], hr => exact absurd rfl h0
    | _ :: _ :: _, hr => have := hr.length; simp at this
    | [b], hr =>
      simp only [List.map_cons, List.map_nil, RepL, Rep] at hr
      obtain ⟨v, _, e, ⟨u, rfl⟩, rfl⟩ := hr
      cases e
      show wpAny _ _ (typeOf (.bytes b u) >>= fun _ => _) _ _ s'
      refine wpAny_bind (wpAny_typeOf (typeIs_bytes _ _ _) ?_)
      refine wpAny_bind (wpAny_rule ?_)
      refine wpAny_pure ⟨_, rfl, .refl I.inv, ?_⟩
      simp only [Rep]
      exact ⟨u, by
        have : Bytes.joined sep [b] = b := by simp [Bytes.joined]
        rw [this]
        rfl⟩
  | x :: y :: r, hr =>
    show wpAny _ _ (forIn [:(x :: y :: r).toArray.size] ((#[] : Array (Array UInt8)), ([] : List (Value × Option Value))) _ >>= _) _ _ s'
    rw [Std.Legacy.Range.forIn_eq_forIn_range']
    have hlen : (x :: y :: r).length = xs.length := by have := hr.length; simpa using this
    have hat : ∀ i (hi : i < xs.length), ∃ t, (x :: y :: r)[i]? = some (.bytes xs[i] t) := fun i hi => by
      obtain ⟨v, hv, rv⟩ := hr.get (i := i) (d := .bytes xs[i]) (by rw [List.getElem?_map, List.getElem?_eq_getElem hi]; rfl)
      simp only [Rep] at rv
      obtain ⟨t, rfl⟩ := rv
      exact ⟨t, hv⟩
    refine wpAny_bind (wpAny_forIn_list _ (fun rest a s₁ => s₁ = s' ∧ ∃ i, i + rest.length = xs.length ∧ rest = List.range' i rest.length ∧ a = ((xs.take i).toArray, ((x :: y :: r).take i).map fun v => (v, (none : Option Value)))) _ ?_ ?_ _ _ ⟨rfl, 0, ?_, ?_, ?_⟩)
    · rintro k rest a s₁ ⟨rfl, i, hi, hrest, rfl⟩
      have hk : k = i := by rw [List.length_cons, List.range'_succ] at hrest; exact (List.cons.inj hrest).1
      have hrest' : rest = List.range' (i + 1) rest.length := by rw [List.length_cons, List.range'_succ] at hrest; exact (List.cons.inj hrest).2
      subst hk
      rw [List.length_cons] at hi
      have hlt : k < xs.length := by omega
      obtain ⟨tk, hv⟩ := hat k hlt
      refine wpAny_bind (wpAny_seqItems el rfl ?_)
      have hx : (⟨x :: y :: r⟩ : Array Value).getD k .none = .bytes xs[k] tk := by
        simp [Array.getD_eq_getD_getElem?, hv]
      have hoff : ((((x :: y :: r).take k).map fun v => (v, (none : Option Value))).any fun x => x.fst.onHeap) = false := by
        rw [List.any_eq_false]
        rintro ⟨v, w⟩ hm
        obtain ⟨v', hv', e⟩ := List.mem_map.mp hm
        cases e
        obtain ⟨j, hj, e⟩ := List.getElem_of_mem hv'
        have hj' : j < xs.length := by rw [List.length_take] at hj; omega
        obtain ⟨t, ht⟩ := hat j hj'
        rw [List.getElem_take] at e
        have : (x :: y :: r)[j]? = some v := by rw [← e]; exact List.getElem?_eq_getElem _
        rw [this] at ht; cases ht
        simp [Value.onHeap]
      show wpAny _ _ (if (Bytes.Kind.bytes == Bytes.Kind.bytearray || (((x :: y :: r).take k).map fun v => (v, (none : Option Value))).any fun x => x.fst.onHeap) = true then _ else _) _ _ s₁
      rw [hoff, if_neg (by decide)]
      show wpAny _ _ (holding _ (Bytes.takeBufferQuiet? _ ((⟨x :: y :: r⟩ : Array Value).getD k .none) 0) >>= _) _ _ s₁
      rw [hx]
      refine wpAny_bind (wpAny_holding ?_)
      unfold Bytes.takeBufferQuiet?
      refine wpAny_bind (wpAny_attempt (wpAny_of_eq take_quiet ?_))
      refine wpAny_pure ?_
      refine wpAny_bind (wpAny_seqItems el rfl ?_)
      show wpAny _ _ (if ((⟨x :: y :: r⟩ : Array Value).size != (⟨x :: y :: r⟩ : Array Value).size) = true then _ else _) _ _ s₁
      rw [if_neg (by simp)]
      refine wpAny_pure ⟨rfl, k + 1, by omega, hrest', ?_⟩
      have hv' : (x :: y :: r)[k]? = some (Value.bytes xs[k] tk) := hv
      congr 1
      · rw [List.take_add_one, List.getElem?_eq_getElem hlt]
        simp
      · rw [List.take_add_one (l := x :: y :: r), hv']
        simp
    · rintro a s₁ ⟨rfl, i, hi, _, rfl⟩
      have hi' : i = xs.length := by simpa using hi
      subst hi'
      rw [List.take_length, ← hlen, List.take_length]
      refine wpAny_bind (wpAny_of_eq (a := sep) rfl ?_)
      have hbig : Bytes.tooLong (Array.foldl (fun x1 x2 => x1 + x2.size) (sep.size * (xs.toArray.size - 1)) xs.toArray) = false := by
        refine KBy.tooLong_not ?_
        rw [← Array.foldl_toList]
        have h1 := foldl_size xs (sep.size * (xs.toArray.size - 1)) hp
        have h2 : sep.size * (xs.toArray.size - 1) ≤ 100 * 1000 := Nat.mul_le_mul hs (by rw [List.size_toArray]; omega)
        have h3 : xs.length * 100 ≤ 1000 * 100 := Nat.mul_le_mul hn (Nat.le_refl _)
        refine Nat.le_trans h1 ?_
        omega
      show wpAny _ _ (if Bytes.tooLong (Array.foldl (fun x1 x2 => x1 + x2.size) (sep.size * (xs.toArray.size - 1)) xs.toArray) = true then _ else _) _ _ s₁
      rw [hbig, if_neg Bool.false_ne_true]
      show wpAny _ _ (mkBytes (Bytes.joined sep xs) >>= _) _ _ s₁
      refine wpAny_bind (wpAny_mkBytes ?_ ?_)
      · refine wpAny_bind (wpAny_holding (wpAny_point ?_))
        refine wpAny_bind (joinLetGo_none _ _ _ _ ?_)
        exact wpAny_pure ⟨_, rfl, .tok I.inv, by simp only [Rep]; exact ⟨_, rfl⟩⟩
      · have h1 := joined_size sep hs xs 0 #[] hp
        have h3 : xs.length * 200 ≤ 1000 * 200 := Nat.mul_le_mul hn (Nat.le_refl _)
        rw [sizeLine_eq]
        unfold Bytes.joined
        refine Nat.le_trans h1 ?_
        simp only [Array.size_empty] at *
        omega
    · simp; omega
    · simp
    · simp
end
end Mine
end

section
-- L27
open PySem PySem.W PySem.Calls PyProof.Rows PySem.NumText
set_option maxRecDepth 100000

namespace Mine

section
variable {W : Wd} {A : Around}
end
end Mine
end

section
-- L28
open PySem PySem.W PySem.Calls PyProof.Rows PySem.NumText
set_option maxRecDepth 100000
set_option maxHeartbeats 4000000
namespace Mine
def dg (b : Bool) : Nat := if b then 49 else 48
def val01 (base : Nat) (l : List Bool) : Nat := l.foldl (fun acc b => acc * base + if b then 1 else 0) 0
end Mine
end

section
-- M5
open PySem PySem.W PySem.Calls PyProof.Rows PySem.NumText
set_option maxRecDepth 100000
set_option maxHeartbeats 4000000
namespace Mine
abbrev tx (l : List Bool) : PySem.Str := ⟨(l.map dg).toArray⟩
end Mine
end

section
-- M6
open PySem PySem.W PySem.Calls PyProof.Rows PySem.NumText
set_option maxRecDepth 100000
set_option maxHeartbeats 4000000
namespace Mine
/-- Every `p`-th of `l` from the `i`-th on. -/
def every (p : Nat) (l : List Bool) : Nat → Nat → List Bool
  | 0, _ => []
  | f + 1, i => match l[i]? with
    | some x => x :: every p l f (i + p)
    | none => []
end Mine
end

section
-- L29
open PySem PySem.W PySem.Calls PyProof.Rows
set_option maxRecDepth 100000
namespace Mine
theorem x_assignB {W : Wd} {A : Around} {env : Env} {D : List (Str × Dt)} {b : Base} {OL : List (Addr × List Dt)} {s : Shared} {E : Value → Shared → Prop} {Q : Flow → Shared → Prop} {x : Str} {e : Expr} {p₁ pos : Pos} {d : Dt} {body rest : List Stmt} (hb : body = .Assign [.Name x p₁] e pos :: rest) (S : St W b env D OL s) (he : Ev W A env D e d) (hk : Sto W b env x) (hs : swapsWith e (some (.Name x p₁)) pos.line env = pure false)
    (h : ∀ s', St W b env ((x, d) :: D) OL s' → wpAny W.M A (execs rest env) Q E s') : wpAny W.M A (execs body env) Q E s := by
  rw [hb]; exact x_assign S he hk hs h
end Mine
end

section
-- M7
open PySem PySem.W PySem.Calls PyProof.Rows PySem.NumText
set_option maxRecDepth 100000
namespace Mine
theorem cps_append (a b : PySem.Str) : (a ++ b).cps = a.cps ++ b.cps := rfl
theorem join_cps : ∀ xs : List PySem.Str, (PySem.Str.join "" xs).cps.toList = xs.flatMap (·.cps.toList)
  | [] => rfl
  | [x] => by simp [PySem.Str.join]
  | x :: y :: r => by
    have h := join_cps (y :: r)
    show ((x ++ ("" : PySem.Str)) ++ PySem.Str.join "" (y :: r)).cps.toList = _
    rw [cps_append, cps_append, Array.toList_append, Array.toList_append, h]
    have e : ("" : PySem.Str).cps.toList = [] := by decide +kernel
    rw [e]
    simp
theorem txt_join_cps (xs : List PySem.Str) : (Txt.join "" xs).cps.toList = xs.flatMap (·.cps.toList) := by
  have : Txt.join "" xs = PySem.Str.join "" xs := StrLaws.glued_eq_join _ _
  rw [this, join_cps]
theorem str_ext {a b : PySem.Str} (h : a.cps.toList = b.cps.toList) : a = b := by
  cases a with
  | mk a => cases b with
    | mk b => exact congrArg PySem.Str.mk (Array.toList_inj.mp h)
theorem map_range_getD {α β : Type} (l : List α) (d : α) (f : α → β) : (List.range l.length).map (fun i => f (l.getD i d)) = l.map f := by
  apply List.ext_getElem
  · simp
  · intro i h1 h2
    simp at h1
    simp [List.getD_eq_getElem?_getD, h1]
theorem getD_map' {α β : Type} (l : List α) (f : α → β) (d : α) (e : β) (i : Nat) (h : i < l.length) : (l.map f).getD i e = f (l.getD i d) := by
  simp [List.getD_eq_getElem?_getD, h]
theorem pw_ne : ∀ {l : List (PySem.Str × Addr)} (_ : l.Pairwise fun x y => x.2 ≠ y.2) {x y : PySem.Str × Addr} (_ : x ∈ l) (_ : y ∈ l) (_ : x.1 ≠ y.1), x.2 ≠ y.2
  | _ :: _, .cons h hl, x, y, hx, hy, hne => by
    rcases List.mem_cons.mp hx with e1 | hx'
    · rcases List.mem_cons.mp hy with e2 | hy'
      · exact absurd (by rw [e1, e2]) hne
      · rw [e1]; exact h _ hy'
    · rcases List.mem_cons.mp hy with e2 | hy'
      · rw [e2]; exact fun e => h _ hx' e.symm
      · exact pw_ne hl hx' hy' hne
theorem cl_apart {cells : List (PySem.Str × Addr)} (k1 : ∀ x c, cells.lookup x = some c → (x, c) ∈ cells) (k2 : cells.Pairwise fun x y => x.2 ≠ y.2) : ∀ {cl : List (PySem.Str × Addr)} (_ : ∀ p ∈ cl, cells.lookup p.1 = some p.2) (_ : (cl.map (·.1)).Nodup), cl.Pairwise fun x y => x.2 ≠ y.2
  | [], _, _ => .nil
  | p :: cl, hs, hn => by
    simp only [List.map_cons, List.nodup_cons] at hn
    refine .cons (fun q hq => ?_) (cl_apart k1 k2 (fun r hr => hs r (List.mem_cons_of_mem _ hr)) hn.2)
    have h1 := k1 _ _ (hs p List.mem_cons_self)
    have h2 := k1 _ _ (hs q (List.mem_cons_of_mem _ hq))
    refine pw_ne k2 h1 h2 fun e => hn.1 ?_
    rw [e]
    exact List.mem_map_of_mem hq
end Mine
end

section
-- M8
open PySem PySem.W PySem.Calls PyProof.Rows PySem.NumText
set_option maxRecDepth 100000
namespace Mine
/-- What a column reads as. -/
def rd (base : Int) (l : List Bool) : Int := if base = 1 then l.countP id else val01 base.toNat l.reverse
/-- The same, sign by sign. -/
def rdr (base : Int) : List Bool → Int
  | [] => 0
  | x :: l => (if x then 1 else 0) + base * rdr base l
end Mine
end

section
-- M9
open PySem PySem.W PySem.Calls PyProof.Rows PySem.NumText
set_option maxRecDepth 100000
namespace Mine
/-- The rows with a sign between. -/
def inter {α : Type} (c : α) : List (List α) → List α
  | [] => []
  | [x] => x
  | x :: y :: r => x ++ c :: inter c (y :: r)
theorem cut_eq {α : Type} {c : α} : ∀ {a a' s s' : List α}, c ∉ a → c ∉ a' → a ++ c :: s = a' ++ c :: s' → a = a' ∧ s = s'
  | [], [], s, s', _, _, h => by simpa using h
  | [], x :: a', s, s', _, h2, h => by
    simp only [List.nil_append, List.cons_append, List.cons.injEq] at h
    exact absurd (h.1 ▸ List.mem_cons_self) h2
  | x :: a, [], s, s', h1, _, h => by
    simp only [List.nil_append, List.cons_append, List.cons.injEq] at h
    exact absurd (h.1 ▸ List.mem_cons_self) h1
  | x :: a, y :: a', s, s', h1, h2, h => by
    simp only [List.cons_append, List.cons.injEq] at h
    obtain ⟨e1, e2⟩ := cut_eq (fun m => h1 (List.mem_cons_of_mem _ m)) (fun m => h2 (List.mem_cons_of_mem _ m)) h.2
    exact ⟨by rw [h.1, e1], e2⟩
theorem inter_inj {α : Type} (c : α) : ∀ (xs ys : List (List α)), xs ≠ [] → ys ≠ [] → (∀ x ∈ xs, c ∉ x) → (∀ y ∈ ys, c ∉ y) → inter c xs = inter c ys → xs = ys
  | [], _, h, _, _, _, _ => absurd rfl h
  | _, [], _, h, _, _, _ => absurd rfl h
  | [x], [y], _, _, _, _, h => by rw [show x = y from h]
  | [x], y :: y' :: r, _, _, h1, _, h => by
    exfalso
    refine h1 x List.mem_cons_self ?_
    rw [show x = y ++ c :: inter c (y' :: r) from h]
    exact List.mem_append_right _ List.mem_cons_self
  | x :: x' :: r, [y], _, _, _, h2, h => by
    exfalso
    refine h2 y List.mem_cons_self ?_
    rw [← show x ++ c :: inter c (x' :: r) = y from h]
    exact List.mem_append_right _ List.mem_cons_self
  | x :: x' :: r, y :: y' :: q, _, _, h1, h2, h => by
    obtain ⟨e1, e2⟩ := cut_eq (h1 x List.mem_cons_self) (h2 y List.mem_cons_self) h
    rw [e1, inter_inj c (x' :: r) (y' :: q) (by simp) (by simp) (fun z hz => h1 z (List.mem_cons_of_mem _ hz)) (fun z hz => h2 z (List.mem_cons_of_mem _ hz)) e2]
theorem join_inter (c : Nat) : ∀ xs : List PySem.Str, (PySem.Str.join ⟨#[c]⟩ xs).cps.toList = inter c (xs.map (·.cps.toList))
  | [] => rfl
  | [x] => rfl
  | x :: y :: r => by
    show ((x ++ (⟨#[c]⟩ : PySem.Str)) ++ PySem.Str.join ⟨#[c]⟩ (y :: r)).cps.toList = _
    rw [cps_append, cps_append, Array.toList_append, Array.toList_append, join_inter c (y :: r)]
    simp [inter]
theorem map_cps_inj : ∀ {xs ys : List PySem.Str}, xs.map (·.cps.toList) = ys.map (·.cps.toList) → xs = ys
  | [], [], _ => rfl
  | [], _ :: _, h => by simp at h
  | _ :: _, [], h => by simp at h
  | x :: xs, y :: ys, h => by
    simp only [List.map_cons, List.cons.injEq] at h
    rw [str_ext h.1, map_cps_inj h.2]
theorem split_join {c : Nat} {xs : List PySem.Str} (h0 : xs ≠ []) (hc : ∀ x ∈ xs, c ∉ x.cps.toList) : Txt.split (Txt.join ⟨#[c]⟩ xs) ⟨#[c]⟩ = xs := by
  have e : Txt.join ⟨#[c]⟩ xs = PySem.Str.join ⟨#[c]⟩ xs := StrLaws.glued_eq_join _ _
  rw [e]
  apply map_cps_inj
  refine inter_inj c _ _ ?_ (by simpa using h0) ?_ ?_ ?_
  · have := split_pos (PySem.Str.join ⟨#[c]⟩ xs) ⟨#[c]⟩
    intro h
    rw [List.map_eq_nil_iff] at h
    rw [h] at this
    simp at this
  · intro x hx
    obtain ⟨p, hp, rfl⟩ := List.mem_map.mp hx
    exact StrLaws.split_free _ c p hp
  · intro x hx
    obtain ⟨p, hp, rfl⟩ := List.mem_map.mp hx
    exact hc p hp
  · rw [← join_inter, ← join_inter, StrLaws.join_split]
end Mine
end

section
-- M10
open PySem PySem.W PySem.Calls PyProof.Rows Builtin
set_option maxRecDepth 100000
namespace Mine
theorem inter_flat {α : Type} (c : α) (x : List α) : ∀ xs : List (List α), inter c (x :: xs) = x ++ xs.flatMap (fun y => c :: y)
  | [] => by simp [inter]
  | y :: r => by
    have := inter_flat c y r
    show x ++ c :: inter c (y :: r) = _
    rw [this]; simp
theorem joined_go (c : UInt8) : ∀ (ps : List (Array UInt8)) (k : Nat) (acc : Array UInt8), 0 < k → ((ps.zipIdx k).foldl (fun out (p : Array UInt8 × Nat) => (if p.2 > 0 then out ++ #[c] else out) ++ p.1) acc).toList = acc.toList ++ ps.flatMap (fun y => c :: y.toList)
  | [], _, _, _ => by simp
  | p :: ps, k, acc, h => by
    rw [List.zipIdx_cons, List.foldl_cons, joined_go c ps (k + 1) _ (by omega)]
    simp [h]
theorem joined_inter (c : UInt8) : ∀ ps : List (Array UInt8), (Bytes.joined #[c] ps).toList = inter c (ps.map (·.toList))
  | [] => rfl
  | p :: ps => by
    have h := joined_go c ps 1 p (by omega)
    rw [List.map_cons, inter_flat, List.flatMap_map]
    rw [← h]
    unfold Bytes.joined
    rw [List.zipIdx_cons, List.foldl_cons]
    congr 2
    simp
def hit (b : Array UInt8) (c : UInt8) (i : Nat) : Bool := b.extract i (i + 1) == #[c]
theorem hit_iff (b : Array UInt8) (c : UInt8) (i : Nat) : hit b c i = true ↔ b.toList[i]? = some c := by
  unfold hit
  rw [beq_iff_eq, ← Array.toList_inj, Array.toList_extract, List.extract_eq_take_drop, show i + 1 - i = 1 by omega]
  rw [List.take_one, List.head?_drop]
  cases h : b.toList[i]? <;> simp
theorem occ_go (b : Array UInt8) (c : UInt8) : ∀ (m a : Nat) (acc : List Nat) (f : Nat), f ≤ a →
    ((List.range' a m).foldl (fun (acc : List Nat × Nat) (i : Nat) => if i ≥ acc.2 && b.extract i (i + (#[c] : Array UInt8).size) == #[c] then (i :: acc.1, i + (#[c] : Array UInt8).size) else acc) (acc, f)).1.reverse = acc.reverse ++ (List.range' a m).filter (hit b c)
  | 0, _, _, _, _ => by simp
  | m + 1, a, acc, f, h => by
    rw [List.range'_succ, List.foldl_cons, List.filter_cons]
    have e : (decide (a ≥ f) && b.extract a (a + (#[c] : Array UInt8).size) == #[c]) = hit b c a := by
      rw [decide_eq_true h, Bool.true_and]; rfl
    by_cases hh : hit b c a = true
    · rw [if_pos (by rw [e]; exact hh), if_pos hh, occ_go b c m (a + 1) _ _ (by simp)]
      simp
    · rw [if_neg (by rw [e]; exact hh), if_neg hh, occ_go b c m (a + 1) _ _ (by omega)]
theorem occ_filter (b : Array UInt8) (c : UInt8) : Bytes.occurrences b #[c] 0 b.size = (List.range' 0 b.size).filter (hit b c) := by
  unfold Bytes.occurrences
  have e : (List.range (b.size + 1 - (0 + (#[c] : Array UInt8).size))).map (· + 0) = List.range' 0 b.size := by
    simp [List.range_eq_range']
  rw [e]
  have := occ_go b c b.size 0 [] 0 (Nat.le_refl _)
  simpa using this
def partsB (b : Array UInt8) : Nat → List Nat → List (Array UInt8)
  | a, [] => [b.extract a b.size]
  | a, p :: r => b.extract a p :: partsB b (p + 1) r
theorem between_go (b : Array UInt8) : ∀ (ps : List Nat) (acc : Array (Array UInt8)) (a : Nat),
    (((ps.foldl (fun (x : Array (Array UInt8) × Nat) p => (x.1.push (b.extract x.2 p), p + 1)) (acc, a)).1).push (b.extract (ps.foldl (fun (x : Array (Array UInt8) × Nat) p => (x.1.push (b.extract x.2 p), p + 1)) (acc, a)).2 b.size)).toList = acc.toList ++ partsB b a ps
  | [], acc, a => by simp [partsB]
  | p :: ps, acc, a => by
    rw [List.foldl_cons, between_go b ps]
    simp [partsB]
theorem between_parts (b : Array UInt8) (ps : List Nat) : Bytes.between b 1 ps = partsB b 0 ps := by
  have := between_go b ps #[] 0
  simp only [List.nil_append] at this
  rw [← this]; rfl
theorem ext_list (b : Array UInt8) (i j : Nat) : (b.extract i j) = ((b.toList.drop i).take (j - i)).toArray := by
  rw [← Array.toList_inj, Array.toList_extract, List.extract_eq_take_drop]
theorem parts_rows (b : Array UInt8) (c : UInt8) : ∀ (rows : List (List UInt8)) (a : Nat), rows ≠ [] → a ≤ b.size → b.toList.drop a = inter c rows → (∀ r ∈ rows, c ∉ r) →
    partsB b a ((List.range' a (b.size - a)).filter (hit b c)) = rows.map (·.toArray)
  | [], _, h, _, _, _ => absurd rfl h
  | [r], a, _, ha, e, hc => by
    have e' : b.toList.drop a = r := e
    have : (List.range' a (b.size - a)).filter (hit b c) = [] := by
      rw [List.filter_eq_nil_iff]
      intro i hi hh
      rw [List.mem_range'_1] at hi
      rw [hit_iff] at hh
      refine hc r List.mem_cons_self ?_
      rw [← e']
      have : (b.toList.drop a)[i - a]? = some c := by rw [List.getElem?_drop, show a + (i - a) = i by omega]; exact hh
      exact List.mem_of_getElem? this
    rw [this]
    unfold partsB
    rw [ext_list, e', List.take_of_length_le (by rw [← e', List.length_drop]; simp)]
    rfl
  | r :: s :: t, a, _, ha, e, hc => by
    have e' : b.toList.drop a = r ++ c :: inter c (s :: t) := e
    have hlen : b.size - a = r.length + (1 + (inter c (s :: t)).length) := by
      have := congrArg List.length e'
      simp at this
      omega
    have hget : ∀ i, b.toList[a + i]? = (r ++ c :: inter c (s :: t))[i]? := fun i => by rw [← e', List.getElem?_drop]
    have f1 : (List.range' a r.length).filter (hit b c) = [] := by
      rw [List.filter_eq_nil_iff]
      intro i hi hh
      rw [List.mem_range'_1] at hi
      rw [hit_iff, show i = a + (i - a) by omega, hget, List.getElem?_append_left (by omega)] at hh
      exact hc r List.mem_cons_self (List.mem_of_getElem? hh)
    have f2 : hit b c (a + r.length) = true := by
      rw [hit_iff, hget]; simp
    have hd : b.toList.drop (a + r.length + 1) = inter c (s :: t) := by
      rw [show a + r.length + 1 = a + (r.length + 1) by omega, ← List.drop_drop, e']
      rw [← List.drop_drop]; simp
    have ih := parts_rows b c (s :: t) (a + r.length + 1) (by simp) (by omega) hd fun q hq => hc q (List.mem_cons_of_mem _ hq)
    have hsz : b.size - (a + r.length + 1) = (inter c (s :: t)).length := by omega
    rw [hsz] at ih
    rw [hlen, ← List.range'_append_1, List.filter_append, f1, List.nil_append, ← List.range'_append_1, List.filter_append]
    have f3 : (List.range' (a + r.length) 1).filter (hit b c) = [a + r.length] := by simp [f2]
    rw [f3]
    show b.extract a (a + r.length) :: partsB b (a + r.length + 1) ((List.range' (a + r.length + 1) (inter c (s :: t)).length).filter (hit b c)) = _
    rw [ih, ext_list, e', show a + r.length - a = r.length by omega]
    simp
theorem bsplit_inter {c : UInt8} {rows : List (List UInt8)} (h0 : rows ≠ []) (hc : ∀ r ∈ rows, c ∉ r) : bsplit (inter c rows).toArray #[c] = rows.map (·.toArray) := by
  obtain ⟨b, hb⟩ : ∃ b, b = (inter c rows).toArray := ⟨_, rfl⟩
  have key := parts_rows b c rows 0 h0 (Nat.zero_le _) (by rw [hb]; rfl) hc
  rw [← hb]
  unfold bsplit
  rw [occ_filter]
  have ht : ((List.range' 0 b.size).filter (hit b c)).take (b.size + 1) = (List.range' 0 b.size).filter (hit b c) := by
    apply List.take_of_length_le
    have := List.length_filter_le (hit b c) (List.range' 0 b.size)
    rw [List.length_range'] at this
    omega
  rw [ht]
  rw [Nat.sub_zero] at key
  split
  · rename_i h
    rw [List.isEmpty_iff] at h
    rw [h] at key
    rw [← key]
    unfold partsB
    simp
  · rw [← key]
    exact between_parts b _
end Mine
end

section
-- M4
open PySem PySem.W PySem.Calls PyProof.Rows
set_option maxRecDepth 100000
namespace Mine
/-- The table of filemode. -/
def fmTab : List (List (Int × Str)) :=
  [[(40960, "l"), (49152, "s"), (32768, "-"), (24576, "b"), (16384, "d"), (8192, "c"), (4096, "p")], [(256, "r")], [(128, "w")], [(2112, "s"), (2048, "S"), (64, "x")], [(32, "r")], [(16, "w")], [(1032, "s"), (1024, "S"), (8, "x")], [(4, "r")], [(2, "w")], [(513, "t"), (512, "T"), (1, "x")]]
def fmRow (i : Nat) : List (Int × Str) := fmTab.getD i []
def fmHit (m : Int) (i : Nat) (bit : Int) : Bool := if i = 0 then Builtin.bitAnd m 61440 == bit else Builtin.bitAnd m bit == bit
def fmPick (m : Int) (i : Nat) : List (Int × Str) → Str
  | [] => if i = 0 then "?" else "-"
  | (bit, c) :: r => if fmHit m i bit then c else fmPick m i r
def fmRows (m : Int) : Nat → List Str
  | 0 => []
  | i + 1 => fmRows m i ++ [fmPick m i (fmRow i)]
def fmode (m : Int) : Str := Txt.join "" (fmRows m 10)
theorem fmRows_length (m : Int) : ∀ i, (fmRows m i).length = i
  | 0 => rfl
  | i + 1 => by simp [fmRows, fmRows_length m i]
theorem fmPick_mem (m : Int) (i : Nat) : ∀ r : List (Int × Str), (∀ p ∈ r, p.2.length = 1) → (fmPick m i r).length = 1
  | [], _ => by unfold fmPick; split <;> rfl
  | (bit, c) :: r, h => by
    unfold fmPick
    split
    · exact h (bit, c) List.mem_cons_self
    · exact fmPick_mem m i r fun p hp => h p (List.mem_cons_of_mem _ hp)
theorem fmRows_one (m : Int) : ∀ i, i ≤ 10 → ∀ y ∈ fmRows m i, y.length = 1
  | 0, _, _, h => nomatch h
  | i + 1, hi, y, h => by
    unfold fmRows at h
    rcases List.mem_append.mp h with h | h
    · exact fmRows_one m i (by omega) y h
    · simp only [List.mem_singleton] at h
      subst h
      refine fmPick_mem m i _ ?_
      have : i < 10 := by omega
      have key : ∀ i, i < 10 → ∀ p ∈ fmRow i, p.2.length = 1 := by decide +kernel
      exact key i this
theorem sum_ones : ∀ ys : List Str, (∀ y ∈ ys, y.length = 1) → (ys.map (·.length)).sum = ys.length
  | [], _ => rfl
  | y :: ys, h => by
    rw [List.map_cons, List.sum_cons, h y List.mem_cons_self, sum_ones ys fun z hz => h z (List.mem_cons_of_mem _ hz), List.length_cons]
    omega
theorem fmRows_len (m : Int) : ((fmRows m 10).map (·.length)).sum + (fmRows m 10).length * ("" : Str).length ≤ 16777216 := by
  rw [sum_ones _ (fmRows_one m 10 (Nat.le_refl _)), fmRows_length]; decide
theorem fmTab_get (i : Nat) (h : i < 10) : (fmTab.map fun r => Dt.tup (pairs (r.map fun p => (Dt.int p.1, Dt.str p.2)))).getD i .none = Dt.tup (pairs ((fmRow i).map fun p => (Dt.int p.1, Dt.str p.2))) := by
  have : i < fmTab.length := by simpa [fmTab] using h
  simp [List.getD_eq_getElem?_getD, fmRow, this, pairs, Function.comp_def]
theorem nat_eq0 (i : Nat) : (((i : Int)) == 0) = decide (i = 0) := by
  cases i with
  | zero => rfl
  | succ n => simp; omega
theorem x_break {W : Wd} {A : Around} {env : Env} {s : Shared} {E : Value → Shared → Prop} {rest : List Stmt} {pos : Pos} {Q : Flow → Shared → Prop} (h : Q .brk s) : wpAny W.M A (execs (.Break pos :: rest) env) Q E s := wpAny_execs_cons (wpAny_Break h)
end Mine
end

section
-- M11
open PySem PySem.W PySem.Calls PyProof.Rows Builtin
set_option maxRecDepth 100000
namespace Mine
/-- The bit `k` of `x`: 0 or 1. -/
def bt (x : Int) : Nat → Int
  | 0 => x % 2
  | k + 1 => bt (x / 2) k
theorem bt_01 : ∀ (k : Nat) (x : Int), bt x k = 0 ∨ bt x k = 1
  | 0, x => by unfold bt; omega
  | k + 1, x => bt_01 k (x / 2)
theorem bt_eq : ∀ (k : Nat) (x : Int), bt x k = x / 2 ^ k % 2
  | 0, x => by simp [bt]
  | k + 1, x => by
    show bt (x / 2) k = _
    rw [bt_eq k, Int.pow_succ, Int.mul_comm, ← Int.ediv_ediv_of_nonneg (by decide)]
/-- A mask's value, and what it leaves. -/
def mval : List Bool → Int
  | [] => 0
  | b :: r => 2 * mval r + (if b then 1 else 0)
def msel (x : Int) : List Bool → Int
  | [] => 0
  | b :: r => 2 * msel (x / 2) r + (if b then x % 2 else 0)
theorem and_sel : ∀ (bs : List Bool) (x : Int), Builtin.bitAnd x (mval bs) = msel x bs
  | [], x => bitAnd_zero x
  | b :: r, x => by
    rw [kbt_halves]
    cases b with
    | true =>
      have e1 : mval (true :: r) = 2 * mval r + 1 := rfl
      have e2 : msel x (true :: r) = 2 * msel (x / 2) r + x % 2 := rfl
      rw [e1, e2, show (2 * mval r + 1) / 2 = mval r by omega, and_sel r]
      have : (2 * mval r + 1) % 2 = 1 := by omega
      rw [this]
      rcases (by omega : x % 2 = 0 ∨ x % 2 = 1) with h | h <;> simp [h]
    | false =>
      have e1 : mval (false :: r) = 2 * mval r := by simp [mval]
      have e2 : msel x (false :: r) = 2 * msel (x / 2) r := by simp [msel]
      rw [e1, e2, show (2 * mval r) / 2 = mval r by omega, and_sel r]
      have : ¬ (x % 2 = 1 ∧ 2 * mval r % 2 = 1) := by omega
      rw [if_neg this, Int.add_zero]
abbrev FF : Bool := false
abbrev TT : Bool := true
theorem and_bit (k : Nat) (x : Int) : Builtin.bitAnd x (2 ^ k) = bt x k * 2 ^ k := by rw [kbt_bit, bt_eq]
theorem and_two {i j : Nat} (h : i < j) (x : Int) : Builtin.bitAnd x (2 ^ i + 2 ^ j) = bt x i * 2 ^ i + bt x j * 2 ^ j := by
  induction i generalizing j x with
  | zero =>
    obtain ⟨j, rfl⟩ : ∃ k, j = k + 1 := ⟨j - 1, by omega⟩
    rw [kbt_halves]
    have e : ((2 : Int) ^ 0 + 2 ^ (j + 1)) = 2 * 2 ^ j + 1 := by rw [Int.pow_succ]; simp; omega
    rw [e, show (2 * (2 : Int) ^ j + 1) / 2 = 2 ^ j by omega, and_bit]
    have h2 : (2 * (2 : Int) ^ j + 1) % 2 = 1 := by omega
    rw [h2]
    show _ = x % 2 * 2 ^ 0 + bt (x / 2) j * 2 ^ (j + 1)
    rw [Int.pow_succ]
    have : bt (x / 2) j * (2 ^ j * 2) = 2 * (bt (x / 2) j * 2 ^ j) := by rw [← Int.mul_assoc, Int.mul_comm]
    rw [this]
    rcases (by omega : x % 2 = 0 ∨ x % 2 = 1) with h | h <;> simp [h] <;> omega
  | succ i ih =>
    obtain ⟨j, rfl⟩ : ∃ k, j = k + 1 := ⟨j - 1, by omega⟩
    rw [kbt_halves]
    have e : ((2 : Int) ^ (i + 1) + 2 ^ (j + 1)) = 2 * (2 ^ i + 2 ^ j) := by rw [Int.pow_succ, Int.pow_succ]; omega
    rw [e, show (2 * ((2 : Int) ^ i + 2 ^ j)) / 2 = 2 ^ i + 2 ^ j by omega, ih (by omega)]
    have : ¬ (x % 2 = 1 ∧ 2 * ((2 : Int) ^ i + 2 ^ j) % 2 = 1) := by omega
    rw [if_neg this]
    show _ = bt (x / 2) i * 2 ^ (i + 1) + bt (x / 2) j * 2 ^ (j + 1)
    rw [Int.pow_succ, Int.pow_succ, ← Int.mul_assoc, ← Int.mul_assoc]
    omega

theorem hit_one (k : Nat) (x : Int) {c : Int} (hc : c = 2 ^ k) : (Builtin.bitAnd x c == c) = (bt x k == 1) := by
  rw [hc, and_bit, Bool.eq_iff_iff, beq_iff_eq, beq_iff_eq]
  have := two_pow_pos k
  rcases bt_01 k x with h | h <;> rw [h] <;> simp <;> omega
theorem hit_two {i j : Nat} (h : i < j) (x : Int) {c : Int} (hc : c = 2 ^ i + 2 ^ j) : (Builtin.bitAnd x c == c) = (bt x i == 1 && bt x j == 1) := by
  rw [hc, and_two h, Bool.eq_iff_iff, Bool.and_eq_true, beq_iff_eq, beq_iff_eq, beq_iff_eq]
  have h1 := two_pow_pos i
  have h2 := two_pow_pos j
  rcases bt_01 i x with h | h <;> rcases bt_01 j x with h' | h' <;> rw [h, h'] <;> simp <;> omega
theorem pick_in (m : Int) (i : Nat) : ∀ r : List (Int × PySem.Str), fmPick m i r ∈ r.map (·.2) ++ [if i = 0 then ("?" : PySem.Str) else "-"]
  | [] => by unfold fmPick; simp
  | (bit, c) :: r => by
    have ih := pick_in m i r
    have e : fmPick m i ((bit, c) :: r) = if fmHit m i bit = true then c else fmPick m i r := rfl
    rw [e, List.map_cons, List.cons_append]
    by_cases h : fmHit m i bit = true
    · rw [if_pos h]; exact List.mem_cons_self
    · rw [if_neg h]; exact List.mem_cons_of_mem _ ih
theorem row_chars : ∀ i, i < 10 → ∀ y ∈ (fmRow i).map (·.2) ++ [if i = 0 then ("?" : PySem.Str) else "-"], y = ⟨#[y.cps.toList.headD 0]⟩ ∧ y.cps.toList.headD 0 < 128 ∧ y.cps.toList.headD 0 ≠ 47 := by decide +kernel
def fmC (m : Int) (i : Nat) : Nat := (fmPick m i (fmRow i)).cps.toList.headD 0
theorem pick_char (m : Int) {i : Nat} (hi : i < 10) : fmPick m i (fmRow i) = ⟨#[fmC m i]⟩ ∧ fmC m i < 128 ∧ fmC m i ≠ 47 := row_chars i hi _ (pick_in m i (fmRow i))
theorem fmRows_eq (m : Int) : ∀ n, fmRows m n = (List.range n).map fun i => fmPick m i (fmRow i)
  | 0 => rfl
  | n + 1 => by rw [List.range_succ, List.map_append, ← fmRows_eq m n]; rfl
theorem fmode_cps (m : Int) : (fmode m).cps.toList = (List.range 10).map (fmC m) := by
  unfold fmode
  rw [txt_join_cps, fmRows_eq, List.flatMap_map]
  have : ∀ l : List Nat, (∀ i ∈ l, i < 10) → l.flatMap (fun i => (fmPick m i (fmRow i)).cps.toList) = l.map (fmC m) := by
    intro l
    induction l with
    | nil => intro _; rfl
    | cons a l ih =>
      intro h
      rw [List.flatMap_cons, ih fun i hi => h i (List.mem_cons_of_mem _ hi), (pick_char m (h a List.mem_cons_self)).1]
      rfl
  exact this _ fun i hi => List.mem_range.mp hi
theorem fmode_len (m : Int) : (fmode m).length = 10 := by
  show (fmode m).cps.size = 10
  rw [← Array.length_toList, fmode_cps]; simp
theorem fmode_char (m : Int) : ∀ c ∈ (fmode m).cps.toList, c < 128 ∧ c ≠ 47 := by
  intro c hc
  rw [fmode_cps] at hc
  obtain ⟨i, hi, rfl⟩ := List.mem_map.mp hc
  exact (pick_char m (List.mem_range.mp hi)).2
theorem item_fmode (m : Int) {i : Nat} (hi : i < 10) : Txt.item (fmode m) (i : Int) = ⟨#[fmC m i]⟩ := by
  unfold Txt.item Txt.charAt
  have hs : seqIndex? (i : Int) (fmode m).length = some i := by
    rw [fmode_len]
    have : ∀ i, i < 10 → seqIndex? ((i : Nat) : Int) 10 = some i := by decide +kernel
    exact this i hi
  rw [hs]
  have : (fmode m).cps[i]? = some (fmC m i) := by
    rw [← Array.getElem?_toList, fmode_cps]; simp [hi]
  show (⟨#[((fmode m).cps[i]?).getD 0]⟩ : PySem.Str) = _
  rw [this]; rfl
end Mine
end

section
-- M12
open PySem PySem.W PySem.Calls PyProof.Rows Builtin
set_option maxRecDepth 100000
namespace Mine
def marks1 : List (Int × PySem.Str) := [(9, "xt"), (8, "w"), (7, "r"), (6, "xs"), (5, "w"), (4, "r"), (3, "xs"), (2, "w"), (1, "r")]
def marks2 : List (Int × PySem.Str) := [(9, "tT"), (6, "sS"), (3, "sS"), (0, "p"), (0, "c"), (0, "d"), (0, "b"), (0, "-"), (0, "l"), (0, "s")]
def marks : List (Int × PySem.Str) := marks1 ++ marks2
/-- The mark `p` in the row. -/
def hasMark (row : PySem.Str) (p : Int × PySem.Str) : Bool := !(Builtin.Str.occurrences p.2 (Txt.item row p.1) 0 p.2.length 1).isEmpty
/-- The column of the mark. -/
def column (flip : Bool) (rows : List PySem.Str) (p : Int × PySem.Str) : List Bool := rows.map fun row => xor flip (hasMark row p)
def kindBits : List Int := [4096, 8192, 16384, 24576, 32768, 40960, 49152]
def kinds (m : Int) : List Bool := kindBits.map fun c => Builtin.bitAnd m 61440 == c
def digit (m : Int) : Int := Builtin.bitAnd m 4095 + ((List.range 7).map fun k => (if (kinds m).getD k false then 1 else 0) * 2 ^ (12 + k)).sum

theorem mark_at (m : Int) {i : Nat} (hi : i < 10) (x : PySem.Str) : hasMark (fmode m) ((i : Int), x) = decide (fmC m i ∈ x.cps.toList) := by
  unfold hasMark
  rw [item_fmode m hi]
  exact StrLaws.found_one x (fmC m i)
def ch (x : PySem.Str) : Nat := x.cps.toList.headD 0
theorem c_three (m : Int) {i lo hi : Nat} {a b c : PySem.Str} {mlh mh ml : Int} (hr : fmC m i = ch (if (Builtin.bitAnd m mlh == mlh) = true then a else if (Builtin.bitAnd m mh == mh) = true then b else if (Builtin.bitAnd m ml == ml) = true then c else "-"))
    (h : lo < hi) (e1 : mlh = 2 ^ lo + 2 ^ hi) (e2 : mh = 2 ^ hi) (e3 : ml = 2 ^ lo) :
    fmC m i = ch (if (bt m lo == 1 && bt m hi == 1) = true then a else if (bt m hi == 1) = true then b else if (bt m lo == 1) = true then c else "-") := by
  rw [hr, hit_two h m e1, hit_one hi m e2, hit_one lo m e3]
theorem c9 (m : Int) : fmC m 9 = ch (if (bt m 0 == 1 && bt m 9 == 1) = true then "t" else if (bt m 9 == 1) = true then "T" else if (bt m 0 == 1) = true then "x" else "-") := c_three m (mlh := 513) (mh := 512) (ml := 1) rfl (by decide) (by decide) (by decide) (by decide)
theorem c6 (m : Int) : fmC m 6 = ch (if (bt m 3 == 1 && bt m 10 == 1) = true then "s" else if (bt m 10 == 1) = true then "S" else if (bt m 3 == 1) = true then "x" else "-") := c_three m (mlh := 1032) (mh := 1024) (ml := 8) rfl (by decide) (by decide) (by decide) (by decide)
theorem c3 (m : Int) : fmC m 3 = ch (if (bt m 6 == 1 && bt m 11 == 1) = true then "s" else if (bt m 11 == 1) = true then "S" else if (bt m 6 == 1) = true then "x" else "-") := c_three m (mlh := 2112) (mh := 2048) (ml := 64) rfl (by decide) (by decide) (by decide) (by decide)
theorem c_one (m : Int) {i lo : Nat} {a : PySem.Str} {ml : Int} (hr : fmC m i = ch (if (Builtin.bitAnd m ml == ml) = true then a else "-")) (e3 : ml = 2 ^ lo) : fmC m i = ch (if (bt m lo == 1) = true then a else "-") := by
  rw [hr, hit_one lo m e3]
theorem mark_x (m : Int) {i lo hi : Nat} {a b c x : PySem.Str} (hi' : i < 10) (hr : fmC m i = ch (if (bt m lo == 1 && bt m hi == 1) = true then a else if (bt m hi == 1) = true then b else if (bt m lo == 1) = true then c else "-"))
    (h : decide (ch a ∈ x.cps.toList) = true ∧ decide (ch b ∈ x.cps.toList) = false ∧ decide (ch c ∈ x.cps.toList) = true ∧ decide (ch "-" ∈ x.cps.toList) = false) : hasMark (fmode m) ((i : Int), x) = (bt m lo == 1) := by
  rw [mark_at m hi', hr]
  cases (bt m lo == 1) <;> cases (bt m hi == 1)
  · exact h.2.2.2
  · exact h.2.1
  · exact h.2.2.1
  · exact h.1
theorem mark_t (m : Int) {i lo hi : Nat} {a b c x : PySem.Str} (hi' : i < 10) (hr : fmC m i = ch (if (bt m lo == 1 && bt m hi == 1) = true then a else if (bt m hi == 1) = true then b else if (bt m lo == 1) = true then c else "-"))
    (h : decide (ch a ∈ x.cps.toList) = true ∧ decide (ch b ∈ x.cps.toList) = true ∧ decide (ch c ∈ x.cps.toList) = false ∧ decide (ch "-" ∈ x.cps.toList) = false) : hasMark (fmode m) ((i : Int), x) = (bt m hi == 1) := by
  rw [mark_at m hi', hr]
  cases (bt m lo == 1) <;> cases (bt m hi == 1)
  · exact h.2.2.2
  · exact h.2.1
  · exact h.2.2.1
  · exact h.1
theorem mark_1 (m : Int) {i lo : Nat} {a x : PySem.Str} (hi' : i < 10) (hr : fmC m i = ch (if (bt m lo == 1) = true then a else "-"))
    (h : decide (ch a ∈ x.cps.toList) = true ∧ decide (ch "-" ∈ x.cps.toList) = false) : hasMark (fmode m) ((i : Int), x) = (bt m lo == 1) := by
  rw [mark_at m hi', hr]
  cases (bt m lo == 1)
  · exact h.2
  · exact h.1
theorem c_kind (m : Int) : fmC m 0 = ch (if (Builtin.bitAnd m 61440 == 40960) = true then "l" else if (Builtin.bitAnd m 61440 == 49152) = true then "s" else if (Builtin.bitAnd m 61440 == 32768) = true then "-" else if (Builtin.bitAnd m 61440 == 24576) = true then "b" else if (Builtin.bitAnd m 61440 == 16384) = true then "d" else if (Builtin.bitAnd m 61440 == 8192) = true then "c" else if (Builtin.bitAnd m 61440 == 4096) = true then "p" else "?") := rfl
def kc (t : Int) : PySem.Str := if (t == 40960) = true then "l" else if (t == 49152) = true then "s" else if (t == 32768) = true then "-" else if (t == 24576) = true then "b" else if (t == 16384) = true then "d" else if (t == 8192) = true then "c" else if (t == 4096) = true then "p" else "?"
theorem kc_at (t : Int) : (decide (ch (kc t) ∈ ("p" : PySem.Str).cps.toList) = (t == 4096)) ∧ (decide (ch (kc t) ∈ ("c" : PySem.Str).cps.toList) = (t == 8192)) ∧ (decide (ch (kc t) ∈ ("d" : PySem.Str).cps.toList) = (t == 16384)) ∧ (decide (ch (kc t) ∈ ("b" : PySem.Str).cps.toList) = (t == 24576)) ∧ (decide (ch (kc t) ∈ ("-" : PySem.Str).cps.toList) = (t == 32768)) ∧ (decide (ch (kc t) ∈ ("l" : PySem.Str).cps.toList) = (t == 40960)) ∧ (decide (ch (kc t) ∈ ("s" : PySem.Str).cps.toList) = (t == 49152)) := by
  by_cases h1 : t = 40960
  · subst h1; decide +kernel
  by_cases h2 : t = 49152
  · subst h2; decide +kernel
  by_cases h3 : t = 32768
  · subst h3; decide +kernel
  by_cases h4 : t = 24576
  · subst h4; decide +kernel
  by_cases h5 : t = 16384
  · subst h5; decide +kernel
  by_cases h6 : t = 8192
  · subst h6; decide +kernel
  by_cases h7 : t = 4096
  · subst h7; decide +kernel
  have e : kc t = "?" := by simp [kc, h1, h2, h3, h4, h5, h6, h7]
  rw [e]
  simp only [beq_eq_false_iff_ne.mpr h1, beq_eq_false_iff_ne.mpr h2, beq_eq_false_iff_ne.mpr h3, beq_eq_false_iff_ne.mpr h4, beq_eq_false_iff_ne.mpr h5, beq_eq_false_iff_ne.mpr h6, beq_eq_false_iff_ne.mpr h7]
  decide +kernel
theorem ite_bt (m : Int) (j : Nat) : (if (bt m j == 1) = true then (1 : Int) else 0) = bt m j := by
  rcases bt_01 j m with h | h <;> rw [h] <;> rfl
theorem perm_sum (m : Int) : Builtin.bitAnd m 4095 = bt m 0 + 2 * (bt m 1 + 2 * (bt m 2 + 2 * (bt m 3 + 2 * (bt m 4 + 2 * (bt m 5 + 2 * (bt m 6 + 2 * (bt m 7 + 2 * (bt m 8 + 2 * (bt m 9 + 2 * (bt m 10 + 2 * bt m 11)))))))))) := by
  have h := and_sel [TT, TT, TT, TT, TT, TT, TT, TT, TT, TT, TT, TT] m
  have e : mval [TT, TT, TT, TT, TT, TT, TT, TT, TT, TT, TT, TT] = 4095 := by decide
  rw [e] at h
  rw [h]
  simp only [msel, bt, if_true, TT]
  omega
/-- The digit of a mode is what its row shows. -/
theorem digit_marks (m : Int) : digit m = rdr 2 (marks.map (hasMark (fmode m))) := by
  have k := kc_at (Builtin.bitAnd m 61440)
  have hk : ∀ x : PySem.Str, hasMark (fmode m) (((0 : Nat) : Int), x) = decide (ch (kc (Builtin.bitAnd m 61440)) ∈ x.cps.toList) := fun x => by rw [mark_at m (by decide), c_kind]; rfl
  have e : marks.map (hasMark (fmode m)) = [bt m 0 == 1, bt m 1 == 1, bt m 2 == 1, bt m 3 == 1, bt m 4 == 1, bt m 5 == 1, bt m 6 == 1, bt m 7 == 1, bt m 8 == 1, bt m 9 == 1, bt m 10 == 1, bt m 11 == 1, Builtin.bitAnd m 61440 == 4096, Builtin.bitAnd m 61440 == 8192, Builtin.bitAnd m 61440 == 16384, Builtin.bitAnd m 61440 == 24576, Builtin.bitAnd m 61440 == 32768, Builtin.bitAnd m 61440 == 40960, Builtin.bitAnd m 61440 == 49152] := by
    rw [← k.1, ← k.2.1, ← k.2.2.1, ← k.2.2.2.1, ← k.2.2.2.2.1, ← k.2.2.2.2.2.1, ← k.2.2.2.2.2.2]
    rw [← hk, ← hk, ← hk, ← hk, ← hk, ← hk, ← hk]
    rw [← mark_x m (x := "xt") (by decide) (c9 m) (by decide +kernel), ← mark_1 m (i := 8) (lo := 1) (a := "w") (x := "w") (by decide) (c_one m (ml := 2) rfl (by decide)) (by decide +kernel), ← mark_1 m (i := 7) (lo := 2) (a := "r") (x := "r") (by decide) (c_one m (ml := 4) rfl (by decide)) (by decide +kernel),
      ← mark_x m (x := "xs") (by decide) (c6 m) (by decide +kernel), ← mark_1 m (i := 5) (lo := 4) (a := "w") (x := "w") (by decide) (c_one m (ml := 16) rfl (by decide)) (by decide +kernel), ← mark_1 m (i := 4) (lo := 5) (a := "r") (x := "r") (by decide) (c_one m (ml := 32) rfl (by decide)) (by decide +kernel),
      ← mark_x m (x := "xs") (by decide) (c3 m) (by decide +kernel), ← mark_1 m (i := 2) (lo := 7) (a := "w") (x := "w") (by decide) (c_one m (ml := 128) rfl (by decide)) (by decide +kernel), ← mark_1 m (i := 1) (lo := 8) (a := "r") (x := "r") (by decide) (c_one m (ml := 256) rfl (by decide)) (by decide +kernel),
      ← mark_t m (x := "tT") (by decide) (c9 m) (by decide +kernel), ← mark_t m (x := "sS") (by decide) (c6 m) (by decide +kernel), ← mark_t m (x := "sS") (by decide) (c3 m) (by decide +kernel)]
    rfl
  rw [e]
  unfold digit
  rw [perm_sum]
  have g : ((List.range 7).map fun k => (if (kinds m).getD k false = true then (1 : Int) else 0) * 2 ^ (12 + k)).sum = (if (Builtin.bitAnd m 61440 == 4096) = true then (1 : Int) else 0) * 4096 + ((if (Builtin.bitAnd m 61440 == 8192) = true then (1 : Int) else 0) * 8192 + ((if (Builtin.bitAnd m 61440 == 16384) = true then (1 : Int) else 0) * 16384 + ((if (Builtin.bitAnd m 61440 == 24576) = true then (1 : Int) else 0) * 32768 + ((if (Builtin.bitAnd m 61440 == 32768) = true then (1 : Int) else 0) * 65536 + ((if (Builtin.bitAnd m 61440 == 40960) = true then (1 : Int) else 0) * 131072 + ((if (Builtin.bitAnd m 61440 == 49152) = true then (1 : Int) else 0) * 262144 + 0)))))) := rfl
  rw [g]
  simp only [rdr, ite_bt]
  generalize (if (Builtin.bitAnd m 61440 == 4096) = true then (1 : Int) else 0) = k0
  generalize (if (Builtin.bitAnd m 61440 == 8192) = true then (1 : Int) else 0) = k1
  generalize (if (Builtin.bitAnd m 61440 == 16384) = true then (1 : Int) else 0) = k2
  generalize (if (Builtin.bitAnd m 61440 == 24576) = true then (1 : Int) else 0) = k3
  generalize (if (Builtin.bitAnd m 61440 == 32768) = true then (1 : Int) else 0) = k4
  generalize (if (Builtin.bitAnd m 61440 == 40960) = true then (1 : Int) else 0) = k5
  generalize (if (Builtin.bitAnd m 61440 == 49152) = true then (1 : Int) else 0) = k6
  omega
end Mine
end

section
-- M13
open PySem PySem.W PySem.Calls PyProof.Rows Builtin
set_option maxRecDepth 100000
namespace Mine
open Builtin.Int (intBits)
def padTo (l : List Int) (k : Int) : List Int := l ++ List.replicate (k - l.length).toNat 0
def told (q r : Int) (piles : Int) (n : Nat) (size : Int) : List Int := padTo (padTo (digitsI n (nDig r n) r) piles ++ digitsI n (nDig q n) q) size
def spread (number ones : Int) (field : Nat) : Int := ((List.range 19).map fun j => Builtin.bitAnd (number.fdiv (2 ^ j)) ones * 2 ^ (field * j)).sum
/-- The columns' signs of the pile from the row `i` on, read as numbers, each in its field. -/
def dueVal (flip : Bool) (rows : List PySem.Str) (base : Int) (piles field : Nat) (i : Nat) : Int := ((List.range 19).map fun j => rd base (every piles (column flip rows (marks.getD j (0, ""))) 6 i) * 2 ^ (field * j)).sum

/-- A row of `n` ones, `w` apart. -/
def onesI (w : Nat) : Nat → Int
  | 0 => 0
  | n + 1 => 1 + 2 ^ w * onesI w n
theorem and_shift : ∀ (k : Nat) (x y : Int), Builtin.bitAnd x (2 ^ k * y) = 2 ^ k * Builtin.bitAnd (x / 2 ^ k) y
  | 0, x, y => by simp
  | k + 1, x, y => by
    rw [kbt_halves]
    have e : (2 : Int) ^ (k + 1) * y = 2 * (2 ^ k * y) := by rw [Int.pow_succ, Int.mul_comm (2 ^ k) 2, Int.mul_assoc]
    rw [e, show 2 * (2 ^ k * y) / 2 = 2 ^ k * y by omega, and_shift k]
    have : ¬ (x % 2 = 1 ∧ 2 * (2 ^ k * y) % 2 = 1) := by omega
    rw [if_neg this, Int.add_zero, Int.ediv_ediv_of_nonneg (by decide), ← Int.mul_assoc]
    rw [show (2 : Int) * 2 ^ k = 2 ^ (k + 1) by rw [Int.pow_succ, Int.mul_comm]]
/-- `x` has the digits `es`, `w` bits each, at its foot. -/
def Dig (w : Nat) : Int → List Int → Prop
  | _, [] => True
  | x, e :: es => x % 2 ^ w = e ∧ Dig w (x / 2 ^ w) es
theorem bt_mod {w j : Nat} (hj : j < w) (x : Int) : bt x j = bt (x % 2 ^ w) j := by
  rw [bt_eq, bt_eq]
  have e : x = x % 2 ^ w + 2 ^ j * (2 * (2 ^ (w - j - 1) * (x / 2 ^ w))) := by
    have h := Int.emod_add_mul_ediv x (2 ^ w)
    have : (2 : Int) ^ w = 2 ^ j * (2 * 2 ^ (w - j - 1)) := by
      rw [show w = j + (1 + (w - j - 1)) by omega, Int.pow_add, Int.pow_add, show j + (1 + (w - j - 1)) - j - 1 = w - j - 1 by omega]; rfl
    rw [← Int.mul_assoc 2, ← Int.mul_assoc, ← this]
    exact h.symm
  have hp := two_pow_pos j
  rw (occs := .pos [1]) [e]
  rw [Int.add_mul_ediv_left _ _ (by omega)]
  omega
theorem packI_zero {α : Type} (w : Nat) : ∀ xs : List α, packI w (xs.map fun _ => 0) = 0
  | [] => rfl
  | x :: xs => by
    show 0 + packI w (xs.map fun _ => 0) * 2 ^ w = 0
    rw [packI_zero w xs]; simp
/-- A row's signs, each in its field. -/
def rowVal (flip : Bool) (f : Nat) (row : PySem.Str) : Int := ((List.range 19).map fun j => (if xor flip (hasMark row (marks.getD j (0, ""))) then 1 else 0) * 2 ^ (f * j)).sum
theorem bt_rdr : ∀ (l : List Bool) (j : Nat), bt (rdr 2 l) j = if l.getD j false then 1 else 0
  | [], j => by
    have : ∀ j, bt 0 j = 0 := fun j => by rw [bt_eq]; simp
    simp [rdr, this]
  | b :: l, 0 => by
    show ((if b then 1 else 0) + 2 * rdr 2 l) % 2 = _
    cases b <;> simp <;> omega
  | b :: l, j + 1 => by
    show bt (((if b then 1 else 0) + 2 * rdr 2 l) / 2) j = _
    have : ((if b then (1 : Int) else 0) + 2 * rdr 2 l) / 2 = rdr 2 l := by cases b <;> simp <;> omega
    rw [this, bt_rdr l j]; simp
theorem marks_len : marks.length = 19 := by decide +kernel
theorem bt_digit (m : Int) {j : Nat} (hj : j < 19) : bt (digit m) j = if hasMark (fmode m) (marks.getD j (0, "")) then 1 else 0 := by
  rw [digit_marks, bt_rdr, getD_map' marks (hasMark (fmode m)) (0, "") false j (by rw [marks_len]; exact hj)]
end Mine
end

section
-- M14
open PySem PySem.W PySem.Calls PyProof.Rows Builtin
set_option maxRecDepth 100000
namespace Mine
open Builtin.Int (intBits)
theorem packI_tight (n : Nat) : ∀ xs : List Int, (∀ x ∈ xs, 0 ≤ x ∧ x < 2 ^ n) → 0 ≤ packI n xs ∧ packI n xs < 2 ^ (n * xs.length)
  | [], _ => by simp [packI]
  | x :: xs, h => by
    obtain ⟨h0, h1⟩ := h x List.mem_cons_self
    obtain ⟨a, c⟩ := packI_tight n xs fun y hy => h y (List.mem_cons_of_mem _ hy)
    have hp := two_pow_pos n
    have e : (2 : Int) ^ (n * (x :: xs).length) = 2 ^ n * 2 ^ (n * xs.length) := by rw [List.length_cons, Nat.mul_succ, Nat.add_comm, Int.pow_add]
    show 0 ≤ x + packI n xs * 2 ^ n ∧ x + packI n xs * 2 ^ n < _
    have g1 : 0 ≤ packI n xs * 2 ^ n := Int.mul_nonneg a (by omega)
    have g2 : packI n xs * 2 ^ n ≤ (2 ^ (n * xs.length) - 1) * 2 ^ n := Int.mul_le_mul_of_nonneg_right (by omega) (by omega)
    rw [Int.sub_mul, Int.one_mul, Int.mul_comm (2 ^ (n * xs.length))] at g2
    rw [e]
    omega
/-- A number written by its digits' function. -/
theorem pack_shift (w : Nat) (g : Nat → Int) (p k : Nat) : packI w ((List.range (p + k)).map g) = packI w ((List.range p).map g) + packI w ((List.range k).map fun i => g (p + i)) * 2 ^ (w * p) := by
  rw [List.range_add, List.map_append, packI_append, List.map_map, List.length_map, List.length_range]
  rfl
theorem pack_zeros (w : Nat) (g : Nat → Int) (n k : Nat) (h : ∀ i, n ≤ i → g i = 0) : packI w ((List.range (n + k)).map g) = packI w ((List.range n).map g) := by
  rw [pack_shift]
  have : (List.range k).map (fun i => g (n + i)) = (List.range k).map fun _ => 0 := List.map_congr_left fun i _ => h _ (by omega)
  rw [this, packI_zero]; simp
theorem pack_lin (w : Nat) (f g : Nat → Int) (c : Int) : ∀ l : List Nat, packI w (l.map fun x => f x + c * g x) = packI w (l.map f) + c * packI w (l.map g)
  | [] => by simp [packI]
  | x :: l => by
    show (f x + c * g x) + packI w (l.map fun x => f x + c * g x) * 2 ^ w = (f x + packI w (l.map f) * 2 ^ w) + c * (g x + packI w (l.map g) * 2 ^ w)
    rw [pack_lin w f g c l, Int.add_mul, Int.mul_add, Int.mul_assoc]; omega
/-- One division parts the piles. -/
theorem division {w p n : Nat} {b : Int} {due val : Nat → Int} (hv : ∀ i, i < n → val i = due i - b * due (i + p)) (h0 : ∀ i, n ≤ i → due i = 0) :
    packI w ((List.range n).map val) = packI w ((List.range n).map fun i => due (p + i)) * (2 ^ (w * p) - b) + packI w ((List.range p).map due) := by
  have e1 : (List.range n).map val = (List.range n).map fun i => due i + (-b) * due (p + i) := by
    apply List.map_congr_left
    intro i hi
    rw [hv i (List.mem_range.mp hi), Nat.add_comm i p, Int.neg_mul]; rfl
  rw [e1, pack_lin w due (fun i => due (p + i)) (-b)]
  have e2 : packI w ((List.range n).map due) = packI w ((List.range p).map due) + packI w ((List.range n).map fun i => due (p + i)) * 2 ^ (w * p) := by
    rw [← pack_shift, Nat.add_comm p n, pack_zeros w due n p h0]
  rw [e2, Int.mul_sub, Int.neg_mul, Int.mul_comm b]; omega
theorem digitsI_zero (n : Nat) : ∀ k, digitsI n k 0 = List.replicate k 0
  | 0 => rfl
  | k + 1 => by
    show 0 % 2 ^ n :: digitsI n k (0 / 2 ^ n) = _
    rw [Int.zero_emod, Int.zero_ediv, digitsI_zero n k]; rfl
theorem nDig_le {n k : Nat} (hn : 1 ≤ n) {x : Int} (h0 : 0 ≤ x) (h : x < 2 ^ (n * k)) : nDig x n ≤ k := by
  have := intBits_le_of_lt h0 h
  unfold nDig
  rw [Nat.div_le_iff_le_mul_add_pred (by omega)]
  omega
theorem pad_digits {n k : Nat} (hn : 1 ≤ n) {x : Int} (h0 : 0 ≤ x) (h : x < 2 ^ (n * k)) : padTo (digitsI n (nDig x n) x) k = digitsI n k x := by
  have hl := nDig_le hn h0 h
  obtain ⟨q, hq⟩ := Nat.exists_eq_add_of_le hl
  unfold padTo
  have e := digitsI_add n (nDig x n) q x
  have hb := nDig_bound hn h0
  rw [Int.emod_eq_of_lt h0 hb, Int.ediv_eq_zero_of_lt h0 hb, digitsI_zero, ← hq] at e
  rw [e, digitsI_length]
  congr 2
  omega
/-- What the spread of the modes comes to. -/
def spr (flip : Bool) (modes : List Int) (w f : Nat) : Int := packI w (modes.map fun m => rowVal flip f (fmode m))
end Mine
end

section
-- L30
open PySem PySem.W PySem.Calls PyProof.Rows
set_option maxRecDepth 100000
namespace Mine
section
variable {W : Wd} {A : Around}
theorem bytes_beq (x y : Array UInt8) : (x.toList == y.toList) = (x == y) := by
  rw [Bool.eq_iff_iff, beq_iff_eq, beq_iff_eq, Array.toList_inj]
theorem op_eq_bytes {x y : Array UInt8} : Op2 W A (compareOp .Eq) (.bytes x) (.bytes y) (.bool (x == y)) := fun O s va vb I ra rb => by
  simp only [Rep] at ra rb; obtain ⟨t, rfl⟩ := ra; obtain ⟨u, rfl⟩ := rb
  unfold Yl
  refine compareOp_gives (op := .Eq) (typeIs_bytes _ _ _) (typeIs_bytes _ _ _) FB.slot_bytes_eq FB.entry_bytes_eq (FB.args_bytes_eq_2 _ _) (gives_bytes_eq x y t u) (fun e => nomatch e) ?_
  rw [bytes_beq]; exact yl_bool I
end

/-- The octets of a text. -/
def bcps (x : PySem.Str) : Array UInt8 := (x.cps.toList.map Nat.toUInt8).toArray
def Plain (x : PySem.Str) : Prop := ∀ c ∈ x.cps.toList, c < 128 ∧ c ≠ 47
theorem u8_inj {c : Nat} (h : c < 128) (e : Nat.toUInt8 c = 47) : c = 47 := by
  have : (Nat.toUInt8 c).toNat = c := by simp [Nat.toUInt8]; omega
  rw [e] at this
  exact this.symm
theorem u8_back {c : Nat} (h : c < 128) : (Nat.toUInt8 c).toNat = c := by simp [Nat.toUInt8]; omega
theorem bcps_back {x : PySem.Str} (h : ∀ c ∈ x.cps.toList, c < 128) : (⟨((bcps x).toList.map UInt8.toNat).toArray⟩ : PySem.Str) = x := by
  apply str_ext
  show (x.cps.toList.map Nat.toUInt8).map UInt8.toNat = _
  rw [List.map_map]
  have : x.cps.toList.map (UInt8.toNat ∘ Nat.toUInt8) = x.cps.toList.map id := List.map_congr_left fun c hc => u8_back (h c hc)
  rw [this, List.map_id]
theorem map_inter {α β : Type} (g : α → β) (c : α) : ∀ xs : List (List α), (inter c xs).map g = inter (g c) (xs.map (·.map g))
  | [] => rfl
  | [x] => rfl
  | x :: y :: r => by
    have := map_inter g c (y :: r)
    show (x ++ c :: inter c (y :: r)).map g = _
    rw [List.map_append, List.map_cons, this]; rfl
theorem slash : ("/" : PySem.Str) = ⟨#[47]⟩ := by decide +kernel
theorem txt_inter (xs : List PySem.Str) : (Txt.join "/" xs).cps.toList = inter 47 (xs.map (·.cps.toList)) := by
  have e : Txt.join "/" xs = PySem.Str.join "/" xs := StrLaws.glued_eq_join _ _
  rw [e, slash, join_inter]
theorem bcps_inter (xs : List PySem.Str) : (bcps (Txt.join "/" xs)).toList = inter 47 (xs.map fun x => (bcps x).toList) := by
  show ((Txt.join "/" xs).cps.toList.map Nat.toUInt8) = _
  rw [txt_inter, map_inter, List.map_map]
  rfl
theorem bsplit_rows {xs : List PySem.Str} (h0 : xs ≠ []) (h : ∀ x ∈ xs, Plain x) : bsplit (bcps (Txt.join "/" xs)) #[47] = xs.map bcps := by
  have e : bcps (Txt.join "/" xs) = (inter 47 (xs.map fun x => (bcps x).toList)).toArray := by rw [← bcps_inter]
  rw [e, bsplit_inter (by simpa using h0), List.map_map]
  · rfl
  · intro r hr hm
    obtain ⟨x, hx, rfl⟩ := List.mem_map.mp hr
    have hm' : (47 : UInt8) ∈ x.cps.toList.map Nat.toUInt8 := hm
    obtain ⟨c, hc, e⟩ := List.mem_map.mp hm'
    exact (h x hx c hc).2 (u8_inj (h x hx c hc).1 e)
theorem bjoin_rows (xs : List PySem.Str) : Builtin.Bytes.joined #[47] (xs.map bcps) = bcps (Txt.join "/" xs) := by
  rw [← Array.toList_inj, joined_inter, bcps_inter, List.map_map]; rfl
theorem split_rows {xs : List PySem.Str} (h0 : xs ≠ []) (h : ∀ x ∈ xs, Plain x) : Txt.split (Txt.join "/" xs) "/" = xs := by
  rw [slash]
  exact split_join h0 fun x hx hm => (h x hx 47 hm).2 rfl
theorem inter_len {α : Type} (c : α) : ∀ xs : List (List α), (∀ x ∈ xs, x.length = 10) → (inter c xs).length ≤ 11 * xs.length
  | [], _ => by simp [inter]
  | [x], h => by
    have := h x List.mem_cons_self
    show x.length ≤ _; simp; omega
  | x :: y :: r, h => by
    have ih := inter_len c (y :: r) fun z hz => h z (List.mem_cons_of_mem _ hz)
    have := h x List.mem_cons_self
    show (x ++ c :: inter c (y :: r)).length ≤ _
    rw [List.length_append, List.length_cons, List.length_cons]
    omega
theorem line_len {xs : List PySem.Str} (h : ∀ x ∈ xs, x.length = 10) : (Txt.join "/" xs).length ≤ 11 * xs.length := by
  show (Txt.join "/" xs).cps.size ≤ _
  rw [← Array.length_toList, txt_inter]
  have := inter_len 47 (xs.map (·.cps.toList)) (by
    intro l hl
    obtain ⟨x, hx, rfl⟩ := List.mem_map.mp hl
    rw [Array.length_toList]; exact h x hx)
  rw [List.length_map] at this
  exact this
theorem line_ascii {xs : List PySem.Str} (h : ∀ x ∈ xs, Plain x) : ∀ c ∈ (Txt.join "/" xs).cps.toList, c < 128 := by
  rw [txt_inter]
  have key : ∀ ys : List (List Nat), (∀ y ∈ ys, ∀ c ∈ y, c < 128) → ∀ c ∈ inter 47 ys, c < 128 := by
    intro ys
    induction ys with
    | nil => intro _ c hc; exact absurd hc List.not_mem_nil
    | cons y ys ih =>
      intro hy c hc
      rw [inter_flat] at hc
      rcases List.mem_append.mp hc with hc | hc
      · exact hy y List.mem_cons_self c hc
      · obtain ⟨z, hz, hc⟩ := List.mem_flatMap.mp hc
        rcases List.mem_cons.mp hc with rfl | hc
        · decide
        · exact hy z (List.mem_cons_of_mem _ hz) c hc
  refine key _ fun y hy c hc => ?_
  obtain ⟨x, hx, rfl⟩ := List.mem_map.mp hy
  exact (h x hx c hc).1
theorem fmode_plain (m : Int) : Plain (fmode m) := fmode_char m
theorem bcps_size (x : PySem.Str) : (bcps x).size = x.length := by unfold bcps PySem.Str.length; simp
end Mine
end

section
-- M15
open PySem PySem.W PySem.Calls PyProof.Rows
set_option maxRecDepth 100000
namespace Mine
open Builtin.Int (intBits)
theorem pick_range {α : Type} : ∀ (l : List α) (a k : Nat), (List.range' a k).filterMap (l[·]?) = (l.drop a).take k
  | l, a, 0 => by simp
  | l, a, k + 1 => by
    rw [List.range'_succ, List.filterMap_cons, pick_range l (a + 1) k]
    by_cases h : a < l.length
    · rw [List.getElem?_eq_getElem h, List.drop_eq_getElem_cons h, List.take_succ_cons]
    · rw [List.getElem?_eq_none (by omega), List.drop_eq_nil_of_le (show l.length ≤ a by omega), List.drop_eq_nil_of_le (show l.length ≤ a + 1 by omega)]; simp
def SliceIx (A B : Nat) : Prop := ∀ n : Nat, n < 64 → sliceRange (sliceBounds (some ((A : Nat) : Int)) (some ((B : Nat) : Int)) none n).1 (sliceBounds (some ((A : Nat) : Int)) (some ((B : Nat) : Int)) none n).2.1 (sliceBounds (some ((A : Nat) : Int)) (some ((B : Nat) : Int)) none n).2.2 = List.range' (min A n) (min B n - min A n)
theorem slice_ix410 : SliceIx 4 10 := by unfold SliceIx; decide +kernel
theorem slice_ix14 : SliceIx 1 4 := by unfold SliceIx; decide +kernel
theorem dpick_take {ds : List Dt} (h : ds.length ≤ 63) {a b : Nat} (hix : SliceIx a b) : dpick ds (some (a : Int)) (some (b : Int)) none = (ds.drop a).take (b - a) := by
  unfold dpick
  rw [hix ds.length (by omega), pick_range]
  rcases Nat.lt_or_ge ds.length a with h1 | h1
  · rw [List.drop_eq_nil_of_le (show ds.length ≤ min a ds.length by omega), List.drop_eq_nil_of_le (show ds.length ≤ a by omega)]; simp
  · rw [show min a ds.length = a by omega]
    rcases Nat.le_total b ds.length with h2 | h2
    · rw [show min b ds.length = b by omega]
    · rw [show min b ds.length = ds.length by omega]
      rw [List.take_of_length_le (by simp), List.take_of_length_le (by simp; omega)]
/-- The modes of the script, or the written ones. -/
def modesOf (xs : List Int) (a : Nat) (dflt : List Int) : List Int := if ((xs.drop a).take 6).isEmpty then dflt else (xs.drop a).take 6
theorem modesOf_len (xs : List Int) (a : Nat) {dflt : List Int} (h1 : 1 ≤ dflt.length) (h6 : dflt.length ≤ 6) : 1 ≤ (modesOf xs a dflt).length ∧ (modesOf xs a dflt).length ≤ 6 := by
  unfold modesOf
  split
  · exact ⟨h1, h6⟩
  · rename_i h
    have : ((xs.drop a).take 6).length ≠ 0 := fun e => h (by rw [List.isEmpty_iff]; exact List.length_eq_zero_iff.mp e)
    have := List.length_take_le 6 (xs.drop a)
    omega
theorem fmod_range (x : Int) {b : Int} (hb : 0 < b) : 0 ≤ x.fmod b ∧ x.fmod b < b := by
  rw [fmod_pos x hb]
  exact ⟨Int.emod_nonneg _ (by omega), Int.emod_lt_of_pos _ hb⟩
end Mine
end

section
-- L31
open PySem PySem.W PySem.Calls PyProof.Rows
set_option maxRecDepth 100000
namespace Mine
section
variable {W : Wd} {A : Around} {env : Env} {D : List (Str × Dt)} {b : Base} {OL : List (Addr × List Dt)} {s : Shared} {E : Value → Shared → Prop} {Q : Flow → Shared → Prop}
theorem x_ifB {t : Expr} {body orelse st rest : List Stmt} {pos : Pos} {c : Bool} (hb : st = .If t body orelse pos :: rest) (S : St W b env D OL s) (ht : Tst W A env D t c)
    (h1 : c = true → ∀ s', St W b env D OL s' → wpAny W.M A (execs body env) (Then W A env rest Q E) E s')
    (h2 : c = false → ∀ s', St W b env D OL s' → wpAny W.M A (execs orelse env) (Then W A env rest Q E) E s') : wpAny W.M A (execs st env) Q E s := by
  rw [hb]; exact x_if S ht h1 h2
theorem x_unpack2B {x y : Str} {e : Expr} {p₁ p₂ pt pos : Pos} {k : Nat} {d₁ d₂ : Dt} {st rest : List Stmt} (hb : st = .Assign [.Tuple [.Name x p₁, .Name y p₂] k pt] e pos :: rest) (S : St W b env D OL s) (hA : A.handled = none) (he : Ev W A env D e (.tup [d₁, d₂])) (hx : Sto W b env x) (hy : Sto W b env y)
    (hs : swapsWithSole [.Tuple [.Name x p₁, .Name y p₂] k pt] e pos.line env = pure false) (hw : swappedStores [.Tuple [.Name x p₁, .Name y p₂] k pt] e env = pure none)
    (h : ∀ s', St W b env ((y, d₂) :: (x, d₁) :: D) OL s' → wpAny W.M A (execs rest env) Q E s') : wpAny W.M A (execs st env) Q E s := by
  rw [hb]; exact x_unpack2 S hA he hx hy hs hw h
theorem x_returnB {e : Expr} {pos : Pos} {d : Dt} {st rest : List Stmt} (hb : st = .Return (some e) pos :: rest) (S : St W b env D OL s) (he : Ev W A env D e d)
    (h : ∀ v s', St W b env D OL s' → Rep s'.heap (ad OL ++ b.O) d v → Q (.ret v) s') : wpAny W.M A (execs st env) Q E s := by
  rw [hb]; exact x_return S he h
theorem parts_len (x y : PySem.Str) : (Builtin.Str.partsBetween x (Builtin.Str.occurrences x y 0 x.length (x.length + 1)) y.length).length ≤ x.length + 2 := by
  have := StrLaws.occ_length_le x y 0 x.length (x.length + 1)
  unfold Builtin.Str.partsBetween
  simp
  omega
theorem bc_splitL {x y : Str} (hy : (y.length == 0) = false) (hx : x.length ≤ 10000) : Bc W A (.builtin "str.split") [.str x, .str y] (.lst ((Txt.split x y).map .str)) :=
  bc_split hy hx (by have := parts_len x y; omega)
end
theorem nil_apart {cells : List (Str × Addr)} (_ : ∀ x c, cells.lookup x = some c → (x, c) ∈ cells) (_ : cells.Pairwise fun x y => x.2 ≠ y.2) : ([] : List (Str × Addr)).Pairwise fun x y => x.2 ≠ y.2 := .nil

set_option maxHeartbeats 1000000 in
/-- A comprehension of one name, whose element leans on that name alone. -/
theorem ev_comp0 {W : Wd} {A : Around} {env : Env} {D : List (Str × Dt)} {x : Str} {elt iter : Expr} {px pos : Pos} {scope : Scope} {ds rs : List Dt} (hi : Ib W A env D iter ds) (hclos : closureFor scope env = pure []) (hkind : scope.kind = .function) (hnames : ∀ y ∈ scope.names, y.2 = .local → scope.names.lookup y.1 = some .local)
    (hs : ∀ x, foldedSetIterable iter env x = pure x) (hsto : ∀ C b', StoX W b' (compEnvC scope (cellsFrom (C + 1) scope.names []) C env) x)
    (hl : rs.length = ds.length) (hsz : ds.length ≤ 100000)
    (helt : ∀ (C : Addr) (i : Nat) (d r : Dt), ds[i]? = some d → rs[i]? = some r → Ev W A (compEnvC scope (cellsFrom (C + 1) scope.names []) C env) [(x, d)] elt r) :
    Ev W A env D (.ListComp elt [⟨.Name x px, iter, [], 0⟩] scope pos) (.lst rs) := by
  refine Ev.cast (EvN.ev (evn_comp (FV := []) (ok := fun _ => true) (res := fun i => rs.getD i .none) (compIn_name hi) hclos hkind hnames hs (fun p hp => nomatch hp) nil_apart (fun p hp => nomatch hp) (fun C b' _ y hy => ?_) (fun C i hi => tsts_nil) (fun C i hi _ => ?_) hsz (fun i _ p hp => nomatch hp))) ?_
  · simp only [List.mem_singleton] at hy; subst hy; exact hsto C b'
  · have h1 : ds[i]? = some (ds.getD i .none) := by rw [List.getD_eq_getElem?_getD, List.getElem?_eq_getElem hi]; rfl
    have h2 : rs[i]? = some (rs.getD i .none) := by rw [List.getD_eq_getElem?_getD, List.getElem?_eq_getElem (by omega)]; rfl
    exact helt C i _ _ h1 h2
  · rw [gather_true, ← hl]
    congr 1
    have := map_range_getD rs .none id
    simpa using this
end Mine
end

section
-- L32
open PySem PySem.W PySem.Calls PyProof.Rows
set_option maxRecDepth 100000
namespace Mine
abbrev cps (tbs : List Tb) : List (Addr × Addr) := tbs.map fun t => (t.c, t.P)
/-- The world of a law's call: all that stands at its start, but the tables, is the base. -/
def mkW (prog : Program) (w : World) (h : Heap) (mg mb : Str → Option Value) (tbs : List Tb) : Wd := ⟨prog, w, ghostOf h (cps tbs), mg, mb, tbs⟩
section
variable {prog : Program} {w : World} {h : Heap} {mg mb : Str → Option Value} {tbs : List Tb} {view : Program} {loose : List Str} {mean : ExcName → Option Value} {K : Frag}
theorem cps_P (tbs : List Tb) : (cps tbs).map (·.2) = tbs.map (·.P) := by rw [List.map_map]; rfl
theorem mkW_ok (hT : TabsAt (cps tbs) h) (T : Top view loose mean mg mb h) (hnd : (tbs.map (·.P)).Nodup) : (mkW prog w h mg mb tbs).Ok where
  ng := ghost_ns hT T.g
  nb := ghost_ns hT T.b
  nolimit := let ⟨mc, a, r⟩ := T.nolimit; ⟨mc, ghost_ns hT a, r⟩
  nodigits := let ⟨mc, a, r⟩ := T.nodigits; ⟨mc, ghost_ns hT a, r⟩
  builtins := T.builtins
  bmain := let ⟨bm, ob, h1, h2, h3, h4, h5, h6⟩ := T.bmain; ⟨bm, ob, h1, h2, ghost_get hT h3 (fun q => by rw [q] at h6; cases h6), h4, h5, h6⟩
  code := fun t ht => by
    obtain ⟨o, vs, file, tf, flags, tg, inF, text, tt, e1, r1, r2, r3, r4, r5, r6, r7, r8, hne⟩ := (hT (t.c, t.P) (List.mem_map_of_mem ht)).1
    exact ⟨o, vs, file, tf, flags, tg, inF, text, tt, ghost_get hT e1 (fun q => by rw [q] at r1; cases r1), r1, r2, r3, r4, r5, r6, r7, r8, hne⟩
  hid := fun t ht => hideAll_none _ (by rw [cps_P]; exact List.mem_map_of_mem ht)
  nd := hnd
theorem mkW_inv (hT : TabsAt (cps tbs) h) : Inv (mkW prog w h mg mb tbs) h where
  base := fun b o e => of_hideAll _ e
  tab := fun t ht => ⟨#[], (hT (t.c, t.P) (List.mem_map_of_mem ht)).2, trivial, .inl rfl⟩
theorem ghost_rec (hT : TabsAt (cps tbs) h) {cd : Value} {q : Str} (x : h.CodeRec cd q) : (ghostOf h (cps tbs)).CodeRec cd q := by
  obtain ⟨c, o, vs, t, e1, e2, e3, e4⟩ := x
  refine ⟨c, o, vs, t, e1, ghost_get hT e2 (fun q => ?_), e3, e4⟩
  subst q
  cases e3
  simp at e4
theorem hasFn_of (hT : TabsAt (cps tbs) h) (T : Top view loose mean mg mb h) {p : Program} {i : Nat} (k : Nat) (e : ((recsOf view)[k]?).map (fun d => (d.name, d.params, d.body, d.scope)) = some (fnN (stAt p i), fnP (stAt p i), fnB (stAt p i), fnS (stAt p i))) :
    HasFn (mkW prog w h mg mb tbs) p i := by
  obtain ⟨d, hd, e⟩ := Option.map_eq_some_iff.mp e
  obtain ⟨a, o, pm, code, doc, h1, h2, h3, h4⟩ := T.fn d (List.mem_of_getElem? hd)
  simp only [Prod.mk.injEq] at e
  obtain ⟨e1, e2, e3, e4⟩ := e
  unfold HasFn
  rw [← e1, ← e2, ← e3, ← e4]
  exact ⟨a, h1, code, o, pm, doc, ghost_get hT h2 (fun q => by rw [q] at h3; cases h3), h3, ghost_rec hT h4⟩
theorem const_int (T : Top view loose mean mg mb h) {x : Str} {i : Int} (e : valOf view x = some (.int i)) : ∃ t, mg x = some (.int i t) := by
  obtain ⟨v, h1, h2⟩ := T.const x _ e
  have := h2 h
  cases this
  exact ⟨_, h1⟩
theorem repL_ints {O : List Addr} : ∀ {vs : List Value} {xs : List Int}, IntsAre vs xs → RepL h O (xs.map .int) vs
  | _, _, .nil => by simp only [List.map_nil, RepL]
  | _, _, .cons n t r => by
    simp only [List.map_cons, RepL]
    exact ⟨_, _, rfl, by simp only [Rep]; exact ⟨t, rfl⟩, repL_ints r⟩
end

mutual
/-- A plain datum as the heads write it. -/
def toWD : Dt → WData
  | .int i => .int i
  | .str x => .str x
  | .tup l => .tuple (toWL l)
  | _ => .none
def toWL : List Dt → List WData
  | [] => []
  | d :: r => toWD d :: toWL r
end
mutual
def lit : Dt → Bool
  | .int _ => true
  | .str _ => true
  | .tup l => litL l
  | _ => false
def litL : List Dt → Bool
  | [] => true
  | d :: r => lit d && litL r
end
mutual
theorem rep_lit {R : WRecords} {cl : Str → Option Addr} {h : Heap} : ∀ {d : Dt} {v : Value} {as : List Addr}, lit d = true → ReadsW R cl h v (toWD d) as → Rep h [] d v
  | .int i, v, as, _, x => by cases x; simp only [Rep]; exact ⟨_, rfl⟩
  | .str i, v, as, _, x => by cases x; simp only [Rep]; exact ⟨_, rfl⟩
  | .tup l, v, as, e, x => by
    unfold toWD at x
    cases x with
    | tuple h1 h2 h3 h4 =>
      simp only [Rep]
      exact ⟨_, _, rfl, List.not_mem_nil, ⟨_, h1, h2, _, h3⟩, repL_lit e h4⟩
  | .none, _, _, e, _ | .bool _, _, _, e, _ | .bytes _, _, _, e, _ | .lst _, _, _, e, _ | .lsw _, _, _, e, _ | .raw _, _, _, e, _ => by simp [lit] at e
theorem repL_lit {R : WRecords} {cl : Str → Option Addr} {h : Heap} : ∀ {l : List Dt} {vs : List Value} {as : List Addr}, litL l = true → ReadsAllW R cl h vs (toWL l) as → RepL h [] l vs
  | [], vs, as, _, x => by unfold toWL at x; cases x; simp only [RepL]
  | d :: r, vs, as, e, x => by
    unfold toWL at x
    simp only [litL, Bool.and_eq_true] at e
    cases x with
    | cons h1 h2 =>
      simp only [RepL]
      exact ⟨_, _, rfl, rep_lit e.1 h1, repL_lit e.2 h2⟩
end
theorem rep_ghost {h : Heap} {tbs : List Tb} (hT : TabsAt (cps tbs) h) {d : Dt} {v : Value} (r : Rep h [] d v) : Rep (ghostOf h (cps tbs)) [] d v := by
  refine Rep.hide (H := (cps tbs).map (·.2)) ?_
  have := Rep.wider (H := (cps tbs).map (·.2)) (fun a ha o xs n e hd => ?_) r
  · rwa [List.append_nil] at this
  · obtain ⟨q, hq, rfl⟩ := List.mem_map.mp ha
    rw [(hT q hq).2] at e
    cases e
    cases hd
/-- True is what the law asks for. -/
theorem post_true (R : WRecords) (args ds : List WData) : (WShape.has R (.bool true) .bool && (WTm.eq .res (.lit (.bool true))).holds R { args := args, res := some (.bool true), after := ds }) = true := by
  rw [Bool.and_eq_true]
  refine ⟨?_, ?_⟩
  · first
    | rfl
    | (simp [WShape.has, WShape.arms]; done)
    | (unfold WShape.has; simp [WShape.arms]; done)
  · rw [holdsW_of_value (w_eq_bool (k := true) (l := true) (w_res rfl) w_lit)]; rfl
end Mine
end

section
-- L33
open PySem PySem.W PySem.Calls PyProof.Rows
set_option maxRecDepth 100000
namespace Mine
/-- The code object and the table of the def `x`. -/
def tabOf (h : Heap) (x : Str) : Option (Addr × Addr) := match h.nsMap mainGlobals x with
  | some (.ref a) => (match h.get? a with
    | some o => (match o.data with
      | .func fd => (match fd.code with
        | .ref c => (match h.get? c with
          | some oc => (match oc.data with
            | .fields vs => (match (vs[11]? : Option Value) with
              | some (.ref P) => some (c, P)
              | _ => none)
            | _ => none)
          | none => none)
        | _ => none)
      | _ => none)
    | none => none)
  | _ => none
def PathAt (h : Heap) (x : Str) (q : Addr × Addr) : Prop := ∃ a o fd oc vs, h.nsMap mainGlobals x = some (.ref a) ∧ h.get? a = some o ∧ o.data = .func fd ∧ fd.code = .ref q.1 ∧ h.get? q.1 = some oc ∧ oc.data = .fields vs ∧ vs[11]? = some (.ref q.2)
theorem path_of {h : Heap} {x : Str} {q : Addr × Addr} (e : tabOf h x = some q) : PathAt h x q := by
  unfold tabOf at e
  split at e
  · rename_i a ha
    split at e
    · rename_i o ho
      split at e
      · rename_i fd hfd
        split at e
        · rename_i c hc
          split at e
          · rename_i oc hoc
            split at e
            · rename_i vs hvs
              split at e
              · rename_i P hP
                cases e
                exact ⟨a, o, fd, oc, vs, ha, ho, hfd, hc, hoc, hvs, hP⟩
              · cases e
            · cases e
          · cases e
        · cases e
      · cases e
    · cases e
  · cases e
theorem PathAt.keeps {h h' : Heap} {x : Str} {q : Addr × Addr} (p : PathAt h x q) (k : ∀ b o, h.get? b = some o → h'.get? b = some o) : PathAt h' x q := by
  obtain ⟨a, o, fd, oc, vs, h1, h2, h3, h4, h5, h6⟩ := p
  refine ⟨a, o, fd, oc, vs, ?_, k _ _ h2, h3, h4, k _ _ h5, h6⟩
  unfold Heap.nsMap at h1 ⊢
  cases hm : h.get? mainGlobals with
  | none => rw [hm] at h1; cases h1
  | some om => rw [hm] at h1; rw [k _ _ hm]; exact h1
/-- What the head must see beside the top: the two tables. -/
def tabHook (x y : Str) (q r : Addr × Addr) : Hook where
  α := Option (Addr × Addr) × Option (Addr × Addr)
  obs := fun s => (tabOf s.heap x, tabOf s.heap y)
  val := fun _ => (some q, some r)
  says := fun _ h => PathAt h x q ∧ PathAt h y r
  of := fun _ _ e => ⟨path_of (Prod.mk.inj e).1, path_of (Prod.mk.inj e).2⟩
  keeps := fun _ _ _ x k => ⟨x.1.keeps k, x.2.keeps k⟩
section
variable {prog : Program} {w : World} {h : Heap} {mg mb : Str → Option Value} {tbs : List Tb} {view : Program} {loose : List Str} {mean : ExcName → Option Value}
theorem nsMap_eq {m : Str → Option Value} {a : Addr} (n : h.Ns a m) (x : Str) : h.nsMap a x = m x := by
  obtain ⟨o, es, ep, e, hd, _, k⟩ := n
  unfold Heap.nsMap
  rw [e]
  show (match o.data with | .dict es _ => nsFind es x | _ => none) = m x
  rw [hd]
  exact k x
theorem path_tab (T : Top view loose mean mg mb h) {x : Str} {q : Addr × Addr} (p : PathAt h x q) (k : Nat) (e : ((recsOf view)[k]?).map (·.name) = some x) : CodeHd h q.1 q.2 ∧ h.get? q.2 = some (tabObj #[]) := by
  obtain ⟨d, hd, rfl⟩ := Option.map_eq_some_iff.mp e
  obtain ⟨a, o, fd, oc, vs, h1, h2, h3, h4, h5, h6, h7⟩ := p
  rw [nsMap_eq T.g] at h1
  obtain ⟨a', o', fd', c, P, g1, g2, g3, g4, g5, g6⟩ := T.tab d (List.mem_of_getElem? hd)
  rw [h1] at g1; cases g1
  rw [h2] at g2; cases g2
  rw [h3] at g3; cases g3
  rw [h4] at g4; cases g4
  have hP : q.2 = P := by
    obtain ⟨⟨o₂, vs₂, k1, k2, k3, k4⟩, _⟩ := g6
    rw [h5] at k1; cases k1
    rw [h6] at k3; cases k3
    rw [h7] at k4; cases k4; rfl
  rw [hP]
  exact ⟨CodeHd.of g5 g6, g6.2⟩
theorem hasFnT_at (hT : TabsAt (cps tbs) h) (T : Top view loose mean mg mb h) {p : Program} {i j : Nat} {t : Tb} (ht : t ∈ tbs) (hp : t.pos = stPos (inDef p i j)) (hq : t.qual = fnN (stAt p i) ++ ".<locals>." ++ fnN (inDef p i j)) (k : Nat)
    (e : ((recsOf view)[k]?).map (fun d => (d.name, d.params, d.body, d.scope)) = some (fnN (stAt p i), fnP (stAt p i), fnB (stAt p i), fnS (stAt p i))) (hpa : PathAt h (fnN (stAt p i)) (t.c, t.P)) :
    HasFnT (mkW prog w h mg mb tbs) p i j t := by
  refine ⟨ht, hp, hq, ?_⟩
  obtain ⟨d, hd, e⟩ := Option.map_eq_some_iff.mp e
  obtain ⟨a, o, pm, code, doc, h1, h2, h3, h4⟩ := T.fn d (List.mem_of_getElem? hd)
  simp only [Prod.mk.injEq] at e
  obtain ⟨e1, e2, e3, e4⟩ := e
  obtain ⟨a', o', fd, oc, vs, g1, g2, g3, g4, _⟩ := hpa
  rw [nsMap_eq T.g, ← e1, h1] at g1; cases g1
  rw [h2] at g2; cases g2
  rw [h3] at g3; cases g3
  have hc : code = .ref t.c := g4
  rw [← e1, ← e2, ← e3, ← e4]
  refine ⟨a, h1, o, pm, doc, ghost_get hT h2 (fun q => by rw [q] at h3; cases h3), ?_, ?_⟩
  · rw [← hc]; exact h3
  · rw [← hc]; exact ghost_rec hT h4
end
end Mine
end

section
-- HB_02
open PySem PySem.W PySem.Calls PyProof.Rows
set_option maxRecDepth 100000
set_option maxHeartbeats 8000000
namespace Mine
/-- What stays of the text in the head's sight: all but the files' names. -/
def view : Program := { PySem.Challenge.pw_op0122_02 with main := { PySem.Challenge.pw_op0122_02.main with body := ((((PySem.Challenge.pw_op0122_02.main.body).eraseIdx 41).eraseIdx 39).eraseIdx 31).eraseIdx 0 } }
theorem law_said : PySem.Challenge.rw_op0122_02.wellSaid = true := by decide +kernel
abbrev looseN : List Str := [Str.ofString "_filemode_table"]
def looseV : List (Str × WData) := [(Str.ofString "_filemode_table", .tuple [
  .tuple [.tuple [.int 40960, .str ⟨#[108]⟩], .tuple [.int 49152, .str ⟨#[115]⟩], .tuple [.int 32768, .str ⟨#[45]⟩], .tuple [.int 24576, .str ⟨#[98]⟩], .tuple [.int 16384, .str ⟨#[100]⟩], .tuple [.int 8192, .str ⟨#[99]⟩], .tuple [.int 4096, .str ⟨#[112]⟩]],
  .tuple [.tuple [.int 256, .str ⟨#[114]⟩]], .tuple [.tuple [.int 128, .str ⟨#[119]⟩]],
  .tuple [.tuple [.int 2112, .str ⟨#[115]⟩], .tuple [.int 2048, .str ⟨#[83]⟩], .tuple [.int 64, .str ⟨#[120]⟩]],
  .tuple [.tuple [.int 32, .str ⟨#[114]⟩]], .tuple [.tuple [.int 16, .str ⟨#[119]⟩]],
  .tuple [.tuple [.int 1032, .str ⟨#[115]⟩], .tuple [.int 1024, .str ⟨#[83]⟩], .tuple [.int 8, .str ⟨#[120]⟩]],
  .tuple [.tuple [.int 4, .str ⟨#[114]⟩]], .tuple [.tuple [.int 2, .str ⟨#[119]⟩]],
  .tuple [.tuple [.int 513, .str ⟨#[116]⟩], .tuple [.int 512, .str ⟨#[84]⟩], .tuple [.int 1, .str ⟨#[120]⟩]]])]
abbrev lawHook : Hook := tabHook (Str.ofString "_int2digits") (Str.ofString "_digits2int") (137, 133) (144, 140)
theorem law_left : LeftO PySem.Challenge.pw_op0122_02 view looseN (fun s => xlAt view looseV s && recOk [] s) lawHook.obs lawHook.val 2280 := by
  intro w
  kernel_rfl
abbrev lawRow : OpenRow := PySem.Challenge.rw_op0122_02.row
theorem law_head0 {d : DefRec} {kwd : List (Str × PySem.Expr)} (hd : defOf view lawRow.name = some (d, kwd)) (hp : lawRow.prog.theDef lawRow.name = some (d.params, d.body, d.scope)) (hk : kwWritten? d.params.kwonlyargs d.params.kw_defaults = some kwd)
    (hc : WalkO view looseN (XL view looseV) lawHook.says lawRow.toRowW d kwd fun f vs => PySem.call f vs) : PySem.Challenge.rw_op0122_02.Holds :=
  holds_law law_said fun said => by
    refine holds_open (q := view) (loose := looseN) (Xt := fun s => xlAt view looseV s && recOk [] s) (XP := XL view looseV) (Yf := lawHook.obs) (Ya := lawHook.val) (YP := lawHook.says) (N := 2280) law_left lawHook.of lawHook.keeps
      (fun s e => xl_of s (Bool.and_eq_true_iff.mp e).1) XL.keeps hd hp hk (fun s e => recFacts_of (Bool.and_eq_true_iff.mp e).2) (by rfl) said (by decide +kernel) ⟨rfl, rfl, rfl, rfl, rfl, by decide +kernel⟩ ?hw hc
    case hw => w_witness2
end Mine
end

section
-- L34
open PySem PySem.W PySem.Calls PyProof.Rows PySem.SeqAt
set_option maxRecDepth 100000
namespace Mine
section
variable {W : Wd} {A : Around} {env : Env} {D : List (PySem.Str × Dt)}
/-- `len(range(a, b, c))`. -/
theorem ev_len_range3 {f x : PySem.Str} {p p' pos pos' : Pos} {e1 e2 e3 : PySem.Expr} {a b c : Int} {n : Nat} (G : W.Ok) (hkf : env.kindOf f = some .globalImplicit) (hbf : (f == ("__debug__" : PySem.Str)) = false) (hmf : W.mg f = none) (hvf : bootBuiltins f = some (.builtin "len")) (hnf : f ≠ "__name__")
    (hk : env.kindOf x = some .globalImplicit) (hb : (x == ("__debug__" : PySem.Str)) = false) (hm : W.mg x = none) (hv : bootBuiltins x = some (.type "range")) (hn : x ≠ "__name__") (ha : Evs W A env D [e1, e2, e3] [.int a, .int b, .int c])
    (hc0 : 0 < c) (hc1 : c < 1000) (hsz : Builtin.Range.rangeSize a b c = n) (hfit : n < 1000)
    (he : starEach [e1, e2, e3] env = (false, eval e1 env) :: starEach [e2, e3] env) (hplain : (backTo pos (starEach [e2, e3] env)).any (·.1) = false)
    (he' : starEach [.Call (.Name x p) [e1, e2, e3] [] pos] env = (false, eval (.Call (.Name x p) [e1, e2, e3] [] pos) env) :: starEach [] env) :
    Ev W A env D (.Call (.Name f p') [.Call (.Name x p) [e1, e2, e3] [] pos] [] pos') (.int n) := fun bb OL s S => by
  refine Call_ ((ev_boot G hkf hmf hvf hnf hbf bb OL s S).use fun v s₁ x₁ r₁ => ?_)
  simp only [Rep] at r₁
  subst r₁
  refine PyProof.Rows.callWith_builtin1 ?_ he' rfl
  refine args_cons ?_ he'
  refine Call_ ((ev_boot G hk hm hv hn hb bb OL s₁ (S.stp x₁)).use fun v s₂ x₂ r₂ => ?_)
  simp only [Rep] at r₂
  subst r₂
  refine PyProof.Rows.callWith_type1 (wpAny_mono (ha pos bb OL s₂ ((S.stp x₁).stp x₂)) (fun vs s₃ y => ?_) fun _ _ y => y.elim) he hplain
  have y2 := y.2
  simp only [RepL, Rep] at y2
  obtain ⟨v1, _, rfl, ⟨t1, rfl⟩, v2, _, rfl, ⟨t2, rfl⟩, v3, _, rfl, ⟨t3, rfl⟩, rfl⟩ := y2
  refine call_range_3 (by omega) ?_ (.inl (PyProof.noPylong_small (by omega)))
  have x₄ : Stp W s₃ { s₃ with heap := s₃.heap.push { cls := .type "range", data := .fields #[.int a t1, .int b t2, .int c t3] }, toks := s₃.toks } := Stp.push y.1.inv
  refine args_nil ?_
  refine call_len_range (t := t1) (u := t2) (v := t3) (a := a) (b := b) (c := c) (n := n) (Heap.get?_push_size _ rfl) hsz (by omega) ?_
  exact ⟨((x₁.trans x₂).trans y.1).trans (x₄.trans (.tok x₄.inv)), by simp only [Rep]; exact ⟨_, rfl⟩⟩
/-- A value is among the ints of a list. -/
theorem op_in_ints {xs : List Int} {x : Int} : Op2 W A (compareOp .In) (.int x) (.lst (xs.map .int)) (.bool (xs.any fun y => y == x)) := fun O s va vb I ra rb => by
  simp only [Rep] at ra rb
  obtain ⟨t, rfl⟩ := ra
  obtain ⟨l, us, rfl, _, hl, hr⟩ := rb
  unfold Yl
  refine in_listAt (e := fun v => match v with | .int y _ => y == x | _ => false) hl.isList (fun y hy => ?_) ?_
  · obtain ⟨j, hj, rfl⟩ := Array.mem_iff_getElem.mp hy
    obtain ⟨u, e⟩ := int_items hr j hj
    rw [e]
    exact EqAt.int_int _ _ _ _
  · have e : (us.any fun v => match v with | .int y _ => y == x | _ => false) = xs.any fun y => y == x := by
      rw [← Array.any_toList]
      have key : ∀ (xs : List Int) (vs : List Value), RepL s.heap O (xs.map .int) vs → (vs.any fun v => match v with | .int y _ => y == x | _ => false) = xs.any fun y => y == x := by
        intro xs
        induction xs with
        | nil => intro vs h; simp only [List.map_nil, RepL] at h; subst h; rfl
        | cons a xs ih =>
          intro vs h
          simp only [List.map_cons, RepL, Rep] at h
          obtain ⟨v, r, rfl, ⟨t, rfl⟩, h2⟩ := h
          rw [List.any_cons, List.any_cons, ih r h2]
      exact key xs us.toList hr
    rw [e]
    exact yl_bool I
end
mutual
/-- Ints, and tuples of such. -/
def Plc : Dt → Nat → Prop
  | .int _, _ => True
  | .tup l, k + 1 => PlcL l k
  | _, _ => False
def PlcL : List Dt → Nat → Prop
  | [], _ => True
  | d :: r, k => Plc d k ∧ PlcL r k
end
theorem PlcL.at {l : List Dt} {k i : Nat} {d : Dt} (h : PlcL l k) (e : l[i]? = some d) : Plc d k := by
  induction l generalizing i with
  | nil => simp at e
  | cons a l ih =>
    simp only [PlcL] at h
    cases i with
    | zero => simp at e; exact e ▸ h.1
    | succ i => exact ih h.2 (by simpa using e)
/-- Two values that stand for the same plain datum are equal. -/
theorem eq_same : ∀ (k : Nat) {A : Around} {s : Shared} {O : List Addr} {d : Dt} {v v' : Value}, Plc d k → A.units + k < 9000 → Rep s.heap O d v → Rep s.heap O d v' → EqAt A s v v' true
  | k, A, s, O, .int i, v, v', _, _, r, r' => by
    simp only [Rep] at r r'
    obtain ⟨t, rfl⟩ := r
    obtain ⟨u, rfl⟩ := r'
    have := EqAt.int_int (A := A) (s := s) i t i u
    rw [show (i == i) = true from beq_self_eq_true i] at this
    exact this
  | k + 1, A, s, O, .tup l, v, v', hp, hu, r, r' => by
    simp only [Rep] at r r'
    simp only [Plc] at hp
    obtain ⟨a, vs, rfl, _, ht, hr⟩ := r
    obtain ⟨a', vs', rfl, _, ht', hr'⟩ := r'
    by_cases hne : a = a'
    · subst hne; exact EqAt.same _
    · have e1 : vs.size = l.length := by rw [← Array.length_toList]; exact hr.length
      have e2 : vs'.size = l.length := by rw [← Array.length_toList]; exact hr'.length
      refine EqAt.of_refs hne ?_
      have key := RcAt.tuples (A := A) (s := s) (e := fun _ => true) ht ht' (by show A.units < 9900; omega) (fun j h1 h2 => ?_)
      · have : ((List.range (min vs.size vs'.size)).all (fun _ => true) && vs.size == vs'.size) = true := by rw [e1, e2]; simp
        rw [this] at key
        exact key
      · have hj : j < l.length := by omega
        obtain ⟨w1, q1, p1⟩ := hr.get (i := j) (List.getElem?_eq_getElem hj)
        obtain ⟨w2, q2, p2⟩ := hr'.get (i := j) (List.getElem?_eq_getElem hj)
        rw [Array.getElem?_toList, Array.getElem?_eq_getElem h1] at q1
        rw [Array.getElem?_toList, Array.getElem?_eq_getElem h2] at q2
        cases q1
        cases q2
        exact eq_same k (A := A.in1) (hp.at (List.getElem?_eq_getElem hj)) (by show A.units + 1 + k < 9000; omega) p1 p2
  | _, _, _, _, .none, _, _, h, _, _, _ | _, _, _, _, .bool _, _, _, h, _, _, _ | _, _, _, _, .str _, _, _, h, _, _, _ | _, _, _, _, .bytes _, _, _, h, _, _, _ | _, _, _, _, .lst _, _, _, h, _, _, _ | _, _, _, _, .lsw _, _, _, h, _, _, _ | _, _, _, _, .raw _, _, _, h, _, _, _ => by simp [Plc] at h
  | 0, _, _, _, .tup _, _, _, h, _, _, _ => by simp [Plc] at h
section
variable {W : Wd} {A : Around} {env : Env} {D : List (PySem.Str × Dt)} {b : Base} {OL : List (Addr × List Dt)} {s : Shared} {E : Value → Shared → Prop} {Q : Flow → Shared → Prop}
theorem op_ne_same {ds : List Dt} {k : Nat} (hp : PlcL ds k) (hu : A.units + k < 8000) : Op2 W A (compareOp .NotEq) (.lst ds) (.lst ds) (.bool false) := fun O s va vb I ra rb => by
  simp only [Rep] at ra rb
  obtain ⟨l, us, rfl, _, hl, hr⟩ := ra
  obtain ⟨l', us', rfl, _, hl', hr'⟩ := rb
  have e1 : us.size = ds.length := by rw [← Array.length_toList]; exact hr.length
  have e2 : us'.size = ds.length := by rw [← Array.length_toList]; exact hr'.length
  unfold Yl
  refine RcNeAt.lists (e := fun _ => true) hl.isList hl'.isList (by omega) (by show A.units < 9900; omega) (fun j h1 h2 => ?_) _ _ _ _ ?_
  · have hj : j < ds.length := by omega
    obtain ⟨w1, q1, p1⟩ := hr.get (i := j) (List.getElem?_eq_getElem hj)
    obtain ⟨w2, q2, p2⟩ := hr'.get (i := j) (List.getElem?_eq_getElem hj)
    rw [Array.getElem?_toList, Array.getElem?_eq_getElem h1] at q1
    rw [Array.getElem?_toList, Array.getElem?_eq_getElem h2] at q2
    cases q1
    cases q2
    exact eq_same k (A := A.in1) (hp.at (List.getElem?_eq_getElem hj)) (by show A.units + 1 + k < 9000; omega) p1 p2
  · have : (!(List.range us.size).all fun _ => true) = false := by simp
    rw [this]
    exact yl_bool I
theorem store_locS {x : PySem.Str} {v : Value} {d : Dt} {Q : Unit → Shared → Prop} (S : St W b env D OL s) (hk : env.kindOf x = some .local) (r : Rep s.heap (ad OL ++ b.O) d v)
    (h : ∀ s', St W b env ((x, d) :: D) OL s' → (∀ d' v', Rep s.heap (ad OL ++ b.O) d' v' → Rep s'.heap (ad OL ++ b.O) d' v') → Heap.SameBut env.locals s.heap s'.heap → Q () s') : wpAny W.M A (storeName env x v) Q E s := by
  obtain ⟨m, hn, km⟩ := S.loc
  have hn' := hn
  obtain ⟨oL, es, ep, eL, hdL, _⟩ := hn'
  have hLP : env.locals ∉ W.Ps := S.inv.notP_of eL fun vs => by rw [hdL]; nofun
  refine wpAny_storeName_local hk hn (fun h' hn' hs => ?_) (by rw [S.fk]; rfl)
  have hx := hs.extBut
  have sk : SeqKeep (ad OL ++ b.O) s.heap h' := seqKeep_but hx fun o e xs n q => by rw [eL] at e; cases e; rw [hdL] at q; cases q
  have ne : ∀ {c : Addr} {o : Obj}, s.heap.get? c = some o → (∀ es ep, o.data ≠ .dict es ep) → c ≠ env.locals := fun e q e' => by
    rw [e', eL] at e; cases e; exact q _ _ hdL
  refine h _ { inv := S.inv.extBut hx S.lfresh.2 hLP fun o e vs q => by rw [eL] at e; cases e; rw [hdL] at q; cases q
               ext := S.ext.butP (P := (· = env.locals)) hx (fun a q => by rw [q]; exact S.lfresh.1)
               same := S.same.trans (Sm.mk _ _ _)
               ook := fun a ha => ?_
               fk := S.fk, eg := S.eg, eb := S.eb
               loc := ⟨_, hn', fun y d' h1 h2 => ?_⟩
               cel := fun y d' h1 h2 => ?_
               all := fun y c h1 => ?_
               own := fun p hp => ?_
               ofresh := S.ofresh, odisj := S.odisj, apart := S.apart, lfresh := S.lfresh } (fun _ _ r' => r'.mono sk) hs
  · exact S.ook.keep (seqKeep_but hx fun o e xs n q => by rw [eL] at e; cases e; rw [hdL] at q; cases q) a ha
  · by_cases q : y = x
    · subst q
      rw [lookup_cons_self] at h2; cases h2
      exact ⟨v, by simp, r.mono sk⟩
    · rw [lookup_cons_ne q] at h2
      obtain ⟨v', h3, h4⟩ := km y d' h1 h2
      exact ⟨v', by simp [q, h3], h4.mono sk⟩
  · have q : y ≠ x := fun q => by rw [q, hk] at h1; simp at h1
    rw [lookup_cons_ne q] at h2
    obtain ⟨c, v', h3, ⟨o, e, hd⟩, h5⟩ := S.cel y d' h1 h2
    exact ⟨c, v', h3, ⟨o, hx c o (ne e fun _ _ q => by rw [hd] at q; cases q) e, hd⟩, h5.mono sk⟩
  · obtain ⟨v', o, e, hd⟩ := S.all y c h1
    exact ⟨v', o, hx c o (ne e fun _ _ q => by rw [hd] at q; cases q) e, hd⟩
  · obtain ⟨vs, ⟨n, e⟩, r'⟩ := S.own p hp
    exact ⟨vs, ⟨n, hx _ _ (ne e fun _ _ q => by cases q) e⟩, r'.mono sk⟩

theorem St.off {C : Addr} {oC : Obj} {es : Array DictEntry} {k : Nat} {h' : Heap} {tk : Nat} (S : St W b env D OL s) (eC : s.heap.get? C = some oC) (hdC : oC.data = .dict es k) (hCb : b.hb.get? C = none) (hCg : W.g.get? C = none) (hCl : C ≠ env.locals) (hs : Heap.SameBut C s.heap h') : St W b env D OL { s with heap := h', toks := tk } := by
  have hx := hs.extBut
  have ne : ∀ {c : Addr} {o : Obj}, s.heap.get? c = some o → (∀ es ep, o.data ≠ .dict es ep) → c ≠ C := fun e q e' => by
    rw [e', eC] at e; cases e; exact q _ _ hdC
  have hCP : C ∉ W.Ps := S.inv.notP_of eC fun vs => by rw [hdC]; nofun
  have sk : SeqKeep (ad OL ++ b.O) s.heap h' := seqKeep_but hx fun o e xs n q => by rw [eC] at e; cases e; rw [hdC] at q; cases q
  refine { inv := S.inv.extBut hx hCg hCP fun o e vs q => by rw [eC] at e; cases e; rw [hdC] at q; cases q
           ext := S.ext.butP (P := (· = C)) hx (fun a q => by rw [q]; exact hCb)
           same := S.same.trans (Sm.mk _ _ _)
           ook := fun a ha => S.ook.keep (seqKeep_but hx fun o e xs n q => by rw [eC] at e; cases e; rw [hdC] at q; cases q) a ha
           fk := S.fk, eg := S.eg, eb := S.eb
           loc := ?_
           cel := fun y d' h1 h2 => ?_
           all := fun y c h1 => ?_
           own := fun p hp => ?_
           ofresh := S.ofresh, odisj := S.odisj, apart := S.apart, lfresh := S.lfresh }
  · obtain ⟨m, hn, km⟩ := S.loc
    refine ⟨m, hn.sameBut hs (Ne.symm hCl), fun y d' h1 h2 => ?_⟩
    obtain ⟨v', h3, h4⟩ := km y d' h1 h2
    exact ⟨v', h3, h4.mono sk⟩
  · obtain ⟨c, v', h3, ⟨o, e, hd⟩, h5⟩ := S.cel y d' h1 h2
    exact ⟨c, v', h3, ⟨o, hx c o (ne e fun _ _ q => by rw [hd] at q; cases q) e, hd⟩, h5.mono sk⟩
  · obtain ⟨v', o, e, hd⟩ := S.all y c h1
    exact ⟨v', o, hx c o (ne e fun _ _ q => by rw [hd] at q; cases q) e, hd⟩
  · obtain ⟨vs, ⟨n, e⟩, r'⟩ := S.own p hp
    exact ⟨vs, ⟨n, hx _ _ (ne e fun _ _ q => by cases q) e⟩, r'.mono sk⟩
/-- A comprehension, stored under a local name as it ends. -/
theorem x_compL {y : PySem.Str} {py : Pos} {elt target iter : PySem.Expr} {ifs : List PySem.Expr} {scope : Scope} {pos spos : Pos} {cl : List (PySem.Str × Addr)} {xs : List PySem.Str} {n : Nat} {Dn : Nat → List (PySem.Str × Dt)} {FV : List (PySem.Str × Dt)} {ok : Nat → Bool} {res : Nat → Dt} {st rest : List Stmt}
    (hb : st = .Assign [.Name y py] (.ListComp elt [⟨target, iter, ifs, 0⟩] scope pos) spos :: rest) (S : St W b env D OL s)
    (hin : CompIn W A env D iter target xs n Dn)
    (hclos : closureFor scope env = pure cl) (hkind : scope.kind = .function) (hnames : ∀ y ∈ scope.names, y.2 = .local → scope.names.lookup y.1 = some .local)
    (hs : ∀ x, foldedSetIterable iter env x = pure x)
    (hsub : ∀ p ∈ cl, env.cells.lookup p.1 = some p.2) (hap : (∀ x c, env.cells.lookup x = some c → (x, c) ∈ env.cells) → (env.cells.Pairwise fun x y => x.2 ≠ y.2) → cl.Pairwise fun x y => x.2 ≠ y.2)
    (hfv : ∀ p ∈ FV, D.lookup p.1 = some p.2 ∧ (env.kindOf p.1 = some .cell ∨ env.kindOf p.1 = some .free) ∧ (∀ k, (cellsFrom k scope.names cl).lookup p.1 = env.cells.lookup p.1) ∧ (relabel scope env).names.lookup p.1 ≠ some .local)
    (hsto : ∀ C b', (∀ a, C ≤ a → b'.hb.get? a = none ∧ W.g.get? a = none) → ∀ x ∈ xs, StoX W b' (compEnvC scope (cellsFrom (C + 1) scope.names cl) C env) x)
    (htest : ∀ C i, i < n → Tsts W A (compEnvC scope (cellsFrom (C + 1) scope.names cl) C env) (Dn i ++ FV) ifs (ok i))
    (helt : ∀ C i, i < n → ok i = true → ∀ OL', EvO W A ⟨s.heap, s, ad OL ++ b.O⟩ (compEnvC scope (cellsFrom (C + 1) scope.names cl) C env) (Dn i ++ FV) OL' elt (res i)) (hsz : n ≤ 100000)
    (hpick : ∀ i, i < n → ∀ p ∈ FV, (Dn i ++ FV).lookup p.1 = some p.2)
    (hy : env.kindOf y = some .local) (hsw : swapsWith (.ListComp elt [⟨target, iter, ifs, 0⟩] scope pos) (some (.Name y py)) spos.line env = pure true)
    (h : ∀ s', St W b env ((y, .lst (gather ok res n)) :: D) OL s' → wpAny W.M A (execs rest env) Q E s') : wpAny W.M A (execs st env) Q E s := by
  rw [hb]
  refine wpAny_execs_cons ?_
  rw [exec_Assign_Name_used _ _ _ _ hsw]
  refine wpAny_bind (wpAny_standAt (wpAny_bind ?_))
  show wpAny _ A (do let _ ← comprehension (.ListComp elt [⟨target, iter, ifs, 0⟩] scope pos) scope env _ (newList []) false (eval iter env) (some (assign (.Name y py) env))) _ _ s
  refine wpAny_bind (wpAny_mono (comp_core (use := some (assign (.Name y py) env)) (Q := fun _ s' => wpAny W.M A (execs rest env) Q E s') S hin hclos hkind hnames hs hsub (hap (fun _ _ h => mem_of_lookup h) S.apart) hfv hsto htest helt hsz hpick fun acc C s' x h1 h2 h3 h4 => ?_) (fun _ s' hq => wpAny_pure (wpAny_pure hq)) fun _ _ e => e)
  obtain ⟨us, hp, hr⟩ := h3
  obtain ⟨m, hn⟩ := h4
  show wpAny W.M A (assign (.Name y py) env (.ref acc)) _ E s'
  have S' := S.stp x
  have hacc : acc ∉ ad OL ++ b.O := fun q => S.ook.new h1 q
  have rep : Rep s'.heap (ad OL ++ b.O) (.lst (gather ok res n)) (.ref acc) := by
    simp only [Rep]
    exact ⟨acc, us, rfl, hacc, hp, hr.sub fun a ha => List.mem_cons_of_mem _ ha⟩
  have hCl : C ≠ env.locals := fun q => by
    obtain ⟨m', ⟨o, es, ep, e, _⟩, _⟩ := S.loc
    rw [q, e] at h2; cases h2
  have hCb : b.hb.get? C = none := by
    cases q : b.hb.get? C with
    | none => rfl
    | some o =>
      by_cases hP : C ∈ W.Ps
      · obtain ⟨ps, e⟩ := S.inv.notP hP
        rw [h2] at e; cases e
      · obtain ⟨sl, e⟩ := S.ext.there hP q
        rw [h2] at e; cases e
  have hCg : W.g.get? C = none := by
    cases q : W.g.get? C with
    | none => rfl
    | some o => rw [S.inv.base _ _ q] at h2; cases h2
  refine assign_name (store_locS S' hy rep fun s₂ S₂ _ hs₂ => ?_)
  have hn₂ := hn.sameBut hs₂ hCl
  refine ⟨m, hn₂, fun h' hs' => ?_⟩
  obtain ⟨oC, es, k, eC, hdC, _⟩ := hn₂
  exact h _ (S₂.off (tk := s₂.toks) eC hdC hCb hCg hCl hs')
end
end Mine
end

section
-- L35
open PySem PySem.W PySem.Calls PyProof.Rows
set_option maxRecDepth 100000
namespace Mine
section
variable {prog : Program} {w : World} {A : Around} {E : Value → Shared → Prop} {s : Shared} {env : Env}
/-- `raise ZeroDivisionError`, without a call. -/
theorem raise_zero {x : PySem.Str} {np pos : Pos} {Q : Flow → Shared → Prop} (hh : A.handled = none)
    (hx : wpAny (model prog w) A (eval (.Name x np) env) (fun v s₁ => v = .type "ZeroDivisionError" ∧ s₁ = s) E s)
    (h : ∀ h' e, Heap.MadeExc s.heap h' e "ZeroDivisionError" [] → E (.ref e) { s with heap := h' }) :
    wpAny (model prog w) A (exec (.Raise (some (.Name x np)) none pos) env) Q E s := by
  have hc := PyProof.Rows.excClass_ZeroDivisionError
  have hself := PySem.F.self_ZeroDivisionError
  show wpAny (model prog w) A (do standAt pos; raiseStmt env (some (do let v ← eval (.Name x np) env; standAt pos; pure v)) none) Q E s
  refine wpAny_bind (wpAny_standAt ?_)
  unfold raiseStmt
  dsimp only
  refine wpAny_bind (wpAny_bind (wpAny_mono hx (fun v s₁ h₁ => wpAny_bind (wpAny_standAt (wpAny_pure ?_))) fun _ _ e => e))
  obtain ⟨rfl, hs₁⟩ := h₁
  subst s₁
  refine wpAny_bind (wpAny_pure ?_)
  dsimp only
  refine wpAny_bind (wpAny_holding ?_)
  unfold excFromValue isExcClass
  refine wpAny_bind (wpAny_bind (wpAny_pure ?_))
  simp only [if_true]
  rw [hc.base]
  refine wpAny_pure ?_
  simp only [if_true]
  obtain ⟨hp, g, d, tk, os⟩ := s
  refine wpAny_bind (wpAny_call_exc PySem.F.excCall_ZeroDivisionError fun h' e hn => ?_)
  obtain ⟨t, he, _⟩ := hn.there
  have hT : (⟨h', g, d, tk, os⟩ : Shared).TypeIs (.ref e) "ZeroDivisionError" := (show ∃ o, h'.get? e = some o ∧ o.cls = .type "ZeroDivisionError" from ⟨_, he, rfl⟩)
  refine wpAny_bind (wpAny_isInstance hT hc.base ?_)
  simp only [Bool.not_true, Bool.false_eq_true, if_false]
  refine wpAny_pure ?_
  first | (refine wpAny_bind (m := isType (.type "ZeroDivisionError")) (wpAny_pure ?_)) | (refine wpAny_bind (wpAny_pure ?_))
  first | (rw [if_pos rfl]) | (simp only [if_true]) | dsimp only
  refine wpAny_bind (wpAny_holding ?_)
  unfold raisedFor
  first | (simp only [Bool.false_eq_true, if_false]) | (rw [if_neg (by decide)]) | skip
  first | (refine wpAny_bind (wpAny_typeOf hT ?_)) | (refine wpAny_bind ?_; refine wpAny_bind (wpAny_typeOf hT ?_))
  refine wpAny_bind (call_issubclass (issubclass_self hc hself) ?_)
  first | (refine wpAny_bind (wpAny_truthy_bool ?_)) | (refine wpAny_truthy_bool ?_) | (dsimp only [wants]; first | (refine wpAny_bind (wpAny_truthy_bool ?_)) | (refine wpAny_truthy_bool ?_))
  first | (rw [if_pos rfl]) | (simp only [if_true]) | skip
  refine wpAny_pure ?_
  unfold setFlight raiseNew
  refine wpAny_bind (wpAny_bind (wpAny_field (i := 1) (x := Value.none) he rfl rfl ?_))
  rw [if_neg (by decide)]
  refine wpAny_pure (wpAny_bind (wpAny_handled ?_))
  rw [hh]
  first
    | exact wpAny_throw (h h' e hn)
    | exact wpAny_bind (wpAny_pure (wpAny_throw (h h' e hn)))
end

/-- The frames below a call: functions, each with a dict of its own. -/
def Frs (W : Wd) (h : Heap) (outer : List Env) : Prop := ∀ env ∈ outer, env.scope.kind ≠ .module ∧ ∃ L o es n, env.frame = some L ∧ W.g.get? L = none ∧ L ∉ W.Ps ∧ h.get? L = some o ∧ o.data = .dict es n
abbrev fls (outer : List Env) : List Addr := outer.filterMap (·.frame)
theorem Frs.fun {W : Wd} {h base : Heap} : ∀ {outer : List Env}, Frs W h outer → (∀ L ∈ fls outer, base.get? L = none) → h.FunFrames base outer
  | [], _, _ => trivial
  | env :: r, k, hb => by
    obtain ⟨hk, L, o, es, n, hf, _, _, e, hd⟩ := k env List.mem_cons_self
    have hm : ∀ L', L' ∈ fls r → L' ∈ fls (env :: r) := fun L' h' => by
      simp only [fls, List.filterMap_cons, hf]
      exact List.mem_cons_of_mem _ h'
    exact ⟨hk, ⟨L, o, hf, hb L (by simp only [fls, List.filterMap_cons, hf]; exact List.mem_cons_self), e, fun vs q => by rw [hd] at q; cases q⟩, Frs.fun (fun env' h' => k env' (List.mem_cons_of_mem _ h')) fun L' h' => hb L' (hm L' h')⟩
theorem Frs.ext {W : Wd} {h h' : Heap} {outer : List Env} (k : Frs W h outer) (x : Ext W h h') : Frs W h' outer := fun env he => by
  obtain ⟨hk, L, o, es, n, hf, hg, hP, e, hd⟩ := k env he
  obtain ⟨sl, e1⟩ := x.there hP e
  exact ⟨hk, L, _, es, n, hf, hg, hP, e1, hd⟩
theorem Frs.mem {W : Wd} {h : Heap} {outer : List Env} (k : Frs W h outer) {L : Addr} (hL : L ∈ fls outer) : ∃ o es n, W.g.get? L = none ∧ L ∉ W.Ps ∧ h.get? L = some o ∧ o.data = .dict es n := by
  obtain ⟨env, he, hf⟩ := List.mem_filterMap.mp hL
  obtain ⟨_, L', o, es, n, hf', hg, hP, e, hd⟩ := k env he
  rw [hf] at hf'; cases hf'
  exact ⟨o, es, n, hg, hP, e, hd⟩

section
variable {W : Wd} {A : Around} {b : Base} {env : Env} {D : List (PySem.Str × Dt)} {s : Shared} {E : Value → Shared → Prop}
/-- What an exception's way through the frames leaves of the heap: only the frames' slots have turned. -/
theorem ext_turned {W : Wd} {h h' : Heap} {outer : List Env} (k : Frs W h outer) (hst : (hideAll h (fls outer)).StaysIn h') (hup : h.UpToSlots h') : Ext W h h' := fun a o ha e => by
  by_cases hm : a ∈ fls outer
  · obtain ⟨o', es, n, _, _, e', hd⟩ := k.mem hm
    rw [e] at e'; cases e'
    obtain ⟨sl, e1⟩ := hup a o e (fun vs q => by rw [hd] at q; cases q)
    exact ⟨sl, e1, fun hn => absurd hd (hn es n)⟩
  · exact ⟨o.slots, hst a o (hideAll_get _ e hm), fun _ => rfl⟩
theorem inv_turned {W : Wd} {h h' : Heap} {outer : List Env} (I : Inv W h) (k : Frs W h outer) (hst : (hideAll h (fls outer)).StaysIn h') : Inv W h' where
  base := fun a o e => hst a o (hideAll_get _ (I.base a o e) fun hm => by
    obtain ⟨_, _, _, hg, _⟩ := k.mem hm
    rw [e] at hg; cases hg)
  tab := fun t ht => by
    obtain ⟨ps, e, ok, c⟩ := I.tab t ht
    have nf : ∀ {a : Addr} {o : Obj}, h.get? a = some o → (∃ vs, o.data = .fields vs) → a ∉ fls outer := fun {a o} e q hm => by
      obtain ⟨o', es, n, _, _, e', hd⟩ := k.mem hm
      rw [e] at e'; cases e'
      obtain ⟨vs, q⟩ := q
      rw [hd] at q; cases q
    refine ⟨ps, hst _ _ (hideAll_get _ e (nf e ⟨_, rfl⟩)), ok, c.imp id ?_⟩
    rintro ⟨c', e1, ⟨c₂, o, vs, t', e2, e3, e4, e5⟩, e6⟩
    exact ⟨c', e1, ⟨c₂, o, vs, t', e2, hst _ _ (hideAll_get _ e3 (nf e3 ⟨_, e4⟩)), e4, e5⟩, e6⟩
theorem stp_turned {outer : List Env} {h' : Heap} (I : Inv W s.heap) (k : Frs W s.heap outer) (hst : (hideAll s.heap (fls outer)).StaysIn h') (hup : s.heap.UpToSlots h') : Stp W s { s with heap := h' } :=
  ⟨inv_turned I k hst, ext_turned k hst hup, h', s.toks, rfl⟩
end
end Mine
end

section
-- L36
open PySem PySem.W PySem.Calls PyProof.Rows
set_option maxRecDepth 100000
namespace Mine
set_option maxHeartbeats 1000000 in
/-- A comprehension of one name without a test, with the outer cells that it reads. -/
theorem ev_compF {W : Wd} {A : Around} {env : Env} {D : List (PySem.Str × Dt)} {x : PySem.Str} {elt iter : PySem.Expr} {px pos : Pos} {scope : Scope} {cl : List (PySem.Str × Addr)} {ds : List Dt} {FV : List (PySem.Str × Dt)} {res : Nat → Dt} (ns : List PySem.Str) (hi : Ib W A env D iter ds)
    (hclos : closureFor scope env = pure cl) (hkind : scope.kind = .function) (hnames : ∀ y ∈ scope.names, y.2 = .local → scope.names.lookup y.1 = some .local)
    (hs : ∀ x, foldedSetIterable iter env x = pure x) (hsub : ∀ p ∈ cl, env.cells.lookup p.1 = some p.2) (hnm : cl.map (·.1) = ns) (hnd : ns.Nodup)
    (hfv : ∀ p ∈ FV, D.lookup p.1 = some p.2 ∧ (env.kindOf p.1 = some .cell ∨ env.kindOf p.1 = some .free) ∧ (∀ k, (cellsFrom k scope.names cl).lookup p.1 = env.cells.lookup p.1) ∧ (relabel scope env).names.lookup p.1 ≠ some .local)
    (hsto : ∀ C b', StoX W b' (compEnvC scope (cellsFrom (C + 1) scope.names cl) C env) x) (hpick : ∀ d : Dt, ∀ p ∈ FV, ((x, d) :: FV).lookup p.1 = some p.2) (hsz : ds.length ≤ 100000)
    (helt : ∀ C i, i < ds.length → Ev W A (compEnvC scope (cellsFrom (C + 1) scope.names cl) C env) ((x, ds.getD i .none) :: FV) elt (res i)) :
    Ev W A env D (.ListComp elt [⟨.Name x px, iter, [], 0⟩] scope pos) (.lst ((List.range ds.length).map res)) := by
  subst hnm
  refine Ev.cast (EvN.ev (evn_comp (FV := FV) (ok := fun _ => true) (res := res) (compIn_name hi) hclos hkind hnames hs hsub (fun k1 k2 => cl_apart k1 k2 hsub hnd) hfv (fun C b' _ y hy => ?_) (fun C i hi => tsts_nil) (fun C i hi _ => helt C i hi) hsz (fun i _ => hpick _))) ?_
  · simp only [List.mem_singleton] at hy; subst hy; exact hsto C b'
  · rw [gather_true]
end Mine
end

section
-- L37
open PySem PySem.W PySem.Calls PyProof.Rows
set_option maxRecDepth 100000
namespace Mine
theorem rng_getD {i n : Nat} (h : i < n) : (rng n).getD i .none = .int i := by rw [List.getD_eq_getElem?_getD, rng_get h]; rfl
theorem getD_some {α : Type} {l : List α} {i : Nat} (d : α) (h : i < l.length) : l[i]? = some (l.getD i d) := by rw [List.getD_eq_getElem?_getD, List.getElem?_eq_getElem h]; rfl
section
variable {W : Wd} {A : Around} {env : Env} {D : List (PySem.Str × Dt)}
theorem ev_itemL {value slice : PySem.Expr} {pos : Pos} {l : List Dt} {i : Nat} {d : Dt} (hv : Ev W A env D value (.lst l)) (hi : Ev W A env D slice (.int i)) (hg : l[i]? = some d) (hl : l.length ≤ 100000) (hs : ∀ o i, subscripted slice false o i = operate [o, i] (getItem o i)) : Ev W A env D (.Subscript value slice pos) d := by
  have hlt : i < l.length := (List.getElem?_eq_some_iff.mp hg).1
  exact ev_sub hv hi (op_item_list (by omega) (by omega) (by rw [Int.toNat_natCast]; exact hg) hs)
theorem ev_lenL {p pos : Pos} {e : PySem.Expr} {l : List Dt} (G : W.Ok) (hk : env.kindOf "len" = some .globalImplicit) (hm : W.mg "len" = none) (h : Ev W A env D e (.lst l)) (hl : l.length ≤ 1000) (he : starEach [e] env = (false, eval e env) :: starEach [] env) : Ev W A env D (.Call (.Name "len" p) [e] [] pos) (.int l.length) := by
  with_reducible refine' ev_bcall (ds := [.lst l]) G hk ?c2 hm PyProof.Rows.Boot.len ?c3 ?c4 (bc_len_list (by omega)) he ?c6
  case c2 => exact rfl
  case c3 => decide +kernel
  case c4 => exact evs_cons h evs_nil he
  case c6 => exact rfl
theorem ib_rangeL {p pos : Pos} {e : PySem.Expr} {n : Nat} (G : W.Ok) (hA : A.handled = none) (hk : env.kindOf "range" = some .globalImplicit) (hm : W.mg "range" = none) (ha : Ev W A env D e (.int n)) (h1 : n ≤ 100000) (he : starEach [e] env = (false, eval e env) :: starEach [] env) : Ib W A env D (.Call (.Name "range" p) [e] [] pos) (rng n) := by
  have := ib_range (p := p) (pos := pos) G hA hk rfl hm PyProof.Rows.Boot.range (by decide +kernel) ha (by omega) (by omega) he
  rwa [Int.toNat_natCast] at this
end
end Mine
end

section
-- L38
open PySem PySem.W PySem.Calls PyProof.Rows
set_option maxRecDepth 100000
namespace Mine
/-- The law's call, done, where the law's contract is known for the caller's surroundings alone. -/
theorem finish2 {prog : Program} {w : World} {s : Shared} {mg mb : Str → Option Value} {tbs : List Tb} {f : Addr} {a : Addr} {vs : List Value} {xs : List Int} {cw : ClaimW} {cl : Str → Option Addr} {mean : ExcName → Option Value} {args : List WData}
    (hT : TabsAt (cps tbs) s.heap) (hF : ∀ vs', AOk callerA 400 → IO (mkW prog w s.heap mg mb tbs) [] s.heap → RepL s.heap [] [.lsw (xs.map .int)] vs' → Yl (mkW prog w s.heap mg mb tbs) callerA [] (call (.ref f) vs') (.bool true) s) (hL : s.heap.IsList a vs.toArray) (hI : IntsAre vs xs) (hg : s.gens = #[])
    (hn : ∀ cls, cw.raises args cls = false) (hp : cw.post args (.bool true) args = true) :
    wpAny (model prog w) callerA (call (.ref f) [.ref a]) (fun v s' => GoodWG cw cl mean args s (.ok (.ret v)) s') (fun e s' => GoodWG cw cl mean args s (.error e) s') s := by
  have hA : AOk callerA 400 := ⟨rfl, by show 1 + claimMargin + 400 < 900; unfold claimMargin; omega, by show 4 + 3 * 400 < 9000; omega⟩
  have hr : RepL s.heap [] [.lsw (xs.map .int)] [.ref a] := by
    simp only [RepL, Rep]
    exact ⟨_, _, rfl, ⟨a, vs.toArray, rfl, List.not_mem_nil, hL, repL_ints hI⟩, rfl⟩
  refine wpAny_mono (hF [.ref a] hA ⟨mkW_inv hT, .nil⟩ hr) (fun v s' x => ?_) fun _ _ x => x.elim
  obtain ⟨x, r⟩ := x
  simp only [Rep] at r
  subst r
  obtain ⟨h', tk, hs'⟩ := x.same
  refine ⟨.inl ⟨.bool true, .bool true, [], rfl, hn, .bool true, hp, fun _ => ⟨.nil, fun a ha => nomatch ha⟩⟩, ⟨fun b o e => ?_, fun b o e => ?_⟩, by rw [hs'], .of_eq (by rw [hs']; exact hg)⟩
  · by_cases hb : b ∈ (mkW prog w s.heap mg mb tbs).Ps
    · obtain ⟨t, ht, rfl⟩ := List.mem_map.mp hb
      have hq := hT (t.c, t.P) (List.mem_map_of_mem ht)
      have e2 := hq.2
      have e3 : some o = some (tabObj #[]) := by rw [← e]; exact e2
      cases e3
      obtain ⟨ps, e4, _⟩ := x.inv.tab t ht
      exact .inr (.inl ⟨(hq.1.tab hq.2).isCodeTable, rfl, #[], ps, rfl, by rw [Array.empty_append]; exact e4⟩)
    · exact .inl (x.inv.base b o (ghost_ne e (by rw [cps_P]; exact hb)))
  · by_cases hb : b ∈ (mkW prog w s.heap mg mb tbs).Ps
    · obtain ⟨t, ht, rfl⟩ := List.mem_map.mp hb
      obtain ⟨ps, e4, _⟩ := x.inv.tab t ht
      exact ⟨_, e4⟩
    · exact ⟨_, x.inv.base b o (ghost_ne e (by rw [cps_P]; exact hb))⟩
end Mine
end

section
-- M3
open PySem PySem.W PySem.Calls PyProof.Rows
set_option maxRecDepth 100000

namespace Mine
open Builtin.Int (intBits)

/-- The school's division: the digits of the quotient (the highest first) and the rest. -/
def sb (n : Nat) (b : Int) : Int → List Int → List Int × Int
  | r, [] => ([], r)
  | r, d :: ds => ((r * 2 ^ n + d) / b :: (sb n b ((r * 2 ^ n + d) % b) ds).1, (sb n b ((r * 2 ^ n + d) % b) ds).2)
theorem sb_length (n : Nat) (b : Int) : ∀ (ds : List Int) (r : Int), (sb n b r ds).1.length = ds.length
  | [], _ => rfl
  | d :: ds, r => by simp [sb, sb_length n b ds]
theorem sb_rest {n : Nat} {b : Int} (hb : 0 < b) : ∀ (ds : List Int) (r : Int), 0 ≤ r → r < b → 0 ≤ (sb n b r ds).2 ∧ (sb n b r ds).2 < b
  | [], r, h0, h1 => ⟨h0, h1⟩
  | d :: ds, r, h0, h1 => by
    simp only [sb]
    exact sb_rest hb ds _ (Int.emod_nonneg _ (by omega)) (Int.emod_lt_of_pos _ hb)
theorem sb_eq {n : Nat} {b : Int} (hb : 0 < b) : ∀ (ds : List Int) (r : Int), r * 2 ^ (n * ds.length) + packI n ds.reverse = packI n (sb n b r ds).1.reverse * b + (sb n b r ds).2
  | [], r => by simp [sb, packI]
  | d :: ds, r => by
    have ih := sb_eq (n := n) hb ds ((r * 2 ^ n + d) % b)
    have h1 := Int.emod_add_mul_ediv (r * 2 ^ n + d) b
    simp only [sb, List.reverse_cons, packI_append, packI_single, List.length_cons, List.length_reverse, sb_length]
    have e : (2 : Int) ^ (n * (ds.length + 1)) = 2 ^ n * 2 ^ (n * ds.length) := by rw [← Int.pow_add]; congr 1; rw [Nat.mul_add]; omega
    rw [e]
    generalize (2 : Int) ^ (n * ds.length) = P at *
    generalize (2 : Int) ^ n = H at *
    generalize (r * H + d) / b = q at *
    generalize hr : (r * H + d) % b = r' at *
    grind
theorem sb_digits {n : Nat} {b : Int} (hb : 0 < b) : ∀ (ds : List Int) (r : Int), 0 ≤ r → r < b → (∀ d ∈ ds, 0 ≤ d ∧ d < 2 ^ n) → ∀ q ∈ (sb n b r ds).1, 0 ≤ q ∧ q < 2 ^ n
  | [], _, _, _, _, q, hq => nomatch hq
  | d :: ds, r, h0, h1, hd, q, hq => by
    have hn := two_pow_pos n
    have hd0 := hd d List.mem_cons_self
    have hm : 0 ≤ r * 2 ^ n := Int.mul_nonneg h0 (by omega)
    simp only [sb] at hq
    rcases List.mem_cons.mp hq with rfl | hq
    · refine ⟨Int.ediv_nonneg (by omega) (by omega), Int.ediv_lt_of_lt_mul hb ?_⟩
      have h2 : r * 2 ^ n ≤ (b - 1) * 2 ^ n := Int.mul_le_mul_of_nonneg_right (by omega) (by omega)
      rw [Int.sub_mul, Int.one_mul] at h2
      rw [Int.mul_comm (2 ^ n) b]
      omega
    · exact sb_digits hb ds _ (Int.emod_nonneg _ (by omega)) (Int.emod_lt_of_pos _ hb) (fun d' h' => hd d' (List.mem_cons_of_mem _ h')) q hq
/-- What `_divmod_pos` reckons. -/
theorem sb_spec {n m : Nat} {a b : Int} (hb : 0 < b) (ha : 0 ≤ a) (hm : a < 2 ^ (n * m)) : packI n (sb n b 0 (digitsI n m a).reverse).1.reverse = a / b ∧ (sb n b 0 (digitsI n m a).reverse).2 = a % b := by
  have h1 := sb_eq (n := n) hb (digitsI n m a).reverse 0
  have h2 := sb_rest (n := n) hb (digitsI n m a).reverse 0 (by omega) hb
  rw [Int.zero_mul, Int.zero_add, List.reverse_reverse, packI_digitsI, Int.emod_eq_of_lt ha hm] at h1
  exact quot_unique h1 h2.1 h2.2

theorem bitNot_eq' (x : Int) : Builtin.bitNot x = -x - 1 := rfl
theorem floor_neg {a b : Int} (hb : 0 < b) : Builtin.bitNot (Builtin.bitNot a / b) = a / b ∧ b + Builtin.bitNot (Builtin.bitNot a % b) = a % b := by
  simp only [bitNot_eq']
  have e := Int.emod_add_mul_ediv (-a - 1) b
  have h0 := Int.emod_nonneg (-a - 1) (show b ≠ 0 by omega)
  have h1 := Int.emod_lt_of_pos (-a - 1) hb
  refine quot_unique (a := a) (b := b) (q := -((-a - 1) / b) - 1) (r := b + (-((-a - 1) % b) - 1)) ?_ (by omega) (by omega)
  rw [Int.sub_mul, Int.neg_mul, Int.one_mul, Int.mul_comm _ b]
  omega
theorem fdiv_flip {a b : Int} (hb : b < 0) : (-a) / (-b) = a.fdiv b ∧ -((-a) % (-b)) = a.fmod b := by
  have h1 : (-a).fdiv (-b) = a.fdiv b := by
    rcases Int.neg_fdiv_neg a b with h
    exact h
  have h2 := Int.mul_fdiv_add_fmod a b
  have e := Int.emod_add_mul_ediv (-a) (-b)
  rw [fdiv_pos _ (by omega)] at h1
  refine ⟨h1, ?_⟩
  rw [h1] at e
  have : -b * a.fdiv b = -(b * a.fdiv b) := by rw [Int.neg_mul]
  omega
theorem intBits_neg (b : Int) : intBits (-b) = intBits b := by
  unfold Builtin.Int.intBits
  by_cases h : b = 0
  · subst h; rfl
  · have h1 : (-b == 0) = false := by simpa using h
    have h2 : (b == 0) = false := by simpa using h
    rw [h1, h2, Int.natAbs_neg]
theorem intBits_not_le {a : Int} (ha : a < 0) : intBits (Builtin.bitNot a) ≤ intBits a := by
  rw [bitNot_eq']
  exact intBits_le_of_natAbs (y := a) (by omega) (Nat.le_refl _)
theorem nDig_mono {a a' : Int} (n : Nat) (h : intBits a' ≤ intBits a) : nDig a' n ≤ nDig a n := by
  unfold nDig
  exact Nat.div_le_div_right (by omega)
end Mine
end

section
-- M16
open PySem PySem.W PySem.Calls PyProof.Rows
set_option maxRecDepth 100000
namespace Mine
open Builtin.Int (intBits)
theorem intBits_sub {k : Nat} {b : Int} (hk : 1 ≤ k) (h1 : 1 ≤ b) (h : b ≤ 2 ^ (k - 1)) : intBits (2 ^ k - b) = k := by
  have e : (2 : Int) ^ k = 2 * 2 ^ (k - 1) := by rw [show k = (k - 1) + 1 by omega, Int.pow_succ, Int.mul_comm]; simp
  exact intBits_pos hk (by omega) (by omega)
theorem nDig_bits {a : Int} {n k : Nat} (hn : 1 ≤ n) (h : intBits a ≤ n * k) : nDig a n ≤ k := by
  unfold nDig
  rw [Nat.div_le_iff_le_mul_add_pred (by omega)]
  omega
theorem intBits_turn {t a : Int} (ht : t = 1 ∨ t = -1) : intBits (t * a) = intBits a := by
  rcases ht with rfl | rfl
  · rw [Int.one_mul]
  · rw [Int.neg_one_mul, intBits_neg]
theorem turn_fdiv {t a b : Int} (ht : t = 1 ∨ t = -1) (hb : 0 < b) : (t * a).fdiv (t * b) = a / b ∧ t * (t * a).fmod (t * b) = a % b := by
  rcases ht with rfl | rfl
  · rw [Int.one_mul, Int.one_mul, Int.one_mul, fdiv_pos _ hb, fmod_pos _ hb]; exact ⟨rfl, rfl⟩
  · rw [Int.neg_one_mul, Int.neg_one_mul, Int.neg_one_mul]
    have := fdiv_flip (a := -a) (b := -b) (by omega)
    rw [Int.neg_neg, Int.neg_neg] at this
    exact ⟨this.1.symm, by rw [← this.2, Int.neg_neg]⟩
theorem turn_ne {t b : Int} (ht : t = 1 ∨ t = -1) (hb : 0 < b) : t * b ≠ 0 := by
  rcases ht with rfl | rfl <;> omega
end Mine
end

section
-- M17
open PySem PySem.W PySem.Calls PyProof.Rows
set_option maxRecDepth 100000
namespace Mine
open Builtin.Int (intBits)
/-- The number of a mode: its rights, and its kind moved up by twelve bits. -/
def kindNo (m : Int) : Int := ((List.range 7).map fun (k : Nat) => ((k : Int) + 1) * (if (kinds m).getD k false then 1 else 0)).sum
def numOf (m : Int) : Int := Builtin.bitAnd m 4095 + 4096 * kindNo m
def kindIx (t : Int) : Int := if t = 4096 then 1 else if t = 8192 then 2 else if t = 16384 then 3 else if t = 24576 then 4 else if t = 32768 then 5 else if t = 40960 then 6 else if t = 49152 then 7 else 0
theorem kindNo_eq (m : Int) : kindNo m = kindIx (Builtin.bitAnd m 61440) := by
  have g : kindNo m = 1 * (if (Builtin.bitAnd m 61440 == 4096) = true then (1 : Int) else 0) + (2 * (if (Builtin.bitAnd m 61440 == 8192) = true then (1 : Int) else 0) + (3 * (if (Builtin.bitAnd m 61440 == 16384) = true then (1 : Int) else 0) + (4 * (if (Builtin.bitAnd m 61440 == 24576) = true then (1 : Int) else 0) + (5 * (if (Builtin.bitAnd m 61440 == 32768) = true then (1 : Int) else 0) + (6 * (if (Builtin.bitAnd m 61440 == 40960) = true then (1 : Int) else 0) + (7 * (if (Builtin.bitAnd m 61440 == 49152) = true then (1 : Int) else 0) + 0)))))) := rfl
  rw [g]
  generalize Builtin.bitAnd m 61440 = t
  unfold kindIx
  simp only [beq_iff_eq]
  by_cases h1 : t = 4096
  · subst h1; decide
  by_cases h2 : t = 8192
  · subst h2; decide
  by_cases h3 : t = 16384
  · subst h3; decide
  by_cases h4 : t = 24576
  · subst h4; decide
  by_cases h5 : t = 32768
  · subst h5; decide
  by_cases h6 : t = 40960
  · subst h6; decide
  by_cases h7 : t = 49152
  · subst h7; decide
  simp only [if_neg h1, if_neg h2, if_neg h3, if_neg h4, if_neg h5, if_neg h6, if_neg h7]
  decide
theorem kindIx_range (t : Int) : 0 ≤ kindIx t ∧ kindIx t ≤ 7 := by
  unfold kindIx
  repeat' split
  all_goals omega
theorem perm_range (m : Int) : 0 ≤ Builtin.bitAnd m 4095 ∧ Builtin.bitAnd m 4095 < 4096 := by
  have h := kbt_mask m 12
  have e : (2 : Int) ^ 12 - 1 = 4095 := by decide
  rw [e] at h
  rw [h]
  exact ⟨Int.emod_nonneg _ (by decide), Int.emod_lt_of_pos _ (by decide)⟩
theorem numOf_range (m : Int) : 0 ≤ numOf m ∧ numOf m < 2 ^ 15 := by
  have h1 := perm_range m
  have h2 := kindIx_range (Builtin.bitAnd m 61440)
  unfold numOf
  rw [kindNo_eq]
  omega
theorem numOf_parts (m : Int) : numOf m / 4096 = kindIx (Builtin.bitAnd m 61440) ∧ numOf m % 4096 = Builtin.bitAnd m 4095 := by
  have h1 := perm_range m
  unfold numOf
  rw [kindNo_eq]
  omega
/-- The kinds, by their numbers. -/
def kindBase : List Int := [0, 1, 2, 4, 6, 8, 10, 12]
def modeOf (v : Int) : Int := kindBase.getD (v / 4096).toNat 0 * 4096 + v % 4096
theorem kindIx_back (t : Int) : kindIx (kindBase.getD (kindIx t).toNat 0 * 4096) = kindIx t := by
  have h := kindIx_range t
  rcases (by omega : kindIx t = 0 ∨ kindIx t = 1 ∨ kindIx t = 2 ∨ kindIx t = 3 ∨ kindIx t = 4 ∨ kindIx t = 5 ∨ kindIx t = 6 ∨ kindIx t = 7) with h | h | h | h | h | h | h | h <;> rw [h] <;> decide
theorem and_high {k p : Int} (hk : 0 ≤ k) (hp : 0 ≤ p) (hp' : p < 4096) (hk' : k < 16) : Builtin.bitAnd (k * 4096 + p) 61440 = k * 4096 ∧ Builtin.bitAnd (k * 4096 + p) 4095 = p := by
  constructor
  · have h := and_shift 12 (k * 4096 + p) 15
    have e : (2 : Int) ^ 12 * 15 = 61440 := by decide
    rw [e, show (k * 4096 + p) / 2 ^ 12 = k by omega] at h
    rw [h, bitAnd_m4]
    omega
  · have h := kbt_mask (k * 4096 + p) 12
    have e : (2 : Int) ^ 12 - 1 = 4095 := by decide
    rw [e] at h
    rw [h]; omega
theorem numOf_modeOf (m : Int) : numOf (modeOf (numOf m)) = numOf m := by
  obtain ⟨e1, e2⟩ := numOf_parts m
  have hp := perm_range m
  have hk := kindIx_range (Builtin.bitAnd m 61440)
  have hb : 0 ≤ kindBase.getD (kindIx (Builtin.bitAnd m 61440)).toNat 0 ∧ kindBase.getD (kindIx (Builtin.bitAnd m 61440)).toNat 0 < 16 := by
    rcases (by omega : kindIx (Builtin.bitAnd m 61440) = 0 ∨ kindIx (Builtin.bitAnd m 61440) = 1 ∨ kindIx (Builtin.bitAnd m 61440) = 2 ∨ kindIx (Builtin.bitAnd m 61440) = 3 ∨ kindIx (Builtin.bitAnd m 61440) = 4 ∨ kindIx (Builtin.bitAnd m 61440) = 5 ∨ kindIx (Builtin.bitAnd m 61440) = 6 ∨ kindIx (Builtin.bitAnd m 61440) = 7) with h | h | h | h | h | h | h | h <;> rw [h] <;> decide
  unfold modeOf
  rw [e1, e2]
  obtain ⟨g1, g2⟩ := and_high hb.1 hp.1 hp.2 hb.2
  have b1 := kindIx_back (Builtin.bitAnd m 61440)
  generalize kindBase.getD (kindIx (Builtin.bitAnd m 61440)).toNat 0 * 4096 + Builtin.bitAnd m 4095 = v at g1 g2
  unfold numOf
  rw [kindNo_eq, kindNo_eq, g1, g2, b1]
theorem kc_getD (t : Int) : kc t = [("?" : PySem.Str), "p", "c", "d", "b", "-", "l", "s"].getD (kindIx t).toNat "?" := by
  unfold kc kindIx
  simp only [beq_iff_eq]
  by_cases h1 : t = 4096
  · subst h1; decide +kernel
  by_cases h2 : t = 8192
  · subst h2; decide +kernel
  by_cases h3 : t = 16384
  · subst h3; decide +kernel
  by_cases h4 : t = 24576
  · subst h4; decide +kernel
  by_cases h5 : t = 32768
  · subst h5; decide +kernel
  by_cases h6 : t = 40960
  · subst h6; decide +kernel
  by_cases h7 : t = 49152
  · subst h7; decide +kernel
  simp only [if_neg h1, if_neg h2, if_neg h3, if_neg h4, if_neg h5, if_neg h6, if_neg h7]
  decide +kernel
theorem kc_ix {a b : Int} (h : kindIx a = kindIx b) : kc a = kc b := by rw [kc_getD, kc_getD, h]
theorem bt_perm (m : Int) {j : Nat} (hj : j < 12) : bt m j = bt (Builtin.bitAnd m 4095) j := by
  have h := kbt_mask m 12
  have e : (2 : Int) ^ 12 - 1 = 4095 := by decide
  rw [e] at h
  rw [h, ← bt_mod hj]
/-- The number tells the row. -/
theorem fmode_num {a b : Int} (h : numOf a = numOf b) : fmode a = fmode b := by
  obtain ⟨a1, a2⟩ := numOf_parts a
  obtain ⟨b1, b2⟩ := numOf_parts b
  have hk : kindIx (Builtin.bitAnd a 61440) = kindIx (Builtin.bitAnd b 61440) := by rw [← a1, ← b1, h]
  have hp : Builtin.bitAnd a 4095 = Builtin.bitAnd b 4095 := by rw [← a2, ← b2, h]
  have hb : ∀ j, j < 12 → bt a j = bt b j := fun j hj => by rw [bt_perm a hj, bt_perm b hj, hp]
  apply str_ext
  rw [fmode_cps, fmode_cps]
  apply List.map_congr_left
  intro i hi
  have hi' := List.mem_range.mp hi
  rcases (by omega : i = 0 ∨ i = 1 ∨ i = 2 ∨ i = 3 ∨ i = 4 ∨ i = 5 ∨ i = 6 ∨ i = 7 ∨ i = 8 ∨ i = 9) with rfl | rfl | rfl | rfl | rfl | rfl | rfl | rfl | rfl | rfl
  · have e : ∀ m, fmC m 0 = ch (kc (Builtin.bitAnd m 61440)) := fun m => by rw [c_kind]; rfl
    rw [e, e, kc_ix hk]
  · rw [c_one a (i := 1) (lo := 8) (a := "r") (ml := 256) rfl (by decide), c_one b (i := 1) (lo := 8) (a := "r") (ml := 256) rfl (by decide), hb 8 (by decide)]
  · rw [c_one a (i := 2) (lo := 7) (a := "w") (ml := 128) rfl (by decide), c_one b (i := 2) (lo := 7) (a := "w") (ml := 128) rfl (by decide), hb 7 (by decide)]
  · rw [c3, c3, hb 6 (by decide), hb 11 (by decide)]
  · rw [c_one a (i := 4) (lo := 5) (a := "r") (ml := 32) rfl (by decide), c_one b (i := 4) (lo := 5) (a := "r") (ml := 32) rfl (by decide), hb 5 (by decide)]
  · rw [c_one a (i := 5) (lo := 4) (a := "w") (ml := 16) rfl (by decide), c_one b (i := 5) (lo := 4) (a := "w") (ml := 16) rfl (by decide), hb 4 (by decide)]
  · rw [c6, c6, hb 3 (by decide), hb 10 (by decide)]
  · rw [c_one a (i := 7) (lo := 2) (a := "r") (ml := 4) rfl (by decide), c_one b (i := 7) (lo := 2) (a := "r") (ml := 4) rfl (by decide), hb 2 (by decide)]
  · rw [c_one a (i := 8) (lo := 1) (a := "w") (ml := 2) rfl (by decide), c_one b (i := 8) (lo := 1) (a := "w") (ml := 2) rfl (by decide), hb 1 (by decide)]
  · rw [c9, c9, hb 0 (by decide), hb 9 (by decide)]
theorem fmode_modeOf (m : Int) : fmode (modeOf (numOf m)) = fmode m := fmode_num (numOf_modeOf m)
end Mine
end

section
-- M18
open PySem PySem.W PySem.Calls PyProof.Rows
set_option maxRecDepth 100000
namespace Mine
open Builtin.Int (intBits)
/-- Each `p`-th value from `i` on, with the weights 1, b, b * b and so on. -/
def sumB (b : Int) (v : Nat → Int) (p : Nat) : Nat → Nat → Int
  | 0, _ => 0
  | f + 1, i => v i + b * sumB b v p f (i + p)
def dueB (b : Int) (v : Nat → Int) (p i : Nat) : Int := sumB b v p 6 i
section
variable {b : Int} {v : Nat → Int} {p n K : Nat}
theorem sumB_more (hp : 1 ≤ p) (hv : ∀ i, n ≤ i → v i = 0) : ∀ f i, n ≤ f + i → sumB b v p (f + 1) i = sumB b v p f i
  | 0, i, h => by
    show v i + b * 0 = 0
    rw [hv i (by omega)]; simp
  | f + 1, i, h => by
    show v i + b * sumB b v p (f + 1) (i + p) = v i + b * sumB b v p f (i + p)
    rw [sumB_more hp hv f (i + p) (by omega)]
theorem dueB_step (hp : 1 ≤ p) (hn : n ≤ 6) (hv : ∀ i, n ≤ i → v i = 0) (i : Nat) : dueB b v p i = v i + b * dueB b v p (i + p) := by
  show v i + b * sumB b v p 5 (i + p) = v i + b * sumB b v p 6 (i + p)
  rw [sumB_more hp hv 5 (i + p) (by omega)]
theorem sumB_end (hv : ∀ i, n ≤ i → v i = 0) : ∀ f i, n ≤ i → sumB b v p f i = 0
  | 0, _, _ => rfl
  | f + 1, i, h => by
    show v i + b * sumB b v p f (i + p) = 0
    rw [hv i h, sumB_end hv f (i + p) (by omega)]; simp
theorem sumB_bound (hb : 0 ≤ b) (hb2 : b ≤ 2) (hp : 1 ≤ p) (hv : ∀ i, n ≤ i → v i = 0) (h0 : ∀ i, 0 ≤ v i ∧ v i ≤ 2 ^ K) : ∀ f i, 0 ≤ sumB b v p f i ∧ sumB b v p f i ≤ (2 ^ (n - i) - 1) * 2 ^ K
  | 0, i => by
    have := two_pow_pos (n - i)
    exact ⟨Int.le_refl _, Int.mul_nonneg (by omega) (Int.le_of_lt (two_pow_pos K))⟩
  | f + 1, i => by
    by_cases hi : n ≤ i
    · rw [sumB_end hv (f + 1) i hi]
      have := two_pow_pos (n - i)
      exact ⟨Int.le_refl _, Int.mul_nonneg (by omega) (Int.le_of_lt (two_pow_pos K))⟩
    · obtain ⟨a, c⟩ := sumB_bound hb hb2 hp hv h0 f (i + p)
      have hK := two_pow_pos K
      have e : (2 : Int) ^ (n - i) = 2 * 2 ^ (n - i - 1) := by rw [show n - i = (n - i - 1) + 1 by omega, Int.pow_succ, Int.mul_comm]; simp
      have m1 : (2 : Int) ^ (n - (i + p)) ≤ 2 ^ (n - i - 1) := two_pow_mono (by omega)
      have m2 : (2 ^ (n - (i + p)) - 1) * (2 : Int) ^ K ≤ (2 ^ (n - i - 1) - 1) * 2 ^ K := Int.mul_le_mul_of_nonneg_right (by omega) (by omega)
      have g1 : 0 ≤ b * sumB b v p f (i + p) := Int.mul_nonneg hb a
      have g2 : b * sumB b v p f (i + p) ≤ 2 * sumB b v p f (i + p) := Int.mul_le_mul_of_nonneg_right hb2 a
      have hv' := h0 i
      show 0 ≤ v i + b * sumB b v p f (i + p) ∧ v i + b * sumB b v p f (i + p) ≤ _
      rw [e, Int.sub_mul, Int.mul_assoc, Int.one_mul]
      rw [Int.sub_mul (2 ^ (n - i - 1)), Int.one_mul] at m2
      omega
theorem dueB_bound (hb : 0 ≤ b) (hb2 : b ≤ 2) (hp : 1 ≤ p) (hv : ∀ i, n ≤ i → v i = 0) (h0 : ∀ i, 0 ≤ v i ∧ v i ≤ 2 ^ K) (i : Nat) : 0 ≤ dueB b v p i ∧ dueB b v p i < 2 ^ (n + K) := by
  obtain ⟨a, c⟩ := sumB_bound hb hb2 hp hv h0 6 i
  refine ⟨a, Int.lt_of_le_of_lt c ?_⟩
  have m1 : (2 : Int) ^ (n - i) ≤ 2 ^ n := two_pow_mono (by omega)
  have hK := two_pow_pos K
  rw [Int.pow_add]
  have : (2 ^ (n - i) - 1) * (2 : Int) ^ K ≤ (2 ^ n - 1) * 2 ^ K := Int.mul_le_mul_of_nonneg_right (by omega) (by omega)
  rw [Int.sub_mul, Int.one_mul] at this
  rw [Int.sub_mul, Int.one_mul]
  rw [Int.sub_mul, Int.one_mul] at this
  omega
end
theorem sumB_sub (b : Int) (y x : Nat → Int) (p : Nat) : ∀ f i, sumB b y p f i - sumB b x p f i = sumB b (fun k => y k - x k) p f i
  | 0, _ => rfl
  | f + 1, i => by
    have := sumB_sub b y x p f (i + p)
    show (y i + b * sumB b y p f (i + p)) - (x i + b * sumB b x p f (i + p)) = (y i - x i) + b * sumB b (fun k => y k - x k) p f (i + p)
    rw [← this, Int.mul_sub]; omega
theorem sumB_one {b : Int} {d : Nat → Int} {p h t : Nat} (ht : t < 6) (hz : ∀ j, j < 6 → j ≠ t → d (h + p * j) = 0) : sumB b d p 6 h = b ^ t * d (h + p * t) := by
  have e : sumB b d p 6 h = d (h + p * 0) + b * (d (h + p * 1) + b * (d (h + p * 2) + b * (d (h + p * 3) + b * (d (h + p * 4) + b * (d (h + p * 5) + b * 0))))) := by
    show d h + b * (d (h + p) + b * (d (h + p + p) + b * (d (h + p + p + p) + b * (d (h + p + p + p + p) + b * (d (h + p + p + p + p + p) + b * 0))))) = _
    rw [show h + p + p + p + p + p = h + p * 5 by omega, show h + p + p + p + p = h + p * 4 by omega, show h + p + p + p = h + p * 3 by omega, show h + p + p = h + p * 2 by omega, Nat.mul_one, Nat.mul_zero, Nat.add_zero]
  rw [e]
  rcases (by omega : t = 0 ∨ t = 1 ∨ t = 2 ∨ t = 3 ∨ t = 4 ∨ t = 5) with rfl | rfl | rfl | rfl | rfl | rfl
  · rw [hz 1 (by decide) (by decide), hz 2 (by decide) (by decide), hz 3 (by decide) (by decide), hz 4 (by decide) (by decide), hz 5 (by decide) (by decide)]; simp
  · rw [hz 0 (by decide) (by decide), hz 2 (by decide) (by decide), hz 3 (by decide) (by decide), hz 4 (by decide) (by decide), hz 5 (by decide) (by decide)]; simp [Int.pow_succ, Int.mul_assoc]
  · rw [hz 0 (by decide) (by decide), hz 1 (by decide) (by decide), hz 3 (by decide) (by decide), hz 4 (by decide) (by decide), hz 5 (by decide) (by decide)]; simp [Int.pow_succ, Int.mul_assoc]
  · rw [hz 0 (by decide) (by decide), hz 1 (by decide) (by decide), hz 2 (by decide) (by decide), hz 4 (by decide) (by decide), hz 5 (by decide) (by decide)]; simp [Int.pow_succ, Int.mul_assoc]
  · rw [hz 0 (by decide) (by decide), hz 1 (by decide) (by decide), hz 2 (by decide) (by decide), hz 3 (by decide) (by decide), hz 5 (by decide) (by decide)]; simp [Int.pow_succ, Int.mul_assoc]
  · rw [hz 0 (by decide) (by decide), hz 1 (by decide) (by decide), hz 2 (by decide) (by decide), hz 3 (by decide) (by decide), hz 4 (by decide) (by decide)]; simp [Int.pow_succ, Int.mul_assoc]
theorem rest_bound2 {w p : Nat} (hp : 1 ≤ p) (hw : 1 ≤ w) {b : Int} (hb : b ≤ 2 ^ (w - 1)) {due : Nat → Int} (hd : ∀ i, 0 ≤ due i ∧ due i < 2 ^ (w - 1)) :
    0 ≤ packI w ((List.range p).map due) ∧ packI w ((List.range p).map due) < 2 ^ (w * p) - b := by
  obtain ⟨k, rfl⟩ : ∃ k, p = k + 1 := ⟨p - 1, by omega⟩
  have h := packI_tight w ((List.range k).map due) (fun x hx => by
    obtain ⟨i, _, rfl⟩ := List.mem_map.mp hx
    exact ⟨(hd i).1, Int.lt_of_lt_of_le (hd i).2 (two_pow_mono (by omega))⟩)
  rw [List.length_map, List.length_range] at h
  have hk := hd k
  rw [pack_shift w due k 1]
  have e : packI w ((List.range 1).map fun i => due (k + i)) = due k := by
    show due (k + 0) + 0 * 2 ^ w = due k
    simp
  rw [e]
  have hp := two_pow_pos (w * k)
  have g1 : 0 ≤ due k * 2 ^ (w * k) := Int.mul_nonneg hk.1 (by omega)
  have g2 : due k * 2 ^ (w * k) ≤ (2 ^ (w - 1) - 1) * 2 ^ (w * k) := Int.mul_le_mul_of_nonneg_right (by omega) (by omega)
  rw [Int.sub_mul, Int.one_mul, ← Int.pow_add] at g2
  have e2 : (2 : Int) ^ (w * (k + 1)) = 2 * 2 ^ (w - 1 + w * k) := by
    rw [Nat.mul_succ, show w * k + w = (w - 1 + w * k) + 1 by omega, Int.pow_succ, Int.mul_comm]
  have e3 : (2 : Int) ^ (w - 1) ≤ 2 ^ (w - 1 + w * k) := two_pow_mono (by omega)
  rw [e2]
  omega
/-- The rest of a packed list tells the piles' sums. -/
theorem rest_due {w p n K : Nat} {b : Int} {vals : List Int} (hb : 1 ≤ b) (hb2 : b ≤ 2) (hp : 1 ≤ p) (hn : vals.length = n) (hn6 : n ≤ 6) (hw : w = n + K + 1) (hw2 : 2 ≤ w) (h0 : ∀ x ∈ vals, 0 ≤ x ∧ x ≤ 2 ^ K) :
    packI w vals % (2 ^ (w * p) - b) = packI w ((List.range p).map (dueB b (fun i => vals.getD i 0) p)) ∧
    padTo (digitsI w (nDig (packI w vals % (2 ^ (w * p) - b)) w) (packI w vals % (2 ^ (w * p) - b))) p = (List.range p).map (dueB b (fun i => vals.getD i 0) p) := by
  obtain ⟨v, hv⟩ : ∃ v : Nat → Int, v = fun i => vals.getD i 0 := ⟨_, rfl⟩
  rw [← hv]
  have hv0 : ∀ i, n ≤ i → v i = 0 := fun i hi => by rw [hv]; simp [List.getD_eq_getElem?_getD, List.getElem?_eq_none (show vals.length ≤ i by omega)]
  have hvb : ∀ i, 0 ≤ v i ∧ v i ≤ 2 ^ K := fun i => by
    by_cases hi : i < n
    · rw [hv]
      have hm := List.getElem_mem (l := vals) (n := i) (by omega)
      have e : vals.getD i 0 = vals[i] := by rw [List.getD_eq_getElem?_getD, List.getElem?_eq_getElem (by omega)]; rfl
      show 0 ≤ vals.getD i 0 ∧ vals.getD i 0 ≤ 2 ^ K
      rw [e]; exact h0 _ hm
    · rw [hv0 i (by omega)]
      have := two_pow_pos K
      omega
  have hd : ∀ i, 0 ≤ dueB b v p i ∧ dueB b v p i < 2 ^ (w - 1) := fun i => by
    rw [hw, show n + K + 1 - 1 = n + K by omega]
    exact dueB_bound (by omega) hb2 hp hv0 hvb i
  have hdiv := division (w := w) (p := p) (n := n) (b := b) (due := dueB b v p) (val := v) (fun i _ => by have := dueB_step (b := b) hp hn6 hv0 i; omega) (fun i hi => sumB_end hv0 6 i hi)
  have hvals : (List.range n).map v = vals := by
    rw [hv, ← hn]
    exact (map_range_getD vals 0 id).trans (List.map_id _)
  rw [hvals] at hdiv
  have hb1 : b ≤ 2 ^ (w - 1) := by
    have : (2 : Int) ^ 1 ≤ 2 ^ (w - 1) := two_pow_mono (by omega)
    omega
  have hR := rest_bound2 (w := w) hp (by omega) hb1 hd
  obtain ⟨_, q2⟩ := quot_unique hdiv hR.1 hR.2
  have hd2 : ∀ x ∈ (List.range p).map (dueB b v p), 0 ≤ x ∧ x < 2 ^ w := fun x hx => by
    obtain ⟨i, _, rfl⟩ := List.mem_map.mp hx
    exact ⟨(hd i).1, Int.lt_of_lt_of_le (hd i).2 (two_pow_mono (by omega))⟩
  have hR2 := packI_tight w _ hd2
  have hR3 := digitsI_packI w _ hd2
  rw [List.length_map, List.length_range] at hR2 hR3
  refine ⟨q2.symm, ?_⟩
  rw [← q2, pad_digits (by omega) hR2.1 hR2.2, hR3]
end Mine
end

section
-- M19
open PySem PySem.W PySem.Calls PyProof.Rows
set_option maxRecDepth 100000
namespace Mine
def marks12 : List PySem.Str := ["xt", "w", "r", "xs", "w", "r", "xs", "w", "r", "tT", "sS", "sS"]
def places12 : List Int := [9, 8, 7, 6, 5, 4, 3, 2, 1, 9, 6, 3]
theorem gather_filter (ok : Nat → Bool) (res : Nat → Dt) : ∀ n, gather ok res n = ((List.range n).filter ok).map res
  | 0 => rfl
  | n + 1 => by
    rw [List.range_succ, List.filter_append, List.map_append, ← gather_filter ok res n]
    show gather ok res n ++ (if ok n then [res n] else []) = _
    by_cases h : ok n = true
    · simp [h]
    · simp [h]
theorem sum_filter (ok : Nat → Bool) (g : Nat → Int) : ∀ l : List Nat, ((l.filter ok).map g).sum = (l.map fun j => if ok j = true then g j else 0).sum
  | [] => rfl
  | a :: l => by
    by_cases h : ok a = true
    · simp [h, sum_filter ok g l]
    · simp [h, sum_filter ok g l]
theorem marks12_at (m : Int) : ∀ j, j < 12 → hasMark (fmode m) (places12.getD j 0, marks12.getD j "") = (bt m j == 1) := by
  intro j hj
  have e : (places12.getD j 0, marks12.getD j "") = marks.getD j (0, "") := by
    have : ∀ j, j < 12 → (places12.getD j 0, marks12.getD j "") = marks.getD j (0, "") := by decide +kernel
    exact this j hj
  rw [e]
  have h := bt_digit m (j := j) (by omega)
  have h2 : bt (digit m) j = bt m j := by
    have e1 : digit m = Builtin.bitAnd m 4095 + 2 ^ 12 * ((List.range 7).map fun k => (if (kinds m).getD k false = true then (1 : Int) else 0) * 2 ^ k).sum := by
      unfold digit
      congr 1
      show (if (kinds m).getD 0 false = true then (1 : Int) else 0) * 4096 + ((if (kinds m).getD 1 false = true then (1 : Int) else 0) * 8192 + ((if (kinds m).getD 2 false = true then (1 : Int) else 0) * 16384 + ((if (kinds m).getD 3 false = true then (1 : Int) else 0) * 32768 + ((if (kinds m).getD 4 false = true then (1 : Int) else 0) * 65536 + ((if (kinds m).getD 5 false = true then (1 : Int) else 0) * 131072 + ((if (kinds m).getD 6 false = true then (1 : Int) else 0) * 262144 + 0)))))) = 2 ^ 12 * ((if (kinds m).getD 0 false = true then (1 : Int) else 0) * 1 + ((if (kinds m).getD 1 false = true then (1 : Int) else 0) * 2 + ((if (kinds m).getD 2 false = true then (1 : Int) else 0) * 4 + ((if (kinds m).getD 3 false = true then (1 : Int) else 0) * 8 + ((if (kinds m).getD 4 false = true then (1 : Int) else 0) * 16 + ((if (kinds m).getD 5 false = true then (1 : Int) else 0) * 32 + ((if (kinds m).getD 6 false = true then (1 : Int) else 0) * 64 + 0)))))))
      omega
    rw [bt_mod hj (digit m), e1, Int.add_mul_emod_self_left, ← bt_mod hj, ← bt_perm m hj]
  rw [h2] at h
  rw [h]
  cases hasMark (fmode m) (marks.getD j (0, "")) <;> rfl
theorem marks_sum (m : Int) : (((List.range 12).filter fun j => hasMark (fmode m) (places12.getD j 0, marks12.getD j "")).map fun j => (2 : Int) ^ j).sum = Builtin.bitAnd m 4095 := by
  rw [sum_filter, perm_sum]
  have e : (List.range 12).map (fun j => if hasMark (fmode m) (places12.getD j 0, marks12.getD j "") = true then (2 : Int) ^ j else 0) = (List.range 12).map fun j => bt m j * 2 ^ j := by
    apply List.map_congr_left
    intro j hj
    rw [marks12_at m j (List.mem_range.mp hj)]
    rcases bt_01 j m with h | h <;> rw [h] <;> simp
  rw [e]
  show bt m 0 * 1 + (bt m 1 * 2 + (bt m 2 * 4 + (bt m 3 * 8 + (bt m 4 * 16 + (bt m 5 * 32 + (bt m 6 * 64 + (bt m 7 * 128 + (bt m 8 * 256 + (bt m 9 * 512 + (bt m 10 * 1024 + (bt m 11 * 2048 + 0))))))))))) = _
  omega
theorem kind_find (m : Int) : ∃ rest, Builtin.Str.occurrences "?pcdb-ls" (Txt.item (fmode m) 0) 0 ("?pcdb-ls" : PySem.Str).length 1 = (kindNo m).toNat :: rest := by
  have h0 : Txt.item (fmode m) 0 = ⟨#[fmC m 0]⟩ := item_fmode m (i := 0) (by decide)
  rw [h0, c_kind, kindNo_eq]
  show ∃ rest, Builtin.Str.occurrences "?pcdb-ls" ⟨#[ch (kc (Builtin.bitAnd m 61440))]⟩ 0 ("?pcdb-ls" : PySem.Str).length 1 = (kindIx (Builtin.bitAnd m 61440)).toNat :: rest
  generalize Builtin.bitAnd m 61440 = t
  have key : ∀ k, k < 8 → Builtin.Str.occurrences "?pcdb-ls" ⟨#[ch ([("?" : PySem.Str), "p", "c", "d", "b", "-", "l", "s"].getD k "?")]⟩ 0 ("?pcdb-ls" : PySem.Str).length 1 = [k] := by decide +kernel
  refine ⟨[], ?_⟩
  have hk := kindIx_range t
  rw [kc_getD t]
  exact key _ (by omega)
theorem evs_s {W : Wd} {A : Around} {env : Env} {D : List (PySem.Str × Dt)} {x : PySem.Str} {k : Nat} {p : Pos} {es : List PySem.Expr} {ds : List Dt} (h : Evs W A env D es ds) : Evs W A env D (.Constant (.str x) k p :: es) (.str x :: ds) := evs_cons ev_str h rfl
theorem evs_i {W : Wd} {A : Around} {env : Env} {D : List (PySem.Str × Dt)} {x : Int} {k : Nat} {p : Pos} {es : List PySem.Expr} {ds : List Dt} (h : Evs W A env D es ds) : Evs W A env D (.Constant (.int x) k p :: es) (.int x :: ds) := evs_cons ev_int h rfl
end Mine
end

section
-- M20
open PySem PySem.W PySem.Calls PyProof.Rows
set_option maxRecDepth 100000
namespace Mine
theorem fmode_inj {a b : Int} (h : fmode a = fmode b) : numOf a = numOf b := by
  have ha := marks_sum a
  have hb := marks_sum b
  rw [h] at ha
  obtain ⟨r, hr⟩ := kind_find a
  obtain ⟨r', hr'⟩ := kind_find b
  rw [h, hr'] at hr
  have e := (List.cons.inj hr).1
  have ka : 0 ≤ kindNo a := by rw [kindNo_eq]; exact (kindIx_range _).1
  have kb : 0 ≤ kindNo b := by rw [kindNo_eq]; exact (kindIx_range _).1
  unfold numOf
  rw [← ha, ← hb]
  omega
theorem fmode_iff (a b : Int) : fmode a = fmode b ↔ numOf a = numOf b := ⟨fmode_inj, fmode_num⟩

/-- How many places the pile `h` has. -/
def cnt (n p h : Nat) : Nat := (n - h - 1) / p + 1
/-- The smudged place of the pile `h`. -/
def tOf (n p : Nat) (wrong : List Int) (h : Nat) : Nat := ((wrong.getD h 0) % (cnt n p h : Int)).toNat
def spotOf (n p : Nat) (wrong : List Int) (h : Nat) : Nat := h + p * tOf n p wrong h
/-- The modes as smudged. -/
def mods (modes wrong : List Int) (p : Nat) : List Int := (List.range modes.length).map fun k => if spotOf modes.length p wrong (k % p) = k then wrong.getD (k % p) 0 else modes.getD k 0

section
variable {n p h : Nat} {modes wrong : List Int}
theorem cnt_range (hp : 1 ≤ p) (hh : h < p) (hpn : p ≤ n) : Builtin.Range.rangeSize h n p = cnt n p h := by
  unfold Builtin.Range.rangeSize cnt
  rw [if_pos (by omega), if_pos (by omega)]
  push_cast
  rw [show ((n : Int) - h - 1) = ((n - h - 1 : Nat) : Int) by omega]
theorem t_lt (n p : Nat) (wrong : List Int) (h : Nat) : tOf n p wrong h < cnt n p h := by
  have hc : 0 < cnt n p h := Nat.succ_pos _
  have h1 := Int.emod_nonneg (wrong.getD h 0) (show ((cnt n p h : Nat) : Int) ≠ 0 by omega)
  have h2 := Int.emod_lt_of_pos (wrong.getD h 0) (show (0 : Int) < ((cnt n p h : Nat) : Int) by omega)
  unfold tOf
  omega
theorem spot_lt (hp : 1 ≤ p) (hh : h < p) (hpn : p ≤ n) : spotOf n p wrong h < n := by
  have h1 := t_lt n p wrong h
  unfold cnt at h1
  have h2 : tOf n p wrong h ≤ (n - h - 1) / p := by omega
  have h3 : p * tOf n p wrong h ≤ n - h - 1 := Nat.le_trans (Nat.mul_le_mul_left _ h2) (Nat.mul_div_le _ _)
  unfold spotOf
  omega
theorem spot_mod (hh : h < p) : spotOf n p wrong h % p = h := by
  unfold spotOf
  rw [Nat.add_mul_mod_self_left, Nat.mod_eq_of_lt hh]
theorem spot_div (hh : h < p) : spotOf n p wrong h / p = tOf n p wrong h := by
  unfold spotOf
  rw [Nat.add_mul_div_left _ _ (by omega), Nat.div_eq_of_lt hh, Nat.zero_add]
theorem t_lt6 (hp : 1 ≤ p) (hh : h < p) (hpn : p ≤ n) (hn : n ≤ 6) : tOf n p wrong h < 6 := by
  have h1 := spot_lt (wrong := wrong) hp hh hpn
  unfold spotOf at h1
  have : tOf n p wrong h ≤ p * tOf n p wrong h := Nat.le_mul_of_pos_left _ hp
  omega
theorem mods_len : (mods modes wrong p).length = modes.length := by unfold mods; rw [List.length_map, List.length_range]
theorem mods_at {k : Nat} (hk : k < modes.length) : (mods modes wrong p).getD k 0 = if spotOf modes.length p wrong (k % p) = k then wrong.getD (k % p) 0 else modes.getD k 0 := by
  unfold mods
  rw [List.getD_eq_getElem?_getD, List.getElem?_map, List.getElem?_range hk]
  rfl
theorem mods_spot (hp : 1 ≤ p) (hh : h < p) (hpn : p ≤ modes.length) : (mods modes wrong p).getD (spotOf modes.length p wrong h) 0 = wrong.getD h 0 := by
  rw [mods_at (spot_lt hp hh hpn), spot_mod hh, if_pos rfl]

/-- The lifted numbers. -/
def lif (modes : List Int) (lift : Nat) (i : Nat) : Int := ((modes.map numOf).map (· * 2 ^ lift)).getD i 0
theorem lif_at {i lift : Nat} (hi : i < modes.length) : lif modes lift i = numOf (modes.getD i 0) * 2 ^ lift := by
  unfold lif
  rw [List.getD_eq_getElem?_getD, List.getElem?_map, List.getElem?_map, List.getD_eq_getElem?_getD, List.getElem?_eq_getElem hi]
  rfl
theorem lif_out {i lift : Nat} (hi : modes.length ≤ i) : lif modes lift i = 0 := by
  unfold lif
  rw [List.getD_eq_getElem?_getD, List.getElem?_eq_none (by simpa using hi)]
  rfl
/-- How far the pile `h` is off. -/
def offOf (modes wrong : List Int) (p h : Nat) : Int := numOf (wrong.getD h 0) - numOf (modes.getD (spotOf modes.length p wrong h) 0)

theorem due_diff {b : Int} {lift : Nat} (hp : 1 ≤ p) (hh : h < p) (hpn : p ≤ modes.length) (hn : modes.length ≤ 6) :
    dueB b (lif (mods modes wrong p) lift) p h - dueB b (lif modes lift) p h = b ^ tOf modes.length p wrong h * (offOf modes wrong p h * 2 ^ lift) := by
  unfold dueB
  rw [sumB_sub, sumB_one (t := tOf modes.length p wrong h) (t_lt6 hp hh hpn hn)]
  · have hs := spot_lt (wrong := wrong) hp hh hpn
    have e : h + p * tOf modes.length p wrong h = spotOf modes.length p wrong h := rfl
    rw [e, lif_at (by rw [mods_len]; exact hs), lif_at hs, mods_spot hp hh hpn]
    unfold offOf
    rw [Int.sub_mul]
  · intro j hj hne
    by_cases hk : h + p * j < modes.length
    · rw [lif_at (by rw [mods_len]; exact hk), lif_at hk, mods_at hk]
      have hm : (h + p * j) % p = h := by rw [Nat.add_mul_mod_self_left, Nat.mod_eq_of_lt hh]
      rw [hm, if_neg, Int.sub_self]
      intro q
      unfold spotOf at q
      have : p * tOf modes.length p wrong h = p * j := by omega
      exact hne (Nat.eq_of_mul_eq_mul_left (by omega) this).symm
    · rw [lif_out (by rw [mods_len]; omega), lif_out (by omega), Int.sub_self]
/-- The spots. -/
def spots (modes wrong : List Int) (p : Nat) : List Nat := (List.range p).map (spotOf modes.length p wrong)
theorem spots_mem {k : Nat} (hp : 1 ≤ p) : k ∈ spots modes wrong p ↔ spotOf modes.length p wrong (k % p) = k := by
  unfold spots
  constructor
  · intro h
    obtain ⟨j, hj, rfl⟩ := List.mem_map.mp h
    rw [spot_mod (List.mem_range.mp hj)]
  · intro h
    exact List.mem_map.mpr ⟨k % p, List.mem_range.mpr (Nat.mod_lt _ hp), h⟩
end
end Mine
end

section
-- F5_02
open PySem PySem.W PySem.Calls PyProof.Rows
set_option maxRecDepth 100000

namespace Mine
open Builtin.Int (intBits)

local macro_rules | `(tactic| walk_at "m_nm") => `(tactic| first
  | exact ev_loc rfl rfl rfl
  | exact ev_cell rfl rfl rfl
  | exact ev_free rfl rfl rfl rfl)
local macro_rules | `(tactic| walk_at "m_pick") => `(tactic| (intro p hp; simp only [List.mem_cons, List.not_mem_nil, or_false] at hp; repeat' (first | (subst hp; rfl) | (rcases hp with hp | hp))))

/-- What the stat functions lean on. -/
structure Sv (W : Wd) : Prop where
  G : W.Ok
  imode : HasFn W PySem.Challenge.pw_op0122_02 1
  ifmt : HasFn W PySem.Challenge.pw_op0122_02 2
  isdir : HasFn W PySem.Challenge.pw_op0122_02 10
  ischr : HasFn W PySem.Challenge.pw_op0122_02 11
  isblk : HasFn W PySem.Challenge.pw_op0122_02 12
  isreg : HasFn W PySem.Challenge.pw_op0122_02 13
  isfifo : HasFn W PySem.Challenge.pw_op0122_02 14
  islnk : HasFn W PySem.Challenge.pw_op0122_02 15
  issock : HasFn W PySem.Challenge.pw_op0122_02 16
  filemode : HasFn W PySem.Challenge.pw_op0122_02 30
  dir : ∃ t, W.mg "S_IFDIR" = some (.int 16384 t)
  chr : ∃ t, W.mg "S_IFCHR" = some (.int 8192 t)
  blk : ∃ t, W.mg "S_IFBLK" = some (.int 24576 t)
  reg : ∃ t, W.mg "S_IFREG" = some (.int 32768 t)
  fifo : ∃ t, W.mg "S_IFIFO" = some (.int 4096 t)
  lnk : ∃ t, W.mg "S_IFLNK" = some (.int 40960 t)
  sock : ∃ t, W.mg "S_IFSOCK" = some (.int 49152 t)
  enumerate : W.mg "enumerate" = none
  table : ∃ v, W.mg "_filemode_table" = some v ∧ Rep W.g [] (.tup (fmTab.map fun r => .tup (pairs (r.map fun p => (.int p.1, .str p.2))))) v

theorem ifmt_ok {W : Wd} (H : Sv W) {m : Int} : FnC W PySem.Challenge.pw_op0122_02 2 1 [.int m] (.int (Builtin.bitAnd m 61440)) := by
  have G := H.G
  refine fn_def (xs := ["mode"]) G H.ifmt ?_ rfl (by decide +kernel) (by decide +kernel) (by decide +kernel) ?_ rfl rfl rfl
  · intro pm cd doc vs h
    match vs, h with
    | [a], _ => rfl
  · intro A B L f cd s hA S C
    unfold BodyOk
    exact x_return S (ev_bin (by walk_at "m_nm") ev_int op_and) fun v s' S' r' => ⟨v, rfl, S'.left, r'⟩
theorem imode_ok {W : Wd} (H : Sv W) {m : Int} : FnC W PySem.Challenge.pw_op0122_02 1 1 [.int m] (.int (Builtin.bitAnd m 4095)) := by
  have G := H.G
  refine fn_def (xs := ["mode"]) G H.imode ?_ rfl (by decide +kernel) (by decide +kernel) (by decide +kernel) ?_ rfl rfl rfl
  · intro pm cd doc vs h
    match vs, h with
    | [a], _ => rfl
  · intro A B L f cd s hA S C
    unfold BodyOk
    exact x_return S (ev_bin (by walk_at "m_nm") ev_int op_and) fun v s' S' r' => ⟨v, rfl, S'.left, r'⟩
theorem isdir_ok {W : Wd} (H : Sv W) {m : Int} : FnC W PySem.Challenge.pw_op0122_02 10 2 [.int m] (.bool (Builtin.bitAnd m 61440 == 16384)) := by
  have G := H.G
  obtain ⟨t, ht⟩ := H.dir
  refine fn_def (xs := ["mode"]) G H.isdir ?_ rfl (by decide +kernel) (by decide +kernel) (by decide +kernel) ?_ rfl rfl rfl
  · intro pm cd doc vs h
    match vs, h with
    | [a], _ => rfl
  · intro A B L f cd s hA S C
    unfold BodyOk
    exact x_return S (ev_cmp (ev_callN G (hA.le (by omega)) H.ifmt rfl rfl rfl (evs_cons (by walk_at "m_nm") evs_nil rfl) (ifmt_ok H) rfl) (ev_globI G rfl ht rfl) op_eq rfl) fun v s' S' r' => ⟨v, rfl, S'.left, r'⟩
theorem ischr_ok {W : Wd} (H : Sv W) {m : Int} : FnC W PySem.Challenge.pw_op0122_02 11 2 [.int m] (.bool (Builtin.bitAnd m 61440 == 8192)) := by
  have G := H.G
  obtain ⟨t, ht⟩ := H.chr
  refine fn_def (xs := ["mode"]) G H.ischr ?_ rfl (by decide +kernel) (by decide +kernel) (by decide +kernel) ?_ rfl rfl rfl
  · intro pm cd doc vs h
    match vs, h with
    | [a], _ => rfl
  · intro A B L f cd s hA S C
    unfold BodyOk
    exact x_return S (ev_cmp (ev_callN G (hA.le (by omega)) H.ifmt rfl rfl rfl (evs_cons (by walk_at "m_nm") evs_nil rfl) (ifmt_ok H) rfl) (ev_globI G rfl ht rfl) op_eq rfl) fun v s' S' r' => ⟨v, rfl, S'.left, r'⟩
theorem isblk_ok {W : Wd} (H : Sv W) {m : Int} : FnC W PySem.Challenge.pw_op0122_02 12 2 [.int m] (.bool (Builtin.bitAnd m 61440 == 24576)) := by
  have G := H.G
  obtain ⟨t, ht⟩ := H.blk
  refine fn_def (xs := ["mode"]) G H.isblk ?_ rfl (by decide +kernel) (by decide +kernel) (by decide +kernel) ?_ rfl rfl rfl
  · intro pm cd doc vs h
    match vs, h with
    | [a], _ => rfl
  · intro A B L f cd s hA S C
    unfold BodyOk
    exact x_return S (ev_cmp (ev_callN G (hA.le (by omega)) H.ifmt rfl rfl rfl (evs_cons (by walk_at "m_nm") evs_nil rfl) (ifmt_ok H) rfl) (ev_globI G rfl ht rfl) op_eq rfl) fun v s' S' r' => ⟨v, rfl, S'.left, r'⟩
theorem isreg_ok {W : Wd} (H : Sv W) {m : Int} : FnC W PySem.Challenge.pw_op0122_02 13 2 [.int m] (.bool (Builtin.bitAnd m 61440 == 32768)) := by
  have G := H.G
  obtain ⟨t, ht⟩ := H.reg
  refine fn_def (xs := ["mode"]) G H.isreg ?_ rfl (by decide +kernel) (by decide +kernel) (by decide +kernel) ?_ rfl rfl rfl
  · intro pm cd doc vs h
    match vs, h with
    | [a], _ => rfl
  · intro A B L f cd s hA S C
    unfold BodyOk
    exact x_return S (ev_cmp (ev_callN G (hA.le (by omega)) H.ifmt rfl rfl rfl (evs_cons (by walk_at "m_nm") evs_nil rfl) (ifmt_ok H) rfl) (ev_globI G rfl ht rfl) op_eq rfl) fun v s' S' r' => ⟨v, rfl, S'.left, r'⟩
theorem isfifo_ok {W : Wd} (H : Sv W) {m : Int} : FnC W PySem.Challenge.pw_op0122_02 14 2 [.int m] (.bool (Builtin.bitAnd m 61440 == 4096)) := by
  have G := H.G
  obtain ⟨t, ht⟩ := H.fifo
  refine fn_def (xs := ["mode"]) G H.isfifo ?_ rfl (by decide +kernel) (by decide +kernel) (by decide +kernel) ?_ rfl rfl rfl
  · intro pm cd doc vs h
    match vs, h with
    | [a], _ => rfl
  · intro A B L f cd s hA S C
    unfold BodyOk
    exact x_return S (ev_cmp (ev_callN G (hA.le (by omega)) H.ifmt rfl rfl rfl (evs_cons (by walk_at "m_nm") evs_nil rfl) (ifmt_ok H) rfl) (ev_globI G rfl ht rfl) op_eq rfl) fun v s' S' r' => ⟨v, rfl, S'.left, r'⟩
theorem islnk_ok {W : Wd} (H : Sv W) {m : Int} : FnC W PySem.Challenge.pw_op0122_02 15 2 [.int m] (.bool (Builtin.bitAnd m 61440 == 40960)) := by
  have G := H.G
  obtain ⟨t, ht⟩ := H.lnk
  refine fn_def (xs := ["mode"]) G H.islnk ?_ rfl (by decide +kernel) (by decide +kernel) (by decide +kernel) ?_ rfl rfl rfl
  · intro pm cd doc vs h
    match vs, h with
    | [a], _ => rfl
  · intro A B L f cd s hA S C
    unfold BodyOk
    exact x_return S (ev_cmp (ev_callN G (hA.le (by omega)) H.ifmt rfl rfl rfl (evs_cons (by walk_at "m_nm") evs_nil rfl) (ifmt_ok H) rfl) (ev_globI G rfl ht rfl) op_eq rfl) fun v s' S' r' => ⟨v, rfl, S'.left, r'⟩
theorem issock_ok {W : Wd} (H : Sv W) {m : Int} : FnC W PySem.Challenge.pw_op0122_02 16 2 [.int m] (.bool (Builtin.bitAnd m 61440 == 49152)) := by
  have G := H.G
  obtain ⟨t, ht⟩ := H.sock
  refine fn_def (xs := ["mode"]) G H.issock ?_ rfl (by decide +kernel) (by decide +kernel) (by decide +kernel) ?_ rfl rfl rfl
  · intro pm cd doc vs h
    match vs, h with
    | [a], _ => rfl
  · intro A B L f cd s hA S C
    unfold BodyOk
    exact x_return S (ev_cmp (ev_callN G (hA.le (by omega)) H.ifmt rfl rfl rfl (evs_cons (by walk_at "m_nm") evs_nil rfl) (ifmt_ok H) rfl) (ev_globI G rfl ht rfl) op_eq rfl) fun v s' S' r' => ⟨v, rfl, S'.left, r'⟩

set_option maxHeartbeats 4000000 in
theorem filemode_ok {W : Wd} (H : Sv W) {m : Int} : FnC W PySem.Challenge.pw_op0122_02 30 2 [.int m] (.str (fmode m)) := by
  have G := H.G
  obtain ⟨tv, ht, hr⟩ := H.table
  refine fn_def (xs := ["mode"]) G H.filemode ?_ rfl (by decide +kernel) (by decide +kernel) (by decide +kernel) ?_ rfl rfl rfl
  · intro pm cd doc vs h
    match vs, h with
    | [a], _ => rfl
  · intro A B L f cd s hA S C
    unfold BodyOk
    refine x_new S evn_nil (.inl rfl) rfl fun l s₁ S₁ => ?_
    refine x_forE S₁ G hA.handled rfl rfl H.enumerate PyProof.Rows.Boot.enumerate (by decide +kernel) (ev_globD G rfl ht hr rfl) rfl (fun _ => rfl) (.inl rfl) (.inl rfl) fun I T s₂ S₂ Bd₂ hT₂ => ?_
    have S₃ := S₂.pick (D' := [("mode", .int m), ("perm", .raw (.ref l))]) (by walk_at "m_pick")
    clear S S₁ S₂
    have hacc : ([] : List Dt) = (fmRows m 0).map Dt.str := rfl
    rw [hacc] at S₃
    obtain ⟨i, hi⟩ : ∃ i : Nat, i = 0 := ⟨_, rfl⟩
    have hi' : i ≤ 10 := by omega
    rw [← hi] at S₃ hT₂
    clear hi
    obtain ⟨k, hk⟩ : ∃ k, i + k = 10 := ⟨10 - i, by omega⟩
    induction k generalizing i s₂ with
    | zero =>
      obtain rfl : i = 10 := by omega
      refine forB_end S₃ Bd₂ (by simpa [fmTab] using hT₂) fun s₃ S₄ => x_nil ?_
      have S₅ := S₄.freeze (x := "perm") rfl
      refine x_return S₅ (ev_meth1 ev_str (gm_str PySem.F.slot_str_join PySem.F.type_str_join) (evs_cons (by walk_at "m_nm") evs_nil rfl) (bc_join (fmRows_len m)) rfl rfl rfl) fun v s' S' r' => ⟨v, rfl, S'.left, r'⟩
    | succ k ih =>
      have hlt : i < 10 := by omega
      refine forB_turn S₃ C (cells_cn (by decide +kernel)) Bd₂ hT₂ (by simpa [fmTab] using hlt) fun b' s₃ S₄ C₄ hO hs₀ back => ?_
      rw [fmTab_get i hlt] at S₄
      refine x_forP (ps := (fmRow i).map fun p => (Dt.int p.1, Dt.str p.2)) S₄ hA.handled (ib2_tup hA.handled (by walk_at "m_nm")) (fun _ => rfl) (.inl rfl) (.inl rfl) fun I' T' s₄ S₅ Bd₅ hT₅ => ?_
      have S₆ := S₅.pick (D' := [("index", .int i), ("mode", .int m), ("perm", .raw (.ref l))]) (by walk_at "m_pick")
      clear S₄ S₅ S₃
      have hlen : (fmRows m i).length = i := fmRows_length m i
      have fin : ∀ s', St W b' (fenv PySem.Challenge.pw_op0122_02 30 L f cd) [("index", .int i), ("mode", .int m), ("perm", .raw (.ref l))] [(l, ((fmRows m i).map Dt.str) ++ [Dt.str (fmPick m i (fmRow i))])] s' → codeAny W.M A (.forLoop _ _ _ _ _) _ s' := fun s' S' => by
        obtain ⟨S₇, hT₇⟩ := back _ _ s' (S'.pick (D' := [("mode", .int m), ("perm", .raw (.ref l))]) (by walk_at "m_pick")) rfl
        have e : ((fmRows m i).map Dt.str) ++ [Dt.str (fmPick m i (fmRow i))] = (fmRows m (i + 1)).map Dt.str := by simp [fmRows]
        rw [e] at S₇
        refine ih s' (i + 1) ?_ ?_ ?_ ?_ <;> first | exact S₇ | exact hT₇ | omega
      obtain ⟨rem, hrem⟩ : ∃ rem, rem = fmRow i := ⟨_, rfl⟩
      obtain ⟨j, hj⟩ : ∃ j : Nat, j = 0 := ⟨_, rfl⟩
      have h1 : (fmRow i).drop j = rem := by rw [hj, hrem]; rfl
      have hjle : j ≤ (fmRow i).length := by rw [hj]; exact Nat.zero_le _
      have h2 : fmPick m i rem = fmPick m i (fmRow i) := by rw [hrem]
      rw [← hj] at hT₅
      clear hrem hj
      induction rem generalizing j s₄ with
      | nil =>
        have hjl : j = (fmRow i).length := by
          have := List.drop_eq_nil_iff.mp h1
          omega
        refine forB_end S₆ Bd₅ (by rw [List.length_map, ← hjl]; exact hT₅) fun s₅ S₇ => ?_
        refine x_if S₇ (c := decide (i = 0)) (Tst.cast (tst_cmp (by walk_at "m_nm") ev_int op_eq rfl) (nat_eq0 i)) (fun hc s₆ S₈ => ?_) (fun hc s₆ S₈ => ?_)
        · refine x_append S₈ (by walk_at "m_nm") ev_str (by rw [List.length_map]; omega) rfl rfl rfl rfl fun s₇ S₉ => x_nil (x_nil (x_nil ?_))
          have hc' : i = 0 := by simpa using hc
          have e : fmPick m i (fmRow i) = "?" := by rw [← h2, hc']; rfl
          exact fin s₇ (by rw [e]; exact S₉)
        · refine x_append S₈ (by walk_at "m_nm") ev_str (by rw [List.length_map]; omega) rfl rfl rfl rfl fun s₇ S₉ => x_nil (x_nil (x_nil ?_))
          have hc' : i ≠ 0 := by simpa using hc
          have e : fmPick m i (fmRow i) = "-" := by rw [← h2]; simp [fmPick, hc']
          exact fin s₇ (by rw [e]; exact S₉)
      | cons p rem ih' =>
        have hj : j < (fmRow i).length := by
          rcases Nat.lt_or_ge j (fmRow i).length with q | q
          · exact q
          · rw [List.drop_eq_nil_iff.mpr q] at h1; cases h1
        have hp : (fmRow i)[j]? = some p := by rw [← List.head?_drop, h1]; rfl
        refine forB_turn S₆ C₄ (cells_cn (by decide +kernel)) Bd₅ hT₅ (by rw [List.length_map]; exact hj) fun b'' s₅ S₇ C₇ hO' hs' back' => ?_
        have hg : ((fmRow i).map fun p => (Dt.int p.1, Dt.str p.2)).getD j (.none, .none) = (Dt.int p.1, Dt.str p.2) := by simp [List.getD_eq_getElem?_getD, hp]
        rw [hg] at S₇
        have hpk : fmPick m i (p :: rem) = if fmHit m i p.1 then p.2 else fmPick m i rem := rfl
        have gone : fmHit m i p.1 = false → ∀ s', St W b'' (fenv PySem.Challenge.pw_op0122_02 30 L f cd) [("char", .str p.2), ("bit", .int p.1), ("index", .int i), ("mode", .int m), ("perm", .raw (.ref l))] [(l, (fmRows m i).map Dt.str)] s' → codeAny W.M A (.forLoop _ _ _ _ _) _ s' := fun hh s' S' => by
          obtain ⟨S₈, hT₈⟩ := back' _ _ s' (S'.pick (D' := [("index", .int i), ("mode", .int m), ("perm", .raw (.ref l))]) (by walk_at "m_pick")) rfl
          have g1 : (fmRow i).drop (j + 1) = rem := by rw [← List.drop_drop, h1]; rfl
          have g2 : fmPick m i rem = fmPick m i (fmRow i) := by rw [← h2, hpk, hh]; rfl
          refine ih' s' S₈ (j + 1) ?_ ?_ ?_ ?_ <;> first | exact hT₈ | exact g1 | exact g2 | omega
        have done : fmHit m i p.1 = true → ∀ s', St W b'' (fenv PySem.Challenge.pw_op0122_02 30 L f cd) [("char", .str p.2), ("bit", .int p.1), ("index", .int i), ("mode", .int m), ("perm", .raw (.ref l))] [(l, (fmRows m i).map Dt.str ++ [Dt.str p.2])] s' → St W b' (fenv PySem.Challenge.pw_op0122_02 30 L f cd) [("index", .int i), ("mode", .int m), ("perm", .raw (.ref l))] [(l, ((fmRows m i).map Dt.str) ++ [Dt.str (fmPick m i (fmRow i))])] s' := fun hh s' S' => by
          have e : fmPick m i (fmRow i) = p.2 := by rw [← h2, hpk, hh]; rfl
          rw [e]
          exact (back' _ _ s' (S'.pick (D' := [("index", .int i), ("mode", .int m), ("perm", .raw (.ref l))]) (by walk_at "m_pick")) rfl).1
        refine x_if S₇ (c := decide (i = 0)) (Tst.cast (tst_cmp (by walk_at "m_nm") ev_int op_eq rfl) (nat_eq0 i)) (fun hc s₆ S₈ => ?_) (fun hc s₆ S₈ => ?_)
        · have hc' : i = 0 := by simpa using hc
          refine x_if S₈ (c := fmHit m i p.1) (Tst.cast (tst_cmp (ev_callN G (hA.le (by omega)) H.ifmt rfl rfl rfl (evs_cons (by walk_at "m_nm") evs_nil rfl) (ifmt_ok H) rfl) (by walk_at "m_nm") op_eq rfl) (by simp [fmHit, hc'])) (fun hc s₇ S₉ => ?_) (fun hc s₇ S₉ => ?_)
          · refine x_append S₉ (by walk_at "m_nm") (by walk_at "m_nm") (by rw [List.length_map]; omega) rfl rfl rfl rfl fun s₈ S₁₀ => ?_
            exact x_break (x_nil (fin s₈ (done hc s₈ S₁₀)))
          · exact x_nil (x_nil (x_nil (gone hc s₇ S₉)))
        · have hc' : i ≠ 0 := by simpa using hc
          refine x_if S₈ (c := fmHit m i p.1) (Tst.cast (tst_cmp (ev_bin (by walk_at "m_nm") (by walk_at "m_nm") op_and) (by walk_at "m_nm") op_eq rfl) (by simp [fmHit, hc'])) (fun hc s₇ S₉ => ?_) (fun hc s₇ S₉ => ?_)
          · refine x_append S₉ (by walk_at "m_nm") (by walk_at "m_nm") (by rw [List.length_map]; omega) rfl rfl rfl rfl fun s₈ S₁₀ => ?_
            exact x_break (x_nil (fin s₈ (done hc s₈ S₁₀)))
          · exact x_nil (x_nil (x_nil (gone hc s₇ S₉)))
end Mine
end

section
-- H1_02
open PySem PySem.W PySem.Calls PyProof.Rows
set_option maxRecDepth 100000

namespace Mine

local macro_rules | `(tactic| walk_at "m_nm") => `(tactic| first
  | exact ev_loc rfl rfl rfl
  | exact ev_cell rfl rfl rfl
  | exact ev_free rfl rfl rfl rfl)
local macro_rules | `(tactic| walk_at "m_one") => `(tactic| (intro p hp; simp only [List.mem_cons, List.not_mem_nil, or_false] at hp; repeat' (first | (subst hp; rfl) | (rcases hp with hp | hp))))

theorem number_ok {W : Wd} (H : Sv W) (Hd : HasFn W PySem.Challenge.pw_op0122_02 42) (hsum : W.mg "sum" = none) (hrng : W.mg "range" = none) {m : Int} : FnC W PySem.Challenge.pw_op0122_02 42 3 [.int m] (.int (numOf m)) := by
  have G := H.G
  refine fn_def (xs := ["mode"]) G Hd ?_ rfl (by decide +kernel) (by decide +kernel) (by decide +kernel) ?_ rfl rfl rfl
  · intro pm cd doc vs h
    match vs, h with
    | [a], _ => rfl
  · intro A B L f cd s hA S C
    unfold BodyOk
    have hA2 : AOk A 2 := hA.le (by omega)
    have hA1 : AOk A 1 := hA.le (by omega)
    have hk := kindIx_range (Builtin.bitAnd m 61440)
    rw [← kindNo_eq] at hk
    refine x_assign (d := .tup ((kinds m).map .bool)) S (ev_tuple (evs_cons (ev_callN G hA2 H.isfifo rfl rfl rfl (evs_cons (by walk_at "m_nm") evs_nil rfl) (isfifo_ok H) rfl) (evs_cons (ev_callN G hA2 H.ischr rfl rfl rfl (evs_cons (by walk_at "m_nm") evs_nil rfl) (ischr_ok H) rfl) (evs_cons (ev_callN G hA2 H.isdir rfl rfl rfl (evs_cons (by walk_at "m_nm") evs_nil rfl) (isdir_ok H) rfl) (evs_cons (ev_callN G hA2 H.isblk rfl rfl rfl (evs_cons (by walk_at "m_nm") evs_nil rfl) (isblk_ok H) rfl) (evs_cons (ev_callN G hA2 H.isreg rfl rfl rfl (evs_cons (by walk_at "m_nm") evs_nil rfl) (isreg_ok H) rfl) (evs_cons (ev_callN G hA2 H.islnk rfl rfl rfl (evs_cons (by walk_at "m_nm") evs_nil rfl) (islnk_ok H) rfl) (evs_cons (ev_callN G hA2 H.issock rfl rfl rfl (evs_cons (by walk_at "m_nm") evs_nil rfl) (issock_ok H) rfl) evs_nil rfl) rfl) rfl) rfl) rfl) rfl) rfl) (by simp [kinds, kindBits])) (.inr ⟨rfl, C, rfl⟩) rfl fun s₁ S₁ => ?_
    with_reducible refine' x_returnB (d := .int (numOf m)) ?r1_1 S₁ ?r2_1 fun v s' S' r' => ?r3_1
    case r1_1 => exact rfl
    case r3_1 => exact ⟨v, rfl, S'.left, r'⟩
    case r2_1 =>
      unfold numOf
      with_reducible refine' ev_bin (a := .int (Builtin.bitAnd m 4095)) (b := .int (4096 * kindNo m)) ?a1_2 (ev_bin (a := .int 4096) (b := .int (kindNo m)) ?a2_2 ?a3_2 (op_mul (intMulOk_small (by omega) (by omega) (by omega) (by omega)))) op_add
      case a1_2 => exact ev_callN G hA1 H.imode rfl rfl rfl (evs_cons (by walk_at "m_nm") evs_nil rfl) (imode_ok H) rfl
      case a2_2 => exact ev_int
      case a3_2 =>
        unfold kindNo
        with_reducible refine' ev_bcall (ds := [.lst (((List.range 7).map fun (k : Nat) => ((k : Int) + 1) * (if (kinds m).getD k false then 1 else 0)).map .int)]) G ?b1_3 ?b2_3 hsum PyProof.Rows.Boot.sum ?b3_3 ?b4_3 (bc_sum hA.handled) ?b5_3 ?b6_3
        case b1_3 => exact rfl
        case b2_3 => exact rfl
        case b3_3 => decide +kernel
        case b5_3 => exact rfl
        case b6_3 => exact rfl
        case b4_3 =>
          with_reducible refine' evs_cons ?v1_4 evs_nil ?v2_4
          case v2_4 => exact rfl
          with_reducible refine' Ev.cast (EvN.ev (evn_comp (FV := [("kinds", .tup ((kinds m).map .bool))]) (ok := fun _ => true) (res := fun k => .int (((k : Int) + 1) * (if (kinds m).getD k false then 1 else 0))) (compIn_name (ib_range (n := 7) G hA.handled ?i1_5 ?i2_5 hrng PyProof.Rows.Boot.range ?i3_5 ev_int ?i4_5 ?i5_5 ?i6_5)) ?n1_5 ?n2_5 ?n3_5 ?n4_5 ?n5_5 ?n6_5 ?n7_5 ?n8_5 ?n9_5 ?n10_5 ?n11_5 ?n12_5)) ?n13_5
          case i1_5 => exact rfl
          case i2_5 => exact rfl
          case i3_5 => decide +kernel
          case i4_5 => decide
          case i5_5 => decide
          case i6_5 => exact rfl
          case n1_5 => exact rfl
          case n2_5 => exact rfl
          case n3_5 => decide +kernel
          case n4_5 => exact fun _ => rfl
          case n5_5 => walk_at "m_one"
          case n6_5 => intro _ _; simp
          case n7_5 => intro p hp; simp only [List.mem_cons, List.not_mem_nil, or_false] at hp; subst hp; exact ⟨rfl, .inl rfl, fun _ => rfl, fun h => by cases (show some NameKind.cell = some NameKind.local from h)⟩
          case n8_5 => intro C b' hf x hx; simp only [List.mem_cons, List.not_mem_nil, or_false] at hx; subst hx; exact .inl rfl
          case n9_5 => exact fun C i hi => tsts_nil
          case n11_5 => decide
          case n12_5 => intro i hi p hp; simp only [List.mem_cons, List.not_mem_nil, or_false] at hp; subst hp; rfl
          case n13_5 => rw [gather_true]; simp [rng]
          case n10_5 =>
            intro C i hi _
            have hi7 : i < 7 := by simpa [rng] using hi
            have hk : (rng (Int.toNat 7)).getD i .none = .int i := by simp [rng, List.getD_eq_getElem?_getD, hi7]
            rw [hk]
            have hg : (kinds m)[i]? = some ((kinds m).getD i false) := by
              have : i < (kinds m).length := by simpa [kinds, kindBits] using hi7
              rw [List.getD_eq_getElem?_getD, List.getElem?_eq_getElem this]; rfl
            exact ev_bin (ev_bin (by walk_at "m_nm") ev_int op_add) (ev_sub (by walk_at "m_nm") (by walk_at "m_nm") (op_item_tup (d := .bool ((kinds m).getD i false)) (by omega) (by omega) (by rw [Int.toNat_natCast, List.getElem?_map, hg]; rfl) (fun _ _ => rfl))) op_mul_bool

theorem row_ok {W : Wd} (H : Sv W) (Hd : HasFn W PySem.Challenge.pw_op0122_02 46) {v : Int} (h0 : 0 ≤ v) (h1 : v < 2 ^ 15) : FnC W PySem.Challenge.pw_op0122_02 46 3 [.int v] (.str (fmode (modeOf v))) := by
  have G := H.G
  refine fn_def (xs := ["number"]) G Hd ?_ rfl (by decide +kernel) (by decide +kernel) (by decide +kernel) ?_ rfl rfl rfl
  · intro pm cd doc vs h
    match vs, h with
    | [a], _ => rfl
  · intro A B L f cd s hA S C
    unfold BodyOk
    with_reducible refine' x_returnB (d := .str (fmode (modeOf v))) ?r1_6 S ?r2_6 fun v s' S' r' => ?r3_6
    case r1_6 => exact rfl
    case r3_6 => exact ⟨v, rfl, S'.left, r'⟩
    case r2_6 =>
      have hq : v.fdiv 4096 = v / 4096 := fdiv_pos v (by decide)
      have hm : v.fmod 4096 = v % 4096 := fmod_pos v (by decide)
      have hq0 : 0 ≤ v / 4096 ∧ v / 4096 < 8 := by omega
      have hg : kindBase[(v / 4096).toNat]? = some (kindBase.getD (v / 4096).toNat 0) := by
        have : (v / 4096).toNat < kindBase.length := by show _ < 8; omega
        rw [List.getD_eq_getElem?_getD, List.getElem?_eq_getElem this]; rfl
      have hkb : 0 ≤ kindBase.getD (v / 4096).toNat 0 ∧ kindBase.getD (v / 4096).toNat 0 ≤ 12 := by
        have key : ∀ x ∈ kindBase, 0 ≤ x ∧ x ≤ 12 := by decide
        exact key _ (List.mem_of_getElem? hg)
      with_reducible refine' ev_callN (ds := [.int (modeOf v)]) G (hA.le (by omega)) H.filemode ?a1_7 ?a2_7 ?a3_7 ?a4_7 (filemode_ok H) ?a5_7
      case a1_7 => exact rfl
      case a2_7 => exact rfl
      case a3_7 => exact rfl
      case a5_7 => exact rfl
      case a4_7 =>
        with_reducible refine' evs_cons ?b1_8 evs_nil ?b2_8
        case b2_8 => exact rfl
        unfold modeOf
        with_reducible refine' ev_bin (a := .int (kindBase.getD (v / 4096).toNat 0 * 4096)) (b := .int (v % 4096)) (ev_bin (a := .int (kindBase.getD (v / 4096).toNat 0)) (b := .int 4096) ?c1_9 ?c2_9 (op_mul (intMulOk_small (by omega) (by omega) (by omega) (by omega)))) ?c3_9 op_add
        case c2_9 => exact ev_int
        case c3_9 => rw [← hm]; exact ev_bin (by walk_at "m_nm") ev_int (op_mod (by decide))
        case c1_9 =>
          with_reducible refine' ev_sub (a := .tup (kindBase.map .int)) (i := .int (v / 4096)) ?d1_10 ?d2_10 ?d3_10
          case d1_10 => exact ev_tuple (evs_cons ev_int (evs_cons ev_int (evs_cons ev_int (evs_cons ev_int (evs_cons ev_int (evs_cons ev_int (evs_cons ev_int (evs_cons ev_int evs_nil rfl) rfl) rfl) rfl) rfl) rfl) rfl) rfl) (by simp [kindBase])
          case d2_10 => rw [← hq]; exact ev_bin (by walk_at "m_nm") ev_int (op_fdiv (by decide) (PyProof.noPylong_small (by decide)))
          case d3_10 => exact op_item_tup (by omega) (by omega) (by rw [List.getElem?_map, hg]; rfl) (fun _ _ => rfl)
end Mine
end

section
-- H2_02
open PySem PySem.W PySem.Calls PyProof.Rows
set_option maxRecDepth 100000

namespace Mine

local macro_rules | `(tactic| walk_at "m_nm") => `(tactic| first
  | exact ev_loc rfl rfl rfl
  | exact ev_cell rfl rfl rfl
  | exact ev_free rfl rfl rfl rfl)
local macro_rules | `(tactic| walk_at "m_one") => `(tactic| (intro p hp; simp only [List.mem_cons, List.not_mem_nil, or_false] at hp; repeat' (first | (subst hp; rfl) | (rcases hp with hp | hp))))

set_option maxHeartbeats 1000000 in
theorem read_ok {W : Wd} (G : W.Ok) (Hd : HasFn W PySem.Challenge.pw_op0122_02 43) (hsum : W.mg "sum" = none) (hrng : W.mg "range" = none) {m : Int} : FnC W PySem.Challenge.pw_op0122_02 43 1 [.str (fmode m)] (.int (numOf m)) := by
  refine fn_def (xs := ["row"]) G Hd ?_ rfl (by decide +kernel) (by decide +kernel) (by decide +kernel) ?_ rfl rfl rfl
  · intro pm cd doc vs h
    match vs, h with
    | [a], _ => rfl
  · intro A B L f cd s hA S C
    unfold BodyOk
    have hl := fmode_len m
    have hk := kindIx_range (Builtin.bitAnd m 61440)
    rw [← kindNo_eq] at hk
    obtain ⟨ok, hok⟩ : ∃ ok : Nat → Bool, ok = fun j => hasMark (fmode m) (places12.getD j 0, marks12.getD j "") := ⟨_, rfl⟩
    have hsm := marks_sum m
    rw [← hok] at hsm
    with_reducible refine' x_assignB (d := .tup (marks12.map .str)) ?a1_1 S ?a2_1 ?a3_1 ?a4_1 fun s₁ S₁ => ?a5_1
    case a1_1 => exact rfl
    case a3_1 => exact .inr ⟨rfl, C, rfl⟩
    case a4_1 => exact rfl
    case a2_1 =>
      with_reducible refine' ev_tuple (ds := marks12.map .str) ?b1_2 ?b2_2
      case b2_2 => simp [marks12]
      case b1_2 =>
        simp only [marks12, List.map]
        repeat (with_reducible refine' evs_s ?_)
        with_reducible exact evs_nil
    with_reducible refine' x_assignB (d := .tup (places12.map .int)) ?a1_4 S₁ ?a2_4 ?a3_4 ?a4_4 fun s₂ S₂ => ?a5_4
    case a1_4 => exact rfl
    case a3_4 => exact .inr ⟨rfl, C, rfl⟩
    case a4_4 => exact rfl
    case a2_4 =>
      with_reducible refine' ev_tuple (ds := places12.map .int) ?b1_5 ?b2_5
      case b2_5 => simp [places12]
      case b1_5 =>
        simp only [places12, List.map]
        repeat (with_reducible refine' evs_i ?_)
        with_reducible exact evs_nil
    with_reducible refine' x_returnB (d := .int (numOf m)) ?r1_7 S₂ ?r2_7 fun v s' S' r' => ?r3_7
    case r1_7 => exact rfl
    case r3_7 => exact ⟨v, rfl, S'.left, r'⟩
    case r2_7 =>
      unfold numOf
      with_reducible refine' ev_bin (a := .int (Builtin.bitAnd m 4095)) (b := .int (4096 * kindNo m)) ?a1_8 (ev_bin (a := .int 4096) (b := .int (kindNo m)) ?a2_8 ?a3_8 (op_mul (intMulOk_small (by omega) (by omega) (by omega) (by omega)))) op_add
      case a2_8 => exact ev_int
      case a3_8 =>
        obtain ⟨rest, hf⟩ := kind_find m
        with_reducible refine' Ev.cast (ev_meth1 (d₀ := .str "?pcdb-ls") (ds := [.str (Txt.item (fmode m) 0)]) ?b1_9 ?b2_9 ?b3_9 (bc_index hf) ?b4_9 ?b5_9 ?b6_9) ?b7_9
        case b1_9 => exact ev_str
        case b2_9 => exact gm_str PySem.F.slot_str_index PySem.F.type_str_index
        case b4_9 => exact rfl
        case b5_9 => exact rfl
        case b6_9 => exact rfl
        case b7_9 => congr 1; omega
        case b3_9 =>
          with_reducible refine' evs_cons (ev_sub (a := .str (fmode m)) (i := .int 0) ?c1_10 ?c2_10 ?c3_10) evs_nil ?c4_10
          case c1_10 => walk_at "m_nm"
          case c2_10 => exact ev_int
          case c3_10 => exact op_item_str (by decide) (by rw [hl]; decide) (by rw [hl]; decide) (fun _ _ => rfl)
          case c4_10 => exact rfl
      case a1_8 =>
        rw [← hsm]
        with_reducible refine' ev_bcall (ds := [.lst ((((List.range 12).filter ok).map fun j => (2 : Int) ^ j).map .int)]) G ?b1_11 ?b2_11 hsum PyProof.Rows.Boot.sum ?b3_11 ?b4_11 (bc_sum hA.handled) ?b5_11 ?b6_11
        case b1_11 => exact rfl
        case b2_11 => exact rfl
        case b3_11 => decide +kernel
        case b5_11 => exact rfl
        case b6_11 => exact rfl
        case b4_11 =>
          with_reducible refine' evs_cons ?v1_12 evs_nil ?v2_12
          case v2_12 => exact rfl
          with_reducible refine' Ev.cast (EvN.ev (evn_comp (FV := [("row", .str (fmode m)), ("places", .tup (places12.map .int)), ("marks", .tup (marks12.map .str))]) (ok := ok) (res := fun j => .int ((2 : Int) ^ j)) (compIn_name (ib_range (n := 12) G hA.handled ?i1_13 ?i2_13 hrng PyProof.Rows.Boot.range ?i3_13 ev_int ?i4_13 ?i5_13 ?i6_13)) ?n1_13 ?n2_13 ?n3_13 ?n4_13 ?n5_13 ?n6_13 ?n7_13 ?n8_13 ?n9_13 ?n10_13 ?n11_13 ?n12_13)) ?n13_13
          case i1_13 => exact rfl
          case i2_13 => exact rfl
          case i3_13 => decide +kernel
          case i4_13 => decide
          case i5_13 => decide
          case i6_13 => exact rfl
          case n1_13 => exact rfl
          case n2_13 => exact rfl
          case n3_13 => decide +kernel
          case n4_13 => exact fun _ => rfl
          case n5_13 => walk_at "m_one"
          case n6_13 => exact fun k1 k2 => cl_apart k1 k2 (by walk_at "m_one") (by show (["row", "places", "marks"] : List Str).Nodup; decide +kernel)
          case n7_13 => intro p hp; simp only [List.mem_cons, List.not_mem_nil, or_false] at hp; rcases hp with hp | hp | hp <;> (subst hp; exact ⟨rfl, .inl rfl, fun _ => rfl, fun h => by cases (show some NameKind.cell = some NameKind.local from h)⟩)
          case n8_13 => intro C b' hf x hx; simp only [List.mem_cons, List.not_mem_nil, or_false] at hx; subst hx; exact .inl rfl
          case n9_13 =>
            intro C j hj
            have hj12 : j < 12 := by simpa [rng] using hj
            have hk : (rng (Int.toNat 12)).getD j .none = .int j := by simp [rng, List.getD_eq_getElem?_getD, hj12]
            rw [hk]
            have hp : places12[j]? = some (places12.getD j 0) := by rw [List.getD_eq_getElem?_getD, List.getElem?_eq_getElem (show j < places12.length from hj12)]; rfl
            have hm : marks12[j]? = some (marks12.getD j "") := by rw [List.getD_eq_getElem?_getD, List.getElem?_eq_getElem (show j < marks12.length from hj12)]; rfl
            have hpr : 0 ≤ places12.getD j 0 ∧ places12.getD j 0 < 10 := by
              have key : ∀ x ∈ places12, 0 ≤ x ∧ x < 10 := by decide
              exact key _ (List.mem_of_getElem? hp)
            rw [hok]
            refine tsts_one ?_
            with_reducible refine' tst_cmp (a := .str (Txt.item (fmode m) (places12.getD j 0))) (b := .str (marks12.getD j "")) ?t1_14 ?t2_14 op_in_str ?t3_14
            case t3_14 => exact rfl
            case t2_14 =>
              with_reducible refine' ev_sub (a := .tup (marks12.map .str)) (i := .int j) ?u1_15 ?u2_15 ?u3_15
              case u1_15 => walk_at "m_nm"
              case u2_15 => walk_at "m_nm"
              case u3_15 => exact op_item_tup (by omega) (by omega) (by rw [Int.toNat_natCast, List.getElem?_map, hm]; rfl) (fun _ _ => rfl)
            case t1_14 =>
              with_reducible refine' ev_sub (a := .str (fmode m)) (i := .int (places12.getD j 0)) ?u1_16 ?u2_16 ?u3_16
              case u1_16 => walk_at "m_nm"
              case u3_16 => exact op_item_str hpr.1 (by rw [hl]; omega) (by rw [hl]; decide) (fun _ _ => rfl)
              case u2_16 =>
                with_reducible refine' ev_sub (a := .tup (places12.map .int)) (i := .int j) ?w1_17 ?w2_17 ?w3_17
                case w1_17 => walk_at "m_nm"
                case w2_17 => walk_at "m_nm"
                case w3_17 => exact op_item_tup (by omega) (by omega) (by rw [Int.toNat_natCast, List.getElem?_map, hp]; rfl) (fun _ _ => rfl)
          case n11_13 => decide
          case n12_13 => intro i hi; walk_at "m_one"
          case n13_13 => rw [gather_filter]; simp [rng]
          case n10_13 =>
            intro C j hj _
            have hj12 : j < 12 := by simpa [rng] using hj
            have hk : (rng (Int.toNat 12)).getD j .none = .int j := by simp [rng, List.getD_eq_getElem?_getD, hj12]
            rw [hk]
            with_reducible refine' Ev.cast (ev_bin (a := .int 2) (b := .int j) ?p1_18 ?p2_18 (op_pow ?p3_18 ?p4_18)) ?p5_18
            case p1_18 => exact ev_int
            case p2_18 => walk_at "m_nm"
            case p3_18 => omega
            case p4_18 =>
              have : Builtin.Int.intBits (2 : Int) = 2 := by decide +kernel
              rw [this]; omega
            case p5_18 => rw [Int.toNat_natCast]
end Mine
end

section
-- F1_02
open PySem PySem.W PySem.Calls PyProof.Rows
set_option maxRecDepth 100000

namespace Mine
open Builtin.Int (intBits)

local macro_rules | `(tactic| walk_at "m_nm") => `(tactic| first
  | exact ev_loc rfl rfl rfl
  | exact ev_cell rfl rfl rfl
  | exact ev_free rfl rfl rfl rfl)
local macro_rules | `(tactic| walk_at "m_bind") => `(tactic| (intro pm cd doc vs h; match vs, h with
  | [a], _ => rfl
  | [a, b], _ => rfl
  | [a, b, c], _ => rfl
  | [a, b, c, d], _ => rfl
  | [a, b, c, d, e], _ => rfl
  | [a, b, c, d, e, f], _ => rfl))

local macro_rules | `(tactic| walk_at "m_pick") => `(tactic| (intro p hp; simp only [List.mem_cons, List.not_mem_nil, or_false] at hp; repeat' (first | (subst hp; rfl) | (rcases hp with hp | hp))))

section
variable {W : Wd} (G : W.Ok)
include G

theorem div3_ok (H3 : HasFn W PySem.Challenge.pw_op0122_02 34) (H2 : HasFn W PySem.Challenge.pw_op0122_02 33) {k : Nat} {a12 a3 b b1 b2 : Int} {n : Nat} (hn : n ≤ 2 ^ 24) (hb : b = b1 * 2 ^ n + b2) (hb1 : 0 < b1) (hb1' : b1 < 2 ^ n) (hb2 : 0 ≤ b2) (hb2' : b2 < 2 ^ n) (h3 : 0 ≤ a3) (h3' : a3 < 2 ^ n) (ha : 0 ≤ a12) (hab : a12 < b)
    (IH : a12 < b1 * 2 ^ n → FnC W PySem.Challenge.pw_op0122_02 33 k [.int a12, .int b1, .int n] (.tup [.int (a12 / b1), .int (a12 % b1)])) :
    FnC W PySem.Challenge.pw_op0122_02 34 (k + 1) [.int a12, .int a3, .int b, .int b1, .int b2, .int n] (.tup [.int ((a12 * 2 ^ n + a3) / b), .int ((a12 * 2 ^ n + a3) % b)]) := by
  refine fn_def (xs := ["a12", "a3", "b", "b1", "b2", "n"]) G H3 ?_ rfl (by decide +kernel) (by decide +kernel) (by decide +kernel) ?_ rfl rfl rfl
  · intro pm cd doc vs h
    match vs, h with
    | [a, b, c, d, e, f], _ => rfl
  · intro A B L f cd s hA S C
    unfold BodyOk
    have hH := two_pow_pos n
    have hn' : ((n : Int)).toNat = n := Int.toNat_natCast n
    -- the tail: r = ..; while; return
    have tail : ∀ (q r : Int) s, ((a12 / 2 ^ n = b1 ∧ b2 < 2 ^ n ∧ q = 2 ^ n - 1 ∧ r = a12 - b1 * 2 ^ n + b1) ∨ (a12 < b1 * 2 ^ n ∧ q = a12 / b1 ∧ r = a12 % b1)) →
        St W B (fenv PySem.Challenge.pw_op0122_02 34 L f cd) [("q", .int q), ("r", .int r), ("a3", .int a3), ("b", .int b), ("b2", .int b2), ("n", .int n)] [] s →
        wpAny W.M A (execs (fnB (stAt PySem.Challenge.pw_op0122_02 34)).tail (fenv PySem.Challenge.pw_op0122_02 34 L f cd)) (fun fl s' => ∃ v, fl = .ret v ∧ Left W B s' ∧ Rep s'.heap B.O (.tup [.int ((a12 * 2 ^ n + a3) / b), .int ((a12 * 2 ^ n + a3) % b)]) v) (fun _ _ => False) s := by
      intro q r s hq S
      obtain ⟨hq0, hq1, hr0, he, hlt⟩ := guess_ok hH hb hb1 hb2 h3 h3' ha hab hq
      have hr1 : r < 2 ^ (n + 1) := by
        have e2 : (2 : Int) ^ (n + 1) = 2 * 2 ^ n := by rw [Int.pow_succ]; omega
        rcases hq with ⟨h1, _, _, rfl⟩ | ⟨h1, _, rfl⟩
        · have h8 := Int.emod_add_mul_ediv a12 (2 ^ n)
          have h9 := Int.emod_lt_of_pos a12 hH
          rw [h1, Int.mul_comm] at h8
          omega
        · have := Int.emod_lt_of_pos a12 hb1
          omega
      refine x_assign S (Ev.cast (d' := .int (a12 * 2 ^ n + a3 - q * b)) (ev_bin (ev_bin (ev_bin (by walk_at "m_nm") (by walk_at "m_nm") (op_shl (by omega) ?_)) (by walk_at "m_nm") op_or) (ev_bin (by walk_at "m_nm") (by walk_at "m_nm") (op_mul ?_)) op_sub) ?_) (.inl rfl) rfl fun s₁ S₁ => ?_
      · have := intBits_le_of_lt hr0 hr1
        omega
      · exact IntMulOk.of_le (m := n) (n := n) (intBits_le_of_lt hq0 (by omega)) (intBits_le_of_lt hb2 hb2') (by omega)
      · rw [hn', bitOr_low hr0 h3 h3', he]
      have S₁' := S₁.pick (D' := [("q", .int q), ("r", .int (a12 * 2 ^ n + a3 - q * b)), ("b", .int b)]) (by walk_at "m_pick")
      clear S₁ S
      refine x_while ?_
      have hR : q * b + (a12 * 2 ^ n + a3 - q * b) = a12 * 2 ^ n + a3 := by omega
      generalize a12 * 2 ^ n + a3 - q * b = R at S₁' hlt hR
      generalize hm : (-R).toNat = m
      clear hq0 hq1 he hq
      have hbp : 0 < b := by omega
      induction m using Nat.strongRecOn generalizing q R s₁ with
      | ind m ih =>
        refine while_turn S₁' (tst_cmp (by walk_at "m_nm") ev_int op_lt rfl) (fun hc s₂ S₂ => ?_) (fun hc s₂ S₂ => ?_)
        · have hc' : R < 0 := of_decide_eq_true hc
          refine x_aug S₂ (ld_loc rfl rfl) ev_int iop_sub (.inl rfl) fun s₃ S₃ => ?_
          refine x_aug S₃ (ld_loc rfl rfl) (by walk_at "m_nm") iop_add (.inl rfl) fun s₄ S₄ => x_nil ?_
          refine ih ((-(R + b)).toNat) (by omega) (q - 1) s₄ (R + b) (S₄.pick (by walk_at "m_pick")) (by omega) ?_ rfl
          rw [Int.sub_mul, Int.one_mul]; omega
        · have hc' : ¬ R < 0 := of_decide_eq_false hc
          refine x_nil ?_
          obtain ⟨e1, e2⟩ := quot_unique (a := a12 * 2 ^ n + a3) (b := b) (q := q) (r := R) (by omega) (by omega) hlt
          refine x_return S₂ (ev_tuple (evs_cons (by walk_at "m_nm") (evs_cons (by walk_at "m_nm") evs_nil rfl) rfl) (by simp)) fun v s' S' r' => ⟨v, rfl, S'.left, ?_⟩
          rw [← e1, ← e2]; exact r'
    refine x_if S (tst_cmp (ev_bin (by walk_at "m_nm") (by walk_at "m_nm") (op_shr (by omega))) (by walk_at "m_nm") op_eq rfl) (fun hc s₁ S₁ => ?_) (fun hc s₁ S₁ => ?_)
    · have hc' : a12 / 2 ^ n = b1 := by
        rw [hn', fdiv_pow] at hc; simpa using hc
      refine x_unpack2s S₁ hA.handled (ev_tuple (evs_cons (Ev.cast (d' := .int (2 ^ n - 1)) (ev_bin (ev_bin ev_int (by walk_at "m_nm") (op_shl (by omega) ?_)) ev_int op_sub) ?_) (evs_cons (Ev.cast (d' := .int (a12 - b1 * 2 ^ n + b1)) (ev_bin (ev_bin (by walk_at "m_nm") (ev_bin (by walk_at "m_nm") (by walk_at "m_nm") (op_shl (by omega) ?_)) op_sub) (by walk_at "m_nm") op_add) ?_) evs_nil rfl) rfl) (by simp)) (.inl rfl) (.inl rfl) rfl rfl fun s₂ S₂ => x_nil ?_
      · have : intBits 1 = 1 := by decide +kernel
        rw [this]; omega
      · rw [hn', Int.one_mul]
      · have := intBits_le_of_lt (Int.le_of_lt hb1) hb1'
        omega
      · rw [hn']
      exact tail _ _ s₂ (.inl ⟨hc', hb2', rfl, rfl⟩) (S₂.pick (by walk_at "m_pick"))
    · have hc' : ¬ a12 / 2 ^ n = b1 := by
        rw [hn', fdiv_pow] at hc; simpa using hc
      have hlt : a12 < b1 * 2 ^ n := by
        have h8 := Int.emod_add_mul_ediv a12 (2 ^ n)
        have h9 := Int.emod_lt_of_pos a12 hH
        have h9' := Int.emod_nonneg a12 (show (2 : Int) ^ n ≠ 0 by omega)
        have h10 : a12 / 2 ^ n < b1 + 1 := by
          refine Int.ediv_lt_of_lt_mul hH ?_
          rw [Int.add_mul, Int.one_mul]; omega
        have h11 : 2 ^ n * (a12 / 2 ^ n) ≤ 2 ^ n * (b1 - 1) := Int.mul_le_mul_of_nonneg_left (by omega) (by omega)
        rw [Int.mul_sub, Int.mul_one, Int.mul_comm _ b1] at h11
        omega
      refine x_unpack2 S₁ hA.handled (ev_callN G hA H2 rfl rfl rfl (evs_cons (by walk_at "m_nm") (evs_cons (by walk_at "m_nm") (evs_cons (by walk_at "m_nm") evs_nil rfl) rfl) rfl) (IH hlt) rfl) (.inl rfl) (.inl rfl) rfl rfl fun s₂ S₂ => x_nil ?_
      exact tail _ _ s₂ (.inr ⟨hlt, rfl, rfl⟩) (S₂.pick (by walk_at "m_pick"))

theorem div2_step (H3 : HasFn W PySem.Challenge.pw_op0122_02 34) (H2 : HasFn W PySem.Challenge.pw_op0122_02 33) {tl : Tok} (HL : W.mg "_DIV_LIMIT" = some (.int 4000 tl)) (HD : W.mg "divmod" = none) {k : Nat} {a b : Int} {n : Nat} (hn : n ≤ 2 ^ 23) (h1 : 1 ≤ n) (hb : 2 ^ (n - 1) ≤ b) (hb' : b < 2 ^ n) (ha : 0 ≤ a) (hab : a < b * 2 ^ n)
    (IH : 4000 < n → ∀ (a' b' : Int) (h : Nat), 2 * h ≤ n + 1 → 1 ≤ h → 2 ^ (h - 1) ≤ b' → b' < 2 ^ h → 0 ≤ a' → a' < b' * 2 ^ h → ∃ k', k' + 2 ≤ k + 1 ∧ FnC W PySem.Challenge.pw_op0122_02 33 k' [.int a', .int b', .int h] (.tup [.int (a' / b'), .int (a' % b')])) :
    FnC W PySem.Challenge.pw_op0122_02 33 (k + 1) [.int a, .int b, .int n] (.tup [.int (a / b), .int (a % b)]) := by
  have hpn := two_pow_pos n
  have hpn' := two_pow_pos (n - 1)
  have hbp : 0 < b := by omega
  have hbits : intBits b = n := intBits_pos h1 hb hb'
  have ha2 : a < 2 ^ (2 * n) := by
    have e2 : (2 : Int) ^ (2 * n) = 2 ^ n * 2 ^ n := by rw [← Int.pow_add]; congr 1; omega
    have : b * 2 ^ n ≤ 2 ^ n * 2 ^ n := Int.mul_le_mul_of_nonneg_right (by omega) (by omega)
    omega
  have hab2 : intBits a ≤ 2 * n := intBits_le_of_lt ha ha2
  refine fn_def (xs := ["a", "b", "n"]) G H2 ?_ rfl (by decide +kernel) (by decide +kernel) (by decide +kernel) ?_ rfl rfl rfl
  · intro pm cd doc vs h
    match vs, h with
    | [a, b, c], _ => rfl
  · intro A B L f cd s hA S C
    unfold BodyOk
    refine x_if S (tst_cmp (ev_bin (ev_meth0 (by walk_at "m_nm") gm_bit_length bc_bit_length rfl) (by walk_at "m_nm") op_sub) (ev_globI G rfl HL rfl) op_le rfl) (fun hc s₁ S₁ => ?_) (fun hc s₁ S₁ => ?_)
    · have hc' : (intBits a : Int) - n ≤ 4000 := of_decide_eq_true hc
      refine x_return S₁ (Ev.cast (ev_bcall G rfl rfl HD PyProof.Rows.Boot.divmod (by decide +kernel) (evs_cons (by walk_at "m_nm") (evs_cons (by walk_at "m_nm") evs_nil rfl) rfl) (bc_divmod (by omega) (noPylong_near (by omega))) rfl rfl) ?_) fun v s' S' r' => ⟨v, rfl, S'.left, r'⟩
      rw [fdiv_pos _ hbp, fmod_pos _ hbp]
    · have hc' : ¬ (intBits a : Int) - n ≤ 4000 := of_decide_eq_false hc
      have hn4 : 4000 < n := by omega
      have IH' := IH hn4
      clear IH hc hc'
      refine x_nil ?_
      refine x_assign S₁ (Ev.cast (d' := .int ((n : Int) % 2)) (ev_bin (by walk_at "m_nm") ev_int op_and) (by rw [bitAnd_m1])) (.inl rfl) rfl fun s₂ S₂ => ?_
      -- behind the padding
      have tail : ∀ (a' b' pad : Int) (h : Nat) s, (pad = 0 ∧ a' = a ∧ b' = b ∧ n = 2 * h) ∨ (pad = 1 ∧ a' = a * 2 ∧ b' = b * 2 ∧ n + 1 = 2 * h) →
          St W B (fenv PySem.Challenge.pw_op0122_02 33 L f cd) [("a", .int a'), ("b", .int b'), ("n", .int (2 * h : Nat)), ("pad", .int pad)] [] s →
          wpAny W.M A (execs ((fnB (stAt PySem.Challenge.pw_op0122_02 33)).drop 3) (fenv PySem.Challenge.pw_op0122_02 33 L f cd)) (fun fl s' => ∃ v, fl = .ret v ∧ Left W B s' ∧ Rep s'.heap B.O (.tup [.int (a / b), .int (a % b)]) v) (fun _ _ => False) s := by
        intro a' b' pad h s hp S
        have hh1 : 1 ≤ h := by omega
        have hb1 : (2 : Int) ^ (2 * h - 1) ≤ b' ∧ b' < 2 ^ (2 * h) := by
          rcases hp with ⟨_, _, rfl, e⟩ | ⟨_, _, rfl, e⟩
          · rw [← e]; exact ⟨hb, hb'⟩
          · have e1 : 2 * h - 1 = n - 1 + 1 := by omega
            rw [e1, ← e, Int.pow_succ, Int.pow_succ]; omega
        have hbp' : 0 < b' := by have := two_pow_pos (2 * h - 1); omega
        have ha' : 0 ≤ a' := by omega
        have hab' : a' < b' * 2 ^ (2 * h) := by
          rcases hp with ⟨_, rfl, rfl, e⟩ | ⟨_, rfl, rfl, e⟩
          · rw [← e]; exact hab
          · rw [← e, Int.pow_succ]
            have : b * 2 * (2 ^ n * 2) = b * 2 ^ n * 4 := by grind
            rw [this]
            have : 0 ≤ b * 2 ^ n := Int.mul_nonneg (by omega) (by omega)
            omega
        have ht := top_bounds hh1 hb1.1 hb1.2
        have hH := two_pow_pos h
        have eHH : (2 : Int) ^ (2 * h) = 2 ^ h * 2 ^ h := by rw [← Int.pow_add]; congr 1; omega
        have eb := Int.emod_add_mul_ediv b' (2 ^ h)
        have mb0 := Int.emod_nonneg b' (show (2 : Int) ^ h ≠ 0 by omega)
        have mb1 := Int.emod_lt_of_pos b' hH
        have hn' : ∀ m : Nat, ((m : Int)).toNat = m := fun m => Int.toNat_natCast m
        have call : ∀ (a12 a3 : Int), 0 ≤ a3 → a3 < 2 ^ h → 0 ≤ a12 → a12 < b' → ∃ k', AOk A k' ∧ FnC W PySem.Challenge.pw_op0122_02 34 k' [.int a12, .int a3, .int b', .int (b' / 2 ^ h), .int (b' % 2 ^ h), .int h] (.tup [.int ((a12 * 2 ^ h + a3) / b'), .int ((a12 * 2 ^ h + a3) % b')]) := fun a12 a3 g1 g2 g3 g4 => by
          by_cases q : a12 < b' / 2 ^ h * 2 ^ h
          · obtain ⟨k', hk', c⟩ := IH' a12 (b' / 2 ^ h) h (by omega) hh1 ht.1 ht.2.1 g3 q
            exact ⟨k' + 1, hA.le (by omega), div3_ok G H3 H2 (by omega) (by rw [Int.mul_comm]; omega) ht.2.2 ht.2.1 mb0 mb1 g1 g2 g3 g4 fun _ => c⟩
          · obtain ⟨k', hk', c⟩ := IH' 0 (b' / 2 ^ h) h (by omega) hh1 ht.1 ht.2.1 (by omega) (Int.mul_pos ht.2.2 hH)
            exact ⟨k' + 1, hA.le (by omega), div3_ok G H3 H2 (by omega) (by rw [Int.mul_comm]; omega) ht.2.2 ht.2.1 mb0 mb1 g1 g2 g3 g4 fun q' => absurd q' q⟩
        refine x_assign S (Ev.cast (d' := .int (h : Int)) (ev_bin (by walk_at "m_nm") ev_int (op_shr (by decide))) ?_) (.inl rfl) rfl fun s₁ S₁ => ?_
        · rw [show ((1 : Int)).toNat = 1 from rfl, fdiv_pow, Int.pow_succ, Int.pow_zero]
          congr 1; omega
        refine x_assign S₁ (Ev.cast (d' := .int (2 ^ h - 1)) (ev_bin (ev_bin ev_int (by walk_at "m_nm") (op_shl (by omega) ?_)) ev_int op_sub) ?_) (.inl rfl) rfl fun s₂ S₂ => ?_
        · have : intBits 1 = 1 := by decide +kernel
          rw [this]; omega
        · rw [hn', Int.one_mul]
        refine x_unpack2s S₂ hA.handled (ev_tuple (evs_cons (Ev.cast (d' := .int (b' / 2 ^ h)) (ev_bin (by walk_at "m_nm") (by walk_at "m_nm") (op_shr (by omega))) ?_) (evs_cons (Ev.cast (d' := .int (b' % 2 ^ h)) (ev_bin (by walk_at "m_nm") (by walk_at "m_nm") op_and) ?_) evs_nil rfl) rfl) (by simp)) (.inl rfl) (.inl rfl) rfl rfl fun s₃ S₃ => ?_
        · rw [hn', fdiv_pow]
        · rw [bitAnd_mask (by omega)]
        have d0 : 0 ≤ a' / 2 ^ (2 * h) := Int.ediv_nonneg ha' (by have := two_pow_pos (2 * h); omega)
        have d1 : a' / 2 ^ (2 * h) < b' := Int.ediv_lt_of_lt_mul (two_pow_pos _) hab'
        have m0 := Int.emod_nonneg (a' / 2 ^ h) (show (2 : Int) ^ h ≠ 0 by omega)
        have m1 := Int.emod_lt_of_pos (a' / 2 ^ h) hH
        obtain ⟨k₁, hA₁, c₁⟩ := call (a' / 2 ^ (2 * h)) (a' / 2 ^ h % 2 ^ h) m0 m1 d0 d1
        have e₁ : a' / 2 ^ (2 * h) * 2 ^ h + a' / 2 ^ h % 2 ^ h = a' / 2 ^ h := by rw [eHH]; exact split_top hH
        rw [e₁] at c₁
        refine x_unpack2 S₃ hA.handled (ev_callN G hA₁ H3 rfl rfl rfl (evs_cons (Ev.cast (ev_bin (by walk_at "m_nm") (by walk_at "m_nm") (op_shr (by omega))) ?_) (evs_cons (Ev.cast (ev_bin (ev_bin (by walk_at "m_nm") (by walk_at "m_nm") (op_shr (by omega))) (by walk_at "m_nm") op_and) ?_) (evs_cons (by walk_at "m_nm") (evs_cons (by walk_at "m_nm") (evs_cons (by walk_at "m_nm") (evs_cons (by walk_at "m_nm") evs_nil rfl) rfl) rfl) rfl) rfl) rfl) c₁ rfl) (.inl rfl) (.inl rfl) rfl rfl fun s₄ S₄ => ?_
        · rw [hn', fdiv_pow]
        · rw [hn', fdiv_pow, bitAnd_mask (Int.ediv_nonneg ha' (by omega))]
        have r0 := Int.emod_nonneg (a' / 2 ^ h) (show b' ≠ 0 by omega)
        have r1 := Int.emod_lt_of_pos (a' / 2 ^ h) hbp'
        have l0 := Int.emod_nonneg a' (show (2 : Int) ^ h ≠ 0 by omega)
        have l1 := Int.emod_lt_of_pos a' hH
        obtain ⟨k₂, hA₂, c₂⟩ := call (a' / 2 ^ h % b') (a' % 2 ^ h) l0 l1 r0 r1
        obtain ⟨v1, v2, v3, v4⟩ := halves (a := a') (b := b') hH hbp' ha'
        refine x_unpack2 S₄ hA.handled (ev_callN G hA₂ H3 rfl rfl rfl (evs_cons (by walk_at "m_nm") (evs_cons (Ev.cast (ev_bin (by walk_at "m_nm") (by walk_at "m_nm") op_and) ?_) (evs_cons (by walk_at "m_nm") (evs_cons (by walk_at "m_nm") (evs_cons (by walk_at "m_nm") (evs_cons (by walk_at "m_nm") evs_nil rfl) rfl) rfl) rfl) rfl) rfl) c₂ rfl) (.inl rfl) (.inl rfl) rfl rfl fun s₅ S₅ => ?_
        · rw [bitAnd_mask ha']
        rw [v2] at S₅
        have q0 : 0 ≤ a' / 2 ^ h / b' := Int.ediv_nonneg (Int.ediv_nonneg ha' (by omega)) (by omega)
        have last : ∀ (r : Int) s, r = a % b → St W B (fenv PySem.Challenge.pw_op0122_02 33 L f cd) [("r", .int r), ("q2", .int ((a' / 2 ^ h % b' * 2 ^ h + a' % 2 ^ h) / b')), ("q1", .int (a' / 2 ^ h / b')), ("half_n", .int h)] [] s →
            wpAny W.M A (execs ((fnB (stAt PySem.Challenge.pw_op0122_02 33)).drop 9) (fenv PySem.Challenge.pw_op0122_02 33 L f cd)) (fun fl s' => ∃ v, fl = .ret v ∧ Left W B s' ∧ Rep s'.heap B.O (.tup [.int (a / b), .int (a % b)]) v) (fun _ _ => False) s := by
          intro r s hr S
          have hdiv : a' / b' = a / b := by
            rcases hp with ⟨_, rfl, rfl, _⟩ | ⟨_, rfl, rfl, _⟩
            · rfl
            · exact Int.mul_ediv_mul_of_pos_left _ _ (by decide)
          refine x_return S (ev_tuple (evs_cons (Ev.cast (d' := .int (a / b)) (ev_bin (ev_bin (by walk_at "m_nm") (by walk_at "m_nm") (op_shl (by omega) ?_)) (by walk_at "m_nm") op_or) ?_) (evs_cons (Ev.cast (d' := .int (a % b)) (by walk_at "m_nm") (by rw [hr])) evs_nil rfl) rfl) (by simp)) fun v s' S' r' => ⟨v, rfl, S'.left, r'⟩
          · have : intBits (a' / 2 ^ h / b') ≤ 2 ^ 25 := by
              have g1 : a' / 2 ^ h / b' ≤ a' := Int.le_trans (Int.ediv_le_self _ (Int.ediv_nonneg ha' (by omega))) (Int.ediv_le_self _ ha')
              have g2 : a' < 2 ^ (2 * n + 1) := by rw [Int.pow_succ]; omega
              exact Nat.le_trans (intBits_le_of_lt q0 (Int.lt_of_le_of_lt g1 g2)) (by omega)
            omega
          · rw [hn', bitOr_low q0 v3 v4, v1, hdiv]
        refine x_if S₅ (tst_ev (by walk_at "m_nm") tru_int rfl) (fun hc s₆ S₆ => ?_) (fun hc s₆ S₆ => ?_)
        · refine x_aug S₆ (ld_loc rfl rfl) ev_int (iop_shr (by decide)) (.inl rfl) fun s₇ S₇ => x_nil (last _ s₇ ?_ (S₇.pick (by walk_at "m_pick")))
          rcases hp with ⟨rfl, _⟩ | ⟨_, rfl, rfl, _⟩
          · simp at hc
          · rw [show ((1 : Int)).toNat = 1 from rfl, fdiv_pow, Int.pow_succ, Int.pow_zero, Int.one_mul]
            rw [Int.mul_comm a 2, Int.mul_comm b 2, Int.mul_emod_mul_of_pos _ _ (by decide)]
            omega
        · refine x_nil (last _ s₆ ?_ (S₆.pick (by walk_at "m_pick")))
          rcases hp with ⟨_, rfl, rfl, _⟩ | ⟨rfl, _⟩
          · rfl
          · simp at hc
      refine x_if S₂ (tst_ev (by walk_at "m_nm") tru_int rfl) (fun hc s₃ S₃ => ?_) (fun hc s₃ S₃ => ?_)
      · have hodd : (n : Int) % 2 = 1 := by
          have : (n : Int) % 2 ≠ 0 := by simpa using hc
          omega
        refine x_aug S₃ (ld_loc rfl rfl) ev_int (iop_shl (by decide) ?_) (.inl rfl) fun s₄ S₄ => ?_
        · omega
        refine x_aug S₄ (ld_loc rfl rfl) ev_int (iop_shl (by decide) ?_) (.inl rfl) fun s₅ S₅ => ?_
        · omega
        refine x_aug S₅ (ld_loc rfl rfl) ev_int iop_add (.inl rfl) fun s₆ S₆ => x_nil ?_
        refine tail (a * 2) (b * 2) 1 ((n + 1) / 2) s₆ (.inr ⟨rfl, rfl, rfl, by omega⟩) ?_
        have e : ((2 * ((n + 1) / 2) : Nat) : Int) = (n : Int) + 1 := by omega
        rw [e]
        rw [hodd] at S₆
        exact S₆.pick (by walk_at "m_pick")
      · have heven : (n : Int) % 2 = 0 := by simpa using hc
        refine x_nil (tail a b 0 (n / 2) s₃ (.inl ⟨rfl, rfl, rfl, by omega⟩) ?_)
        have e : ((2 * (n / 2) : Nat) : Int) = (n : Int) := by omega
        rw [e]
        rw [heven] at S₃
        exact S₃.pick (by walk_at "m_pick")

theorem div2_ok (H3 : HasFn W PySem.Challenge.pw_op0122_02 34) (H2 : HasFn W PySem.Challenge.pw_op0122_02 33) {tl : Tok} (HL : W.mg "_DIV_LIMIT" = some (.int 4000 tl)) (HD : W.mg "divmod" = none) : ∀ (j : Nat), j ≤ 10 → ∀ {a b : Int} {n : Nat}, n ≤ 4000 * 2 ^ j → 1 ≤ n → 2 ^ (n - 1) ≤ b → b < 2 ^ n → 0 ≤ a → a < b * 2 ^ n →
    FnC W PySem.Challenge.pw_op0122_02 33 (2 * j + 1) [.int a, .int b, .int n] (.tup [.int (a / b), .int (a % b)]) := by
  intro j
  induction j with
  | zero =>
    intro _ a b n hn h1 hb hb' ha hab
    refine div2_step G H3 H2 HL HD (by omega) h1 hb hb' ha hab (fun q => absurd hn (by omega))
  | succ j ih =>
    intro hj a b n hn h1 hb hb' ha hab
    have hj2 : 2 ^ j ≤ 2 ^ 10 := Nat.pow_le_pow_right (by decide) (by omega)
    have hn2 : n ≤ 8000 * 2 ^ j := by rw [Nat.pow_succ] at hn; omega
    refine div2_step G H3 H2 HL HD (by omega) h1 hb hb' ha hab fun _ a' b' h e1 e2 e3 e4 e5 e6 => ⟨2 * j + 1, by omega, ih (by omega) (by omega) e2 e3 e4 e5 e6⟩
end
end Mine
end

section
-- F2_02
open PySem PySem.W PySem.Calls PyProof.Rows
set_option maxRecDepth 100000

namespace Mine
open Builtin.Int (intBits)

local macro_rules | `(tactic| walk_at "m_nm") => `(tactic| first
  | exact ev_loc rfl rfl rfl
  | exact ev_cell rfl rfl rfl
  | exact ev_free rfl rfl rfl rfl)
local macro_rules | `(tactic| walk_at "m_pick") => `(tactic| (intro p hp; simp only [List.mem_cons, List.not_mem_nil, or_false] at hp; repeat' (first | (subst hp; rfl) | (rcases hp with hp | hp))))

section
variable {W : Wd} (G : W.Ok)
include G

theorem d2i_ok {t : Tb} (H : HasFnT W PySem.Challenge.pw_op0122_02 36 0 t) (HL : W.mg "len" = none) {xs : List Int} {n k : Nat} (hx : xs.length ≤ 200) (hn : n ≤ 2 ^ 16) (hk : k ≤ 2 ^ 20) (hd : ∀ x ∈ xs, 0 ≤ x ∧ x < 2 ^ k) :
    FnC W PySem.Challenge.pw_op0122_02 36 (xs.length + 2) [.lst (xs.map .int), .int n] (.int (packI n xs)) := by
  refine fn_defT (xs := ["digits", "n"]) G H ?_ rfl (by decide +kernel) (by decide +kernel) (by decide +kernel) ?_ rfl rfl rfl
  · intro pm cd doc vs h
    match vs, h with
    | [a, b], _ => rfl
  · intro A B L f s hA S C
    unfold BodyOk
    refine x_def G S C (cells_cn (by decide +kernel)) H.mem rfl H.pos (by rw [H.qual]; rfl) rfl rfl (.inr ⟨rfl, C, rfl⟩) rfl rfl rfl fun fi doc pm c' ctv b' s' S' C' hO hs₀ hback hfi hfP hrec hcP => ?_
    have G' := lift_ok S' G
    have HF := lift_fn S' hfi hfP hrec hcP
    have inner : ∀ (m lo r : Nat), lo < r → r ≤ xs.length → r - lo ≤ m → Fn (lift W b' (fenv PySem.Challenge.pw_op0122_02 36 L f (.ref t.c)) [] s') m (.ref fi) [.int lo, .int r] (.int (packI n ((xs.drop lo).take (r - lo)))) := by
      intro m
      induction m with
      | zero => intro lo r h1 h2 h3; omega
      | succ m ih =>
        intro lo r h1 h2 h3
        refine fnX_intro (xs := ["L", "R"]) (DC := [("digits", .lst (xs.map .int)), ("n", .int n), ("inner", .raw (.ref fi))]) G' HF.1 HF.2 ?_ (by walk_at "m_pick") ?_ ?_ ?_ rfl (by decide +kernel) (by decide +kernel) (by decide +kernel) ?_ rfl rfl rfl
        · intro x d hd
          have hm := mem_of_lookup hd
          simp only [List.mem_cons, List.not_mem_nil, or_false, Prod.mk.injEq] at hm
          rcases hm with ⟨rfl, rfl⟩ | ⟨rfl, rfl⟩ | ⟨rfl, rfl⟩
          · obtain ⟨c, v, g1, g2, g3⟩ := lift_cell S' (x := "digits") (.inl rfl) rfl
            exact ⟨c, v, g1, g2, g3⟩
          · obtain ⟨c, v, g1, g2, g3⟩ := lift_cell S' (x := "n") (.inl rfl) rfl
            exact ⟨c, v, g1, g2, g3⟩
          · obtain ⟨c, v, g1, g2, g3⟩ := lift_cell S' (x := "inner") (.inl rfl) rfl
            exact ⟨c, v, g1, g2, g3⟩
        · intro x c hc
          have hm := mem_of_lookup hc
          simp only [List.mem_cons, List.not_mem_nil, or_false, Prod.mk.injEq] at hm
          rcases hm with ⟨rfl, rfl⟩ | ⟨rfl, rfl⟩ | ⟨rfl, rfl⟩
          · obtain ⟨c, v, g1, g2, g3⟩ := lift_cell S' (x := "n") (.inl rfl) rfl
            cases g1; exact ⟨_, g2⟩
          · obtain ⟨c, v, g1, g2, g3⟩ := lift_cell S' (x := "inner") (.inl rfl) rfl
            cases g1; exact ⟨_, g2⟩
          · obtain ⟨c, v, g1, g2, g3⟩ := lift_cell S' (x := "digits") (.inl rfl) rfl
            cases g1; exact ⟨_, g2⟩
        · refine List.Pairwise.cons (fun y hy => ?_) (List.Pairwise.cons (fun y hy => ?_) (List.Pairwise.cons (fun y hy => (nomatch hy)) .nil))
          · simp only [List.mem_cons, List.not_mem_nil, or_false] at hy
            rcases hy with rfl | rfl
            · exact Nat.ne_of_lt (Nat.lt_succ_self _)
            · exact Nat.ne_of_gt (Nat.lt_succ_self _)
          · simp only [List.mem_cons, List.not_mem_nil, or_false] at hy
            subst hy
            exact Nat.ne_of_gt (Nat.lt_succ_of_lt (Nat.lt_succ_self _))
        · intro vs h
          match vs, h with
          | [a, b], _ => rfl
        · intro A₂ B₂ L₂ s₂ hA₂ S₂
          unfold BodyOk
          refine x_if S₂ (tst_cmp (ev_bin (by walk_at "m_nm") ev_int op_add) (by walk_at "m_nm") op_eq rfl) (fun hc s₃ S₃ => ?_) (fun hc s₃ S₃ => ?_)
          · have hc' : lo + 1 = r := by
              have : (lo : Int) + 1 = r := by simpa using hc
              omega
            have hlt : lo < xs.length := by omega
            refine x_return S₃ (d := .int xs[lo]) (ev_sub (by walk_at "m_nm") (by walk_at "m_nm") (op_item_list (by omega) (by omega) ?_ (fun _ _ => rfl))) fun v s' S' r' => ⟨v, rfl, S'.left, ?_⟩
            · rw [Int.toNat_natCast, List.getElem?_map, List.getElem?_eq_getElem hlt]; rfl
            · have e : (xs.drop lo).take (r - lo) = [xs[lo]] := by
                rw [show r - lo = 1 by omega, List.drop_eq_getElem_cons hlt, List.take_succ_cons, List.take_zero]
              rw [e, packI_single]; exact r'
          · have hc' : ¬ lo + 1 = r := fun q => by
              have : ¬ (lo : Int) + 1 = r := by simpa using hc
              omega
            refine x_nil ?_
            have hmid : ((lo : Int) + r) / 2 = ((lo + r) / 2 : Nat) := by omega
            generalize hM : (lo + r) / 2 = M at hmid
            have l1 : lo < M := by omega
            have l2 : M < r := by omega
            refine x_assign S₃ (Ev.cast (d' := .int (M : Int)) (ev_bin (ev_bin (by walk_at "m_nm") (by walk_at "m_nm") op_add) ev_int (op_shr (by decide))) ?_) (.inl rfl) rfl fun s₄ S₄ => ?_
            · rw [show ((1 : Int)).toNat = 1 from rfl, fdiv_pow, Int.pow_succ, Int.pow_zero, Int.one_mul, hmid]
            refine x_assign S₄ (Ev.cast (d' := .int (((M - lo) * n : Nat) : Int)) (ev_bin (ev_bin (by walk_at "m_nm") (by walk_at "m_nm") op_sub) (by walk_at "m_nm") (op_mul (intMulOk_small (by omega) (by omega) (by omega) (by omega)))) ?_) (.inl rfl) rfl fun s₅ S₅ => ?_
            · rw [Int.natCast_mul, Int.natCast_sub (by omega)]
            have sub : ∀ y ∈ (xs.drop M).take (r - M), 0 ≤ y ∧ y < 2 ^ k := fun y hy => hd y (List.mem_of_mem_drop (List.mem_of_mem_take hy))
            have bd := packI_bound n _ sub
            have ln : ((xs.drop M).take (r - M)).length ≤ 200 := by rw [List.length_take, List.length_drop]; omega
            have key : packI n ((xs.drop M).take (r - M)) * 2 ^ ((M - lo) * n) + packI n ((xs.drop lo).take (M - lo)) = packI n ((xs.drop lo).take (r - lo)) := by
              have e1 : (xs.drop lo).take (r - lo) = (xs.drop lo).take (M - lo) ++ (xs.drop M).take (r - M) := by
                rw [show r - lo = (M - lo) + (r - M) by omega, List.take_add, List.drop_drop]
                congr 3; omega
              have e2 : ((xs.drop lo).take (M - lo)).length = M - lo := by rw [List.length_take, List.length_drop]; omega
              rw [e1, packI_append, e2, Nat.mul_comm]; omega
            refine x_return S₅ (Ev.cast (ev_bin (ev_bin (ev_callV hA₂ (by walk_at "m_nm") HF.1 rfl (evs_cons (by walk_at "m_nm") (evs_cons (by walk_at "m_nm") evs_nil rfl) rfl) (ih M r l2 h2 (by omega)) rfl) (by walk_at "m_nm") (op_shl (by omega) ?_)) (ev_callV hA₂ (by walk_at "m_nm") HF.1 rfl (evs_cons (by walk_at "m_nm") (evs_cons (by walk_at "m_nm") evs_nil rfl) rfl) (ih lo M l1 (by omega) (by omega)) rfl) op_add) ?_) fun v s' S' r' => ⟨v, rfl, S'.left, r'⟩
            · have b1 := intBits_le_of_lt bd.1 bd.2
              have b2 : (n + 1) * ((xs.drop M).take (r - M)).length ≤ (2 ^ 16 + 1) * 200 := Nat.mul_le_mul (by omega) ln
              have b3 : (M - lo) * n ≤ 200 * 2 ^ 16 := Nat.mul_le_mul (by omega) hn
              omega
            · rw [Int.toNat_natCast, key]
    have done : wpAny (lift W b' (fenv PySem.Challenge.pw_op0122_02 36 L f (.ref t.c)) [] s').M A (execs ((fnB (stAt PySem.Challenge.pw_op0122_02 36)).drop 1) (fenv PySem.Challenge.pw_op0122_02 36 L f (.ref t.c))) (fun fl s'' => ∃ v, fl = .ret v ∧ Left W B s'' ∧ Rep s''.heap B.O (.int (packI n xs)) v) (fun _ _ => False) s' := by
      refine x_return (lift_st S') (d := .int (packI n xs)) (ev_if (tst_ev (by walk_at "m_nm") (tru_list (by rw [List.length_map]; omega)) rfl) (fun hc => ?_) (fun hc => ?_)) fun v s'' S'' r'' => ⟨v, rfl, ?_, ?_⟩
      · have hne : xs ≠ [] := by
          intro q; subst q; simp at hc
        have hpos : 0 < xs.length := List.length_pos_iff.mpr hne
        have hi := inner xs.length 0 xs.length hpos (Nat.le_refl _) (by omega)
        rw [List.drop_zero, Nat.sub_zero, List.take_length] at hi
        refine ev_callV (hA.le (by omega)) (by walk_at "m_nm") HF.1 rfl (evs_cons ev_int (evs_cons (Ev.cast (d' := .int xs.length) (ev_bcall G' rfl rfl HL PyProof.Rows.Boot.len (by decide +kernel) (evs_cons (by walk_at "m_nm") evs_nil rfl) (bc_len_list (by rw [List.length_map]; omega)) rfl rfl) (by rw [List.length_map])) evs_nil rfl) rfl) hi rfl
      · have : xs = [] := by
          cases xs with
          | nil => rfl
          | cons x xs => simp at hc
        subst this
        exact ev_int
      · have l := lift_left S' G S''.left
        exact ⟨l.inv, hback _ l.ext, hs₀ ▸ l.same⟩
      · rw [← hO]; exact r''
    exact done
end
end Mine
end

section
-- F3_02
open PySem PySem.W PySem.Calls PyProof.Rows
set_option maxRecDepth 100000

namespace Mine
open Builtin.Int (intBits)

local macro_rules | `(tactic| walk_at "m_nm") => `(tactic| first
  | exact ev_loc rfl rfl rfl
  | exact ev_cell rfl rfl rfl
  | exact ev_free rfl rfl rfl rfl)
local macro_rules | `(tactic| walk_at "m_pick") => `(tactic| (intro p hp; simp only [List.mem_cons, List.not_mem_nil, or_false] at hp; repeat' (first | (subst hp; rfl) | (rcases hp with hp | hp))))

section
variable {W : Wd} (G : W.Ok)
include G

theorem i2d_ok {t : Tb} (H : HasFnT W PySem.Challenge.pw_op0122_02 35 1 t) (HL : W.mg "len" = none) {a : Int} {n : Nat} (ha : 0 ≤ a) (hn : 1 ≤ n) (hn' : n ≤ 2 ^ 23) (hd : nDig a n ≤ 200) (hnm : n * nDig a n ≤ 2 ^ 26) :
    FnC W PySem.Challenge.pw_op0122_02 35 (nDig a n + 2) [.int a, .int n] (.lst ((digitsI n (nDig a n) a).map .int)) := by
  have hab := nDig_bound hn ha
  refine fn_defT (xs := ["a", "n"]) G H ?_ rfl (by decide +kernel) (by decide +kernel) (by decide +kernel) ?_ rfl rfl rfl
  · intro pm cd doc vs h
    match vs, h with
    | [a, b], _ => rfl
  · intro A B L f s hA S C
    unfold BodyOk
    generalize hm : nDig a n = m at *
    refine x_new S (ds := List.replicate m (.int 0)) ?_ (.inr ⟨rfl, C, rfl⟩) rfl fun l s₁ S₁ => ?_
    · refine (fun b OL s S => (evn_mul (x := (m : Int)) (d := .int 0) ev_int (Ev.cast (ev_bin (ev_bin (ev_bin (ev_meth0 (by walk_at "m_nm") gm_bit_length bc_bit_length rfl) (by walk_at "m_nm") op_add) ev_int op_sub) (by walk_at "m_nm") (op_fdiv (by omega) (PyProof.noPylong_small (by omega)))) ?_) (by omega) (by omega) rfl) b OL s S)
      rw [fdiv_pos _ (by omega), ← hm]
      unfold nDig
      congr 1
      rw [Int.natCast_ediv]
      congr 1
      omega
    refine x_def G S₁ C (cells_cn (by decide +kernel)) H.mem rfl H.pos (by rw [H.qual]; rfl) rfl rfl (.inr ⟨rfl, C, rfl⟩) rfl rfl rfl fun fi doc pm c' ctv b' s' S' C' hO hs₀ hback hfi hfP hrec hcP => ?_
    have G' := lift_ok S' G
    have HF := lift_fn S' hfi hfP hrec hcP
    have inner : ∀ (q lo r : Nat) (x : Int) (ds : List Dt), lo < r → r ≤ ds.length → ds.length < 2 ^ 20 → r - lo ≤ q → n * (r - lo) ≤ 2 ^ 26 → 0 ≤ x → x < 2 ^ (n * (r - lo)) →
        MFn (lift W b' (fenv PySem.Challenge.pw_op0122_02 35 L f (.ref t.c)) [(l, List.replicate m (.int 0))] s') q (.ref fi) l [.int x, .int lo, .int r] ds (ds.take lo ++ ((digitsI n (r - lo) x).map .int ++ ds.drop r)) := by
      intro q
      induction q with
      | zero => intro lo r x ds h1 h2 h3; omega
      | succ q ih =>
        intro lo r x ds h1 h2 hds h3 h3' hx0 hx
        refine mfnX_intro (xs := ["x", "L", "R"]) (DC := [("a_digits", .raw (.ref l)), ("n", .int n), ("inner", .raw (.ref fi))]) G' HF.1 HF.2 ?_ (by walk_at "m_pick") ?_ ?_ ?_ rfl (by decide +kernel) (by decide +kernel) (by decide +kernel) ?_ rfl rfl rfl
        · intro x d hd
          have hm := mem_of_lookup hd
          simp only [List.mem_cons, List.not_mem_nil, or_false, Prod.mk.injEq] at hm
          rcases hm with ⟨rfl, rfl⟩ | ⟨rfl, rfl⟩ | ⟨rfl, rfl⟩
          · obtain ⟨c, v, g1, g2, g3⟩ := lift_cell S' (x := "a_digits") (.inl rfl) rfl
            exact ⟨c, v, g1, g2, g3⟩
          · obtain ⟨c, v, g1, g2, g3⟩ := lift_cell S' (x := "n") (.inl rfl) rfl
            exact ⟨c, v, g1, g2, g3⟩
          · obtain ⟨c, v, g1, g2, g3⟩ := lift_cell S' (x := "inner") (.inl rfl) rfl
            exact ⟨c, v, g1, g2, g3⟩
        · intro x c hc
          have hm := mem_of_lookup hc
          simp only [List.mem_cons, List.not_mem_nil, or_false, Prod.mk.injEq] at hm
          rcases hm with ⟨rfl, rfl⟩ | ⟨rfl, rfl⟩ | ⟨rfl, rfl⟩
          · obtain ⟨c, v, g1, g2, g3⟩ := lift_cell S' (x := "n") (.inl rfl) rfl
            cases g1; exact ⟨_, g2⟩
          · obtain ⟨c, v, g1, g2, g3⟩ := lift_cell S' (x := "inner") (.inl rfl) rfl
            cases g1; exact ⟨_, g2⟩
          · obtain ⟨c, v, g1, g2, g3⟩ := lift_cell S' (x := "a_digits") (.inl rfl) rfl
            cases g1; exact ⟨_, g2⟩
        · refine List.Pairwise.cons (fun y hy => ?_) (List.Pairwise.cons (fun y hy => ?_) (List.Pairwise.cons (fun y hy => (nomatch hy)) .nil))
          · simp only [List.mem_cons, List.not_mem_nil, or_false] at hy
            rcases hy with rfl | rfl
            · exact Nat.ne_of_lt (Nat.lt_succ_of_lt (Nat.lt_succ_self _))
            · exact Nat.ne_of_lt (Nat.lt_succ_self _)
          · simp only [List.mem_cons, List.not_mem_nil, or_false] at hy
            subst hy
            exact Nat.ne_of_gt (Nat.lt_succ_self _)
        · intro vs h
          match vs, h with
          | [a, b, c], _ => rfl
        · intro A₂ B₂ L₂ s₂ hA₂ S₂
          refine x_if S₂ (tst_cmp (ev_bin (by walk_at "m_nm") ev_int op_add) (by walk_at "m_nm") op_eq rfl) (fun hc s₃ S₃ => ?_) (fun hc s₃ S₃ => ?_)
          · have hc' : lo + 1 = r := by
              have : (lo : Int) + 1 = r := by simpa using hc
              omega
            refine x_setitem S₃ (by walk_at "m_nm") (by walk_at "m_nm") (by walk_at "m_nm") (by omega) (by omega) (by omega) rfl fun s₄ S₄ => ?_
            refine x_return_none ⟨.inr rfl, ?_⟩
            have e : ds.take lo ++ ((digitsI n (r - lo) x).map .int ++ ds.drop r) = ds.set ((lo : Int)).toNat (.int x) := by
              have e1 : r - lo = 1 := by omega
              rw [e1] at hx ⊢
              rw [Nat.mul_one] at hx
              rw [digitsI_one n hx0 hx, Int.toNat_natCast, ← hc', List.set_eq_take_append_cons_drop, if_pos (by omega)]
              rfl
            rw [e]; exact ⟨_, S₄⟩
          · have hc' : ¬ lo + 1 = r := fun q => by
              have : ¬ (lo : Int) + 1 = r := by simpa using hc
              omega
            refine x_nil ?_
            have hmid : ((lo : Int) + r) / 2 = ((lo + r) / 2 : Nat) := by omega
            generalize hM : (lo + r) / 2 = M at hmid
            have l1 : lo < M := by omega
            have l2 : M < r := by omega
            refine x_assign S₃ (Ev.cast (d' := .int (M : Int)) (ev_bin (ev_bin (by walk_at "m_nm") (by walk_at "m_nm") op_add) ev_int (op_shr (by decide))) ?_) (.inl rfl) rfl fun s₄ S₄ => ?_
            · rw [show ((1 : Int)).toNat = 1 from rfl, fdiv_pow, Int.pow_succ, Int.pow_zero, Int.one_mul, hmid]
            refine x_assign S₄ (Ev.cast (d' := .int (((M - lo) * n : Nat) : Int)) (ev_bin (ev_bin (by walk_at "m_nm") (by walk_at "m_nm") op_sub) (by walk_at "m_nm") (op_mul (intMulOk_small (by omega) (by omega) (by omega) (by omega)))) ?_) (.inl rfl) rfl fun s₅ S₅ => ?_
            · rw [Int.natCast_mul, Int.natCast_sub (by omega)]
            have hp := two_pow_pos ((M - lo) * n)
            refine x_assign S₅ (Ev.cast (d' := .int (x / 2 ^ ((M - lo) * n))) (ev_bin (by walk_at "m_nm") (by walk_at "m_nm") (op_shr (by omega))) ?_) (.inl rfl) rfl fun s₆ S₆ => ?_
            · rw [Int.toNat_natCast, fdiv_pow]
            have u0 : 0 ≤ x / 2 ^ ((M - lo) * n) := Int.ediv_nonneg hx0 (by omega)
            have e6 : n * (M - lo) ≤ n * (r - lo) := Nat.mul_le_mul_left n (by omega)
            have e7 : n * (r - M) ≤ n * (r - lo) := Nat.mul_le_mul_left n (by omega)
            refine x_assign S₆ (Ev.cast (d' := .int (x % 2 ^ ((M - lo) * n))) (ev_bin (by walk_at "m_nm") (ev_bin (by walk_at "m_nm") (by walk_at "m_nm") (op_shl (by omega) ?_)) op_xor) ?_) (.inl rfl) rfl fun s₇ S₇ => ?_
            · have b1 : intBits (x / 2 ^ ((M - lo) * n)) ≤ n * (r - lo) := intBits_le_of_lt u0 (Int.lt_of_le_of_lt (Int.ediv_le_self _ hx0) hx)
              rw [Nat.mul_comm n (M - lo)] at e6
              omega
            · rw [Int.toNat_natCast, bitXor_high hx0]
            have w1 : x % 2 ^ ((M - lo) * n) < 2 ^ (n * (M - lo)) := by rw [Nat.mul_comm n]; exact Int.emod_lt_of_pos _ hp
            have w2 : x / 2 ^ ((M - lo) * n) < 2 ^ (n * (r - M)) := by
              refine Int.ediv_lt_of_lt_mul hp ?_
              have e5 : n * (r - lo) = n * (r - M) + (M - lo) * n := by rw [Nat.mul_comm (M - lo) n, ← Nat.mul_add]; congr 1; omega
              rw [e5] at hx
              rw [← Int.pow_add]
              exact hx
            refine x_mcall S₇ hA₂ (by walk_at "m_nm") HF.1 rfl (Evs.o (evs_cons (by walk_at "m_nm") (evs_cons (by walk_at "m_nm") (evs_cons (by walk_at "m_nm") evs_nil rfl) rfl) rfl)) (ih lo M _ ds l1 (by omega) hds (by omega) (by omega) (Int.emod_nonneg _ (by omega)) w1) rfl rfl rfl fun s₈ S₈ => ?_
            have len1 : (ds.take lo ++ ((digitsI n (M - lo) (x % 2 ^ ((M - lo) * n))).map Dt.int ++ ds.drop M)).length = ds.length := by
              simp only [List.length_append, List.length_take, List.length_map, digitsI_length, List.length_drop]; omega
            refine x_mcall S₈ hA₂ (by walk_at "m_nm") HF.1 rfl (Evs.o (evs_cons (by walk_at "m_nm") (evs_cons (by walk_at "m_nm") (evs_cons (by walk_at "m_nm") evs_nil rfl) rfl) rfl)) (ih M r _ _ l2 (by rw [len1]; exact h2) (by rw [len1]; exact hds) (by omega) (by omega) u0 w2) rfl rfl rfl fun s₉ S₉ => ?_
            refine x_nil ⟨.inl rfl, ?_⟩
            have e : ds.take lo ++ ((digitsI n (r - lo) x).map .int ++ ds.drop r) = (ds.take lo ++ ((digitsI n (M - lo) (x % 2 ^ ((M - lo) * n))).map Dt.int ++ ds.drop M)).take M ++ ((digitsI n (r - M) (x / 2 ^ ((M - lo) * n))).map .int ++ (ds.take lo ++ ((digitsI n (M - lo) (x % 2 ^ ((M - lo) * n))).map Dt.int ++ ds.drop M)).drop r) := by
              have e0 : r - lo = (M - lo) + (r - M) := by omega
              rw [e0, digitsI_add, Nat.mul_comm n]
              have lA : (ds.take lo ++ (digitsI n (M - lo) (x % 2 ^ ((M - lo) * n))).map Dt.int).length = M := by
                simp only [List.length_append, List.length_take, List.length_map, digitsI_length]; omega
              rw [← List.append_assoc (ds.take lo) ((digitsI n (M - lo) (x % 2 ^ ((M - lo) * n))).map Dt.int) (ds.drop M), splice1 lA, splice2 lA (by omega)]
              simp only [List.map_append, List.append_assoc]
            rw [e]; exact ⟨_, S₉⟩
    have done : wpAny (lift W b' (fenv PySem.Challenge.pw_op0122_02 35 L f (.ref t.c)) [(l, List.replicate m (.int 0))] s').M A (execs ((fnB (stAt PySem.Challenge.pw_op0122_02 35)).drop 2) (fenv PySem.Challenge.pw_op0122_02 35 L f (.ref t.c))) (fun fl s'' => ∃ v, fl = .ret v ∧ Left W B s'' ∧ Rep s''.heap B.O (.lst ((digitsI n m a).map .int)) v) (fun _ _ => False) s' := by
      have fin : ∀ s'', St (lift W b' (fenv PySem.Challenge.pw_op0122_02 35 L f (.ref t.c)) [(l, List.replicate m (.int 0))] s') b' (fenv PySem.Challenge.pw_op0122_02 35 L f (.ref t.c)) [("a_digits", .raw (.ref l))] [(l, (digitsI n m a).map .int)] s'' →
          wpAny (lift W b' (fenv PySem.Challenge.pw_op0122_02 35 L f (.ref t.c)) [(l, List.replicate m (.int 0))] s').M A (execs ((fnB (stAt PySem.Challenge.pw_op0122_02 35)).drop 3) (fenv PySem.Challenge.pw_op0122_02 35 L f (.ref t.c))) (fun fl s'' => ∃ v, fl = .ret v ∧ Left W B s'' ∧ Rep s''.heap B.O (.lst ((digitsI n m a).map .int)) v) (fun _ _ => False) s'' := by
        intro s'' S''
        refine x_return (S''.freeze (x := "a_digits") rfl) (by walk_at "m_nm") fun v s₃ S₃ r₃ => ⟨v, rfl, ?_, ?_⟩
        · have l := lift_left S' G S₃.left
          exact ⟨l.inv, hback _ l.ext, hs₀ ▸ l.same⟩
        · rw [← hO]; exact r₃
      refine x_if (lift_st S') (tst_ev (by walk_at "m_nm") tru_int rfl) (fun hc s₂ S₂ => ?_) (fun hc s₂ S₂ => ?_)
      · have ha0 : a ≠ 0 := by simpa using hc
        have hm1 : 1 ≤ m := by
          have := (intBits_bounds (b := a) (by omega)).1
          rw [← hm]
          unfold nDig
          exact Nat.div_pos (by omega) (by omega)
        have hi := inner m 0 m a (List.replicate m (.int 0)) (by omega) (by simp) (by rw [List.length_replicate]; omega) (by omega) (by omega) ha (by rw [Nat.sub_zero]; exact hab)
        have hlen := fun {p p' pos} => evO_len (A := A) (b := b') (env := fenv PySem.Challenge.pw_op0122_02 35 L f (.ref t.c)) (x := "a_digits") (f := "len") (p := p) (p' := p') (pos := pos) (l := l) (ds := List.replicate m (.int 0)) G' rfl rfl HL PyProof.Rows.Boot.len (by decide +kernel) (D := _) (show Ev _ _ _ (("inner", .raw (.ref fi)) :: ("a_digits", .raw (.ref l)) :: [("a", .int a), ("n", .int n)]) _ _ by walk_at "m_nm") (by rw [List.length_replicate]; omega) rfl
        rw [List.length_replicate] at hlen
        refine x_mcall S₂ (hA.le (by omega)) (by walk_at "m_nm") HF.1 rfl (evsO_cons (Ev.o (by walk_at "m_nm")) (evsO_cons (Ev.o ev_int) (evsO_cons hlen (Evs.o evs_nil) rfl) rfl) rfl) hi rfl rfl rfl fun s₃ S₃ => x_nil (fin s₃ ?_)
        · have e : (List.replicate m (Dt.int 0)).take 0 ++ ((digitsI n (m - 0) a).map .int ++ (List.replicate m (Dt.int 0)).drop m) = (digitsI n m a).map .int := by simp
          rw [e] at S₃
          exact S₃.pick (by walk_at "m_pick")
      · have ha0 : a = 0 := by simpa using hc
        have hm0 : m = 0 := by
          rw [← hm, ha0]
          unfold nDig
          have : intBits 0 = 0 := by decide +kernel
          rw [this]
          exact Nat.div_eq_of_lt (by omega)
        refine x_nil (fin s₂ ?_)
        subst hm0
        exact S₂.pick (by walk_at "m_pick")
    exact done
end
end Mine
end

section
-- F4_02
open PySem PySem.W PySem.Calls PyProof.Rows
set_option maxRecDepth 100000

namespace Mine
open Builtin.Int (intBits)

local macro_rules | `(tactic| walk_at "m_nm") => `(tactic| first
  | exact ev_loc rfl rfl rfl
  | exact ev_cell rfl rfl rfl
  | exact ev_free rfl rfl rfl rfl)
local macro_rules | `(tactic| walk_at "m_pick") => `(tactic| (intro p hp; simp only [List.mem_cons, List.not_mem_nil, or_false] at hp; repeat' (first | (subst hp; rfl) | (rcases hp with hp | hp))))

/-- What the division leans on. -/
structure Dv (W : Wd) (ti td : Tb) : Prop where
  G : W.Ok
  div2 : HasFn W PySem.Challenge.pw_op0122_02 33
  div3 : HasFn W PySem.Challenge.pw_op0122_02 34
  i2d : HasFnT W PySem.Challenge.pw_op0122_02 35 1 ti
  d2i : HasFnT W PySem.Challenge.pw_op0122_02 36 0 td
  dpos : HasFn W PySem.Challenge.pw_op0122_02 37
  dm : HasFn W PySem.Challenge.pw_op0122_02 38
  limit : ∃ tl, W.mg "_DIV_LIMIT" = some (.int 4000 tl)
  len : W.mg "len" = none
  divmod : W.mg "divmod" = none
  reversed : W.mg "reversed" = none

theorem dpos_ok {W : Wd} {ti td : Tb} (H : Dv W ti td) {a b : Int} (ha : 0 ≤ a) (hb : 0 < b) (hn : intBits b ≤ 2 ^ 16) (hm : nDig a (intBits b) ≤ 200) :
    FnC W PySem.Challenge.pw_op0122_02 37 (nDig a (intBits b) + 14) [.int a, .int b] (.tup [.int (a / b), .int (a % b)]) := by
  have G := H.G
  obtain ⟨tl, HLim⟩ := H.limit
  obtain ⟨hn1, hb1, hb2⟩ := intBits_bounds hb
  have hab := nDig_bound hn1 ha
  refine fn_def (xs := ["a", "b"]) G H.dpos ?_ rfl (by decide +kernel) (by decide +kernel) (by decide +kernel) ?_ rfl rfl rfl
  · intro pm cd doc vs h
    match vs, h with
    | [a, b], _ => rfl
  · intro A B L f cd s hA S C
    unfold BodyOk
    refine x_assign S (ev_meth0 (by walk_at "m_nm") gm_bit_length bc_bit_length rfl) (.inl rfl) rfl fun s₁ S₁ => ?_
    generalize hnn : intBits b = n at *
    generalize hmm : nDig a n = m at *
    have hnm : n * m ≤ 2 ^ 26 := Nat.le_trans (Nat.mul_le_mul hn hm) (by decide)
    have ci := i2d_ok G H.i2d H.len (a := a) (n := n) ha hn1 (by omega) (by omega) (by rw [hmm]; exact hnm)
    rw [hmm] at ci
    refine x_assign S₁ (ev_callN G (hA.le (by omega)) H.i2d.has rfl rfl rfl (evs_cons (by walk_at "m_nm") (evs_cons (by walk_at "m_nm") evs_nil rfl) rfl) ci rfl) (.inl rfl) rfl fun s₂ S₂ => ?_
    refine x_assign S₂ ev_int (.inl rfl) rfl fun s₃ S₃ => ?_
    refine x_new S₃ evn_nil (.inl rfl) rfl fun l s₄ S₄ => ?_
    refine x_for' S₄ (ib_rev G hA.handled rfl rfl H.reversed PyProof.Rows.Boot.reversed (by decide +kernel) (by walk_at "m_nm") rfl) (fun _ => rfl) fun I fp wr P T K s₅ S₅ Z hT hK hwf => ?_
    have hdig := digitsI_bound n m a
    have S₅' := S₅.pick (D' := [("r", .int 0), ("b", .int b), ("n", .int n), ("q_digits", .raw (.ref l))]) (by walk_at "m_pick")
    have hfin := sb_spec (n := n) (m := m) hb ha hab
    have hlen : (digitsI n m a).length = m := digitsI_length n m a
    clear S S₁ S₂ S₃ S₄ S₅
    obtain ⟨rem, hrem⟩ : ∃ rem, rem = (digitsI n m a).reverse := ⟨_, rfl⟩
    obtain ⟨i, hi⟩ : ∃ i : Nat, i = 0 := ⟨_, rfl⟩
    obtain ⟨r, hr⟩ : ∃ r : Int, r = 0 := ⟨_, rfl⟩
    obtain ⟨acc, hacc⟩ : ∃ acc : List Int, acc = [] := ⟨_, rfl⟩
    have h1 : (digitsI n m a).reverse.drop i = rem := by rw [hi, hrem]; rfl
    have h2 : i + rem.length = m := by rw [hi, hrem, List.length_reverse, hlen]; omega
    have h3 : acc.length = i := by rw [hi, hacc]; rfl
    have h4 : 0 ≤ r ∧ r < b := by rw [hr]; omega
    have h5 : ∀ d ∈ rem, 0 ≤ d ∧ d < 2 ^ n := fun d hd => hdig d (by rw [hrem] at hd; exact List.mem_reverse.mp hd)
    have h6 : acc ++ (sb n b r rem).1 = (sb n b 0 (digitsI n m a).reverse).1 := by rw [hacc, hr, hrem]; rfl
    have h7 : (sb n b r rem).2 = (sb n b 0 (digitsI n m a).reverse).2 := by rw [hr, hrem]
    have S₆ : St W B (fenv PySem.Challenge.pw_op0122_02 37 L f cd) [("r", .int r), ("b", .int b), ("n", .int n), ("q_digits", .raw (.ref l))] [(l, acc.map .int)] s₅ := by rw [hr, hacc]; exact S₅'
    have hT' : T i s₅.heap := by rw [hi]; exact hT
    clear S₅' hT hrem hi hr hacc
    induction rem generalizing i r acc s₅ with
    | nil =>
      have him : i = ((digitsI n m a).map Dt.int).reverse.length := by
        rw [List.length_reverse, List.length_map, hlen]; simpa using h2
      rw [him] at hT'
      refine for_end S₆ Z hT' hwf fun s₆ S₇ => x_nil ?_
      have hq : acc = (sb n b 0 (digitsI n m a).reverse).1 := by rw [← h6]; simp [sb]
      have hr' : r = a % b := by rw [← hfin.2, ← h7]; rfl
      have hal : acc.length = m := by rw [h3]; simpa using h2
      refine x_reverse S₇ (by walk_at "m_nm") (by rw [List.length_map]; omega) rfl rfl rfl fun s₇ S₈ => ?_
      have S₉ := S₈.freeze (x := "q_digits") rfl
      rw [← List.map_reverse] at S₉
      have hqd : ∀ q ∈ acc.reverse, 0 ≤ q ∧ q < 2 ^ n := fun q hq' => sb_digits hb _ 0 (by omega) hb (fun d hd => hdig d (List.mem_reverse.mp hd)) q (by rw [← hq]; exact List.mem_reverse.mp hq')
      have cd := d2i_ok G H.d2i H.len (xs := acc.reverse) (n := n) (k := n) (by rw [List.length_reverse]; omega) hn (by omega) hqd
      refine x_assign S₉ (ev_callN G (hA.le (by rw [List.length_reverse]; omega)) H.d2i.has rfl rfl rfl (evs_cons (by walk_at "m_nm") (evs_cons (by walk_at "m_nm") evs_nil rfl) rfl) cd rfl) (.inl rfl) rfl fun s₈ S₁₀ => ?_
      refine x_return S₁₀ (ev_tuple (evs_cons (by walk_at "m_nm") (evs_cons (by walk_at "m_nm") evs_nil rfl) rfl) (by simp)) fun v s' S' r' => ⟨v, rfl, S'.left, ?_⟩
      rw [hq, hfin.1, hr'] at r'
      exact r'
    | cons d rem ih =>
      have hd := h5 d List.mem_cons_self
      have hpn := two_pow_pos n
      have hget : ((digitsI n m a).map Dt.int).reverse[i]? = some (.int d) := by
        rw [← List.map_reverse, List.getElem?_map, ← List.head?_drop, h1]; rfl
      have hrm : 0 ≤ r * 2 ^ n := Int.mul_nonneg h4.1 (by omega)
      have hlt : r * 2 ^ n + d < b * 2 ^ n := by
        have g : r * 2 ^ n ≤ (b - 1) * 2 ^ n := Int.mul_le_mul_of_nonneg_right (by omega) (by omega)
        rw [Int.sub_mul, Int.one_mul] at g
        omega
      refine for_turn S₆ C (cells_cn (by decide +kernel)) Z hT' hK hwf hget fun b' v s₁ S₁ C₁ hO hs₀ rv back => ?_
      refine wpAny_of_eq (a := ()) rfl (assign_name (store S₁ (.inl rfl) (d := .int d) (by rw [hO]; exact rv) fun s₂ S₂ _ => ?_))
      refine x_unpack2 S₂ hA.handled (ev_callN G (hA.le (by omega)) H.div2 rfl rfl rfl (evs_cons (Ev.cast (d' := .int (r * 2 ^ n + d)) (ev_bin (ev_bin (by walk_at "m_nm") (by walk_at "m_nm") (op_shl (by omega) ?_)) (by walk_at "m_nm") op_add) ?_) (evs_cons (by walk_at "m_nm") (evs_cons (by walk_at "m_nm") evs_nil rfl) rfl) rfl) (div2_ok G H.div3 H.div2 HLim H.divmod 5 (by omega) (by omega) hn1 hb1 hb2 (by omega) hlt) rfl) (.inl rfl) (.inl rfl) rfl rfl fun s₃ S₃ => ?_
      · have := intBits_le_of_lt h4.1 (Int.lt_trans h4.2 hb2)
        omega
      · rw [Int.toNat_natCast]
      refine x_append S₃ (by walk_at "m_nm") (by walk_at "m_nm") (by rw [List.length_map]; omega) rfl rfl rfl rfl fun s₄ S₄ => x_nil ?_
      obtain ⟨S₅, hT₅, hK₅⟩ := back _ _ s₄ (S₄.pick (D' := [("r", .int ((r * 2 ^ n + d) % b)), ("b", .int b), ("n", .int n), ("q_digits", .raw (.ref l))]) (by walk_at "m_pick")) rfl
      have e : acc.map Dt.int ++ [Dt.int ((r * 2 ^ n + d) / b)] = (acc ++ [(r * 2 ^ n + d) / b]).map Dt.int := by simp
      rw [e] at S₅
      refine ih s₄ hK₅ (i + 1) ((r * 2 ^ n + d) % b) (acc ++ [(r * 2 ^ n + d) / b]) ?_ ?_ ?_ ⟨Int.emod_nonneg _ (by omega), Int.emod_lt_of_pos _ hb⟩ (fun d' h' => h5 d' (List.mem_cons_of_mem _ h')) ?_ ?_ S₅ hT₅
      · rw [← List.drop_drop, h1]; rfl
      · rw [List.length_cons] at h2; omega
      · simp [h3]
      · rw [← h6]; simp [sb]
      · rw [← h7]; simp [sb]

/-- int_divmod of a number that is not negative by a positive one. -/
theorem dm1_ok {W : Wd} {ti td : Tb} (H : Dv W ti td) {a b : Int} (ha : 0 ≤ a) (hb : 0 < b) (hn : intBits b ≤ 2 ^ 16) (hm : nDig a (intBits b) ≤ 200) :
    FnC W PySem.Challenge.pw_op0122_02 38 215 [.int a, .int b] (.tup [.int (a / b), .int (a % b)]) := by
  have G := H.G
  refine fn_def (xs := ["a", "b"]) G H.dm ?_ rfl (by decide +kernel) (by decide +kernel) (by decide +kernel) ?_ rfl rfl rfl
  · intro pm cd doc vs h
    match vs, h with
    | [a, b], _ => rfl
  · intro A B L f cd s hA S C
    unfold BodyOk
    refine x_if S (c := false) (Tst.cast (tst_cmp (by walk_at "m_nm") ev_int op_eq rfl) (by simp; omega)) (fun hc => nomatch hc) fun _ s₁ S₁ => ?_
    refine x_if S₁ (c := false) (Tst.cast (tst_cmp (by walk_at "m_nm") ev_int op_lt rfl) (by simp; omega)) (fun hc => nomatch hc) fun _ s₂ S₂ => ?_
    refine x_if S₂ (c := false) (Tst.cast (tst_cmp (by walk_at "m_nm") ev_int op_lt rfl) (by simp; omega)) (fun hc => nomatch hc) fun _ s₃ S₃ => ?_
    refine x_return S₃ (ev_callN G (hA.le (by omega)) H.dpos rfl rfl rfl (evs_cons (by walk_at "m_nm") (evs_cons (by walk_at "m_nm") evs_nil rfl) rfl) (dpos_ok H ha hb hn hm) rfl) fun v s' S' r' => ⟨v, rfl, S'.left, r'⟩
/-- int_divmod by a positive number. -/
theorem dm2_ok {W : Wd} {ti td : Tb} (H : Dv W ti td) {a b : Int} (hb : 0 < b) (hn : intBits b ≤ 2 ^ 16) (hm : nDig a (intBits b) ≤ 200) :
    FnC W PySem.Challenge.pw_op0122_02 38 216 [.int a, .int b] (.tup [.int (a / b), .int (a % b)]) := by
  by_cases ha : 0 ≤ a
  · exact (dm1_ok H ha hb hn hm).le (by omega)
  have G := H.G
  refine fn_def (xs := ["a", "b"]) G H.dm ?_ rfl (by decide +kernel) (by decide +kernel) (by decide +kernel) ?_ rfl rfl rfl
  · intro pm cd doc vs h
    match vs, h with
    | [a, b], _ => rfl
  · intro A B L f cd s hA S C
    unfold BodyOk
    refine x_if S (c := false) (Tst.cast (tst_cmp (by walk_at "m_nm") ev_int op_eq rfl) (by simp; omega)) (fun hc => nomatch hc) fun _ s₁ S₁ => ?_
    refine x_if S₁ (c := false) (Tst.cast (tst_cmp (by walk_at "m_nm") ev_int op_lt rfl) (by simp; omega)) (fun hc => nomatch hc) fun _ s₂ S₂ => ?_
    refine x_if S₂ (c := true) (Tst.cast (tst_cmp (by walk_at "m_nm") ev_int op_lt rfl) (by simp; omega)) (fun _ s₃ S₃ => ?_) (fun hc => nomatch hc)
    have hn0 : 0 ≤ Builtin.bitNot a := by rw [bitNot_eq']; omega
    refine x_unpack2 S₃ hA.handled (ev_callN G (hA.le (by omega)) H.dm rfl rfl rfl (evs_cons (ev_un (by walk_at "m_nm") op_inv) (evs_cons (by walk_at "m_nm") evs_nil rfl) rfl) (dm1_ok H hn0 hb hn (Nat.le_trans (nDig_mono _ (intBits_not_le (by omega))) hm)) rfl) (.inl rfl) (.inl rfl) rfl rfl fun s₄ S₄ => ?_
    refine x_return S₄ (ev_tuple (evs_cons (ev_un (by walk_at "m_nm") op_inv) (evs_cons (ev_bin (by walk_at "m_nm") (ev_un (by walk_at "m_nm") op_inv) op_add) evs_nil rfl) rfl) (by simp)) fun v s' S' r' => ⟨v, rfl, S'.left, ?_⟩
    rw [(floor_neg hb).1, (floor_neg hb).2] at r'
    exact r'
/-- int_divmod. -/
theorem dm_ok {W : Wd} {ti td : Tb} (H : Dv W ti td) {a b : Int} (hb0 : b ≠ 0) (hn : intBits b ≤ 2 ^ 16) (hm : nDig a (intBits b) ≤ 200) :
    FnC W PySem.Challenge.pw_op0122_02 38 217 [.int a, .int b] (.tup [.int (a.fdiv b), .int (a.fmod b)]) := by
  by_cases hb : 0 < b
  · rw [fdiv_pos _ hb, fmod_pos _ hb]
    exact (dm2_ok H hb hn hm).le (by omega)
  have hb' : b < 0 := by omega
  have G := H.G
  refine fn_def (xs := ["a", "b"]) G H.dm ?_ rfl (by decide +kernel) (by decide +kernel) (by decide +kernel) ?_ rfl rfl rfl
  · intro pm cd doc vs h
    match vs, h with
    | [a, b], _ => rfl
  · intro A B L f cd s hA S C
    unfold BodyOk
    refine x_if S (c := false) (Tst.cast (tst_cmp (by walk_at "m_nm") ev_int op_eq rfl) (by simp; omega)) (fun hc => nomatch hc) fun _ s₁ S₁ => ?_
    refine x_if S₁ (c := true) (Tst.cast (tst_cmp (by walk_at "m_nm") ev_int op_lt rfl) (by simp; omega)) (fun _ s₂ S₂ => ?_) (fun hc => nomatch hc)
    refine x_unpack2 S₂ hA.handled (ev_callN G (hA.le (by omega)) H.dm rfl rfl rfl (evs_cons (ev_un (by walk_at "m_nm") op_neg) (evs_cons (ev_un (by walk_at "m_nm") op_neg) evs_nil rfl) rfl) (dm2_ok H (a := -a) (b := -b) (by omega) (by rw [intBits_neg]; exact hn) (by rw [intBits_neg]; exact Nat.le_trans (nDig_mono _ (Nat.le_of_eq (intBits_neg a))) hm)) rfl) (.inl rfl) (.inl rfl) rfl rfl fun s₃ S₃ => ?_
    refine x_return S₃ (ev_tuple (evs_cons (by walk_at "m_nm") (evs_cons (ev_un (by walk_at "m_nm") op_neg) evs_nil rfl) rfl) (by simp)) fun v s' S' r' => ⟨v, rfl, S'.left, ?_⟩
    rw [(fdiv_flip hb').1, (fdiv_flip hb').2] at r'
    exact r'
end Mine
end

section
-- H3_02
open PySem PySem.W PySem.Calls PyProof.Rows
set_option maxRecDepth 100000

namespace Mine
open Builtin.Int (intBits)

local macro_rules | `(tactic| walk_at "m_nm") => `(tactic| first
  | exact ev_loc rfl rfl rfl
  | exact ev_cell rfl rfl rfl
  | exact ev_free rfl rfl rfl rfl)
local macro_rules | `(tactic| walk_at "m_one") => `(tactic| (intro p hp; simp only [List.mem_cons, List.not_mem_nil, or_false] at hp; repeat' (first | (subst hp; rfl) | (rcases hp with hp | hp))))

theorem padTo_map (l : List Int) (k : Int) : (l.map Dt.int) ++ List.replicate (k - l.length).toNat (Dt.int 0) = (padTo l k).map Dt.int := by
  unfold padTo; rw [List.map_append, List.map_replicate]
/-- The piles' sums with the weights of `b`. -/
def sums (nums : List Int) (lift p : Nat) (b : Int) : List Int := (List.range p).map (dueB b (fun i => (nums.map (· * 2 ^ lift)).getD i 0) p)

set_option maxHeartbeats 1000000 in
theorem rests_ok {W : Wd} {ti td : Tb} (H : Dv W ti td) (Hd : HasFn W PySem.Challenge.pw_op0122_02 44) {nums : List Int} {p w lift : Nat} {turn : Int} (hn1 : 1 ≤ nums.length) (hn6 : nums.length ≤ 6) (hnum : ∀ x ∈ nums, 0 ≤ x ∧ x < 2 ^ 15) (hp1 : 1 ≤ p) (hp3 : p ≤ 3) (hlift : lift ≤ 4400) (hw : w = 16 + nums.length + lift) (ht : turn = 1 ∨ turn = -1) :
    FnC W PySem.Challenge.pw_op0122_02 44 230 [.lst (nums.map .int), .int p, .int w, .int lift, .int turn] (.lst [.lst ((sums nums lift p 1).map .int), .lst ((sums nums lift p 2).map .int)]) := by
  have G := H.G
  refine fn_def (xs := ["numbers", "piles", "width", "lift", "turn"]) G Hd ?_ rfl (by decide +kernel) (by decide +kernel) (by decide +kernel) ?_ rfl rfl rfl
  · intro pm cd doc vs h
    match vs, h with
    | [a, b, c, d, e], _ => rfl
  · intro A B L f cd s hA S C
    unfold BodyOk
    obtain ⟨vals, hvals⟩ : ∃ vals, vals = nums.map (· * 2 ^ lift) := ⟨_, rfl⟩
    have hvl : vals.length = nums.length := by rw [hvals, List.length_map]
    have hvb : ∀ x ∈ vals, 0 ≤ x ∧ x ≤ 2 ^ (15 + lift) := fun x hx => by
      rw [hvals] at hx
      obtain ⟨y, hy, rfl⟩ := List.mem_map.mp hx
      have h1 := hnum y hy
      have h2 := two_pow_pos lift
      refine ⟨Int.mul_nonneg h1.1 (by omega), ?_⟩
      rw [Int.pow_add]
      exact Int.mul_le_mul_of_nonneg_right (by omega) (by omega)
    have hvb2 : ∀ x ∈ vals, 0 ≤ x ∧ x < 2 ^ (16 + lift) := fun x hx => by
      have := hvb x hx
      have h2 : (2 : Int) ^ (16 + lift) = 2 * 2 ^ (15 + lift) := by rw [show 16 + lift = (15 + lift) + 1 by omega, Int.pow_succ, Int.mul_comm]
      have := two_pow_pos (15 + lift)
      omega
    obtain ⟨out, hout⟩ : ∃ out : Int → List Int, out = fun b => (List.range p).map (dueB b (fun i => vals.getD i 0) p) := ⟨_, rfl⟩
    have hsums : ∀ b, sums nums lift p b = out b := fun b => by rw [hout, hvals]; rfl
    rw [hsums, hsums]
    have hrest : ∀ b : Int, 1 ≤ b → b ≤ 2 → padTo (digitsI w (nDig (packI w vals % (2 ^ (w * p) - b)) w) (packI w vals % (2 ^ (w * p) - b))) p = out b := fun b h1 h2 => by
      rw [hout]; exact (rest_due (K := 15 + lift) (n := nums.length) h1 h2 hp1 hvl hn6 (by omega) (by omega) hvb).2
    obtain ⟨S0, hS0⟩ : ∃ S0, S0 = packI w vals := ⟨_, rfl⟩
    rw [← hS0] at hrest
    have hSb : 0 ≤ S0 ∧ S0 < 2 ^ (w * nums.length) := by
      have := packI_tight w vals (fun x hx => ⟨(hvb2 x hx).1, Int.lt_of_lt_of_le (hvb2 x hx).2 (two_pow_mono (by omega))⟩)
      rw [hvl, ← hS0] at this
      exact this
    have hwn : w * nums.length ≤ w * 6 := Nat.mul_le_mul_left _ hn6
    have hwp : w ≤ w * p := Nat.le_mul_of_pos_right _ (by omega)
    have hwp3 : w * p ≤ w * 3 := Nat.mul_le_mul_left _ hp3
    have hSbits := intBits_le_of_lt hSb.1 hSb.2
    have hturn : ∀ x, IntMulOk turn x := fun x => .of_left (by rcases ht with e | e <;> rw [e] <;> decide)
    have ib2 : intBits (2 : Int) = 2 := by decide +kernel
    have e2 : ((w : Int) * (p : Int)) = ((w * p : Nat) : Int) := by push_cast; rfl
    with_reducible refine' x_assignB (d := .int S0) ?a1_1 S ?a2_1 ?a3_1 ?a4_1 fun s₁ S₁ => ?a5_1
    case a1_1 => exact rfl
    case a3_1 => exact .inl rfl
    case a4_1 => exact rfl
    case a2_1 =>
      have cd := d2i_ok G H.d2i H.len (xs := vals) (n := w) (k := 16 + lift) (by omega) (by omega) (by omega) hvb2
      rw [← hS0] at cd
      with_reducible refine' ev_callN (ds := [.lst (vals.map .int), .int w]) G (hA.le (by omega)) H.d2i.has ?b1_2 ?b2_2 ?b3_2 ?b4_2 cd ?b5_2
      case b1_2 => exact rfl
      case b2_2 => exact rfl
      case b3_2 => exact rfl
      case b5_2 => exact rfl
      case b4_2 =>
        with_reducible refine' evs_cons ?c1_3 (evs_cons ?c2_3 evs_nil ?c3_3) ?c4_3
        case c2_3 => walk_at "m_nm"
        case c3_3 => exact rfl
        case c4_3 => exact rfl
        case c1_3 =>
          with_reducible refine' Ev.cast (EvN.ev (evn_comp (FV := [("lift", .int lift)]) (ok := fun _ => true) (res := fun i => .int (nums.getD i 0 * 2 ^ lift)) (compIn_name (ds := nums.map .int) (ib_list hA.handled ?i1_4)) ?n1_4 ?n2_4 ?n3_4 ?n4_4 ?n5_4 ?n6_4 ?n7_4 ?n8_4 ?n9_4 ?n10_4 ?n11_4 ?n12_4)) ?n13_4
          case i1_4 => walk_at "m_nm"
          case n1_4 => exact rfl
          case n2_4 => exact rfl
          case n3_4 => decide +kernel
          case n4_4 => exact fun _ => rfl
          case n5_4 => walk_at "m_one"
          case n6_4 => intro _ _; simp
          case n7_4 => intro p hp; simp only [List.mem_cons, List.not_mem_nil, or_false] at hp; subst hp; exact ⟨rfl, .inl rfl, fun _ => rfl, fun h => by cases (show some NameKind.cell = some NameKind.local from h)⟩
          case n8_4 => intro C b' hf x hx; simp only [List.mem_cons, List.not_mem_nil, or_false] at hx; subst hx; exact .inl rfl
          case n9_4 => exact fun C i hi => tsts_nil
          case n11_4 => rw [List.length_map]; omega
          case n12_4 => intro i hi; walk_at "m_one"
          case n13_4 =>
            rw [gather_true, List.length_map, map_range_getD nums 0 (fun x => Dt.int (x * 2 ^ lift)), hvals, List.map_map]; rfl
          case n10_4 =>
            intro C i hi _
            rw [List.length_map] at hi
            rw [getD_map' nums Dt.int 0 Dt.none i hi]
            have hm := hnum (nums.getD i 0) (by rw [List.getD_eq_getElem?_getD, List.getElem?_eq_getElem hi]; exact List.getElem_mem hi)
            have hb := intBits_le_of_lt hm.1 hm.2
            with_reducible refine' Ev.cast (ev_bin (a := .int (nums.getD i 0)) (b := .int lift) ?p1_5 ?p2_5 (op_shl ?p3_5 ?p4_5)) ?p5_5
            case p1_5 => walk_at "m_nm"
            case p2_5 => walk_at "m_nm"
            case p3_5 => omega
            case p4_5 => omega
            case p5_5 => rw [Int.toNat_natCast]
    refine x_new S₁ evn_nil (.inl rfl) rfl fun l s₂ S₂ => ?_
    refine x_for' S₂ (ib_tup (ds := [.int 1, .int 2]) hA.handled (ev_tuple (evs_cons ev_int (evs_cons ev_int evs_nil rfl) rfl) (by simp))) (fun _ => rfl) fun I fp wr P T K s₅ S₅ Z hT hK hwf => ?_
    have S₅' := S₅.pick (D' := [("rests", .raw (.ref l)), ("packed", .int S0), ("piles", .int p), ("width", .int w), ("turn", .int turn)]) (by walk_at "m_one")
    clear S S₁ S₂ S₅
    obtain ⟨rem, hrem⟩ : ∃ rem : List Int, rem = [1, 2] := ⟨_, rfl⟩
    obtain ⟨i, hi⟩ : ∃ i : Nat, i = 0 := ⟨_, rfl⟩
    obtain ⟨acc, hacc⟩ : ∃ acc : List Dt, acc = [] := ⟨_, rfl⟩
    have g1 : [Dt.int 1, Dt.int 2].drop i = rem.map .int := by rw [hi, hrem]; rfl
    have g2 : i + rem.length = 2 := by rw [hi, hrem]; rfl
    have g3 : acc.length ≤ i := by rw [hi, hacc]; exact Nat.le_refl _
    have g4 : ∀ b ∈ rem, 1 ≤ b ∧ b ≤ 2 := by rw [hrem]; decide
    have g5 : acc ++ rem.map (fun b => Dt.lst ((out b).map .int)) = [.lst ((out 1).map .int), .lst ((out 2).map .int)] := by rw [hacc, hrem]; rfl
    have S₆ : St W B (fenv PySem.Challenge.pw_op0122_02 44 L f cd) [("rests", .raw (.ref l)), ("packed", .int S0), ("piles", .int p), ("width", .int w), ("turn", .int turn)] [(l, acc)] s₅ := by rw [hacc]; exact S₅'
    have hT' : T i s₅.heap := by rw [hi]; exact hT
    clear S₅' hT hrem hi hacc
    induction rem generalizing i acc s₅ with
    | nil =>
      have him : ([Dt.int 1, Dt.int 2] : List Dt).length = i := by simpa using g2.symm
      refine for_end S₆ Z (by rw [him]; exact hT') hwf fun s₆ S₇ => x_nil ?_
      have S₈ := S₇.freeze (x := "rests") rfl
      refine x_return S₈ (by walk_at "m_nm") fun v s' S' r' => ⟨v, rfl, S'.left, ?_⟩
      rw [← g5, List.map_nil, List.append_nil]
      exact r'
    | cons b rem ih =>
      obtain ⟨hb1, hb2⟩ := g4 b List.mem_cons_self
      obtain ⟨D, hD⟩ : ∃ D, D = (2 : Int) ^ (w * p) - b := ⟨_, rfl⟩
      have hr := hrest b hb1 hb2
      rw [← hD] at hr
      have h20 : (2 : Int) ^ 17 ≤ 2 ^ (w * p) := two_pow_mono (by omega)
      have hD0 : 0 < D := by rw [hD]; omega
      have hDb : intBits D = w * p := by
        rw [hD]
        refine intBits_sub (by omega) hb1 ?_
        have : (2 : Int) ^ 1 ≤ 2 ^ (w * p - 1) := two_pow_mono (by omega)
        omega
      have hrm0 := Int.emod_nonneg S0 (show D ≠ 0 by omega)
      have hrm1 := Int.emod_lt_of_pos S0 hD0
      have hnd : nDig (S0 % D) w ≤ 3 := Nat.le_trans (nDig_le (k := p) (by omega) hrm0 (by rw [hD] at hrm1 ⊢; omega)) hp3
      have hndw : w * nDig (S0 % D) w ≤ w * 3 := Nat.mul_le_mul_left _ hnd
      obtain ⟨f0, m0⟩ := turn_fdiv (a := S0) ht hD0
      have hget : [Dt.int 1, Dt.int 2][i]? = some (.int b) := by rw [← List.head?_drop, g1]; rfl
      refine for_turn S₆ C (cells_cn (by decide +kernel)) Z hT' hK hwf hget fun b' v s₁ S₁ C₁ hO hs₀ rv back => ?_
      refine wpAny_of_eq (a := ()) rfl (assign_name (store S₁ (.inl rfl) (d := .int b) (by rw [hO]; exact rv) fun s₂ S₂ _ => ?_))
      with_reducible refine' x_unpack2B (d₁ := .int (S0 / D)) (d₂ := .int ((turn * S0).fmod (turn * D))) ?a1_6 S₂ hA.handled ?a2_6 ?a3_6 ?a4_6 ?a5_6 ?a6_6 fun s₃ S₃ => ?a7_6
      case a1_6 => exact rfl
      case a3_6 => exact .inl rfl
      case a4_6 => exact .inl rfl
      case a5_6 => exact rfl
      case a6_6 => exact rfl
      case a2_6 =>
        have hnd2 : nDig (turn * S0) (intBits (turn * D)) ≤ 200 := by
          rw [intBits_turn ht, hDb]
          exact Nat.le_trans (nDig_bits (k := 6) (by omega) (by rw [intBits_turn ht]; omega)) (by decide)
        with_reducible refine' Ev.cast (ev_callN (ds := [.int (turn * S0), .int (turn * D)]) G (hA.le (by omega)) H.dm ?b1_7 ?b2_7 ?b3_7 ?b4_7 (dm_ok H (turn_ne ht hD0) (by rw [intBits_turn ht, hDb]; omega) hnd2) ?b5_7) ?b6_7
        case b1_7 => exact rfl
        case b2_7 => exact rfl
        case b3_7 => exact rfl
        case b5_7 => exact rfl
        case b6_7 => rw [f0]
        case b4_7 =>
          with_reducible refine' evs_cons (ev_bin (a := .int turn) (b := .int S0) ?c1_8 ?c2_8 (op_mul (hturn _))) (evs_cons (ev_bin (a := .int turn) (b := .int D) ?c3_8 ?c4_8 (op_mul (hturn _))) evs_nil ?c5_8) ?c6_8
          case c1_8 => walk_at "m_nm"
          case c2_8 => walk_at "m_nm"
          case c3_8 => walk_at "m_nm"
          case c5_8 => exact rfl
          case c6_8 => exact rfl
          case c4_8 =>
            rw [hD]
            with_reducible refine' ev_bin (a := .int ((2 : Int) ^ (w * p))) (b := .int b) ?d1_9 ?d2_9 op_sub
            case d2_9 => walk_at "m_nm"
            case d1_9 =>
              with_reducible refine' Ev.cast (ev_bin (a := .int 2) (b := .int ((w : Int) * (p : Int))) ?e1_10 (ev_bin (a := .int w) (b := .int p) ?e2_10 ?e6_10 (op_mul (intMulOk_small (by omega) (by omega) (by omega) (by omega)))) (op_pow ?e3_10 ?e4_10)) ?e5_10
              case e1_10 => exact ev_int
              case e2_10 => walk_at "m_nm"
              case e6_10 => walk_at "m_nm"
              case e3_10 => rw [e2]; omega
              case e4_10 => rw [e2, ib2]; omega
              case e5_10 => rw [e2, Int.toNat_natCast]
      obtain ⟨dg, hdg⟩ : ∃ dg, dg = digitsI w (nDig (S0 % D) w) (S0 % D) := ⟨_, rfl⟩
      have hdl : dg.length ≤ 3 := by rw [hdg, digitsI_length]; exact hnd
      with_reducible refine' x_assignB (d := .lst (dg.map .int)) ?a1_11 S₃ ?a2_11 ?a3_11 ?a4_11 fun s₄ S₄ => ?a5_11
      case a1_11 => exact rfl
      case a3_11 => exact .inl rfl
      case a4_11 => exact rfl
      case a2_11 =>
        have ci := i2d_ok G H.i2d H.len (a := S0 % D) (n := w) hrm0 (by omega) (by omega) (by omega) (by omega)
        rw [← hdg] at ci
        with_reducible refine' ev_callN (ds := [.int (S0 % D), .int w]) G (hA.le (by omega)) H.i2d.has ?b1_12 ?b2_12 ?b3_12 ?b4_12 ci ?b5_12
        case b1_12 => exact rfl
        case b2_12 => exact rfl
        case b3_12 => exact rfl
        case b5_12 => exact rfl
        case b4_12 =>
          with_reducible refine' evs_cons ?c1_13 (evs_cons ?c2_13 evs_nil ?c3_13) ?c4_13
          case c1_13 => rw [← m0]; exact ev_bin (by walk_at "m_nm") (by walk_at "m_nm") (op_mul (hturn _))
          case c2_13 => walk_at "m_nm"
          case c3_13 => exact rfl
          case c4_13 => exact rfl
      with_reducible refine' x_append (d := .lst ((out b).map .int)) S₄ ?a1_14 ?a2_14 ?a3_14 ?a4_14 ?a5_14 ?a6_14 ?a7_14 fun s₆ S₆' => x_nil ?a8_14
      case a1_14 => walk_at "m_nm"
      case a3_14 => omega
      case a4_14 => exact rfl
      case a5_14 => exact rfl
      case a6_14 => exact rfl
      case a7_14 => exact rfl
      case a2_14 =>
        rw [← hr, ← hdg, ← padTo_map]
        with_reducible refine' Ev.cast (ev_bin (a := .lst (dg.map .int)) (b := .lst (List.replicate (((p : Int) - ((dg.map Dt.int).length : Int))).toNat (.int 0))) ?b1_15 (ev_bin (a := .lst [.int 0]) (b := .int ((p : Int) - ((dg.map Dt.int).length : Int))) ?b2_15 (ev_bin (a := .int p) (b := .int ((dg.map Dt.int).length : Int)) ?b3_15 ?b4_15 op_sub) (op_mul_list ?b5_15 ?b6_15)) (op_add_list ?b7_15)) ?b8_15
        case b1_15 => walk_at "m_nm"
        case b2_15 => exact ev_list (evs_cons ev_int evs_nil rfl) (by simp)
        case b3_15 => walk_at "m_nm"
        case b4_15 => exact ev_bcall G rfl rfl H.len PyProof.Rows.Boot.len (by decide +kernel) (evs_cons (by walk_at "m_nm") evs_nil rfl) (bc_len_list (by rw [List.length_map]; omega)) rfl rfl
        case b5_15 => rw [List.length_map]; omega
        case b6_15 => rw [List.length_map]; omega
        case b7_15 => rw [List.length_map, List.length_replicate]; omega
        case b8_15 => rw [List.length_map]
      case a8_14 =>
        obtain ⟨S₇, hT₇, hK₇⟩ := back _ _ s₆ (S₆'.pick (D' := [("rests", .raw (.ref l)), ("packed", .int S0), ("piles", .int p), ("width", .int w), ("turn", .int turn)]) (by walk_at "m_one")) rfl
        refine ih s₆ hK₇ (i + 1) (acc ++ [.lst ((out b).map .int)]) ?_ (by simp at g2; omega) (by simp; omega) (fun b hb => g4 b (List.mem_cons_of_mem _ hb)) (by rw [List.append_assoc]; exact g5) S₇ hT₇
        rw [← List.drop_drop, g1]; rfl
end Mine
end

section
-- R_02
open PySem PySem.W PySem.Calls PyProof.Rows
set_option maxRecDepth 100000

namespace Mine
open Builtin.Int (intBits)

local macro_rules | `(tactic| walk_at "m_nm") => `(tactic| first
  | exact ev_loc rfl rfl rfl
  | exact ev_cell rfl rfl rfl
  | exact ev_free rfl rfl rfl rfl)

/-- What a division by zero leaves behind in the frames `outer`. -/
def Raised (W : Wd) (outer : List Env) (s : Shared) (e : Value) (s' : Shared) : Prop :=
  ∃ ea t s₁ fr, e = .ref ea ∧ Stp W s s₁ ∧ Frs W s₁.heap fr ∧ Heap.FlyingW (hideAll s₁.heap (fls fr)) outer ea (.type "ZeroDivisionError") (.ref t) s'.heap ∧ s'.heap.TupAt t [] ∧
    (hideAll s₁.heap (fls fr)).get? t = none ∧ s₁.heap.UpToSlots s'.heap ∧ s' = { s₁ with heap := s'.heap }

theorem Frs.push {W : Wd} {b : Base} {env : Env} {D : List (PySem.Str × Dt)} {OL : List (Addr × List Dt)} {s : Shared} {outer : List Env} (S : St W b env D OL s) (hf : env.frame = some env.locals) (k : Frs W s.heap outer) : Frs W s.heap (env :: outer) := fun env' h' => by
  rcases List.mem_cons.mp h' with rfl | h'
  · obtain ⟨m, ⟨o, es, ep, e, hd, _⟩, _⟩ := S.loc
    exact ⟨by rw [S.fk]; decide, env'.locals, o, es, ep, hf, S.lfresh.2, S.inv.notP_of e fun vs => by rw [hd]; nofun, e, hd⟩
  · exact k env' h'

theorem dm_raise {W : Wd} {ti td : Tb} (H : Dv W ti td) (HZ : W.mg "ZeroDivisionError" = none) {a : Int} {f : Addr} (hf : W.mg (fnN (stAt PySem.Challenge.pw_op0122_02 38)) = some (.ref f)) {A : Around} {O : List Addr} {s : Shared} {vs : List Value} {outer : List Env}
    (hA : AOk A 1) (hfr : A.frames = some outer) (k : Frs W s.heap outer) (I : IO W O s.heap) (r : RepL s.heap O [.int a, .int 0] vs) : wpAny W.M A (call (.ref f) vs) (fun _ _ => False) (Raised W outer s) s := by
  have G := H.G
  obtain ⟨f', h1, cd, h2⟩ := H.dm
  rw [hf] at h1; cases h1
  refine wpAny_call (enter (xs := ["a", "b"]) (hb := s.heap) G h2 hA I (.refl _ _) r ?_ rfl (by decide +kernel) ?_ ?_ (fun n x q => cellsFrom_some _ n [] (.inl q)) (fun L s' hA' S C => ?_) rfl rfl rfl)
  · intro pm cd doc vs h
    match vs, h with
    | [a, b], _ => rfl
  · intro x hx
    have : ((["a", "b"] : List PySem.Str).all fun x => (fnS (stAt PySem.Challenge.pw_op0122_02 38)).names.lookup x == some .local || (fnS (stAt PySem.Challenge.pw_op0122_02 38)).names.lookup x == some .cell) = true := by decide +kernel
    have := List.all_eq_true.mp this x hx
    simpa using this
  · intro x q
    have : (fnS (stAt PySem.Challenge.pw_op0122_02 38)).names.all (fun y => y.2 != .free) = true := by decide +kernel
    have := List.all_eq_true.mp this (x, .free) (mem_of_lookup q)
    simp at this
  · refine x_ifB (c := true) rfl S (Tst.cast (tst_cmp (by walk_at "m_nm") ev_int op_eq rfl) (by simp)) (fun _ s₁ S₁ => ?_) (fun hc => nomatch hc)
    refine wpAny_execs_cons (raise_zero hA'.handled (Name_function_global S₁.fk rfl (loadGlobal_builtin (S₁.eg ▸ G.ng.keeps S₁.inv.base) HZ (S₁.eb ▸ G.nb.keeps S₁.inv.base) ((G.builtins "ZeroDivisionError" (by decide)).trans PyProof.Rows.Boot.«ZeroDivisionError») ⟨rfl, rfl⟩) rfl) fun h' e hx => ?_)
    have kf : Frs W s₁.heap (_ :: outer) := Frs.push S₁ rfl (k.ext S₁.ext)
    refine wpAny_leaves_madeW (Around.frames_deeper hfr) rfl (fun b o e => of_hideAll _ e) (kf.fun fun L hL => hideAll_none _ hL) hx.of fun h'' t k1 k2 k3 k4 => ?_
    exact ⟨e, t, s₁, _, rfl, ⟨S₁.inv, S₁.ext, S₁.same⟩, kf, k1, k2, k3, (Heap.UpToSlots.of_keeps hx.keeps).trans k4, rfl⟩

/-- What _law_told answers. -/
def toldD (a b : Int) : Dt := if b = 0 then .tup [.int 0, .tup []] else .tup [.int (a.fdiv b), .int (a.fmod b)]

theorem told_ne {W : Wd} {ti td : Tb} (H : Dv W ti td) (Hd : HasFn W PySem.Challenge.pw_op0122_02 45) {a b : Int} (hb0 : b ≠ 0) (hn : intBits b ≤ 2 ^ 16) (hm : nDig a (intBits b) ≤ 200) :
    FnC W PySem.Challenge.pw_op0122_02 45 218 [.int a, .int b] (toldD a b) := by
  have G := H.G
  unfold toldD
  rw [if_neg hb0]
  refine fn_def (xs := ["weighted", "plain"]) G Hd ?_ rfl (by decide +kernel) (by decide +kernel) (by decide +kernel) ?_ rfl rfl rfl
  · intro pm cd doc vs h
    match vs, h with
    | [a, b], _ => rfl
  · intro A B L f cd s hA S C
    unfold BodyOk
    refine wpAny_execs_cons (wpAny_Try_except ?_)
    refine x_unpack2B rfl S hA.handled (ev_callN (ds := [.int a, .int b]) G (hA.le (by omega)) H.dm rfl rfl rfl (evs_cons (by walk_at "m_nm") (evs_cons (by walk_at "m_nm") evs_nil rfl) rfl) (dm_ok H hb0 hn hm) rfl) (.inl rfl) (.inl rfl) rfl rfl fun s₁ S₁ => x_nil (x_nil ?_)
    refine x_returnB rfl S₁ (ev_tuple (evs_cons (by walk_at "m_nm") (evs_cons (by walk_at "m_nm") evs_nil rfl) rfl) (by simp)) fun v s' S' r' => ⟨v, rfl, S'.left, r'⟩

theorem told_zero {W : Wd} {ti td : Tb} (H : Dv W ti td) (Hd : HasFn W PySem.Challenge.pw_op0122_02 45) (HZ : W.mg "ZeroDivisionError" = none) {a : Int} {f : Addr} (hf : W.mg (fnN (stAt PySem.Challenge.pw_op0122_02 45)) = some (.ref f)) {A : Around} {O : List Addr} {s : Shared} {vs : List Value} {outer : List Env}
    (hA : AOk A 10) (hfr : A.frames = some outer) (k : Frs W s.heap outer) (I : IO W O s.heap) (r : RepL s.heap O [.int a, .int 0] vs) : Yl W A O (call (.ref f) vs) (.tup [.int 0, .tup []]) s := by
  have G := H.G
  obtain ⟨f', h1, cd, h2⟩ := Hd
  rw [hf] at h1; cases h1
  refine wpAny_call (enter (xs := ["weighted", "plain"]) (hb := s.heap) (k := 9) G h2 hA I (.refl _ _) r ?_ rfl (by decide +kernel) ?_ ?_ (fun n x q => cellsFrom_some _ n [] (.inl q)) (fun L s' hA' S C => ?_) rfl rfl rfl)
  · intro pm cd doc vs h
    match vs, h with
    | [a, b], _ => rfl
  · intro x hx
    have : ((["weighted", "plain"] : List PySem.Str).all fun x => (fnS (stAt PySem.Challenge.pw_op0122_02 45)).names.lookup x == some .local || (fnS (stAt PySem.Challenge.pw_op0122_02 45)).names.lookup x == some .cell) = true := by decide +kernel
    have := List.all_eq_true.mp this x hx
    simpa using this
  · intro x q
    have : (fnS (stAt PySem.Challenge.pw_op0122_02 45)).names.all (fun y => y.2 != .free) = true := by decide +kernel
    have := List.all_eq_true.mp this (x, .free) (mem_of_lookup q)
    simp at this
  · have hkind : (fenv PySem.Challenge.pw_op0122_02 45 L f cd).kindOf "refusal" = some .local := rfl
    have hfrm : (fenv PySem.Challenge.pw_op0122_02 45 L f cd).frame = some (fenv PySem.Challenge.pw_op0122_02 45 L f cd).locals := rfl
    obtain ⟨fd, d1, cdd, d2⟩ := H.dm
    obtain ⟨od, pmd, docd, e1, e2, _⟩ := d2.ex
    have hfr' : (A.deeper (fenv PySem.Challenge.pw_op0122_02 45 L f cd)).frames = some ((fenv PySem.Challenge.pw_op0122_02 45 L f cd) :: outer) := Around.frames_deeper hfr
    refine wpAny_execs_cons (wpAny_Try_except ?_)
    refine wpAny_execs_cons (Assign_Tuple (Call_ ((ev_glob (D := [("weighted", .int a), ("plain", .int 0)]) G rfl d1 rfl _ _ _ S).use fun v s₁ x₁ r₁ => ?_)) rfl rfl)
    simp only [Rep] at r₁
    subst r₁
    have S₁ := S.stp x₁
    have hargs : ∀ p₁ p₂, Evs W (A.deeper (fenv PySem.Challenge.pw_op0122_02 45 L f cd)) (fenv PySem.Challenge.pw_op0122_02 45 L f cd) [("weighted", .int a), ("plain", .int 0)] [.Name "weighted" p₁, .Name "plain" p₂] [.int a, .int 0] := fun p₁ p₂ => by
      exact evs_cons (by walk_at "m_nm") (evs_cons (by walk_at "m_nm") evs_nil rfl) rfl
    refine callWith_def e2 (wpAny_mono (hargs _ _ _ _ _ s₁ S₁) (fun vs s₂ y => ?_) fun _ _ y => y.elim) rfl
    obtain ⟨x₂, r₂⟩ := y
    have S₂ := S₁.stp x₂
    refine ⟨S₂.inv.base _ _ e1, wpAny_mono (dm_raise H HZ d1 (hA'.le (by omega)) hfr' (Frs.push S₂ hfrm (k.ext S₂.ext)) S₂.io r₂) (fun _ _ y => y.elim) fun e s₃ y => ?_⟩
    obtain ⟨ea, t, s₁', fr, rfl, X, kf, hfl, htup, htb, hup, hs₃⟩ := y
    have S₃ := S₂.stp X
    generalize hH : s₃.heap = hp₃ at *
    subst hs₃
    refine wpAny_looks_onW hfr' hfrm hfl fun h₄ hheld u4 => ?_
    refine wpAny_landsW hheld fun h₅ hfl5 u5 => ?_
    obtain ⟨ob5, ho5, hc5⟩ := hfl5.there
    have up5 := (hup.trans u4).trans u5
    have S₅ := S₃.stp (stp_turned S₃.inv kf hfl5.1 up5)
    refine wpAny_handleBy_builtin_as (X := "ZeroDivisionError") (T := "ZeroDivisionError") (b := true) PySem.F.isExc_ZeroDivisionError PySem.F.notTuple_ZeroDivisionError PySem.F.self_ZeroDivisionError ?_
    refine Name_function_global S₅.fk rfl (loadGlobal_builtin (S₅.eg ▸ G.ng.keeps S₅.inv.base) HZ (S₅.eb ▸ G.nb.keeps S₅.inv.base) ((G.builtins "ZeroDivisionError" (by decide)).trans PyProof.Rows.Boot.«ZeroDivisionError») ⟨rfl, ⟨ob5, ho5, hc5⟩, ?_⟩) rfl
    rw [if_pos rfl]
    refine lands_againW hfl5 fun h₆ hfl6 u6 => ?_
    have up6 := up5.trans u6
    have S₆ := S₃.stp (stp_turned S₃.inv kf hfl6.1 up6)
    obtain ⟨oe, evs, he6, hce, hde, hv0⟩ := hfl6.first
    have htup6 : h₆.TupAt t [] := htup.of_slots ((u4.trans u5).trans u6)
    have htO : t ∉ O := fun q => by
      obtain ⟨_, _, oo, xs, n, ho, hd⟩ := S₃.ook t (by simpa using q)
      by_cases hm : t ∈ fls fr
      · obtain ⟨o', es, n', _, _, ho', hd'⟩ := kf.mem hm
        rw [ho] at ho'; cases ho'; rw [hd] at hd'; cases hd'
      · rw [hideAll_get _ ho hm] at htb; cases htb
    have rt : Rep h₆ O (.tup []) (.ref t) := by
      obtain ⟨o, n, ho, hc, hd⟩ := htup6
      simp only [Rep]
      exact ⟨t, #[], rfl, htO, ⟨o, ho, hc, n, hd⟩, by simp only [RepL]⟩
    refine store_locS S₆ hkind (d := .raw (.ref ea)) (by simp only [Rep]) fun s₇ S₇ k₇ hs₇ => ?_
    have rt7 := k₇ _ _ rt
    have he7 : s₇.heap.get? ea = some oe := hs₇.extBut ea oe (fun q => by
      obtain ⟨m, ⟨o, es, ep, e, hd, _⟩, _⟩ := S₆.loc
      have he6' := he6
      rw [q] at he6'
      rw [e] at he6'; cases he6'; rw [hd] at hde; cases hde) he6
    refine wpAny_execs_cons (wpAny_Return_some (Tuple_ (args_cons (wpAny_Constant_int (args_cons (Attribute_name ((ev_loc (D := ("refusal", .raw (.ref ea)) :: [("weighted", .int a), ("plain", .int 0)]) rfl rfl rfl _ _ _ (S₇.stp (.tok S₇.inv))).use fun v s₈ x₈ r₈ => ?_)) rfl)) rfl)))
    simp only [Rep] at r₈
    subst r₈
    have S₈ := (S₇.stp (.tok S₇.inv)).stp x₈
    have rt8 := rt7.ext S₇.inv x₈.ext
    have hPea : ea ∉ W.Ps := fun q => by
      obtain ⟨ps, e⟩ := S₃.inv.notP q
      by_cases hm : ea ∈ fls fr
      · obtain ⟨_, _, _, _, hP, _⟩ := kf.mem hm
        exact hP q
      · have := hideAll_get _ e hm
        rw [hfl5.2.1] at this; cases this
    have he8 : s₈.heap.get? ea = some oe := x₈.ext.at hPea he7 (by rw [hde]; nofun)
    clear x₈ rt7 he7 S₇ k₇ hs₇
    obtain ⟨h8, g8, d8, tk8, os8⟩ := s₈
    refine args_attr PySem.F.attr_ZeroDivisionError he8 hce hde hv0 (args_nil (wpAny_newTuple ?_))
    have hnew : h8.get? h8.objs.size = none := Heap.get?_none_of_le (Nat.le_refl _)
    have S₉ := S₈.stp (Stp.push (tk := tk8 + 1) S₈.inv (o := { cls := .type "tuple", dict := none, data := .seq [Value.int 0 s₇.toks, Value.ref t].toArray }))
    have rt9 := rt8.ext S₈.inv (Ext.of_keep (h' := h8.push { cls := .type "tuple", dict := none, data := .seq [Value.int 0 s₇.toks, Value.ref t].toArray }) fun _ _ e => Heap.get?_push_of_some _ e)
    have r9 : Rep (h8.push { cls := .type "tuple", dict := none, data := .seq [Value.int 0 s₇.toks, Value.ref t].toArray }) O (.tup [.int 0, .tup []]) (.ref h8.objs.size) := by
      have : Rep (h8.push { cls := .type "tuple", dict := none, data := .seq [Value.int 0 s₇.toks, Value.ref t].toArray }) O (.tup []) (.ref t) := rt9
      simp only [Rep, RepL] at this ⊢
      exact ⟨h8.objs.size, #[Value.int 0 s₇.toks, Value.ref t], rfl, (show OOk W O h8 from S₈.ook).size, ⟨_, Heap.get?_push_size h8 rfl, rfl, _, rfl⟩, Value.int 0 s₇.toks, [Value.ref t], rfl, ⟨_, rfl⟩, Value.ref t, [], rfl, this, rfl⟩
    obtain ⟨m, hn, _⟩ := S₉.loc
    obtain ⟨oL, esL, epL, eL, hdL, _⟩ := id hn
    refine wpAny_nameGoes hkind hn rfl fun h10 m' hn' hs10 => ?_
    have hx := hs10.extBut
    refine ⟨⟨S₉.inv.extBut hx S₉.lfresh.2 (S₉.inv.notP_of eL fun vs => by rw [hdL]; nofun) (fun o e vs q => by rw [eL] at e; cases e; rw [hdL] at q; cases q), S₉.ext.butP (P := (· = _)) hx (fun a q => by rw [q]; exact S₉.lfresh.1), S₉.same.trans (Sm.mk _ _ _)⟩, ?_⟩
    exact r9.mono (seqKeep_but hx fun o e xs n q => by rw [eL] at e; cases e; rw [hdL] at q; cases q)
end Mine
end

section
-- F6_02
open PySem PySem.W PySem.Calls PyProof.Rows
set_option maxRecDepth 100000

namespace Mine

local macro_rules | `(tactic| walk_at "m_nm") => `(tactic| first
  | exact ev_loc rfl rfl rfl
  | exact ev_cell rfl rfl rfl
  | exact ev_free rfl rfl rfl rfl)

theorem getsepS_ok {W : Wd} (G : W.Ok) (H : HasFn W PySem.Challenge.pw_op0122_02 40) (hi : W.mg "isinstance" = none) (hb : W.mg "bytes" = none) {x : Str} : FnC W PySem.Challenge.pw_op0122_02 40 1 [.str x] (.str "/") := by
  refine fn_def (xs := ["path"]) G H ?_ rfl (by decide +kernel) (by decide +kernel) (by decide +kernel) ?_ rfl rfl rfl
  · intro pm cd doc vs h
    match vs, h with
    | [a], _ => rfl
  · intro A B L f cd s hA S C
    unfold BodyOk
    refine x_if S (c := false) (tst_ev (ev_bcall G rfl rfl hi PyProof.Rows.Boot.isinstance (by decide +kernel) (evs_cons (by walk_at "m_nm") (evs_cons (ev_boot G rfl hb PyProof.Rows.Boot.bytes (by decide +kernel) rfl) evs_nil rfl) rfl) bc_isinst_str rfl rfl) tru_bool rfl) (fun hc => nomatch hc) fun _ s₁ S₁ => ?_
    exact x_return S₁ ev_str fun v s' S' r' => ⟨v, rfl, S'.left, r'⟩
theorem getsepB_ok {W : Wd} (G : W.Ok) (H : HasFn W PySem.Challenge.pw_op0122_02 40) (hi : W.mg "isinstance" = none) (hb : W.mg "bytes" = none) {x : Array UInt8} : FnC W PySem.Challenge.pw_op0122_02 40 1 [.bytes x] (.bytes #[47]) := by
  refine fn_def (xs := ["path"]) G H ?_ rfl (by decide +kernel) (by decide +kernel) (by decide +kernel) ?_ rfl rfl rfl
  · intro pm cd doc vs h
    match vs, h with
    | [a], _ => rfl
  · intro A B L f cd s hA S C
    unfold BodyOk
    refine x_if S (c := true) (tst_ev (ev_bcall G rfl rfl hi PyProof.Rows.Boot.isinstance (by decide +kernel) (evs_cons (by walk_at "m_nm") (evs_cons (ev_boot G rfl hb PyProof.Rows.Boot.bytes (by decide +kernel) rfl) evs_nil rfl) rfl) bc_isinst_bytes rfl rfl) tru_bool rfl) (fun _ s₁ S₁ => ?_) (fun hc => nomatch hc)
    exact x_return S₁ ev_bytes fun v s' S' r' => ⟨v, rfl, S'.left, r'⟩
end Mine
end

section
-- H4_02
open PySem PySem.W PySem.Calls PyProof.Rows
set_option maxRecDepth 100000

namespace Mine
open Builtin.Int (intBits)

local macro_rules | `(tactic| walk_at "m_nm") => `(tactic| first
  | exact ev_loc rfl rfl rfl
  | exact ev_cell rfl rfl rfl
  | exact ev_free rfl rfl rfl rfl)
local macro_rules | `(tactic| walk_at "m_one") => `(tactic| (intro p hp; simp only [List.mem_cons, List.not_mem_nil, or_false] at hp; repeat' (first | (subst hp; rfl) | (rcases hp with hp | hp))))

abbrev lawEnv (L f : Addr) (cd : Value) : Env := fenv PySem.Challenge.pw_op0122_02 47 L f cd

/-- What the law leans on. -/
structure Lw (W : Wd) (ti td : Tb) : Prop where
  dv : Dv W ti td
  sv : Sv W
  number : HasFn W PySem.Challenge.pw_op0122_02 42
  read : HasFn W PySem.Challenge.pw_op0122_02 43
  rests : HasFn W PySem.Challenge.pw_op0122_02 44
  told : HasFn W PySem.Challenge.pw_op0122_02 45
  row : HasFn W PySem.Challenge.pw_op0122_02 46
  sep : HasFn W PySem.Challenge.pw_op0122_02 40
  law : HasFn W PySem.Challenge.pw_op0122_02 47
  isinstance : W.mg "isinstance" = none
  bytes : W.mg "bytes" = none
  list : W.mg "list" = none
  min : W.mg "min" = none
  sum : W.mg "sum" = none
  range : W.mg "range" = none
  zero : W.mg "ZeroDivisionError" = none

/-- What the law's head finds. -/
structure Par (modes wrong : List Int) (piles : Nat) (turn : Int) (lift width : Nat) : Prop where
  n1 : 1 ≤ modes.length
  n6 : modes.length ≤ 6
  p1 : 1 ≤ piles
  p3 : piles ≤ 3
  pn : piles ≤ modes.length
  t : turn = 1 ∨ turn = -1
  l : lift ≤ 4400
  w : width = 16 + modes.length + lift
  q : wrong.length = piles

def parD (modes wrong : List Int) (piles : Nat) (turn : Int) (octets : Bool) (lift width : Nat) : List (Str × Dt) :=
  [("modes", .lst (modes.map .int)), ("wrong", .lst (wrong.map .int)), ("piles", .int piles), ("turn", .int turn), ("octets", .bool octets), ("lift", .int lift), ("width", .int width)]

theorem slice_to : ∀ n : Nat, n < 7 → ∀ p : Nat, p < 4 → sliceRange (sliceBounds none (some (p : Int)) none n).1 (sliceBounds none (some (p : Int)) none n).2.1 (sliceBounds none (some (p : Int)) none n).2.2 = List.range' (min 0 n) (min p n - min 0 n) := by decide +kernel

set_option maxHeartbeats 1000000 in
theorem law_head {W : Wd} {A : Around} {B : Base} {L f : Addr} {cd : Value} {s : Shared} {E : Value → Shared → Prop} {Q : Flow → Shared → Prop} {xs : List Int} (G : W.Ok) (C : CF W B (lawEnv L f cd)) (hA : A.handled = none) (hlen : W.mg "len" = none) (hlist : W.mg "list" = none) (hmin : W.mg "min" = none) (hx : xs.length ≤ 63) (S : St W B (lawEnv L f cd) [("script", .lsw (xs.map .int))] [] s)
    (h : ∀ modes wrong piles turn octets lift width s', Par modes wrong piles turn lift width → St W B (lawEnv L f cd) (parD modes wrong piles turn octets lift width) [] s' → wpAny W.M A (execs ((fnB (stAt PySem.Challenge.pw_op0122_02 47)).drop 8) (lawEnv L f cd)) Q E s') :
    wpAny W.M A (execs (fnB (stAt PySem.Challenge.pw_op0122_02 47)) (lawEnv L f cd)) Q E s := by
  have hl : (xs.map Dt.int).length ≤ 63 := by rw [List.length_map]; exact hx
  have cel : ∀ x, (lawEnv L f cd).kindOf x = some .cell → ((lawEnv L f cd).cells.lookup x).isSome = true → Sto W B (lawEnv L f cd) x := fun x h1 h2 => .inr ⟨h1, C, h2⟩
  obtain ⟨first, hfirst⟩ : ∃ first, first = xs.getD 0 1 := ⟨_, rfl⟩
  with_reducible refine' x_assignB (d := .int first) ?a1_1 S ?a2_1 ?a3_1 ?a4_1 fun s₁ S₁ => ?a5_1
  case a1_1 => exact rfl
  case a3_1 => exact .inl rfl
  case a4_1 => exact rfl
  case a2_1 =>
    with_reducible refine' ev_if (c := decide ((0 : Int) < ((xs.map Dt.int).length : Int))) (tst_cmp (a := .int ((xs.map Dt.int).length : Int)) (b := .int 0) ?b1_2 ?b2_2 ?b3_2 ?b4_2) ?b5_2 ?b6_2
    case b1_2 =>
      with_reducible refine' ev_bcall (ds := [.lsw (xs.map .int)]) G ?c1_3 ?c2_3 hlen PyProof.Rows.Boot.len ?c3_3 ?c4_3 (bc_len_lsw (by omega)) ?c5_3 ?c6_3
      case c1_3 => exact rfl
      case c2_3 => exact rfl
      case c3_3 => decide +kernel
      case c4_3 => exact evs_cons (by walk_at "m_nm") evs_nil rfl
      case c5_3 => exact rfl
      case c6_3 => exact rfl
    case b2_2 => exact ev_int
    case b3_2 => exact op_gt
    case b4_2 => exact rfl
    case b5_2 =>
      intro hc
      have hc' : 0 < xs.length := by simpa using hc
      with_reducible refine' ev_sub (a := .lsw (xs.map .int)) (i := .int 0) ?d1_4 ?d2_4 ?d3_4
      case d1_4 => walk_at "m_nm"
      case d2_4 => exact ev_int
      case d3_4 => exact op_item_lsw (by omega) (by decide) (by rw [hfirst]; simp [List.getD_eq_getElem?_getD, hc']) (fun _ _ => rfl)
    case b6_2 =>
      intro hc
      have hc' : xs.length = 0 := by simpa using hc
      have : first = 1 := by rw [hfirst, List.length_eq_zero_iff.mp hc']; rfl
      rw [this]
      exact ev_int
  clear S
  obtain ⟨modes, hmodes⟩ : ∃ modes, modes = modesOf xs 4 [16877, 35273, 41471, -1, 8592] := ⟨_, rfl⟩
  have hml : 1 ≤ modes.length ∧ modes.length ≤ 6 := by rw [hmodes]; exact modesOf_len xs 4 (by decide) (by decide)
  with_reducible refine' x_assignB (d := .lst (modes.map .int)) ?a1_5 S₁ ?a2_5 ?a3_5 ?a4_5 fun s₃ S₃ => ?a5_5
  case a1_5 => exact rfl
  case a3_5 => exact cel _ rfl rfl
  case a4_5 => exact rfl
  case a2_5 =>
    have htk : dpick (xs.map .int) (some 4) (some 10) none = ((xs.drop 4).take 6).map Dt.int := by
      have := dpick_take hl slice_ix410
      rw [List.map_take, List.map_drop]
      exact this
    have htl : (((xs.drop 4).take 6).map Dt.int).length ≤ 6 := by rw [List.length_map]; exact List.length_take_le _ _
    with_reducible refine' ev_or2 (d₁ := .lst (((xs.drop 4).take 6).map .int)) (c := !(((xs.drop 4).take 6).map Dt.int).isEmpty) ?b1_6 (tru_list (by omega)) ?b2_6 ?b3_6
    case b1_6 =>
      with_reducible refine' ev_tcall (ds := [.lst (((xs.drop 4).take 6).map .int)]) G ?c1_7 ?c2_7 hlist PyProof.Rows.Boot.list ?c3_7 ?c4_7 (bc_list (by omega)) ?c5_7 ?c6_7
      case c1_7 => exact rfl
      case c2_7 => exact rfl
      case c3_7 => decide +kernel
      case c5_7 => exact rfl
      case c6_7 => exact rfl
      case c4_7 =>
        with_reducible refine' evs_cons ?d1_8 evs_nil ?d2_8
        case d2_8 => exact rfl
        rw [← htk]
        exact ev_slice_lsw (ops := fun o i => [i, o]) (by walk_at "m_nm") (evp_some ev_int) (evp_some ev_int) evp_none (by decide) (by omega) (fun _ _ => rfl)
    case b2_6 =>
      intro hc
      have he : ((xs.drop 4).take 6).isEmpty = true := by simpa using hc
      have : modes = [16877, 35273, 41471, -1, 8592] := by rw [hmodes]; unfold modesOf; rw [if_pos he]
      rw [this]
      exact ev_list (evs_cons ev_int (evs_cons ev_int (evs_cons ev_int (evs_cons (ev_un ev_int op_neg) (evs_cons ev_int evs_nil rfl) rfl) rfl) rfl) rfl) (by simp)
    case b3_6 =>
      intro hc
      have he : ¬ ((xs.drop 4).take 6).isEmpty = true := by simpa using hc
      rw [hmodes]; unfold modesOf; rw [if_neg he]
  clear hmodes
  have S₃' := S₃.pick (D' := [("modes", .lst (modes.map .int)), ("script", .lsw (xs.map .int)), ("first", .int first)]) (by walk_at "m_one")
  clear S₁ S₃
  have evn : ∀ {D : List (Str × Dt)} {p p₁ pos : Pos}, D.lookup ("modes" : Str) = some (.lst (modes.map Dt.int)) → Ev W A (lawEnv L f cd) D (.Call (.Name "len" p) [.Name "modes" p₁] [] pos) (.int (modes.length : Int)) := by
    intro D p p₁ pos hD
    rw [← List.length_map (f := Dt.int)]
    with_reducible refine' ev_bcall (ds := [.lst (modes.map .int)]) G ?c1_9 ?c2_9 hlen PyProof.Rows.Boot.len ?c3_9 ?c4_9 (bc_len_list (by rw [List.length_map]; omega)) ?c5_9 ?c6_9
    case c1_9 => exact rfl
    case c2_9 => exact rfl
    case c3_9 => decide +kernel
    case c4_9 => exact evs_cons (ev_cell hD rfl rfl) evs_nil rfl
    case c5_9 => exact rfl
    case c6_9 => exact rfl
  have hpi := fmod_range first (b := 3) (by decide)
  obtain ⟨piles, hpiles⟩ : ∃ piles : Nat, piles = min (1 + (first.fmod 3).toNat) modes.length := ⟨_, rfl⟩
  have hpb : 1 ≤ piles ∧ piles ≤ 3 ∧ piles ≤ modes.length := by
    rw [hpiles]; omega
  with_reducible refine' x_assignB (d := .int piles) ?a1_10 S₃' ?a2_10 ?a3_10 ?a4_10 fun s₄ S₄ => ?a5_10
  case a1_10 => exact rfl
  case a3_10 => exact cel _ rfl rfl
  case a4_10 => exact rfl
  case a2_10 =>
    with_reducible refine' Ev.cast (ev_bcall (ds := [.int (1 + first.fmod 3), .int (modes.length : Int)]) G ?c1_11 ?c2_11 hmin PyProof.Rows.Boot.min ?c3_11 ?c4_11 (bc_min hA) ?c5_11 ?c6_11) ?c7_11
    case c1_11 => exact rfl
    case c2_11 => exact rfl
    case c3_11 => decide +kernel
    case c4_11 => exact evs_cons (ev_bin ev_int (ev_bin (by walk_at "m_nm") ev_int (op_mod (by decide))) op_add) (evs_cons (evn rfl) evs_nil rfl) rfl
    case c5_11 => exact rfl
    case c6_11 => exact rfl
    case c7_11 => rw [hpiles]; congr 1; omega
  obtain ⟨turn, hturn⟩ : ∃ turn : Int, turn = 1 - 2 * (first.fdiv 3).fmod 2 := ⟨_, rfl⟩
  have htu := fmod_range (first.fdiv 3) (b := 2) (by decide)
  with_reducible refine' x_assignB (d := .int turn) ?a1_12 S₄ ?a2_12 ?a3_12 ?a4_12 fun s₆ S₆ => ?a5_12
  case a1_12 => exact rfl
  case a3_12 => exact .inl rfl
  case a4_12 => exact rfl
  case a2_12 =>
    rw [hturn]
    with_reducible refine' ev_bin (a := .int 1) (b := .int (2 * (first.fdiv 3).fmod 2)) ?b1_13 (ev_bin (a := .int 2) (b := .int ((first.fdiv 3).fmod 2)) ?b2_13 ?b3_13 (op_mul (intMulOk_small (by omega) (by omega) (by omega) (by omega)))) op_sub
    case b1_13 => exact ev_int
    case b2_13 => exact ev_int
    case b3_13 => exact ev_bin (ev_bin (by walk_at "m_nm") ev_int (op_fdiv (by decide) (PyProof.noPylong_small (by decide)))) ev_int (op_mod (by decide))
  obtain ⟨octets, hoctets⟩ : ∃ octets : Bool, octets = ((first.fdiv 6).fmod 2 == 1) := ⟨_, rfl⟩
  with_reducible refine' x_assignB (d := .bool octets) ?a1_14 S₆ ?a2_14 ?a3_14 ?a4_14 fun s₇ S₇ => ?a5_14
  case a1_14 => exact rfl
  case a3_14 => exact cel _ rfl rfl
  case a4_14 => exact rfl
  case a2_14 =>
    rw [hoctets]
    with_reducible refine' ev_cmp (a := .int ((first.fdiv 6).fmod 2)) (b := .int 1) ?b1_15 ?b2_15 op_eq ?b3_15
    case b1_15 => exact ev_bin (ev_bin (by walk_at "m_nm") ev_int (op_fdiv (by decide) (PyProof.noPylong_small (by decide)))) ev_int (op_mod (by decide))
    case b2_15 => exact ev_int
    case b3_15 => exact rfl
  have S₇' := S₇.pick (D' := [("octets", .bool octets), ("turn", .int turn), ("piles", .int piles), ("modes", .lst (modes.map .int)), ("script", .lsw (xs.map .int)), ("first", .int first)]) (by walk_at "m_one")
  clear S₃' S₄ S₆ S₇
  have hli := fmod_range (first.fdiv 12) (b := 5) (by decide)
  obtain ⟨lift, hlift⟩ : ∃ lift : Nat, lift = ((first.fdiv 12).fmod 5).toNat * 1100 := ⟨_, rfl⟩
  with_reducible refine' x_assignB (d := .int lift) ?a1_16 S₇' ?a2_16 ?a3_16 ?a4_16 fun s₈ S₈ => ?a5_16
  case a1_16 => exact rfl
  case a3_16 => exact cel _ rfl rfl
  case a4_16 => exact rfl
  case a2_16 =>
    with_reducible refine' Ev.cast (ev_bin (a := .int ((first.fdiv 12).fmod 5)) (b := .int 1100) ?b1_17 ?b2_17 (op_mul (intMulOk_small (by omega) (by omega) (by omega) (by omega)))) ?b3_17
    case b1_17 => exact ev_bin (ev_bin (by walk_at "m_nm") ev_int (op_fdiv (by decide) (PyProof.noPylong_small (by decide)))) ev_int (op_mod (by decide))
    case b2_17 => exact ev_int
    case b3_17 => rw [hlift]; congr 1; omega
  obtain ⟨width, hwidth⟩ : ∃ width : Nat, width = 16 + modes.length + lift := ⟨_, rfl⟩
  with_reducible refine' x_assignB (d := .int width) ?a1_18 S₈ ?a2_18 ?a3_18 ?a4_18 fun s₉ S₉ => ?a5_18
  case a1_18 => exact rfl
  case a3_18 => exact .inl rfl
  case a4_18 => exact rfl
  case a2_18 =>
    with_reducible refine' Ev.cast (ev_bin (a := .int (16 + (modes.length : Int))) (b := .int (lift : Int)) (ev_bin (a := .int 16) (b := .int (modes.length : Int)) ?b1_19 (evn rfl) op_add) ?b2_19 op_add) ?b3_19
    case b1_19 => exact ev_int
    case b2_19 => walk_at "m_nm"
    case b3_19 => rw [hwidth]; congr 1
  obtain ⟨wr, hwr⟩ : ∃ wr, wr = (xs.drop 1).take 3 ++ [49152, -1, 1] := ⟨_, rfl⟩
  have hwl : 3 ≤ wr.length ∧ wr.length ≤ 6 := by rw [hwr, List.length_append, List.length_take]; simp; omega
  with_reducible refine' x_assignB (d := .lst ((wr.take piles).map .int)) ?a1_20 S₉ ?a2_20 ?a3_20 ?a4_20 fun s₁₀ S₁₀ => ?a5_20
  case a1_20 => exact rfl
  case a3_20 => exact cel _ rfl rfl
  case a4_20 => exact rfl
  case a2_20 =>
    have htk : dpick (xs.map .int) (some 1) (some 4) none = ((xs.drop 1).take 3).map Dt.int := by
      have := dpick_take hl slice_ix14
      rw [List.map_take, List.map_drop]
      exact this
    have hpk : dpick (wr.map .int) none (some (piles : Int)) none = (wr.take piles).map Dt.int := by
      unfold dpick
      rw [List.length_map, slice_to wr.length (by omega) piles (by omega), pick_range, Nat.min_eq_left (Nat.zero_le _), List.drop_zero, Nat.sub_zero, List.map_take, Nat.min_eq_left (by omega)]
    have htl : (((xs.drop 1).take 3).map Dt.int).length ≤ 3 := by rw [List.length_map]; exact List.length_take_le _ _
    rw [← hpk]
    with_reducible refine' ev_slice_lsw (ops := fun o i => [i, o]) (ev_lst_lsw (Ev.cast (ev_bin (a := .lst (((xs.drop 1).take 3).map .int)) (b := .lst (([49152, -1, 1] : List Int).map .int)) ?b1_21 ?b2_21 (op_add_list ?b3_21)) ?b4_21)) evp_none (evp_some ?b5_21) evp_none ?b6_21 ?b7_21 ?b8_21
    case b8_21 => exact fun _ _ => rfl
    case b6_21 => decide
    case b7_21 => rw [List.length_map]; omega
    case b5_21 => walk_at "m_nm"
    case b4_21 => rw [hwr, List.map_append]
    case b3_21 => simp; omega
    case b2_21 => exact ev_list (evs_cons ev_int (evs_cons (ev_un ev_int op_neg) (evs_cons ev_int evs_nil rfl) rfl) rfl) (by simp)
    case b1_21 =>
      with_reducible refine' ev_tcall (ds := [.lst (((xs.drop 1).take 3).map .int)]) G ?c1_22 ?c2_22 hlist PyProof.Rows.Boot.list ?c3_22 ?c4_22 (bc_list (by omega)) ?c5_22 ?c6_22
      case c1_22 => exact rfl
      case c2_22 => exact rfl
      case c3_22 => decide +kernel
      case c5_22 => exact rfl
      case c6_22 => exact rfl
      case c4_22 =>
        with_reducible refine' evs_cons ?d1_23 evs_nil ?d2_23
        case d2_23 => exact rfl
        rw [← htk]
        exact ev_slice_lsw (ops := fun o i => [i, o]) (by walk_at "m_nm") (evp_some ev_int) (evp_some ev_int) evp_none (by decide) (by omega) (fun _ _ => rfl)
  case a5_20 =>
    refine h modes (wr.take piles) piles turn octets lift width s₁₀ ⟨hml.1, hml.2, hpb.1, hpb.2.1, hpb.2.2, by omega, by omega, hwidth, by rw [List.length_take]; omega⟩ (S₁₀.pick ?_)
    unfold parD
    walk_at "m_one"
end Mine
end

section
-- H5_02
open PySem PySem.W PySem.Calls PyProof.Rows
set_option maxRecDepth 100000

namespace Mine
open Builtin.Int (intBits)

local macro_rules | `(tactic| walk_at "m_nm") => `(tactic| first
  | exact ev_loc rfl rfl rfl
  | exact ev_cell rfl rfl rfl
  | exact ev_free rfl rfl rfl rfl)
local macro_rules | `(tactic| walk_at "m_one") => `(tactic| (intro p hp; simp only [List.mem_cons, List.not_mem_nil, or_false] at hp; repeat' (first | (subst hp; rfl) | (rcases hp with hp | hp))))
local macro_rules | `(tactic| walk_at "m_pk") => `(tactic| (intro d p hp; simp only [List.mem_cons, List.not_mem_nil, or_false] at hp; repeat' (first | (subst hp; rfl) | (rcases hp with hp | hp))))
local macro_rules | `(tactic| walk_at "m_fv") => `(tactic| (intro p hp; simp only [List.mem_cons, List.not_mem_nil, or_false] at hp; repeat' (first | (subst hp; exact ⟨rfl, .inl rfl, fun _ => rfl, fun h => by cases (show some NameKind.cell = some NameKind.local from h)⟩) | (rcases hp with hp | hp))))

def spotsD (modes wrong : List Int) (p : Nat) : Dt := .lst ((spots modes wrong p).map fun (k : Nat) => .int k)
def rowsD (modes : List Int) : Dt := .lst ((modes.map fmode).map .str)

def parE (modes wrong : List Int) (piles : Nat) (turn : Int) (octets : Bool) (lift width : Nat) : List (Str × Dt) :=
  [("smudged", rowsD (mods modes wrong piles)), ("rows", rowsD modes), ("spots", spotsD modes wrong piles), ("modes", .lst (modes.map .int)), ("piles", .int piles), ("turn", .int turn), ("octets", .bool octets), ("lift", .int lift), ("width", .int width)]

set_option maxHeartbeats 1000000 in
theorem law_spots {W : Wd} {ti td : Tb} (H : Lw W ti td) {A : Around} {B : Base} {L f : Addr} {cd : Value} {s : Shared} {E : Value → Shared → Prop} {Q : Flow → Shared → Prop} (C : CF W B (lawEnv L f cd)) (hA : AOk A 5) {modes wrong : List Int} {piles : Nat} {turn : Int} {octets : Bool} {lift width : Nat} (P : Par modes wrong piles turn lift width)
    (S : St W B (lawEnv L f cd) (parD modes wrong piles turn octets lift width) [] s)
    (h : ∀ s', St W B (lawEnv L f cd) (parE modes wrong piles turn octets lift width) [] s' → wpAny W.M A (execs ((fnB (stAt PySem.Challenge.pw_op0122_02 47)).drop 11) (lawEnv L f cd)) Q E s') :
    wpAny W.M A (execs ((fnB (stAt PySem.Challenge.pw_op0122_02 47)).drop 8) (lawEnv L f cd)) Q E s := by
  have G := H.dv.G
  have cel : ∀ x, (lawEnv L f cd).kindOf x = some .cell → ((lawEnv L f cd).cells.lookup x).isSome = true → Sto W B (lawEnv L f cd) x := fun x h1 h2 => .inr ⟨h1, C, h2⟩
  have hn1 := P.n1
  have hn6 := P.n6
  have hp1 := P.p1
  have hp3 := P.p3
  have hpn := P.pn
  have hq := P.q
  unfold parD at S
  with_reducible refine' x_assignB (d := spotsD modes wrong piles) ?a1_1 S ?a2_1 ?a3_1 ?a4_1 fun s₁ S₁ => ?a5_1
  case a1_1 => exact rfl
  case a3_1 => exact cel _ rfl rfl
  case a4_1 => exact rfl
  case a2_1 =>
    with_reducible refine' Ev.cast (ev_compF (ds := rng piles) (FV := [("modes", .lst (modes.map .int)), ("piles", .int piles), ("wrong", .lst (wrong.map .int))]) (res := fun h => .int (spotOf modes.length piles wrong h)) ["wrong", "piles", "modes"] (ib_rangeL G hA.handled ?i1_2 H.range ?i2_2 ?i3_2 ?i4_2) ?n1_2 ?n2_2 ?n3_2 ?n4_2 ?n5_2 ?n6_2 ?n7_2 ?n8_2 ?n9_2 ?n10_2 ?n11_2 ?n12_2) ?n13_2
    case i1_2 => exact rfl
    case i2_2 => walk_at "m_nm"
    case i3_2 => omega
    case i4_2 => exact rfl
    case n1_2 => exact rfl
    case n2_2 => exact rfl
    case n3_2 => decide +kernel
    case n4_2 => exact fun _ => rfl
    case n5_2 => walk_at "m_one"
    case n6_2 => exact rfl
    case n7_2 => decide +kernel
    case n8_2 => walk_at "m_fv"
    case n9_2 => exact fun _ _ => .inl rfl
    case n10_2 => walk_at "m_pk"
    case n11_2 => rw [rng_length]; omega
    case n13_2 => unfold spotsD spots; rw [rng_length, List.map_map]; rfl
    case n12_2 =>
      intro C j hj
      rw [rng_length] at hj
      rw [rng_getD hj]
      have hw : (wrong.map Dt.int)[j]? = some (.int (wrong.getD j 0)) := by rw [List.getElem?_map, getD_some 0 (by omega)]; rfl
      have hc : 0 < cnt modes.length piles j := Nat.succ_pos _
      have hcl : cnt modes.length piles j ≤ 6 := by
        have : (modes.length - j - 1) / piles ≤ modes.length - j - 1 := Nat.div_le_self _ _
        unfold cnt; omega
      have ht := t_lt6 (wrong := wrong) hp1 hj hpn hn6
      with_reducible refine' Ev.cast (ev_bin (a := .int j) (b := .int ((piles : Int) * (tOf modes.length piles wrong j : Nat))) ?p1_3 (ev_bin (a := .int piles) (b := .int (tOf modes.length piles wrong j : Nat)) ?p2_3 (Ev.cast (ev_bin (a := .int (wrong.getD j 0)) (b := .int (cnt modes.length piles j : Nat)) ?p3_3 ?p4_3 (op_mod (by omega))) ?p5_3) (op_mul (intMulOk_small (by omega) (by omega) (by omega) (by omega)))) op_add) ?p6_3
      case p1_3 => walk_at "m_nm"
      case p2_3 => walk_at "m_nm"
      case p6_3 => unfold spotOf; congr 1
      case p5_3 =>
        unfold tOf
        rw [fmod_pos _ (by omega)]
        congr 1
        rw [Int.toNat_of_nonneg (Int.emod_nonneg _ (by omega))]
      case p3_3 => exact ev_itemL (by walk_at "m_nm") (by walk_at "m_nm") hw (by rw [List.length_map]; omega) (fun _ _ => rfl)
      case p4_3 =>
        with_reducible refine' ev_len_range3 (a := j) (b := modes.length) (c := piles) G ?q1_4 ?q2_4 H.dv.len PyProof.Rows.Boot.len ?q3_4 ?q4_4 ?q5_4 H.range PyProof.Rows.Boot.range ?q6_4 ?q7_4 (by omega) (by omega) (cnt_range hp1 hj hpn) (by omega) ?q8_4 ?q9_4 ?q10_4
        case q1_4 => exact rfl
        case q2_4 => exact rfl
        case q3_4 => decide +kernel
        case q4_4 => exact rfl
        case q5_4 => exact rfl
        case q6_4 => decide +kernel
        case q8_4 => exact rfl
        case q9_4 => exact rfl
        case q10_4 => exact rfl
        case q7_4 => exact evs_cons (by walk_at "m_nm") (evs_cons (Ev.cast (ev_lenL G rfl H.dv.len (by walk_at "m_nm") (by rw [List.length_map]; omega) rfl) (by rw [List.length_map])) (evs_cons (by walk_at "m_nm") evs_nil rfl) rfl) rfl
  clear S
  with_reducible refine' x_assignB (d := rowsD modes) ?a1_5 S₁ ?a2_5 ?a3_5 ?a4_5 fun s₂ S₂ => ?a5_5
  case a1_5 => exact rfl
  case a3_5 => exact cel _ rfl rfl
  case a4_5 => exact rfl
  case a2_5 =>
    unfold rowsD
    with_reducible refine' ev_comp0 (ds := modes.map .int) (rs := (modes.map fmode).map .str) (ib_list hA.handled ?d1_6) ?d2_6 ?d3_6 ?d4_6 ?d5_6 ?d6_6 ?d7_6 ?d8_6 ?d9_6
    case d1_6 => walk_at "m_nm"
    case d2_6 => exact rfl
    case d3_6 => exact rfl
    case d4_6 => decide +kernel
    case d5_6 => exact fun _ => rfl
    case d6_6 => exact fun _ _ => .inl rfl
    case d7_6 => rw [List.length_map, List.length_map, List.length_map]
    case d8_6 => rw [List.length_map]; omega
    case d9_6 =>
      intro C i d r hd hr
      rw [List.getElem?_map] at hd
      rw [List.map_map, List.getElem?_map] at hr
      obtain ⟨m, hm, rfl⟩ := Option.map_eq_some_iff.mp hd
      rw [hm] at hr
      simp only [Option.map_some, Option.some.injEq, Function.comp] at hr
      subst hr
      with_reducible refine' ev_callN (ds := [.int m]) G (hA.le (by omega)) H.sv.filemode ?e1_7 ?e2_7 ?e3_7 ?e4_7 (filemode_ok H.sv) ?e5_7
      case e1_7 => exact rfl
      case e2_7 => exact rfl
      case e3_7 => exact rfl
      case e4_7 => exact evs_cons (by walk_at "m_nm") evs_nil rfl
      case e5_7 => exact rfl
  clear S₁
  with_reducible refine' x_assignB (d := rowsD (mods modes wrong piles)) ?a1_8 S₂ ?a2_8 ?a3_8 ?a4_8 fun s₃ S₃ => h s₃ (S₃.pick ?a5_8)
  case a1_8 => exact rfl
  case a3_8 => exact cel _ rfl rfl
  case a4_8 => exact rfl
  case a5_8 => unfold parE; walk_at "m_one"
  case a2_8 =>
    with_reducible refine' Ev.cast (ev_compF (ds := rng modes.length) (FV := [("piles", .int piles), ("rows", rowsD modes), ("spots", spotsD modes wrong piles), ("wrong", .lst (wrong.map .int))]) (res := fun k => .str (fmode ((mods modes wrong piles).getD k 0))) ["wrong", "spots", "rows", "piles"] (ib_rangeL G hA.handled ?i1_9 H.range ?i2_9 ?i3_9 ?i4_9) ?n1_9 ?n2_9 ?n3_9 ?n4_9 ?n5_9 ?n6_9 ?n7_9 ?n8_9 ?n9_9 ?n10_9 ?n11_9 ?n12_9) ?n13_9
    case i1_9 => exact rfl
    case i2_9 => exact Ev.cast (ev_lenL G rfl H.dv.len (by walk_at "m_nm") (by rw [List.length_map]; omega) rfl) (by rw [List.length_map])
    case i3_9 => omega
    case i4_9 => exact rfl
    case n1_9 => exact rfl
    case n2_9 => exact rfl
    case n3_9 => decide +kernel
    case n4_9 => exact fun _ => rfl
    case n5_9 => walk_at "m_one"
    case n6_9 => exact rfl
    case n7_9 => decide +kernel
    case n8_9 => walk_at "m_fv"
    case n9_9 => exact fun _ _ => .inl rfl
    case n10_9 => walk_at "m_pk"
    case n11_9 => rw [rng_length]; omega
    case n13_9 =>
      unfold rowsD
      have := map_range_getD (mods modes wrong piles) 0 (fun m => Dt.str (fmode m))
      rw [mods_len] at this
      rw [rng_length, this, List.map_map]; rfl
    case n12_9 =>
      intro C j hj
      rw [rng_length] at hj
      rw [rng_getD hj]
      have hm : j % piles < piles := Nat.mod_lt _ (by omega)
      have hw : (wrong.map Dt.int)[j % piles]? = some (.int (wrong.getD (j % piles) 0)) := by rw [List.getElem?_map, getD_some 0 (by omega)]; rfl
      have hs : ((spots modes wrong piles).map fun (k : Nat) => Dt.int k)[j % piles]? = some (.int (spotOf modes.length piles wrong (j % piles) : Nat)) := by
        unfold spots
        rw [List.getElem?_map, List.getElem?_map, List.getElem?_range hm]; rfl
      have hr : ((modes.map fmode).map Dt.str)[j]? = some (.str (fmode (modes.getD j 0))) := by rw [List.getElem?_map, List.getElem?_map, getD_some 0 hj]; rfl
      have hmod : ∀ {D : List (Str × Dt)} {env : Env} {a b : Expr} {p : Pos}, Ev W A env D a (.int j) → Ev W A env D b (.int piles) → Ev W A env D (.BinOp a .Mod b p) (.int (j % piles : Nat)) := fun ha hb => Ev.cast (ev_bin ha hb (op_mod (by omega))) (by rw [fmod_pos _ (by omega)]; rfl)
      rw [mods_at hj]
      with_reducible refine' ev_if (c := decide (spotOf modes.length piles wrong (j % piles) = j)) (Tst.cast (tst_cmp (a := .int (spotOf modes.length piles wrong (j % piles) : Nat)) (b := .int j) ?t1_10 ?t2_10 op_eq ?t3_10) ?t4_10) ?t5_10 ?t6_10
      case t2_10 => walk_at "m_nm"
      case t3_10 => exact rfl
      case t4_10 => rw [Bool.eq_iff_iff]; simp; omega
      case t1_10 => exact ev_itemL (l := (spots modes wrong piles).map fun (k : Nat) => Dt.int k) (by walk_at "m_nm") (hmod (by walk_at "m_nm") (by walk_at "m_nm")) hs (by unfold spots; rw [List.length_map, List.length_map, List.length_range]; omega) (fun _ _ => rfl)
      case t5_10 =>
        intro hc
        rw [if_pos (of_decide_eq_true hc)]
        with_reducible refine' ev_callN (ds := [.int (wrong.getD (j % piles) 0)]) G (hA.le (by omega)) H.sv.filemode ?e1_11 ?e2_11 ?e3_11 ?e4_11 (filemode_ok H.sv) ?e5_11
        case e1_11 => exact rfl
        case e2_11 => exact rfl
        case e3_11 => exact rfl
        case e4_11 => exact evs_cons (ev_itemL (by walk_at "m_nm") (hmod (by walk_at "m_nm") (by walk_at "m_nm")) hw (by rw [List.length_map]; omega) (fun _ _ => rfl)) evs_nil rfl
        case e5_11 => exact rfl
      case t6_10 =>
        intro hc
        rw [if_neg (of_decide_eq_false hc)]
        exact ev_itemL (l := (modes.map fmode).map Dt.str) (by walk_at "m_nm") (by walk_at "m_nm") hr (by rw [List.length_map, List.length_map]; omega) (fun _ _ => rfl)
end Mine
end

section
-- H6_02
open PySem PySem.W PySem.Calls PyProof.Rows
set_option maxRecDepth 100000

namespace Mine
open Builtin.Int (intBits)

local macro_rules | `(tactic| walk_at "m_nm") => `(tactic| first
  | exact ev_loc rfl rfl rfl
  | exact ev_cell rfl rfl rfl
  | exact ev_free rfl rfl rfl rfl)
local macro_rules | `(tactic| walk_at "m_one") => `(tactic| (intro p hp; simp only [List.mem_cons, List.not_mem_nil, or_false] at hp; repeat' (first | (subst hp; rfl) | (rcases hp with hp | hp))))
local macro_rules | `(tactic| walk_at "m_pk") => `(tactic| (intro d p hp; simp only [List.mem_cons, List.not_mem_nil, or_false] at hp; repeat' (first | (subst hp; rfl) | (rcases hp with hp | hp))))
local macro_rules | `(tactic| walk_at "m_fv") => `(tactic| (intro p hp; simp only [List.mem_cons, List.not_mem_nil, or_false] at hp; repeat' (first | (subst hp; exact ⟨rfl, .inl rfl, fun _ => rfl, fun h => by cases (show some NameKind.cell = some NameKind.local from h)⟩) | (rcases hp with hp | hp))))

def parF (modes wrong : List Int) (piles : Nat) (turn : Int) (octets : Bool) (lift width : Nat) : List (Str × Dt) :=
  ("numbers", .lst (((mods modes wrong piles).map numOf).map .int)) :: parE modes wrong piles turn octets lift width

theorem rows_join {rows : List Str} (hlen : ∀ x ∈ rows, x.length = 10) (hn : rows.length ≤ 6) : (rows.map (·.length)).sum + rows.length * ("/" : Str).length ≤ 16777216 := by
  have e : rows.map (·.length) = rows.map fun _ => 10 := List.map_congr_left fun x hx => hlen x hx
  rw [e, List.map_const', List.sum_replicate_nat]
  have : ("/" : Str).length = 1 := by decide +kernel
  rw [this]; omega

set_option maxHeartbeats 1000000 in
theorem law_line {W : Wd} {ti td : Tb} (H : Lw W ti td) {A : Around} {B : Base} {L f : Addr} {cd : Value} {s : Shared} {E : Value → Shared → Prop} {Q : Flow → Shared → Prop} (C : CF W B (lawEnv L f cd)) (hA : AOk A 5) {modes wrong : List Int} {piles : Nat} {turn : Int} {octets : Bool} {lift width : Nat} (P : Par modes wrong piles turn lift width)
    (S : St W B (lawEnv L f cd) (parE modes wrong piles turn octets lift width) [] s)
    (h : ∀ s', St W B (lawEnv L f cd) (parF modes wrong piles turn octets lift width) [] s' → wpAny W.M A (execs ((fnB (stAt PySem.Challenge.pw_op0122_02 47)).drop 14) (lawEnv L f cd)) Q E s') :
    wpAny W.M A (execs ((fnB (stAt PySem.Challenge.pw_op0122_02 47)).drop 11) (lawEnv L f cd)) Q E s := by
  have G := H.dv.G
  have cel : ∀ x, (lawEnv L f cd).kindOf x = some .cell → ((lawEnv L f cd).cells.lookup x).isSome = true → Sto W B (lawEnv L f cd) x := fun x h1 h2 => .inr ⟨h1, C, h2⟩
  have hn1 := P.n1
  have hn6 := P.n6
  obtain ⟨md, hmd⟩ : ∃ md, md = mods modes wrong piles := ⟨_, rfl⟩
  have hml : md.length = modes.length := by rw [hmd, mods_len]
  obtain ⟨rows, hrows⟩ : ∃ rows, rows = md.map fmode := ⟨_, rfl⟩
  have hrn : rows.length = modes.length := by rw [hrows, List.length_map, hml]
  have hpl : ∀ x ∈ rows, Plain x := fun x hx => by rw [hrows] at hx; obtain ⟨m, _, rfl⟩ := List.mem_map.mp hx; exact fmode_plain m
  have hlen : ∀ x ∈ rows, x.length = 10 := fun x hx => by rw [hrows] at hx; obtain ⟨m, _, rfl⟩ := List.mem_map.mp hx; exact fmode_len m
  have hne : rows ≠ [] := fun e => by rw [e] at hrn; simp at hrn; omega
  have hll := line_len hlen
  rw [hrn] at hll
  have hsum := rows_join hlen (by omega)
  unfold parF at h
  unfold parE at S h
  unfold rowsD at S h
  rw [← hmd] at S h
  rw [← hrows] at S h
  have hjoin : ∀ {p p₁ p₂ p₃ : Pos} {k : Nat} {D : List (Str × Dt)}, D.lookup ("smudged" : Str) = some (.lst (rows.map .str)) → ∀ {pl}, MethEq (lawEnv L f cd) (.Constant (.str "/") k p) "join" p₁ p₃ [.Name "smudged" p₂] pl → Ev W A (lawEnv L f cd) D (.Call (.Attribute (.Constant (.str "/") k p) "join" p₁) [.Name "smudged" p₂] [] p₃) (.str (Txt.join "/" rows)) := by
    intro p p₁ p₂ p₃ k D hD pl hme
    with_reducible refine' ev_meth1 (d₀ := .str "/") (ds := [.lst (rows.map .str)]) ?b1_1 ?b2_1 ?b3_1 (bc_join hsum) ?b4_1 ?b5_1 ?b6_1
    case b1_1 => exact ev_str
    case b2_1 => exact gm_str PySem.F.slot_str_join PySem.F.type_str_join
    case b4_1 => exact hme
    case b5_1 => exact rfl
    case b6_1 => exact rfl
    case b3_1 => exact evs_cons (ev_cell hD rfl rfl) evs_nil rfl
  have hres : (List.range (rows.map Dt.str).length).map (fun i => Dt.int (numOf (md.getD i 0))) = (md.map numOf).map Dt.int := by
    rw [List.length_map, hrn, ← hml, map_range_getD md 0 (fun m => Dt.int (numOf m)), List.map_map]; rfl
  cases octets with
  | false =>
    with_reducible refine' x_assignB (d := .str (Txt.join "/" rows)) ?a1_2 S ?a2_2 ?a3_2 ?a4_2 fun s₂ S₂ => ?a5_2
    case a1_2 => exact rfl
    case a3_2 => exact .inl rfl
    case a4_2 => exact rfl
    case a2_2 =>
      with_reducible refine' ev_if (c := false) (tst_ev (d := .bool false) ?b1_3 tru_bool ?b2_3) ?b3_3 ?b4_3
      case b1_3 => walk_at "m_nm"
      case b2_3 => exact rfl
      case b3_3 => exact fun h => nomatch h
      case b4_3 => exact fun _ => hjoin rfl rfl
    with_reducible refine' x_assignB (d := .lst (rows.map .str)) ?a1_4 S₂ ?a2_4 ?a3_4 ?a4_4 fun s₃ S₃ => ?a5_4
    case a1_4 => exact rfl
    case a3_4 => exact .inl rfl
    case a4_4 => exact rfl
    case a2_4 =>
      with_reducible refine' Ev.cast (ev_meth1 (d₀ := .str (Txt.join "/" rows)) (ds := [.str "/"]) ?b1_5 ?b2_5 ?b3_5 (bc_splitL (by decide +kernel) (by omega)) ?b4_5 ?b5_5 ?b6_5) ?b7_5
      case b1_5 => walk_at "m_nm"
      case b2_5 => exact gm_str PySem.F.slot_str_split PySem.F.type_str_split
      case b4_5 => exact rfl
      case b5_5 => exact rfl
      case b6_5 => exact rfl
      case b7_5 => rw [split_rows hne hpl]
      case b3_5 =>
        with_reducible refine' evs_cons (ev_callN (ds := [.str (Txt.join "/" rows)]) G (hA.le (by omega)) H.sep ?c1_6 ?c2_6 ?c3_6 ?c4_6 (getsepS_ok G H.sep H.isinstance H.bytes) ?c5_6) evs_nil ?c6_6
        case c1_6 => exact rfl
        case c2_6 => exact rfl
        case c3_6 => exact rfl
        case c4_6 => exact evs_cons (by walk_at "m_nm") evs_nil rfl
        case c5_6 => exact rfl
        case c6_6 => exact rfl
    with_reducible refine' x_assignB (d := .lst ((md.map numOf).map .int)) ?a1_7 S₃ ?a2_7 ?a3_7 ?a4_7 fun s₄ S₄ => h s₄ (S₄.pick ?a5_7)
    case a1_7 => exact rfl
    case a3_7 => exact cel _ rfl rfl
    case a4_7 => exact rfl
    case a5_7 => walk_at "m_one"
    case a2_7 =>
      with_reducible refine' Ev.cast (ev_compF (ds := rows.map .str) (FV := [("octets", .bool false)]) (res := fun i => .int (numOf (md.getD i 0))) ["octets"] (ib_list hA.handled ?i1_8) ?n1_8 ?n2_8 ?n3_8 ?n4_8 ?n5_8 ?n6_8 ?n7_8 ?n8_8 ?n9_8 ?n10_8 ?n11_8 ?n12_8) ?n13_8
      case i1_8 => walk_at "m_nm"
      case n1_8 => exact rfl
      case n2_8 => exact rfl
      case n3_8 => decide +kernel
      case n4_8 => exact fun _ => rfl
      case n5_8 => walk_at "m_one"
      case n6_8 => exact rfl
      case n7_8 => decide +kernel
      case n8_8 => walk_at "m_fv"
      case n9_8 => exact fun _ _ => .inl rfl
      case n10_8 => walk_at "m_pk"
      case n11_8 => rw [List.length_map]; omega
      case n13_8 => rw [hres]
      case n12_8 =>
        intro C j hj
        rw [List.length_map] at hj
        have e : (rows.map Dt.str).getD j .none = .str (fmode (md.getD j 0)) := by
          rw [hrows, List.map_map, List.getD_eq_getElem?_getD, List.getElem?_map, getD_some 0 (by omega)]; rfl
        rw [e]
        with_reducible refine' ev_callN (ds := [.str (fmode (md.getD j 0))]) G (hA.le (by omega)) H.read ?e1_9 ?e2_9 ?e3_9 ?e4_9 (read_ok G H.read H.sum H.range) ?e5_9
        case e1_9 => exact rfl
        case e2_9 => exact rfl
        case e3_9 => exact rfl
        case e5_9 => exact rfl
        case e4_9 =>
          with_reducible refine' evs_cons (ev_if (c := false) (tst_ev (d := .bool false) ?b1_10 tru_bool ?b2_10) ?b3_10 ?b4_10) evs_nil ?b5_10
          case b1_10 => walk_at "m_nm"
          case b2_10 => exact rfl
          case b3_10 => exact fun h => nomatch h
          case b4_10 => intro _; walk_at "m_nm"
          case b5_10 => exact rfl
  | true =>
    with_reducible refine' x_assignB (d := .bytes (bcps (Txt.join "/" rows))) ?a1_11 S ?a2_11 ?a3_11 ?a4_11 fun s₂ S₂ => ?a5_11
    case a1_11 => exact rfl
    case a3_11 => exact .inl rfl
    case a4_11 => exact rfl
    case a2_11 =>
      with_reducible refine' ev_if (c := true) (tst_ev (d := .bool true) ?b1_12 tru_bool ?b2_12) ?b3_12 ?b4_12
      case b1_12 => walk_at "m_nm"
      case b2_12 => exact rfl
      case b4_12 => exact fun h => nomatch h
      case b3_12 =>
        intro _
        with_reducible refine' ev_meth1 (d₀ := .str (Txt.join "/" rows)) (ds := [.str "ascii"]) ?c1_13 ?c2_13 ?c3_13 (bc_encode (line_ascii hpl) (by omega)) ?c4_13 ?c5_13 ?c6_13
        case c1_13 => exact hjoin rfl rfl
        case c2_13 => exact gm_str PySem.F.slot_str_encode PySem.F.type_str_encode
        case c3_13 => exact evs_cons ev_str evs_nil rfl
        case c4_13 => exact rfl
        case c5_13 => exact rfl
        case c6_13 => exact rfl
    with_reducible refine' x_assignB (d := .lst ((rows.map bcps).map .bytes)) ?a1_14 S₂ ?a2_14 ?a3_14 ?a4_14 fun s₃ S₃ => ?a5_14
    case a1_14 => exact rfl
    case a3_14 => exact .inl rfl
    case a4_14 => exact rfl
    case a2_14 =>
      have hbs := bsplit_rows hne hpl
      with_reducible refine' Ev.cast (ev_meth1 (d₀ := .bytes (bcps (Txt.join "/" rows))) (ds := [.bytes #[47]]) ?b1_15 ?b2_15 ?b3_15 (bc_bsplit (by decide) ?b8_15 ?b9_15) ?b4_15 ?b5_15 ?b6_15) ?b7_15
      case b1_15 => walk_at "m_nm"
      case b2_15 => exact gm_bytes slot_bytes_split type_bytes_split
      case b4_15 => exact rfl
      case b5_15 => exact rfl
      case b6_15 => exact rfl
      case b7_15 => rw [hbs]
      case b8_15 =>
        rw [hbs]
        intro y hy
        obtain ⟨x, hx, rfl⟩ := List.mem_map.mp hy
        have := bcps_size x
        have := hlen x hx
        omega
      case b9_15 => rw [hbs, List.length_map]; omega
      case b3_15 =>
        with_reducible refine' evs_cons (ev_callN (ds := [.bytes (bcps (Txt.join "/" rows))]) G (hA.le (by omega)) H.sep ?c1_16 ?c2_16 ?c3_16 ?c4_16 (getsepB_ok G H.sep H.isinstance H.bytes) ?c5_16) evs_nil ?c6_16
        case c1_16 => exact rfl
        case c2_16 => exact rfl
        case c3_16 => exact rfl
        case c4_16 => exact evs_cons (by walk_at "m_nm") evs_nil rfl
        case c5_16 => exact rfl
        case c6_16 => exact rfl
    with_reducible refine' x_assignB (d := .lst ((md.map numOf).map .int)) ?a1_17 S₃ ?a2_17 ?a3_17 ?a4_17 fun s₄ S₄ => h s₄ (S₄.pick ?a5_17)
    case a1_17 => exact rfl
    case a3_17 => exact cel _ rfl rfl
    case a4_17 => exact rfl
    case a5_17 => walk_at "m_one"
    case a2_17 =>
      with_reducible refine' Ev.cast (ev_compF (ds := (rows.map bcps).map .bytes) (FV := [("octets", .bool true)]) (res := fun i => .int (numOf (md.getD i 0))) ["octets"] (ib_list hA.handled ?i1_18) ?n1_18 ?n2_18 ?n3_18 ?n4_18 ?n5_18 ?n6_18 ?n7_18 ?n8_18 ?n9_18 ?n10_18 ?n11_18 ?n12_18) ?n13_18
      case i1_18 => walk_at "m_nm"
      case n1_18 => exact rfl
      case n2_18 => exact rfl
      case n3_18 => decide +kernel
      case n4_18 => exact fun _ => rfl
      case n5_18 => walk_at "m_one"
      case n6_18 => exact rfl
      case n7_18 => decide +kernel
      case n8_18 => walk_at "m_fv"
      case n9_18 => exact fun _ _ => .inl rfl
      case n10_18 => walk_at "m_pk"
      case n11_18 => rw [List.length_map, List.length_map]; omega
      case n13_18 => rw [List.length_map, List.length_map]; rw [List.length_map] at hres; rw [hres]
      case n12_18 =>
        intro C j hj
        rw [List.length_map, List.length_map] at hj
        have e : ((rows.map bcps).map Dt.bytes).getD j .none = .bytes (bcps (fmode (md.getD j 0))) := by
          rw [hrows, List.map_map, List.map_map, List.getD_eq_getElem?_getD, List.getElem?_map, getD_some 0 (by omega)]; rfl
        rw [e]
        with_reducible refine' ev_callN (ds := [.str (fmode (md.getD j 0))]) G (hA.le (by omega)) H.read ?e1_19 ?e2_19 ?e3_19 ?e4_19 (read_ok G H.read H.sum H.range) ?e5_19
        case e1_19 => exact rfl
        case e2_19 => exact rfl
        case e3_19 => exact rfl
        case e5_19 => exact rfl
        case e4_19 =>
          have hxp := fmode_plain (md.getD j 0)
          have hxl := fmode_len (md.getD j 0)
          have hbs := bcps_size (fmode (md.getD j 0))
          generalize fmode (md.getD j 0) = x at *
          with_reducible refine' evs_cons (ev_if (c := true) (tst_ev (d := .bool true) ?b1_20 tru_bool ?b2_20) ?b3_20 ?b4_20) evs_nil ?b5_20
          case b1_20 => walk_at "m_nm"
          case b2_20 => exact rfl
          case b4_20 => exact fun h => nomatch h
          case b5_20 => exact rfl
          case b3_20 =>
            intro _
            with_reducible refine' Ev.cast (ev_meth1 (d₀ := .bytes (bcps x)) (ds := [.str "ascii"]) ?c1_21 ?c2_21 ?c3_21 (bc_decode ?c7_21 (by omega) ?c8_21) ?c4_21 ?c5_21 ?c6_21) ?c9_21
            case c1_21 => walk_at "m_nm"
            case c2_21 => exact gm_bytes PySem.W.FB.slot_bytes_decode PySem.W.FB.type_bytes_decode
            case c3_21 => exact evs_cons ev_str evs_nil rfl
            case c4_21 => exact rfl
            case c5_21 => exact rfl
            case c6_21 => exact rfl
            case c7_21 =>
              intro c hc
              obtain ⟨k, hk, rfl⟩ := List.mem_map.mp (show c ∈ x.cps.toList.map Nat.toUInt8 from hc)
              rw [u8_back (hxp k hk).1]; exact (hxp k hk).1
            case c8_21 => intro e; rw [e] at hbs; simp at hbs; omega
            case c9_21 => rw [bcps_back fun c hc => (hxp c hc).1]
end Mine
end

section
-- H7_02
open PySem PySem.W PySem.Calls PyProof.Rows
set_option maxRecDepth 100000

namespace Mine
open Builtin.Int (intBits)

local macro_rules | `(tactic| walk_at "m_nm") => `(tactic| first
  | exact ev_loc rfl rfl rfl
  | exact ev_cell rfl rfl rfl
  | exact ev_free rfl rfl rfl rfl)
local macro_rules | `(tactic| walk_at "m_one") => `(tactic| (intro p hp; simp only [List.mem_cons, List.not_mem_nil, or_false] at hp; repeat' (first | (subst hp; rfl) | (rcases hp with hp | hp))))
local macro_rules | `(tactic| walk_at "m_pk") => `(tactic| (intro d p hp; simp only [List.mem_cons, List.not_mem_nil, or_false] at hp; repeat' (first | (subst hp; rfl) | (rcases hp with hp | hp))))
local macro_rules | `(tactic| walk_at "m_fv") => `(tactic| (intro p hp; simp only [List.mem_cons, List.not_mem_nil, or_false] at hp; repeat' (first | (subst hp; exact ⟨rfl, .inl rfl, fun _ => rfl, fun h => by cases (show some NameKind.cell = some NameKind.local from h)⟩) | (rcases hp with hp | hp))))

def restsD (nums : List Int) (lift p : Nat) : Dt := .lst [.lst ((sums nums lift p 1).map .int), .lst ((sums nums lift p 2).map .int)]
def plainD (modes wrong : List Int) (p lift : Nat) : Dt := .lst ((List.range p).map fun h => .int (offOf modes wrong p h * 2 ^ lift))
def parG (modes wrong : List Int) (piles : Nat) (turn : Int) (octets : Bool) (lift width : Nat) : List (Str × Dt) :=
  ("plain", plainD modes wrong piles lift) :: ("told", restsD ((mods modes wrong piles).map numOf) lift piles) :: ("due", restsD (modes.map numOf) lift piles) :: parF modes wrong piles turn octets lift width

theorem sums_at {modes : List Int} {lift p h : Nat} {b : Int} (hh : h < p) : ((sums (modes.map numOf) lift p b).map Dt.int)[h]? = some (.int (dueB b (lif modes lift) p h)) := by
  unfold sums
  rw [List.getElem?_map, List.getElem?_map, List.getElem?_range hh]
  rfl
theorem sums_len {nums : List Int} {lift p : Nat} {b : Int} : (sums nums lift p b).length = p := by unfold sums; rw [List.length_map, List.length_range]

section
variable {W : Wd} {A : Around} {env : Env} {D : List (PySem.Str × Dt)}
/-- `rests[b][h]`. -/
theorem ev_rest {x y : Str} {p₁ p₂ p₃ p₄ p₅ : Pos} {k c : Nat} {modes : List Int} {lift p h : Nat} {b : Int} (hp : p ≤ 100) (hc : c = 0 ∧ b = 1 ∨ c = 1 ∧ b = 2) (hv : Ev W A env D (.Name x p₁) (restsD (modes.map numOf) lift p)) (hi : Ev W A env D (.Name y p₄) (.int h)) (hh : h < p) :
    Ev W A env D (.Subscript (.Subscript (.Name x p₁) (.Constant (.int c) k p₂) p₃) (.Name y p₄) p₅) (.int (dueB b (lif modes lift) p h)) := by
  refine ev_itemL (l := (sums (modes.map numOf) lift p b).map .int) ?_ hi (sums_at hh) (by rw [List.length_map, sums_len]; omega) (fun _ _ => rfl)
  refine ev_itemL (l := [.lst ((sums (modes.map numOf) lift p 1).map .int), .lst ((sums (modes.map numOf) lift p 2).map .int)]) hv (Ev.cast ev_int rfl : Ev W A env D _ (.int (c : Nat))) ?_ (by simp) (fun _ _ => rfl)
  rcases hc with ⟨rfl, rfl⟩ | ⟨rfl, rfl⟩ <;> rfl
end

set_option maxHeartbeats 1000000 in
theorem law_rests {W : Wd} {ti td : Tb} (H : Lw W ti td) {A : Around} {B : Base} {L f : Addr} {cd : Value} {s : Shared} {E : Value → Shared → Prop} {Q : Flow → Shared → Prop} (C : CF W B (lawEnv L f cd)) (hA : AOk A 240) {modes wrong : List Int} {piles : Nat} {turn : Int} {octets : Bool} {lift width : Nat} (P : Par modes wrong piles turn lift width)
    (S : St W B (lawEnv L f cd) (parF modes wrong piles turn octets lift width) [] s)
    (h : ∀ s', St W B (lawEnv L f cd) (parG modes wrong piles turn octets lift width) [] s' → wpAny W.M A (execs ((fnB (stAt PySem.Challenge.pw_op0122_02 47)).drop 17) (lawEnv L f cd)) Q E s') :
    wpAny W.M A (execs ((fnB (stAt PySem.Challenge.pw_op0122_02 47)).drop 14) (lawEnv L f cd)) Q E s := by
  have G := H.dv.G
  have cel : ∀ x, (lawEnv L f cd).kindOf x = some .cell → ((lawEnv L f cd).cells.lookup x).isSome = true → Sto W B (lawEnv L f cd) x := fun x h1 h2 => .inr ⟨h1, C, h2⟩
  have hn1 := P.n1
  have hn6 := P.n6
  have hp1 := P.p1
  have hp3 := P.p3
  have hpn := P.pn
  have hnr : ∀ (l : List Int), ∀ x ∈ l.map numOf, 0 ≤ x ∧ x < 2 ^ 15 := fun l x hx => by
    obtain ⟨m, _, rfl⟩ := List.mem_map.mp hx
    exact numOf_range m
  unfold parG at h
  unfold parF parE at S h
  with_reducible refine' x_assignB (d := restsD (modes.map numOf) lift piles) ?a1_1 S ?a2_1 ?a3_1 ?a4_1 fun s₁ S₁ => ?a5_1
  case a1_1 => exact rfl
  case a3_1 => exact cel _ rfl rfl
  case a4_1 => exact rfl
  case a2_1 =>
    with_reducible refine' ev_callN (ds := [.lst ((modes.map numOf).map .int), .int piles, .int width, .int lift, .int turn]) G (hA.le (by omega)) H.rests ?b1_2 ?b2_2 ?b3_2 ?b4_2 (rests_ok H.dv H.rests (by rw [List.length_map]; omega) (by rw [List.length_map]; omega) (hnr _) hp1 hp3 P.l (by rw [List.length_map]; exact P.w) P.t) ?b5_2
    case b1_2 => exact rfl
    case b2_2 => exact rfl
    case b3_2 => exact rfl
    case b5_2 => exact rfl
    case b4_2 =>
      with_reducible refine' evs_cons ?c1_3 (evs_cons ?c2_3 (evs_cons ?c3_3 (evs_cons ?c4_3 (evs_cons ?c5_3 evs_nil ?c6_3) ?c7_3) ?c8_3) ?c9_3) ?c0_3
      case c2_3 => walk_at "m_nm"
      case c3_3 => walk_at "m_nm"
      case c4_3 => walk_at "m_nm"
      case c5_3 => walk_at "m_nm"
      case c6_3 => exact rfl
      case c7_3 => exact rfl
      case c8_3 => exact rfl
      case c9_3 => exact rfl
      case c0_3 => exact rfl
      case c1_3 =>
        with_reducible refine' ev_comp0 (ds := modes.map .int) (rs := (modes.map numOf).map .int) (ib_list hA.handled ?d1_4) ?d2_4 ?d3_4 ?d4_4 ?d5_4 ?d6_4 ?d7_4 ?d8_4 ?d9_4
        case d1_4 => walk_at "m_nm"
        case d2_4 => exact rfl
        case d3_4 => exact rfl
        case d4_4 => decide +kernel
        case d5_4 => exact fun _ => rfl
        case d6_4 => exact fun _ _ => .inl rfl
        case d7_4 => rw [List.length_map, List.length_map, List.length_map]
        case d8_4 => rw [List.length_map]; omega
        case d9_4 =>
          intro C i d r hd hr
          rw [List.getElem?_map] at hd
          rw [List.map_map, List.getElem?_map] at hr
          obtain ⟨m, hm, rfl⟩ := Option.map_eq_some_iff.mp hd
          rw [hm] at hr
          simp only [Option.map_some, Option.some.injEq, Function.comp] at hr
          subst hr
          with_reducible refine' ev_callN (ds := [.int m]) G (hA.le (by omega)) H.number ?e1_5 ?e2_5 ?e3_5 ?e4_5 (number_ok H.sv H.number H.sum H.range) ?e5_5
          case e1_5 => exact rfl
          case e2_5 => exact rfl
          case e3_5 => exact rfl
          case e4_5 => exact evs_cons (by walk_at "m_nm") evs_nil rfl
          case e5_5 => exact rfl
  clear S
  with_reducible refine' x_assignB (d := restsD ((mods modes wrong piles).map numOf) lift piles) ?a1_6 S₁ ?a2_6 ?a3_6 ?a4_6 fun s₂ S₂ => ?a5_6
  case a1_6 => exact rfl
  case a3_6 => exact cel _ rfl rfl
  case a4_6 => exact rfl
  case a2_6 =>
    with_reducible refine' ev_callN (ds := [.lst (((mods modes wrong piles).map numOf).map .int), .int piles, .int width, .int lift, .int turn]) G (hA.le (by omega)) H.rests ?b1_7 ?b2_7 ?b3_7 ?b4_7 (rests_ok H.dv H.rests (by rw [List.length_map, mods_len]; omega) (by rw [List.length_map, mods_len]; omega) (hnr _) hp1 hp3 P.l (by rw [List.length_map, mods_len]; exact P.w) P.t) ?b5_7
    case b1_7 => exact rfl
    case b2_7 => exact rfl
    case b3_7 => exact rfl
    case b5_7 => exact rfl
    case b4_7 =>
      with_reducible refine' evs_cons ?c1_8 (evs_cons ?c2_8 (evs_cons ?c3_8 (evs_cons ?c4_8 (evs_cons ?c5_8 evs_nil ?c6_8) ?c7_8) ?c8_8) ?c9_8) ?c0_8
      case c1_8 => walk_at "m_nm"
      case c2_8 => walk_at "m_nm"
      case c3_8 => walk_at "m_nm"
      case c4_8 => walk_at "m_nm"
      case c5_8 => walk_at "m_nm"
      case c6_8 => exact rfl
      case c7_8 => exact rfl
      case c8_8 => exact rfl
      case c9_8 => exact rfl
      case c0_8 => exact rfl
  clear S₁
  with_reducible refine' x_assignB (d := plainD modes wrong piles lift) ?a1_9 S₂ ?a2_9 ?a3_9 ?a4_9 fun s₃ S₃ => h s₃ (S₃.pick ?a5_9)
  case a1_9 => exact rfl
  case a3_9 => exact cel _ rfl rfl
  case a4_9 => exact rfl
  case a5_9 => walk_at "m_one"
  case a2_9 =>
    with_reducible refine' Ev.cast (ev_compF (ds := rng piles) (FV := [("due", restsD (modes.map numOf) lift piles), ("told", restsD ((mods modes wrong piles).map numOf) lift piles)]) (res := fun h => .int (offOf modes wrong piles h * 2 ^ lift)) ["told", "due"] (ib_rangeL G hA.handled ?i1_10 H.range ?i2_10 ?i3_10 ?i4_10) ?n1_10 ?n2_10 ?n3_10 ?n4_10 ?n5_10 ?n6_10 ?n7_10 ?n8_10 ?n9_10 ?n10_10 ?n11_10 ?n12_10) ?n13_10
    case i1_10 => exact rfl
    case i2_10 => walk_at "m_nm"
    case i3_10 => omega
    case i4_10 => exact rfl
    case n1_10 => exact rfl
    case n2_10 => exact rfl
    case n3_10 => decide +kernel
    case n4_10 => exact fun _ => rfl
    case n5_10 => walk_at "m_one"
    case n6_10 => exact rfl
    case n7_10 => decide +kernel
    case n8_10 => walk_at "m_fv"
    case n9_10 => exact fun _ _ => .inl rfl
    case n10_10 => walk_at "m_pk"
    case n11_10 => rw [rng_length]; omega
    case n13_10 => unfold plainD; rw [rng_length]
    case n12_10 =>
      intro C j hj
      rw [rng_length] at hj
      rw [rng_getD hj]
      have key := due_diff (wrong := wrong) (b := 1) (lift := lift) hp1 hj hpn hn6
      rw [Int.one_pow, Int.one_mul] at key
      rw [← key]
      with_reducible refine' ev_bin (a := .int (dueB 1 (lif (mods modes wrong piles) lift) piles j)) (b := .int (dueB 1 (lif modes lift) piles j)) (ev_rest (c := 0) (by omega) (.inl ⟨rfl, rfl⟩) ?p1_11 ?p2_11 hj) (ev_rest (c := 0) (by omega) (.inl ⟨rfl, rfl⟩) ?p3_11 ?p4_11 hj) op_sub
      case p1_11 => walk_at "m_nm"
      case p2_11 => walk_at "m_nm"
      case p3_11 => walk_at "m_nm"
      case p4_11 => walk_at "m_nm"
end Mine
end

section
-- M21
open PySem PySem.W PySem.Calls PyProof.Rows
set_option maxRecDepth 100000
namespace Mine
open Builtin.Int (intBits)
theorem bits_mulP {t : Nat} {b : Int} (hb : 0 < b) : intBits ((2 : Int) ^ t * b) ≤ intBits b + t := by
  have h := intBits_bounds hb
  have h2 := two_pow_pos t
  refine intBits_le_of_lt (Int.mul_nonneg (by omega) (by omega)) ?_
  rw [Int.pow_add, Int.mul_comm]
  exact Int.mul_lt_mul_of_pos_right h.2.2 h2
theorem bits_mul {t : Nat} {b : Int} (hb : b ≠ 0) : intBits ((2 : Int) ^ t * b) ≤ intBits b + t := by
  by_cases h : 0 < b
  · exact bits_mulP h
  · have := bits_mulP (t := t) (b := -b) (by omega)
    rwa [Int.mul_neg, intBits_neg, intBits_neg] at this
theorem bits_pos {b : Int} (hb : b ≠ 0) : 1 ≤ intBits b := by
  by_cases h : 0 < b
  · exact (intBits_bounds h).1
  · have := (intBits_bounds (b := -b) (by omega)).1
    rwa [intBits_neg] at this
theorem nDig_told {t : Nat} {b : Int} (hb : b ≠ 0) (ht : t < 6) : nDig ((2 : Int) ^ t * b) (intBits b) ≤ 200 := by
  have h1 := bits_pos hb
  have h2 := bits_mul (t := t) hb
  exact Nat.le_trans (nDig_bits (k := 7) h1 (by omega)) (by decide)
section
variable {modes wrong : List Int} {p h lift : Nat}
theorem off_range : - 2 ^ 15 < offOf modes wrong p h ∧ offOf modes wrong p h < 2 ^ 15 := by
  have h1 := numOf_range (wrong.getD h 0)
  have h2 := numOf_range (modes.getD (spotOf modes.length p wrong h) 0)
  unfold offOf
  omega
theorem off_bits : intBits (offOf modes wrong p h * 2 ^ lift) ≤ 15 + lift := by
  have hr := off_range (modes := modes) (wrong := wrong) (p := p) (h := h)
  generalize offOf modes wrong p h = o at hr
  have h2 := two_pow_pos lift
  have key : ∀ o : Int, 0 ≤ o → o < 2 ^ 15 → intBits (o * 2 ^ lift) ≤ 15 + lift := fun o h0 h1 => by
    refine intBits_le_of_lt (Int.mul_nonneg h0 (by omega)) ?_
    rw [Int.pow_add]
    exact Int.mul_lt_mul_of_pos_right h1 h2
  by_cases h0 : 0 ≤ o
  · exact key o h0 hr.2
  · have := key (-o) (by omega) (by omega)
    rwa [Int.neg_mul, intBits_neg] at this
theorem off_zero : offOf modes wrong p h * 2 ^ lift = 0 ↔ offOf modes wrong p h = 0 := by
  have h2 := two_pow_pos lift
  constructor
  · intro q
    rcases Int.mul_eq_zero.mp q with q | q
    · exact q
    · omega
  · intro q; rw [q, Int.zero_mul]
/-- What the pile `h` answers. -/
def ansD (modes wrong : List Int) (p h : Nat) : Dt := if offOf modes wrong p h = 0 then .tup [.int 0, .tup []] else .tup [.int (2 ^ tOf modes.length p wrong h), .int 0]
theorem ans_plc {n : Nat} : ∀ l : List Nat, PlcL (l.map (ansD modes wrong n)) 2
  | [] => by simp only [List.map_nil, PlcL]
  | a :: l => by
    simp only [List.map_cons, PlcL]
    refine ⟨?_, ans_plc l⟩
    unfold ansD
    split <;> simp only [Plc, PlcL, and_self]
/-- The mended row. -/
theorem shr_off : (offOf modes wrong p h * 2 ^ lift).fdiv (2 ^ lift) = offOf modes wrong p h := Int.mul_fdiv_cancel _ (by have := two_pow_pos lift; omega)
end
end Mine
end

section
-- H8_02
open PySem PySem.W PySem.Calls PyProof.Rows
set_option maxRecDepth 100000

namespace Mine
open Builtin.Int (intBits)

local macro_rules | `(tactic| walk_at "m_nm") => `(tactic| first
  | exact ev_loc rfl rfl rfl
  | exact ev_cell rfl rfl rfl
  | exact ev_free rfl rfl rfl rfl)
local macro_rules | `(tactic| walk_at "m_one") => `(tactic| (intro p hp; simp only [List.mem_cons, List.not_mem_nil, or_false] at hp; repeat' (first | (subst hp; rfl) | (rcases hp with hp | hp))))
local macro_rules | `(tactic| walk_at "m_pk") => `(tactic| (intro d p hp; simp only [List.mem_cons, List.not_mem_nil, or_false] at hp; repeat' (first | (subst hp; rfl) | (rcases hp with hp | hp))))
local macro_rules | `(tactic| walk_at "m_fv") => `(tactic| (intro p hp; simp only [List.mem_cons, List.not_mem_nil, or_false] at hp; repeat' (first | (subst hp; exact ⟨rfl, .inl rfl, fun _ => rfl, fun h => by cases (show some NameKind.cell = some NameKind.local from h)⟩) | (rcases hp with hp | hp))))

theorem toldD_ans {modes wrong : List Int} {p h lift : Nat} : toldD ((2 : Int) ^ tOf modes.length p wrong h * (offOf modes wrong p h * 2 ^ lift)) (offOf modes wrong p h * 2 ^ lift) = ansD modes wrong p h := by
  unfold toldD ansD
  by_cases q : offOf modes wrong p h = 0
  · rw [if_pos q, if_pos (off_zero.mpr q)]
  · have q' : offOf modes wrong p h * 2 ^ lift ≠ 0 := fun e => q (off_zero.mp e)
    rw [if_neg q, if_neg q', Int.mul_fdiv_cancel _ q', Int.mul_fmod_left]

section
variable {W : Wd} {A : Around} {b : Base} {env : Env} {D : List (PySem.Str × Dt)} {OL : List (Addr × List Dt)}
/-- A call of _law_told where the frames are known. -/
theorem ev_toldO {ti td : Tb} (H : Lw W ti td) {p pos : Pos} {e : PySem.Expr} {es : List PySem.Expr} {x y : Int} {outer : List Env} (hA : AOk A 218) (hk : env.kindOf "_law_told" = some .globalImplicit) (ha : Evs W A env D (e :: es) [.int x, .int y]) (he : starEach (e :: es) env = (false, eval e env) :: starEach es env)
    (hb : y ≠ 0 → intBits y ≤ 2 ^ 16 ∧ nDig x (intBits y) ≤ 200) (hfr : A.frames = some outer) (hf : ∀ s, St W b env D OL s → Frs W s.heap outer) : EvO W A b env D OL (.Call (.Name "_law_told" p) (e :: es) [] pos) (toldD x y) := fun s S => by
  have G := H.dv.G
  obtain ⟨f, d1, cd, d2⟩ := H.told
  obtain ⟨o, pm, doc, e1, e2, _⟩ := d2.ex
  refine Call_ ((ev_glob G hk (show W.mg "_law_told" = _ from d1) rfl b OL s S).use fun v s₁ x₁ r₁ => ?_)
  simp only [Rep] at r₁
  subst r₁
  have S₁ := S.stp x₁
  refine callWith_def e2 (wpAny_mono (ha pos b OL s₁ S₁) (fun vs s₂ z => ?_) fun _ _ z => z.elim) he
  have S₂ := S₁.stp z.1
  refine ⟨z.1.inv.base _ _ e1, Yl.after (x₁.trans z.1) ?_⟩
  by_cases q : y = 0
  · subst q
    have e0 : toldD x 0 = .tup [.int 0, .tup []] := by unfold toldD; rw [if_pos rfl]
    rw [e0]
    exact told_zero H.dv H.told H.zero d1 (hA.le (by omega)) hfr (hf s₂ S₂) S₂.io z.2
  · exact told_ne H.dv H.told q (hb q).1 (hb q).2 f d1 A _ s₂ vs hA S₂.io z.2
end

def parH (modes wrong : List Int) (piles : Nat) (turn : Int) (octets : Bool) (lift width : Nat) : List (Str × Dt) :=
  ("answers", .lst ((List.range piles).map (ansD modes wrong piles))) :: parG modes wrong piles turn octets lift width

set_option maxHeartbeats 1000000 in
theorem law_answers {W : Wd} {ti td : Tb} (H : Lw W ti td) {A : Around} {B : Base} {L f : Addr} {cd : Value} {s : Shared} {E : Value → Shared → Prop} {Q : Flow → Shared → Prop} (hA : AOk A 390) (hfr : A.frames = some [lawEnv L f cd]) {modes wrong : List Int} {piles : Nat} {turn : Int} {octets : Bool} {lift width : Nat} (P : Par modes wrong piles turn lift width)
    (S : St W B (lawEnv L f cd) (parG modes wrong piles turn octets lift width) [] s)
    (h : ∀ s', St W B (lawEnv L f cd) (parG modes wrong piles turn octets lift width) [] s' → wpAny W.M A (execs ((fnB (stAt PySem.Challenge.pw_op0122_02 47)).drop 19) (lawEnv L f cd)) Q E s') :
    wpAny W.M A (execs ((fnB (stAt PySem.Challenge.pw_op0122_02 47)).drop 17) (lawEnv L f cd)) Q E s := by
  have G := H.dv.G
  have hn1 := P.n1
  have hn6 := P.n6
  have hp1 := P.p1
  have hp3 := P.p3
  have hpn := P.pn
  have hfrs : Frs W s.heap [lawEnv L f cd] := Frs.push S rfl fun _ q => nomatch q
  unfold parG parF parE at S h
  with_reducible refine' x_compL (xs := ["h"]) (n := (rng piles).length) (Dn := fun i => [("h", (rng piles).getD i .none)]) (FV := [("due", restsD (modes.map numOf) lift piles), ("plain", plainD modes wrong piles lift), ("told", restsD ((mods modes wrong piles).map numOf) lift piles)]) (ok := fun _ => true) (res := ansD modes wrong piles) ?a1_1 S (compIn_name (ib_rangeL G hA.handled ?i1_1 H.range ?i2_1 ?i3_1 ?i4_1)) ?n1_1 ?n2_1 ?n3_1 ?n4_1 ?n5_1 ?n6_1 ?n7_1 ?n8_1 ?n9_1 ?n10_1 ?n11_1 ?n12_1 ?n13_1 ?n14_1 fun s₁ S₁ => ?a5_1
  case a1_1 => exact rfl
  case i1_1 => exact rfl
  case i2_1 => walk_at "m_nm"
  case i3_1 => omega
  case i4_1 => exact rfl
  case n1_1 => exact rfl
  case n2_1 => exact rfl
  case n3_1 => decide +kernel
  case n4_1 => exact fun _ => rfl
  case n5_1 => walk_at "m_one"
  case n6_1 => exact fun k1 k2 => cl_apart k1 k2 (by walk_at "m_one") (by show (["told", "plain", "due"] : List Str).Nodup; decide +kernel)
  case n7_1 => walk_at "m_fv"
  case n8_1 => intro C b' hf x hx; simp only [List.mem_cons, List.not_mem_nil, or_false] at hx; subst hx; exact .inl rfl
  case n9_1 => exact fun C i hi => tsts_nil
  case n11_1 => rw [rng_length]; omega
  case n12_1 => intro i hi; walk_at "m_one"
  case n13_1 => exact rfl
  case n14_1 => exact rfl
  case n10_1 =>
    intro C j hj _ OL'
    rw [rng_length] at hj
    rw [rng_getD hj, ← toldD_ans (lift := lift)]
    have key := due_diff (wrong := wrong) (b := 2) (lift := lift) hp1 hj hpn hn6
    have ht := t_lt6 (wrong := wrong) hp1 hj hpn hn6
    with_reducible refine' ev_toldO H (hA.le (by omega)) ?p1_2 ?p2_2 ?p3_2 ?p4_2 hfr fun s' S' => hfrs.ext S'.ext
    case p1_2 => exact rfl
    case p3_2 => exact rfl
    case p4_2 =>
      intro q
      have := off_bits (modes := modes) (wrong := wrong) (p := piles) (h := j) (lift := lift)
      have := P.l
      exact ⟨by omega, nDig_told q ht⟩
    case p2_2 =>
      rw [← key]
      with_reducible refine' evs_cons (ev_bin (a := .int (dueB 2 (lif (mods modes wrong piles) lift) piles j)) (b := .int (dueB 2 (lif modes lift) piles j)) (ev_rest (c := 1) (by omega) (.inr ⟨rfl, rfl⟩) ?q1_3 ?q2_3 hj) (ev_rest (c := 1) (by omega) (.inr ⟨rfl, rfl⟩) ?q3_3 ?q4_3 hj) op_sub) (evs_cons ?q5_3 evs_nil ?q6_3) ?q7_3
      case q1_3 => walk_at "m_nm"
      case q2_3 => walk_at "m_nm"
      case q3_3 => walk_at "m_nm"
      case q4_3 => walk_at "m_nm"
      case q6_3 => exact rfl
      case q7_3 => exact rfl
      case q5_3 =>
        exact ev_itemL (l := (List.range piles).map fun h => .int (offOf modes wrong piles h * 2 ^ lift)) (by walk_at "m_nm") (by walk_at "m_nm") (by rw [List.getElem?_map, List.getElem?_range hj]; rfl) (by rw [List.length_map, List.length_range]; omega) (fun _ _ => rfl)
  case a5_1 =>
    rw [gather_true, rng_length] at S₁
    with_reducible refine' x_ifB (c := false) ?b1_4 S₁ ?b2_4 ?b3_4 ?b4_4
    case b1_4 => exact rfl
    case b3_4 => exact fun h => nomatch h
    case b4_4 =>
      intro _ s₂ S₂
      refine x_nil (h s₂ (S₂.pick ?_))
      walk_at "m_one"
    case b2_4 =>
      with_reducible refine' tst_cmp (a := .lst ((List.range piles).map (ansD modes wrong piles))) (b := .lst ((List.range piles).map (ansD modes wrong piles))) ?t1_5 ?t2_5 (op_ne_same (k := 2) (ans_plc _) (by have := hA.units; omega)) ?t3_5
      case t1_5 => walk_at "m_nm"
      case t3_5 => exact rfl
      case t2_5 =>
        have hsl : (spots modes wrong piles).length = piles := by unfold spots; rw [List.length_map, List.length_range]
        with_reducible refine' Ev.cast (ev_compF (ds := (spots modes wrong piles).map fun (k : Nat) => .int k) (FV := [("piles", .int piles), ("rows", rowsD modes), ("smudged", rowsD (mods modes wrong piles))]) (res := ansD modes wrong piles) ["smudged", "rows", "piles"] (ib_list hA.handled ?i1_6) ?n1_6 ?n2_6 ?n3_6 ?n4_6 ?n5_6 ?n6_6 ?n7_6 ?n8_6 ?n9_6 ?n10_6 ?n11_6 ?n12_6) ?n13_6
        case i1_6 => walk_at "m_nm"
        case n1_6 => exact rfl
        case n2_6 => exact rfl
        case n3_6 => decide +kernel
        case n4_6 => exact fun _ => rfl
        case n5_6 => walk_at "m_one"
        case n6_6 => exact rfl
        case n7_6 => decide +kernel
        case n8_6 => walk_at "m_fv"
        case n9_6 => exact fun _ _ => .inl rfl
        case n10_6 => walk_at "m_pk"
        case n11_6 => rw [List.length_map, hsl]; omega
        case n13_6 => rw [List.length_map, hsl]
        case n12_6 =>
          intro C j hj
          rw [List.length_map, hsl] at hj
          have hk := spot_lt (wrong := wrong) hp1 hj hpn
          have hdv := spot_div (n := modes.length) (wrong := wrong) hj
          have hms := mods_spot (wrong := wrong) hp1 hj hpn
          have ht := t_lt6 (wrong := wrong) hp1 hj hpn hn6
          have e : ((spots modes wrong piles).map fun (k : Nat) => Dt.int k).getD j .none = .int (spotOf modes.length piles wrong j : Nat) := by
            unfold spots
            rw [List.getD_eq_getElem?_getD, List.getElem?_map, List.getElem?_map, List.getElem?_range hj]; rfl
          rw [e]
          have hr1 : ((modes.map fmode).map Dt.str)[spotOf modes.length piles wrong j]? = some (.str (fmode (modes.getD (spotOf modes.length piles wrong j) 0))) := by rw [List.getElem?_map, List.getElem?_map, getD_some 0 hk]; rfl
          have hr2 : (((mods modes wrong piles).map fmode).map Dt.str)[spotOf modes.length piles wrong j]? = some (.str (fmode (wrong.getD j 0))) := by rw [List.getElem?_map, List.getElem?_map, getD_some 0 (by rw [mods_len]; exact hk), hms]; rfl
          have hoff : fmode (wrong.getD j 0) = fmode (modes.getD (spotOf modes.length piles wrong j) 0) ↔ offOf modes wrong piles j = 0 := by
            rw [fmode_iff]; unfold offOf; omega
          unfold ansD
          generalize hkk : spotOf modes.length piles wrong j = k at *
          with_reducible refine' ev_if (c := !decide (offOf modes wrong piles j = 0)) (Tst.cast (tst_cmp (a := .str (fmode (wrong.getD j 0))) (b := .str (fmode (modes.getD k 0))) ?t1_7 ?t2_7 op_ne_str ?t3_7) ?t4_7) ?t5_7 ?t6_7
          case t3_7 => exact rfl
          case t4_7 =>
            show (!(fmode (wrong.getD j 0) == fmode (modes.getD k 0))) = _
            congr 1
            rw [Bool.eq_iff_iff]
            simp only [beq_iff_eq, decide_eq_true_eq]
            exact hoff
          case t1_7 => exact ev_itemL (l := ((mods modes wrong piles).map fmode).map Dt.str) (by walk_at "m_nm") (by walk_at "m_nm") hr2 (by rw [List.length_map, List.length_map, mods_len]; omega) (fun _ _ => rfl)
          case t2_7 => exact ev_itemL (l := (modes.map fmode).map Dt.str) (by walk_at "m_nm") (by walk_at "m_nm") hr1 (by rw [List.length_map, List.length_map]; omega) (fun _ _ => rfl)
          case t5_7 =>
            intro hc
            have hc' : ¬ offOf modes wrong piles j = 0 := by simpa using hc
            rw [if_neg hc']
            have hib : intBits (2 : Int) = 2 := by decide +kernel
            with_reducible refine' ev_tuple (evs_cons (Ev.cast (ev_bin (a := .int 2) (b := .int (tOf modes.length piles wrong j : Nat)) ?u1_8 (Ev.cast (ev_bin (a := .int k) (b := .int piles) ?u2_8 ?u3_8 (op_fdiv (by omega) (PyProof.noPylong_small (by omega)))) ?u4_8) (op_pow ?u5_8 ?u6_8)) ?u7_8) (evs_cons ev_int evs_nil ?u8_8) ?u9_8) ?u10_8
            case u1_8 => exact ev_int
            case u2_8 => walk_at "m_nm"
            case u3_8 => walk_at "m_nm"
            case u4_8 => rw [fdiv_pos _ (by omega), ← hdv]; rfl
            case u5_8 => omega
            case u6_8 => rw [hib]; omega
            case u7_8 => rw [Int.toNat_natCast]
            case u8_8 => exact rfl
            case u9_8 => exact rfl
            case u10_8 => simp
          case t6_7 =>
            intro hc
            have hc' : offOf modes wrong piles j = 0 := by simpa using hc
            rw [if_pos hc']
            exact ev_tuple (evs_cons ev_int (evs_cons (ev_tuple evs_nil (by simp)) evs_nil rfl) rfl) (by simp)
end Mine
end

section
-- H9_02
open PySem PySem.W PySem.Calls PyProof.Rows
set_option maxRecDepth 100000

namespace Mine
open Builtin.Int (intBits)

local macro_rules | `(tactic| walk_at "m_nm") => `(tactic| first
  | exact ev_loc rfl rfl rfl
  | exact ev_cell rfl rfl rfl
  | exact ev_free rfl rfl rfl rfl)
local macro_rules | `(tactic| walk_at "m_one") => `(tactic| (intro p hp; simp only [List.mem_cons, List.not_mem_nil, or_false] at hp; repeat' (first | (subst hp; rfl) | (rcases hp with hp | hp))))
local macro_rules | `(tactic| walk_at "m_pk") => `(tactic| (intro d p hp; simp only [List.mem_cons, List.not_mem_nil, or_false] at hp; repeat' (first | (subst hp; rfl) | (rcases hp with hp | hp))))
local macro_rules | `(tactic| walk_at "m_fv") => `(tactic| (intro p hp; simp only [List.mem_cons, List.not_mem_nil, or_false] at hp; repeat' (first | (subst hp; exact ⟨rfl, .inl rfl, fun _ => rfl, fun h => by cases (show some NameKind.cell = some NameKind.local from h)⟩) | (rcases hp with hp | hp))))

set_option maxHeartbeats 1000000 in
theorem law_mended {W : Wd} {ti td : Tb} (H : Lw W ti td) {A : Around} {B : Base} {L f : Addr} {cd : Value} {s : Shared} {E : Value → Shared → Prop} {Q : Flow → Shared → Prop} (hA : AOk A 240) {modes wrong : List Int} {piles : Nat} {turn : Int} {octets : Bool} {lift width : Nat} (P : Par modes wrong piles turn lift width)
    (S : St W B (lawEnv L f cd) (parG modes wrong piles turn octets lift width) [] s)
    (h : ∀ s', St W B (lawEnv L f cd) [("mended", rowsD modes), ("rows", rowsD modes), ("octets", .bool octets)] [] s' → wpAny W.M A (execs ((fnB (stAt PySem.Challenge.pw_op0122_02 47)).drop 20) (lawEnv L f cd)) Q E s') :
    wpAny W.M A (execs ((fnB (stAt PySem.Challenge.pw_op0122_02 47)).drop 19) (lawEnv L f cd)) Q E s := by
  have G := H.dv.G
  have hn1 := P.n1
  have hn6 := P.n6
  have hp1 := P.p1
  have hp3 := P.p3
  have hpn := P.pn
  unfold parG parF parE at S
  with_reducible refine' x_compL (xs := ["k"]) (n := (rng modes.length).length) (Dn := fun i => [("k", (rng modes.length).getD i .none)]) (FV := [("lift", .int lift), ("numbers", .lst (((mods modes wrong piles).map numOf).map .int)), ("piles", .int piles), ("plain", plainD modes wrong piles lift), ("smudged", rowsD (mods modes wrong piles)), ("spots", spotsD modes wrong piles)]) (ok := fun _ => true) (res := fun k => .str (fmode (modes.getD k 0))) ?a1_1 S (compIn_name (ib_rangeL G hA.handled ?i1_1 H.range ?i2_1 ?i3_1 ?i4_1)) ?n1_1 ?n2_1 ?n3_1 ?n4_1 ?n5_1 ?n6_1 ?n7_1 ?n8_1 ?n9_1 ?n10_1 ?n11_1 ?n12_1 ?n13_1 ?n14_1 fun s₁ S₁ => ?a5_1
  case a1_1 => exact rfl
  case i1_1 => exact rfl
  case i2_1 => exact Ev.cast (ev_lenL G rfl H.dv.len (by walk_at "m_nm") (by rw [List.length_map]; omega) rfl) (by rw [List.length_map])
  case i3_1 => omega
  case i4_1 => exact rfl
  case n1_1 => exact rfl
  case n2_1 => exact rfl
  case n3_1 => decide +kernel
  case n4_1 => exact fun _ => rfl
  case n5_1 => walk_at "m_one"
  case n6_1 => exact fun k1 k2 => cl_apart k1 k2 (by walk_at "m_one") (by show (["spots", "smudged", "plain", "piles", "numbers", "lift"] : List Str).Nodup; decide +kernel)
  case n7_1 => walk_at "m_fv"
  case n8_1 => intro C b' hf x hx; simp only [List.mem_cons, List.not_mem_nil, or_false] at hx; subst hx; exact .inl rfl
  case n9_1 => exact fun C i hi => tsts_nil
  case n11_1 => rw [rng_length]; omega
  case n12_1 => intro i hi; walk_at "m_one"
  case n13_1 => exact rfl
  case n14_1 => exact rfl
  case a5_1 =>
    have e : gather (fun _ => true) (fun k => Dt.str (fmode (modes.getD k 0))) (rng modes.length).length = (modes.map fmode).map .str := by
      rw [gather_true, rng_length, map_range_getD modes 0 (fun m => Dt.str (fmode m)), List.map_map]; rfl
    rw [e] at S₁
    refine h s₁ (S₁.pick ?_)
    walk_at "m_one"
  case n10_1 =>
    intro C j hj _ OL'
    rw [rng_length] at hj
    rw [rng_getD hj]
    refine Ev.o ?_
    have hm : j % piles < piles := Nat.mod_lt _ (by omega)
    have hmod : ∀ {D : List (Str × Dt)} {env : Env} {a b : Expr} {p : Pos}, Ev W A env D a (.int j) → Ev W A env D b (.int piles) → Ev W A env D (.BinOp a .Mod b p) (.int (j % piles : Nat)) := fun ha hb => Ev.cast (ev_bin ha hb (op_mod (by omega))) (by rw [fmod_pos _ (by omega)]; rfl)
    have hma := mods_at (wrong := wrong) (p := piles) hj
    have hsd : spotsD modes wrong piles = .lst (((spots modes wrong piles).map fun (k : Nat) => (k : Int)).map .int) := by unfold spotsD; rw [List.map_map]; rfl
    with_reducible refine' ev_if (c := decide (spotOf modes.length piles wrong (j % piles) = j)) (Tst.cast (tst_cmp (a := .int j) (b := .lst (((spots modes wrong piles).map fun (k : Nat) => (k : Int)).map .int)) ?t1_2 ?t2_2 op_in_ints ?t3_2) ?t4_2) ?t5_2 ?t6_2
    case t1_2 => walk_at "m_nm"
    case t2_2 => rw [← hsd]; walk_at "m_nm"
    case t3_2 => exact rfl
    case t4_2 =>
      rw [Bool.eq_iff_iff, List.any_eq_true, decide_eq_true_eq, ← spots_mem hp1]
      constructor
      · rintro ⟨x, hx, he⟩
        obtain ⟨k, hk, rfl⟩ := List.mem_map.mp hx
        have : k = j := by
          have : (k : Int) = j := by simpa using he
          omega
        rw [← this]; exact hk
      · intro hk
        exact ⟨j, List.mem_map.mpr ⟨j, hk, rfl⟩, by simp⟩
    case t5_2 =>
      intro hc
      have hs := of_decide_eq_true hc
      rw [if_pos hs] at hma
      have hoff : numOf (wrong.getD (j % piles) 0) - offOf modes wrong piles (j % piles) = numOf (modes.getD j 0) := by
        unfold offOf; rw [hs]; omega
      have hnr := numOf_range (modes.getD j 0)
      rw [← fmode_modeOf]
      with_reducible refine' ev_callN (ds := [.int (numOf (modes.getD j 0))]) G (hA.le (by omega)) H.row ?e1_3 ?e2_3 ?e3_3 ?e4_3 (row_ok H.sv H.row hnr.1 hnr.2) ?e5_3
      case e1_3 => exact rfl
      case e2_3 => exact rfl
      case e3_3 => exact rfl
      case e5_3 => exact rfl
      case e4_3 =>
        with_reducible refine' evs_cons (Ev.cast (ev_bin (a := .int (numOf (wrong.getD (j % piles) 0))) (b := .int (offOf modes wrong piles (j % piles))) ?p1_4 (Ev.cast (ev_bin (a := .int (offOf modes wrong piles (j % piles) * 2 ^ lift)) (b := .int lift) ?p2_4 ?p3_4 (op_shr (by omega))) ?p4_4) op_sub) ?p5_4) evs_nil ?p6_4
        case p1_4 => exact ev_itemL (l := ((mods modes wrong piles).map numOf).map .int) (by walk_at "m_nm") (by walk_at "m_nm") (by rw [List.getElem?_map, List.getElem?_map, getD_some 0 (by rw [mods_len]; exact hj), hma]; rfl) (by rw [List.length_map, List.length_map, mods_len]; omega) (fun _ _ => rfl)
        case p2_4 => exact ev_itemL (l := (List.range piles).map fun h => .int (offOf modes wrong piles h * 2 ^ lift)) (by walk_at "m_nm") (hmod (by walk_at "m_nm") (by walk_at "m_nm")) (by rw [List.getElem?_map, List.getElem?_range hm]; rfl) (by rw [List.length_map, List.length_range]; omega) (fun _ _ => rfl)
        case p3_4 => walk_at "m_nm"
        case p4_4 => rw [Int.toNat_natCast, shr_off]
        case p5_4 => rw [hoff]
        case p6_4 => exact rfl
    case t6_2 =>
      intro hc
      have hs := of_decide_eq_false hc
      rw [if_neg hs] at hma
      exact ev_itemL (l := ((mods modes wrong piles).map fmode).map Dt.str) (by walk_at "m_nm") (by walk_at "m_nm") (by rw [List.getElem?_map, List.getElem?_map, getD_some 0 (by rw [mods_len]; exact hj), hma]; rfl) (by rw [List.length_map, List.length_map, mods_len]; omega) (fun _ _ => rfl)

set_option maxHeartbeats 1000000 in
theorem law_end {W : Wd} {ti td : Tb} (H : Lw W ti td) {A : Around} {B : Base} {L f : Addr} {cd : Value} {s : Shared} {E : Value → Shared → Prop} {Q : Flow → Shared → Prop} (hA : AOk A 240) {modes : List Int} {octets : Bool} (hn1 : 1 ≤ modes.length) (hn6 : modes.length ≤ 6)
    (S : St W B (lawEnv L f cd) [("mended", rowsD modes), ("rows", rowsD modes), ("octets", .bool octets)] [] s)
    (h : ∀ v D s', St W B (lawEnv L f cd) D [] s' → Rep s'.heap (ad [] ++ B.O) (.bool true) v → Q (.ret v) s') :
    wpAny W.M A (execs ((fnB (stAt PySem.Challenge.pw_op0122_02 47)).drop 20) (lawEnv L f cd)) Q E s := by
  have G := H.dv.G
  obtain ⟨rows, hrows⟩ : ∃ rows, rows = modes.map fmode := ⟨_, rfl⟩
  have hrn : rows.length = modes.length := by rw [hrows, List.length_map]
  have hpl : ∀ x ∈ rows, Plain x := fun x hx => by rw [hrows] at hx; obtain ⟨m, _, rfl⟩ := List.mem_map.mp hx; exact fmode_plain m
  have hlen : ∀ x ∈ rows, x.length = 10 := fun x hx => by rw [hrows] at hx; obtain ⟨m, _, rfl⟩ := List.mem_map.mp hx; exact fmode_len m
  have hne : rows ≠ [] := fun e => by rw [e] at hrn; simp at hrn; omega
  have hll := line_len hlen
  rw [hrn] at hll
  have hsum := rows_join hlen (by omega)
  unfold rowsD at S
  rw [← hrows] at S
  obtain ⟨r0, hr0⟩ : ∃ r0, rows[0]? = some r0 := ⟨rows[0]'(by omega), List.getElem?_eq_getElem (by omega)⟩
  have hjoin : ∀ {p p₁ p₂ p₃ : Pos} {k : Nat} {D : List (Str × Dt)}, D.lookup ("rows" : Str) = some (.lst (rows.map .str)) → ∀ {pl}, MethEq (lawEnv L f cd) (.Constant (.str "/") k p) "join" p₁ p₃ [.Name "rows" p₂] pl → Ev W A (lawEnv L f cd) D (.Call (.Attribute (.Constant (.str "/") k p) "join" p₁) [.Name "rows" p₂] [] p₃) (.str (Txt.join "/" rows)) := by
    intro p p₁ p₂ p₃ k D hD pl hme
    with_reducible refine' ev_meth1 (d₀ := .str "/") (ds := [.lst (rows.map .str)]) ?b1_5 ?b2_5 ?b3_5 (bc_join hsum) ?b4_5 ?b5_5 ?b6_5
    case b1_5 => exact ev_str
    case b2_5 => exact gm_str PySem.F.slot_str_join PySem.F.type_str_join
    case b4_5 => exact hme
    case b5_5 => exact rfl
    case b6_5 => exact rfl
    case b3_5 => exact evs_cons (ev_cell hD rfl rfl) evs_nil rfl
  cases octets with
  | false =>
    with_reducible refine' x_compL (xs := ["row"]) (n := (rows.map Dt.str).length) (Dn := fun i => [("row", (rows.map Dt.str).getD i .none)]) (FV := [("octets", .bool false)]) (ok := fun _ => true) (res := fun i => (rows.map Dt.str).getD i .none) ?a1_6 S (compIn_name (ib_list hA.handled ?i1_6)) ?n1_6 ?n2_6 ?n3_6 ?n4_6 ?n5_6 ?n6_6 ?n7_6 ?n8_6 ?n9_6 ?n10_6 ?n11_6 ?n12_6 ?n13_6 ?n14_6 fun s₁ S₁ => ?a5_6
    case a1_6 => exact rfl
    case i1_6 => walk_at "m_nm"
    case n1_6 => exact rfl
    case n2_6 => exact rfl
    case n3_6 => decide +kernel
    case n4_6 => exact fun _ => rfl
    case n5_6 => walk_at "m_one"
    case n6_6 => exact fun k1 k2 => cl_apart k1 k2 (by walk_at "m_one") (by show (["octets"] : List Str).Nodup; decide +kernel)
    case n7_6 => walk_at "m_fv"
    case n8_6 => intro C b' hf x hx; simp only [List.mem_cons, List.not_mem_nil, or_false] at hx; subst hx; exact .inl rfl
    case n9_6 => exact fun C i hi => tsts_nil
    case n11_6 => rw [List.length_map]; omega
    case n12_6 => intro i hi; walk_at "m_one"
    case n13_6 => exact rfl
    case n14_6 => exact rfl
    case n10_6 =>
      intro C j hj _ OL'
      refine Ev.o ?_
      with_reducible refine' ev_if (c := false) (tst_ev (d := .bool false) ?b1_7 tru_bool ?b2_7) ?b3_7 ?b4_7
      case b1_7 => walk_at "m_nm"
      case b2_7 => exact rfl
      case b3_7 => exact fun h => nomatch h
      case b4_7 => intro _; walk_at "m_nm"
    case a5_6 =>
      have e : gather (fun _ => true) (fun i => (rows.map Dt.str).getD i .none) (rows.map Dt.str).length = rows.map .str := by
        have := map_range_getD (rows.map Dt.str) .none id
        rw [gather_true]
        simpa using this
      rw [e] at S₁
      with_reducible refine' x_returnB (d := .bool true) ?a1_8 S₁ ?a2_8 fun v s₂ S₂ r₂ => h v _ s₂ S₂ r₂
      case a1_8 => exact rfl
      case a2_8 =>
        with_reducible refine' Ev.cast (ev_cmp (a := .str (Txt.join "/" rows)) (b := .str (Txt.join "/" rows)) ?u1_9 ?u2_9 op_eq_str ?u3_9) ?u4_9
        case u3_9 => exact rfl
        case u4_9 => simp
        case u2_9 =>
          with_reducible refine' ev_if (c := false) (tst_ev (d := .bool false) ?b1_10 tru_bool ?b2_10) ?b3_10 ?b4_10
          case b1_10 => walk_at "m_nm"
          case b2_10 => exact rfl
          case b3_10 => exact fun h => nomatch h
          case b4_10 => exact fun _ => hjoin rfl rfl
        case u1_9 =>
          with_reducible refine' ev_meth1 (d₀ := .str "/") (ds := [.lst (rows.map .str)]) ?b1_11 ?b2_11 ?b3_11 (bc_join hsum) ?b4_11 ?b5_11 ?b6_11
          case b2_11 => exact gm_str PySem.F.slot_str_join PySem.F.type_str_join
          case b4_11 => exact rfl
          case b5_11 => exact rfl
          case b6_11 => exact rfl
          case b3_11 => exact evs_cons (by walk_at "m_nm") evs_nil rfl
          case b1_11 =>
            with_reducible refine' ev_callN (ds := [.str r0]) G (hA.le (by omega)) H.sep ?c1_12 ?c2_12 ?c3_12 ?c4_12 (getsepS_ok G H.sep H.isinstance H.bytes) ?c5_12
            case c1_12 => exact rfl
            case c2_12 => exact rfl
            case c3_12 => exact rfl
            case c5_12 => exact rfl
            case c4_12 =>
              with_reducible refine' evs_cons (ev_sub (a := .lst (rows.map .str)) (i := .int 0) ?d1_13 ?d2_13 ?d3_13) evs_nil ?d4_13
              case d1_13 => walk_at "m_nm"
              case d2_13 => exact ev_int
              case d3_13 => exact op_item_list (by omega) (by decide) (by simp [hr0]) (fun _ _ => rfl)
              case d4_13 => exact rfl
  | true =>
    with_reducible refine' x_compL (xs := ["row"]) (n := (rows.map Dt.str).length) (Dn := fun i => [("row", (rows.map Dt.str).getD i .none)]) (FV := [("octets", .bool true)]) (ok := fun _ => true) (res := fun i => ((rows.map bcps).map Dt.bytes).getD i .none) ?a1_14 S (compIn_name (ib_list hA.handled ?i1_14)) ?n1_14 ?n2_14 ?n3_14 ?n4_14 ?n5_14 ?n6_14 ?n7_14 ?n8_14 ?n9_14 ?n10_14 ?n11_14 ?n12_14 ?n13_14 ?n14_14 fun s₁ S₁ => ?a5_14
    case a1_14 => exact rfl
    case i1_14 => walk_at "m_nm"
    case n1_14 => exact rfl
    case n2_14 => exact rfl
    case n3_14 => decide +kernel
    case n4_14 => exact fun _ => rfl
    case n5_14 => walk_at "m_one"
    case n6_14 => exact fun k1 k2 => cl_apart k1 k2 (by walk_at "m_one") (by show (["octets"] : List Str).Nodup; decide +kernel)
    case n7_14 => walk_at "m_fv"
    case n8_14 => intro C b' hf x hx; simp only [List.mem_cons, List.not_mem_nil, or_false] at hx; subst hx; exact .inl rfl
    case n9_14 => exact fun C i hi => tsts_nil
    case n11_14 => rw [List.length_map]; omega
    case n12_14 => intro i hi; walk_at "m_one"
    case n13_14 => exact rfl
    case n14_14 => exact rfl
    case n10_14 =>
      intro C j hj _ OL'
      rw [List.length_map] at hj
      refine Ev.o ?_
      have e1 : (rows.map Dt.str).getD j .none = .str rows[j] := by rw [List.getD_eq_getElem?_getD, List.getElem?_map, List.getElem?_eq_getElem hj]; rfl
      have e2 : ((rows.map bcps).map Dt.bytes).getD j .none = .bytes (bcps rows[j]) := by rw [List.getD_eq_getElem?_getD, List.getElem?_map, List.getElem?_map, List.getElem?_eq_getElem hj]; rfl
      rw [e1, e2]
      have hxp := hpl rows[j] (List.getElem_mem hj)
      have hxl := hlen rows[j] (List.getElem_mem hj)
      generalize rows[j] = x at *
      with_reducible refine' ev_if (c := true) (tst_ev (d := .bool true) ?b1_15 tru_bool ?b2_15) ?b3_15 ?b4_15
      case b1_15 => walk_at "m_nm"
      case b2_15 => exact rfl
      case b4_15 => exact fun h => nomatch h
      case b3_15 =>
        intro _
        with_reducible refine' ev_meth1 (d₀ := .str x) (ds := [.str "ascii"]) ?c1_16 ?c2_16 ?c3_16 (bc_encode ?c7_16 (by omega)) ?c4_16 ?c5_16 ?c6_16
        case c7_16 => exact fun c hc => (hxp c hc).1
        case c1_16 => walk_at "m_nm"
        case c2_16 => exact gm_str PySem.F.slot_str_encode PySem.F.type_str_encode
        case c3_16 => exact evs_cons ev_str evs_nil rfl
        case c4_16 => exact rfl
        case c5_16 => exact rfl
        case c6_16 => exact rfl
    case a5_14 =>
      have e : gather (fun _ => true) (fun i => ((rows.map bcps).map Dt.bytes).getD i .none) (rows.map Dt.str).length = (rows.map bcps).map .bytes := by
        have := map_range_getD ((rows.map bcps).map Dt.bytes) .none id
        rw [gather_true]
        simpa using this
      rw [e] at S₁
      with_reducible refine' x_returnB (d := .bool true) ?a1_17 S₁ ?a2_17 fun v s₂ S₂ r₂ => h v _ s₂ S₂ r₂
      case a1_17 => exact rfl
      case a2_17 =>
        with_reducible refine' Ev.cast (ev_cmp (a := .bytes (bcps (Txt.join "/" rows))) (b := .bytes (bcps (Txt.join "/" rows))) ?u1_18 ?u2_18 op_eq_bytes ?u3_18) ?u4_18
        case u3_18 => exact rfl
        case u4_18 => simp
        case u2_18 =>
          with_reducible refine' ev_if (c := true) (tst_ev (d := .bool true) ?b1_19 tru_bool ?b2_19) ?b3_19 ?b4_19
          case b1_19 => walk_at "m_nm"
          case b2_19 => exact rfl
          case b4_19 => exact fun h => nomatch h
          case b3_19 =>
            intro _
            with_reducible refine' ev_meth1 (d₀ := .str (Txt.join "/" rows)) (ds := [.str "ascii"]) ?c1_20 ?c2_20 ?c3_20 (bc_encode (line_ascii hpl) (by omega)) ?c4_20 ?c5_20 ?c6_20
            case c1_20 => exact hjoin rfl rfl
            case c2_20 => exact gm_str PySem.F.slot_str_encode PySem.F.type_str_encode
            case c3_20 => exact evs_cons ev_str evs_nil rfl
            case c4_20 => exact rfl
            case c5_20 => exact rfl
            case c6_20 => exact rfl
        case u1_18 =>
          with_reducible refine' Ev.cast (ev_meth1 (d₀ := .bytes #[47]) (ds := [.lst ((rows.map bcps).map .bytes)]) ?b1_21 ?b2_21 ?b3_21 (bc_bjoin ?b8_21 ?b9_21 (by decide) ?b10_21) ?b4_21 ?b5_21 ?b6_21) ?b7_21
          case b2_21 => exact gm_bytes slot_bytes_join type_bytes_join
          case b4_21 => exact rfl
          case b5_21 => exact rfl
          case b6_21 => exact rfl
          case b7_21 => rw [bjoin_rows]
          case b8_21 => rw [List.length_map]; omega
          case b9_21 =>
            intro y hy
            obtain ⟨x, hx, rfl⟩ := List.mem_map.mp hy
            have := bcps_size x
            have := hlen x hx
            omega
          case b10_21 => simpa using hne
          case b3_21 => exact evs_cons (by walk_at "m_nm") evs_nil rfl
          case b1_21 =>
            with_reducible refine' ev_callN (ds := [.bytes (bcps r0)]) G (hA.le (by omega)) H.sep ?c1_22 ?c2_22 ?c3_22 ?c4_22 (getsepB_ok G H.sep H.isinstance H.bytes) ?c5_22
            case c1_22 => exact rfl
            case c2_22 => exact rfl
            case c3_22 => exact rfl
            case c5_22 => exact rfl
            case c4_22 =>
              with_reducible refine' evs_cons (ev_sub (a := .lst ((rows.map bcps).map .bytes)) (i := .int 0) ?d1_23 ?d2_23 ?d3_23) evs_nil ?d4_23
              case d1_23 => walk_at "m_nm"
              case d2_23 => exact ev_int
              case d3_23 => exact op_item_list (by omega) (by decide) (by simp [hr0]) (fun _ _ => rfl)
              case d4_23 => exact rfl
end Mine
end

section
-- H10_02
open PySem PySem.W PySem.Calls PyProof.Rows
set_option maxRecDepth 100000

namespace Mine
theorem law_yl {W : Wd} {ti td : Tb} (H : Lw W ti td) {xs : List Int} (hx : xs.length ≤ 63) {f : Addr} (hf : W.mg (fnN (stAt PySem.Challenge.pw_op0122_02 47)) = some (.ref f)) {s : Shared} {vs : List Value} (hA : AOk callerA 400) (I : IO W [] s.heap) (r : RepL s.heap [] [.lsw (xs.map .int)] vs) : Yl W callerA [] (call (.ref f) vs) (.bool true) s := by
  have G := H.dv.G
  obtain ⟨f', h1, cd, h2⟩ := H.law
  rw [hf] at h1; cases h1
  refine wpAny_call (enter (xs := ["script"]) (hb := s.heap) (k := 399) G h2 hA I (.refl _ _) r ?_ rfl (by decide +kernel) ?_ ?_ (fun n x q => cellsFrom_some _ n [] (.inl q)) (fun L s' hA' S C => ?_) rfl rfl rfl)
  · intro pm cd doc vs h
    match vs, h with
    | [a], _ => rfl
  · intro x hx
    have : ((["script"] : List PySem.Str).all fun x => (fnS (stAt PySem.Challenge.pw_op0122_02 47)).names.lookup x == some .local || (fnS (stAt PySem.Challenge.pw_op0122_02 47)).names.lookup x == some .cell) = true := by decide +kernel
    have := List.all_eq_true.mp this x hx
    simpa using this
  · intro x q
    have : (fnS (stAt PySem.Challenge.pw_op0122_02 47)).names.all (fun y => y.2 != .free) = true := by decide +kernel
    have := List.all_eq_true.mp this (x, .free) (mem_of_lookup q)
    simp at this
  · have hfr : (callerA.deeper (lawEnv L f cd)).frames = some [lawEnv L f cd] := Around.frames_deeper rfl
    have S0 : St W ⟨s.heap, s, []⟩ (lawEnv L f cd) [("script", .lsw (xs.map .int))] [] s' := S
    have C0 : CF W ⟨s.heap, s, []⟩ (lawEnv L f cd) := C
    refine wpAny_mono (Q := fun fl s'' => ∃ v, fl = .ret v ∧ Left W ⟨s.heap, s, []⟩ s'' ∧ Rep s''.heap [] (.bool true) v) (E := fun _ _ => False) ?_ (fun fl s'' y => ?_) fun _ _ y => y.elim
    · with_reducible refine' law_head (xs := xs) G C0 hA'.handled H.dv.len H.list H.min hx S0 fun modes wrong piles turn octets lift width s₁ P S₁ => ?_
      with_reducible refine' law_spots H C0 (hA'.le (by omega)) P S₁ fun s₂ S₂ => ?_
      with_reducible refine' law_line H C0 (hA'.le (by omega)) P S₂ fun s₃ S₃ => ?_
      with_reducible refine' law_rests H C0 (hA'.le (by omega)) P S₃ fun s₄ S₄ => ?_
      with_reducible refine' law_answers H (hA'.le (by omega)) hfr P S₄ fun s₅ S₅ => ?_
      with_reducible refine' law_mended H (hA'.le (by omega)) P S₅ fun s₆ S₆ => ?_
      with_reducible refine' law_end H (hA'.le (by omega)) P.n1 P.n6 S₆ fun v D s₇ S₇ r₇ => ?_
      exact ⟨v, rfl, S₇.left, r₇⟩
    · obtain ⟨v, rfl, l, r⟩ := y
      exact ⟨⟨l.inv, l.ext, l.same⟩, r⟩
end Mine
end

section
-- A_02
open PySem PySem.W PySem.Calls PyProof.Rows
set_option maxRecDepth 100000
set_option maxHeartbeats 8000000
namespace Mine
local macro_rules | `(tactic| walk_at "m_free") => `(tactic| exact Top.free (by assumption) _ (by decide +kernel) (by decide +kernel) (by decide +kernel) (by decide +kernel) (by decide +kernel))
theorem law_call {w : World} {s : Shared} {mg mb : Str → Option Value} {loose : List Str} (hlo : loose = looseW view looseN) {mean : ExcName → Option Value} (T : Top view loose mean mg mb s.heap) (V : LooseAre looseV mg s.heap) (Y : lawHook.says w s.heap) {fa a : Addr} (hm : mg (fnN (stAt PySem.Challenge.pw_op0122_02 47)) = some (.ref fa)) {vs : List Value} {xs : List Int}
    (hx : xs.length ≤ 63) (hL : s.heap.IsList a vs.toArray) (hI : IntsAre vs xs) (hg : s.gens = #[]) {cw : ClaimW} {cl : Str → Option Addr} {mn : ExcName → Option Value} {args : List WData} (hn : ∀ cls, cw.raises args cls = false) (hp : cw.post args (.bool true) args = true) :
    wpAny (model PySem.Challenge.pw_op0122_02 w) callerA (call (.ref fa) [.ref a]) (fun v s' => GoodWG cw cl mn args s (.ok (.ret v)) s') (fun e s' => GoodWG cw cl mn args s (.error e) s') s := by
  subst hlo
  obtain ⟨ti, hti⟩ : ∃ ti : Tb, ti = ⟨(137, 133).1, (137, 133).2, stPos (inDef PySem.Challenge.pw_op0122_02 35 1), fnN (stAt PySem.Challenge.pw_op0122_02 35) ++ ".<locals>." ++ fnN (inDef PySem.Challenge.pw_op0122_02 35 1)⟩ := ⟨_, rfl⟩
  obtain ⟨td, htd⟩ : ∃ td : Tb, td = ⟨(144, 140).1, (144, 140).2, stPos (inDef PySem.Challenge.pw_op0122_02 36 0), fnN (stAt PySem.Challenge.pw_op0122_02 36) ++ ".<locals>." ++ fnN (inDef PySem.Challenge.pw_op0122_02 36 0)⟩ := ⟨_, rfl⟩
  have T9 : TabsAt (cps [ti, td]) s.heap := by
    intro q hq
    simp only [cps, List.map_cons, List.map_nil, List.mem_cons, List.not_mem_nil, or_false] at hq
    rcases hq with rfl | rfl
    · rw [hti]; exact path_tab T Y.1 12 (by kernel_rfl)
    · rw [htd]; exact path_tab T Y.2 13 (by kernel_rfl)
  have G := mkW_ok (prog := PySem.Challenge.pw_op0122_02) (w := w) T9 T (by rw [hti, htd]; decide)
  have Hdv : Dv (mkW PySem.Challenge.pw_op0122_02 w s.heap mg mb [ti, td]) ti td := by
    refine ⟨G, hasFn_of T9 T 10 (by kernel_rfl), hasFn_of T9 T 11 (by kernel_rfl), hasFnT_at T9 T (by simp) (by rw [hti]) (by rw [hti]) 12 (by kernel_rfl) (by rw [hti]; exact Y.1), hasFnT_at T9 T (by simp) (by rw [htd]) (by rw [htd]) 13 (by kernel_rfl) (by rw [htd]; exact Y.2), hasFn_of T9 T 14 (by kernel_rfl), hasFn_of T9 T 15 (by kernel_rfl), const_int T (by kernel_rfl), ?_, ?_, ?_⟩
    all_goals walk_at "m_free"
  have Hsv : Sv (mkW PySem.Challenge.pw_op0122_02 w s.heap mg mb [ti, td]) := by
    refine ⟨G, hasFn_of T9 T 0 (by kernel_rfl), hasFn_of T9 T 1 (by kernel_rfl), hasFn_of T9 T 2 (by kernel_rfl), hasFn_of T9 T 3 (by kernel_rfl), hasFn_of T9 T 4 (by kernel_rfl), hasFn_of T9 T 5 (by kernel_rfl), hasFn_of T9 T 6 (by kernel_rfl), hasFn_of T9 T 7 (by kernel_rfl), hasFn_of T9 T 8 (by kernel_rfl), hasFn_of T9 T 9 (by kernel_rfl),
      const_int T (by kernel_rfl), const_int T (by kernel_rfl), const_int T (by kernel_rfl), const_int T (by kernel_rfl), const_int T (by kernel_rfl), const_int T (by kernel_rfl), const_int T (by kernel_rfl), ?_, ?_⟩
    · walk_at "m_free"
    · obtain ⟨v, h1, h2⟩ := V.val _ (.head _)
      exact ⟨v, h1, rep_ghost T9 (rep_lit (by decide +kernel) h2)⟩
  have Hlw : Lw (mkW PySem.Challenge.pw_op0122_02 w s.heap mg mb [ti, td]) ti td := by
    refine ⟨Hdv, Hsv, hasFn_of T9 T 17 (by kernel_rfl), hasFn_of T9 T 18 (by kernel_rfl), hasFn_of T9 T 19 (by kernel_rfl), hasFn_of T9 T 20 (by kernel_rfl), hasFn_of T9 T 21 (by kernel_rfl), hasFn_of T9 T 16 (by kernel_rfl), hasFn_of T9 T 22 (by kernel_rfl), ?_, ?_, ?_, ?_, ?_, ?_, ?_⟩
    all_goals walk_at "m_free"
  exact finish2 T9 (fun vs' hA I r => law_yl Hlw hx hm hA I r) hL hI hg hn hp

theorem fin : PySem.Challenge.rw_op0122_02.Holds := by
  refine law_head0 (by rfl) (by rfl) (by rfl) ?_
  intro w s₀ s₁ mg mb G Y fa o pm cd doc dV kV ho hd hcd hD hmg hg args vals as hpre hlay hrd hwl hlo
  have V := (Ground.X G).2
  refine Ground.open G ?_
  intro T B D TE TW
  have hmg2 : mg (fnN (stAt PySem.Challenge.pw_op0122_02 47)) = some (.ref fa) := hmg
  clear hmg hD hcd hd ho
  wrow_args hpre hlay hrd hwl hlo
  rename_i xs hs hlay0 hL1 hr1 hl2 as1 as2 a vs as3 hL ra w1 r0 hI hr2 hxs ht
  have hx : xs.length ≤ 63 := by omega
  exact law_call rfl T V Y hmg2 hx hL hI hg (fun _ => rfl) (post_true _ _ _)
end Mine
end

set_option maxRecDepth 100000 in
set_option maxHeartbeats 8000000 in
theorem PySem.Challenge.cw_op0122_02_holds : PySem.Challenge.rw_op0122_02.Holds := by
  exact Mine.fin
