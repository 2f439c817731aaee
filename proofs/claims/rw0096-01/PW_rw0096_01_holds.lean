import PyProof.Rows.All
import Wide.All
import OpenK.AllK
import Wide.FinOn
import KE.KRevIter
import KE.KNest
import KE.BitLaws
import KE.IntBitsLaws
import Lean
import PySem.Challenge.RW_rw0096_01
set_option Elab.async false
set_option autoImplicit false
set_option genInjectivity false
set_option genSizeOf false
set_option linter.unusedVariables false
set_option linter.unusedSimpArgs false
set_option maxRecDepth 100000

-- M1
namespace Mine
open PySem PySem.Spec PySem.Calls PyProof.Rows PySem.W

/-! ## the state -/
structure Tab where
  c : Addr
  P : Addr
  line : Int
  col : Int
  qual : Str
  own : Str

structure Cx where
  prog : Program
  w : World
  mg : Str → Option Value
  mb : Str → Option Value
  defs : List DefRec
  tabs : List Tab

noncomputable abbrev Cx.M (C : Cx) : Model := model C.prog C.w

structure Gd (C : Cx) (hp : Heap) : Prop where
  g : hp.Ns mainGlobals C.mg
  b : hp.Ns builtinsNs C.mb
  nolimit : hp.NoLimit
  builtins : ∀ x : Str, x ≠ "__name__" → C.mb x = bootBuiltins x
  fn : ∀ d ∈ C.defs, ∃ a o pm code doc, C.mg d.name = some (.ref a) ∧ hp.get? a = some o ∧ o.data = .func (docDef d.name d.params d.body d.scope pm code doc) ∧ hp.CodeRec code d.name
  bmain : ∃ bm ob, C.mg "__builtins__" = some (.ref bm) ∧ bm ≠ builtinsNs ∧ hp.get? bm = some ob ∧ ob.cls = .type "module" ∧ ob.dict = some builtinsNs ∧ ob.data = .plain
  heads : ∀ t ∈ C.tabs, CodeHd hp t.c t.P
  owner : ∀ t ∈ C.tabs, ∃ a o fd, C.mg t.own = some (.ref a) ∧ hp.get? a = some o ∧ o.data = .func fd ∧ fd.code = .ref t.c

noncomputable def Sub (g g' : Heap) : Prop := ∀ b o, g.get? b = some o → g'.get? b = some o
theorem Sub.refl (g : Heap) : Sub g g := fun _ _ e => e
theorem Sub.trans {a b c : Heap} (x : Sub a b) (y : Sub b c) : Sub a c := fun p o e => y p o (x p o e)

theorem Gd.keeps {C : Cx} {g g' : Heap} (G : Gd C g) (k : Sub g g') : Gd C g' where
  g := G.g.keeps k
  b := G.b.keeps k
  nolimit := G.nolimit.keeps k
  builtins := G.builtins
  fn := fun d hd => let ⟨a, o, pm, code, doc, h1, h2, h3, h4⟩ := G.fn d hd; ⟨a, o, pm, code, doc, h1, k _ _ h2, h3, h4.keeps k⟩
  bmain := let ⟨bm, ob, h1, h2, h3, r⟩ := G.bmain; ⟨bm, ob, h1, h2, k _ _ h3, r⟩
  heads := fun t ht => (G.heads t ht).keeps k
  owner := fun t ht => let ⟨a, o, fd, h1, h2, h3, h4⟩ := G.owner t ht; ⟨a, o, fd, h1, k _ _ h2, h3, h4⟩

/-- the frozen part of a heap: all but the listed addresses -/
noncomputable abbrev Fz (h : Heap) (ex : List Addr) : Heap := hideAll h ex

theorem fz_iff {h : Heap} {ex : List Addr} {b : Addr} {o : Obj} : (Fz h ex).get? b = some o ↔ h.get? b = some o ∧ b ∉ ex := by
  constructor
  · intro e
    refine ⟨of_hideAll _ e, fun hb => ?_⟩
    rw [hideAll_none _ hb] at e; cases e
  · rintro ⟨e, hb⟩
    exact hideAll_get _ e hb

theorem fz_sub {h : Heap} {ex : List Addr} : Sub (Fz h ex) h := fun _ _ e => (fz_iff.mp e).1

theorem fz_mono {h h' : Heap} {ex ex' : List Addr} (k : ∀ b o, b ∉ ex → h.get? b = some o → h'.get? b = some o) (hx : ∀ b o, b ∉ ex → h.get? b = some o → b ∉ ex') : Sub (Fz h ex) (Fz h' ex') := fun b o e => by
  obtain ⟨e1, e2⟩ := fz_iff.mp e
  exact fz_iff.mpr ⟨k b o e2 e1, hx b o e2 e1⟩

noncomputable abbrev isTab (C : Cx) (a : Addr) : Prop := ∃ t ∈ C.tabs, t.P = a

structure St (C : Cx) (ex : List Addr) (s : Shared) : Prop where
  gd : Gd C (Fz s.heap ex)
  tabx : ∀ t ∈ C.tabs, t.P ∈ ex
  there : ∀ a ∈ ex, ∃ o, s.heap.get? a = some o
  tab : ∀ t ∈ C.tabs, ∃ ps, s.heap.get? t.P = some (tabObj ps) ∧ (ps = #[] ∨ ∃ c', ps = #[rawInt t.line, rawInt t.col, .ref c'] ∧ (Fz s.heap ex).CodeRec (.ref c') t.qual)
  bare : AllBare s.gens

structure Grow (C : Cx) (X : List Addr) (s s' : Shared) : Prop where
  keep : ∀ a o, a ∉ X → ¬ isTab C a → s.heap.get? a = some o → s'.heap.get? a = some o
  alive : ∀ a o, s.heap.get? a = some o → ∃ o', s'.heap.get? a = some o'
  os : s'.os = s.os
  gsize : s.gens.size ≤ s'.gens.size
  gens : ∀ i, i < s.gens.size → s'.gens[i]? = s.gens[i]?

theorem Grow.refl (C : Cx) (X : List Addr) (s : Shared) : Grow C X s s := ⟨fun _ _ _ _ e => e, fun _ o e => ⟨o, e⟩, rfl, Nat.le_refl _, fun _ _ => rfl⟩
theorem Grow.trans {C : Cx} {X X' : List Addr} {a b c : Shared} (x : Grow C X a b) (y : Grow C X' b c) (hX : ∀ p ∈ X', p ∈ X ∨ a.heap.get? p = none) : Grow C X a c where
  keep := fun p o h1 h2 e => y.keep p o (fun hp => (hX p hp).elim h1 fun hl => by rw [hl] at e; cases e) h2 (x.keep p o h1 h2 e)
  alive := fun p o e => let ⟨o', e'⟩ := x.alive p o e; y.alive p o' e'
  os := y.os.trans x.os
  gsize := Nat.le_trans x.gsize y.gsize
  gens := fun i hi => (y.gens i (Nat.lt_of_lt_of_le hi x.gsize)).trans (x.gens i hi)
theorem Grow.trans' {C : Cx} {X : List Addr} {a b c : Shared} (x : Grow C X a b) (y : Grow C X b c) : Grow C X a c := x.trans y fun _ hp => .inl hp
theorem Grow.weak {C : Cx} {X X' : List Addr} {a b : Shared} (x : Grow C X a b) (h : ∀ p ∈ X, p ∈ X') : Grow C X' a b := ⟨fun p o h1 h2 e => x.keep p o (fun hp => h1 (h p hp)) h2 e, x.alive, x.os, x.gsize, x.gens⟩
theorem Grow.weak0 {C : Cx} {X : List Addr} {a b : Shared} (x : Grow C [] a b) : Grow C X a b := x.weak fun _ h => nomatch h

/-- what is not there now was not there before -/
theorem Grow.fresh {C : Cx} {X : List Addr} {s s' : Shared} (G : Grow C X s s') {p : Addr} (h : s'.heap.get? p = none) : s.heap.get? p = none := by
  cases q : s.heap.get? p with
  | none => rfl
  | some o => obtain ⟨o', e⟩ := G.alive p o q; rw [h] at e; cases e

theorem get?_size (h : Heap) : h.get? h.objs.size = none := by
  cases q : h.get? h.objs.size with
  | none => rfl
  | some o => exact absurd (Heap.lt_size q) (Nat.lt_irrefl _)

theorem Grow.sub {C : Cx} {X : List Addr} {s : Shared} {h' : Heap} {tk : Nat} (k : Sub s.heap h') : Grow C X s { s with heap := h', toks := tk } :=
  ⟨fun a o _ _ e => k a o e, fun a o e => ⟨o, k a o e⟩, rfl, Nat.le_refl _, fun _ _ => rfl⟩
theorem Grow.toks {C : Cx} {X : List Addr} {s : Shared} {tk : Nat} : Grow C X s { s with toks := tk } := Grow.sub (h' := s.heap) fun _ _ e => e
theorem Grow.push {C : Cx} {X : List Addr} {s : Shared} {o : Obj} {tk : Nat} : Grow C X s { s with heap := s.heap.push o, toks := tk } := Grow.sub fun _ _ e => Heap.get?_push_of_some _ e
theorem Grow.but {C : Cx} {X : List Addr} {s : Shared} {a : Addr} {h' : Heap} {o' : Obj} (ha : a ∈ X) (hs : Heap.SameBut a s.heap h') (ho : h'.get? a = some o') (tk : Nat) : Grow C X s { s with heap := h', toks := tk } :=
  ⟨fun b o hb _ e => (hs.2 b (fun h => hb (h ▸ ha))).trans e, fun b o e => by
    by_cases hb : b = a
    · subst hb; exact ⟨o', ho⟩
    · exact ⟨o, (hs.2 b hb).trans e⟩, rfl, Nat.le_refl _, fun _ _ => rfl⟩

theorem Grow.fz {C : Cx} {X ex : List Addr} {s s' : Shared} (G : Grow C X s s') (hx : ∀ a ∈ X, a ∈ ex) (ht : ∀ t ∈ C.tabs, t.P ∈ ex) : Sub (Fz s.heap ex) (Fz s'.heap ex) :=
  fz_mono (fun b o hb e => G.keep b o (fun h => hb (hx b h)) (fun ⟨t, ht', e'⟩ => hb (e' ▸ ht t ht')) e) fun b _ hb _ => hb

/-- the state stands on when the tables stay -/
theorem St.grow {C : Cx} {X ex : List Addr} {s s' : Shared} (S : St C ex s) (G : Grow C X s s') (hx : ∀ a ∈ X, a ∈ ex) (htab : ∀ t ∈ C.tabs, s'.heap.get? t.P = s.heap.get? t.P) (hb : AllBare s'.gens) : St C ex s' where
  gd := S.gd.keeps (G.fz hx S.tabx)
  tabx := S.tabx
  there := fun a ha => let ⟨o, e⟩ := S.there a ha; G.alive a o e
  tab := fun t ht => by
    obtain ⟨ps, h1, h2⟩ := S.tab t ht
    refine ⟨ps, (htab t ht).trans h1, h2.imp id ?_⟩
    rintro ⟨c', e, hc⟩
    exact ⟨c', e, hc.keeps (G.fz hx S.tabx)⟩
  bare := hb

theorem St.sub {C : Cx} {ex : List Addr} {s : Shared} {h' : Heap} (S : St C ex s) (k : Sub s.heap h') (tk : Nat) : St C ex { s with heap := h', toks := tk } :=
  S.grow (X := []) (Grow.sub k) (fun _ h => nomatch h) (fun t ht => by
    obtain ⟨ps, h1, _⟩ := S.tab t ht
    exact (k _ _ h1).trans h1.symm) S.bare
theorem St.toks {C : Cx} {ex : List Addr} {s : Shared} (S : St C ex s) (tk : Nat) : St C ex { s with toks := tk } := S.sub (h' := s.heap) (fun _ _ e => e) tk
theorem St.push {C : Cx} {ex : List Addr} {s : Shared} (S : St C ex s) (o : Obj) (tk : Nat) : St C ex { s with heap := s.heap.push o, toks := tk } := S.sub (fun _ _ e => Heap.get?_push_of_some _ e) tk

/-- an update of a hidden address that is no table -/
theorem St.but {C : Cx} {ex : List Addr} {s : Shared} {a : Addr} {h' : Heap} {o' : Obj} (S : St C ex s) (ha : a ∈ ex) (hn : ¬ isTab C a) (hs : Heap.SameBut a s.heap h') (ho : h'.get? a = some o') (tk : Nat) : St C ex { s with heap := h', toks := tk } :=
  S.grow (X := [a]) (Grow.but (.head _) hs ho tk) (fun b hb => by rw [List.mem_singleton.mp hb]; exact ha) (fun t ht => hs.2 _ fun e => hn ⟨t, ht, e⟩) S.bare

theorem tab_ne {C : Cx} {ex : List Addr} {s : Shared} (S : St C ex s) {a : Addr} {o : Obj} (ho : s.heap.get? a = some o) (hd : ∀ ps, o.data ≠ .fields ps) : ¬ isTab C a := by
  rintro ⟨t, ht, rfl⟩
  obtain ⟨ps, h1, _⟩ := S.tab t ht
  rw [h1] at ho; cases ho
  exact hd ps rfl

/-- fewer things hidden -/
theorem St.show_ {C : Cx} {ex ex' : List Addr} {s : Shared} (S : St C ex s) (h : ∀ a ∈ ex', a ∈ ex) (ht : ∀ t ∈ C.tabs, t.P ∈ ex') : St C ex' s where
  gd := S.gd.keeps (fz_mono (fun _ _ _ e => e) fun b _ hb _ hb' => hb (h b hb'))
  tabx := ht
  there := fun a ha => S.there a (h a ha)
  tab := fun t ht' => by
    obtain ⟨ps, h1, h2⟩ := S.tab t ht'
    refine ⟨ps, h1, h2.imp id ?_⟩
    rintro ⟨c', e, hc⟩
    exact ⟨c', e, hc.keeps (fz_mono (fun _ _ _ e => e) fun b _ hb _ hb' => hb (h b hb'))⟩
  bare := S.bare

theorem fz_hid {h h' : Heap} {ex : List Addr} {a : Addr} (k : Sub h h') (ha : h.get? a = none) : Sub (Fz h ex) (Fz h' (a :: ex)) :=
  fz_mono (fun _ _ _ e => k _ _ e) fun b o hb e hb' => by
    rcases List.mem_cons.mp hb' with rfl | h2
    · rw [ha] at e; cases e
    · exact hb h2

/-- a new object, hidden from the start -/
theorem St.hid {C : Cx} {ex : List Addr} {s : Shared} {h' : Heap} {a : Addr} {o : Obj} (S : St C ex s) (k : Sub s.heap h') (ha : s.heap.get? a = none) (ho : h'.get? a = some o) (tk : Nat) : St C (a :: ex) { s with heap := h', toks := tk } where
  gd := S.gd.keeps (fz_hid k ha)
  tabx := fun t ht => List.mem_cons_of_mem _ (S.tabx t ht)
  there := fun b hb => by
    rcases List.mem_cons.mp hb with rfl | h
    · exact ⟨o, ho⟩
    · obtain ⟨o', e⟩ := S.there b h; exact ⟨o', k _ _ e⟩
  tab := fun t ht => by
    obtain ⟨ps, h1, h2⟩ := S.tab t ht
    refine ⟨ps, k _ _ h1, h2.imp id ?_⟩
    rintro ⟨c', e, hc⟩
    exact ⟨c', e, hc.keeps (fz_hid k ha)⟩
  bare := S.bare

/-- how much room a call needs -/
structure Room (A : Around) (k : Nat) : Prop where
  hh : A.handled = none
  depth : A.depth + k < recursionLimit
  units : A.units + 8 * k + 100 < cLine
theorem Room.le {A : Around} {k k' : Nat} (R : Room A k) (h : k' ≤ k) : Room A k' := ⟨R.hh, by have := R.depth; omega, by have := R.units; omega⟩
theorem Room.deeper {A : Around} {k : Nat} {env : Env} (R : Room A (k + 1)) : Room (A.deeper env) k :=
  ⟨R.hh, by have := R.depth; simp only [Around.deeper]; omega, by have := R.units; simp only [Around.deeper]; omega⟩
theorem Room.in1 {A : Around} {k : Nat} (R : Room A (k + 1)) : Room A.in1 k := ⟨R.hh, by have := R.depth; show A.depth + k < _; omega, by have := R.units; show A.units + 1 + 8 * k + 100 < _; omega⟩
theorem Room.here {A : Around} {k : Nat} (R : Room A k) : A.depth < recursionLimit := by have := R.depth; omega

/-- what a call of a pure def gives -/
noncomputable def CallsTo (C : Cx) (k : Nat) (f : Value) (args : List PyData) (r : PyData) : Prop :=
  ∀ (A : Around) (s : Shared) (ex : List Addr) (vs : List Value) (as : List Addr) (Q : Value → Shared → Prop) (E : Value → Shared → Prop),
    Room A k → St C ex s → ReadsAll (Fz s.heap ex) vs args as →
    (∀ v as' s', Grow C [] s s' → St C ex s' → Reads (Fz s'.heap ex) v r as' → Q v s') →
    wpAny C.M A (call f vs []) Q E s
theorem CallsTo.le {C : Cx} {k k' : Nat} {f : Value} {args : List PyData} {r : PyData} (h : CallsTo C k f args r) (hk : k ≤ k') : CallsTo C k' f args r :=
  fun A s ex vs as Q E R => h A s ex vs as Q E (R.le hk)
noncomputable def gd {α : Type} (b : Bool) (o : Option α) : Option α := bif b then o else none
noncomputable def alt {α : Type} (a b : Option α) : Option α := a.or b
section
variable {α β : Type} {P : Prop}
theorem bindE {o : Option α} {f : α → Option β} {b : β} (h : o.bind f = some b) (k : ∀ a, o = some a → f a = some b → P) : P := by
  cases o with
  | none => cases h
  | some a => exact k a rfl h
theorem mapE {o : Option α} {f : α → β} {b : β} {P : β → Prop} (h : o.map f = some b) (k : ∀ a, o = some a → P (f a)) : P b := by
  cases o with
  | none => cases h
  | some a => cases h; exact k a rfl
theorem mapI {o : Option α} {f : α → β} {b : β} (h : o.map f = some b) (k : ∀ a, o = some a → f a = b → P) : P := by
  cases o with
  | none => cases h
  | some a => exact k a rfl (Option.some.inj h)
theorem ifE {c : Prop} [Decidable c] {o : Option α} {a : α} (h : (if c then o else none) = some a) (k : c → o = some a → P) : P := by
  by_cases hc : c
  · rw [if_pos hc] at h; exact k hc h
  · rw [if_neg hc] at h; cases h
theorem bindV {o : Option α} {f : α → Option β} {v : α} {r : Option β} (h : o = some v) (hr : f v = r) : o.bind f = r := by subst h; exact hr
theorem mapV {o : Option α} {f : α → β} {v : α} (h : o = some v) : o.map f = some (f v) := by subst h; rfl
theorem gdE {b : Bool} {o : Option α} {a : α} (h : gd b o = some a) (k : b = true → o = some a → P) : P := by
  cases b with
  | false => cases h
  | true => exact k rfl h
theorem altE {o o' : Option α} {a : α} (h : alt o o' = some a) (k : o = some a → P) (k' : o' = some a → P) : P := by
  cases o with
  | none => exact k' h
  | some x => exact k h
theorem someE {a b : α} {P : α → Prop} (h : some a = some b) (k : P a) : P b := Option.some.inj h ▸ k
theorem noneE {b : α} (h : (none : Option α) = some b) : P := nomatch h
theorem andE' {a b : Bool} (h : (a && b) = true) (k : a = true → b = true → P) : P := by
  cases a with
  | false => cases h
  | true => exact k rfl h
theorem neE {x y : Str} (h : (x != y) = true) : x ≠ y := by simpa using h
end
end Mine

-- M2
namespace Mine
open PySem PySem.Spec PySem.Calls PyProof.Rows PySem.W

/-- what an expression of the value r leaves -/
noncomputable def Give (C : Cx) (ex : List Addr) (s : Shared) (r : PyData) (Q : Value → Shared → Prop) : Prop :=
  ∀ v as s', Grow C [] s s' → St C ex s' → Reads (Fz s'.heap ex) v r as → Q v s'

section
variable {C : Cx} {ex : List Addr} {s : Shared} {Q : Value → Shared → Prop}
theorem Give.int {i : Int} (G : Give C ex s (.int i) Q) (S : St C ex s) (t k : Tok) : Q (.int i t) { s with toks := k } := G _ [] _ Grow.toks (S.toks k) (.int i t)
theorem Give.str {x : Str} (G : Give C ex s (.str x) Q) (S : St C ex s) (t k : Tok) : Q (.str x t) { s with toks := k } := G _ [] _ Grow.toks (S.toks k) (.str x t)
theorem Give.bool {b : Bool} (G : Give C ex s (.bool b) Q) (S : St C ex s) (k : Tok) : Q (.bool b) { s with toks := k } := G _ [] _ Grow.toks (S.toks k) (.bool b)
theorem Give.bool0 {b : Bool} (G : Give C ex s (.bool b) Q) (S : St C ex s) : Q (.bool b) s := G _ [] _ (Grow.refl ..) S (.bool b)
theorem Give.none0 (G : Give C ex s .none Q) (S : St C ex s) : Q .none s := G _ [] _ (Grow.refl ..) S .none
theorem Give.here {v : Value} {r : PyData} {as : List Addr} (G : Give C ex s r Q) (S : St C ex s) (R : Reads (Fz s.heap ex) v r as) : Q v s := G _ as _ (Grow.refl ..) S R
/-- the state may have gone on -/
theorem Give.grow {s' : Shared} {r : PyData} (G : Give C ex s r Q) (g : Grow C [] s s') : Give C ex s' r Q := fun v as s'' g' S R => G v as s'' (g.trans' g') S R
theorem Give.intS {i : Int} (G : Give C ex s (.int i) Q) (S : St C ex s) {h' : Heap} (k : Sub s.heap h') (t tk : Tok) : Q (.int i t) { s with heap := h', toks := tk } := G _ [] _ (Grow.sub k) (S.sub k tk) (.int i t)
theorem Give.strS {x : Str} (G : Give C ex s (.str x) Q) (S : St C ex s) {h' : Heap} (k : Sub s.heap h') (t tk : Tok) : Q (.str x t) { s with heap := h', toks := tk } := G _ [] _ (Grow.sub k) (S.sub k tk) (.str x t)

theorem fz_size {h : Heap} {ex : List Addr} : (∀ a ∈ ex, ∃ o, h.get? a = some o) → h.objs.size ∉ ex := fun k hm => by
  obtain ⟨o, e⟩ := k _ hm
  exact absurd (Heap.lt_size e) (Nat.lt_irrefl _)

theorem fz_push (S : St C ex s) (o : Obj) : Sub (Fz s.heap ex) (Fz (s.heap.push o) ex) := fz_mono (fun _ _ _ e => Heap.get?_push_of_some _ e) fun _ _ hb _ => hb
theorem fz_push_new (S : St C ex s) {o : Obj} (ho : o.isFreed = false) : (Fz (s.heap.push o) ex).get? s.heap.objs.size = some o := fz_iff.mpr ⟨Heap.get?_push_size _ ho, fz_size S.there⟩

theorem Give.list {vs : Array Value} {ds : List PyData} {as : List Addr} (G : Give C ex s (.list ds) Q) (S : St C ex s) (R : ReadsAll (Fz s.heap ex) vs.toList ds as) (tk : Tok) :
    Q (.ref s.heap.objs.size) { s with heap := s.heap.push { cls := .type "list", data := .seq vs }, toks := tk } :=
  G _ _ _ Grow.push (S.push _ _) (.list (o := { cls := .type "list", data := .seq vs }) (fz_push_new S rfl) rfl rfl (ReadsAll.keeps (fz_push S _) R))
theorem Give.tuple {vs : Array Value} {ds : List PyData} {as : List Addr} (G : Give C ex s (.tuple ds) Q) (S : St C ex s) (R : ReadsAll (Fz s.heap ex) vs.toList ds as) (tk : Tok) :
    Q (.ref s.heap.objs.size) { s with heap := s.heap.push { cls := .type "tuple", data := .seq vs }, toks := tk } :=
  G _ _ _ Grow.push (S.push _ _) (.tuple (o := { cls := .type "tuple", data := .seq vs }) (fz_push_new S rfl) rfl rfl (ReadsAll.keeps (fz_push S _) R))
end

section
variable {h g : Heap} {v : Value} {as : List Addr}
theorem inv_int {i : Int} (R : Reads h v (.int i) as) : ∃ t, v = .int i t := by cases R; exact ⟨_, rfl⟩
theorem inv_str {x : Str} (R : Reads h v (.str x) as) : ∃ t, v = .str x t := by cases R; exact ⟨_, rfl⟩
theorem inv_bool {b : Bool} (R : Reads h v (.bool b) as) : v = .bool b := by cases R; rfl
theorem inv_none (R : Reads h v .none as) : v = .none := by cases R; rfl
theorem inv_list {xs : List PyData} (k : Sub h g) (R : Reads h v (.list xs) as) : ∃ a vs as', v = .ref a ∧ g.IsList a vs ∧ ReadsAll h vs.toList xs as' ∧ vs.size = xs.length := by
  cases R with
  | list h1 h2 h3 h4 => exact ⟨_, _, _, rfl, ⟨_, k _ _ h1, h2, _, h3⟩, h4, by simpa using SeqAt.ReadsAll.length _ _ _ h4⟩
theorem inv_tuple {xs : List PyData} (k : Sub h g) (R : Reads h v (.tuple xs) as) : ∃ a vs as', v = .ref a ∧ g.IsTuple a vs ∧ ReadsAll h vs.toList xs as' ∧ vs.size = xs.length := by
  cases R with
  | tuple h1 h2 h3 h4 => exact ⟨_, _, _, rfl, ⟨_, k _ _ h1, h2, _, h3⟩, h4, by simpa using SeqAt.ReadsAll.length _ _ _ h4⟩
theorem readsAll_get {vs : List Value} {ds : List PyData} : ∀ {as : List Addr}, ReadsAll h vs ds as → ∀ (i : Nat) (d : PyData), ds[i]? = some d → ∃ v as', vs[i]? = some v ∧ Reads h v d as' := by
  induction vs generalizing ds with
  | nil => intro as R i d e; cases R; simp at e
  | cons v vs ih =>
    intro as R i d e
    cases R with
    | cons r1 r2 =>
      cases i with
      | zero => simp at e; subst e; exact ⟨_, _, by simp, r1⟩
      | succ i => simp at e; obtain ⟨v', as', e1, e2⟩ := ih r2 i d e; exact ⟨v', as', by simpa using e1, e2⟩
theorem readsAll_append {vs ws : List Value} {ds es : List PyData} {as bs : List Addr} (R : ReadsAll h vs ds as) (T : ReadsAll h ws es bs) : ReadsAll h (vs ++ ws) (ds ++ es) (as ++ bs) := by
  induction vs generalizing ds as with
  | nil => cases R; simpa using T
  | cons v vs ih =>
    cases R with
    | cons r1 r2 => simpa [List.append_assoc] using ReadsAll.cons r1 (ih r2)
theorem readsAll_drop {vs : List Value} {ds : List PyData} {as : List Addr} (R : ReadsAll h vs ds as) : ∀ n, ∃ as', ReadsAll h (vs.drop n) (ds.drop n) as' := by
  induction vs generalizing ds as with
  | nil => intro n; cases R; exact ⟨_, by simpa using ReadsAll.nil⟩
  | cons v vs ih =>
    intro n
    cases R with
    | cons r1 r2 =>
      cases n with
      | zero => exact ⟨_, .cons r1 r2⟩
      | succ n => simpa using ih r2 n
theorem readsAll_take {vs : List Value} {ds : List PyData} {as : List Addr} (R : ReadsAll h vs ds as) : ∀ n, ∃ as', ReadsAll h (vs.take n) (ds.take n) as' := by
  induction vs generalizing ds as with
  | nil => intro n; cases R; exact ⟨_, by simpa using ReadsAll.nil⟩
  | cons v vs ih =>
    intro n
    cases R with
    | cons r1 r2 =>
      cases n with
      | zero => exact ⟨_, by simpa using ReadsAll.nil⟩
      | succ n => obtain ⟨as', r⟩ := ih r2 n; exact ⟨_, by simpa using ReadsAll.cons r1 r⟩
theorem readsAll_rep {vs : List Value} {ds : List PyData} {as : List Addr} (R : ReadsAll h vs ds as) : ∀ n, ∃ as', ReadsAll h (List.replicate n vs).flatten (List.replicate n ds).flatten as'
  | 0 => ⟨_, by simpa using ReadsAll.nil⟩
  | n + 1 => by
    obtain ⟨as', r⟩ := readsAll_rep R n
    exact ⟨_, by simpa [List.replicate_succ] using readsAll_append R r⟩
theorem readsAll_rev {vs : List Value} {ds : List PyData} {as : List Addr} (R : ReadsAll h vs ds as) : ∃ as', ReadsAll h vs.reverse ds.reverse as' := by
  induction vs generalizing ds as with
  | nil => cases R; exact ⟨_, by simpa using ReadsAll.nil⟩
  | cons v vs ih =>
    cases R with
    | cons r1 r2 => obtain ⟨as', r⟩ := ih r2; exact ⟨_, by simpa using readsAll_append r (.cons r1 .nil)⟩
theorem readsAll_set {vs : List Value} {ds : List PyData} {as bs : List Addr} {v : Value} {d : PyData} (R : ReadsAll h vs ds as) (r : Reads h v d bs) : ∀ n, ∃ as', ReadsAll h (vs.set n v) (ds.set n d) as' := by
  induction vs generalizing ds as with
  | nil => intro n; cases R; exact ⟨_, by simpa using ReadsAll.nil⟩
  | cons v' vs ih =>
    intro n
    cases R with
    | cons r1 r2 =>
      cases n with
      | zero => exact ⟨_, by simpa using ReadsAll.cons r r2⟩
      | succ n => obtain ⟨as', r'⟩ := ih r2 n; exact ⟨_, by simpa using ReadsAll.cons r1 r'⟩
theorem readsAll_len {vs : List Value} {ds : List PyData} {as : List Addr} (R : ReadsAll h vs ds as) : vs.length = ds.length := SeqAt.ReadsAll.length _ _ _ R
end

/-! ## truth -/
noncomputable def truthV : PyData → Bool
  | .none => false
  | .bool b => b
  | .int i => i != 0
  | .str x => (x.length : Int) != 0
  | .list xs | .tuple xs => !xs.isEmpty
  | .dict _ => false
/-- sizes that the model serves -/
noncomputable def smallV : PyData → Bool
  | .str x => decide (x.length ≤ 2 ^ 24)
  | .list xs | .tuple xs => decide (xs.length ≤ 2 ^ 24)
  | .dict _ => false
  | _ => true

section
variable {C : Cx} {A : Around} {E : Value → Shared → Prop} {ex : List Addr} {s : Shared}

theorem truth_ok {v : Value} {d : PyData} {as : List Addr} {Q : Bool → Shared → Prop} (S : St C ex s) (R : Reads (Fz s.heap ex) v d as) (hs : smallV d = true) (h : ∀ k, Q (truthV d) { s with toks := k }) : wpAny C.M A (truthy v) Q E s := by
  cases d with
  | none => obtain rfl := inv_none R; exact truthy_none (h s.toks)
  | bool b => obtain rfl := inv_bool R; exact wpAny_truthy_bool (h s.toks)
  | int i => obtain ⟨t, rfl⟩ := inv_int R; exact PyProof.Rows.truthy_int (h s.toks)
  | str x =>
    obtain ⟨t, rfl⟩ := inv_str R
    have : x.length ≤ 2 ^ 24 := of_decide_eq_true hs
    exact P.truthy_str (by omega) (h _)
  | list xs =>
    obtain ⟨a, vs, as', rfl, hl, rs, hz⟩ := inv_list fz_sub R
    have : xs.length ≤ 2 ^ 24 := of_decide_eq_true hs
    refine wpAny_truthy_list hl (by omega) ?_
    have := h (s.toks + 1 + 1)
    rw [show truthV (.list xs) = !vs.isEmpty from by rw [Array.isEmpty, hz]; cases xs <;> simp [truthV]] at this
    exact this
  | tuple xs =>
    obtain ⟨a, vs, as', rfl, hl, rs, hz⟩ := inv_tuple fz_sub R
    have : xs.length ≤ 2 ^ 24 := of_decide_eq_true hs
    obtain ⟨o, h1, h2, n, h3⟩ := hl
    refine truthy_tuple ⟨o, h1, h2, n, h3⟩ (by omega) ?_
    have := h (s.toks + 1 + 1)
    rw [show truthV (.tuple xs) = !vs.isEmpty from by rw [Array.isEmpty, hz]; cases xs <;> simp [truthV]] at this
    exact this
  | dict _ => cases hs
end
end Mine

-- M3
namespace Mine
open PySem PySem.Spec PySem.Calls PyProof.Rows PySem.W

noncomputable abbrev bits (x : Int) : Nat := Builtin.Int.intBits x
noncomputable def mulOk (a b : Int) : Bool := decide (bits a ≤ 64) || decide (bits b ≤ 64) || decide (bits a + bits b ≤ 2 ^ 27)

/-! ## operators -/
noncomputable def int2 (f : Int → Int → Option PyData) : PyData → PyData → Option PyData
  | .int a, .int b => f a b
  | _, _ => none
theorem int2_inv {f : Int → Int → Option PyData} {x y r : PyData} (h : int2 f x y = some r) : ∃ a b, x = .int a ∧ y = .int b ∧ f a b = some r := by
  cases x <;> first | cases h | skip
  cases y <;> first | cases h | exact ⟨_, _, rfl, rfl, h⟩
noncomputable def addV : PyData → PyData → Option PyData
  | .int a, .int b => some (.int (a + b))
  | .str x, .str y => if x.length + y.length ≤ 2 ^ 24 then some (.str (x ++ y)) else none
  | .list xs, .list ys => if xs.length + ys.length ≤ 2 ^ 24 then some (.list (xs ++ ys)) else none
  | _, _ => none
noncomputable def mulV : PyData → PyData → Option PyData
  | .int a, .int b => if mulOk a b then some (.int (a * b)) else none
  | .str x, .int n => if x.length ≤ 2 ^ 12 ∧ n ≤ 2 ^ 12 ∧ -(2 ^ 12) ≤ n then some (.str ⟨((List.replicate n.toNat x.cps.toList).flatten).toArray⟩) else none
  | .list xs, .int n => if xs.length ≤ 2 ^ 12 ∧ n ≤ 2 ^ 12 ∧ -(2 ^ 12) ≤ n then some (.list (List.replicate n.toNat xs).flatten) else none
  | _, _ => none
noncomputable def shlV (a n : Int) : Option PyData := if 0 ≤ n ∧ n.toNat + bits a ≤ 2 ^ 27 then some (.int (a * 2 ^ n.toNat)) else none
noncomputable def shrV (a n : Int) : Option PyData := if 0 ≤ n then some (.int (a.fdiv (2 ^ n.toNat))) else none
noncomputable def binV : Operator → PyData → PyData → Option PyData
  | .Add => addV
  | .Sub => int2 fun a b => some (.int (a - b))
  | .Mult => mulV
  | .FloorDiv => int2 fun a b => if b ≠ 0 ∧ bits b ≤ 9000 then some (.int (a.fdiv b)) else none
  | .Mod => int2 fun a b => if b ≠ 0 then some (.int (a.fmod b)) else none
  | .LShift => int2 shlV
  | .RShift => int2 shrV
  | .Pow => int2 fun a n => if 0 ≤ n ∧ bits a * n.toNat ≤ 2 ^ 27 then some (.int (a ^ n.toNat)) else none
  | .BitAnd => int2 fun a b => some (.int (Builtin.bitAnd a b))
  | .BitOr => int2 fun a b => some (.int (Builtin.bitOr a b))
  | .BitXor => int2 fun a b => some (.int (Builtin.bitXor a b))
  | _ => fun _ _ => none
noncomputable def augV : Operator → PyData → PyData → Option PyData
  | .Add => int2 fun a b => some (.int (a + b))
  | .Sub => int2 fun a b => some (.int (a - b))
  | .LShift => int2 shlV
  | .RShift => int2 shrV
  | _ => fun _ _ => none
theorem if_some {α : Type} {c : Prop} [Decidable c] {a r : α} (h : (if c then some a else none) = some r) : c ∧ a = r := by
  by_cases hc : c
  · rw [if_pos hc] at h; exact ⟨hc, Option.some.inj h⟩
  · rw [if_neg hc] at h; cases h

section
variable {C : Cx} {A : Around} {E : Value → Shared → Prop} {ex : List Addr} {s : Shared} {Q : Value → Shared → Prop}

theorem str_ext {x y : Str} (h : x.cps.toList = y.cps.toList) : x = y := by
  cases x; cases y; congr 1; exact Array.toList_inj.mp h

theorem add_list {l b : Addr} {vs ws : Array Value} (hl : s.heap.IsList l vs) (hb : s.heap.IsList b ws)
    (h : Q (.ref s.heap.objs.size) { s with heap := s.heap.push { cls := .type "list", data := .seq (vs ++ ws) } }) (hsz : vs.size + ws.size ≤ sizeLine) :
    wpAny C.M A (binaryOp .Add (.ref l) (.ref b)) Q E s := by
  obtain ⟨⟨cls, dd, data, sl⟩, ho, hc, n, hd⟩ := id hl
  obtain ⟨⟨cls2, dd2, data2, sl2⟩, ho2, hc2, n2, hd2⟩ := id hb
  simp only at hc hd hc2 hd2
  subst hc hd hc2 hd2
  exact concat_meets ⟨_, ho, rfl⟩ ⟨_, ho2, rfl⟩ noFill_list_add seq_list_add PySem.F.slot_list_add PySem.F.entry_list_add (PySem.F.args_list_add_2 _ _) (list_addW l b vs ws n n2 dd dd2 sl sl2 hsz) ⟨ho, ho2, h⟩

theorem mul_list_raw {l : Addr} {items : Array Value} {x : Int} {u : Tok} (hl : s.heap.IsList l items) (hlo : -(2 ^ 63 : Int) ≤ x) (hhi : x < 2 ^ 63) (hsz : items.size * x.toNat ≤ 2 ^ 24)
    (h : Q (.ref s.heap.objs.size) { s with heap := s.heap.push { cls := .type "list", data := .seq (List.replicate x.toNat items.toList).flatten.toArray } }) :
    wpAny C.M A (binaryOp .Mult (.ref l) (.int x u)) Q E s := by
  obtain ⟨⟨cls, dd, data, sl⟩, ho, hc, n, hd⟩ := id hl
  simp only at hc hd
  subst hc hd
  refine wpAny_binaryOp_repeat_ref (T := "list") (U := "int") (by decide) ⟨_, ho, rfl⟩ (fun s' => typeIs_int s' x u) noFill_list_mul F.fills_int_mul F.slot_int_rmul repeat_list F.slot_int_index.lookup
    (call_meets F.slot_int_rmul (typeIs_int s x u) F.entry_int_rmul (F.args_int_rmul_2 _ _) (lm_int_rmul_list_any x u l items n dd sl)
      ⟨ho, rfl, ⟨_, ho, rfl⟩, call_meets F.slot_list_mul ⟨_, ho, rfl⟩ F.entry_list_mul (F.args_list_mul_2 _ _)
        (lm_list_mul_any l items n dd sl x u (by simp [Builtin.List.listFitsIndex]; omega) (by omega) (by simp [Builtin.List.listTooLong, sizeLine]; omega))
        ⟨ho, ?_⟩⟩)
  rw [listMul_foldl_if]
  exact h

theorem foldl_rep (xs : Array Nat) : ∀ (n : Nat) (acc : Array Nat), (List.replicate n xs).foldl (· ++ ·) acc = (acc.toList ++ (List.replicate n xs.toList).flatten).toArray
  | 0, acc => by simp
  | n + 1, acc => by simp [List.replicate_succ, foldl_rep xs n]

theorem ints2 {f : Int → Int → Option PyData} {a b : Value} {x y r : PyData} {as bs : List Addr} {g : Heap} (h : int2 f x y = some r) (Ra : Reads g a x as) (Rb : Reads g b y bs) : ∃ i j t u, a = .int i t ∧ b = .int j u ∧ f i j = some r := by
  obtain ⟨i, j, rfl, rfl, e⟩ := int2_inv h
  obtain ⟨t, rfl⟩ := inv_int Ra; obtain ⟨u, rfl⟩ := inv_int Rb
  exact ⟨i, j, t, u, rfl, rfl, e⟩
theorem noLong {j : Int} (h : j ≠ 0 ∧ bits j ≤ 9000) : j.natAbs.log2 < 9000 := by
  have h2 := h.2
  unfold bits Builtin.Int.intBits at h2
  split at h2
  · rename_i h3; exact absurd (by simpa using h3) h.1
  · omega
theorem shl_le {i j : Int} (h : 0 ≤ j ∧ j.toNat + bits i ≤ 2 ^ 27) : (Builtin.Int.intBits i : Int) + j ≤ 2 ^ 27 := by
  obtain ⟨h1, h2⟩ := h
  unfold bits at h2
  omega
theorem add_ok {a b : Value} {x y r : PyData} {as bs : List Addr} (S : St C ex s) (he : addV x y = some r) (Ra : Reads (Fz s.heap ex) a x as) (Rb : Reads (Fz s.heap ex) b y bs)
    (G : Give C ex s r Q) : wpAny C.M A (binaryOp .Add a b) Q E s := by
  unfold addV at he
  split at he
  · obtain ⟨t, rfl⟩ := inv_int Ra; obtain ⟨u, rfl⟩ := inv_int Rb; cases he; exact wpAny_add_int (G.int S _ _)
  · obtain ⟨t, rfl⟩ := inv_str Ra; obtain ⟨u, rfl⟩ := inv_str Rb
    rename_i x y
    split at he
    · rename_i hm
      cases he
      refine P.add_str ?_
      by_cases h1 : (x.length == 0) = true
      · rw [if_pos h1]
        have e : x ++ y = y := str_ext (by
          have : x.cps.size = 0 := by simpa [Str.length] using h1
          have : x.cps = #[] := Array.size_eq_zero_iff.mp this
          show (x.cps ++ y.cps).toList = _
          rw [this]; simp)
        rw [e] at G
        exact G.str S u s.toks
      · rw [if_neg h1]
        by_cases h2 : (y.length == 0) = true
        · rw [if_pos h2]
          have e : x ++ y = x := str_ext (by
            have : y.cps.size = 0 := by simpa [Str.length] using h2
            have : y.cps = #[] := Array.size_eq_zero_iff.mp this
            show (x.cps ++ y.cps).toList = _
            rw [this]; simp)
          rw [e] at G
          exact G.str S t s.toks
        · rw [if_neg h2]
          refine ⟨?_, G.str S _ _⟩
          show (x.cps ++ y.cps).size ≤ sizeLine
          rw [Array.size_append]
          exact hm
    · cases he
  · obtain ⟨a, vs, as', rfl, hl, rs, hz⟩ := inv_list fz_sub Ra
    obtain ⟨b, ws, bs', rfl, hb, rt, hy⟩ := inv_list fz_sub Rb
    split at he
    · rename_i hm
      cases he
      exact add_list hl hb (G.list S (by rw [Array.toList_append]; exact readsAll_append rs rt) _) (by rw [hz, hy]; exact hm)
    · cases he
  · cases he
theorem mul_ok {a b : Value} {x y r : PyData} {as bs : List Addr} (S : St C ex s) (he : mulV x y = some r) (Ra : Reads (Fz s.heap ex) a x as) (Rb : Reads (Fz s.heap ex) b y bs)
    (G : Give C ex s r Q) : wpAny C.M A (binaryOp .Mult a b) Q E s := by
  unfold mulV at he
  split at he
  · obtain ⟨t, rfl⟩ := inv_int Ra; obtain ⟨u, rfl⟩ := inv_int Rb
    rename_i a b
    split at he
    · rename_i hm
      cases he
      refine PyProof.Rows.mul_int (G.int S _ _) ?_
      unfold mulOk at hm
      simp only [Bool.or_eq_true, decide_eq_true_eq] at hm
      rcases hm with (hm | hm) | hm
      · exact IntMulOk.of_left hm
      · exact IntMulOk.of_right hm
      · unfold IntMulOk
        have h3 : Builtin.Int.intTooBig ((Builtin.Int.intBits a : Int) + (Builtin.Int.intBits b : Int)) = false := decide_eq_false (by
          rw [show bitsLine = 134217728 from rfl]
          unfold bits at hm
          omega)
        rw [h3]
        simp
    · cases he
  · obtain ⟨t, rfl⟩ := inv_str Ra; obtain ⟨u, rfl⟩ := inv_int Rb
    rename_i x n
    split at he
    · rename_i hm
      cases he
      obtain ⟨m1, m2, m3⟩ := hm
      have hN : n.toNat ≤ 2 ^ 12 := by omega
      have hP : x.length * n.toNat ≤ 2 ^ 24 := by
        calc x.length * n.toNat ≤ 2 ^ 12 * 2 ^ 12 := Nat.mul_le_mul m1 hN
          _ = 2 ^ 24 := by decide
      refine P.mul_str ?_ ?_ ?_ ?_
      · rw [decide_eq_false (by omega), decide_eq_false (by omega)]; rfl
      · intro h1 _ h3
        have : (2 ^ 63 - 1) / n ≥ (2 ^ 63 - 1) / 2 ^ 12 := by
          have hn : 0 < n := by omega
          refine Int.le_ediv_of_mul_le hn ?_
          have : (2 ^ 63 - 1 : Int) / 2 ^ 12 * n ≤ (2 ^ 63 - 1 : Int) / 2 ^ 12 * 2 ^ 12 := Int.mul_le_mul_of_nonneg_left m2 (by decide)
          refine Int.le_trans this (by decide)
        have h5 : ((2 : Int) ^ 63 - 1) / 2 ^ 12 ≥ 2 ^ 13 := by decide
        omega
      · intro _ _
        unfold Builtin.Str.tooLong
        exact decide_eq_false (by rw [sizeLine_eq]; omega)
      · have e0 : ((List.replicate n.toNat x.cps).foldl (· ++ ·) #[]) = ((List.replicate n.toNat x.cps.toList).flatten).toArray := by rw [foldl_rep]; simp
        by_cases h1 : n < 1
        · rw [if_pos h1]
          have : n.toNat = 0 := by omega
          rw [this] at G
          exact ⟨by decide, by have := G.str S s.toks (s.toks + 1); simpa [Str.empty] using this⟩
        · rw [if_neg h1]
          by_cases h2 : (n == 1 || x.length == 0) = true
          · rw [if_pos h2]
            have e : (⟨((List.replicate n.toNat x.cps.toList).flatten).toArray⟩ : Str) = x := by
              refine str_ext ?_
              simp only [Bool.or_eq_true, beq_iff_eq] at h2
              rcases h2 with rfl | h2
              · simp
              · have : x.cps.toList = [] := List.length_eq_zero_iff.mp (by simpa [Str.length] using h2)
                show (List.replicate n.toNat x.cps.toList).flatten = x.cps.toList
                rw [this]; simp
            rw [e] at G
            exact G.str S t s.toks
          · rw [if_neg h2, e0]
            refine ⟨?_, G.str S _ _⟩
            show ((List.replicate n.toNat x.cps.toList).flatten).toArray.size ≤ sizeLine
            rw [List.size_toArray, lm_len_rep_flat, sizeLine_eq, Nat.mul_comm]
            exact hP
    · cases he
  · obtain ⟨a, vs, as', rfl, hl, rs, hz⟩ := inv_list fz_sub Ra
    obtain ⟨u, rfl⟩ := inv_int Rb
    rename_i xs n
    split at he
    · rename_i hm
      cases he
      obtain ⟨m1, m2, m3⟩ := hm
      have hN : n.toNat ≤ 2 ^ 12 := by omega
      have hP : vs.size * n.toNat ≤ 2 ^ 24 := by
        rw [hz]
        calc xs.length * n.toNat ≤ 2 ^ 12 * 2 ^ 12 := Nat.mul_le_mul m1 hN
          _ = 2 ^ 24 := by decide
      obtain ⟨as', r⟩ := readsAll_rep rs n.toNat
      exact mul_list_raw hl (by omega) (by omega) hP (G.list S (by simpa using r) _)
    · cases he
  · cases he
theorem bin_ok {op : Operator} {a b : Value} {x y r : PyData} {as bs : List Addr} (S : St C ex s) (he : binV op x y = some r) (Ra : Reads (Fz s.heap ex) a x as) (Rb : Reads (Fz s.heap ex) b y bs)
    (G : Give C ex s r Q) : wpAny C.M A (binaryOp op a b) Q E s := by
  cases op
  case Add => exact add_ok S he Ra Rb G
  case Mult => exact mul_ok S he Ra Rb G
  case MatMult => cases he
  case Div => cases he
  all_goals obtain ⟨i, j, t, u, rfl, rfl, h⟩ := ints2 he Ra Rb
  case Sub => cases h; exact PyProof.Rows.sub_int (G.int S _ _)
  case Mod => obtain ⟨hm, rfl⟩ := if_some h; exact PyProof.Rows.mod_int' hm (G.int S _ _)
  case Pow =>
    obtain ⟨hm, rfl⟩ := if_some h
    refine PyProof.Rows.pow_int hm.1 ?_ (G.int S _ _)
    have h2 := hm.2
    have h1 := hm.1
    unfold bits at h2
    rw [show (Builtin.Int.intBits i : Int) * j = ((Builtin.Int.intBits i * j.toNat : Nat) : Int) from by rw [Int.natCast_mul, Int.toNat_of_nonneg h1]]
    omega
  case LShift => obtain ⟨hm, rfl⟩ := if_some h; exact PyProof.Rows.lshift_int hm.1 (shl_le hm) (G.int S _ _)
  case RShift => obtain ⟨hm, rfl⟩ := if_some h; exact PyProof.Rows.rshift_int hm (G.int S _ _)
  case BitOr => cases h; exact PyProof.Rows.or_int (G.int S _ _)
  case BitXor => cases h; exact PyProof.Rows.xor_int (G.int S _ _)
  case BitAnd => cases h; exact PyProof.Rows.and_int (G.int S _ _)
  case FloorDiv => obtain ⟨hm, rfl⟩ := if_some h; exact PyProof.Rows.floordiv_int hm.1 (G.int S _ _) (.inl (PyProof.noPylong_of_log2 (noLong hm)))

theorem aug_ok {op : Operator} {a b : Value} {x y r : PyData} {as bs : List Addr} (S : St C ex s) (he : augV op x y = some r) (Ra : Reads (Fz s.heap ex) a x as) (Rb : Reads (Fz s.heap ex) b y bs)
    (G : Give C ex s r Q) : wpAny C.M A (inplaceOp op a b) Q E s := by
  cases op
  case Add => obtain ⟨i, j, t, u, rfl, rfl, h⟩ := ints2 he Ra Rb; cases h; exact wpAny_iadd_int (G.int S _ _)
  case Sub => obtain ⟨i, j, t, u, rfl, rfl, h⟩ := ints2 he Ra Rb; cases h; exact PyProof.Rows.isub_int (G.int S _ _)
  case LShift => obtain ⟨i, j, t, u, rfl, rfl, h⟩ := ints2 he Ra Rb; obtain ⟨hm, rfl⟩ := if_some h; exact PyProof.Rows.ilshift_int hm.1 (shl_le hm) (G.int S _ _)
  case RShift => obtain ⟨i, j, t, u, rfl, rfl, h⟩ := ints2 he Ra Rb; obtain ⟨hm, rfl⟩ := if_some h; exact PyProof.Rows.irshift_int hm (G.int S _ _)
  all_goals cases he
end
end Mine

-- M4
namespace Mine
open PySem PySem.Spec PySem.Calls PyProof.Rows PySem.W

/-! ## unary, comparisons, items, slices, builtins, methods -/
noncomputable def unV : UnaryOp → PyData → Option PyData
  | .USub, .int a => some (.int (-a))
  | .Invert, .int a => some (.int (Builtin.bitNot a))
  | .Not, d => if smallV d then some (.bool (!truthV d)) else none
  | _, _ => none

noncomputable def okEq (d : PyData) : Bool := d.canLay0 && decide (d.depth ≤ 16)
noncomputable def eqV : PyData → PyData → Option Bool
  | .int a, .int b => some (a == b)
  | .str a, .str b => some (a.cps.toList == b.cps.toList)
  | x, y => if okEq x && okEq y then some (PyData.eqv x y) else none
noncomputable def cmpI (f : Int → Int → Bool) : PyData → PyData → Option Bool
  | .int a, .int b => some (f a b)
  | _, _ => none
theorem cmpI_inv {f : Int → Int → Bool} {x y : PyData} {r : Bool} (h : cmpI f x y = some r) : ∃ a b, x = .int a ∧ y = .int b ∧ f a b = r := by
  cases x <;> first | cases h | skip
  cases y <;> first | exact ⟨_, _, rfl, rfl, Option.some.inj h⟩ | cases h
noncomputable def notInV : PyData → PyData → Option Bool
  | .str y, .str x => some (!Txt.contains x y)
  | _, _ => none
noncomputable def isV : PyData → PyData → Option Bool
  | .none, .none => some true
  | .int _, .none => some false
  | _, _ => none
noncomputable def cmpV : CmpOp → PyData → PyData → Option Bool
  | .Eq => eqV
  | .NotEq => fun x y => (eqV x y).map (!·)
  | .Lt => cmpI fun a b => decide (a < b)
  | .LtE => cmpI fun a b => decide (a ≤ b)
  | .Gt => cmpI fun a b => decide (a > b)
  | .GtE => cmpI fun a b => decide (a ≥ b)
  | .NotIn => notInV
  | .Is => isV
  | _ => fun _ _ => none

noncomputable def subV : PyData → PyData → Option PyData
  | .str x, .int i => if x.length ≤ 2 ^ 24 then ((seqIndex? i x.length).bind (x.cps[·]?)).map fun c => .str ⟨#[c]⟩ else none
  | .list xs, .int i => if xs.length ≤ 2 ^ 24 then (seqIndex? i xs.length).bind (xs[·]?) else none
  | .tuple xs, .int i => if xs.length ≤ 2 ^ 24 then (seqIndex? i xs.length).bind (xs[·]?) else none
  | _, _ => none

noncomputable def partV : PyData → Option (Option Int)
  | .none => some none
  | .int i => some (some i)
  | _ => none
noncomputable def sliceV : PyData → PyData → PyData → Option PyData
  | .str x, lo, hi => if x.length ≤ 2 ^ 24 then (partV lo).bind fun l => (partV hi).map fun h => .str (Txt.slice x l h) else none
  | .list xs, lo, hi => if xs.length ≤ 2 ^ 24 then (partV lo).bind fun l => (partV hi).map fun h =>
      .list ((xs.drop (l.elim 0 (clipAt xs.length))).take (h.elim xs.length (clipAt xs.length) - l.elim 0 (clipAt xs.length))) else none
  | _, _, _ => none

section
variable {C : Cx} {A : Around} {E : Value → Shared → Prop} {ex : List Addr} {s : Shared} {Q : Value → Shared → Prop}

theorem un_ok {op : UnaryOp} {a : Value} {x r : PyData} {as : List Addr} (S : St C ex s) (he : unV op x = some r) (Ra : Reads (Fz s.heap ex) a x as) (G : Give C ex s r Q) :
    wpAny C.M A (unaryOp op a) Q E s := by
  unfold unV at he
  split at he
  · obtain ⟨t, rfl⟩ := inv_int Ra; cases he; exact PyProof.Rows.neg_int (G.int S _ _)
  · obtain ⟨t, rfl⟩ := inv_int Ra; cases he; exact PyProof.Rows.invert_int (G.int S _ _)
  · split at he
    · rename_i hs
      cases he
      exact not_of (truth_ok S Ra hs fun k => G.bool S k)
    · cases he
  · cases he

theorem cmpIs {f : Int → Int → Bool} {a b : Value} {x y : PyData} {r : Bool} {as bs : List Addr} {g : Heap} (h : cmpI f x y = some r) (Ra : Reads g a x as) (Rb : Reads g b y bs) : ∃ i j t u, a = .int i t ∧ b = .int j u ∧ f i j = r := by
  obtain ⟨i, j, rfl, rfl, e⟩ := cmpI_inv h
  obtain ⟨t, rfl⟩ := inv_int Ra; obtain ⟨u, rfl⟩ := inv_int Rb
  exact ⟨i, j, t, u, rfl, rfl, e⟩
theorem eq_ok {a b : Value} {x y : PyData} {r : Bool} {as bs : List Addr} (hr : A.units + 100 < cLine) (he : eqV x y = some r) (Ra : Reads (Fz s.heap ex) a x as) (Rb : Reads (Fz s.heap ex) b y bs) :
    (Q (.bool r) s → wpAny C.M A (compareOp .Eq a b) Q E s) ∧ (Q (.bool (!r)) s → wpAny C.M A (compareOp .NotEq a b) Q E s) := by
  unfold eqV at he
  split at he
  · obtain ⟨t, rfl⟩ := inv_int Ra; obtain ⟨u, rfl⟩ := inv_int Rb; cases he; exact ⟨fun h => PyProof.Rows.eq_int h, fun h => PyProof.Rows.ne_int h⟩
  · obtain ⟨t, rfl⟩ := inv_str Ra; obtain ⟨u, rfl⟩ := inv_str Rb; cases he; exact ⟨fun h => P.eq_str h, fun h => P.ne_str h⟩
  · obtain ⟨hk, rfl⟩ := if_some he
    simp only [Bool.and_eq_true, okEq, decide_eq_true_eq] at hk
    exact ⟨fun h => SeqAt.compareEq_reads (Reads.keeps fz_sub Ra) (Reads.keeps fz_sub Rb) hk.1.1 hk.2.1 (by omega) h, fun h => SeqAt.compareNe_reads (Reads.keeps fz_sub Ra) (Reads.keeps fz_sub Rb) hk.1.1 hk.2.1 (by omega) h⟩
theorem cmp_ok {op : CmpOp} {a b : Value} {x y : PyData} {r : Bool} {as bs : List Addr} (S : St C ex s) (hr : A.units + 100 < cLine) (he : cmpV op x y = some r) (Ra : Reads (Fz s.heap ex) a x as) (Rb : Reads (Fz s.heap ex) b y bs)
    (G : Give C ex s (.bool r) Q) : wpAny C.M A (compareOp op a b) Q E s := by
  have G0 := G.bool0 S
  cases op
  case Eq => exact (eq_ok hr he Ra Rb).1 G0
  case NotEq => obtain ⟨r', h, rfl⟩ := Option.map_eq_some_iff.mp he; exact (eq_ok hr h Ra Rb).2 G0
  case Lt => obtain ⟨i, j, t, u, rfl, rfl, rfl⟩ := cmpIs he Ra Rb; exact wpAny_lt_int G0
  case LtE => obtain ⟨i, j, t, u, rfl, rfl, rfl⟩ := cmpIs he Ra Rb; exact P.le_int G0
  case Gt => obtain ⟨i, j, t, u, rfl, rfl, rfl⟩ := cmpIs he Ra Rb; exact P.gt_int G0
  case GtE => obtain ⟨i, j, t, u, rfl, rfl, rfl⟩ := cmpIs he Ra Rb; exact P.ge_int G0
  case NotIn =>
    have he' : notInV x y = some r := he
    unfold notInV at he'
    split at he'
    · obtain ⟨t, rfl⟩ := inv_str Ra; obtain ⟨u, rfl⟩ := inv_str Rb; cases he'; exact P.notIn_str G0
    · cases he'
  case Is =>
    have he' : isV x y = some r := he
    unfold isV at he'
    split at he'
    · obtain rfl := inv_none Ra; obtain rfl := inv_none Rb; cases he'; exact PyProof.Rows.is_none_none G0
    · obtain ⟨t, rfl⟩ := inv_int Ra; obtain rfl := inv_none Rb; cases he'; exact PyProof.Rows.is_none_ne (by nofun) G0
    · cases he'
  all_goals cases he

theorem seqIndex_bounds {i : Int} {n j : Nat} (h : seqIndex? i n = some j) (hn : n ≤ 2 ^ 24) : -(2 ^ 24) ≤ i ∧ i < 2 ^ 24 ∧ j < n ∧ ((0 ≤ i ∧ j = i.toNat) ∨ (i < 0 ∧ j = (i + n).toNat ∧ -(n : Int) ≤ i)) := by
  unfold seqIndex? at h
  by_cases h0 : i < 0
  · simp only [h0, if_true] at h
    split at h
    · rename_i hc
      simp only [Bool.and_eq_true, decide_eq_true_eq] at hc
      cases h
      omega
    · cases h
  · simp only [h0, if_false] at h
    split at h
    · rename_i hc
      simp only [Bool.and_eq_true, decide_eq_true_eq] at hc
      cases h
      omega
    · cases h

theorem sub_ok {value slice : Expr} {a b : Value} {x y r : PyData} {as bs : List Addr} (S : St C ex s) (he : subV x y = some r) (Ra : Reads (Fz s.heap ex) a x as) (Rb : Reads (Fz s.heap ex) b y bs)
    (hs : ∀ o i, subscripted slice false o i = operate [o, i] (getItem o i)) (G : Give C ex s r Q) : wpAny C.M A (subscriptTail value slice a b) Q E s := by
  unfold subV at he
  split at he
  · obtain ⟨t, rfl⟩ := inv_str Ra; obtain ⟨u, rfl⟩ := inv_int Rb
    split at he
    · rename_i x i hm
      obtain ⟨c, hc, hr⟩ := Option.map_eq_some_iff.mp he
      subst hr
      obtain ⟨j, hj, _⟩ := Option.bind_eq_some_iff.mp hc
      have hb := seqIndex_bounds hj hm
      exact tail_any (typeIs_str s x t) F.slot_str_getitem.lookup (P.getItem_str (by rw [decide_eq_false (by omega), decide_eq_false (by omega)]; rfl) hc (G.str S _ _)) (hs _ _)
    · cases he
  · obtain ⟨a, vs, as', rfl, hl, rs, hz⟩ := inv_list fz_sub Ra
    obtain ⟨u, rfl⟩ := inv_int Rb
    split at he
    · rename_i xs i hm
      obtain ⟨j, hj, hx⟩ := Option.bind_eq_some_iff.mp he
      have hb := seqIndex_bounds hj hm
      obtain ⟨v, as'', hv, rv⟩ := readsAll_get rs j r hx
      have hv' : vs[j]? = some v := by simpa using hv
      refine tail_any hl.typeIs slot_list_getitem.lookup ?_ (hs _ _)
      rcases hb.2.2.2 with ⟨h0, e⟩ | ⟨h0, e, h1⟩
      · subst e; exact wpAny_getItem_list hl h0 (by omega) hv' (G.here S rv)
      · subst e; exact wpAny_getItem_list_neg hl h0 (by rw [hz]; exact h1) (by omega) (by rw [hz]; exact hv') (G.here S rv)
    · cases he
  · obtain ⟨a, vs, as', rfl, ⟨o, o1, o2, n, o3⟩, rs, hz⟩ := inv_tuple fz_sub Ra
    obtain ⟨u, rfl⟩ := inv_int Rb
    split at he
    · rename_i xs i hm
      obtain ⟨j, hj, hx⟩ := Option.bind_eq_some_iff.mp he
      have hb := seqIndex_bounds hj hm
      obtain ⟨v, as'', hv, rv⟩ := readsAll_get rs j r hx
      have ht : IsTup s.heap a vs := ⟨o, o1, o2, n, o3⟩
      exact tail_any ht.typeIs slot_tuple_getitem.lookup (getItem_tuple ht (by omega) (by omega) (by rw [hz]; exact hj) (by simpa using hv) (G.here S rv)) (hs _ _)
    · cases he
  · cases he

theorem isPart_of {v : Value} {d : PyData} {l : Option Int} {as : List Addr} {g : Heap} (R : Reads g v d as) (h : partV d = some l) : IsPart v l ∧ ((l = none ∧ v = .none) ∨ ∃ i t, l = some i ∧ v = .int i t) := by
  unfold partV at h
  split at h
  · cases h; obtain rfl := inv_none R; exact ⟨.none, .inl ⟨rfl, rfl⟩⟩
  · cases h; obtain ⟨t, rfl⟩ := inv_int R; exact ⟨.int .., .inr ⟨_, _, rfl, rfl⟩⟩
  · cases h

theorem slice_ok {value slice : Expr} {a vl vu : Value} {x lo hi r : PyData} {as ls us : List Addr} (S : St C ex s) (he : sliceV x lo hi = some r) (Ra : Reads (Fz s.heap ex) a x as) (Rl : Reads (Fz s.heap ex) vl lo ls) (Ru : Reads (Fz s.heap ex) vu hi us)
    (hs : ∀ o i, subscripted slice false o i = operate [i, o] (getItem o i)) (G : Give C ex s r Q) :
    wpAny C.M A (subscriptTail value slice a (.ref s.heap.objs.size)) Q E { s with heap := s.heap.push { cls := .type "slice", data := .fields #[vl, vu, .none] } } := by
  unfold sliceV at he
  split at he
  · obtain ⟨t, rfl⟩ := inv_str Ra
    split at he
    · rename_i x hm
      obtain ⟨l, hl, he⟩ := Option.bind_eq_some_iff.mp he
      obtain ⟨h, hh, rfl⟩ := Option.map_eq_some_iff.mp he
      have kept : KeptH (fun h' => Sub s.heap h') := fun h ob k b o e => Heap.get?_push_of_some _ (k b o e)
      have hI : (fun h' => Sub s.heap h') s.heap := Sub.refl _
      have fin : ∀ h' t' k, Sub s.heap h' → Q (.str (Txt.slice x l h) t') { s with heap := h', toks := k } := fun h' t' k hk => G.strS S hk t' k
      have key : ItemOn C.M A E (.str x t) (.ref s.heap.objs.size) Q { s with heap := s.heap.push { cls := .type "slice", data := .fields #[vl, vu, .none] } } := by
        rcases (isPart_of Rl hl).2 with ⟨rfl, rfl⟩ | ⟨i, ti, rfl, rfl⟩ <;> rcases (isPart_of Ru hh).2 with ⟨rfl, rfl⟩ | ⟨j, tj, rfl, rfl⟩
        · exact SBH.sliceItem_nn kept hI fin hm
        · exact SBH.sliceItem_ns kept hI fin hm
        · exact SBH.sliceItem_sn kept hI fin hm
        · exact SBH.sliceItem_ss kept hI fin hm
      obtain ⟨T, id, h1, h2, h3⟩ := key
      exact tail_any h2 h1 h3 (hs _ _)
    · cases he
  · obtain ⟨a, vs, as', rfl, hl, rs, hz⟩ := inv_list fz_sub Ra
    split at he
    · rename_i xs hm
      obtain ⟨l, hl', he⟩ := Option.bind_eq_some_iff.mp he
      obtain ⟨h, hh, rfl⟩ := Option.map_eq_some_iff.mp he
      have S1 := S.push { cls := .type "slice", data := .fields #[vl, vu, .none] } s.toks
      obtain ⟨as1, r1⟩ := readsAll_drop rs (l.elim 0 (clipAt xs.length))
      obtain ⟨as2, r2⟩ := readsAll_take r1 (h.elim xs.length (clipAt xs.length) - l.elim 0 (clipAt xs.length))
      refine tail_any (hl.push _).typeIs slot_list_getitem.lookup (wpAny_getItem_list_slice (hl.push _) (Heap.IsSliceOf.new _ _ _ _) (isPart_of Rl hl').1 (isPart_of Ru hh).1 (st := none) .none (by simp) ?_ (by rw [hz]; exact hm)) (hs _ _)
      refine (G.grow (Grow.push (tk := s.toks))).list S1 (as := as2) ?_ s.toks
      rw [slicePick_plain, hz]
      exact ReadsAll.keeps (fz_push S _) r2
    · cases he
  · cases he
end
end Mine

-- M5
namespace Mine
open PySem PySem.Spec PySem.Calls PyProof.Rows PySem.W

noncomputable def ints? : List PyData → Option (List Int)
  | [] => some []
  | .int i :: r => (ints? r).map (i :: ·)
  | _ :: _ => none
theorem ints?_eq : ∀ {ds : List PyData} {ns : List Int}, ints? ds = some ns → ds = ns.map .int
  | [], ns, h => by cases h; rfl
  | d :: r, ns, h => by
    cases d with
    | int i =>
      simp only [ints?] at h
      obtain ⟨l, hl, rfl⟩ := Option.map_eq_some_iff.mp h
      rw [ints?_eq hl]; rfl
    | _ => cases h
theorem ints?_map (ns : List Int) : ints? (ns.map .int) = some ns := by
  induction ns with
  | nil => rfl
  | cons n r ih => simp only [List.map_cons, ints?, ih, Option.map_some]
noncomputable def bestI (gt : Int → Int → Bool) (ns : List Int) : Int := ns.getD (argBest (fun i j => gt (ns.getD i 0) (ns.getD j 0)) (ns.length - 1)) 0

noncomputable def arg1 (f : PyData → Option PyData) : List PyData → Option PyData
  | [x] => f x
  | _ => none
noncomputable def arg2 (f : PyData → PyData → Option PyData) : List PyData → Option PyData
  | [x, y] => f x y
  | _ => none
noncomputable def lenV : PyData → Option PyData
  | .str x => if x.length ≤ 2 ^ 24 then some (.int x.length) else none
  | .list xs => if xs.length ≤ 2 ^ 24 then some (.int xs.length) else none
  | .tuple xs => if xs.length ≤ 2 ^ 24 then some (.int xs.length) else none
  | _ => none
noncomputable def onInts (f : List Int → Option PyData) : PyData → Option PyData
  | .list xs => (ints? xs).bind f
  | _ => none
noncomputable def one2 (f : PyData → Option PyData) (g : PyData → PyData → Option PyData) : List PyData → Option PyData
  | [x] => f x
  | [x, y] => g x y
  | _ => none
noncomputable def biV : Nat → List PyData → Option PyData
  | 0 => arg1 lenV
  | 1 => arg1 (onInts fun ns => some (.int ns.sum))
  | 2 => one2 (onInts fun ns => if ns = [] then none else some (.int (bestI (fun a b => decide (a < b)) ns))) (int2 fun a b => some (.int (if b < a then b else a)))
  | 3 => one2 (onInts fun ns => if ns = [] then none else some (.int (bestI (fun a b => decide (a > b)) ns))) (int2 fun a b => some (.int (if b > a then b else a)))
  | 7 => arg2 (int2 fun a b => if b ≠ 0 ∧ bits b ≤ 9000 then some (.tuple [.int (a.fdiv b), .int (a.fmod b)]) else none)
  | _ => fun _ => none
theorem arg1_inv {f : PyData → Option PyData} {xs : List PyData} {r : PyData} (h : arg1 f xs = some r) : ∃ x, xs = [x] ∧ f x = some r := by
  match xs, h with
  | [x], h => exact ⟨x, rfl, h⟩
theorem arg2_inv {f : PyData → PyData → Option PyData} {xs : List PyData} {r : PyData} (h : arg2 f xs = some r) : ∃ x y, xs = [x, y] ∧ f x y = some r := by
  match xs, h with
  | [x, y], h => exact ⟨x, y, rfl, h⟩
theorem one2_inv {f : PyData → Option PyData} {g : PyData → PyData → Option PyData} {xs : List PyData} {r : PyData} (h : one2 f g xs = some r) : (∃ x, xs = [x] ∧ f x = some r) ∨ ∃ x y, xs = [x, y] ∧ g x y = some r := by
  match xs, h with
  | [x], h => exact .inl ⟨x, rfl, h⟩
  | [x, y], h => exact .inr ⟨x, y, rfl, h⟩
theorem onInts_inv {f : List Int → Option PyData} {x r : PyData} (h : onInts f x = some r) : ∃ ns : List Int, x = .list (ns.map .int) ∧ f ns = some r := by
  cases x <;> first | (cases h; done) | skip
  obtain ⟨ns, h1, h2⟩ := Option.bind_eq_some_iff.mp h
  exact ⟨ns, by rw [ints?_eq h1], h2⟩
noncomputable def biF : Nat → Value
  | 0 => .builtin "len"
  | 1 => .builtin "sum"
  | 2 => .builtin "min"
  | 3 => .builtin "max"
  | _ => .builtin "divmod"
noncomputable def biN : Nat → Str
  | 0 => "len"
  | 1 => "sum"
  | 2 => "min"
  | 3 => "max"
  | _ => "divmod"

section
variable {C : Cx} {A : Around} {E : Value → Shared → Prop} {ex : List Addr} {s : Shared} {Q : Value → Shared → Prop}

theorem ints_vals {g : Heap} : ∀ {vs : List Value} {ns : List Int} {as : List Addr}, ReadsAll g vs (ns.map .int) as → ∃ xs : List (Int × Tok), vs = xs.map (fun p => .int p.1 p.2) ∧ xs.map (·.1) = ns
  | _, [], _, .nil => ⟨[], rfl, rfl⟩
  | _, n :: r, _, .cons r1 r2 => by
    obtain ⟨t, rfl⟩ := inv_int r1
    obtain ⟨xs, rfl, rfl⟩ := ints_vals r2
    exact ⟨(n, t) :: xs, rfl, rfl⟩
theorem ints_arr {g : Heap} {vs : Array Value} {ns : List Int} {as : List Addr} (R : ReadsAll g vs.toList (ns.map .int) as) : ∃ xs : Array (Int × Tok), vs = intItems xs ∧ xs.toList.map (·.1) = ns := by
  obtain ⟨xs, h1, h2⟩ := ints_vals R
  refine ⟨xs.toArray, ?_, by simpa using h2⟩
  apply Array.toList_inj.mp
  rw [h1]; simp [intItems]
theorem numAt_eq {xs : Array (Int × Tok)} {ns : List Int} (h : xs.toList.map (·.1) = ns) : numAt xs = fun i => ns.getD i 0 := by
  funext i
  subst h
  simp [numAt, List.getD_eq_getElem?_getD]
theorem arr_len {xs : Array (Int × Tok)} {ns : List Int} (h : xs.toList.map (·.1) = ns) : xs.size = ns.length := by subst h; simp

theorem best_val {xs : Array (Int × Tok)} {ns : List Int} (h : xs.toList.map (·.1) = ns) {gt : Int → Int → Bool} {v : Value}
    (hv : (intItems xs)[argBest (fun i j => gt (numAt xs i) (numAt xs j)) (xs.size - 1)]? = some v) : ∃ t, v = .int (bestI gt ns) t := by
  obtain ⟨t, e⟩ := intItems_at hv
  refine ⟨t, ?_⟩
  rw [e, numAt_eq h, arr_len h]
  rfl

theorem sum_big {l : Addr} {xs : Array (Int × Tok)} {ns : List Int} (hh : A.handled = none) (hl : s.heap.IsList l (intItems xs)) (hn : xs.toList.map (·.1) = ns)
    (h : ∀ h' tk t', Sub s.heap h' → Q (.int ns.sum t') { s with heap := h', toks := tk }) : wpAny C.M A (call (.builtin "sum") [.ref l]) Q E s := by
  refine call_sum_walkAnyS (iter_intList hl fun s₂ e st hfp hlI => ?_)
  subst e
  refine ⟨_, _, _, _, _, _, _, numAt xs, rfl, (Walks.list (A := A.in1) hh _ l hlI (intItems xs)).toS, st, hfp, (fun _ _ => intItems_at), fun s' t' hm => ?_⟩
  have hk := old_kept hm.heap
  have e2 : preSum (numAt xs) (intItems xs).size = ns.sum := by
    rw [preSum_eq, hn]
    have : (intItems xs).size = ns.length := by rw [← arr_len hn]; simp [intItems]
    rw [this, List.take_length]
  rw [e2]
  have := h s'.heap s'.toks t' hk
  obtain ⟨hp, g, d, tk, os⟩ := s'
  have eg : g = s.gens := hm.gens
  have ed : d = s.drawn := hm.drawn
  have eo : os = s.os := hm.os
  subst eg ed eo
  exact this

theorem len_ok {v : Value} {x r : PyData} {as : List Addr} (S : St C ex s) (he : lenV x = some r) (R : Reads (Fz s.heap ex) v x as) (G : Give C ex s r Q) : wpAny C.M A (call (.builtin "len") [v]) Q E s := by
  unfold lenV at he
  split at he
  · obtain ⟨h, rfl⟩ := if_some he
    obtain ⟨t, rfl⟩ := inv_str R; exact P.len_str (by omega) (G.int S _ _)
  · obtain ⟨h, rfl⟩ := if_some he
    obtain ⟨a, vs, as', rfl, hl, rs, hz⟩ := inv_list fz_sub R
    rw [← hz] at G
    exact PyProof.Rows.len_list hl (by omega) (G.int S _ _)
  · obtain ⟨h, rfl⟩ := if_some he
    obtain ⟨a, vs, as', rfl, ⟨o, o1, o2, n, o3⟩, rs, hz⟩ := inv_tuple fz_sub R
    rw [← hz] at G
    exact PyProof.Rows.len_tuple (t := a) ⟨o, o1, o2, n, o3⟩ (by omega) (G.int S _ _)
  · cases he
theorem ints_read {v : Value} {ns : List Int} {as : List Addr} (R : Reads (Fz s.heap ex) v (.list (ns.map .int)) as) : ∃ a ys, v = .ref a ∧ s.heap.IsList a (intItems ys) ∧ ys.toList.map (·.1) = ns := by
  obtain ⟨a, vs, as', rfl, hl, rs, hz⟩ := inv_list fz_sub R
  obtain ⟨ys, rfl, hy⟩ := ints_arr rs
  exact ⟨a, ys, rfl, hl, hy⟩
theorem reads1 {g : Heap} {vs : List Value} {x : PyData} {as : List Addr} (R : ReadsAll g vs [x] as) : ∃ v bs, vs = [v] ∧ Reads g v x bs := by
  cases R with
  | cons r1 r2 => cases r2; exact ⟨_, _, rfl, r1⟩
theorem reads2 {g : Heap} {vs : List Value} {x y : PyData} {as : List Addr} (R : ReadsAll g vs [x, y] as) : ∃ v w bs cs, vs = [v, w] ∧ Reads g v x bs ∧ Reads g w y cs := by
  cases R with
  | cons r1 r2 =>
    obtain ⟨w, cs, rfl, r3⟩ := reads1 r2
    exact ⟨_, w, _, cs, rfl, r1, r3⟩
theorem bi_ok {f : Nat} {vs : List Value} {xs : List PyData} {r : PyData} {as : List Addr} (S : St C ex s) (hh : A.handled = none) (he : biV f xs = some r) (R : ReadsAll (Fz s.heap ex) vs xs as) (G : Give C ex s r Q) :
    wpAny C.M A (call (biF f) vs) Q E s := by
  match f, he with
  | 0, he =>
    obtain ⟨x, rfl, h⟩ := arg1_inv he
    obtain ⟨v, bs, rfl, r1⟩ := reads1 R
    exact len_ok S h r1 G
  | 1, he =>
    obtain ⟨x, rfl, h⟩ := arg1_inv he
    obtain ⟨v, bs, rfl, r1⟩ := reads1 R
    obtain ⟨ns, rfl, h2⟩ := onInts_inv h
    cases h2
    obtain ⟨a, ys, rfl, hl, hy⟩ := ints_read r1
    exact sum_big hh hl hy fun h' tk t' hk => G.intS S hk t' tk
  | 2, he =>
    rcases one2_inv he with ⟨x, rfl, h⟩ | ⟨x, y, rfl, h⟩
    · obtain ⟨v, bs, rfl, r1⟩ := reads1 R
      obtain ⟨ns, rfl, h2⟩ := onInts_inv h
      obtain ⟨a, ys, rfl, hl, hy⟩ := ints_read r1
      by_cases hne : ns = []
      · rw [if_pos hne] at h2; cases h2
      · rw [if_neg hne] at h2; cases h2
        refine min_intList hh hl (by rw [arr_len hy]; exact List.length_pos_iff.mpr hne) fun v h' tk hv hk => ?_
        obtain ⟨t, rfl⟩ := best_val (gt := fun a b => decide (a < b)) hy hv
        exact G.intS S hk _ _
    · obtain ⟨v, w, bs, cs, rfl, r1, r2⟩ := reads2 R
      obtain ⟨i, j, t, u, rfl, rfl, h2⟩ := ints2 h r1 r2
      cases h2
      refine min_two_ints hh fun h' tk hk => ?_
      split
      · rename_i hc; rw [if_pos hc] at G; exact G.intS S hk _ _
      · rename_i hc; rw [if_neg hc] at G; exact G.intS S hk _ _
  | 3, he =>
    rcases one2_inv he with ⟨x, rfl, h⟩ | ⟨x, y, rfl, h⟩
    · obtain ⟨v, bs, rfl, r1⟩ := reads1 R
      obtain ⟨ns, rfl, h2⟩ := onInts_inv h
      obtain ⟨a, ys, rfl, hl, hy⟩ := ints_read r1
      by_cases hne : ns = []
      · rw [if_pos hne] at h2; cases h2
      · rw [if_neg hne] at h2; cases h2
        refine max_intList hh hl (by rw [arr_len hy]; exact List.length_pos_iff.mpr hne) fun v h' tk hv hk => ?_
        obtain ⟨t, rfl⟩ := best_val (gt := fun a b => decide (a > b)) hy hv
        exact G.intS S hk _ _
    · obtain ⟨v, w, bs, cs, rfl, r1, r2⟩ := reads2 R
      obtain ⟨i, j, t, u, rfl, rfl, h2⟩ := ints2 h r1 r2
      cases h2
      refine max_two_ints hh fun h' tk hk => ?_
      split
      · rename_i hc; rw [if_pos hc] at G; exact G.intS S hk _ _
      · rename_i hc; rw [if_neg hc] at G; exact G.intS S hk _ _
  | 7, he =>
    obtain ⟨x, y, rfl, h⟩ := arg2_inv he
    obtain ⟨v, w, bs, cs, rfl, r1, r2⟩ := reads2 R
    obtain ⟨i, j, t, u, rfl, rfl, h2⟩ := ints2 h r1 r2
    obtain ⟨hc, rfl⟩ := if_some h2
    exact divmod_int hc.1 (G.tuple S (.cons (.int _ _) (.cons (.int _ _) .nil)) _) (.inl (PyProof.noPylong_of_log2 (noLong hc)))
  | 4, he => cases he
  | 5, he => cases he
  | 6, he => cases he
  | n + 8, he => cases he

/-! list(x), isinstance, methods -/
theorem listc_ok {v : Value} {xs : List PyData} {as : List Addr} (S : St C ex s) (hz0 : xs.length ≤ 2 ^ 24) (R : Reads (Fz s.heap ex) v (.list xs) as)
    (h : ∀ h' vs as', Sub s.heap h' → h'.PlainList s.heap.objs.size vs → ReadsAll (Fz s.heap ex) vs.toList xs as' → Q (.ref s.heap.objs.size) { s with heap := h' }) :
    wpAny C.M A (call (.type "list") [v]) Q E s := by
  obtain ⟨a, vs, as', rfl, ⟨o, h1, h2, n, h3⟩, rs, hz⟩ := inv_list fz_sub R
  exact call_list_seq a (.inl rfl) h1 h2 h3 (fun h' c' hk hD => h h' vs _ hk ⟨_, hD⟩ rs) (by rw [hz]; exact hz0)

theorem isi_ok {v : Value} {d : PyData} {b : Bool} {as : List Addr} (S : St C ex s) (R : Reads (Fz s.heap ex) v d as) :
    (∀ {i : Int}, d = .int i → Give C ex s (.bool (!b)) Q → wpAny C.M A (call (.builtin "isinstance") [v, .type (if b then "bool" else "int")]) Q E s) ∧
    (∀ {i : Bool}, d = .bool i → Give C ex s (.bool true) Q → wpAny C.M A (call (.builtin "isinstance") [v, .type (if b then "bool" else "int")]) Q E s) := by
  constructor
  · rintro i rfl G
    obtain ⟨t, rfl⟩ := inv_int R
    cases b
    · exact IsiPair.int_int (G.bool0 S)
    · exact IsiPair.int_bool (G.bool S _)
  · rintro i rfl G
    obtain rfl := inv_bool R
    cases b
    · exact IsiPair.bool_int (G.bool0 S)
    · exact IsiPair.bool_bool (G.bool0 S)

noncomputable def strs2? : List PyData → Option (List Str)
  | [] => some []
  | .str i :: r => (strs2? r).map (i :: ·)
  | _ :: _ => none
theorem strs2?_eq : ∀ {ds : List PyData} {ns : List Str}, strs2? ds = some ns → ds = ns.map .str
  | [], ns, h => by cases h; rfl
  | d :: r, ns, h => by
    cases d with
    | str i =>
      simp only [strs2?] at h
      obtain ⟨l, hl, rfl⟩ := Option.map_eq_some_iff.mp h
      rw [strs2?_eq hl]; rfl
    | _ => cases h
theorem strs2?_map (ns : List Str) : strs2? (ns.map .str) = some ns := by
  induction ns with
  | nil => rfl
  | cons n r ih => simp only [List.map_cons, strs2?, ih, Option.map_some]
theorem strs_vals {g : Heap} : ∀ {vs : List Value} {ns : List Str} {as : List Addr}, ReadsAll g vs (ns.map .str) as → ∃ xs : List (Str × Tok), vs = strValues xs ∧ xs.map (·.1) = ns
  | _, [], _, .nil => ⟨[], rfl, rfl⟩
  | _, n :: r, _, .cons r1 r2 => by
    obtain ⟨t, rfl⟩ := inv_str r1
    obtain ⟨xs, rfl, rfl⟩ := strs_vals r2
    exact ⟨(n, t) :: xs, rfl, rfl⟩

/-- methods: 0 bit_length, 1 lower, 2 count, 3 join -/
noncomputable def meth0 : PyData → List PyData → Option PyData
  | .int a, [] => some (.int (bits a))
  | _, _ => none
noncomputable def meth1 : PyData → List PyData → Option PyData
  | .str x, [] => if Builtin.Str.tooLong (Txt.lower x).length = false then some (.str (Txt.lower x)) else none
  | _, _ => none
noncomputable def meth2 : PyData → List PyData → Option PyData
  | .str x, [.str y] => some (.int (Txt.count x y))
  | _, _ => none
noncomputable def meth3 : PyData → List PyData → Option PyData
  | .str x, [.list l] => (strs2? l).bind fun ts => if JoinOk x ts then some (.str (Txt.join x ts)) else none
  | _, _ => none
noncomputable def methV : Nat → PyData → List PyData → Option PyData
  | 0 => meth0
  | 1 => meth1
  | 2 => meth2
  | 3 => meth3
  | _ => fun _ _ => none
noncomputable def methN : Nat → Str
  | 0 => "bit_length"
  | 1 => "lower"
  | 2 => "count"
  | _ => "join"
/-- what getMethod finds -/
noncomputable def methF : Nat → Value
  | 0 => .builtin "int.bit_length"
  | 1 => .builtin "str.lower"
  | 2 => .builtin "str.count"
  | _ => .builtin "str.join"

theorem meth_get {f : Nat} {v : Value} {d r : PyData} {ds : List PyData} {as : List Addr} {M : Model} {pl : Sem Bool} {Q : Value × List Value → Shared → Prop} (he : methV f d ds = some r) (R : Reads (Fz s.heap ex) v d as)
    (h : Q (methF f, [v]) s) : wpAny M A (getMethod v (methN f) pl) Q E s := by
  match f, he with
  | 0, he =>
    have he' : meth0 d ds = some r := he
    unfold meth0 at he'
    split at he'
    · obtain ⟨t, rfl⟩ := inv_int R; exact getMethod_int_bit_length h
    · cases he'
  | 1, he =>
    have he' : meth1 d ds = some r := he
    unfold meth1 at he'
    split at he'
    · obtain ⟨t, rfl⟩ := inv_str R; exact GM.lower h
    · cases he'
  | 2, he =>
    have he' : meth2 d ds = some r := he
    unfold meth2 at he'
    split at he'
    · obtain ⟨t, rfl⟩ := inv_str R; exact GM.count h
    · cases he'
  | 3, he =>
    have he' : meth3 d ds = some r := he
    unfold meth3 at he'
    split at he'
    · obtain ⟨t, rfl⟩ := inv_str R; exact GM.join h
    · cases he'
  | n + 4, he => cases he
theorem meth_ok {f : Nat} {v : Value} {vs : List Value} {d r : PyData} {ds : List PyData} {as bs : List Addr} (S : St C ex s) (he : methV f d ds = some r) (R : Reads (Fz s.heap ex) v d as) (Rs : ReadsAll (Fz s.heap ex) vs ds bs)
    (G : Give C ex s r Q) : wpAny C.M A (call (methF f) (v :: vs)) Q E s := by
  match f, he with
  | 0, he =>
    have he' : meth0 d ds = some r := he
    unfold meth0 at he'
    split at he'
    · cases he'; cases Rs; obtain ⟨t, rfl⟩ := inv_int R; exact call_int_bit_length (G.int S _ _)
    · cases he'
  | 1, he =>
    have he' : meth1 d ds = some r := he
    unfold meth1 at he'
    split at he'
    · obtain ⟨hx, rfl⟩ := if_some he'
      cases Rs; obtain ⟨t, rfl⟩ := inv_str R; exact SC.lower hx (G.str S _ _)
    · cases he'
  | 2, he =>
    have he' : meth2 d ds = some r := he
    unfold meth2 at he'
    split at he'
    · cases he'
      obtain ⟨w, cs, rfl, r1⟩ := reads1 Rs
      obtain ⟨t, rfl⟩ := inv_str R; obtain ⟨u, rfl⟩ := inv_str r1; exact SC.count (G.int S _ _)
    · cases he'
  | 3, he =>
    have he' : meth3 d ds = some r := he
    unfold meth3 at he'
    split at he'
    · obtain ⟨ts, hts, he'⟩ := Option.bind_eq_some_iff.mp he'
      obtain ⟨hj, rfl⟩ := if_some he'
      obtain ⟨w, cs, rfl, r1⟩ := reads1 Rs
      obtain ⟨t, rfl⟩ := inv_str R
      rw [strs2?_eq hts] at r1
      obtain ⟨a, us, as', rfl, hl, rs, hz⟩ := inv_list fz_sub r1
      obtain ⟨xs, hx1, hx2⟩ := strs_vals rs
      have e : us = (strValues xs).toArray := by rw [← hx1]
      rw [e] at hl
      exact SC.join hl hx2 hj fun t' k => G.str S _ _
    · cases he'
  | n + 4, he => cases he
end
end Mine

-- M6
namespace Mine
open PySem PySem.Spec PySem.Calls PyProof.Rows PySem.W

/-! ## the small language -/
inductive Tg where
  | one (i : Nat)
  | many (l : List Nat)

mutual
inductive ME where
  | lit (d : PyData)
  | var (i : Nat)
  | bin (op : Operator) (l r : ME)
  | un (op : UnaryOp) (x : ME)
  | andE (l r : ME)
  | orE (l r : ME)
  | cmp (op : CmpOp) (l r : ME)
  | cmp2 (o1 o2 : CmpOp) (a b c : ME)
  | ite (c t e : ME)
  | call (f : Nat) (args : List ME)
  | bi (f : Nat) (args : List ME)
  | isi (b : Bool) (e : ME)
  | meth (m : Nat) (o : ME) (args : List ME)
  | sub (o i : ME)
  | subo (x : Nat) (i : ME)
  | slice (o lo hi : ME)
  | tup (l : List ME)
  | lst (l : List ME)
  | listc (e : ME)
  | listr (args : List ME)
  | comp (nx n : Nat) (elt : ME) (t : Tg) (it : MI)
inductive MI where
  | val (e : ME)
  | rng (args : List ME)
  | var (i : Nat)
  | rev (e : ME)
end

inductive MV where
  | dat (d : PyData)
  | rng (a b : Int)
  | own (l : List PyData)

noncomputable abbrev Loc := List (Option MV)
noncomputable abbrev Orc := Nat → List PyData → Option PyData

noncomputable def mapMO {α β : Type} (f : α → Option β) : List α → Option (List β)
  | [] => some []
  | x :: r => (f x).bind fun y => (mapMO f r).map fun ys => y :: ys

noncomputable def nil? {α β : Type} (b : β) : List α → Option β
  | [] => some b
  | _ :: _ => none
noncomputable def unc {α β : Type} (f : α → List α → Option β) : List α → Option β
  | [] => none
  | a :: r => f a r
theorem uncE {α β : Type} {f : α → List α → Option β} {l : List α} {b : β} {P : Prop} (h : unc f l = some b) (k : ∀ a r, l = a :: r → f a r = some b → P) : P := by
  cases l with
  | nil => cases h
  | cons a r => exact k a r rfl h
theorem nilE {α β : Type} {b b' : β} {l : List α} {P : Prop} (h : nil? b l = some b') (k : l = [] → b = b' → P) : P := by
  cases l with
  | nil => exact k rfl (Option.some.inj h)
  | cons => cases h
noncomputable def setMany : Loc → List Nat → List PyData → Option Loc
  | loc, [], ds => nil? loc ds
  | loc, i :: is, ds => unc (fun d r => setMany (loc.set i (some (.dat d))) is r) ds
/-- the parts of a datum -/
noncomputable def tupD : PyData → Option (List PyData)
  | .tuple l => some l
  | _ => none
theorem tupDE {d : PyData} {l : List PyData} (h : tupD d = some l) : d = .tuple l := by
  cases d <;> first | cases h | skip
  rfl
noncomputable def listD : PyData → Option (List PyData)
  | .list l => some l
  | _ => none
theorem listDE {d : PyData} {l : List PyData} (h : listD d = some l) : d = .list l := by
  cases d <;> first | cases h | skip
  rfl
noncomputable def bindT (loc : Loc) : Tg → PyData → Option Loc
  | .one i, d => some (loc.set i (some (.dat d)))
  | .many l, d => (tupD d).bind (setMany loc l)

/-- what a comprehension sees of the places around it -/
noncomputable def inLoc (nx n : Nat) (loc : Loc) : Loc := (loc.take nx).map (fun o => match o with
  | some (.own _) => none
  | o => o) ++ List.replicate n none

/-- the signs of a text with their places, an escaped one with its mark -/
noncomputable def escGo : Nat → Bool → List Nat → List (Nat × Str)
  | i, b, [] => if b then [(i - 1, ⟨#[92]⟩)] else []
  | i, true, c :: r => (i, ⟨#[92, c]⟩) :: escGo (i + 1) false r
  | i, false, c :: r => if c = 92 then escGo (i + 1) true r else (i, ⟨#[c]⟩) :: escGo (i + 1) false r
noncomputable def genV : PyData → Option (List PyData)
  | .str x => if x.cps.all (· < 128) && decide (x.cps.size ≤ 2 ^ 20) then some ((escGo 0 false x.cps.toList).map fun p => .tuple [.int p.1, .str p.2]) else none
  | _ => none
noncomputable def smallI (i : Int) : Bool := decide (-(2 ^ 40) ≤ i) && decide (i ≤ 2 ^ 40)
/-- the ints of range(a, b) -/
noncomputable def rangeL (a b : Int) : List PyData := (List.range (b - a).toNat).map fun i => .int (a + (i : Nat))
noncomputable def rangeOk (a b : Int) : Bool := smallI a && smallI b && decide (b - a ≤ 2 ^ 20)
noncomputable def rangeI : List Int → Option (Int × Int)
  | [] => none
  | [b] => if rangeOk 0 b then some (0, b) else none
  | [a, b] => if rangeOk a b then some (a, b) else none
  | _ :: _ :: _ :: _ => none
noncomputable def rangeV (ds : List PyData) : Option (Int × Int) := (ints? ds).bind rangeI
theorem rangeV_ok {ds : List PyData} {p : Int × Int} (h : rangeV ds = some p) : ∃ is, ints? ds = some is ∧ (is = [p.2] ∧ p.1 = 0 ∨ is = [p.1, p.2]) ∧ rangeOk p.1 p.2 = true := by
  refine bindE h fun is hi h => ⟨is, hi, ?_⟩
  cases is with
  | nil => cases h
  | cons b r => cases r with
    | nil => obtain ⟨h1, h2⟩ := if_some h; subst h2; exact ⟨.inl ⟨rfl, rfl⟩, h1⟩
    | cons c r => cases r with
      | nil => obtain ⟨h1, h2⟩ := if_some h; subst h2; exact ⟨.inr rfl, h1⟩
      | cons => cases h
/-- list(range(a, b, c)), c > 0 -/
noncomputable def range3I : List Int → Option (List PyData)
  | [] => none
  | [b] => if rangeOk 0 b then some (rangeL 0 b) else none
  | [a, b] => if rangeOk a b then some (rangeL a b) else none
  | [a, b, c] => if Builtin.Range.small a b c && decide (0 < c) && decide (c ≤ 2 ^ 20) && decide (0 ≤ Builtin.Range.rangeSize a b c) && decide (Builtin.Range.rangeSize a b c ≤ 2 ^ 20) then some ((rangeInts a c (Builtin.Range.rangeSize a b c).toNat).map .int) else none
  | _ :: _ :: _ :: _ :: _ => none
noncomputable def range3 (ds : List PyData) : Option (List PyData) := (ints? ds).bind range3I
noncomputable def itemsV : PyData → Option (List PyData)
  | .list xs => if xs.length ≤ 2 ^ 20 then some xs else none
  | .tuple xs => if xs.length ≤ 2 ^ 20 then some xs else none
  | .str x => if x.length ≤ 2 ^ 20 then some (x.cps.toList.map fun c => .str ⟨#[c]⟩) else none
  | _ => none
noncomputable def revV : PyData → Option (List PyData)
  | .list xs => if xs.length ≤ 2 ^ 20 then some xs.reverse else none
  | _ => none
noncomputable def isiV (b : Bool) : PyData → Option PyData
  | .int _ => some (.bool (!b))
  | .bool _ => some (.bool true)
  | _ => none
noncomputable def boundL (xs : List PyData) : Option PyData := if xs.length ≤ 2 ^ 20 then some (.list xs) else none

noncomputable def MV.dat? : MV → Option PyData
  | .dat d => some d
  | .rng _ _ => none
  | .own _ => none
noncomputable def MV.own? : MV → Option (List PyData)
  | .dat _ => none
  | .rng _ _ => none
  | .own l => some l
noncomputable def MV.items? : MV → Option (List PyData)
  | .dat d => itemsV d
  | .rng a b => some (rangeL a b)
  | .own _ => none
noncomputable def MV.sub? (b : PyData) : MV → Option PyData
  | .dat d => subV d b
  | .rng _ _ => none
  | .own l => subV (.list l) b
noncomputable def MV.at {α : Type} (f : MV → Option α) (loc : Loc) (i : Nat) : Option α := (loc[i]?).bind fun o => o.bind f
theorem MV.atE {α : Type} {f : MV → Option α} {loc : Loc} {i : Nat} {r : α} {P : Prop} (h : MV.at f loc i = some r) (k : ∀ m, loc[i]? = some (some m) → f m = some r → P) : P :=
  bindE h fun o ho h => bindE h fun m hm h => k m (by rw [ho, hm]) h
theorem MV.at_of {α : Type} {f : MV → Option α} {loc : Loc} {i : Nat} {m : MV} {r : Option α} (h : loc[i]? = some (some m)) (hr : f m = r) : MV.at f loc i = r := by
  subst hr; rw [MV.at, h]; rfl
theorem datAt_inv {loc : Loc} {i : Nat} {d : PyData} (h : MV.at MV.dat? loc i = some d) : loc[i]? = some (some (.dat d)) := MV.atE h fun m hm h => by
  cases m <;> first | cases h | skip
  exact hm
theorem ownAt_inv {loc : Loc} {i : Nat} {l : List PyData} (h : MV.at MV.own? loc i = some l) : loc[i]? = some (some (.own l)) := MV.atE h fun m hm h => by
  cases m <;> first | cases h | skip
  exact hm
mutual
noncomputable def evE (F : Orc) (loc : Loc) : ME → Option PyData
  | .lit d => some d
  | .var i => MV.at MV.dat? loc i
  | .bin op l r => (evE F loc l).bind fun a => (evE F loc r).bind fun b => binV op a b
  | .un op x => (evE F loc x).bind (unV op)
  | .andE l r => (evE F loc l).bind fun a => if smallV a then (if truthV a then evE F loc r else some a) else none
  | .orE l r => (evE F loc l).bind fun a => if smallV a then (if truthV a then some a else evE F loc r) else none
  | .cmp op l r => (evE F loc l).bind fun a => (evE F loc r).bind fun b => (cmpV op a b).map .bool
  | .cmp2 o1 o2 a b c => (evE F loc a).bind fun x => (evE F loc b).bind fun y => (cmpV o1 x y).bind fun t =>
      if t then (evE F loc c).bind fun z => (cmpV o2 y z).map .bool else some (.bool false)
  | .ite c t e => (evE F loc c).bind fun d => if smallV d then (if truthV d then evE F loc t else evE F loc e) else none
  | .call f as => (evEs F loc as).bind (F f)
  | .bi f as => (evEs F loc as).bind (biV f)
  | .isi b e => (evE F loc e).bind (isiV b)
  | .meth m o as => (evE F loc o).bind fun d => (evEs F loc as).bind fun ds => methV m d ds
  | .sub o i => (evE F loc o).bind fun a => (evE F loc i).bind fun b => subV a b
  | .subo x i => (evE F loc i).bind fun b => MV.at (MV.sub? b) loc x
  | .slice o lo hi => (evE F loc o).bind fun a => (evE F loc lo).bind fun l => (evE F loc hi).bind fun h => sliceV a l h
  | .tup l => (evEs F loc l).bind fun ds => if ds.length ≤ 2 ^ 20 then some (.tuple ds) else none
  | .lst l => (evEs F loc l).bind boundL
  | .listc e => (evE F loc e).bind fun d => (listD d).bind boundL
  | .listr as => (evEs F loc as).bind fun ds => (range3 ds).bind boundL
  | .comp nx n elt t it => (evI F loc it).bind fun xs => (mapMO (fun x => (bindT (inLoc nx n loc) t x).bind fun loc' => evE F loc' elt) xs).bind boundL
noncomputable def evEs (F : Orc) (loc : Loc) : List ME → Option (List PyData)
  | [] => some []
  | e :: r => (evE F loc e).bind fun d => (evEs F loc r).map fun ds => d :: ds
noncomputable def evI (F : Orc) (loc : Loc) : MI → Option (List PyData)
  | .val e => (evE F loc e).bind itemsV
  | .rng as => (evEs F loc as).bind fun ds => (rangeV ds).map fun p => rangeL p.1 p.2
  | .var i => MV.at MV.items? loc i
  | .rev e => (evE F loc e).bind revV
end

/-! statements -/
inductive MS where
  | assign (i : Nat) (e : ME)
  | own (i : Nat) (e : ME)
  | rngA (i : Nat) (as : List ME)
  | assign2 (i j : Nat) (e : ME)
  | assignT (l : List Nat) (e : ME)
  | setI (x : Nat) (i e : ME)
  | aug (x : Nat) (op : Operator) (e : ME)
  | augI (x : Nat) (op : Operator) (i e : ME)
  | app (x : Nat) (e : ME)
  | rev (x : Nat)
  | ite (c : ME) (a b : List MS)
  | whl (c : ME) (b : List MS)
  | for_ (t : Tg) (it : MI) (b : List MS)
  | ret (e : ME)
  | fail
  | forG (t : Tg) (e : ME) (b : List MS)

inductive MF where
  | next
  | ret (d : PyData)

noncomputable def frz : List Nat → Loc → Loc
  | [], loc => loc
  | i :: r, loc => frz r ((MV.at MV.own? loc i).elim loc fun l => loc.set i (some (.dat (.list l))))
mutual
/-- the variables that are read as values (b: within a comprehension) -/
noncomputable def fvB (b : Bool) : ME → List Nat
  | .lit _ => []
  | .var i => [i]
  | .bin _ l r => fvB b l ++ fvB b r
  | .un _ x => fvB b x
  | .andE l r => fvB b l ++ fvB b r
  | .orE l r => fvB b l ++ fvB b r
  | .cmp _ l r => fvB b l ++ fvB b r
  | .cmp2 _ _ x y z => fvB b x ++ fvB b y ++ fvB b z
  | .ite c t e => fvB b c ++ fvB b t ++ fvB b e
  | .call _ as => fvsB b as
  | .bi _ as => fvsB b as
  | .isi _ e => fvB b e
  | .meth _ o as => fvB b o ++ fvsB b as
  | .sub o i => fvB b o ++ fvB b i
  | .subo x i => if b then x :: fvB b i else fvB b i
  | .slice o l h => fvB b o ++ fvB b l ++ fvB b h
  | .tup l => fvsB b l
  | .lst l => fvsB b l
  | .listc e => fvB b e
  | .listr as => fvsB b as
  | .comp _ _ e _ it => fvB true e ++ fvIB b it
noncomputable def fvsB (b : Bool) : List ME → List Nat
  | [] => []
  | e :: r => fvB b e ++ fvsB b r
noncomputable def fvIB (b : Bool) : MI → List Nat
  | .val e => fvB b e
  | .rng as => fvsB b as
  | .var i => [i]
  | .rev e => fvB b e
end
noncomputable def fv (e : ME) : List Nat := fvB false e
noncomputable def fvs (l : List ME) : List Nat := fvsB false l
noncomputable def fvI (i : MI) : List Nat := fvIB false i

noncomputable def evWhl (c : Loc → Option Bool) (body : Loc → Option (MF × Loc)) : Nat → Loc → Option (MF × Loc)
  | 0, _ => none
  | n + 1, loc => (c loc).bind fun b => if b then (body loc).bind fun p => match p.1 with
      | .next => evWhl c body n p.2
      | .ret d => some (.ret d, p.2)
    else some (.next, loc)
noncomputable def evFor (t : Tg) (body : Loc → Option (MF × Loc)) : List PyData → Loc → Option (MF × Loc)
  | [], loc => some (.next, loc)
  | x :: r, loc => (bindT loc t x).bind fun loc' => (body loc').bind fun p => match p.1 with
      | .next => evFor t body r p.2
      | .ret d => some (.ret d, p.2)
noncomputable def evT (F : Orc) (loc : Loc) (c : ME) : Option Bool := (evE F loc c).bind fun d => if smallV d then some (truthV d) else none
noncomputable abbrev ownAt (loc : Loc) (x : Nat) : Option (List PyData) := MV.at MV.own? loc x
/-- the place in a list -/
noncomputable def idxV (l : List PyData) : PyData → Option Nat
  | .int i => if l.length ≤ 2 ^ 24 ∧ 0 ≤ i ∧ i < l.length then some i.toNat else none
  | _ => none

mutual
noncomputable def evS (F : Orc) (W : Nat) : MS → Loc → Option (MF × Loc)
  | .assign i e, loc0 => let loc := frz (fv e) loc0
    (evE F loc e).map fun d => (.next, loc.set i (some (.dat d)))
  | .own i e, loc0 => let loc := frz (fv e) loc0
    (evE F loc e).bind fun d => (listD d).map fun l => (.next, loc.set i (some (.own l)))
  | .rngA i as, loc0 => let loc := frz (fvs as) loc0
    (evEs F loc as).bind fun ds => (rangeV ds).map fun p => (.next, loc.set i (some (.rng p.1 p.2)))
  | .assign2 i j e, loc0 => let loc := frz (fv e) loc0
    (evE F loc e).map fun d => (.next, (loc.set i (some (.dat d))).set j (some (.dat d)))
  | .assignT l e, loc0 => let loc := frz (fv e) loc0
    (evE F loc e).bind fun d => (tupD d).bind fun ds => (setMany loc l ds).map fun loc' => (.next, loc')
  | .setI x i e, loc0 => let loc := frz (fv i ++ fv e) loc0
    (evE F loc e).bind fun d => (ownAt loc x).bind fun l => (evE F loc i).bind fun k => (idxV l k).map fun n => (.next, loc.set x (some (.own (l.set n d))))
  | .aug x op e, loc0 => let loc := frz (x :: fv e) loc0
    (evE F loc (.var x)).bind fun a => (evE F loc e).bind fun b => (augV op a b).map fun r => (.next, loc.set x (some (.dat r)))
  | .augI x op i e, loc0 => let loc := frz (fv i ++ fv e) loc0
    (ownAt loc x).bind fun l => (evE F loc i).bind fun k => (idxV l k).bind fun n => (l[n]?).bind fun a => (evE F loc e).bind fun b => (augV op a b).map fun r => (.next, loc.set x (some (.own (l.set n r))))
  | .app x e, loc0 => let loc := frz (fv e) loc0
    (ownAt loc x).bind fun l => (evE F loc e).bind fun d => if l.length ≤ 2 ^ 20 then some (.next, loc.set x (some (.own (l ++ [d])))) else none
  | .rev x, loc => (ownAt loc x).bind fun l => if l.length ≤ 2 ^ 20 then some (.next, loc.set x (some (.own l.reverse))) else none
  | .ite c a b, loc0 => let loc := frz (fv c) loc0
    (evT F loc c).bind fun t => if t then evSs F W a loc else evSs F W b loc
  | .whl c b, loc => evWhl (fun l => evT F l c) (fun l => evSs F W b l) W loc
  | .for_ t it b, loc0 => let loc := frz (fvI it) loc0
    (evI F loc it).bind fun xs => evFor t (fun l => evSs F W b l) xs loc
  | .ret e, loc0 => let loc := frz (fv e) loc0
    (evE F loc e).map fun d => (.ret d, loc)
  | .fail, _ => none
  | .forG t e b, loc0 => let loc := frz (fv e) loc0
    (evE F loc e).bind fun d => (genV d).bind fun xs => evFor t (fun l => evSs F W b l) xs loc
noncomputable def evSs (F : Orc) (W : Nat) : List MS → Loc → Option (MF × Loc)
  | [], loc => some (.next, loc)
  | s :: r, loc => (evS F W s loc).bind fun p => match p.1 with
      | .next => evSs F W r p.2
      | .ret d => some (.ret d, p.2)
end

structure MFn where
  np : Nat
  n : Nat
  body : List MS
noncomputable def evFn (F : Orc) (W : Nat) (fn : MFn) (args : List PyData) : Option PyData :=
  if args.length = fn.np then (evSs F W fn.body (args.map (fun d => some (.dat d)) ++ List.replicate (fn.n - fn.np) none)).map fun p => match p.1 with
    | .ret d => d
    | .next => .none
  else none
end Mine

-- M7
namespace Mine
open PySem PySem.Spec PySem.Calls PyProof.Rows PySem.W

/-! ## from the text to the small language -/
structure CC where
  sc : Scope
  tb : List (Str × Nat)
  nx : Nat
  fns : List Str
  consts : List (Str × PyData)

/-! parts of an expression -/
inductive Vw where
  | nm (x : Str) (p : Pos)
  | at_ (o : Expr) (m : Str) (p : Pos)
  | call (f : Expr) (as : List Expr) (kw : List Keyword) (p : Pos)
  | slc (l u st : Option Expr) (p : Pos)
  | sub (o i : Expr) (p : Pos)
  | tup (l : List Expr) (n : Nat) (p : Pos)
  | lc (e : Expr) (gs : List Comprehension) (sc : Scope) (p : Pos)
  | lst (l : List Expr) (p : Pos)
  | oth
noncomputable def vw : Expr → Vw
  | .Name x p => .nm x p
  | .Attribute o m p => .at_ o m p
  | .Call f as kw p => .call f as kw p
  | .Slice l u st p => .slc l u st p
  | .Subscript o i p => .sub o i p
  | .Tuple l n p => .tup l n p
  | .ListComp e gs sc p => .lc e gs sc p
  | .List l p => .lst l p
  | _ => .oth
noncomputable def bk : Vw → Option Expr
  | .nm x p => some (.Name x p)
  | .at_ o m p => some (.Attribute o m p)
  | .call f as kw p => some (.Call f as kw p)
  | .slc l u st p => some (.Slice l u st p)
  | .sub o i p => some (.Subscript o i p)
  | .tup l n p => some (.Tuple l n p)
  | .lc e gs sc p => some (.ListComp e gs sc p)
  | .lst l p => some (.List l p)
  | .oth => none
theorem vw_back (e : Expr) : bk (vw e) = none ∨ bk (vw e) = some e := by
  cases e with
  | Name | Attribute | Call | Slice | Subscript | Tuple | ListComp | List => exact .inr rfl
  | _ => exact .inl rfl
theorem vwE {α : Type} {p : Vw → Option α} {q : α → Expr} (hp : ∀ v x, p v = some x → bk v = some (q x)) {e : Expr} {x : α} (h : p (vw e) = some x) : e = q x :=
  (vw_back e).elim (fun h' => nomatch h'.symm.trans (hp _ _ h)) fun h' => Option.some.inj (h'.symm.trans (hp _ _ h))
noncomputable def nmP : Vw → Option (Str × Pos)
  | .nm x p => some (x, p)
  | _ => none
noncomputable def atP : Vw → Option (Expr × Str × Pos)
  | .at_ o m p => some (o, m, p)
  | _ => none
noncomputable def callP : Vw → Option (Expr × List Expr × Pos)
  | .call f as kw p => match kw with
    | [] => some (f, as, p)
    | _ :: _ => none
  | _ => none
noncomputable def slcP : Vw → Option (Option Expr × Option Expr × Pos)
  | .slc l u st p => match st with
    | none => some (l, u, p)
    | some _ => none
  | _ => none
noncomputable def subP : Vw → Option (Expr × Expr × Pos)
  | .sub o i p => some (o, i, p)
  | _ => none
noncomputable def tupP : Vw → Option (List Expr × Nat × Pos)
  | .tup l n p => some (l, n, p)
  | _ => none
noncomputable def lcP : Vw → Option (Expr × List Comprehension × Scope × Pos)
  | .lc e gs sc p => some (e, gs, sc, p)
  | _ => none
noncomputable def lstP : Vw → Option (List Expr × Pos)
  | .lst l p => some (l, p)
  | _ => none
noncomputable def nm? (e : Expr) := nmP (vw e)
noncomputable def at? (e : Expr) := atP (vw e)
noncomputable def call? (e : Expr) := callP (vw e)
noncomputable def slc? (e : Expr) := slcP (vw e)
noncomputable def sub? (e : Expr) := subP (vw e)
noncomputable def tup? (e : Expr) := tupP (vw e)
noncomputable def lc? (e : Expr) := lcP (vw e)
noncomputable def lst? (e : Expr) := lstP (vw e)
noncomputable def one? {α : Type} : List α → Option α
  | [] => none
  | x :: r => match r with
    | [] => some x
    | _ :: _ => none
theorem nmE {e : Expr} {x : Str × Pos} : nm? e = some x → e = .Name x.1 x.2 := vwE (p := nmP) (q := fun x => .Name x.1 x.2) fun v x h => by cases v <;> cases h; rfl
theorem atE {e : Expr} {x : Expr × Str × Pos} : at? e = some x → e = .Attribute x.1 x.2.1 x.2.2 := vwE (p := atP) (q := fun x => .Attribute x.1 x.2.1 x.2.2) fun v x h => by cases v <;> cases h; rfl
theorem callE {e : Expr} {x : Expr × List Expr × Pos} : call? e = some x → e = .Call x.1 x.2.1 [] x.2.2 := vwE (p := callP) (q := fun x => .Call x.1 x.2.1 [] x.2.2) fun v x h => by
  cases v with
  | call f as kw p => cases kw <;> cases h; rfl
  | _ => cases h
theorem slcE {e : Expr} {x : Option Expr × Option Expr × Pos} : slc? e = some x → e = .Slice x.1 x.2.1 none x.2.2 := vwE (p := slcP) (q := fun x => .Slice x.1 x.2.1 none x.2.2) fun v x h => by
  cases v with
  | slc l u st p => cases st <;> cases h; rfl
  | _ => cases h
theorem subE {e : Expr} {x : Expr × Expr × Pos} : sub? e = some x → e = .Subscript x.1 x.2.1 x.2.2 := vwE (p := subP) (q := fun x => .Subscript x.1 x.2.1 x.2.2) fun v x h => by cases v <;> cases h; rfl
theorem tupE {e : Expr} {x : List Expr × Nat × Pos} : tup? e = some x → e = .Tuple x.1 x.2.1 x.2.2 := vwE (p := tupP) (q := fun x => .Tuple x.1 x.2.1 x.2.2) fun v x h => by cases v <;> cases h; rfl
theorem lcE {e : Expr} {x : Expr × List Comprehension × Scope × Pos} : lc? e = some x → e = .ListComp x.1 x.2.1 x.2.2.1 x.2.2.2 := vwE (p := lcP) (q := fun x => .ListComp x.1 x.2.1 x.2.2.1 x.2.2.2) fun v x h => by cases v <;> cases h; rfl
theorem lstE {e : Expr} {x : List Expr × Pos} : lst? e = some x → e = .List x.1 x.2 := vwE (p := lstP) (q := fun x => .List x.1 x.2) fun v x h => by cases v <;> cases h; rfl
theorem oneE {α : Type} {l : List α} {x : α} (h : one? l = some x) : l = [x] := by
  cases l with
  | nil => cases h
  | cons a r => cases r <;> cases h; rfl

noncomputable def isGlob (c : CC) (x : Str) : Bool := (c.tb.lookup x).isNone && c.sc.names.lookup x == some .globalImplicit
noncomputable def idxOf (x : Str) : List Str → Nat → Option Nat
  | [], _ => none
  | y :: r, n => if y == x then some n else idxOf x r (n + 1)
noncomputable def biI (x : Str) : Option Nat := if x == biN 0 then some 0 else if x == biN 1 then some 1 else if x == biN 2 then some 2 else if x == biN 3 then some 3 else if x == biN 7 then some 7 else none
noncomputable def methI (x : Str) : Option Nat := if x == methN 0 then some 0 else if x == methN 1 then some 1 else if x == methN 2 then some 2 else if x == methN 3 then some 3 else none
noncomputable def plainBase (e : Expr) : Bool := e.ctorIdx == 19 || e.ctorIdx == 21 || e.ctorIdx == 23
noncomputable def notStar (e : Expr) : Bool := e.ctorIdx != 22
noncomputable def notSlice (e : Expr) : Bool := e.ctorIdx != 26
noncomputable def cmpOk : CmpOp → Bool
  | .Eq | .NotEq | .Lt | .LtE | .Gt | .GtE => true
  | _ => false

noncomputable def nameSlot (tb : List (Str × Nat)) (e : Expr) : Option Nat := (nm? e).bind fun x => tb.lookup x.1
noncomputable def targetOf (tb : List (Str × Nat)) (e : Expr) : Option Tg := alt ((nm? e).bind fun x => (tb.lookup x.1).map .one) ((tup? e).bind fun t => (mapMO (nameSlot tb) t.1).map .many)

/-- the names that an inner scope binds itself, at new places -/
noncomputable def newNames (sc : Scope) (nx : Nat) : List (Str × Nat) := ((sc.names.filter fun p => (p.2 == .local || p.2 == .cell) && p.1 != (".0" : Str)).map (·.1)).zipIdx nx
noncomputable def innerTb (sc : Scope) (nx : Nat) (tb : List (Str × Nat)) : List (Str × Nat) := newNames sc nx ++ tb.filter fun p => sc.names.lookup p.1 == some .free
/-- what a comprehension must keep to -/
noncomputable def compOk (c : CC) (sc : Scope) : Bool :=
  sc.kind == .function && decide (sc.names.map (·.1)).Nodup && (sc.names.all fun p => p.2 != .free || c.sc.names.lookup p.1 == some .cell || c.sc.names.lookup p.1 == some .free) &&
  (((innerTb sc c.nx c.tb).all fun p => p.1 != ("__classdict__" : Str) && p.1 != ("__debug__" : Str)) && decide ((innerTb sc c.nx c.tb).map (·.1)).Nodup && decide ((innerTb sc c.nx c.tb).map (·.2)).Nodup) && c.tb.all fun p => decide (p.2 < c.nx)
noncomputable def plainIter (e : Expr) : Bool := e.ctorIdx != 24 && e.ctorIdx != 7
noncomputable def inCC (c : CC) (sc : Scope) : CC := { c with sc := sc, tb := innerTb sc c.nx c.tb, nx := c.nx + (newNames sc c.nx).length }

section
variable (rec : CC → Expr → Option ME) (c : CC)
noncomputable def cEs : List Expr → Option (List ME)
  | [] => some []
  | e :: r => gd (notStar e) ((rec c e).bind fun a => (cEs r).map fun as => a :: as)
noncomputable def cConst : Const → Option ME
  | .int i => some (.lit (.int i))
  | .str x => some (.lit (.str x))
  | .bool b => some (.lit (.bool b))
  | .none => some (.lit .none)
  | _ => none
noncomputable def cName (x : Str) : Option ME := alt ((c.tb.lookup x).map .var) (gd (isGlob c x && x != ("__debug__" : Str)) ((c.consts.lookup x).map .lit))
noncomputable def mkB : BoolOp → ME → ME → ME
  | .And => .andE
  | .Or => .orE
noncomputable def cB (op : BoolOp) : Expr → List Expr → Option ME
  | x, [] => rec c x
  | x, y :: r => (rec c x).bind fun a => (cB op y r).map (mkB op a)
noncomputable def two? {α : Type} : List α → Option (α × α)
  | [] => none
  | x :: r => (one? r).map fun y => (x, y)
theorem twoE {α : Type} {l : List α} {x : α × α} (h : two? l = some x) : l = [x.1, x.2] := by
  cases l with
  | nil => cases h
  | cons a r => exact mapE (P := fun x => a :: r = [x.1, x.2]) h fun b hb => by rw [oneE hb]
noncomputable def cC (l : Expr) (ops : List CmpOp) (rs : List Expr) : Option ME :=
  alt ((one? ops).bind fun op => (one? rs).bind fun r => gd (!behindInMarks op r) ((rec c l).bind fun a => (rec c r).map fun b => .cmp op a b))
    ((two? ops).bind fun o => (two? rs).bind fun r => gd (cmpOk o.2) ((rec c l).bind fun a => (rec c r.1).bind fun b => (rec c r.2).map fun d => .cmp2 o.1 o.2 a b d))
noncomputable def cO : Option Expr → Option ME
  | none => some (.lit .none)
  | some e => rec c e
noncomputable def cI (e : Expr) : Option MI :=
  alt ((call? e).bind fun q => (nm? q.1).bind fun f => gd (isGlob c f.1) (alt (gd (f.1 == ("range" : Str)) ((cEs rec c q.2.1).map .rng))
      (gd (f.1 == ("reversed" : Str)) ((one? q.2.1).bind fun a => (nm? a).bind fun x => (rec c a).map .rev))))
    (alt ((nm? e).bind fun x => (c.tb.lookup x.1).map .var) (gd ((call? e).isNone && (nm? e).isNone) ((rec c e).map .val)))
noncomputable def cG (elt : Expr) (gs : List Comprehension) (sc : Scope) : Option ME :=
  (one? gs).bind fun g => gd (g.ifs.isEmpty && g.is_async == 0) (gd (compOk c sc && plainIter g.iter) ((cI rec c g.iter).bind fun i => (targetOf (newNames sc c.nx) g.target).bind fun tg => (rec (inCC c sc) elt).map fun a => .comp c.nx (newNames sc c.nx).length a tg i))
noncomputable def cL (args : List Expr) : Option ME :=
  (one? args).bind fun a => alt ((call? a).bind fun q => (nm? q.1).bind fun r => gd (r.1 == ("range" : Str) && isGlob c r.1) ((cEs rec c q.2.1).map .listr)) ((nm? a).bind fun x => (rec c a).map .listc)
noncomputable def cJ (args : List Expr) : Option ME :=
  (two? args).bind fun a => (nm? a.2).bind fun t => gd (isGlob c t.1 && notStar a.1) (alt (gd (t.1 == ("int" : Str)) ((rec c a.1).map (.isi false))) (gd (t.1 == ("bool" : Str)) ((rec c a.1).map (.isi true))))
/-- a list that is made anew -/
noncomputable def cF (e : Expr) : Option ME :=
  alt ((lst? e).bind fun q => (cEs rec c q.1).map .lst) (alt ((lc? e).bind fun q => cG rec c q.1 q.2.1 q.2.2.1)
    ((call? e).bind fun q => (nm? q.1).bind fun f => gd (f.1 == ("list" : Str) && isGlob c f.1) (cL rec c q.2.1)))
noncomputable def cK (q : Expr × List Expr × Pos) : Option ME :=
  alt ((nm? q.1).bind fun f => gd (isGlob c f.1 && f.1 != ("__debug__" : Str)) (alt ((idxOf f.1 c.fns 0).bind fun k => gd (c.fns[k]? == some f.1) ((cEs rec c q.2.1).map (.call k)))
      (alt ((biI f.1).bind fun k => (cEs rec c q.2.1).map (.bi k)) (gd (f.1 == ("isinstance" : Str)) (cJ rec c q.2.1)))))
    ((at? q.1).bind fun o => gd (plainBase o.1 && ((o.2.2.endLine == q.2.2.line) && decide (q.2.1.length < 30))) ((methI o.2.1).bind fun k => (rec c o.1).bind fun a => (cEs rec c q.2.1).map fun as => .meth k a as))
noncomputable def cU (o i : Expr) : Option ME :=
  alt ((slc? i).bind fun s => (rec c o).bind fun a => (cO rec c s.1).bind fun b => (cO rec c s.2.1).map fun d => .slice a b d)
    (gd (notSlice i) (alt ((nm? o).bind fun x => (c.tb.lookup x.1).bind fun k => (rec c i).map fun b => .subo k b) (gd (nm? o).isNone ((rec c o).bind fun a => (rec c i).map fun b => .sub a b))))
noncomputable def cE1 (e : Expr) : Option ME := match e with
  | .Constant k _ _ => cConst k
  | .Name x _ => cName c x
  | .BinOp l op r _ => (rec c l).bind fun a => (rec c r).map fun b => .bin op a b
  | .UnaryOp op x _ => (rec c x).map fun a => .un op a
  | .BoolOp op vs _ => match vs with
    | [] => none
    | x :: r => cB rec c op x r
  | .Compare l ops rs _ => cC rec c l ops rs
  | .IfExp t b o _ => (rec c t).bind fun x => (rec c b).bind fun y => (rec c o).map fun z => .ite x y z
  | .Subscript o i _ => cU rec c o i
  | .Tuple es _ _ => (cEs rec c es).map .tup
  | .Call f as kw p => alt ((call? (.Call f as kw p)).bind fun q => cK rec c q) (cF rec c (.Call f as kw p))
  | e => cF rec c e
end
noncomputable def cE : Nat → CC → Expr → Option ME
  | 0 => fun _ _ => none
  | n + 1 => cE1 (cE n)

noncomputable def tupOk (e : Expr) : Bool := match tup? e with
  | some t => !(t.1.all (constantsAlone 8))
  | none => true
noncomputable def noComp (e : Expr) : Bool := e.ctorIdx != 8 && e.ctorIdx != 9 && e.ctorIdx != 10
/-- a scope binds a name itself, unless it is one of a scope around -/
noncomputable def notFree (c : CC) (x : Str) : Bool := c.sc.names.lookup x != some .free
noncomputable def wtb (c : CC) : List (Str × Nat) := c.tb.filter fun q => notFree c q.1
section
variable (rec : CC → Expr → Option ME) (c : CC)
noncomputable def cA1 (i : Nat) (e : Expr) : Option MS :=
  alt ((lc? e).bind fun q => (cG rec c q.1 q.2.1 q.2.2.1).map (.own i)) (gd (noComp e) (alt ((call? e).bind fun q => (nm? q.1).bind fun f => gd (f.1 == ("range" : Str) && isGlob c f.1) ((cEs rec c q.2.1).map (.rngA i)))
    (alt ((cF rec c e).map (.own i)) ((rec c e).map (.assign i)))))
noncomputable def cA (ts : List Expr) (e : Expr) : Option MS :=
  alt ((two? ts).bind fun t => (nm? t.1).bind fun x => (nm? t.2).bind fun y => ((wtb c).lookup x.1).bind fun i => ((wtb c).lookup y.1).bind fun j => (rec c e).map (.assign2 i j))
    ((one? ts).bind fun t => alt ((nm? t).bind fun x => ((wtb c).lookup x.1).bind fun i => cA1 rec c i e)
      (alt ((tup? t).bind fun t => gd (tupOk e) ((mapMO (nameSlot (wtb c)) t.1).bind fun l => gd (decide l.Nodup) ((rec c e).map (.assignT l))))
        ((sub? t).bind fun q => (nm? q.1).bind fun x => gd (notSlice q.2.1) ((c.tb.lookup x.1).bind fun k => (rec c e).bind fun a => (rec c q.2.1).map fun b => .setI k b a))))
noncomputable def cG2 (t : Expr) (op : Operator) (e : Expr) : Option MS :=
  alt ((nm? t).bind fun x => ((wtb c).lookup x.1).bind fun k => (rec c e).map fun a => .aug k op a)
    ((sub? t).bind fun q => (nm? q.1).bind fun x => gd (notSlice q.2.1) ((c.tb.lookup x.1).bind fun k => (rec c q.2.1).bind fun b => (rec c e).map fun a => .augI k op b a))
noncomputable def cX (e : Expr) : Option MS :=
  (call? e).bind fun q => (at? q.1).bind fun o => (nm? o.1).bind fun x => gd (o.2.2.endLine == q.2.2.line) ((c.tb.lookup x.1).bind fun k =>
    alt ((one? q.2.1).bind fun a => gd (o.2.1 == ("append" : Str) && notStar a) ((rec c a).map (.app k))) (gd (q.2.1.isEmpty && o.2.1 == ("reverse" : Str)) (some (.rev k))))
variable (recS : CC → Stmt → Option MS)
noncomputable def cSl : List Stmt → Option (List MS)
  | [] => some []
  | s :: r => (recS c s).bind fun a => (cSl r).map fun as => a :: as
noncomputable def cS1 (s : Stmt) : Option MS := match s with
    | .Assign ts e _ => cA rec c ts e
    | .AugAssign t op e _ => cG2 rec c t op e
    | .Expr e _ => cX rec c e
    | .If t b o _ => (rec c t).bind fun x => (cSl c recS b).bind fun y => (cSl c recS o).map fun z => .ite x y z
    | .While t b o _ => gd o.isEmpty ((rec c t).bind fun x => (cSl c recS b).map fun y => .whl x y)
    | .For t it b o _ => gd (o.isEmpty && plainIter it) ((targetOf (wtb c) t).bind fun tg => (cI rec c it).bind fun i => (cSl c recS b).map fun y => .for_ tg i y)
    | .Return e _ => (cO rec c e).map .ret
    | .Raise .. => some .fail
    | _ => none
end
noncomputable def cS : Nat → CC → Stmt → Option MS
  | 0 => fun _ _ => none
  | n + 1 => fun c s => cS1 (cE n) c (cS n) s
noncomputable def cSs (n : Nat) (c : CC) (l : List Stmt) : Option (List MS) := cSl c (cS n) l

/-- the slots of a def: parameters, then its other names -/
noncomputable def slotsOf (ps : Arguments) (sc : Scope) : List (Str × Nat) :=
  let own := (sc.names.filter fun p => p.2 == .local || p.2 == .cell).map (·.1)
  let params := ps.args.map (·.arg)
  ((params ++ own.filter fun x => !params.contains x).zipIdx 0)
noncomputable def ccOf (ps : Arguments) (sc : Scope) (fns : List Str) (consts : List (Str × PyData)) : CC :=
  { sc := sc, tb := slotsOf ps sc, nx := (slotsOf ps sc).length, fns := fns, consts := consts }
end Mine

-- M8
namespace Mine
open PySem PySem.Spec PySem.Calls PyProof.Rows PySem.W

/-! ## frames -/
noncomputable def Holds (env : Env) (h : Heap) (x : Str) (v : Value) : Prop :=
  (env.kindOf x = some .local ∧ ∃ m, h.Ns env.locals m ∧ m x = some v) ∨
  ((env.kindOf x = some .cell ∨ env.kindOf x = some .free) ∧ ∃ c, env.cells.lookup x = some c ∧ h.IsCell c (some v))

noncomputable def Home (env : Env) (X : List Addr) (h : Heap) (x : Str) : Prop :=
  env.kindOf x = some .local ∨ (env.kindOf x = some .cell ∧ ∃ c, env.cells.lookup x = some c ∧ c ∈ X ∧ ∃ v, h.IsCell c v)

theorem Ns.inj {h : Heap} {a : Addr} {m m' : Str → Option Value} (x : h.Ns a m) (y : h.Ns a m') : m = m' := by
  obtain ⟨o, es, ep, e1, e2, _, e4⟩ := x
  obtain ⟨o', es', ep', f1, f2, _, f4⟩ := y
  rw [e1] at f1; cases f1
  rw [e2] at f2; cases f2
  funext n
  rw [← e4 n, ← f4 n]
theorem cell_inj {h : Heap} {c : Addr} {v v' : Option Value} (x : h.IsCell c v) (y : h.IsCell c v') : v = v' := by
  obtain ⟨o, e1, e2⟩ := x
  obtain ⟨o', f1, f2⟩ := y
  rw [e1] at f1; cases f1
  rw [e2] at f2; cases f2; rfl
theorem Holds.inj {env : Env} {h : Heap} {x : Str} {v v' : Value} (a : Holds env h x v) (b : Holds env h x v') : v = v' := by
  rcases a with ⟨k, m, n, e⟩ | ⟨k, c, l, e⟩ <;> rcases b with ⟨k', m', n', e'⟩ | ⟨k', c', l', e'⟩
  · rw [Ns.inj n n', e'] at e; exact Option.some.inj e.symm
  · rw [k] at k'; rcases k' with k' | k' <;> cases k'
  · rw [k'] at k; rcases k with k | k <;> cases k
  · rw [l] at l'; cases l'; exact Option.some.inj (cell_inj e e')

theorem Holds.keeps {env : Env} {h h' : Heap} {x : Str} {v : Value} (a : Holds env h x v) (k : ∀ b o, h.get? b = some o → (∀ ps, o.data ≠ .fields ps) → h'.get? b = some o) : Holds env h' x v := by
  rcases a with ⟨k1, m, ⟨o, es, ep, e1, e2, e3⟩, e⟩ | ⟨k1, c, l, ⟨o, e1, e2⟩⟩
  · exact .inl ⟨k1, m, ⟨o, es, ep, k _ _ e1 (by rw [e2]; nofun), e2, e3⟩, e⟩
  · exact .inr ⟨k1, c, l, ⟨o, k _ _ e1 (by rw [e2]; nofun), e2⟩⟩

noncomputable def MVok (g h : Heap) (X : List Addr) (v : Value) : MV → Prop
  | .dat d => ∃ as, Reads g v d as
  | .rng a b => rangeOk a b = true ∧ ∃ r t u w, v = .ref r ∧ IsRange g r a b 1 t u w
  | .own l => ∃ a vs as, v = .ref a ∧ a ∈ X ∧ h.PlainList a vs ∧ ReadsAll g vs.toList l as

structure TbOk (tb : List (Str × Nat)) : Prop where
  names : ∀ p ∈ tb, p.1 ≠ "__classdict__" ∧ p.1 ≠ "__debug__"
  n1 : (tb.map (·.1)).Nodup
  n2 : (tb.map (·.2)).Nodup
noncomputable def tbOk (tb : List (Str × Nat)) : Bool := (tb.all fun p => p.1 != ("__classdict__" : Str) && p.1 != ("__debug__" : Str)) && decide (tb.map (·.1)).Nodup && decide (tb.map (·.2)).Nodup
theorem TbOk.of {tb : List (Str × Nat)} (h : tbOk tb = true) : TbOk tb := by
  unfold tbOk at h
  simp only [Bool.and_eq_true, decide_eq_true_eq, List.all_eq_true, bne_iff_ne, ne_eq] at h
  exact ⟨h.1.1, h.1.2, h.2⟩
theorem nodup_name {tb : List (Str × Nat)} (T : TbOk tb) {p q : Str × Nat} (hp : p ∈ tb) (hq : q ∈ tb) (h : p.1 = q.1) : p = q := by
  have := T.n1
  induction tb with
  | nil => cases hp
  | cons r tb ih =>
    simp only [List.map_cons, List.nodup_cons, List.mem_map, not_exists, not_and] at this
    have T' : TbOk tb := ⟨fun p hp => T.names p (List.mem_cons_of_mem _ hp), this.2, (List.nodup_cons.mp (by simpa using T.n2)).2⟩
    rcases List.mem_cons.mp hp with rfl | hp' <;> rcases List.mem_cons.mp hq with rfl | hq'
    · rfl
    · exact absurd h.symm (this.1 q hq')
    · exact absurd h (this.1 p hp')
    · exact ih T' hp' hq' this.2
theorem nodup_slot {tb : List (Str × Nat)} (T : TbOk tb) {p q : Str × Nat} (hp : p ∈ tb) (hq : q ∈ tb) (h : p.2 = q.2) : p = q := by
  have := T.n2
  induction tb with
  | nil => cases hp
  | cons r tb ih =>
    simp only [List.map_cons, List.nodup_cons, List.mem_map, not_exists, not_and] at this
    have T' : TbOk tb := ⟨fun p hp => T.names p (List.mem_cons_of_mem _ hp), (List.nodup_cons.mp (by simpa using T.n1)).2, this.2⟩
    rcases List.mem_cons.mp hp with rfl | hp' <;> rcases List.mem_cons.mp hq with rfl | hq'
    · rfl
    · exact absurd h.symm (this.1 q hq')
    · exact absurd h (this.1 p hp')
    · exact ih T' hp' hq' this.2
theorem mem_lookup {α : Type} {tb : List (Str × α)} {x : Str} {i : α} (h : tb.lookup x = some i) : (x, i) ∈ tb := mem_of_lookup h

structure Rel (C : Cx) (env : Env) (tb : List (Str × Nat)) (wr : List Str) (ex X : List Addr) (loc : Loc) (s : Shared) : Prop where
  tbok : TbOk tb
  kind : env.scope.kind = .function
  st : St C (X ++ ex) s
  mine : env.locals ∈ X
  ns : ∃ m, s.heap.Ns env.locals m
  tabex : ∀ t ∈ C.tabs, t.P ∈ ex
  notab : ∀ a ∈ X, ¬ isTab C a
  disj : ∀ a ∈ X, a ∉ ex
  apart : ∀ x y c, env.cells.lookup x = some c → env.cells.lookup y = some c → x = y
  held : ∀ x c, env.cells.lookup x = some c → ∃ v, s.heap.IsCell c v
  home : ∀ x ∈ wr, Home env X s.heap x
  vars : ∀ p ∈ tb, ∀ mv, loc[p.2]? = some (some mv) → ∃ v, Holds env s.heap p.1 v ∧ MVok (Fz s.heap (X ++ ex)) s.heap X v mv
  owns : ∀ p ∈ tb, ∀ q ∈ tb, p.2 ≠ q.2 → ∀ l l' a, loc[p.2]? = some (some (.own l)) → loc[q.2]? = some (some (.own l')) → Holds env s.heap p.1 (.ref a) → ¬ Holds env s.heap q.1 (.ref a)

theorem MVok.up {g h g' h' : Heap} {X X' : List Addr} {v : Value} {mv : MV} (m : MVok g h X v mv) (k : Sub g g') (hX : ∀ a ∈ X, a ∈ X') (ko : ∀ a o, a ∈ X → h.get? a = some o → (∃ vs n, o.data = .seq vs n) → h'.get? a = some o) : MVok g' h' X' v mv := by
  cases mv with
  | dat d => obtain ⟨as, r⟩ := m; exact ⟨as, Reads.keeps k r⟩
  | rng a b => obtain ⟨ok, r, t, u, w, e, hr⟩ := m; exact ⟨ok, r, t, u, w, e, k _ _ hr⟩
  | own l =>
    obtain ⟨a, vs, as, e, ha, ⟨n, h1⟩, r⟩ := m
    exact ⟨a, vs, as, e, hX a ha, ⟨n, ko a _ ha h1 ⟨_, _, rfl⟩⟩, ReadsAll.keeps k r⟩

section
variable {C : Cx} {env : Env} {tb : List (Str × Nat)} {wr : List Str} {ex X : List Addr} {loc : Loc} {s s' : Shared}

theorem Grow.obj {X' : List Addr} (S : St C ex s) (G : Grow C X' s s') {a : Addr} {o : Obj} (e : s.heap.get? a = some o) (hd : ∀ ps, o.data ≠ .fields ps) (ha : a ∉ X') : s'.heap.get? a = some o :=
  G.keep a o ha (tab_ne S e hd) e

theorem Rel.grow (R : Rel C env tb wr ex X loc s) (G : Grow C [] s s') (S : St C (X ++ ex) s') : Rel C env tb wr ex X loc s' := by
  have ko : ∀ b o, s.heap.get? b = some o → (∀ ps, o.data ≠ .fields ps) → s'.heap.get? b = some o := fun b o e hd => G.obj R.st e hd (fun h => nomatch h)
  have hold : ∀ {x v}, Holds env s.heap x v → Holds env s'.heap x v := fun h => h.keeps ko
  have back : ∀ {x v}, Holds env s'.heap x v → ∀ w, Holds env s.heap x w → w = v := fun h w h' => (hold h').inj h
  refine ⟨R.tbok, R.kind, S, R.mine, ?_, R.tabex, R.notab, R.disj, R.apart, fun x c e => let ⟨v, o, e1, e2⟩ := R.held x c e; ⟨v, o, ko _ _ e1 (by rw [e2]; nofun), e2⟩, ?_, ?_, ?_⟩
  · obtain ⟨m, o, es, ep, e1, e2, e3⟩ := R.ns
    exact ⟨m, o, es, ep, ko _ _ e1 (by rw [e2]; nofun), e2, e3⟩
  · intro x hx
    rcases R.home x hx with h | ⟨h1, c, h2, h3, v, o, e1, e2⟩
    · exact .inl h
    · exact .inr ⟨h1, c, h2, h3, v, o, ko _ _ e1 (by rw [e2]; nofun), e2⟩
  · intro p hp mv hm
    obtain ⟨v, h1, h2⟩ := R.vars p hp mv hm
    refine ⟨v, hold h1, h2.up (G.fz (fun _ h => nomatch h) R.st.tabx) (fun _ h => h) fun a o _ e ⟨vs, n, hd⟩ => ko a o e (by rw [hd]; nofun)⟩
  · intro p hp q hq hn l l' a h1 h2 h3 h4
    obtain ⟨v, g1, a1, _, _, rfl, _⟩ := R.vars p hp _ h1
    obtain ⟨w, g2, a2, _, _, rfl, _⟩ := R.vars q hq _ h2
    have e1 := back h3 _ g1
    have e2 := back h4 _ g2
    cases e1; cases e2
    exact R.owns p hp q hq hn l l' a h1 h2 g1 g2

theorem Rel.toks (R : Rel C env tb wr ex X loc s) (tk : Nat) : Rel C env tb wr ex X loc { s with toks := tk } := R.grow Grow.toks (R.st.toks tk)

theorem load_ok {x : Str} {v : Value} {A : Around} {E : Value → Shared → Prop} {Q : Value → Shared → Prop} (hk : env.scope.kind = .function) (hc : x ≠ "__classdict__") (H : Holds env s.heap x v) (h : Q v s) :
    wpAny C.M A (loadName env x) Q E s := by
  rcases H with ⟨k1, m, n, e⟩ | ⟨k1 | k1, c, l, e⟩
  · exact wpAny_loadName_local hk k1 n e h
  · exact wpAny_loadName_cell hk k1 l e h
  · exact wpAny_loadName_free hk k1 l e h (by simpa using hc)

theorem getElem?_set_ne {α : Type} (l : List α) (i j : Nat) (v : α) (h : i ≠ j) : (l.set i v)[j]? = l[j]? := by
  rw [List.getElem?_set]; simp [h]
theorem getElem?_set_some {α : Type} {l : List α} {i : Nat} {v w : α} (h : (l.set i v)[i]? = some w) : w = v := by
  rw [List.getElem?_set] at h
  simp only [if_true] at h
  split at h <;> cases h
  rfl

/-- a name is bound anew -/
theorem store_gen {A : Around} {E : Value → Shared → Prop} {Q : Unit → Shared → Prop} {x : Str} {i : Nat} {v : Value} {om : Option MV} (R : Rel C env tb wr ex X loc s) (hx : tb.lookup x = some i) (hw : x ∈ wr)
    (hv : ∀ mv, om = some mv → MVok (Fz s.heap (X ++ ex)) s.heap X v mv)
    (ho : ∀ l, om = some (.own l) → ∀ q ∈ tb, q.2 ≠ i → ∀ l', loc[q.2]? = some (some (.own l')) → ¬ Holds env s.heap q.1 v)
    (h : ∀ s', Grow C X s s' → Rel C env tb wr ex X (loc.set i om) s' → Holds env s'.heap x v → Q () s') : wpAny C.M A (storeName env x v) Q E s := by
  have hmem := mem_lookup hx
  -- a step that turns one hidden object of X, of names or a cell
  have key : ∀ (a : Addr) (oa : Obj) (h' : Heap) (tk : Nat), a ∈ X → s.heap.get? a = some oa → (∀ vs n, oa.data ≠ .seq vs n) → Heap.SameBut a s.heap h' → (∃ o', h'.get? a = some o') →
      (∀ y w, y ≠ x → Holds env s.heap y w → Holds env h' y w) → Holds env h' x v → (∃ m, h'.Ns env.locals m) → (∀ y ∈ wr, Home env X h' y) → (∀ c, (∃ v, s.heap.IsCell c v) → ∃ v, h'.IsCell c v) → Q () { s with heap := h', toks := tk } := by
    intro a oa h' tk ha hoa hseq hs ⟨o', ho'⟩ hold hnew hns hhome hcells
    have hG : Grow C X s { s with heap := h', toks := tk } := Grow.but ha hs ho' tk
    have hS : St C (X ++ ex) { s with heap := h', toks := tk } := R.st.but (List.mem_append_left _ ha) (R.notab a ha) hs ho' tk
    have hsub : Sub (Fz s.heap (X ++ ex)) (Fz h' (X ++ ex)) := hG.fz (s' := { s with heap := h', toks := tk }) (fun b hb => List.mem_append_left _ hb) R.st.tabx
    have ko : ∀ b o, b ∈ X → s.heap.get? b = some o → (∃ vs n, o.data = .seq vs n) → h'.get? b = some o := fun b o _ e ⟨vs, n, hd⟩ => by
      refine (hs.2 b fun e' => ?_).trans e
      subst e'; rw [hoa] at e; cases e
      exact hseq vs n hd
    have up : ∀ {w : Value} {mv' : MV}, MVok (Fz s.heap (X ++ ex)) s.heap X w mv' → MVok (Fz h' (X ++ ex)) h' X w mv' := fun m => m.up hsub (fun _ h => h) ko
    refine h _ hG ⟨R.tbok, R.kind, hS, R.mine, hns, R.tabex, R.notab, R.disj, R.apart, fun x c e => hcells c (R.held x c e), hhome, ?_, ?_⟩ hnew
    · intro p hp mv' hm
      by_cases hpi : p.2 = i
      · have : p = (x, i) := nodup_slot R.tbok hp hmem hpi
        subst this
        have hm' := getElem?_set_some hm
        exact ⟨v, hnew, up (hv mv' hm'.symm)⟩
      · rw [getElem?_set_ne _ _ _ _ (Ne.symm hpi)] at hm
        obtain ⟨w, h1, h2⟩ := R.vars p hp mv' hm
        exact ⟨w, hold _ _ (fun e => hpi (by rw [nodup_name R.tbok hp hmem e])) h1, up h2⟩
    · intro p hp q hq hn l l' b h1 h2 h3 h4
      by_cases hpi : p.2 = i
      · have : p = (x, i) := nodup_slot R.tbok hp hmem hpi
        subst this
        have hqi : q.2 ≠ i := fun e => hn e.symm
        rw [getElem?_set_ne _ _ _ _ (Ne.symm hqi)] at h2
        have e1 := (getElem?_set_some h1)
        obtain ⟨w, g1, _⟩ := R.vars q hq _ h2
        have g1' := hold _ _ (fun e => hqi (by rw [nodup_name R.tbok hq hmem e])) g1
        have e2 := g1'.inj h4
        subst e2
        have e3 := h3.inj hnew
        subst e3
        exact ho l e1.symm q hq hqi l' h2 g1
      · rw [getElem?_set_ne _ _ _ _ (Ne.symm hpi)] at h1
        obtain ⟨w, g1, _⟩ := R.vars p hp _ h1
        have g1' := hold _ _ (fun e => hpi (by rw [nodup_name R.tbok hp hmem e])) g1
        have e2 := g1'.inj h3
        subst e2
        by_cases hqi : q.2 = i
        · have : q = (x, i) := nodup_slot R.tbok hq hmem hqi
          subst this
          have e4 := getElem?_set_some h2
          have e3 := h4.inj hnew
          subst e3
          exact ho l' e4.symm p hp hpi l h1 g1
        · rw [getElem?_set_ne _ _ _ _ (Ne.symm hqi)] at h2
          obtain ⟨w', g2, _⟩ := R.vars q hq _ h2
          have g2' := hold _ _ (fun e => hqi (by rw [nodup_name R.tbok hq hmem e])) g2
          have e3 := g2'.inj h4
          subst e3
          exact R.owns p hp q hq hn l l' b h1 h2 g1 g2
  obtain ⟨m₀, hns₀⟩ := R.ns
  rcases R.home x hw with hl | ⟨hc, c, hcl, hcX, v₀, hcell⟩
  · refine wpAny_storeName_local hl hns₀ (fun h' hn' hs' => ?_) (by rw [R.kind]; rfl)
    obtain ⟨oL, es, ep, hoL, hdL, _⟩ := id hns₀
    refine key env.locals oL h' _ R.mine hoL (by rw [hdL]; nofun) hs' (let ⟨o, _, _, e, _⟩ := hn'; ⟨o, e⟩) ?_ (.inl ⟨hl, _, hn', by simp⟩) ⟨_, hn'⟩ ?_ (fun c ⟨v, o, e1, e2⟩ => ⟨v, o, (hs'.2 c fun e => by subst e; rw [hoL] at e1; cases e1; rw [hdL] at e2; cases e2).trans e1, e2⟩)
    · intro y w hy H
      rcases H with ⟨k1, m, n, e⟩ | ⟨k1, c, l, ⟨o, e1, e2⟩⟩
      · refine .inl ⟨k1, _, hn', ?_⟩
        rw [if_neg hy, ← Ns.inj n hns₀]; exact e
      · refine .inr ⟨k1, c, l, ⟨o, (hs'.2 c fun e => ?_).trans e1, e2⟩⟩
        subst e; rw [hoL] at e1; cases e1; rw [hdL] at e2; cases e2
    · intro y hy
      rcases R.home y hy with h1 | ⟨h1, c, h2, h3, v', o, e1, e2⟩
      · exact .inl h1
      · refine .inr ⟨h1, c, h2, h3, v', o, (hs'.2 c fun e => ?_).trans e1, e2⟩
        subst e; rw [hoL] at e1; cases e1; rw [hdL] at e2; cases e2
  · refine wpAny_storeName_cell R.kind hc hcl hcell fun h' hc' hs' => ?_
    obtain ⟨oc, hoc, hdc⟩ := id hcell
    have hne : ∀ m, s.heap.Ns env.locals m → env.locals ≠ c := fun m ⟨o, es, ep, e1, e2, _⟩ e => by
      subst e; rw [e1] at hoc; cases hoc; rw [e2] at hdc; cases hdc
    refine key c oc h' s.toks hcX hoc (by rw [hdc]; nofun) hs' (let ⟨o, e, _⟩ := hc'; ⟨o, e⟩) ?_ (.inr ⟨.inl hc, c, hcl, hc'⟩) ⟨m₀, hns₀.sameBut hs' (hne _ hns₀)⟩ ?_ (fun c2 ⟨v, o, e1, e2⟩ => by
      by_cases hcc : c2 = c
      · subst hcc; exact ⟨some _, hc'⟩
      · exact ⟨v, o, (hs'.2 c2 hcc).trans e1, e2⟩)
    · intro y w hy H
      rcases H with ⟨k1, m, n, e⟩ | ⟨k1, c2, l, ⟨o, e1, e2⟩⟩
      · exact .inl ⟨k1, m, n.sameBut hs' (hne _ n), e⟩
      · refine .inr ⟨k1, c2, l, ⟨o, (hs'.2 c2 fun e => ?_).trans e1, e2⟩⟩
        subst e; exact hy (R.apart _ _ _ l hcl)
    · intro y hy
      rcases R.home y hy with h1 | ⟨h1, c2, h2, h3, v', o, e1, e2⟩
      · exact .inl h1
      · by_cases hcc : c2 = c
        · subst hcc; exact .inr ⟨h1, c2, h2, h3, some v, hc'⟩
        · exact .inr ⟨h1, c2, h2, h3, v', o, (hs'.2 c2 hcc).trans e1, e2⟩

theorem store_ok {A : Around} {E : Value → Shared → Prop} {Q : Unit → Shared → Prop} {x : Str} {i : Nat} {v : Value} {mv : MV} (R : Rel C env tb wr ex X loc s) (hx : tb.lookup x = some i) (hw : x ∈ wr)
    (hv : MVok (Fz s.heap (X ++ ex)) s.heap X v mv)
    (ho : ∀ l, mv = .own l → ∀ q ∈ tb, q.2 ≠ i → ∀ l', loc[q.2]? = some (some (.own l')) → ¬ Holds env s.heap q.1 v)
    (h : ∀ s', Grow C X s s' → Rel C env tb wr ex X (loc.set i (some mv)) s' → Q () s') : wpAny C.M A (storeName env x v) Q E s :=
  store_gen R hx hw (fun mv' e => by cases e; exact hv) (fun l e => ho l (Option.some.inj e)) fun s' g R' _ => h s' g R'

/-- an owned list is shown: from now on it stays -/
theorem Rel.show1 (R : Rel C env tb wr ex X loc s) {p : Str × Nat} {l : List PyData} (hp : p ∈ tb) (hl : loc[p.2]? = some (some (.own l))) :
    ∃ X', (∀ a ∈ X', a ∈ X) ∧ Rel C env tb wr ex X' (loc.set p.2 (some (.dat (.list l)))) s := by
  obtain ⟨v, hv, a, vs, as, rfl, ha, hlist, hr⟩ := R.vars p hp _ hl
  obtain ⟨o, ho, hcls, n, hd⟩ := hlist.isList
  refine ⟨X.filter (· ≠ a), fun b hb => (List.mem_filter.mp hb).1, ?_⟩
  have hsubX : ∀ b ∈ X.filter (· ≠ a), b ∈ X := fun b hb => (List.mem_filter.mp hb).1
  have hex : ∀ t ∈ C.tabs, t.P ∈ X.filter (· ≠ a) ++ ex := fun t ht => List.mem_append_right _ (R.tabex t ht)
  have S' : St C (X.filter (· ≠ a) ++ ex) s := R.st.show_ (fun b hb => by
    rcases List.mem_append.mp hb with h | h
    · exact List.mem_append_left _ (hsubX b h)
    · exact List.mem_append_right _ h) hex
  have hsub : Sub (Fz s.heap (X ++ ex)) (Fz s.heap (X.filter (· ≠ a) ++ ex)) := fz_mono (fun _ _ _ e => e) fun b _ hb _ hb' => hb (by
    rcases List.mem_append.mp hb' with h | h
    · exact List.mem_append_left _ (hsubX b h)
    · exact List.mem_append_right _ h)
  have hlist' : (Fz s.heap (X.filter (· ≠ a) ++ ex)).get? a = some o := fz_iff.mpr ⟨ho, fun hm => by
    rcases List.mem_append.mp hm with h | h
    · simp at h
    · exact R.disj a ha h⟩
  have stay : ∀ b ∈ X, (∃ ob, s.heap.get? b = some ob ∧ ∀ vs n, ob.data ≠ .seq vs n) → b ∈ X.filter (· ≠ a) := fun b hb ⟨ob, e, hn⟩ => List.mem_filter.mpr ⟨hb, by
    have : b ≠ a := fun e' => by subst e'; rw [ho] at e; cases e; exact hn _ _ hd
    simpa using this⟩
  refine ⟨R.tbok, R.kind, S', ?_, R.ns, R.tabex, fun b hb => R.notab b (hsubX b hb), fun b hb => R.disj b (hsubX b hb), R.apart, R.held, ?_, ?_, ?_⟩
  · obtain ⟨m, oL, es, ep, e1, e2, _⟩ := R.ns
    exact stay _ R.mine ⟨oL, e1, by rw [e2]; nofun⟩
  · intro x hx
    rcases R.home x hx with h | ⟨h1, c, h2, h3, v, oc, e1, e2⟩
    · exact .inl h
    · exact .inr ⟨h1, c, h2, stay c h3 ⟨oc, e1, by rw [e2]; nofun⟩, v, oc, e1, e2⟩
  · intro q hq mv hm
    by_cases hqp : q.2 = p.2
    · have := nodup_slot R.tbok hq hp hqp
      subst this
      cases getElem?_set_some hm
      exact ⟨_, hv, _, .list hlist' hcls hd (ReadsAll.keeps hsub hr)⟩
    · rw [getElem?_set_ne _ _ _ _ (Ne.symm hqp)] at hm
      obtain ⟨w, h1, h2⟩ := R.vars q hq mv hm
      refine ⟨w, h1, ?_⟩
      cases mv with
      | dat d => obtain ⟨as', r⟩ := h2; exact ⟨as', Reads.keeps hsub r⟩
      | rng i j => obtain ⟨ok, r, t, u, z, e, hr'⟩ := h2; exact ⟨ok, r, t, u, z, e, hsub _ _ hr'⟩
      | own l' =>
        obtain ⟨a', vs', as', rfl, ha', hl', hr'⟩ := h2
        refine ⟨a', vs', as', rfl, List.mem_filter.mpr ⟨ha', ?_⟩, hl', ReadsAll.keeps hsub hr'⟩
        have : a' ≠ a := fun e => by subst e; exact R.owns q hq p hp hqp l' l a' hm hl h1 hv
        simpa using this
  · intro q hq r hr' hn l1 l2 b h1 h2 h3 h4
    have hq' : q.2 ≠ p.2 := fun e => by
      have := nodup_slot R.tbok hq hp e
      subst this
      cases getElem?_set_some h1
    have hr2 : r.2 ≠ p.2 := fun e => by
      have := nodup_slot R.tbok hr' hp e
      subst this
      cases getElem?_set_some h2
    rw [getElem?_set_ne _ _ _ _ (Ne.symm hq')] at h1
    rw [getElem?_set_ne _ _ _ _ (Ne.symm hr2)] at h2
    exact R.owns q hq r hr' hn l1 l2 b h1 h2 h3 h4

/-- fewer things told -/
theorem Rel.fewer (R : Rel C env tb wr ex X loc s) {loc' : Loc} (h : ∀ p ∈ tb, ∀ mv, loc'[p.2]? = some (some mv) → loc[p.2]? = some (some mv)) : Rel C env tb wr ex X loc' s :=
  ⟨R.tbok, R.kind, R.st, R.mine, R.ns, R.tabex, R.notab, R.disj, R.apart, R.held, R.home, fun p hp mv hm => R.vars p hp mv (h p hp _ hm),
    fun p hp q hq hn l l' a h1 h2 => R.owns p hp q hq hn l l' a (h p hp _ h1) (h q hq _ h2)⟩
/-- slots that the table does not name -/
theorem Rel.other (R : Rel C env tb wr ex X loc s) {loc' : Loc} (h : ∀ p ∈ tb, loc'[p.2]? = loc[p.2]?) : Rel C env tb wr ex X loc' s :=
  R.fewer fun p hp mv hm => by rw [← h p hp]; exact hm

theorem Rel.frz (R : Rel C env tb wr ex X loc s) (is : List Nat) : ∃ X', (∀ a ∈ X', a ∈ X) ∧ Rel C env tb wr ex X' (Mine.frz is loc) s := by
  induction is generalizing loc X with
  | nil => exact ⟨X, fun _ h => h, R⟩
  | cons i r ih =>
    show ∃ X', _ ∧ Rel C env tb wr ex X' (Mine.frz r ((MV.at MV.own? loc i).elim loc _)) s
    cases hl : MV.at MV.own? loc i with
    | none => exact ih R
    | some l =>
      have hl := ownAt_inv hl
      by_cases hx : ∃ p ∈ tb, p.2 = i
      · obtain ⟨p, hp, rfl⟩ := hx
        obtain ⟨X1, h1, R1⟩ := R.show1 hp hl
        obtain ⟨X2, h2, R2⟩ := ih R1
        exact ⟨X2, fun a ha => h1 a (h2 a ha), R2⟩
      · exact ih (R.other fun p hp => getElem?_set_ne _ _ _ _ fun e => hx ⟨p, hp, e.symm⟩)

/-- a change of hidden things that are no names -/
theorem Rel.out (R : Rel C env tb wr ex X loc s) {Y : List Addr} (G : Grow C Y s s') (S : St C (X ++ ex) s') (hY : ∀ a ∈ Y, a ∈ ex ∧ ∀ o, s.heap.get? a = some o → (∀ es ep, o.data ≠ .dict es ep) ∧ ∀ v, o.data ≠ .cell v) : Rel C env tb wr ex X loc s' := by
  have ko : ∀ b o, s.heap.get? b = some o → (∀ ps, o.data ≠ .fields ps) → b ∉ Y → s'.heap.get? b = some o := fun b o e hd hb => G.keep b o hb (tab_ne R.st e hd) e
  have hold : ∀ {x v}, Holds env s.heap x v → Holds env s'.heap x v := fun h => by
    rcases h with ⟨k1, m, ⟨o, es, ep, e1, e2, e3⟩, e⟩ | ⟨k1, c, l, ⟨o, e1, e2⟩⟩
    · exact .inl ⟨k1, m, ⟨o, es, ep, ko _ _ e1 (by rw [e2]; nofun) (fun hy => ((hY _ hy).2 _ e1).1 _ _ e2), e2, e3⟩, e⟩
    · exact .inr ⟨k1, c, l, ⟨o, ko _ _ e1 (by rw [e2]; nofun) (fun hy => ((hY _ hy).2 _ e1).2 _ e2), e2⟩⟩
  have back : ∀ {x v}, Holds env s'.heap x v → ∀ w, Holds env s.heap x w → w = v := fun h w h' => (hold h').inj h
  have hfz : Sub (Fz s.heap (X ++ ex)) (Fz s'.heap (X ++ ex)) := G.fz (fun a ha => List.mem_append_right _ (hY a ha).1) R.st.tabx
  refine ⟨R.tbok, R.kind, S, R.mine, ?_, R.tabex, R.notab, R.disj, R.apart, fun x c e => let ⟨v, o, e1, e2⟩ := R.held x c e; ⟨v, o, ko _ _ e1 (by rw [e2]; nofun) (fun hy => ((hY _ hy).2 _ e1).2 _ e2), e2⟩, ?_, ?_, ?_⟩
  · obtain ⟨m, o, es, ep, e1, e2, e3⟩ := R.ns
    exact ⟨m, o, es, ep, ko _ _ e1 (by rw [e2]; nofun) (fun hy => R.disj _ R.mine (hY _ hy).1), e2, e3⟩
  · intro x hx
    rcases R.home x hx with h | ⟨h1, c, h2, h3, v, o, e1, e2⟩
    · exact .inl h
    · exact .inr ⟨h1, c, h2, h3, v, o, ko _ _ e1 (by rw [e2]; nofun) (fun hy => R.disj _ h3 (hY _ hy).1), e2⟩
  · intro p hp mv hm
    obtain ⟨v, h1, h2⟩ := R.vars p hp mv hm
    refine ⟨v, hold h1, h2.up hfz (fun _ h => h) fun a o ha e ⟨vs, n, hd⟩ => ko a o e (by rw [hd]; nofun) (fun hy => R.disj _ ha (hY _ hy).1)⟩
  · intro p hp q hq hn l l' a h1 h2 h3 h4
    obtain ⟨v, g1, a1, _, _, rfl, _⟩ := R.vars p hp _ h1
    obtain ⟨w, g2, a2, _, _, rfl, _⟩ := R.vars q hq _ h2
    have e1 := back h3 _ g1
    have e2 := back h4 _ g2
    cases e1; cases e2
    exact R.owns p hp q hq hn l l' a h1 h2 g1 g2
end
end Mine

-- M9
namespace Mine
open PySem PySem.Spec PySem.Calls PyProof.Rows PySem.W

/-! ## expressions -/
structure EnvOk (env : Env) (c : CC) : Prop where
  glob : env.globals = mainGlobals
  bi : env.builtins = builtinsNs
  kinds : ∀ x k, c.sc.names.lookup x = some k → env.kindOf x = some k ∨ (k = .free ∧ env.kindOf x = some .cell)
  cells : ∀ x, env.kindOf x = some .cell ∨ env.kindOf x = some .free → ∃ a, env.cells.lookup x = some a

noncomputable def biNames : List Str := ["len", "sum", "min", "max", "divmod", "isinstance", "list", "range", "reversed", "int", "bool"]
structure Ok (C : Cx) (k : Nat) (F : Orc) (c : CC) : Prop where
  orc : ∀ i x, c.fns[i]? = some x → ∀ args r, F i args = some r → (∃ d ∈ C.defs, d.name = x) ∧ ∀ a, C.mg x = some (.ref a) → CallsTo C k (.ref a) args r
  bi : ∀ n ∈ biNames, C.mg n = none
  nolist : ∀ i : Nat, c.fns[i]? ≠ some "list"
  const : ∀ x d, c.consts.lookup x = some d → ∃ v, C.mg x = some v ∧ ∀ h : Heap, Reads h v d []
theorem Ok.other {C : Cx} {k : Nat} {F : Orc} {c c' : CC} (O : Ok C k F c) (h1 : c'.fns = c.fns) (h2 : c'.consts = c.consts) : Ok C k F c' := ⟨h1 ▸ O.orc, O.bi, h1 ▸ O.nolist, h2 ▸ O.const⟩

theorem boot_all : (biNames.all fun n => bootBuiltins n == some (match n with
  | n => if n == ("list" : Str) then Value.type "list" else if n == ("range" : Str) then Value.type "range" else if n == ("reversed" : Str) then Value.type "reversed" else if n == ("int" : Str) then Value.type "int" else if n == ("bool" : Str) then Value.type "bool"
    else if n == ("len" : Str) then .builtin "len" else if n == ("sum" : Str) then .builtin "sum" else if n == ("min" : Str) then .builtin "min" else if n == ("max" : Str) then .builtin "max" else if n == ("divmod" : Str) then .builtin "divmod" else .builtin "isinstance")) = true := by decide +kernel

section
variable {C : Cx} {env : Env} {c : CC} {wr : List Str} {ex X : List Addr} {loc : Loc} {s : Shared} {A : Around} {E : Value → Shared → Prop} {k : Nat} {F : Orc}

/-- what we say of an expression -/
noncomputable def SE (C : Cx) (F : Orc) (k : Nat) (c : CC) (e : Expr) (m : ME) : Prop :=
  ∀ (env : Env) (wr : List Str) (ex X : List Addr) (loc : Loc) (s : Shared) (A : Around) (Q E : Value → Shared → Prop) (d : PyData),
    EnvOk env c → Room A k → Rel C env c.tb wr ex X loc s → evE F loc m = some d → Give C (X ++ ex) s d Q → wpAny C.M A (eval e env) Q E s
/-- and where it is a test -/
noncomputable def ST (C : Cx) (F : Orc) (k : Nat) (c : CC) (e : Expr) (m : ME) : Prop :=
  ∀ (env : Env) (wr : List Str) (ex X : List Addr) (loc : Loc) (s : Shared) (A : Around) (Q : Bool → Shared → Prop) (E : Value → Shared → Prop) (d : PyData),
    EnvOk env c → Room A k → Rel C env c.tb wr ex X loc s → evE F loc m = some d → smallV d = true → (∀ s', Grow C [] s s' → St C (X ++ ex) s' → Q (truthV d) s') →
    wpAny C.M A (isTrue e env (eval e env)) Q E s
/-- a list of them -/
noncomputable def SEs (C : Cx) (F : Orc) (k : Nat) (c : CC) (es : List Expr) (ms : List ME) : Prop :=
  ∀ (env : Env) (wr : List Str) (ex X : List Addr) (loc : Loc) (s : Shared) (A : Around) (pos : Pos) (Q : List Value → Shared → Prop) (E : Value → Shared → Prop) (ds : List PyData),
    EnvOk env c → Room A k → Rel C env c.tb wr ex X loc s → evEs F loc ms = some ds →
    (∀ vs as s', Grow C [] s s' → St C (X ++ ex) s' → ReadsAll (Fz s'.heap (X ++ ex)) vs ds as → Q vs s') →
    wpAny C.M A (spliced (backTo pos (starEach es env))) Q E s

theorem Give.go {r : PyData} {Q Q' : Value → Shared → Prop} {ex : List Addr} {s s' : Shared} (G : Give C ex s r Q) (g : Grow C [] s s') (h : ∀ v s'', Q v s'' → Q' v s'') : Give C ex s' r Q' :=
  fun v as s'' g' S R => h v s'' (G v as s'' (g.trans' g') S R)

theorem glob_name {x : Str} {pos : Pos} {v : Value} {Q : Value → Shared → Prop} (EO : EnvOk env c) (R : Rel C env c.tb wr ex X loc s) (hx : isGlob c x = true) (hd : x ≠ "__debug__") (hv : C.mg x = some v) (h : Q v s) :
    wpAny C.M A (eval (.Name x pos) env) Q E s := by
  unfold isGlob at hx
  simp only [Bool.and_eq_true, beq_iff_eq] at hx
  have hk : env.kindOf x = some .globalImplicit := by
    rcases EO.kinds _ _ hx.2 with h | ⟨h, _⟩
    · exact h
    · cases h
  exact Name_function_global R.kind hk (loadGlobal_global (mg := C.mg) (by rw [EO.glob]; exact R.st.gd.g.keeps fz_sub) hv h) (by simpa using hd)
theorem bi_name {x : Str} {pos : Pos} {v : Value} {Q : Value → Shared → Prop} (EO : EnvOk env c) (R : Rel C env c.tb wr ex X loc s) (hx : isGlob c x = true) (hd : x ≠ "__debug__") (hn : x ≠ "__name__") (hm : C.mg x = none) (hv : bootBuiltins x = some v) (h : Q v s) :
    wpAny C.M A (eval (.Name x pos) env) Q E s := by
  unfold isGlob at hx
  simp only [Bool.and_eq_true, beq_iff_eq] at hx
  have hk : env.kindOf x = some .globalImplicit := by
    rcases EO.kinds _ _ hx.2 with h | ⟨h, _⟩
    · exact h
    · cases h
  exact Name_function_global R.kind hk (loadGlobal_builtin (mg := C.mg) (mb := C.mb) (by rw [EO.glob]; exact R.st.gd.g.keeps fz_sub) hm (by rw [EO.bi]; exact R.st.gd.b.keeps fz_sub) ((R.st.gd.builtins x hn).trans hv) h) (by simpa using hd)

theorem se_lit_int {i : Int} {kk : Nat} {pos : Pos} : SE C F k c (.Constant (.int i) kk pos) (.lit (.int i)) := fun env wr ex X loc s A Q E d _ _ R he G => by
  cases Option.some.inj he
  exact wpAny_Constant_int (G.int R.st _ _)
theorem se_lit_str {x : Str} {kk : Nat} {pos : Pos} : SE C F k c (.Constant (.str x) kk pos) (.lit (.str x)) := fun env wr ex X loc s A Q E d _ _ R he G => by
  cases Option.some.inj he
  exact Constant_str (G.str R.st _ _)
theorem se_lit_bool {b : Bool} {kk : Nat} {pos : Pos} : SE C F k c (.Constant (.bool b) kk pos) (.lit (.bool b)) := fun env wr ex X loc s A Q E d _ _ R he G => by
  cases Option.some.inj he
  exact wpAny_pure (G.bool0 R.st)
theorem se_lit_none {kk : Nat} {pos : Pos} : SE C F k c (.Constant .none kk pos) (.lit .none) := fun env wr ex X loc s A Q E d _ _ R he G => by
  cases Option.some.inj he
  exact wpAny_pure (G.none0 R.st)
theorem se_const {x : Str} {pos : Pos} {d : PyData} (O : Ok C k F c) (hx : isGlob c x = true) (hd : x ≠ "__debug__") (hc : c.consts.lookup x = some d) : SE C F k c (.Name x pos) (.lit d) := fun env wr ex X loc s A Q E d' EO _ R he G => by
  cases Option.some.inj he
  obtain ⟨v, hv, hr⟩ := O.const x d hc
  exact glob_name EO R hx hd hv (G.here R.st (hr _))
theorem se_var {x : Str} {i : Nat} {pos : Pos} (hx : c.tb.lookup x = some i) : SE C F k c (.Name x pos) (.var i) := fun env wr ex X loc s A Q E d _ _ R he G => by
  have h := datAt_inv he
  obtain ⟨v, hv, as, r⟩ := R.vars _ (mem_lookup hx) _ h
  have hn := R.tbok.names _ (mem_lookup hx)
  exact wpAny_Name (load_ok R.kind hn.1 hv (G.here R.st r)) (by simpa using hn.2)

theorem se_bin {l r : Expr} {a b : ME} {op : Operator} {pos : Pos} (ha : SE C F k c l a) (hb : SE C F k c r b) : SE C F k c (.BinOp l op r pos) (.bin op a b) := fun env wr ex X loc s A Q E d EO RM R he G => by
  refine bindE he fun x hx he => ?_
  refine bindE he fun y hy he => ?_
  refine wpAny_BinOp (ha env wr ex X loc s A _ E x EO RM R hx fun v as s₁ g₁ S₁ r₁ => ?_)
  refine hb env wr ex X loc s₁ A _ E y EO RM (R.grow g₁ S₁) hy fun w bs s₂ g₂ S₂ r₂ => ?_
  exact bin_ok S₂ he (Reads.keeps (g₂.fz (fun _ h => nomatch h) S₁.tabx) r₁) r₂ (G.grow (g₁.trans' g₂))

theorem eval_UnaryOp (op : UnaryOp) (x : Expr) (pos : Pos) (env : Env) : eval (.UnaryOp op x pos) env = (do let v ← eval x env; standAt pos; holding [v] (unaryOp op v)) := rfl
theorem se_un {x : Expr} {a : ME} {op : UnaryOp} {pos : Pos} (ha : SE C F k c x a) : SE C F k c (.UnaryOp op x pos) (.un op a) := fun env wr ex X loc s A Q E d EO RM R he G => by
  refine bindE he fun y hy he => ?_
  rw [eval_UnaryOp]
  refine wpAny_bind (ha env wr ex X loc s A _ E y EO RM R hy fun v as s₁ g₁ S₁ r₁ => ?_)
  exact wpAny_bind (wpAny_standAt (wpAny_holding (un_ok S₁ he r₁ (G.grow g₁))))

theorem eval_BoolOp (op : BoolOp) (vs : List Expr) (pos : Pos) (env : Env) : eval (.BoolOp op vs pos) env = boolOp pos op (evalEach vs env) := rfl
theorem se_bool1 {x : Expr} {a : ME} {op : BoolOp} {pos : Pos} (ha : SE C F k c x a) : SE C F k c (.BoolOp op [x] pos) a := fun env wr ex X loc s A Q E d EO RM R he G => by
  rw [eval_BoolOp]
  exact ha env wr ex X loc s A Q E d EO RM R he G
theorem se_and {x y : Expr} {r : List Expr} {a b : ME} {pos : Pos} (ha : SE C F k c x a) (hb : SE C F k c (.BoolOp .And (y :: r) pos) b) : SE C F k c (.BoolOp .And (x :: y :: r) pos) (.andE a b) := fun env wr ex X loc s A Q E d EO RM R he G => by
  refine bindE he fun u hu he => ?_
  rw [eval_BoolOp]
  show wpAny _ _ (eval x env >>= fun v => standAt pos >>= fun _ => holding [v] (truthy v) >>= fun t => match BoolOp.And, t with
    | .And, false | .Or, true => pure v
    | _, _ => boolOp pos .And (evalEach (y :: r) env)) _ _ _
  refine wpAny_bind (ha env wr ex X loc s A _ E u EO RM R hu fun v as s₁ g₁ S₁ r₁ => ?_)
  refine wpAny_bind (wpAny_standAt ?_)
  split at he
  · rename_i hs
    refine wpAny_bind (wpAny_holding (truth_ok S₁ r₁ hs fun tk => ?_))
    cases ht : truthV u with
    | false =>
      rw [ht] at he; simp only [Bool.false_eq_true, if_false] at he; cases he
      exact wpAny_pure (G _ _ _ (g₁.trans' Grow.toks) (S₁.toks tk) r₁)
    | true =>
      rw [ht] at he; simp only [if_true] at he
      exact hb env wr ex X loc _ A Q E d EO RM ((R.grow g₁ S₁).toks tk) he (G.grow (g₁.trans' Grow.toks))
  · cases he
theorem se_or {x y : Expr} {r : List Expr} {a b : ME} {pos : Pos} (ha : SE C F k c x a) (hb : SE C F k c (.BoolOp .Or (y :: r) pos) b) : SE C F k c (.BoolOp .Or (x :: y :: r) pos) (.orE a b) := fun env wr ex X loc s A Q E d EO RM R he G => by
  refine bindE he fun u hu he => ?_
  rw [eval_BoolOp]
  show wpAny _ _ (eval x env >>= fun v => standAt pos >>= fun _ => holding [v] (truthy v) >>= fun t => match BoolOp.Or, t with
    | .And, false | .Or, true => pure v
    | _, _ => boolOp pos .Or (evalEach (y :: r) env)) _ _ _
  refine wpAny_bind (ha env wr ex X loc s A _ E u EO RM R hu fun v as s₁ g₁ S₁ r₁ => ?_)
  refine wpAny_bind (wpAny_standAt ?_)
  split at he
  · rename_i hs
    refine wpAny_bind (wpAny_holding (truth_ok S₁ r₁ hs fun tk => ?_))
    cases ht : truthV u with
    | true =>
      rw [ht] at he; simp only [if_true] at he; cases he
      exact wpAny_pure (G _ _ _ (g₁.trans' Grow.toks) (S₁.toks tk) r₁)
    | false =>
      rw [ht] at he; simp only [Bool.false_eq_true, if_false] at he
      exact hb env wr ex X loc _ A Q E d EO RM ((R.grow g₁ S₁).toks tk) he (G.grow (g₁.trans' Grow.toks))
  · cases he

theorem marks_off {op : CmpOp} {e : Expr} (h : cmpOk op = true) : behindInMarks op e = false := by
  unfold behindInMarks
  cases e <;> try rfl
  cases op <;> first | (show (_ && false && _) = false; simp; done) | cases h
theorem se_cmp {l r : Expr} {a b : ME} {op : CmpOp} {pos : Pos} (ho : behindInMarks op r = false) (ha : SE C F k c l a) (hb : SE C F k c r b) : SE C F k c (.Compare l [op] [r] pos) (.cmp op a b) := fun env wr ex X loc s A Q E d EO RM R he G => by
  refine bindE he fun x hx he => ?_
  refine bindE he fun y hy he => ?_
  obtain ⟨t, ht, rfl⟩ := Option.map_eq_some_iff.mp he
  refine wpAny_Compare1 (ha env wr ex X loc s A _ E x EO RM R hx fun v as s₁ g₁ S₁ r₁ => ?_) ho
  refine hb env wr ex X loc s₁ A _ E y EO RM (R.grow g₁ S₁) hy fun w bs s₂ g₂ S₂ r₂ => ?_
  exact cmp_ok S₂ (by have := RM.units; omega) ht (Reads.keeps (g₂.fz (fun _ h => nomatch h) S₁.tabx) r₁) r₂ (G.grow (g₁.trans' g₂))

theorem wpAny_release {M : Model} {vs keep : List Value} {Q : Unit → Shared → Prop} (h : Q () s) : wpAny M A (release vs keep) Q E s := fun Γ p _ => by rw [Sem.wp_release]; exact h

theorem eval_Compare2 (l m r : Expr) (o1 o2 : CmpOp) (pos : Pos) (env : Env) (h2 : cmpOk o2 = true) : eval (.Compare l [o1, o2] [m, r] pos) env =
    (do let lv ← eval l env; compareChain pos lv [o1, o2] [eval m env, eval r env]) := by
  have e : eval (.Compare l [o1, o2] [m, r] pos) env = (do compareChain pos (← eval l env) [o1, o2] [eval m env, markedBehindIn o2 r (eval r env)]) := rfl
  rw [e, markedBehindIn_of_false (marks_off h2)]
theorem se_cmp2 {l m r : Expr} {a b d : ME} {o1 o2 : CmpOp} {pos : Pos} (h2 : cmpOk o2 = true) (ha : SE C F k c l a) (hb : SE C F k c m b) (hd : SE C F k c r d) : SE C F k c (.Compare l [o1, o2] [m, r] pos) (.cmp2 o1 o2 a b d) := fun env wr ex X loc s A Q E dd EO RM R he G => by
  refine bindE he fun x hx he => ?_
  refine bindE he fun y hy he => ?_
  refine bindE he fun t ht he => ?_
  rw [eval_Compare2 _ _ _ _ _ _ _ h2]
  refine wpAny_bind (ha env wr ex X loc s A _ E x EO RM R hx fun v as s₁ g₁ S₁ r₁ => ?_)
  show wpAny _ _ (holding [v] (eval m env) >>= fun rv => standAt pos >>= fun _ => holding [v, rv] (compareOp o1 v rv) >>= fun cc => release [v, rv] [cc] >>= fun _ => holding [cc, rv] (truthy cc) >>= fun b => if b then compareChain pos rv [o2] [eval r env] else pure cc) _ _ _
  refine wpAny_bind (wpAny_holding (hb env wr ex X loc s₁ A _ E y EO RM (R.grow g₁ S₁) hy fun w bs s₂ g₂ S₂ r₂ => ?_))
  refine wpAny_bind (wpAny_standAt (wpAny_bind (wpAny_holding ?_)))
  refine cmp_ok S₂ (by have := RM.units; omega) ht (Reads.keeps (g₂.fz (fun _ h => nomatch h) S₁.tabx) r₁) r₂ fun v3 as3 s₃ g₃ S₃ r₃ => ?_
  obtain rfl := inv_bool r₃
  refine wpAny_bind (wpAny_release (wpAny_bind (wpAny_holding (wpAny_truthy_bool ?_))))
  cases t with
  | false =>
    simp only [Bool.false_eq_true, if_false] at he ⊢; cases he
    exact wpAny_pure (G _ _ _ ((g₁.trans' g₂).trans' g₃) S₃ r₃)
  | true =>
    simp only [if_true] at he ⊢
    refine bindE he fun z hz he => ?_
    obtain ⟨t', ht', rfl⟩ := Option.map_eq_some_iff.mp he
    show wpAny _ _ (holding [w] (eval r env) >>= fun rv => standAt pos >>= fun _ => operate [w, rv] (compareOp o2 w rv)) _ _ _
    refine wpAny_bind (wpAny_holding (hd env wr ex X loc s₃ A _ E z EO RM ((R.grow g₁ S₁).grow (g₂.trans' g₃) S₃) hz fun u cs s₄ g₄ S₄ r₄ => ?_))
    refine wpAny_bind (wpAny_standAt (wpAny_operating ?_))
    exact cmp_ok S₄ (by have := RM.units; omega) ht' (Reads.keeps ((g₃.trans' g₄).fz (fun _ h => nomatch h) S₂.tabx) r₂) r₄ (G.grow (((g₁.trans' g₂).trans' g₃).trans' g₄))

theorem eval_IfExp (t b o : Expr) (pos : Pos) (env : Env) : eval (.IfExp t b o pos) env = (do if ← isTrue t env (eval t env) then eval b env else eval o env) := rfl
theorem se_ite {t b o : Expr} {x y z : ME} {pos : Pos} (hx : ST C F k c t x) (hy : SE C F k c b y) (hz : SE C F k c o z) : SE C F k c (.IfExp t b o pos) (.ite x y z) := fun env wr ex X loc s A Q E d EO RM R he G => by
  refine bindE he fun u hu he => ?_
  rw [eval_IfExp]
  split at he
  · rename_i hs
    refine wpAny_bind (hx env wr ex X loc s A _ E u EO RM R hu hs fun s₁ g₁ S₁ => ?_)
    cases ht : truthV u with
    | true => rw [ht] at he; simp only [if_true] at he ⊢; exact hy env wr ex X loc s₁ A Q E d EO RM (R.grow g₁ S₁) he (G.grow g₁)
    | false => rw [ht] at he; simp only [Bool.false_eq_true, if_false] at he ⊢; exact hz env wr ex X loc s₁ A Q E d EO RM (R.grow g₁ S₁) he (G.grow g₁)
  · cases he

/-! tests -/
noncomputable def plainTest : Expr → Bool
  | .UnaryOp .Not _ _ => false
  | .BoolOp .. => false
  | .IfExp .. => false
  | .Compare .. => false
  | _ => true
theorem isTrue_of_plain {e : Expr} {env : Env} {whole : Sem Value} (h : plainTest e = true) : isTrue e env whole = (do let v ← whole; standAt e.pos; holding [v] (truthy v)) := by
  cases e with
  | UnaryOp op x p => cases op <;> first | rfl | cases h
  | BoolOp => cases h
  | IfExp => cases h
  | Compare => cases h
  | _ => rfl
theorem st_plain {e : Expr} {m : ME} (h : plainTest e = true) (he : SE C F k c e m) : ST C F k c e m := fun env wr ex X loc s A Q E d EO RM R hd hs hQ => by
  rw [isTrue_of_plain h]
  refine wpAny_bind (he env wr ex X loc s A _ E d EO RM R hd fun v as s₁ g₁ S₁ r₁ => ?_)
  exact wpAny_bind (wpAny_standAt (wpAny_holding (truth_ok S₁ r₁ hs fun tk => hQ _ (g₁.trans' Grow.toks) (S₁.toks tk))))
theorem isTrue_Not (x : Expr) (pos : Pos) (env : Env) (w : Sem Value) : isTrue (.UnaryOp .Not x pos) env w = (do return !(← isTrue x env (eval x env))) := rfl
theorem st_not {x : Expr} {a : ME} {pos : Pos} (ha : ST C F k c x a) : ST C F k c (.UnaryOp .Not x pos) (.un .Not a) := fun env wr ex X loc s A Q E d EO RM R he hs hQ => by
  refine bindE he fun y hy he => ?_
  rw [isTrue_Not]
  have hy' : smallV y = true ∧ d = .bool (!truthV y) := by
    unfold unV at he
    cases y <;> simp at he <;> simp_all
  obtain ⟨h1, rfl⟩ := hy'
  exact wpAny_bind (ha env wr ex X loc s A _ E y EO RM R hy h1 fun s₁ g₁ S₁ => wpAny_pure (hQ s₁ g₁ S₁))
theorem isTrue_BoolOp (op : BoolOp) (vs : List Expr) (pos : Pos) (env : Env) (w : Sem Value) : isTrue (.BoolOp op vs pos) env w = allTrue op vs env := rfl
theorem st_bool1 {x : Expr} {a : ME} {op : BoolOp} {pos : Pos} (ha : ST C F k c x a) : ST C F k c (.BoolOp op [x] pos) a := fun env wr ex X loc s A Q E d EO RM R he hs hQ => by
  rw [isTrue_BoolOp]
  show wpAny _ _ (isTrue x env (eval x env) >>= fun t => match op, t with
    | .And, false => pure false
    | .Or, true => pure true
    | _, _ => allTrue op [] env) _ _ _
  refine wpAny_bind (ha env wr ex X loc s A _ E d EO RM R he hs fun s₁ g₁ S₁ => ?_)
  have := hQ s₁ g₁ S₁
  cases op <;> cases ht : truthV d <;> rw [ht] at this <;> exact wpAny_pure this
theorem st_and {x y : Expr} {r : List Expr} {a b : ME} {pos : Pos} (ha : ST C F k c x a) (hb : ST C F k c (.BoolOp .And (y :: r) pos) b) : ST C F k c (.BoolOp .And (x :: y :: r) pos) (.andE a b) := fun env wr ex X loc s A Q E d EO RM R he hs hQ => by
  refine bindE he fun u hu he => ?_
  rw [isTrue_BoolOp]
  show wpAny _ _ (isTrue x env (eval x env) >>= fun t => match BoolOp.And, t with
    | .And, false => pure false
    | .Or, true => pure true
    | _, _ => allTrue .And (y :: r) env) _ _ _
  split at he
  · rename_i hsu
    refine wpAny_bind (ha env wr ex X loc s A _ E u EO RM R hu hsu fun s₁ g₁ S₁ => ?_)
    cases ht : truthV u with
    | false =>
      rw [ht] at he; simp only [Bool.false_eq_true, if_false] at he; cases he
      have := hQ s₁ g₁ S₁
      rw [ht] at this
      exact wpAny_pure this
    | true =>
      rw [ht] at he; simp only [if_true] at he
      have := hb env wr ex X loc s₁ A Q E d EO RM (R.grow g₁ S₁) he hs fun s₂ g₂ S₂ => hQ s₂ (g₁.trans' g₂) S₂
      exact this
  · cases he
theorem st_or {x y : Expr} {r : List Expr} {a b : ME} {pos : Pos} (ha : ST C F k c x a) (hb : ST C F k c (.BoolOp .Or (y :: r) pos) b) : ST C F k c (.BoolOp .Or (x :: y :: r) pos) (.orE a b) := fun env wr ex X loc s A Q E d EO RM R he hs hQ => by
  refine bindE he fun u hu he => ?_
  rw [isTrue_BoolOp]
  show wpAny _ _ (isTrue x env (eval x env) >>= fun t => match BoolOp.Or, t with
    | .And, false => pure false
    | .Or, true => pure true
    | _, _ => allTrue .Or (y :: r) env) _ _ _
  split at he
  · rename_i hsu
    refine wpAny_bind (ha env wr ex X loc s A _ E u EO RM R hu hsu fun s₁ g₁ S₁ => ?_)
    cases ht : truthV u with
    | true =>
      rw [ht] at he; simp only [if_true] at he; cases he
      have := hQ s₁ g₁ S₁
      rw [ht] at this
      exact wpAny_pure this
    | false =>
      rw [ht] at he; simp only [Bool.false_eq_true, if_false] at he
      have := hb env wr ex X loc s₁ A Q E d EO RM (R.grow g₁ S₁) he hs fun s₂ g₂ S₂ => hQ s₂ (g₁.trans' g₂) S₂
      exact this
  · cases he
theorem st_ite {t b o : Expr} {x y z : ME} {pos : Pos} (hx : ST C F k c t x) (hy : ST C F k c b y) (hz : ST C F k c o z) : ST C F k c (.IfExp t b o pos) (.ite x y z) := fun env wr ex X loc s A Q E d EO RM R he hs hQ => by
  refine bindE he fun u hu he => ?_
  split at he
  · rename_i hsu
    refine isTrue_IfExp (hx env wr ex X loc s A _ E u EO RM R hu hsu fun s₁ g₁ S₁ => ?_)
    cases ht : truthV u with
    | true => rw [ht] at he; simp only [if_true] at he ⊢; exact hy env wr ex X loc s₁ A Q E d EO RM (R.grow g₁ S₁) he hs fun s₂ g₂ S₂ => hQ s₂ (g₁.trans' g₂) S₂
    | false => rw [ht] at he; simp only [Bool.false_eq_true, if_false] at he ⊢; exact hz env wr ex X loc s₁ A Q E d EO RM (R.grow g₁ S₁) he hs fun s₂ g₂ S₂ => hQ s₂ (g₁.trans' g₂) S₂
  · cases he
theorem st_cmp {l r : Expr} {a b : ME} {op : CmpOp} {pos : Pos} (ho : behindInMarks op r = false) (ha : SE C F k c l a) (hb : SE C F k c r b) : ST C F k c (.Compare l [op] [r] pos) (.cmp op a b) := fun env wr ex X loc s A Q E d EO RM R he hs hQ => by
  refine bindE he fun x hx he => ?_
  refine bindE he fun y hy he => ?_
  obtain ⟨t, ht, rfl⟩ := Option.map_eq_some_iff.mp he
  refine wpAny_isTrue_Compare1 (ha env wr ex X loc s A _ E x EO RM R hx fun v as s₁ g₁ S₁ r₁ => ?_) ho
  refine hb env wr ex X loc s₁ A _ E y EO RM (R.grow g₁ S₁) hy fun w bs s₂ g₂ S₂ r₂ => ?_
  refine cmp_ok S₂ (by have := RM.units; omega) ht (Reads.keeps (g₂.fz (fun _ h => nomatch h) S₁.tabx) r₁) r₂ fun v3 as3 s₃ g₃ S₃ r₃ => ?_
  obtain rfl := inv_bool r₃
  exact wpAny_truthy_bool (hQ _ ((g₁.trans' g₂).trans' g₃) S₃)
theorem isTrue_Compare2 (l m r : Expr) (o1 o2 : CmpOp) (pos : Pos) (env : Env) (w : Sem Value) (h2 : cmpOk o2 = true) : isTrue (.Compare l [o1, o2] [m, r] pos) env w =
    (do let lv ← eval l env; testChain pos lv [o1, o2] [eval m env, eval r env]) := by
  have e : isTrue (.Compare l [o1, o2] [m, r] pos) env w = (do testChain pos (← eval l env) [o1, o2] [eval m env, markedBehindIn o2 r (eval r env)]) := rfl
  rw [e, markedBehindIn_of_false (marks_off h2)]
theorem st_cmp2 {l m r : Expr} {a b d : ME} {o1 o2 : CmpOp} {pos : Pos} (h2 : cmpOk o2 = true) (ha : SE C F k c l a) (hb : SE C F k c m b) (hd : SE C F k c r d) : ST C F k c (.Compare l [o1, o2] [m, r] pos) (.cmp2 o1 o2 a b d) := fun env wr ex X loc s A Q E dd EO RM R he hs hQ => by
  refine bindE he fun x hx he => ?_
  refine bindE he fun y hy he => ?_
  refine bindE he fun t ht he => ?_
  rw [isTrue_Compare2 _ _ _ _ _ _ _ _ h2]
  refine wpAny_bind (ha env wr ex X loc s A _ E x EO RM R hx fun v as s₁ g₁ S₁ r₁ => ?_)
  show wpAny _ _ (holding [v] (eval m env) >>= fun rv => standAt pos >>= fun _ => holding [v, rv] (compareOp o1 v rv) >>= fun cc => release [v, rv] [cc] >>= fun _ => holding [cc, rv] (truthy cc) >>= fun b => if b then testChain pos rv [o2] [eval r env] else pure false) _ _ _
  refine wpAny_bind (wpAny_holding (hb env wr ex X loc s₁ A _ E y EO RM (R.grow g₁ S₁) hy fun w bs s₂ g₂ S₂ r₂ => ?_))
  refine wpAny_bind (wpAny_standAt (wpAny_bind (wpAny_holding ?_)))
  refine cmp_ok S₂ (by have := RM.units; omega) ht (Reads.keeps (g₂.fz (fun _ h => nomatch h) S₁.tabx) r₁) r₂ fun v3 as3 s₃ g₃ S₃ r₃ => ?_
  obtain rfl := inv_bool r₃
  refine wpAny_bind (wpAny_release (wpAny_bind (wpAny_holding (wpAny_truthy_bool ?_))))
  cases t with
  | false =>
    simp only [Bool.false_eq_true, if_false] at he ⊢; cases he
    exact wpAny_pure (hQ _ ((g₁.trans' g₂).trans' g₃) S₃)
  | true =>
    simp only [if_true] at he ⊢
    refine bindE he fun z hz he => ?_
    obtain ⟨t', ht', rfl⟩ := Option.map_eq_some_iff.mp he
    show wpAny _ _ (holding [w] (eval r env) >>= fun rv => standAt pos >>= fun _ => operate [w, rv] (compareOp o2 w rv) >>= fun cc => holding [cc] (truthy cc)) _ _ _
    refine wpAny_bind (wpAny_holding (hd env wr ex X loc s₃ A _ E z EO RM ((R.grow g₁ S₁).grow (g₂.trans' g₃) S₃) hz fun u cs s₄ g₄ S₄ r₄ => ?_))
    refine wpAny_bind (wpAny_standAt (wpAny_bind (wpAny_operating ?_)))
    refine cmp_ok S₄ (by have := RM.units; omega) ht' (Reads.keeps ((g₃.trans' g₄).fz (fun _ h => nomatch h) S₂.tabx) r₂) r₄ fun v5 as5 s₅ g₅ S₅ r₅ => ?_
    obtain rfl := inv_bool r₅
    exact wpAny_holding (wpAny_truthy_bool (hQ _ ((((g₁.trans' g₂).trans' g₃).trans' g₄).trans' g₅) S₅))

/-! lists of expressions, calls -/
theorem starEach_cons {e : Expr} {r : List Expr} {env : Env} {pos : Pos} (h : notStar e = true) : backTo pos (starEach (e :: r) env) = (false, eval e env) :: backTo pos (starEach r env) := by
  cases e <;> first | rfl | cases h
theorem ses_nil : SEs C F k c [] [] := fun env wr ex X loc s A pos Q E ds EO RM R he hQ => by
  cases Option.some.inj he
  exact spliced_nil (hQ [] [] s (Grow.refl ..) R.st .nil)
theorem ses_cons {e : Expr} {r : List Expr} {a : ME} {as : List ME} (hn : notStar e = true) (ha : SE C F k c e a) (hr : SEs C F k c r as) : SEs C F k c (e :: r) (a :: as) := fun env wr ex X loc s A pos Q E ds EO RM R he hQ => by
  refine bindE he fun d hd he => ?_
  obtain ⟨ds', hds, rfl⟩ := Option.map_eq_some_iff.mp he
  rw [starEach_cons hn]
  refine spliced_cons (ha env wr ex X loc s A _ E d EO RM R hd fun v as s₁ g₁ S₁ r₁ => ?_)
  refine hr env wr ex X loc s₁ A pos _ E ds' EO RM (R.grow g₁ S₁) hds fun vs bs s₂ g₂ S₂ r₂ => ?_
  exact hQ _ _ s₂ (g₁.trans' g₂) S₂ (.cons (Reads.keeps (g₂.fz (fun _ h => nomatch h) S₁.tabx) r₁) r₂)
theorem plain_any {es : List Expr} {env : Env} {pos : Pos} (h : es.all notStar = true) : (backTo pos (starEach es env)).any (·.1) = false := by
  induction es with
  | nil => rfl
  | cons e r ih =>
    simp only [List.all_cons, Bool.and_eq_true] at h
    rw [starEach_cons h.1, List.any_cons, ih h.2]; rfl
theorem evalArgs_all {M : Model} {f : Value} {es : List Expr} {env : Env} {pos : Pos} {Q : Args → Shared → Prop} (h : es.all notStar = true) (hs : wpAny M A (spliced (backTo pos (starEach es env))) (fun vs s' => Q ⟨vs, []⟩ s') E s) :
    wpAny M A (evalArgs f true (backTo pos (starEach es env)) []) Q E s := by
  cases es with
  | nil =>
    show wpAny M A (evalArgs f true [] []) Q E s
    have hs' : wpAny M A (spliced []) (fun vs s' => Q ⟨vs, []⟩ s') E s := hs
    unfold evalArgs
    show wpAny M A (spliced [] >>= _) Q E s
    refine wpAny_bind (wpAny_mono hs' (fun vs s' h' => ?_) fun _ _ x => x)
    exact wpAny_holding (wpAny_bind (wpAny_pure (wpAny_bind (wpAny_pure (wpAny_pure h')))))
  | cons e r =>
    simp only [List.all_cons, Bool.and_eq_true] at h
    rw [starEach_cons h.1] at hs ⊢
    exact evalArgs_plain hs

theorem se_call {x : Str} {p pos : Pos} {es : List Expr} {ms : List ME} {i : Nat} (O : Ok C k F c) (hx : isGlob c x = true) (hd : x ≠ "__debug__") (hi : c.fns[i]? = some x) (hst : es.all notStar = true) (hs : SEs C F k c es ms) :
    SE C F k c (.Call (.Name x p) es [] pos) (.call i ms) := fun env wr ex X loc s A Q E d EO RM R he G => by
  refine bindE he fun ds hds he => ?_
  obtain ⟨⟨df, hdf, rfl⟩, hcall⟩ := O.orc i _ hi ds d he
  obtain ⟨a, o, pm, code, doc, hm, ho, hdat, _⟩ := R.st.gd.fn df hdf
  refine wpAny_Call_NameR (glob_name EO R hx hd hm ?_)
  refine callWith_function (o := o) (fd := docDef df.name df.params df.body df.scope pm code doc) (evalArgs_all hst (hs env wr ex X loc s A pos _ E ds EO RM R hds fun vs as s₁ g₁ S₁ r₁ => ?_))
  refine ⟨⟨fz_sub _ _ (g₁.fz (fun _ h => nomatch h) R.st.tabx _ _ ho), hdat⟩, ?_⟩
  exact hcall a hm A s₁ (X ++ ex) vs as Q E RM S₁ r₁ fun v bs s₂ g₂ S₂ r₂ => G v bs s₂ (g₁.trans' g₂) S₂ r₂

theorem biI_ok {x : Str} {j : Nat} (h : biI x = some j) : x = biN j ∧ x ∈ biNames ∧ bootBuiltins x = some (biF j) ∧ x ≠ "__name__" := by
  unfold biI at h
  split at h
  · rename_i e; cases h; have := eq_of_beq e; subst this; exact ⟨rfl, by decide +kernel, by decide +kernel, by decide +kernel⟩
  split at h
  · rename_i e; cases h; have := eq_of_beq e; subst this; exact ⟨rfl, by decide +kernel, by decide +kernel, by decide +kernel⟩
  split at h
  · rename_i e; cases h; have := eq_of_beq e; subst this; exact ⟨rfl, by decide +kernel, by decide +kernel, by decide +kernel⟩
  split at h
  · rename_i e; cases h; have := eq_of_beq e; subst this; exact ⟨rfl, by decide +kernel, by decide +kernel, by decide +kernel⟩
  split at h
  · rename_i e; cases h; have := eq_of_beq e; subst this; exact ⟨rfl, by decide +kernel, by decide +kernel, by decide +kernel⟩
  · cases h
theorem biF_eq (j : Nat) : ∃ id, biF j = .builtin id := by
  unfold biF; split <;> exact ⟨_, rfl⟩
theorem se_bi {x : Str} {p pos : Pos} {es : List Expr} {ms : List ME} {j : Nat} (O : Ok C k F c) (hx : isGlob c x = true) (hd : x ≠ "__debug__") (hj : biI x = some j) (hst : es.all notStar = true) (hs : SEs C F k c es ms) :
    SE C F k c (.Call (.Name x p) es [] pos) (.bi j ms) := fun env wr ex X loc s A Q E d EO RM R he G => by
  refine bindE he fun ds hds he => ?_
  obtain ⟨_, hmem, hboot, hnn⟩ := biI_ok hj
  refine wpAny_Call_NameR (bi_name EO R hx hd hnn (O.bi _ hmem) hboot ?_)
  obtain ⟨id, hid⟩ := biF_eq j
  rw [hid]
  refine callWith_builtin (plain_any hst) (evalArgs_all hst (hs env wr ex X loc s A pos _ E ds EO RM R hds fun vs as s₁ g₁ S₁ r₁ => ?_))
  rw [← hid]
  exact bi_ok S₁ RM.hh he r₁ (G.grow g₁)

theorem se_isi {e : Expr} {m : ME} {b : Bool} {x t : Str} {p q pos : Pos} (O : Ok C k F c) (hx : x = "isinstance") (ht : t = (if b then "bool" else "int" : String)) (hgx : isGlob c x = true) (hgt : isGlob c t = true) (hn : notStar e = true) (hm : SE C F k c e m) :
    SE C F k c (.Call (.Name x p) [e, .Name t q] [] pos) (.isi b m) := fun env wr ex X loc s A Q E d EO RM R he G => by
  refine bindE he fun u hu he => ?_
  subst hx
  have hb1 : ("isinstance" : Str) ∈ biNames := by decide +kernel
  have ht2 : t ∈ biNames ∧ bootBuiltins t = some (.type (if b then "bool" else "int")) ∧ t ≠ "__name__" ∧ t ≠ "__debug__" := by
    subst ht; cases b <;> exact ⟨by decide +kernel, by decide +kernel, by decide +kernel, by decide +kernel⟩
  refine wpAny_Call_NameR (bi_name EO R hgx (by decide +kernel) (by decide +kernel) (O.bi _ hb1) (v := .builtin "isinstance") (by decide +kernel) ?_)
  have hst : [e, Expr.Name t q].all notStar = true := by
    simp only [List.all_cons, hn, List.all_nil]; rfl
  refine callWith_builtin (plain_any hst) (evalArgs_all hst ?_)
  rw [starEach_cons hn]
  refine spliced_cons (hm env wr ex X loc s A _ E u EO RM R hu fun v as s₁ g₁ S₁ r₁ => ?_)
  rw [starEach_cons (by rfl)]
  refine spliced_cons (bi_name EO (R.grow g₁ S₁) hgt ht2.2.2.2 ht2.2.2.1 (O.bi _ ht2.1) ht2.2.1 ?_)
  refine spliced_nil ?_
  cases u with
  | int i => cases he; exact (isi_ok (b := b) S₁ r₁).1 rfl (G.grow g₁)
  | bool i => cases he; exact (isi_ok (b := b) S₁ r₁).2 rfl (G.grow g₁)
  | _ => cases he

theorem methI_ok {x : Str} {j : Nat} (h : methI x = some j) : x = methN j := by
  unfold methI at h
  split at h
  · rename_i e; cases h; exact eq_of_beq e
  split at h
  · rename_i e; cases h; exact eq_of_beq e
  split at h
  · rename_i e; cases h; exact eq_of_beq e
  split at h
  · rename_i e; cases h; exact eq_of_beq e
  · cases h
theorem methF_eq (j : Nat) : ∃ id, methF j = .builtin id := by
  unfold methF; split <;> exact ⟨_, rfl⟩
theorem form_ok {es : List Expr} {env : Env} {pos : Pos} (h : es.all notStar = true) (hl : es.length < 30) : methodCallForm (es.length + ([] : List Keyword).length) (backTo pos (starEach es env)) (backToKw pos (keywordEach [] env)) = true := by
  unfold methodCallForm
  have e1 : (backTo pos (starEach es env)).all (fun x => !x.1) = true := by
    have := plain_any (env := env) (pos := pos) h
    rw [List.all_eq_true]
    intro x hx
    have h2 := List.any_eq_false.mp this x hx
    simpa using h2
  have e2 : backToKw pos (keywordEach [] env) = [] := rfl
  rw [e1, e2]
  simp [hl]
theorem se_meth {o : Expr} {a : ME} {x : Str} {ap pos : Pos} {es : List Expr} {ms : List ME} {j : Nat} (hb : plainBase o = true) (hj : methI x = some j) (hl : (ap.endLine == pos.line) = true) (hlen : es.length < 30) (hst : es.all notStar = true)
    (ha : SE C F k c o a) (hs : SEs C F k c es ms) : SE C F k c (.Call (.Attribute o x ap) es [] pos) (.meth j a ms) := fun env wr ex X loc s A Q E d EO RM R he G => by
  refine bindE he fun u hu he => ?_
  refine bindE he fun ds hds he => ?_
  have hbase : ∀ w, attributeBase o x env w = w := by intro w; cases o <;> first | rfl | cases hb
  have e0 : eval (.Call (.Attribute o x ap) es [] pos) env = (do
    let ov ← attributeBase o x env (eval o env)
    standAt ap.atName
    methodCall o x ap pos env ov (es.length + ([] : List Keyword).length) (backTo pos (starEach es env)) (backToKw pos (keywordEach [] env))) := rfl
  rw [e0, hbase]
  refine wpAny_bind (ha env wr ex X loc s A _ E u EO RM R hu fun v as s₁ g₁ S₁ r₁ => ?_)
  refine wpAny_bind (wpAny_standAt ?_)
  unfold methodCall
  rw [form_ok hst hlen]
  have hpos : methodCallPos true o env ap pos = pure pos := by unfold methodCallPos; simp only [hl, Bool.or_true, if_true]
  rw [hpos]
  have hx := methI_ok hj
  subst hx
  refine wpAny_bind (wpAny_holding (meth_get he r₁ ?_))
  refine wpAny_bind (wpAny_pure ?_)
  obtain ⟨id, hid⟩ := methF_eq j
  rw [hid]
  show wpAny _ _ (callWith pos (.builtin id) [v] (backTo pos (starEach es env)) []) _ _ _
  refine callWith_builtin (plain_any hst) (evalArgs_all hst (hs env wr ex X loc s₁ A pos _ E ds EO RM (R.grow g₁ S₁) hds fun vs bs s₂ g₂ S₂ r₂ => ?_))
  rw [← hid]
  exact meth_ok S₂ he (Reads.keeps (g₂.fz (fun _ h => nomatch h) S₁.tabx) r₁) r₂ (G.grow (g₁.trans' g₂))
end
end Mine

-- M10
namespace Mine
open PySem PySem.Spec PySem.Calls PyProof.Rows PySem.W

section
variable {C : Cx} {env : Env} {c : CC} {wr : List Str} {ex X : List Addr} {loc : Loc} {s : Shared} {A : Around} {E : Value → Shared → Prop} {k : Nat} {F : Orc}

theorem subscripted_plain {e : Expr} (h : notSlice e = true) (o i : Value) : subscripted e false o i = operate [o, i] (getItem o i) := by
  cases e <;> first | rfl | cases h
theorem subscripted_slice (l u : Option Expr) (p : Pos) (o i : Value) : subscripted (.Slice l u none p) false o i = operate [i, o] (getItem o i) := rfl

theorem se_sub {o i : Expr} {a b : ME} {pos : Pos} (hi : notSlice i = true) (ha : SE C F k c o a) (hb : SE C F k c i b) : SE C F k c (.Subscript o i pos) (.sub a b) := fun env wr ex X loc s A Q E d EO RM R he G => by
  refine bindE he fun x hx he => ?_
  refine bindE he fun y hy he => ?_
  refine Subscript_ (ha env wr ex X loc s A _ E x EO RM R hx fun v as s₁ g₁ S₁ r₁ => ?_)
  refine hb env wr ex X loc s₁ A _ E y EO RM (R.grow g₁ S₁) hy fun w bs s₂ g₂ S₂ r₂ => ?_
  exact sub_ok S₂ he (Reads.keeps (g₂.fz (fun _ h => nomatch h) S₁.tabx) r₁) r₂ (subscripted_plain hi) (G.grow (g₁.trans' g₂))

theorem own_item {value slice : Expr} {ex : List Addr} {a : Addr} {vs : Array Value} {b : Value} {xs : List PyData} {y r : PyData} {as bs : List Addr} {Q : Value → Shared → Prop} (S : St C ex s) (he : subV (.list xs) y = some r) (hl : s.heap.IsList a vs) (rs : ReadsAll (Fz s.heap ex) vs.toList xs as)
    (Rb : Reads (Fz s.heap ex) b y bs) (hs : ∀ o i, subscripted slice false o i = operate [o, i] (getItem o i)) (G : Give C ex s r Q) : wpAny C.M A (subscriptTail value slice (.ref a) b) Q E s := by
  have hz : vs.size = xs.length := by simpa using readsAll_len rs
  cases y with
  | int i =>
    obtain ⟨u, rfl⟩ := inv_int Rb
    refine ifE he fun hm he => bindE he fun j hj hx => ?_
    · have hb := seqIndex_bounds hj hm
      obtain ⟨v, as'', hv, rv⟩ := readsAll_get rs j r hx
      have hv' : vs[j]? = some v := by simpa using hv
      refine tail_any hl.typeIs slot_list_getitem.lookup ?_ (hs _ _)
      rcases hb.2.2.2 with ⟨h0, e⟩ | ⟨h0, e, h1⟩
      · subst e; exact wpAny_getItem_list hl h0 (by omega) hv' (G.here S rv)
      · subst e; exact wpAny_getItem_list_neg hl h0 (by rw [hz]; exact h1) (by omega) (by rw [hz]; exact hv') (G.here S rv)
  | _ => exact noneE he

theorem se_subo {x : Str} {n : Nat} {i : Expr} {b : ME} {p pos : Pos} (hx : c.tb.lookup x = some n) (hi : notSlice i = true) (hb : SE C F k c i b) : SE C F k c (.Subscript (.Name x p) i pos) (.subo n b) := fun env wr ex X loc s A Q E d EO RM R he G => by
  refine bindE he fun y hy he => ?_
  have hn := R.tbok.names _ (mem_lookup hx)
  have hd : (x == ("__debug__" : Str)) = false := by simpa using hn.2
  refine MV.atE he fun m hl he => ?_
  cases m with
  | own l =>
    obtain ⟨v, hv, _⟩ := R.vars _ (mem_lookup hx) _ hl
    refine Subscript_ (wpAny_Name (load_ok R.kind hn.1 hv ?_) hd)
    refine hb env wr ex X loc s A _ E y EO RM R hy fun w bs s₂ g₂ S₂ r₂ => ?_
    have R₂ := R.grow g₂ S₂
    obtain ⟨v', hv', a, vs, as, rfl, ha, hlist, hr⟩ := R₂.vars _ (mem_lookup hx) _ hl
    have e : v = .ref a := (hv.keeps fun b o e hd => g₂.obj R.st e hd (fun h => nomatch h)).inj hv'
    subst e
    exact own_item S₂ he hlist.isList hr r₂ (subscripted_plain hi) (G.grow g₂)
  | dat d' =>
    obtain ⟨v, hv, as, r⟩ := R.vars _ (mem_lookup hx) _ hl
    refine Subscript_ (wpAny_Name (load_ok R.kind hn.1 hv ?_) hd)
    refine hb env wr ex X loc s A _ E y EO RM R hy fun w bs s₂ g₂ S₂ r₂ => ?_
    exact sub_ok S₂ he (Reads.keeps (g₂.fz (fun _ h => nomatch h) R.st.tabx) r) r₂ (subscripted_plain hi) (G.grow g₂)
  | rng => cases he

/-- a part of a slice -/
noncomputable def SO (C : Cx) (F : Orc) (k : Nat) (c : CC) (e : Option Expr) (m : ME) : Prop :=
  ∀ (env : Env) (wr : List Str) (ex X : List Addr) (loc : Loc) (s : Shared) (A : Around) (Q E : Value → Shared → Prop) (d : PyData),
    EnvOk env c → Room A k → Rel C env c.tb wr ex X loc s → evE F loc m = some d → Give C (X ++ ex) s d Q → wpAny C.M A (evalPart e env) Q E s
theorem so_none : SO C F k c none (.lit .none) := fun env wr ex X loc s A Q E d _ _ R he G => by
  cases Option.some.inj he
  exact wpAny_pure (G.none0 R.st)
theorem so_some {e : Expr} {m : ME} (h : SE C F k c e m) : SO C F k c (some e) m := fun env wr ex X loc s A Q E d EO RM R he G => h env wr ex X loc s A Q E d EO RM R he G
theorem se_slice {o : Expr} {l u : Option Expr} {a b d : ME} {p pos : Pos} (ha : SE C F k c o a) (hb : SO C F k c l b) (hd : SO C F k c u d) : SE C F k c (.Subscript o (.Slice l u none p) pos) (.slice a b d) := fun env wr ex X loc s A Q E r EO RM R he G => by
  refine bindE he fun x hx he => ?_
  refine bindE he fun y hy he => ?_
  refine bindE he fun z hz he => ?_
  refine Subscript_ (ha env wr ex X loc s A _ E x EO RM R hx fun v as s₁ g₁ S₁ r₁ => ?_)
  refine wpAny_Slice (hb env wr ex X loc s₁ A _ E y EO RM (R.grow g₁ S₁) hy fun vl ls s₂ g₂ S₂ r₂ => ?_)
  refine hd env wr ex X loc s₂ A _ E z EO RM ((R.grow g₁ S₁).grow g₂ S₂) hz fun vu us s₃ g₃ S₃ r₃ => ?_
  refine wpAny_pure ?_
  exact slice_ok S₃ he (Reads.keeps ((g₂.trans' g₃).fz (fun _ h => nomatch h) S₁.tabx) r₁) (Reads.keeps (g₃.fz (fun _ h => nomatch h) S₂.tabx) r₂) r₃ (subscripted_slice l u p) (G.grow ((g₁.trans' g₂).trans' g₃))

theorem se_tup {es : List Expr} {ms : List ME} {n : Nat} {pos : Pos} (hs : SEs C F k c es ms) : SE C F k c (.Tuple es n pos) (.tup ms) := fun env wr ex X loc s A Q E d EO RM R he G => by
  refine bindE he fun ds hds he => ?_
  split at he <;> cases he
  rename_i hlen
  refine wpAny_Tuple_spliced (hs env wr ex X loc s A _ _ E ds EO RM R hds fun vs as s₁ g₁ S₁ r₁ => ?_)
  refine ⟨by rw [readsAll_len r₁, sizeLine_eq]; omega, ?_⟩
  exact (G.grow g₁).tuple (vs := vs.toArray) S₁ r₁ s₁.toks

/-! fresh lists -/
noncomputable def SF (C : Cx) (F : Orc) (k : Nat) (c : CC) (e : Expr) (m : ME) : Prop :=
  ∀ (env : Env) (wr : List Str) (ex X : List Addr) (loc : Loc) (s : Shared) (A : Around) (Q E : Value → Shared → Prop) (d : PyData),
    EnvOk env c → Room A k → Rel C env c.tb wr ex X loc s → evE F loc m = some d → ∃ l, d = .list l ∧
    ((∀ a vs as s', Grow C [] s s' → St C (a :: (X ++ ex)) s' → s.heap.get? a = none → s'.heap.PlainList a vs → ReadsAll (Fz s'.heap (a :: (X ++ ex))) vs.toList l as → Q (.ref a) s') → wpAny C.M A (eval e env) Q E s)
theorem fz_less {h : Heap} {ex : List Addr} {a : Addr} : Sub (Fz h (a :: ex)) (Fz h ex) := fz_mono (fun _ _ _ e => e) fun b _ hb _ h' => hb (List.mem_cons_of_mem _ h')
theorem list_of_fresh {ex : List Addr} {s' : Shared} {a : Addr} {vs : Array Value} {l : List PyData} {as : List Addr} (S : St C ex s) (ha : s.heap.get? a = none) (hl : s'.heap.IsList a vs) (r : ReadsAll (Fz s'.heap (a :: ex)) vs.toList l as) :
    Reads (Fz s'.heap ex) (.ref a) (.list l) (a :: as) := by
  obtain ⟨o, h1, h2, n, h3⟩ := hl
  refine .list (fz_iff.mpr ⟨h1, fun hm => ?_⟩) h2 h3 (ReadsAll.keeps fz_less r)
  obtain ⟨o', e⟩ := S.there a hm
  rw [ha] at e; cases e
theorem SF.se {e : Expr} {m : ME} (h : SF C F k c e m) : SE C F k c e m := fun env wr ex X loc s A Q E d EO RM R he G => by
  obtain ⟨l, rfl, hw⟩ := h env wr ex X loc s A Q E d EO RM R he
  exact hw fun a vs as s' g S ha hl r => G _ _ s' g (S.show_ (fun b hb => .tail _ hb) R.st.tabx) (list_of_fresh R.st ha hl.isList r)

theorem sf_lst {es : List Expr} {ms : List ME} {pos : Pos} (hs : SEs C F k c es ms) : SF C F k c (.List es pos) (.lst ms) := fun env wr ex X loc s A Q E d EO RM R he => by
  refine bindE he fun ds hds he => ?_
  obtain ⟨hlen, rfl⟩ := if_some he
  refine ⟨ds, rfl, fun G => ?_⟩
  refine wpAny_List_spliced (hs env wr ex X loc s A _ _ E ds EO RM R hds fun vs as s₁ g₁ S₁ r₁ => ?_)
  refine ⟨by rw [readsAll_len r₁, sizeLine_eq]; omega, ?_⟩
  have hnone := get?_size s₁.heap
  refine G s₁.heap.objs.size vs.toArray as _ (g₁.trans' (Grow.push (tk := s₁.toks))) (S₁.hid (fun _ _ e => Heap.get?_push_of_some _ e) hnone (Heap.get?_push_size _ rfl) s₁.toks) (g₁.fresh hnone) ⟨_, Heap.get?_push_size _ rfl⟩ ?_
  exact ReadsAll.keeps (fz_hid (fun _ _ e => Heap.get?_push_of_some _ e) hnone) r₁

theorem sf_listc {x : Str} {m : ME} {p q pos : Pos} (O : Ok C k F c) (hg : isGlob c "list" = true) (hx : SE C F k c (.Name x q) m) : SF C F k c (.Call (.Name "list" p) [.Name x q] [] pos) (.listc m) := fun env wr ex X loc s A Q E d EO RM R he => by
  refine bindE he fun u hu he => ?_
  refine bindE he fun xs hl he => ?_
  cases listDE hl
  · obtain ⟨hlen, rfl⟩ := if_some he
    refine ⟨xs, rfl, fun G => ?_⟩
    refine wpAny_Call_NameR (bi_name EO R hg (by decide +kernel) (by decide +kernel) (O.bi _ (by decide +kernel)) (v := .type "list") (by decide +kernel) ?_)
    refine PySem.callWith_type (plain_any rfl) (evalArgs_all rfl ?_)
    rw [starEach_cons rfl]
    refine spliced_cons (hx env wr ex X loc s A _ E _ EO RM R hu fun v as s₁ g₁ S₁ r₁ => spliced_nil ?_)
    refine listc_ok S₁ (by omega) r₁ fun h' vs as' hk ⟨n, ho⟩ rs => ?_
    have hnone := get?_size s₁.heap
    exact G s₁.heap.objs.size vs as' _ (g₁.trans' (Grow.sub (tk := s₁.toks) hk)) (S₁.hid hk hnone ho s₁.toks) (g₁.fresh hnone) ⟨n, ho⟩ (ReadsAll.keeps (fz_hid hk hnone) rs)

theorem rangeOk_iff {a b : Int} (h : rangeOk a b = true) : -(2 ^ 40) ≤ a ∧ a ≤ 2 ^ 40 ∧ -(2 ^ 40) ≤ b ∧ b ≤ 2 ^ 40 ∧ b - a ≤ 2 ^ 20 := by
  unfold rangeOk smallI at h
  simp only [Bool.and_eq_true, decide_eq_true_eq] at h
  omega

/-- range(..) makes a range -/
theorem call_rng {ds : List PyData} {vs : List Value} {as : List Addr} {ex : List Addr} {p : Int × Int} {Q : Value → Shared → Prop} (S : St C ex s) (he : rangeV ds = some p) (R : ReadsAll (Fz s.heap ex) vs ds as)
    (h : ∀ s' t u w, Grow C [] s s' → St C ex s' → s.heap.get? s.heap.objs.size = none → IsRange (Fz s'.heap ex) s.heap.objs.size p.1 p.2 1 t u w → Q (.ref s.heap.objs.size) s') :
    wpAny C.M A (call (.type "range") vs) Q E s := by
  have hnone := get?_size s.heap
  obtain ⟨is, hi, hc, _⟩ := rangeV_ok he
  obtain ⟨p1, p2⟩ := p
  have e := ints?_eq hi
  subst e
  rcases hc with ⟨rfl, rfl⟩ | rfl
  · cases R with
    | cons r1 r2 =>
      cases r2
      obtain ⟨t, rfl⟩ := inv_int r1
      exact call_range_1 (h _ _ _ _ Grow.push (S.push _ _) hnone (fz_push_new S rfl))
  · cases R with
    | cons r1 r2 =>
      cases r2 with
      | cons r2 r3 =>
        cases r3
        obtain ⟨t, rfl⟩ := inv_int r1; obtain ⟨u, rfl⟩ := inv_int r2
        exact call_range_2 (h _ _ _ _ Grow.push (S.push _ _) hnone (fz_push_new S rfl))

theorem rangeInts_map (a : Int) (n : Nat) : (rangeInts a 1 n).map PyData.int = (List.range n).map fun i => .int (a + (i : Nat)) := by
  apply List.ext_getElem?
  intro i
  by_cases h : i < n
  · simp [rangeInts_get h, h]
  · simp [rangeInts_length, h]

theorem items_int {acc : Array Value} {n : Nat} {a cc : Int} (hacc : ItemsOf (fun i v => ∃ t, v = .int (a + i * cc) t) acc n) {g : Heap} : ∃ as, ReadsAll g acc.toList ((rangeInts a cc n).map .int) as := by
  obtain ⟨hsz, hv⟩ := hacc
  have key : ∀ (vs : List Value) (ns : List Int), vs.length = ns.length → (∀ (i : Nat) (h : i < vs.length) (h2 : i < ns.length), ∃ t, vs[i] = .int ns[i] t) → ∃ as, ReadsAll g vs (ns.map .int) as := by
    intro vs
    induction vs with
    | nil => intro ns hl _; cases ns with
      | nil => exact ⟨_, .nil⟩
      | cons => simp at hl
    | cons v vs ih =>
      intro ns hl hh
      cases ns with
      | nil => simp at hl
      | cons n ns =>
        obtain ⟨t, ht⟩ := hh 0 (by simp) (by simp)
        obtain ⟨as, r⟩ := ih ns (by simpa using hl) fun i h h2 => by
          have := hh (i + 1) (by simpa using h) (by simpa using h2)
          simpa using this
        have hv : v = .int n t := by simpa using ht
        subst hv
        exact ⟨_, .cons (.int n t) r⟩
  refine key acc.toList (rangeInts a cc n) (by simp [hsz, rangeInts_length]) fun i h h2 => ?_
  have h3 : i < acc.size := by simpa using h
  obtain ⟨t, ht⟩ := hv i acc[i] (by simp [h3])
  refine ⟨t, ?_⟩
  have h4 : i < n := by rw [← hsz]; exact h3
  have h5 := rangeInts_get (a := a) (c := cc) h4
  have h6 : (rangeInts a cc n)[i] = a + (i : Nat) * cc := by
    have := List.getElem?_eq_getElem h2
    rw [this] at h5; exact Option.some.inj h5
  rw [h6]
  simpa using ht

theorem sf_listr {es : List Expr} {ms : List ME} {p q pos pos2 : Pos} (O : Ok C k F c) (hg : isGlob c "list" = true) (hg2 : isGlob c "range" = true) (hst : es.all notStar = true) (hs : SEs C F k c es ms) :
    SF C F k c (.Call (.Name "list" p) [.Call (.Name "range" q) es [] pos2] [] pos) (.listr ms) := fun env wr ex X loc s A Q E d EO RM R he => by
  refine bindE he fun ds hds he => ?_
  refine bindE he fun xs hxs he => ?_
  obtain ⟨hlen, rfl⟩ := if_some he
  refine ⟨xs, rfl, fun G => ?_⟩
  refine wpAny_Call_NameR (bi_name EO R hg (by decide +kernel) (by decide +kernel) (O.bi _ (by decide +kernel)) (v := .type "list") (by decide +kernel) ?_)
  refine PySem.callWith_type (plain_any rfl) (evalArgs_all rfl ?_)
  rw [starEach_cons rfl]
  refine spliced_cons ?_
  refine wpAny_Call_NameR (bi_name EO R hg2 (by decide +kernel) (by decide +kernel) (O.bi _ (by decide +kernel)) (v := .type "range") (by decide +kernel) ?_)
  refine PySem.callWith_type (plain_any hst) (evalArgs_all hst (hs env wr ex X loc s A _ _ E ds EO RM R hds fun vs as s₁ g₁ S₁ r₁ => ?_))
  -- the range, then its list
  have fin : ∀ (a b cc : Int) (t u w : Tok) (s₂ : Shared) (r : Addr) (n : Nat), Grow C [] s₁ s₂ → St C (X ++ ex) s₂ → IsRange s₂.heap r a b cc t u w → Builtin.Range.small a b cc = true → Builtin.Range.rangeSize a b cc = (n : Int) → n ≤ 2 ^ 24 → xs = (rangeInts a cc n).map .int →
      wpAny C.M A (spliced (backTo pos (starEach [] env))) (fun vs s₂ => wpAny C.M A (call (.type "list") ([] ++ (⟨.ref r :: vs, []⟩ : Args).pos) (⟨.ref r :: vs, []⟩ : Args).kw) Q E s₂) E s₂ := by
    intro a b cc t u w s₂ r n g₂ S₂ hr hsmall hn hle hxe
    refine spliced_nil ?_
    refine call_list_range RM.hh hr hsmall hn hle fun h' tk acc' c' hk hS' hacc => ?_
    obtain ⟨as', rr⟩ := items_int hacc (g := Fz h' (s₂.heap.objs.size :: (X ++ ex)))
    have hnone := get?_size s₂.heap
    refine G s₂.heap.objs.size acc' as' _ ((g₁.trans' g₂).trans' (Grow.sub (tk := tk) hk)) (S₂.hid hk hnone hS' tk) ((g₁.trans' g₂).fresh hnone) ⟨c', hS'⟩ ?_
    rw [hxe]; exact rr
  refine bindE hxs fun is hi h3 => ?_
  have e := ints?_eq hi
  subst e
  cases is with
  | nil => exact noneE h3
  | cons a l => cases r₁ with
    | cons q1 q2 =>
      obtain ⟨t, rfl⟩ := inv_int q1
      cases l with
      | nil =>
        cases q2
        obtain ⟨hc, rfl⟩ := if_some h3
        have hb := rangeOk_iff hc
        refine call_range_1 ?_
        refine fin 0 a 1 _ t _ _ _ (a - 0).toNat Grow.push (S₁.push _ _) (IsRange.new ..) (small_one (by omega) (by omega) (by omega) (by omega)) (by rw [rangeSize_one]; split <;> omega) (by omega) ?_
        rw [rangeInts_map]; rfl
      | cons b l => cases q2 with
        | cons q2 q3 =>
          obtain ⟨u, rfl⟩ := inv_int q2
          cases l with
          | nil =>
            cases q3
            obtain ⟨hc, rfl⟩ := if_some h3
            have hb := rangeOk_iff hc
            refine call_range_2 ?_
            refine fin a b 1 t u _ _ _ (b - a).toNat Grow.push (S₁.push _ _) (IsRange.new ..) (small_one (by omega) (by omega) (by omega) (by omega)) (by rw [rangeSize_one]; split <;> omega) (by omega) ?_
            rw [rangeInts_map]; rfl
          | cons cc l => cases q3 with
            | cons q3 q4 =>
              obtain ⟨w, rfl⟩ := inv_int q3
              cases l with
              | nil =>
                cases q4
                obtain ⟨hc, rfl⟩ := if_some h3
                simp only [Bool.and_eq_true, decide_eq_true_eq] at hc
                obtain ⟨⟨⟨⟨h1, h2⟩, h3⟩, h4⟩, h5⟩ := hc
                refine call_range_3 (by omega) ?_ (.inl (PyProof.noPylong_small (by omega)))
                exact fin a b cc t u w _ _ (Builtin.Range.rangeSize a b cc).toNat Grow.push (S₁.push _ _) (IsRange.new ..) h1 (by omega) (by omega) rfl
              | cons => exact noneE h3
end
end Mine

-- M11
namespace Mine
open PySem PySem.Spec PySem.Calls PyProof.Rows PySem.W

section
variable {C : Cx} {env : Env} {c : CC} {tb : List (Str × Nat)} {wr : List Str} {ex X : List Addr} {loc : Loc} {s : Shared} {A : Around} {E : Value → Shared → Prop} {k : Nat} {F : Orc}

/-! ## targets -/
inductive NmOk (tb : List (Str × Nat)) (wr : List Str) : List Expr → List Nat → Prop where
  | nil : NmOk tb wr [] []
  | cons {x : Str} {p : Pos} {i : Nat} {es : List Expr} {l : List Nat} : tb.lookup x = some i → x ∈ wr → NmOk tb wr es l → NmOk tb wr (.Name x p :: es) (i :: l)
inductive TgOk (tb : List (Str × Nat)) (wr : List Str) : Expr → Tg → Prop where
  | one {x : Str} {p : Pos} {i : Nat} : tb.lookup x = some i → x ∈ wr → TgOk tb wr (.Name x p) (.one i)
  | many {es : List Expr} {n : Nat} {p : Pos} {l : List Nat} : NmOk tb wr es l → TgOk tb wr (.Tuple es n p) (.many l)
theorem nmOk_of {tb0 : List (Str × Nat)} (h1 : ∀ x i, tb0.lookup x = some i → tb.lookup x = some i ∧ x ∈ wr) : ∀ {es : List Expr} {l : List Nat}, mapMO (nameSlot tb0) es = some l → NmOk tb wr es l := by
  intro es
  induction es with
  | nil => intro l h; cases h; exact .nil
  | cons e r ih =>
    intro l h
    refine bindE h fun i hi h => mapE h fun l' hl => bindE hi fun x hx hi => ?_
    rw [nmE hx]
    exact .cons (h1 _ _ hi).1 (h1 _ _ hi).2 (ih hl)
theorem tgOk_of {tb0 : List (Str × Nat)} (h1 : ∀ x i, tb0.lookup x = some i → tb.lookup x = some i ∧ x ∈ wr) {e : Expr} {t : Tg} (h : targetOf tb0 e = some t) : TgOk tb wr e t := by
  refine altE h (fun h => bindE h fun x hx h => mapE h fun i hi => ?_) fun h => bindE h fun x hx h => mapE h fun l hl => ?_
  · rw [nmE hx]; exact .one (h1 _ _ hi).1 (h1 _ _ hi).2
  · rw [tupE hx]; exact .many (nmOk_of h1 hl)

theorem nm_len {es : List Expr} {l : List Nat} (h : NmOk tb wr es l) : (assignEach es env).length = l.length ∧ (assignEach es env).findIdx? (·.1) = none := by
  induction h with
  | nil => exact ⟨rfl, rfl⟩
  | cons _ _ _ ih =>
    refine ⟨congrArg (· + 1) ih.1, ?_⟩
    show (List.findIdx? _ (_ :: _)) = none
    rw [List.findIdx?_cons, ih.2]; rfl
theorem setMany_len {l : List Nat} {ds : List PyData} {loc loc' : Loc} (h : setMany loc l ds = some loc') : l.length = ds.length := by
  induction l generalizing loc ds with
  | nil => exact nilE h fun e _ => e ▸ rfl
  | cons i l ih => exact uncE h fun d ds e h => e ▸ congrArg (· + 1) (ih h)

theorem names_ok {es : List Expr} {l : List Nat} (h : NmOk tb wr es l) : ∀ {ds : List PyData} {vs : List Value} {as : List Addr} {loc loc' : Loc} {s : Shared} {Q : Unit → Shared → Prop}, Rel C env tb wr ex X loc s → setMany loc l ds = some loc' → ReadsAll (Fz s.heap (X ++ ex)) vs ds as →
    (∀ s', Grow C X s s' → Rel C env tb wr ex X loc' s' → Q () s') → wpAny C.M A (assignInOrder ((assignEach es env).map (·.2)) vs) Q E s := by
  induction h with
  | nil =>
    intro ds vs as loc loc' s Q R hs rs hQ
    cases ds with
    | nil => cases Option.some.inj hs; cases rs; exact wpAny_pure (hQ s (Grow.refl ..) R)
    | cons => exact noneE hs
  | cons hx hw _ ih =>
    intro ds vs as loc loc' s Q R hs rs hQ
    cases ds with
    | nil => exact noneE hs
    | cons d ds =>
      cases rs with
      | cons r1 r2 =>
        refine wpAny_bind (wpAny_holding (wpAny_assign_Name (store_ok R hx hw (mv := .dat d) ⟨_, r1⟩ (fun l hl => by cases hl) fun s' g R' => ?_)))
        exact ih R' hs (ReadsAll.keeps (g.fz (fun a ha => List.mem_append_left _ ha) R.st.tabx) r2) fun s'' g' R'' => hQ s'' (g.trans' g') R''

theorem extBut_sub {h h' : Heap} (k : Heap.ExtBut h.objs.size h h') : Sub h h' := fun b o e => k b o (Nat.ne_of_lt (Heap.lt_size e)) e

theorem target_ok {e : Expr} {t : Tg} (h : TgOk tb wr e t) {d : PyData} {v : Value} {as : List Addr} {loc' : Loc} {Q : Unit → Shared → Prop} (hh : A.handled = none) (R : Rel C env tb wr ex X loc s) (hb : bindT loc t d = some loc') (r : Reads (Fz s.heap (X ++ ex)) v d as)
    (hQ : ∀ s', Grow C X s s' → Rel C env tb wr ex X loc' s' → Q () s') : wpAny C.M A (assign e env v) Q E s := by
  cases h with
  | one hx hw =>
    cases Option.some.inj hb
    exact wpAny_assign_Name (store_ok R hx hw (mv := .dat d) ⟨_, r⟩ (fun l hl => by cases hl) hQ)
  | many hn =>
    refine bindE hb fun ds hd hb => ?_
    cases tupDE hd
    · obtain ⟨a, vs, as', rfl, ht, rs, hz⟩ := inv_tuple fz_sub r
      refine PyProof.Rows.assign_Tuple_tuple hh ht (by rw [(nm_len hn).1, setMany_len hb, hz]) (nm_len hn).2 fun h' hk => ?_
      have hs := extBut_sub hk
      refine names_ok hn (R.grow (Grow.sub (tk := s.toks) hs) (R.st.sub hs s.toks)) hb (ReadsAll.keeps ((Grow.sub (C := C) (X := []) (tk := s.toks) hs).fz (fun _ h => nomatch h) R.st.tabx) rs) fun s' g R' => hQ s' (Grow.trans (Grow.sub hs) g fun p hp => .inl hp) R'

/-! ## iterables -/
noncomputable def lots : List String := ["enumerate", "zip", "dict_itemiterator", "dict_reverseitemiterator", "odict_iterator", "itertools.zip_longest", "itertools.pairwise"]
theorem letgo_ok {target : Expr} {I : Addr} {v : Value} {Q : Unit → Shared → Prop} {M : Model} (hc : ∀ a, v = .ref a → ∃ o n, s.heap.get? I = some o ∧ o.cls = .type n ∧ lots.contains n = false) (h : Q () s) : wpAny M A (letOwnedTupleGo target (.ref I) v) Q E s := by
  have key : wpAny M A (do
      let (.ref r, .ref a) := ((Value.ref I), v) | return
      let o ← load r
      match o.cls, o.data with
      | .type n, .fields vs =>
        if lots.contains n && vs[0]? == some (rawInt a) then
          rule "for.unpacks-the-owned-tuple"
          updateField r 0 .none
      | _, _ => pure ()) Q E s := by
    cases v with
    | ref a =>
      obtain ⟨o, n, ho, hn, hl⟩ := hc a rfl
      refine wpAny_bind (wpAny_load ho ?_)
      rw [hn]
      cases o.data with
      | fields vs => simp only [hl, Bool.false_and, Bool.false_eq_true, if_false]; exact wpAny_pure h
      | _ => exact wpAny_pure h
    | _ => exact wpAny_pure h
  cases target with
  | Tuple => exact key
  | List => exact key
  | _ => exact wpAny_pure h

structure ItOk (C : Cx) (ex : List Addr) (I : Addr) (fp : List Addr) (xs : List PyData) (P : Nat → Value → Prop) (Sti : Nat → Heap → Prop) (s : Shared) : Prop where
  walks : ∀ A' : Around, A'.handled = none → Walks C.prog C.w A' I fp [I] xs.length P Sti
  st0 : Sti 0 s.heap
  fpok : ∀ b ∈ fp, b = I ∨ ∃ o, (Fz s.heap (I :: ex)).get? b = some o
  vals : ∀ i v, P i v → ∃ d as, xs[i]? = some d ∧ Reads (Fz s.heap (I :: ex)) v d as
  live : ∀ j h, Sti j h → ∃ o vs, h.get? I = some o ∧ o.data = .fields vs
  cls : ∀ i j h a, P i (.ref a) → Sti j h → ∃ o n, h.get? I = some o ∧ o.cls = .type n ∧ lots.contains n = false
  few : xs.length ≤ 2 ^ 20

noncomputable def SI (C : Cx) (F : Orc) (k : Nat) (c : CC) (e : Expr) (m : MI) : Prop :=
  ∀ (env : Env) (wr : List Str) (ex X : List Addr) (loc : Loc) (s : Shared) (A : Around) (Q E : Value → Shared → Prop) (xs : List PyData),
    EnvOk env c → Room A k → Rel C env c.tb wr ex X loc s → evI F loc m = some xs →
    (∀ I fp P Sti s', Grow C [] s s' → St C (I :: (X ++ ex)) s' → s.heap.get? I = none → ItOk C (X ++ ex) I fp xs P Sti s' → Q (.ref I) s') →
    wpAny C.M A (eval e env) (fun v s₁ => wpAny C.M A (pyIter v) Q E s₁) E s

/-- an iterator is made -/
theorem iter_ok {ex : List Addr} {v : Value} {d : PyData} {as : List Addr} {xs : List PyData} {Q : Value → Shared → Prop} (S : St C ex s) (he : itemsV d = some xs) (R : Reads (Fz s.heap ex) v d as)
    (hQ : ∀ I fp P Sti s', Grow C [] s s' → St C (I :: ex) s' → s.heap.get? I = none → ItOk C ex I fp xs P Sti s' → Q (.ref I) s') : wpAny C.M A (pyIter v) Q E s := by
  have hnone := get?_size s.heap
  have hpush : ∀ o : Obj, Sub s.heap (s.heap.push o) := fun o _ _ e => Heap.get?_push_of_some _ e
  cases d with
  | list ys =>
    simp only [itemsV] at he
    split at he <;> cases he
    rename_i hle
    obtain ⟨a, vs, as', rfl, hl, rs, hz⟩ := inv_list fz_sub R
    have ha : ∃ o, (Fz s.heap ex).get? a = some o := by cases R with | list h1 _ _ _ => exact ⟨_, h1⟩
    obtain ⟨o, ha⟩ := ha
    have hne : a ≠ s.heap.objs.size := Nat.ne_of_lt (Heap.lt_size (fz_sub _ _ ha))
    have ha' := fz_hid (ex := ex) (hpush { cls := .type "list_iterator", data := .fields #[.ref a, .int 0 0] }) hnone
    refine wpAny_pyIter_list hl (hQ _ [s.heap.objs.size, a] (fun i v => vs[i]? = some v) (fun i h => h.IsListIter s.heap.objs.size a i ∧ h.IsList a vs) _ Grow.push (S.hid (hpush _) hnone (Heap.get?_push_size _ rfl) _) hnone ⟨?_, ?_, ?_, ?_, ?_, ?_, hle⟩)
    · intro A' hA; rw [← hz]; exact Walks.list hA _ a hne vs
    · exact ⟨⟨_, Heap.get?_push_size _ rfl, rfl, rfl⟩, Heap.IsList.at hl fun o e => hpush _ _ _ e⟩
    · intro b hb
      rcases List.mem_cons.mp hb with rfl | hb
      · exact .inl rfl
      · rw [List.mem_singleton.mp hb]; exact .inr ⟨o, ha' _ _ ha⟩
    · intro i v hv
      have hlt : i < vs.size := by
        rcases Nat.lt_or_ge i vs.size with h | h
        · exact h
        · rw [Array.getElem?_eq_none h] at hv; cases hv
      obtain ⟨w, as'', hw, r⟩ := readsAll_get rs i (xs[i]'(by omega)) (List.getElem?_eq_getElem (by omega))
      have : w = v := by
        have h2 : vs[i]? = some w := by simpa using hw
        rw [h2] at hv; exact Option.some.inj hv
      subst this
      exact ⟨_, _, List.getElem?_eq_getElem (by omega), Reads.keeps ha' r⟩
    · rintro j h ⟨⟨o, ho, _, hd⟩, _⟩; exact ⟨o, _, ho, hd⟩
    · rintro i j h b hv ⟨⟨o, ho, hc, _⟩, _⟩; exact ⟨o, _, ho, hc, by decide +kernel⟩
  | tuple ys =>
    simp only [itemsV] at he
    split at he <;> cases he
    rename_i hle
    obtain ⟨a, vs, as', rfl, hl, rs, hz⟩ := inv_tuple fz_sub R
    have ha : ∃ o, (Fz s.heap ex).get? a = some o := by cases R with | tuple h1 _ _ _ => exact ⟨_, h1⟩
    obtain ⟨o, ha⟩ := ha
    have hne : a ≠ s.heap.objs.size := Nat.ne_of_lt (Heap.lt_size (fz_sub _ _ ha))
    have ha' := fz_hid (ex := ex) (hpush { cls := .type "tuple_iterator", data := .fields #[.ref a, .int 0 0] }) hnone
    refine wpAny_pyIter_tuple hl (hQ _ [s.heap.objs.size, a] (fun i v => vs[i]? = some v) (fun i h => h.IsTupleIter s.heap.objs.size a i ∧ h.IsTuple a vs) _ Grow.push (S.hid (hpush _) hnone (Heap.get?_push_size _ rfl) _) hnone ⟨?_, ?_, ?_, ?_, ?_, ?_, hle⟩)
    · intro A' hA; rw [← hz]; exact Walks.tuple hA _ a hne vs
    · exact ⟨⟨_, Heap.get?_push_size _ rfl, rfl, rfl⟩, Heap.IsTuple.at hl fun o e => hpush _ _ _ e⟩
    · intro b hb
      rcases List.mem_cons.mp hb with rfl | hb
      · exact .inl rfl
      · rw [List.mem_singleton.mp hb]; exact .inr ⟨o, ha' _ _ ha⟩
    · intro i v hv
      have hlt : i < vs.size := by
        rcases Nat.lt_or_ge i vs.size with h | h
        · exact h
        · rw [Array.getElem?_eq_none h] at hv; cases hv
      obtain ⟨w, as'', hw, r⟩ := readsAll_get rs i (xs[i]'(by omega)) (List.getElem?_eq_getElem (by omega))
      have : w = v := by
        have h2 : vs[i]? = some w := by simpa using hw
        rw [h2] at hv; exact Option.some.inj hv
      subst this
      exact ⟨_, _, List.getElem?_eq_getElem (by omega), Reads.keeps ha' r⟩
    · rintro j h ⟨⟨o, ho, _, hd⟩, _⟩; exact ⟨o, _, ho, hd⟩
    · rintro i j h b hv ⟨⟨o, ho, hc, _⟩, _⟩; exact ⟨o, _, ho, hc, by decide +kernel⟩
  | str x =>
    simp only [itemsV] at he
    split at he <;> cases he
    rename_i hle
    obtain ⟨t, rfl⟩ := inv_str R
    have fin : ∀ (cls : String) (o : Obj), o.isFreed = false → Heap.IsStrIter (s.heap.push o) s.heap.objs.size cls x t 0 → (∀ A' : Around, A'.handled = none → Walks C.prog C.w A' s.heap.objs.size [s.heap.objs.size] [s.heap.objs.size] x.cps.size (SignAt x) (fun i h => h.IsStrIter s.heap.objs.size cls x t i)) →
        Q (.ref s.heap.objs.size) { s with heap := s.heap.push o } := by
      intro cls o hf h0 hW
      refine hQ _ [s.heap.objs.size] (SignAt x) (fun i h => h.IsStrIter s.heap.objs.size cls x t i) _ (Grow.push (tk := s.toks)) (S.hid (hpush _) hnone (o := o) (Heap.get?_push_size _ hf) _) hnone ⟨?_, h0, ?_, ?_, ?_, ?_, ?_⟩
      · intro A' hA; simpa using hW A' hA
      · intro b hb; exact .inl (List.mem_singleton.mp hb)
      · rintro i v ⟨cc, u, hcc, rfl⟩
        refine ⟨_, [], ?_, .str _ u⟩
        have : x.cps.toList[i]? = some cc := by simpa using hcc
        rw [List.getElem?_map, this]; rfl
      · rintro j h ⟨o, ho, _, hd⟩; exact ⟨o, _, ho, hd⟩
      · rintro i j h a ⟨cc, u, _, e⟩; cases e
      · have : x.cps.size ≤ 2 ^ 20 := hle
        simpa using this
    cases ha : x.cps.all (· < 128)
    · exact wpAny_pyIter_wide ha (fin _ _ rfl ⟨_, Heap.get?_push_size _ rfl, rfl, rfl⟩ fun A' hA => Walks.strWide hA _ x t)
    · exact wpAny_pyIter_ascii ha (fin _ _ rfl ⟨_, Heap.get?_push_size _ rfl, rfl, rfl⟩ fun A' hA => Walks.strAscii hA _ x t)
  | _ => simp [itemsV] at he
end
end Mine

-- M12
namespace Mine
open PySem PySem.Spec PySem.Calls PyProof.Rows PySem.W

section
variable {C : Cx} {env : Env} {c : CC} {tb : List (Str × Nat)} {wr : List Str} {ex X : List Addr} {loc : Loc} {s : Shared} {A : Around} {E : Value → Shared → Prop} {k : Nat} {F : Orc}

theorem si_val {e : Expr} {m : ME} (h : SE C F k c e m) : SI C F k c e (.val m) := fun env wr ex X loc s A Q E xs EO RM R he hQ => by
  refine bindE he fun d hd he => ?_
  refine h env wr ex X loc s A _ E d EO RM R hd fun v as s₁ g₁ S₁ r₁ => ?_
  exact iter_ok S₁ he r₁ fun I fp P Sti s₂ g₂ S₂ hI it => hQ I fp P Sti s₂ (g₁.trans' g₂) S₂ (g₁.fresh hI) it

theorem rng_iter {ex : List Addr} {r : Addr} {a b : Int} {t u w : Tok} {Q : Value → Shared → Prop} (S : St C ex s) (ok : rangeOk a b = true) (R : IsRange (Fz s.heap ex) r a b 1 t u w)
    (hQ : ∀ I fp P Sti s', Grow C [] s s' → St C (I :: ex) s' → s.heap.get? I = none → ItOk C ex I fp (rangeL a b) P Sti s' → Q (.ref I) s') : wpAny C.M A (pyIter (.ref r)) Q E s := by
  have hnone := get?_size s.heap
  have hb := rangeOk_iff ok
  have hlen : (rangeL a b).length = (b - a).toNat := by simp [rangeL]
  have hpush : ∀ o : Obj, Sub s.heap (s.heap.push o) := fun o _ _ e => Heap.get?_push_of_some _ e
  refine wpAny_pyIter_range (fz_sub _ _ R) (small_one (by omega) (by omega) (by omega) (by omega)) ?_
  refine hQ _ [s.heap.objs.size] (fun i v => i < (b - a).toNat ∧ ∃ t, v = .int (a + i * 1) t) (fun i h => IsRangeIter h s.heap.objs.size (a + (i : Nat) * 1) (((b - a).toNat : Int) - (i : Nat)) 1) _ (Grow.push (tk := s.toks)) (S.hid (hpush _) hnone (Heap.get?_push_size _ rfl) _) hnone ⟨?_, ?_, ?_, ?_, ?_, ?_, ?_⟩
  · intro A' hA
    rw [hlen]
    have W := Walks.range (prog := C.prog) (w := C.w) (A := A') hA s.heap.objs.size a 1 (b - a).toNat
    exact ⟨W.sub, W.frame, fun i s Q E hi st hQ => W.item i s Q E hi st fun v h' tk hv => hQ v h' tk ⟨hi, hv⟩, W.done, W.self⟩
  · show Heap.get? _ _ = _
    have e : Builtin.Range.rangeSize a b 1 = ((b - a).toNat : Int) := by rw [rangeSize_one]; split <;> omega
    rw [e]
    have := Heap.get?_push_size s.heap (o := { cls := .type "range_iterator", data := .fields #[rawInt a, rawInt ((b - a).toNat : Int), rawInt 1] }) rfl
    simpa using this
  · intro b hb; exact .inl (List.mem_singleton.mp hb)
  · rintro i v ⟨hi, t, rfl⟩
    refine ⟨.int (a + (i : Nat)), [], ?_, ?_⟩
    · simp [rangeL, hi]
    · rw [Int.mul_one]; exact .int _ t
  · intro j h ho; exact ⟨_, _, ho, rfl⟩
  · rintro i j h a ⟨_, t, e⟩; cases e
  · rw [hlen]; omega

theorem si_rng {x : Str} {p pos : Pos} {es : List Expr} {ms : List ME} (O : Ok C k F c) (hx : x = "range") (hg : isGlob c x = true) (hst : es.all notStar = true) (hs : SEs C F k c es ms) : SI C F k c (.Call (.Name x p) es [] pos) (.rng ms) := fun env wr ex X loc s A Q E xs EO RM R he hQ => by
  subst hx
  refine bindE he fun ds hds he => ?_
  obtain ⟨pr, hp, rfl⟩ := Option.map_eq_some_iff.mp he
  refine wpAny_Call_NameR (bi_name EO R hg (by decide +kernel) (by decide +kernel) (O.bi _ (by decide +kernel)) (v := .type "range") (by decide +kernel) ?_)
  refine PySem.callWith_type (plain_any hst) (evalArgs_all hst (hs env wr ex X loc s A pos _ E ds EO RM R hds fun vs as s₁ g₁ S₁ r₁ => ?_))
  refine call_rng S₁ hp r₁ fun s₂ t u w g₂ S₂ hnone hr => ?_
  have hok : rangeOk pr.1 pr.2 = true := by
    obtain ⟨_, _, _, h⟩ := rangeV_ok hp
    exact h
  exact rng_iter S₂ hok hr fun I fp P Sti s₃ g₃ S₃ hI it => hQ I fp P Sti s₃ ((g₁.trans' g₂).trans' g₃) S₃ ((g₁.trans' g₂).fresh hI) it

theorem si_var {x : Str} {i : Nat} {p : Pos} (hx : c.tb.lookup x = some i) : SI C F k c (.Name x p) (.var i) := fun env wr ex X loc s A Q E xs EO RM R he hQ => by
  have hn := R.tbok.names _ (mem_lookup hx)
  have hd : (x == ("__debug__" : Str)) = false := by simpa using hn.2
  refine MV.atE he fun m hl he => ?_
  cases m with
  | rng a b =>
    cases Option.some.inj he
    obtain ⟨v, hv, ok, r, t, u, w, rfl, hr⟩ := R.vars _ (mem_lookup hx) _ hl
    refine wpAny_Name (load_ok R.kind hn.1 hv ?_) hd
    exact rng_iter R.st ok hr hQ
  | dat d =>
    obtain ⟨v, hv, as, r⟩ := R.vars _ (mem_lookup hx) _ hl
    refine wpAny_Name (load_ok R.kind hn.1 hv ?_) hd
    exact iter_ok R.st he r hQ
  | own => cases he

theorem si_rev {x : Str} {y : Str} {m : ME} {p q pos : Pos} (O : Ok C k F c) (hx : x = "reversed") (hg : isGlob c x = true) (hm : SE C F k c (.Name y q) m) : SI C F k c (.Call (.Name x p) [.Name y q] [] pos) (.rev m) := fun env wr ex X loc s A Q E xs EO RM R he hQ => by
  subst hx
  refine bindE he fun d hd he => ?_
  refine wpAny_Call_NameR (bi_name EO R hg (by decide +kernel) (by decide +kernel) (O.bi _ (by decide +kernel)) (v := .type "reversed") (by decide +kernel) ?_)
  refine PySem.callWith_type (plain_any rfl) (evalArgs_all rfl ?_)
  refine spliced_cons (hm env wr ex X loc s A _ E _ EO RM R hd fun v as s₁ g₁ S₁ r₁ => spliced_nil ?_)
  cases d with
  | list ys =>
    simp only [revV] at he
    split at he <;> cases he
    rename_i hle
    obtain ⟨a, vs, as', rfl, hl, rs, hz⟩ := inv_list fz_sub r₁
    have ha : ∃ o, (Fz s₁.heap (X ++ ex)).get? a = some o := by cases r₁ with | list h1 _ _ _ => exact ⟨_, h1⟩
    obtain ⟨o, ha⟩ := ha
    have hnone := get?_size s₁.heap
    have hpush : ∀ o : Obj, Sub s₁.heap (s₁.heap.push o) := fun o _ _ e => Heap.get?_push_of_some _ e
    have hne : a ≠ s₁.heap.objs.size := Nat.ne_of_lt (Heap.lt_size (fz_sub _ _ ha))
    have ha' := fz_hid (ex := X ++ ex) (hpush (revObj a ((vs.size : Int) - 1))) hnone
    refine call_reversed_list hl ?_
    have hrev : Heap.IsRevIter (s₁.heap.push (revObj a ((vs.size : Int) - 1))) s₁.heap.objs.size a ((vs.size : Int) - 1) := ⟨_, Heap.get?_push_size _ rfl, rfl, rfl⟩
    refine wpAny_pyIter_revIter hrev ?_
    refine hQ _ [s₁.heap.objs.size, a] (fun i v => i < vs.size ∧ vs[vs.size - 1 - i]? = some v) (fun i h => i ≤ vs.size ∧ h.IsRevIter s₁.heap.objs.size a ((vs.size : Int) - 1 - (i : Int)) ∧ h.IsList a vs) _ (g₁.trans' (Grow.push (tk := s₁.toks))) (S₁.hid (hpush _) hnone (Heap.get?_push_size _ rfl) _) (g₁.fresh hnone) ⟨?_, ?_, ?_, ?_, ?_, ?_, by simpa using hle⟩
    · intro A' hA
      have W := Walks.listRev (prog := C.prog) (w := C.w) (A := A') hA s₁.heap.objs.size a hne vs
      rw [show ys.reverse.length = vs.size by simp [hz]]
      exact ⟨W.sub, W.frame, fun i s Q E hi st hQ => W.item i s Q E hi st fun v h' tk hv => hQ v h' tk ⟨hi, hv⟩, W.done, W.self⟩
    · exact ⟨Nat.zero_le _, by simpa using hrev, Heap.IsList.at hl fun o e => hpush _ _ _ e⟩
    · intro b hb
      rcases List.mem_cons.mp hb with rfl | hb
      · exact .inl rfl
      · rw [List.mem_singleton.mp hb]; exact .inr ⟨o, ha' _ _ ha⟩
    · rintro i v ⟨hi, hv⟩
      have hlt : i < ys.length := by omega
      obtain ⟨w, as'', hw, r⟩ := readsAll_get rs (vs.size - 1 - i) (ys[vs.size - 1 - i]'(by omega)) (List.getElem?_eq_getElem (by omega))
      have : w = v := by
        have h2 : vs[vs.size - 1 - i]? = some w := by simpa using hw
        rw [h2] at hv; exact Option.some.inj hv
      subst this
      refine ⟨_, _, ?_, Reads.keeps ha' r⟩
      have e9 : ys.length - 1 - i = vs.size - 1 - i := by omega
      rw [List.getElem?_reverse hlt, e9]
      exact List.getElem?_eq_getElem (by omega)
    · rintro j h ⟨_, ⟨o, ho, _, hd⟩, _⟩; exact ⟨o, _, ho, hd⟩
    · rintro i j h b hv ⟨_, ⟨o, ho, hc, _⟩, _⟩; exact ⟨o, _, ho, hc, by decide +kernel⟩
  | _ => simp [revV] at he
end
end Mine

-- M13
namespace Mine
open PySem PySem.Spec PySem.Calls PyProof.Rows PySem.W

noncomputable def frees (env : Env) : List (Str × NameKind) → List (Str × Addr) → List (Str × Addr)
  | [], acc => acc
  | (n, k) :: r, acc => if k == .free then frees env r ((n, (env.cells.lookup n).getD 0) :: acc) else frees env r acc

theorem closure_go {env : Env} (f : Str × NameKind → List (Str × Addr) → Sem (ForInStep (List (Str × Addr))))
    (hf : ∀ name kind cs, f (name, kind) cs = if kind == .free then (do let a ← cellOf env name; pure (.yield ((name, a) :: cs))) else pure (.yield cs)) :
    ∀ (names : List (Str × NameKind)) (acc : List (Str × Addr)), (∀ x, (x, NameKind.free) ∈ names → ∃ a, env.cells.lookup x = some a) → forIn names acc f = (pure (frees env names acc) : Sem _) := by
  intro names
  induction names with
  | nil => intro acc _; rfl
  | cons p r ih =>
    intro acc h
    obtain ⟨n, kd⟩ := p
    rw [List.forIn_cons, hf]
    unfold frees
    by_cases hk : (kd == NameKind.free) = true
    · rw [if_pos hk, if_pos hk]
      have hkd : kd = .free := eq_of_beq hk
      subst hkd
      obtain ⟨a, ha⟩ := h n (.head _)
      have hc : cellOf env n = pure a := by unfold cellOf; rw [ha]
      rw [hc]
      simp only [pure_bind]
      rw [ih _ fun x hx => h x (.tail _ hx), ha]; rfl
    · rw [if_neg hk, if_neg hk]
      simp only [pure_bind]
      exact ih _ fun x hx => h x (.tail _ hx)
theorem closure_ok {sc : Scope} {env : Env} (h : ∀ x, (x, NameKind.free) ∈ sc.names → ∃ a, env.cells.lookup x = some a) : closureFor sc env = pure (frees env sc.names []) := by
  unfold closureFor
  show (forIn sc.names [] _ >>= fun r => pure r) = _
  rw [closure_go (env := env) _ (fun name kind cells => by cases hkc : kind == NameKind.free <;> simp [hkc]) _ _ h]
  rfl

theorem frees_mem {env : Env} : ∀ {names : List (Str × NameKind)} {acc : List (Str × Addr)} {x : Str} {a : Addr}, (x, a) ∈ frees env names acc → (x, a) ∈ acc ∨ ((x, NameKind.free) ∈ names ∧ a = (env.cells.lookup x).getD 0) := by
  intro names
  induction names with
  | nil => intro acc x a h; exact .inl h
  | cons p r ih =>
    intro acc x a h
    obtain ⟨n, kd⟩ := p
    unfold frees at h
    split at h
    · rename_i hk
      have hkd : kd = .free := eq_of_beq hk
      subst hkd
      rcases ih h with h | ⟨h, e⟩
      · rcases List.mem_cons.mp h with h | h
        · cases h; exact .inr ⟨.head _, rfl⟩
        · exact .inl h
      · exact .inr ⟨.tail _ h, e⟩
    · rcases ih h with h | ⟨h, e⟩
      · exact .inl h
      · exact .inr ⟨.tail _ h, e⟩
theorem frees_has {env : Env} : ∀ {names : List (Str × NameKind)} {acc : List (Str × Addr)} {x : Str}, ((x, NameKind.free) ∈ names ∨ ∃ a, (x, a) ∈ acc) → ∃ a, (x, a) ∈ frees env names acc := by
  intro names
  induction names with
  | nil => intro acc x h; rcases h with h | h
           · cases h
           · exact h
  | cons p r ih =>
    intro acc x h
    obtain ⟨n, kd⟩ := p
    unfold frees
    split
    · rename_i hk
      refine ih ?_
      rcases h with h | ⟨a, h⟩
      · rcases List.mem_cons.mp h with h | h
        · cases h; exact .inr ⟨_, .head _⟩
        · exact .inl h
      · exact .inr ⟨a, .tail _ h⟩
    · rename_i hk
      refine ih ?_
      rcases h with h | h
      · rcases List.mem_cons.mp h with h | h
        · cases h; exact absurd (by rfl) hk
        · exact .inl h
      · exact .inr h
theorem lookup_of_mem {α : Type} : ∀ {l : List (Str × α)} {x : Str} {a : α}, (x, a) ∈ l → ∃ b, l.lookup x = some b := by
  intro l
  induction l with
  | nil => intro x a h; cases h
  | cons p r ih =>
    intro x a h
    obtain ⟨y, b⟩ := p
    rw [List.lookup_cons]
    cases hb : x == y with
    | true => exact ⟨b, rfl⟩
    | false =>
      rcases List.mem_cons.mp h with h | h
      · cases h; simp at hb
      · exact ih h
theorem lookup_uniq {α : Type} {l : List (Str × α)} (hn : (l.map (·.1)).Nodup) {x : Str} {a : α} (h : (x, a) ∈ l) : l.lookup x = some a := by
  induction l with
  | nil => cases h
  | cons p r ih =>
    obtain ⟨y, b⟩ := p
    simp only [List.map_cons, List.nodup_cons, List.mem_map, not_exists, not_and] at hn
    rw [List.lookup_cons]
    rcases List.mem_cons.mp h with h | h
    · cases h; simp
    · have hne : x ≠ y := fun e => hn.1 _ h e
      have : (x == y) = false := by simpa using hne
      rw [this]; exact ih hn.2 h

theorem cells_mem : ∀ {names : List (Str × NameKind)} {n : Nat} {acc : List (Str × Addr)} {x : Str} {a : Addr}, (x, a) ∈ cellsFrom n names acc → (x, a) ∈ acc ∨ ((x, NameKind.cell) ∈ names ∧ n ≤ a) := by
  intro names
  induction names with
  | nil => intro n acc x a h; exact .inl h
  | cons p r ih =>
    intro n acc x a h
    obtain ⟨m, kd⟩ := p
    unfold cellsFrom at h
    split at h
    · rename_i hk
      have hkd : kd = .cell := eq_of_beq hk
      subst hkd
      rcases ih h with h | ⟨h, e⟩
      · rcases List.mem_cons.mp h with h | h
        · cases h; exact .inr ⟨.head _, Nat.le_refl _⟩
        · exact .inl h
      · exact .inr ⟨.tail _ h, by omega⟩
    · rcases ih h with h | ⟨h, e⟩
      · exact .inl h
      · exact .inr ⟨.tail _ h, e⟩
theorem cells_has : ∀ {names : List (Str × NameKind)} {n : Nat} {acc : List (Str × Addr)} {x : Str}, ((x, NameKind.cell) ∈ names ∨ ∃ a, (x, a) ∈ acc) → ∃ a, (x, a) ∈ cellsFrom n names acc := by
  intro names
  induction names with
  | nil => intro n acc x h; rcases h with h | h
           · cases h
           · exact h
  | cons p r ih =>
    intro n acc x h
    obtain ⟨m, kd⟩ := p
    unfold cellsFrom
    split
    · rename_i hk
      refine ih ?_
      rcases h with h | ⟨a, h⟩
      · rcases List.mem_cons.mp h with h | h
        · cases h; exact .inr ⟨_, .head _⟩
        · exact .inl h
      · exact .inr ⟨a, .tail _ h⟩
    · rename_i hk
      refine ih ?_
      rcases h with h | h
      · rcases List.mem_cons.mp h with h | h
        · cases h; exact absurd (by rfl) hk
        · exact .inl h
      · exact .inr h
theorem cells_inj : ∀ {names : List (Str × NameKind)} {n : Nat} {acc : List (Str × Addr)}, (∀ x a, (x, a) ∈ acc → a < n) → (∀ x y a, (x, a) ∈ acc → (y, a) ∈ acc → x = y) →
    ∀ x y a, (x, a) ∈ cellsFrom n names acc → (y, a) ∈ cellsFrom n names acc → x = y := by
  intro names
  induction names with
  | nil => intro n acc _ h; exact h
  | cons p r ih =>
    intro n acc hlt h x y a hx hy
    obtain ⟨m, kd⟩ := p
    unfold cellsFrom at hx hy
    split at hx
    · rename_i hk
      rw [if_pos hk] at hy
      refine ih (n := n + 1) (acc := (m, n) :: acc) ?_ ?_ x y a hx hy
      · intro z b hz
        rcases List.mem_cons.mp hz with hz | hz
        · cases hz; exact Nat.lt_succ_self n
        · exact Nat.lt_succ_of_lt (hlt z b hz)
      · intro z z' b hz hz'
        rcases List.mem_cons.mp hz with hz | hz <;> rcases List.mem_cons.mp hz' with hz' | hz'
        · cases hz; cases hz'; rfl
        · cases hz; exact absurd (hlt _ _ hz') (Nat.lt_irrefl n)
        · cases hz'; exact absurd (hlt _ _ hz) (Nat.lt_irrefl n)
        · exact h _ _ _ hz hz'
    · rename_i hk
      rw [if_neg hk] at hy
      exact ih hlt h x y a hx hy
/-- the new cells are empty -/
theorem cells_empty : ∀ {names : List (Str × NameKind)} {h : Heap} {acc : List (Str × Addr)} {x : Str} {a : Addr}, (x, a) ∈ cellsFrom h.objs.size names acc → (x, a) ∈ acc ∨ (pushCells h names).IsCell a none := by
  intro names
  induction names with
  | nil => intro h acc x a hm; exact .inl hm
  | cons p r ih =>
    intro h acc x a hm
    obtain ⟨m, kd⟩ := p
    unfold cellsFrom at hm
    unfold pushCells
    split at hm
    · rename_i hk
      rw [if_pos hk]
      have := ih (h := h.push { cls := .type "cell", data := .cell none }) (acc := (m, h.objs.size) :: acc) (x := x) (a := a) (by rw [Heap.size_push]; exact hm)
      rcases this with h2 | h2
      · rcases List.mem_cons.mp h2 with h2 | h2
        · cases h2; exact .inr ⟨{ cls := .type "cell", data := .cell none }, pushCells_keeps _ _ _ _ (Heap.get?_push_size _ rfl), rfl⟩
        · exact .inl h2
      · exact .inr h2
    · rename_i hk
      rw [if_neg hk]; exact ih hm

theorem comp_env {M : Model} {A : Around} {E : Value → Shared → Prop} {s : Shared} {scope : Scope} {globals : Addr} {cl : List (Str × Addr)} {qual : Str} {env : Env} {Q : Env → Shared → Prop}
    (hQ : Q (newEnv scope s.heap.objs.size globals (cellsFrom (s.heap.objs.size + 1) scope.names cl) qual none .none (some env) env.builtins) { s with heap := pushCells (s.heap.push { cls := .type "dict", data := .dict #[] }) scope.names }) :
    wpAny M A (newFunctionEnv scope globals cl [] qual none .none (some env)) Q E s := by
  simp only [newFunctionEnv, Option.isSome_some, if_true]
  refine wpAny_bind (wpAny_alloc ?_)
  refine wpAny_bind (wpAny_layCells _ (fun name kind cells => by cases hkc : kind == NameKind.cell <;> simp [hkc]) _ _ _ _ ?_)
  rw [show ({ s with heap := s.heap.push { cls := .type "dict", data := .dict #[] } } : Shared).heap.objs.size = s.heap.objs.size + 1 from Heap.size_push ..]
  exact wpAny_bind (wpAny_pure (wpAny_pure hQ))

theorem relabel_lookup {sc : Scope} {env : Env} {x : Str} {kd : NameKind} : sc.names.lookup x = some kd → (relabel sc env).names.lookup x = some (if (kd == .free && env.scope.kind == .function && env.kindOf x == some .cell) then .cell else kd) := by
  unfold relabel
  generalize sc.names = l
  induction l with
  | nil => intro h; cases h
  | cons p r ih =>
    intro h
    obtain ⟨n, k⟩ := p
    rw [List.lookup_cons] at h
    show List.lookup x ((if (k == NameKind.free && env.scope.kind == .function && env.kindOf n == some .cell) = true then (n, NameKind.cell) else (n, k)) :: _) = _
    cases hx : x == n with
    | true =>
      rw [hx] at h; cases h
      have := eq_of_beq hx; subst this
      by_cases hc : (kd == NameKind.free && env.scope.kind == .function && env.kindOf x == some .cell) = true
      · rw [if_pos hc, if_pos hc]; simp [List.lookup_cons]
      · rw [if_neg hc, if_neg hc]; simp [List.lookup_cons]
    | false =>
      rw [hx] at h
      by_cases hc : (k == NameKind.free && env.scope.kind == .function && env.kindOf n == some .cell) = true
      · rw [if_pos hc, List.lookup_cons, hx]; exact ih h
      · rw [if_neg hc, List.lookup_cons, hx]; exact ih h
end Mine

-- M14
namespace Mine
open PySem PySem.Spec PySem.Calls PyProof.Rows PySem.W

structure CompOk (c : CC) (sc : Scope) : Prop where
  kind : sc.kind = .function
  nodup : (sc.names.map (·.1)).Nodup
  free : ∀ x, (x, NameKind.free) ∈ sc.names → c.sc.names.lookup x = some .cell ∨ c.sc.names.lookup x = some .free
  tb : TbOk (innerTb sc c.nx c.tb)
  below : ∀ p ∈ c.tb, p.2 < c.nx
theorem CompOk.of {c : CC} {sc : Scope} (h : compOk c sc = true) : CompOk c sc := by
  unfold compOk at h
  simp only [Bool.and_eq_true, decide_eq_true_eq, List.all_eq_true, bne_iff_ne, ne_eq, Bool.or_eq_true, beq_iff_eq] at h
  obtain ⟨⟨⟨⟨h1, h2⟩, h3⟩, ⟨h4, h5⟩, h6⟩, h7⟩ := h
  refine ⟨h1, h2, fun x hx => ?_, ⟨h4, h5, h6⟩, h7⟩
  rcases h3 _ hx with (h | h) | h
  · exact absurd rfl h
  · exact .inl h
  · exact .inr h

noncomputable def cEnv (sc : Scope) (env : Env) (Ca : Addr) : Env :=
  { newEnv sc Ca env.globals (cellsFrom (Ca + 1) sc.names (frees env sc.names [])) env.qual none .none (some env) env.builtins with scope := relabel sc env }

theorem relabel_none {sc : Scope} {env : Env} {x : Str} : sc.names.lookup x = none → (relabel sc env).names.lookup x = none := by
  unfold relabel
  generalize sc.names = l
  induction l with
  | nil => intro h; rfl
  | cons p r ih =>
    intro h
    obtain ⟨n, k⟩ := p
    rw [List.lookup_cons] at h
    show List.lookup x ((if (k == NameKind.free && env.scope.kind == .function && env.kindOf n == some .cell) = true then (n, NameKind.cell) else (n, k)) :: _) = _
    cases hx : x == n with
    | true => rw [hx] at h; cases h
    | false =>
      rw [hx] at h
      by_cases hc : (k == NameKind.free && env.scope.kind == .function && env.kindOf n == some .cell) = true
      · rw [if_pos hc, List.lookup_cons, hx]; exact ih h
      · rw [if_neg hc, List.lookup_cons, hx]; exact ih h

section
variable {C : Cx} {env : Env} {c : CC} {sc : Scope} {tb : List (Str × Nat)} {wr : List Str} {ex X : List Addr} {loc : Loc} {s : Shared} {A : Around} {E : Value → Shared → Prop} {k : Nat} {F : Orc} {Ca : Addr}

theorem cEnv_kind {x : Str} : (cEnv sc env Ca).kindOf x = (relabel sc env).names.lookup x := rfl
theorem cEnv_kindOf {x : Str} {kd : NameKind} (h : sc.names.lookup x = some kd) : (cEnv sc env Ca).kindOf x = some kd ∨ (kd = .free ∧ (cEnv sc env Ca).kindOf x = some .cell) := by
  rw [cEnv_kind, relabel_lookup h]
  split
  · rename_i hc
    simp only [Bool.and_eq_true, beq_iff_eq] at hc
    exact .inr ⟨hc.1.1, rfl⟩
  · exact .inl rfl

theorem outer_kind (EO : EnvOk env c) (K : CompOk c sc) {x : Str} (hx : (x, NameKind.free) ∈ sc.names) : env.kindOf x = some .cell ∨ env.kindOf x = some .free := by
  rcases K.free x hx with h | h
  · rcases EO.kinds _ _ h with h | ⟨h, _⟩
    · exact .inl h
    · cases h
  · rcases EO.kinds _ _ h with h | ⟨_, h⟩
    · exact .inr h
    · exact .inl h
theorem outer_cell (EO : EnvOk env c) (K : CompOk c sc) {x : Str} (hx : (x, NameKind.free) ∈ sc.names) : ∃ a, env.cells.lookup x = some a := EO.cells x (outer_kind EO K hx)

theorem comp_EnvOk (EO : EnvOk env c) (K : CompOk c sc) : EnvOk (cEnv sc env Ca) (inCC c sc) where
  glob := EO.glob
  bi := EO.bi
  kinds := fun x kd h => cEnv_kindOf h
  cells := fun x h => by
    show ∃ a, (cellsFrom (Ca + 1) sc.names (frees env sc.names [])).lookup x = some a
    have hm : (x, NameKind.cell) ∈ sc.names ∨ (x, NameKind.free) ∈ sc.names := by
      cases q : sc.names.lookup x with
      | none =>
        have := relabel_none (env := env) q
        rw [cEnv_kind, this] at h
        rcases h with h | h <;> cases h
      | some kd =>
        rw [cEnv_kind, relabel_lookup q] at h
        split at h
        · rename_i hc
          simp only [Bool.and_eq_true, beq_iff_eq] at hc
          exact .inr (hc.1.1 ▸ mem_lookup q)
        · rcases h with h | h <;> cases h
          · exact .inl (mem_lookup q)
          · exact .inr (mem_lookup q)
    rcases hm with hm | hm
    · obtain ⟨a, ha⟩ := cells_has (n := Ca + 1) (acc := frees env sc.names []) (.inl hm)
      exact lookup_of_mem ha
    · obtain ⟨a, ha⟩ := frees_has (env := env) (acc := []) (.inl hm)
      obtain ⟨b, hb⟩ := cells_has (names := sc.names) (n := Ca + 1) (acc := frees env sc.names []) (.inr ⟨a, ha⟩)
      exact lookup_of_mem hb

theorem St.hids {ex : List Addr} {h' : Heap} {Y : List Addr} (S : St C ex s) (k : Sub s.heap h') (hn : ∀ a ∈ Y, s.heap.get? a = none) (ho : ∀ a ∈ Y, ∃ o, h'.get? a = some o) (tk : Nat) : St C (Y ++ ex) { s with heap := h', toks := tk } := by
  have hf : Sub (Fz s.heap ex) (Fz h' (Y ++ ex)) := fz_mono (fun _ _ _ e => k _ _ e) fun b o hb e hb' => by
    rcases List.mem_append.mp hb' with h | h
    · rw [hn b h] at e; cases e
    · exact hb h
  refine ⟨S.gd.keeps hf, fun t ht => List.mem_append_right _ (S.tabx t ht), fun b hb => ?_, fun t ht => ?_, S.bare⟩
  · rcases List.mem_append.mp hb with h | h
    · exact ho b h
    · obtain ⟨o', e⟩ := S.there b h; exact ⟨o', k _ _ e⟩
  · obtain ⟨ps, h1, h2⟩ := S.tab t ht
    refine ⟨ps, k _ _ h1, h2.imp id ?_⟩
    rintro ⟨c', e, hc⟩
    exact ⟨c', e, hc.keeps hf⟩

/-- a hidden thing goes its own way -/
theorem St.drop {ex ex' : List Addr} {I : Addr} {h' : Heap} (S : St C ex s) (k : ∀ b o, b ≠ I → s.heap.get? b = some o → h'.get? b = some o) (hI : I ∈ ex) (hs : ∀ a ∈ ex', a ∈ ex ∧ a ≠ I) (ht : ∀ t ∈ C.tabs, t.P ∈ ex') (tk : Nat) : St C ex' { s with heap := h', toks := tk } := by
  have hf : Sub (Fz s.heap ex) (Fz h' ex') := fz_mono (fun b o hb e => k b o (fun e' => hb (e' ▸ hI)) e) fun b _ hb _ hb' => hb (hs b hb').1
  refine ⟨S.gd.keeps hf, ht, fun b hb => ?_, fun t ht' => ?_, S.bare⟩
  · obtain ⟨o, e⟩ := S.there b (hs b hb).1
    exact ⟨o, k b o (hs b hb).2 e⟩
  · obtain ⟨ps, h1, h2⟩ := S.tab t ht'
    refine ⟨ps, k _ _ (hs _ (ht t ht')).2 h1, h2.imp id ?_⟩
    rintro ⟨c', e, hc⟩
    exact ⟨c', e, hc.keeps hf⟩

theorem inLoc_get {nx n : Nat} {loc : Loc} {j : Nat} {mv : MV} (h : (inLoc nx n loc)[j]? = some (some mv)) : j < nx ∧ loc[j]? = some (some mv) ∧ ∀ l, mv ≠ .own l := by
  unfold inLoc at h
  rcases Nat.lt_or_ge j ((loc.take nx).length) with hj | hj
  · rw [List.getElem?_append_left (by simpa using hj), List.getElem?_map, List.getElem?_take] at h
    have hjn : j < nx := by rw [List.length_take] at hj; omega
    rw [if_pos hjn] at h
    refine ⟨hjn, ?_⟩
    cases hl : loc[j]? with
    | none => rw [hl] at h; cases h
    | some o =>
      rw [hl] at h
      cases o with
      | none => cases h
      | some mv' =>
        cases mv' with
        | own l => cases h
        | dat d => cases h; exact ⟨rfl, fun l e => by cases e⟩
        | rng a b => cases h; exact ⟨rfl, fun l e => by cases e⟩
  · rw [List.getElem?_append_right (by simpa using hj)] at h
    have := List.mem_of_getElem? h
    have := List.eq_of_mem_replicate this
    cases this

theorem newNames_mem {nx : Nat} {p : Str × Nat} (h : p ∈ newNames sc nx) : nx ≤ p.2 ∧ ((p.1, NameKind.local) ∈ sc.names ∨ (p.1, NameKind.cell) ∈ sc.names) := by
  unfold newNames at h
  obtain ⟨x, i⟩ := p
  have h1 := List.mem_zipIdx h
  refine ⟨h1.1, ?_⟩
  have h2 : x ∈ (sc.names.filter fun p => (p.2 == .local || p.2 == .cell) && p.1 != (".0" : Str)).map (·.1) := by
    rw [h1.2.2]; exact List.getElem_mem _
  obtain ⟨⟨y, kd⟩, hy, rfl⟩ := List.mem_map.mp h2
  have h3 := List.mem_filter.mp hy
  simp only [Bool.and_eq_true, Bool.or_eq_true, beq_iff_eq] at h3
  rcases h3.2.1 with h | h
  · subst h; exact .inl h3.1
  · subst h; exact .inr h3.1

noncomputable def newCells (sc : Scope) (env : Env) (Ca : Addr) : List Addr := ((cellsFrom (Ca + 1) sc.names (frees env sc.names [])).filter fun p => decide (Ca < p.2)).map (·.2)

/-- the frame of a comprehension, as it starts -/
theorem comp_Rel {s₃ : Shared} {D I : Addr} (EO : EnvOk env c) (K : CompOk c sc) (R : Rel C env c.tb wr ex X loc s) (G : Grow C [] s s₃) (S₃ : St C (D :: I :: (X ++ ex)) s₃) (hI : s.heap.get? I = none) (hD : s.heap.get? D = none) :
    ∃ X', (∀ a ∈ X', s₃.heap.get? a = none) ∧ s₃.heap.objs.size ∈ X' ∧
    Rel C (cEnv sc env s₃.heap.objs.size) (inCC c sc).tb ((newNames sc c.nx).map (·.1)) (D :: I :: (X ++ ex)) X' (inLoc c.nx (newNames sc c.nx).length loc) { s₃ with heap := pushCells (s₃.heap.push { cls := .type "dict", data := .dict #[] }) sc.names } := by
  have hsub : Sub s₃.heap (pushCells (s₃.heap.push { cls := .type "dict", data := .dict #[] }) sc.names) := fun b o e => pushCells_keeps _ _ b o (Heap.get?_push_of_some _ e)
  have hns : Heap.Ns (pushCells (s₃.heap.push { cls := .type "dict", data := .dict #[] }) sc.names) s₃.heap.objs.size (fun _ => none) := (Heap.Ns.new s₃.heap (.type "dict")).keeps (pushCells_keeps _ _)
  generalize hH : pushCells (s₃.heap.push { cls := .type "dict", data := .dict #[] }) sc.names = H at hsub hns ⊢
  have hlow : ∀ x a, (x, a) ∈ frees env sc.names [] → (x, NameKind.free) ∈ sc.names ∧ env.cells.lookup x = some a ∧ a < s₃.heap.objs.size := by
    intro x a h
    rcases frees_mem h with h | ⟨h, e⟩
    · cases h
    · obtain ⟨b, hb⟩ := outer_cell EO K h
      rw [hb] at e
      have e' : a = b := e
      subst e'
      obtain ⟨_, o, ho, _⟩ := R.held x a hb
      obtain ⟨o', ho'⟩ := G.alive a o ho
      exact ⟨h, hb, Heap.lt_size ho'⟩
  have hcell : ∀ x a, (x, a) ∈ cellsFrom (s₃.heap.objs.size + 1) sc.names (frees env sc.names []) → ((x, NameKind.cell) ∈ sc.names ∧ s₃.heap.objs.size + 1 ≤ a ∧ H.IsCell a none) ∨ (x, a) ∈ frees env sc.names [] := by
    intro x a h
    rcases cells_mem h with h2 | ⟨h1, h2⟩
    · exact .inr h2
    · have h3 := cells_empty (names := sc.names) (h := s₃.heap.push { cls := .type "dict", data := .dict #[] }) (acc := frees env sc.names []) (x := x) (a := a) (by rw [Heap.size_push]; exact h)
      rw [hH] at h3
      rcases h3 with h3 | h3
      · exact .inr h3
      · exact .inl ⟨h1, h2, h3⟩
  have hX : ∀ a ∈ s₃.heap.objs.size :: newCells sc env s₃.heap.objs.size, s₃.heap.get? a = none ∧ ∃ o, H.get? a = some o := by
    intro a ha
    rcases List.mem_cons.mp ha with rfl | ha
    · obtain ⟨o, _, _, e, _⟩ := hns
      exact ⟨get?_size _, o, e⟩
    · unfold newCells at ha
      obtain ⟨⟨x, b⟩, hb, rfl⟩ := List.mem_map.mp ha
      have hb' := List.mem_filter.mp hb
      have hlt : s₃.heap.objs.size < b := of_decide_eq_true hb'.2
      refine ⟨?_, ?_⟩
      · cases q : s₃.heap.get? b with
        | none => rfl
        | some o => exact absurd (Heap.lt_size q) (Nat.not_lt.mpr (Nat.le_of_lt hlt))
      · rcases hcell x b hb'.1 with ⟨_, _, o, e, _⟩ | h
        · exact ⟨o, e⟩
        · exact absurd (hlow x b h).2.2 (Nat.not_lt.mpr (Nat.le_of_lt hlt))
  have hS : St C ((s₃.heap.objs.size :: newCells sc env s₃.heap.objs.size) ++ (D :: I :: (X ++ ex))) { s₃ with heap := H } := S₃.hids hsub (fun a ha => (hX a ha).1) (fun a ha => (hX a ha).2) s₃.toks
  have lk : ∀ x a, (cEnv sc env s₃.heap.objs.size).cells.lookup x = some a → (x, a) ∈ cellsFrom (s₃.heap.objs.size + 1) sc.names (frees env sc.names []) := fun x a h => mem_lookup h
  refine ⟨s₃.heap.objs.size :: newCells sc env s₃.heap.objs.size, fun a ha => (hX a ha).1, .head _, ⟨K.tb, K.kind, hS, .head _, ⟨_, hns⟩, fun t ht => ?_, ?_, ?_, ?_, ?_, ?_, ?_, ?_⟩⟩
  · exact List.mem_cons_of_mem _ (List.mem_cons_of_mem _ (List.mem_append_right _ (R.tabex t ht)))
  · rintro a ha ⟨t, ht, rfl⟩
    obtain ⟨ps, h1, _⟩ := S₃.tab t ht
    rw [(hX _ ha).1] at h1; cases h1
  · intro a ha hb
    obtain ⟨o, e⟩ := S₃.there a hb
    rw [(hX _ ha).1] at e; cases e
  · intro x y a hx hy
    refine cells_inj (names := sc.names) (n := s₃.heap.objs.size + 1) (acc := frees env sc.names []) (fun z b hz => Nat.lt_succ_of_lt (hlow z b hz).2.2) (fun z z' b hz hz' => R.apart z z' b (hlow z b hz).2.1 (hlow z' b hz').2.1) x y a (lk _ _ hx) (lk _ _ hy)
  · intro x a h
    rcases hcell x a (lk _ _ h) with ⟨_, _, h3⟩ | h
    · exact ⟨none, h3⟩
    · obtain ⟨v, o, ho, hd⟩ := R.held x a (hlow x a h).2.1
      exact ⟨v, o, hsub _ _ (G.obj R.st ho (by rw [hd]; nofun) (fun h => nomatch h)), hd⟩
  · intro x hx
    obtain ⟨p, hp, rfl⟩ := List.mem_map.mp hx
    rcases (newNames_mem hp).2 with h | h
    · refine .inl ?_
      have q := lookup_uniq K.nodup h
      rcases cEnv_kindOf (env := env) (Ca := s₃.heap.objs.size) q with h | ⟨h, _⟩
      · exact h
      · cases h
    · have q := lookup_uniq K.nodup h
      have hk : (cEnv sc env s₃.heap.objs.size).kindOf p.1 = some .cell := by
        rcases cEnv_kindOf (env := env) (Ca := s₃.heap.objs.size) q with h | ⟨h, _⟩
        · exact h
        · cases h
      obtain ⟨a, ha⟩ := (comp_EnvOk (Ca := s₃.heap.objs.size) EO K).cells _ (.inl hk)
      refine .inr ⟨hk, a, ha, ?_⟩
      rcases hcell _ a (lk _ _ ha) with ⟨_, h2, h3⟩ | h2
      · refine ⟨List.mem_cons_of_mem _ (List.mem_map.mpr ⟨(p.1, a), List.mem_filter.mpr ⟨lk _ _ ha, ?_⟩, rfl⟩), none, h3⟩
        exact decide_eq_true h2
      · have := lookup_uniq K.nodup (hlow _ a h2).1
        rw [q] at this; cases this
  · intro p hp mv hm
    obtain ⟨h1, h2, h3⟩ := inLoc_get hm
    rcases List.mem_append.mp (show p ∈ newNames sc c.nx ++ _ from hp) with hp' | hp'
    · have := (newNames_mem hp').1; omega
    · have hf := List.mem_filter.mp hp'
      have hfree : sc.names.lookup p.1 = some .free := eq_of_beq hf.2
      obtain ⟨v, hv, hmv⟩ := R.vars p hf.1 mv h2
      have hmem := mem_lookup hfree
      have hok := outer_kind EO K hmem
      have ko : ∀ b o, s.heap.get? b = some o → (∀ ps, o.data ≠ .fields ps) → H.get? b = some o := fun b o e hd => hsub _ _ (G.obj R.st e hd (fun h => nomatch h))
      refine ⟨v, ?_, ?_⟩
      · rcases hv with ⟨h, _⟩ | ⟨_, a, ha, o, ho, hd⟩
        · rw [h] at hok; rcases hok with h | h <;> cases h
        · refine .inr ⟨?_, a, ?_, o, ko _ _ ho (by rw [hd]; nofun), hd⟩
          · rcases cEnv_kindOf (env := env) (Ca := s₃.heap.objs.size) hfree with h | ⟨_, h⟩
            · exact .inr h
            · exact .inl h
          · obtain ⟨b, hb⟩ := (comp_EnvOk (Ca := s₃.heap.objs.size) EO K).cells p.1 (by
              rcases cEnv_kindOf (env := env) (Ca := s₃.heap.objs.size) hfree with h | ⟨_, h⟩
              · exact .inr h
              · exact .inl h)
            rcases hcell _ b (lk _ _ hb) with ⟨h4, _⟩ | h4
            · have := lookup_uniq K.nodup h4
              rw [hfree] at this; cases this
            · have := (hlow _ b h4).2.1
              rw [ha] at this; cases this
              exact hb
      · have hfz : Sub (Fz s.heap (X ++ ex)) (Fz H ((s₃.heap.objs.size :: newCells sc env s₃.heap.objs.size) ++ (D :: I :: (X ++ ex)))) :=
          fz_mono (fun b o hb e => hsub _ _ (G.keep b o (fun h => nomatch h) (fun ⟨t, ht, e'⟩ => hb (e' ▸ List.mem_append_right _ (R.tabex t ht))) e)) fun b o hb e hb' => by
            rcases List.mem_append.mp hb' with h | h
            · have := G.fresh (hX b h).1; rw [this] at e; cases e
            · rcases List.mem_cons.mp h with rfl | h
              · rw [hD] at e; cases e
              · rcases List.mem_cons.mp h with rfl | h
                · rw [hI] at e; cases e
                · exact hb h
        cases mv with
        | dat d => obtain ⟨as, r⟩ := hmv; exact ⟨as, Reads.keeps hfz r⟩
        | rng a b => obtain ⟨ok, r, t, u, w, e, hr⟩ := hmv; exact ⟨ok, r, t, u, w, e, hfz _ _ hr⟩
        | own l => exact absurd rfl (h3 l)
  · intro p hp q hq hn l l' a h1
    exact absurd rfl ((inLoc_get h1).2.2 l)
end
end Mine

-- M15
namespace Mine
open PySem PySem.Spec PySem.Calls PyProof.Rows PySem.W

section
variable {C : Cx} {env : Env} {c : CC} {sc : Scope} {tb : List (Str × Nat)} {wr : List Str} {ex X : List Addr} {loc : Loc} {s : Shared} {A : Around} {E : Value → Shared → Prop} {k : Nat} {F : Orc} {Ca : Addr}

theorem compLoop_rule {prog : Program} {w : World} {R : Result → Shared → Prop} {elt target iter : Expr} {scope : Scope} {pos : Pos} {I : Addr} {acc : Value} {env : Env} (Inv : Nat → Shared → Prop)
    (turn : ∀ n s, Inv n s → ∀ NE : Value → Shared → Prop, wpAny (model prog w) A (pyNext (.ref I)) (fun r s₁ => match r with
      | none => R (.ok .next) s₁
      | some v => wpAny (model prog w) A (letOwnedTupleGo target (.ref I) v) (fun _ s₁' => wpAny (model prog w) A (assign target env v) (fun _ s₂ => wpAny (model prog w) A (eval elt env) (fun x s₃ =>
          wpAny (model prog w) A (call (.builtin "list.append") [acc, x]) (fun _ s₄ => ∃ m, m < n ∧ Inv m s₄) NE s₃) NE s₂) NE s₁') NE s₁) NE s)
    (n : Nat) (h : Inv n s) :
    codeAny (model prog w) A (.compLoop (.ListComp elt [⟨target, iter, [], 0⟩] scope pos) 0 (.ref I) acc env) R s := by
  refine codeAny_loop rfl Inv (fun n s hI => ?_) n h
  show wpAny _ _ ((compTurn (.ListComp elt [⟨target, iter, [], 0⟩] scope pos) 0 (.ref I) acc env).onRaise (fun x => do noteFrame x env; theTreesLotGoes x)) _ _ s
  refine wpAny_noted ?_
  rw [compTurn_list1]
  refine wpAny_bind (wpAny_standAt (wpAny_bind (wpAny_mono (turn n s hI _) (fun r s₁ h₁ => ?_) fun _ _ h' => h')))
  cases r with
  | none => exact wpAny_pure h₁
  | some v =>
    refine wpAny_bind (wpAny_mono h₁ (fun _ s₁' h₁' => ?_) fun _ _ h' => h')
    exact wpAny_bind (wpAny_mono h₁' (fun _ s₂ h₂ => wpAny_bind (wpAny_bind (wpAny_mono h₂ (fun x s₃ h₃ => wpAny_bind (wpAny_mono h₃
      (fun _ s₄ h₄ => wpAny_pure (wpAny_pure ⟨rfl, h₄⟩)) fun _ _ h' => h')) fun _ _ h' => h'))) fun _ _ h' => h')

/-- one turn of an iterator, seen from a frame that hides it -/
theorem turn_ok {I : Addr} {fp : List Addr} {n i : Nat} {P : Nat → Value → Prop} {Sti : Nat → Heap → Prop} {Q : Option Value → Shared → Prop} (W : Walks C.prog C.w A I fp [I] n P Sti)
    (live : ∀ j h, Sti j h → ∃ o vs, h.get? I = some o ∧ o.data = .fields vs) (R : Rel C env tb wr ex X loc s) (hI : I ∈ ex) (hn : ¬ isTab C I) (hi : i < n) (st : Sti i s.heap)
    (h : ∀ v s', P i v → Grow C [I] s s' → Sti (i + 1) s'.heap → Rel C env tb wr ex X loc s' → Q (some v) s') : wpAny C.M A (pyNext (.ref I)) Q E s := by
  refine W.item i s Q E hi st fun v h' tk hv st' hk => ?_
  obtain ⟨o, vs, ho, hd⟩ := live _ _ st
  obtain ⟨o', vs', ho', hd'⟩ := live _ _ st'
  have hG : Grow C [I] s { s with heap := h', toks := tk } := ⟨fun b ob hb _ e => hk b ob hb e, fun b ob e => by
    by_cases hb : b = I
    · subst hb; exact ⟨o', ho'⟩
    · exact ⟨ob, hk b ob (by simpa using hb) e⟩, rfl, Nat.le_refl _, fun _ _ => rfl⟩
  have hS : St C (X ++ ex) { s with heap := h', toks := tk } := R.st.grow hG (fun b hb => by rw [List.mem_singleton.mp hb]; exact List.mem_append_right _ hI) (fun t ht => by
    obtain ⟨ps, h1, _⟩ := R.st.tab t ht
    exact (hk _ _ (by simpa using fun e => hn ⟨t, ht, e⟩) h1).trans h1.symm) R.st.bare
  exact h v _ hv hG st' (R.out hG hS fun a ha => by
    rw [List.mem_singleton.mp ha]
    exact ⟨hI, fun ob e => by rw [ho] at e; cases e; rw [hd]; exact ⟨nofun, nofun⟩⟩)

theorem Walks.over {prog : Program} {w : World} {I : Addr} {fp wrr : List Addr} {n i : Nat} {P : Nat → Value → Prop} {Sti : Nat → Heap → Prop} {Y : List Addr} {s s' : Shared} (W : Walks prog w A I fp wrr n P Sti) (st : Sti i s.heap) (G : Grow C Y s s')
    (h : ∀ b ∈ fp, b ∉ Y ∧ ¬ isTab C b) : Sti i s'.heap := W.frame i _ _ st fun b hb o e => G.keep b o (h b hb).1 (h b hb).2 e

theorem mapMO_get {α β : Type} {f : α → Option β} : ∀ {l : List α} {r : List β}, mapMO f l = some r → l.length = r.length ∧ ∀ (i : Nat) a, l[i]? = some a → ∃ b, f a = some b ∧ r[i]? = some b := by
  intro l
  induction l with
  | nil => intro r h; cases h; exact ⟨rfl, fun i a e => nomatch e⟩
  | cons x l ih =>
    intro r h
    refine bindE h fun y hy h => ?_
    obtain ⟨ys, hys, rfl⟩ := Option.map_eq_some_iff.mp h
    obtain ⟨h1, h2⟩ := ih hys
    refine ⟨by simp [h1], fun i a e => ?_⟩
    cases i with
    | zero => simp at e; subst e; exact ⟨y, hy, by simp⟩
    | succ i => simp at e; obtain ⟨b, hb, hr⟩ := h2 i a e; exact ⟨b, hb, by simpa using hr⟩

theorem setMany_get {l : List Nat} : ∀ {ds : List PyData} {loc loc' : Loc}, setMany loc l ds = some loc' → ∀ j, j ∉ l → loc'[j]? = loc[j]? := by
  induction l with
  | nil => intro ds loc loc' h j _; exact nilE h fun _ e => e ▸ rfl
  | cons i l ih =>
    intro ds loc loc' h j hj
    cases ds with
    | nil => exact noneE h
    | cons d ds =>
      rw [ih h j (fun e => hj (.tail _ e)), getElem?_set_ne _ _ _ _ (fun e => hj (by rw [e]; exact .head _))]
noncomputable def Tg.slots : Tg → List Nat
  | .one i => [i]
  | .many l => l
theorem bindT_get {t : Tg} {d : PyData} {loc loc' : Loc} (h : bindT loc t d = some loc') {j : Nat} (hj : j ∉ t.slots) : loc'[j]? = loc[j]? := by
  cases t with
  | one i => cases Option.some.inj h; exact getElem?_set_ne _ _ _ _ (fun e => hj (by simp [Tg.slots, e]))
  | many l =>
    exact bindE h fun ds _ h => setMany_get h j hj
theorem tgOk_slots {e : Expr} {t : Tg} (h : TgOk tb wr e t) : ∀ i ∈ t.slots, ∃ x ∈ wr, tb.lookup x = some i := by
  cases h with
  | one h1 h2 => intro i hi; rw [List.mem_singleton.mp hi]; exact ⟨_, h2, h1⟩
  | many hn =>
    rename_i es n p l
    show ∀ i ∈ l, _
    clear n p
    induction hn with
    | nil => intro i hi; cases hi
    | cons h1 h2 _ ih =>
      intro i hi
      rcases List.mem_cons.mp hi with rfl | hi
      · exact ⟨_, h2, h1⟩
      · exact ih i hi

/-- the loop of a comprehension -/
theorem comp_loop {c' : CC} {env : Env} {elt target iter : Expr} {scope : Scope} {pos : Pos} {I D : Addr} {fp : List Addr} {xs rs : List PyData} {P : Nat → Value → Prop} {Sti : Nat → Heap → Prop} {nx n : Nat} {loc₀ : Loc} {a : ME} {tg : Tg} {RR : Result → Shared → Prop}
    (EO : EnvOk env c') (RM : Room A k) (R : Rel C env c'.tb wr ex X loc s) (hloc : ∀ p ∈ c'.tb, ∀ mv, loc[p.2]? = some (some mv) → p.2 < nx) (hnew : ∀ x ∈ wr, ∀ i, c'.tb.lookup x = some i → nx ≤ i)
    (he : SE C F k c' elt a) (ht : TgOk c'.tb wr target tg) (hv : mapMO (fun x => (bindT loc tg x).bind fun loc' => evE F loc' a) xs = some rs)
    (W : Walks C.prog C.w A I fp [I] xs.length P Sti) (live : ∀ j h, Sti j h → ∃ o vs, h.get? I = some o ∧ o.data = .fields vs)
    (cls : ∀ i j h b, P i (.ref b) → Sti j h → ∃ o n, h.get? I = some o ∧ o.cls = .type n ∧ lots.contains n = false) (few : xs.length ≤ 2 ^ 20)
    (st0 : Sti 0 s.heap) (hfp : ∀ b ∈ fp, b ∉ X ∧ b ≠ D ∧ ¬ isTab C b) (vals : ∀ i v, P i v → ∃ d as, xs[i]? = some d ∧ Reads (Fz s.heap (X ++ ex)) v d as)
    (hI : I ∈ ex) (hD : D ∈ ex) (hID : I ≠ D) (hIt : ¬ isTab C I) (hDt : ¬ isTab C D) (hDl : s.heap.PlainList D #[])
    (hfin : ∀ ys as s' h' tk, Grow C (D :: I :: X) s s' → Rel C env c'.tb wr ex X loc s' → s'.heap.PlainList D ys → ReadsAll (Fz s'.heap (X ++ ex)) ys.toList rs as → (∀ b o, b ≠ I → s'.heap.get? b = some o → h'.get? b = some o) → RR (.ok .next) { s' with heap := h', toks := tk }) :
    codeAny C.M A (.compLoop (.ListComp elt [⟨target, iter, [], 0⟩] scope pos) 0 (.ref I) (.ref D) env) RR s := by
  have hDX : D ∉ X := fun h => R.disj D h hD
  have hIX : I ∉ X := fun h => R.disj I h hI
  obtain ⟨hlen, hget⟩ := mapMO_get hv
  refine compLoop_rule (fun m s' => ∃ i ys as, m = xs.length + 1 - i ∧ i ≤ xs.length ∧ Sti i s'.heap ∧ Rel C env c'.tb wr ex X loc s' ∧ Grow C (D :: I :: X) s s' ∧ s'.heap.PlainList D ys ∧ ReadsAll (Fz s'.heap (X ++ ex)) ys.toList (rs.take i) as) ?_ (xs.length + 1)
    ⟨0, #[], [], rfl, Nat.zero_le _, st0, R, Grow.refl .., hDl, by simpa using ReadsAll.nil⟩
  rintro m s' ⟨i, ys, as, rfl, hi, st, R', G', hl, hr⟩ NE
  by_cases hlt : i < xs.length
  · refine turn_ok W live R' hI hIt hlt st fun v s₁ hPv g₁ st₁ R₁ => ?_
    obtain ⟨d, bs, hd, rd⟩ := vals i v hPv
    obtain ⟨b, hb, hbr⟩ := hget i d hd
    obtain ⟨loc', hloc', hb⟩ := Option.bind_eq_some_iff.mp hb
    have hex : ∀ a ∈ D :: I :: X, a ∈ X ++ ex := fun a ha => by
      rcases List.mem_cons.mp ha with rfl | ha
      · exact List.mem_append_right _ hD
      · rcases List.mem_cons.mp ha with rfl | ha
        · exact List.mem_append_right _ hI
        · exact List.mem_append_left _ ha
    have hexI : ∀ a ∈ [I], a ∈ X ++ ex := fun a ha => by rw [List.mem_singleton.mp ha]; exact List.mem_append_right _ hI
    have hexX : ∀ a ∈ X, a ∈ X ++ ex := fun a ha => List.mem_append_left _ ha
    have hexD : ∀ a ∈ [D], a ∈ X ++ ex := fun a ha => by rw [List.mem_singleton.mp ha]; exact List.mem_append_right _ hD
    refine letgo_ok (fun a ha => cls i _ _ a (ha ▸ hPv) st₁) ?_
    refine target_ok ht RM.hh R₁ hloc' (Reads.keeps (g₁.fz hexI R'.st.tabx) (Reads.keeps (G'.fz hex R.st.tabx) rd)) fun s₂ g₂ R₂ => ?_
    refine he env wr ex X loc' s₂ A _ NE b EO RM R₂ hb fun u cs s₃ g₃ S₃ ru => ?_
    have R₃ := R₂.grow g₃ S₃
    have hl₃ : s₃.heap.PlainList D ys := by
      refine hl.at fun o e => ?_
      exact g₃.keep D o (fun h => nomatch h) hDt (g₂.keep D o hDX hDt (g₁.keep D o (by simpa using Ne.symm hID) hDt e))
    have hr₃ : ReadsAll (Fz s₃.heap (X ++ ex)) ys.toList (rs.take i) as := ReadsAll.keeps (g₃.fz (fun _ h => nomatch h) R₂.st.tabx) (ReadsAll.keeps (g₂.fz hexX R₁.st.tabx) (ReadsAll.keeps (g₁.fz hexI R'.st.tabx) hr))
    have hsz : ys.size = i := by
      have := readsAll_len hr
      rw [List.length_take] at this
      have e2 : ys.toList.length = ys.size := by simp
      omega
    refine wpAny_list_append_plain hl₃ (fun h₅ hl₅ hs₅ => ?_) (by rw [sizeLine_eq]; omega)
    have hl₅' : ∃ o, h₅.get? D = some o := let ⟨_, e⟩ := hl₅; ⟨_, e⟩
    obtain ⟨oD, hoD⟩ := hl₅'
    have g₅ : Grow C [D] s₃ { s₃ with heap := h₅, toks := s₃.toks } := Grow.but (.head _) hs₅ hoD s₃.toks
    have S₅ : St C (X ++ ex) { s₃ with heap := h₅, toks := s₃.toks } := S₃.but (List.mem_append_right _ hD) hDt hs₅ hoD s₃.toks
    have R₅ := R₃.out g₅ S₅ fun a ha => by
      rw [List.mem_singleton.mp ha]
      refine ⟨hD, fun o e => ?_⟩
      obtain ⟨n, e'⟩ := hl₃
      rw [e'] at e; cases e; exact ⟨nofun, nofun⟩
    obtain ⟨bs₅, hr₅⟩ : ∃ bs₅, ReadsAll (Fz h₅ (X ++ ex)) (ys.push u).toList (rs.take (i + 1)) bs₅ := by
     have e1 : rs.take (i + 1) = rs.take i ++ [b] := by
        rw [List.take_add_one, hbr]; rfl
     rw [e1, Array.toList_push]
     exact ⟨_, readsAll_append (ReadsAll.keeps (g₅.fz hexD S₃.tabx) hr₃) (ReadsAll.cons (Reads.keeps (g₅.fz hexD S₃.tabx) ru) .nil)⟩
    refine ⟨xs.length + 1 - (i + 1), by omega, i + 1, ys.push u, bs₅, rfl, hlt, ?_, R₅.fewer ?_, ?_, hl₅, ?_⟩
    · refine Walks.over (C := C) (Y := [D]) W (s := s₃) ?_ g₅ fun b hb => ⟨by simpa using (hfp b hb).2.1, (hfp b hb).2.2⟩
      refine Walks.over (C := C) (Y := []) W (s := s₂) ?_ g₃ fun b hb => ⟨(fun h => nomatch h), (hfp b hb).2.2⟩
      exact Walks.over (C := C) (Y := X) W (s := s₁) st₁ g₂ fun b hb => ⟨(hfp b hb).1, (hfp b hb).2.2⟩
    · intro p hp mv hm
      have h1 := hloc p hp mv hm
      rw [bindT_get hloc' fun hs => ?_]
      · exact hm
      · obtain ⟨x, hx, hl⟩ := tgOk_slots ht _ hs
        have := hnew x hx _ hl
        omega
    · have hsub : ∀ {Y : List Addr} {s₁ s₂ : Shared}, Grow C Y s₁ s₂ → (∀ a ∈ Y, a ∈ D :: I :: X) → Grow C (D :: I :: X) s₁ s₂ := fun g h => g.weak h
      exact ((((G'.trans' (hsub g₁ fun a ha => by rw [List.mem_singleton.mp ha]; exact .tail _ (.head _))).trans' (hsub g₂ fun a ha => .tail _ (.tail _ ha))).trans' (hsub g₃ fun a ha => nomatch ha)).trans' (hsub g₅ fun a ha => by rw [List.mem_singleton.mp ha]; exact .head _))
    · exact hr₅
  · have hin : i = xs.length := by omega
    subst hin
    refine W.done s' _ _ st fun h' tk hk => ?_
    refine hfin ys as s' h' tk G' R' hl ?_ fun b o hb e => hk b o (by simpa using hb) e
    rw [show rs = rs.take xs.length by rw [hlen, List.take_length]]
    exact hr
end
end Mine

-- M16
namespace Mine
open PySem PySem.Spec PySem.Calls PyProof.Rows PySem.W

section
variable {C : Cx} {env : Env} {c : CC} {sc : Scope} {tb : List (Str × Nat)} {wr : List Str} {ex X : List Addr} {loc : Loc} {s : Shared} {A : Around} {E : Value → Shared → Prop} {k : Nat} {F : Orc} {Ca : Addr}

theorem folded_plain {it : Expr} (h : plainIter it = true) (env : Env) (x : Value) : foldedSetIterable it env x = pure x := by
  cases it <;> first | rfl | cases h

theorem comp_wp {elt target it : Expr} {pos pos' : Pos} {use : Option (Value → Sem Unit)} {mi : MI} {a : ME} {tg : Tg} {xs rs : List PyData} {Q : Value → Shared → Prop}
    (K : CompOk c sc) (hp : plainIter it = true) (hi : SI C F k c it mi) (he : SE C F k (inCC c sc) elt a) (ht : targetOf (newNames sc c.nx) target = some tg)
    (EO : EnvOk env c) (RM : Room A k) (R : Rel C env c.tb wr ex X loc s) (hxs : evI F loc mi = some xs)
    (hrs : mapMO (fun x => (bindT (inLoc c.nx (newNames sc c.nx).length loc) tg x).bind fun loc' => evE F loc' a) xs = some rs)
    (hfin : ∀ D Ca ys as s', Grow C [] s s' → St C (Ca :: D :: (X ++ ex)) s' → s.heap.get? D = none → s.heap.get? Ca = none → D ≠ Ca → (∃ m, s'.heap.Ns Ca m) → s'.heap.PlainList D ys → ReadsAll (Fz s'.heap (Ca :: D :: (X ++ ex))) ys.toList rs as → compPost C.M A E use Q (.ref D) Ca (.ok .next) s') :
    wpAny C.M A (comprehension (.ListComp elt [⟨target, it, [], 0⟩] sc pos) sc env pos' (newList []) false (eval it env) use) Q E s := by
  refine wpAny_comprehension_free rfl (folded_plain hp env) (closure_ok fun x hx => outer_cell EO K hx) K.kind (fun x hx hl => by
    obtain ⟨y, kd⟩ := x
    have hl' : kd = .local := hl
    subst hl'
    exact lookup_uniq K.nodup hx) ?_
  refine hi env wr ex X loc s A _ E xs EO RM R hxs fun I fp P Sti s₂ g₂ S₂ hI it' => ?_
  have hpush : ∀ o : Obj, Sub s₂.heap (s₂.heap.push o) := fun o _ _ e => Heap.get?_push_of_some _ e
  have hD₂ := get?_size s₂.heap
  refine wpAny_newObj_type (comp_env ?_)
  have g₃ : Grow C [] s₂ { s₂ with heap := s₂.heap.push { cls := .type "list", dict := none, data := .seq ([] : List Value).toArray }, toks := s₂.toks } := Grow.push
  have S₃ := S₂.hid (hpush { cls := .type "list", dict := none, data := .seq ([] : List Value).toArray }) hD₂ (Heap.get?_push_size _ rfl) s₂.toks
  have hDl : Heap.PlainList (s₂.heap.push { cls := .type "list", dict := none, data := .seq ([] : List Value).toArray }) s₂.heap.objs.size #[] := ⟨_, Heap.get?_push_size _ rfl⟩
  have hsub₃ := hpush { cls := .type "list", dict := none, data := .seq ([] : List Value).toArray }
  generalize hH : s₂.heap.push { cls := .type "list", dict := none, data := .seq ([] : List Value).toArray } = H₃ at g₃ S₃ hDl hsub₃ ⊢
  generalize hDD : s₂.heap.objs.size = D at hD₂ S₃ hDl ⊢
  obtain ⟨X', hX', hCa, R₄⟩ := comp_Rel (s₃ := { s₂ with heap := H₃, toks := s₂.toks }) (D := D) (I := I) EO K R (g₂.trans' g₃) S₃ hI (g₂.fresh hD₂)
  have hIs : ∃ o, s₂.heap.get? I = some o := S₂.there I (.head _)
  have hID : I ≠ D := fun e => by subst e; obtain ⟨o, ho⟩ := hIs; rw [hD₂] at ho; cases ho
  have tabThere : ∀ {t}, t ∈ C.tabs → ∃ o, s.heap.get? t.P = some o := fun ht => R.st.there _ (R.st.tabx _ ht)
  have hIt : ¬ isTab C I := fun ⟨t, ht, e⟩ => by obtain ⟨o, ho⟩ := tabThere ht; rw [e, hI] at ho; cases ho
  have hDt : ¬ isTab C D := fun ⟨t, ht, e⟩ => by obtain ⟨o, ho⟩ := tabThere ht; rw [e, g₂.fresh hD₂] at ho; cases ho
  have hcells : Sub H₃ (pushCells (H₃.push { cls := .type "dict", data := .dict #[] }) sc.names) := fun b o e => pushCells_keeps _ _ b o (Heap.get?_push_of_some _ e)
  have hX0 : ∀ a ∈ X', H₃.get? a = none := hX'
  have hCaN : H₃.get? H₃.objs.size = none := get?_size H₃
  generalize hCC : H₃.objs.size = Ca at hCa R₄ hCaN ⊢
  generalize hH4 : pushCells (H₃.push { cls := .type "dict", data := .dict #[] }) sc.names = H₄ at R₄ hcells ⊢
  have hXs : ∀ a ∈ X', s.heap.get? a = none := fun a ha => (g₂.trans' g₃).fresh (hX0 a ha)
  have hCaI : Ca ≠ I := fun e => by subst e; obtain ⟨o, ho⟩ := hIs; rw [hsub₃ _ _ ho] at hCaN; cases hCaN
  have hCaD : Ca ≠ D := fun e => by subst e; obtain ⟨n, ho⟩ := hDl; rw [ho] at hCaN; cases hCaN
  have hs₂ : Sub (Fz s₂.heap (I :: (X ++ ex))) (Fz H₄ (X' ++ (D :: I :: (X ++ ex)))) := fz_mono (fun b o _ e => hcells _ _ (hsub₃ _ _ e)) fun b o hb e hb' => by
    rcases List.mem_append.mp hb' with h | h
    · have := hX0 b h; rw [hsub₃ _ _ e] at this; cases this
    · rcases List.mem_cons.mp h with rfl | h
      · rw [hD₂] at e; cases e
      · exact hb h
  have st4 : Sti 0 H₄ := (it'.walks A RM.hh).frame 0 _ _ it'.st0 fun b _ o e => hcells _ _ (hsub₃ _ _ e)
  have loop : codeAny C.M A (.compLoop (.ListComp elt [⟨target, it, [], 0⟩] sc pos) 0 (.ref I) (.ref D) (cEnv sc env Ca)) (compPost C.M A E use Q (.ref D) Ca) { s₂ with heap := H₄ } := by
    have newl : ∀ x i, (newNames sc c.nx).lookup x = some i → (inCC c sc).tb.lookup x = some i ∧ x ∈ (newNames sc c.nx).map (·.1) := fun x i h =>
      ⟨lookup_uniq K.tb.n1 (List.mem_append_left _ (mem_lookup h)), List.mem_map.mpr ⟨_, mem_lookup h, rfl⟩⟩
    refine comp_loop (c' := inCC c sc) (k := k) (F := F) (nx := c.nx) (n := 0) (loc₀ := loc) (comp_EnvOk EO K) RM R₄ (fun p hp mv hm => (inLoc_get hm).1) ?_ he (tgOk_of newl ht) hrs (it'.walks A RM.hh) it'.live it'.cls it'.few st4 ?_ ?_
      (List.mem_cons_of_mem _ (.head _)) (.head _) hID hIt hDt (hDl.at fun o e => hcells _ _ e) ?_
    · intro x hx i hi
      obtain ⟨p, hp, rfl⟩ := List.mem_map.mp hx
      have h2 := lookup_uniq K.tb.n1 (List.mem_append_left (c.tb.filter fun p => sc.names.lookup p.1 == some .free) hp)
      have h3 : (inCC c sc).tb.lookup p.1 = some p.2 := h2
      rw [h3] at hi; cases hi
      exact (newNames_mem hp).1
    · intro b hb
      rcases it'.fpok b hb with rfl | ⟨o, ho⟩
      · refine ⟨fun h => ?_, hID, hIt⟩
        obtain ⟨o, ho⟩ := hIs
        have := hX0 _ h; rw [hsub₃ _ _ ho] at this; cases this
      · obtain ⟨h1, h2⟩ := fz_iff.mp ho
        refine ⟨fun h => ?_, fun e => ?_, fun ⟨t, ht, e⟩ => ?_⟩
        · have := hX0 _ h; rw [hsub₃ _ _ h1] at this; cases this
        · subst e; rw [hD₂] at h1; cases h1
        · exact h2 (e ▸ List.mem_cons_of_mem _ (R.st.tabx t ht))
    · intro i v hv
      obtain ⟨d, as, hd, r⟩ := it'.vals i v hv
      exact ⟨d, as, hd, Reads.keeps hs₂ r⟩
    · intro ys as s' h' tk G' R' hl hr hk
      have hseen : ∀ b o, s.heap.get? b = some o → b ∉ D :: I :: X' := fun b o e hb => by
        rcases List.mem_cons.mp hb with rfl | hb
        · rw [g₂.fresh hD₂] at e; cases e
        · rcases List.mem_cons.mp hb with rfl | hb
          · rw [hI] at e; cases e
          · rw [hXs b hb] at e; cases e
      refine hfin D Ca ys as _ ?_ ?_ (g₂.fresh hD₂) (hXs Ca hCa) (Ne.symm hCaD) ?_ ?_ ?_
      · refine ⟨fun b o _ hnt e => ?_, fun b o e => ?_, G'.os.trans g₂.os, Nat.le_trans g₂.gsize G'.gsize, fun i hi => (G'.gens i (Nat.lt_of_lt_of_le hi g₂.gsize)).trans (g₂.gens i hi)⟩
        · have hb := hseen b o e
          refine hk b o (fun e' => hb (by rw [e']; exact .tail _ (.head _))) (G'.keep b o hb hnt (hcells _ _ (hsub₃ _ _ (g₂.keep b o (fun h => nomatch h) hnt e))))
        · have hb := hseen b o e
          obtain ⟨o2, e2⟩ := g₂.alive b o e
          obtain ⟨o3, e3⟩ := G'.alive b o2 (hcells _ _ (hsub₃ _ _ e2))
          exact ⟨o3, hk b o3 (fun e' => hb (by rw [e']; exact .tail _ (.head _))) e3⟩
      · refine R'.st.drop hk (List.mem_append_right _ (.tail _ (.head _))) (fun b hb => ?_) (fun t ht => .tail _ (.tail _ (R.st.tabx t ht))) tk
        rcases List.mem_cons.mp hb with rfl | hb
        · exact ⟨List.mem_append_left _ hCa, hCaI⟩
        · rcases List.mem_cons.mp hb with rfl | hb
          · exact ⟨List.mem_append_right _ (.head _), Ne.symm hID⟩
          · refine ⟨List.mem_append_right _ (.tail _ (.tail _ hb)), fun e => ?_⟩
            obtain ⟨o, ho⟩ := R.st.there b hb
            rw [e, hI] at ho; cases ho
      · obtain ⟨m, o, es, ep, e1, e2⟩ := R'.ns
        exact ⟨m, o, es, ep, hk _ _ hCaI e1, e2⟩
      · exact Heap.PlainList.at hl fun o e => hk _ _ (Ne.symm hID) e
      · refine ReadsAll.keeps (fz_mono (fun b o hb e => hk b o (fun e' => hb (by rw [e']; exact List.mem_append_right _ (.tail _ (.head _)))) e) fun b o hb _ hb' => hb ?_) hr
        rcases List.mem_cons.mp hb' with rfl | hb'
        · exact List.mem_append_left _ hCa
        · rcases List.mem_cons.mp hb' with rfl | hb'
          · exact List.mem_append_right _ (.head _)
          · exact List.mem_append_right _ (.tail _ (.tail _ hb'))
  exact codeAny_compStart_list loop ((it'.walks A RM.hh).self 0 { s₂ with heap := H₄ } _ _ st4 loop)
end
end Mine

-- M17
namespace Mine
open PySem PySem.Spec PySem.Calls PyProof.Rows PySem.W

section
variable {C : Cx} {env : Env} {c : CC} {sc : Scope} {tb : List (Str × Nat)} {wr : List Str} {ex X : List Addr} {loc : Loc} {s : Shared} {A : Around} {E : Value → Shared → Prop} {k : Nat} {F : Orc} {Ca : Addr}

theorem sf_comp {elt target it : Expr} {pos : Pos} {mi : MI} {a : ME} {tg : Tg}
    (K : CompOk c sc) (hp : plainIter it = true) (hi : SI C F k c it mi) (he : SE C F k (inCC c sc) elt a) (ht : targetOf (newNames sc c.nx) target = some tg) :
    SF C F k c (.ListComp elt [⟨target, it, [], 0⟩] sc pos) (.comp c.nx (newNames sc c.nx).length a tg mi) := by
  intro env wr ex X loc s A Q E d EO RM R hd
  refine bindE hd fun xs hxs hd => ?_
  refine bindE hd fun rs hrs hd => ?_
  unfold boundL at hd
  split at hd <;> cases hd
  refine ⟨rs, rfl, fun G => ?_⟩
  show wpAny _ _ (comprehension (.ListComp elt [⟨target, it, [], 0⟩] sc pos) sc env (firstIterPos [⟨target, it, [], 0⟩] pos) (newList []) false (eval it env)) _ _ _
  refine comp_wp (use := none) K hp hi he ht EO RM R hxs hrs fun D Ca ys as s' g S hD hC hDC hns hl hr => ?_
  obtain ⟨m, hn⟩ := hns
  refine ⟨m, hn, fun h' hs => ?_⟩
  have hk : ∀ b o, b ≠ Ca → s'.heap.get? b = some o → h'.get? b = some o := fun b o hb e => (hs.2 b hb).trans e
  have hCt : ¬ isTab C Ca := fun ⟨t, ht, e⟩ => by
    obtain ⟨o, ho⟩ := R.st.there _ (R.st.tabx _ ht)
    rw [e, hC] at ho; cases ho
  have seen : ∀ b o, s.heap.get? b = some o → b ≠ Ca := fun b o e e' => by subst e'; rw [hC] at e; cases e
  refine G D ys as { s' with heap := h', toks := s'.toks } ⟨fun b o hb hnt e => hk b o (seen b o e) (g.keep b o hb hnt e), fun b o e => ?_, g.os, g.gsize, g.gens⟩ ?_ hD ?_ ?_
  · obtain ⟨o', e'⟩ := g.alive b o e
    exact ⟨o', hk b o' (seen b o e) e'⟩
  · refine S.drop hk (.head _) (fun b hb => ⟨.tail _ hb, ?_⟩) (fun t ht => .tail _ (R.st.tabx t ht)) s'.toks
    rcases List.mem_cons.mp hb with rfl | hb
    · exact hDC
    · obtain ⟨o, e⟩ := R.st.there b hb; exact seen b o e
  · exact Heap.PlainList.at hl fun o e => hk _ _ hDC e
  · exact ReadsAll.keeps (fz_mono (fun b o hb e => hk b o (fun e' => hb (by rw [e']; exact .head _)) e) fun b o hb _ hb' => hb (.tail _ hb')) hr

/-- a comprehension whose list goes straight on -/
noncomputable def SU (C : Cx) (F : Orc) (k : Nat) (c : CC) (e : Expr) (m : ME) : Prop :=
  ∀ (env : Env) (wr : List Str) (ex X : List Addr) (loc : Loc) (s : Shared) (A : Around) (use : Value → Sem Unit) (Q : Unit → Shared → Prop) (E : Value → Shared → Prop) (d : PyData),
    EnvOk env c → Room A k → Rel C env c.tb wr ex X loc s → evE F loc m = some d → ∃ l, d = .list l ∧
    ((∀ D Ca vs as s', Grow C [] s s' → St C (Ca :: D :: (X ++ ex)) s' → s.heap.get? D = none → s.heap.get? Ca = none → D ≠ Ca → (∃ m, s'.heap.Ns Ca m) → s'.heap.PlainList D vs → ReadsAll (Fz s'.heap (Ca :: D :: (X ++ ex))) vs.toList l as →
      wpAny C.M A (use (.ref D)) (fun _ s'' => ∃ m, s''.heap.Ns Ca m ∧ ∀ h', Heap.SameBut Ca s''.heap h' → Q () { s'' with heap := h' }) E s') → wpAny C.M A (evalThenUse e env use) Q E s)
theorem su_comp {elt target it : Expr} {pos : Pos} {mi : MI} {a : ME} {tg : Tg}
    (K : CompOk c sc) (hp : plainIter it = true) (hi : SI C F k c it mi) (he : SE C F k (inCC c sc) elt a) (ht : targetOf (newNames sc c.nx) target = some tg) :
    SU C F k c (.ListComp elt [⟨target, it, [], 0⟩] sc pos) (.comp c.nx (newNames sc c.nx).length a tg mi) := by
  intro env wr ex X loc s A use Q E d EO RM R hd
  refine bindE hd fun xs hxs hd => ?_
  refine bindE hd fun rs hrs hd => ?_
  unfold boundL at hd
  split at hd <;> cases hd
  refine ⟨rs, rfl, fun G => ?_⟩
  show wpAny _ _ (comprehension (.ListComp elt [⟨target, it, [], 0⟩] sc pos) sc env (firstIterPos [⟨target, it, [], 0⟩] pos) (newList []) false (eval it env) (some use) >>= fun _ => pure ()) _ _ _
  refine wpAny_bind (comp_wp (use := some use) (Q := fun _ s' => wpAny C.M A (pure ()) Q E s') K hp hi he ht EO RM R hxs hrs fun D Ca ys as s' g S hD hC hDC hns hl hr => ?_)
  refine wpAny_mono (G D Ca ys as s' g S hD hC hDC hns hl hr) (fun _ s'' ⟨m, hn, h⟩ => ⟨m, hn, fun h' hs => wpAny_pure (h h' hs)⟩) fun _ _ h => h

/-! ## what the compiler tells is so -/
noncomputable def PE (C : Cx) (F : Orc) (k : Nat) (c : CC) (e : Expr) (m : ME) : Prop := SE C F k c e m ∧ ST C F k c e m
theorem both {e : Expr} {m : ME} (h : plainTest e = true) (hs : SE C F k c e m) : PE C F k c e m := ⟨hs, st_plain h hs⟩
noncomputable def RecOk (C : Cx) (F : Orc) (k : Nat) (rec : CC → Expr → Option ME) : Prop := ∀ c e m, Ok C k F c → rec c e = some m → PE C F k c e m

section
variable {rec : CC → Expr → Option ME}
theorem es_ok (S : RecOk C F k rec) (O : Ok C k F c) : ∀ {es : List Expr} {ms : List ME}, cEs rec c es = some ms → SEs C F k c es ms ∧ es.all notStar = true
  | [], _, h => someE (P := fun ms => SEs C F k c [] ms ∧ _) h ⟨ses_nil, rfl⟩
  | e :: r, _, h => gdE h fun hn h => bindE h fun a ha h => mapE (P := fun ms => SEs C F k c (e :: r) ms ∧ _) h fun as has =>
    have h1 := es_ok S O has
    ⟨ses_cons hn (S _ _ _ O ha).1 h1.1, Bool.and_eq_true_iff.mpr ⟨hn, h1.2⟩⟩
theorem const_ok {v : Const} {j : Nat} {p : Pos} {m : ME} (h : cConst v = some m) : PE C F k c (.Constant v j p) m := by
  cases v with
  | int i => exact someE h (both rfl se_lit_int)
  | str x => exact someE h (both rfl se_lit_str)
  | bool b => exact someE h (both rfl se_lit_bool)
  | none => exact someE h (both rfl se_lit_none)
  | _ => cases h
theorem name_ok {x : Str} {p : Pos} {m : ME} (O : Ok C k F c) (h : cName c x = some m) : PE C F k c (.Name x p) m :=
  altE h (fun h => mapE h fun i hi => both rfl (se_var hi)) fun h => gdE h fun hg h => andE' hg fun hg hd => mapE h fun d hc => both rfl (se_const O hg (neE hd) hc)
theorem b_ok (S : RecOk C F k rec) (O : Ok C k F c) {op : BoolOp} {p : Pos} : ∀ {r : List Expr} {x : Expr} {m : ME}, cB rec c op x r = some m → PE C F k c (.BoolOp op (x :: r) p) m
  | [], x, _, h => have h1 := S _ _ _ O h; ⟨se_bool1 h1.1, st_bool1 h1.2⟩
  | y :: r, x, _, h => bindE h fun a ha h => mapE (P := fun m => PE C F k c (.BoolOp op (x :: y :: r) p) m) h fun b hb => by
    have h1 := S _ _ _ O ha
    have h2 := b_ok S O (p := p) hb
    cases op with
    | And => exact ⟨se_and h1.1 h2.1, st_and h1.2 h2.2⟩
    | Or => exact ⟨se_or h1.1 h2.1, st_or h1.2 h2.2⟩
theorem c_ok (S : RecOk C F k rec) (O : Ok C k F c) {l : Expr} {ops : List CmpOp} {rs : List Expr} {p : Pos} {m : ME} (h : cC rec c l ops rs = some m) : PE C F k c (.Compare l ops rs p) m := by
  refine altE h (fun h => bindE h fun op ho h => bindE h fun r hr h => gdE h fun hm h => bindE h fun a ha h => mapE h fun b hb => ?_)
    fun h => bindE h fun o ho h => bindE h fun r hr h => gdE h fun hm h => bindE h fun a ha h => bindE h fun b hb h => mapE h fun d hd => ?_
  · rw [oneE ho, oneE hr]
    have hm := (Bool.not_eq_true' _).mp hm
    exact ⟨se_cmp hm (S _ _ _ O ha).1 (S _ _ _ O hb).1, st_cmp hm (S _ _ _ O ha).1 (S _ _ _ O hb).1⟩
  · rw [twoE ho, twoE hr]
    exact ⟨se_cmp2 hm (S _ _ _ O ha).1 (S _ _ _ O hb).1 (S _ _ _ O hd).1, st_cmp2 hm (S _ _ _ O ha).1 (S _ _ _ O hb).1 (S _ _ _ O hd).1⟩
theorem o_ok (S : RecOk C F k rec) (O : Ok C k F c) {o : Option Expr} {m : ME} (h : cO rec c o = some m) : SO C F k c o m := by
  cases o with
  | none => exact someE h so_none
  | some e => exact so_some (S _ _ _ O h).1
theorem i_ok (S : RecOk C F k rec) (O : Ok C k F c) {e : Expr} {m : MI} (h : cI rec c e = some m) : SI C F k c e m := by
  refine altE h (fun h => bindE h fun q hq h => bindE h fun f hf h => gdE h fun hg h => ?_) fun h => altE h (fun h => bindE h fun x hx h => mapE h fun i hi => ?_) fun h => gdE h fun _ h => mapE h fun m hm => si_val (S _ _ _ O hm).1
  · rw [callE hq, nmE hf]
    refine altE h (fun h => gdE h fun hr h => mapE h fun as has => ?_) fun h => gdE h fun hr h => bindE h fun a ha h => bindE h fun x hx h => mapE h fun b hb => ?_
    · have h1 := es_ok S O has
      exact si_rng O (eq_of_beq hr) hg h1.2 h1.1
    · rw [oneE ha]
      rw [nmE hx] at hb ⊢
      exact si_rev O (eq_of_beq hr) hg (S _ _ _ O hb).1
  · rw [nmE hx]; exact si_var hi
theorem g_ok (S : RecOk C F k rec) (O : Ok C k F c) {elt : Expr} {gs : List Comprehension} {p : Pos} {m : ME} (h : cG rec c elt gs sc = some m) : SF C F k c (.ListComp elt gs sc p) m ∧ SU C F k c (.ListComp elt gs sc p) m := by
  refine bindE h fun g hg h => gdE h fun h1 h => gdE h fun hc h => bindE h fun i hi h => bindE h fun tg ht h => mapE (P := fun m => SF C F k c (.ListComp elt gs sc p) m ∧ SU C F k c (.ListComp elt gs sc p) m) h fun a ha => ?_
  rw [oneE hg]
  obtain ⟨t, it, ifs, n⟩ := g
  refine andE' h1 fun h1 h2 => andE' hc fun hc1 hp1 => ?_
  obtain rfl : ifs = [] := List.isEmpty_iff.mp h1
  obtain rfl : n = 0 := eq_of_beq h2
  have hx := (S _ _ _ (O.other (c' := inCC c sc) rfl rfl) ha).1
  exact ⟨sf_comp (CompOk.of hc1) hp1 (i_ok S O hi) hx ht, su_comp (CompOk.of hc1) hp1 (i_ok S O hi) hx ht⟩
theorem l_ok (S : RecOk C F k rec) (O : Ok C k F c) {args : List Expr} {p q : Pos} {m : ME} (hl : isGlob c "list" = true) (h : cL rec c args = some m) : SF C F k c (.Call (.Name "list" p) args [] q) m := by
  refine bindE h fun a ha h => ?_
  rw [oneE ha]
  refine altE h (fun h => bindE h fun q hq h => bindE h fun r hr h => gdE h fun hg h => mapE h fun as has => ?_) fun h => bindE h fun x hx h => mapE h fun b hb => ?_
  · rw [callE hq, nmE hr]
    have h1 := es_ok S O has
    refine andE' hg fun hr hg => ?_
    rw [eq_of_beq hr] at hg ⊢
    exact sf_listr O hl hg h1.2 h1.1
  · rw [nmE hx] at hb ⊢
    exact sf_listc O hl (S _ _ _ O hb).1
theorem f_ok (S : RecOk C F k rec) (O : Ok C k F c) {e : Expr} {m : ME} (h : cF rec c e = some m) : SF C F k c e m := by
  refine altE h (fun h => bindE h fun q hq h => mapE h fun as has => ?_) fun h => altE h (fun h => bindE h fun q hq h => ?_) fun h => bindE h fun q hq h => bindE h fun f hf h => gdE h fun hg h => ?_
  · rw [lstE hq]; exact sf_lst (es_ok S O has).1
  · rw [lcE hq]; exact (g_ok S O h).1
  · rw [callE hq, nmE hf]
    refine andE' hg fun hr hg => ?_
    rw [eq_of_beq hr] at hg ⊢
    exact l_ok S O hg h
theorem j_ok (S : RecOk C F k rec) (O : Ok C k F c) {args : List Expr} {x : Str} {p q : Pos} {m : ME} (hx : x = "isinstance") (hg : isGlob c x = true) (h : cJ rec c args = some m) : SE C F k c (.Call (.Name x p) args [] q) m := by
  refine bindE h fun a ha h => bindE h fun t ht h => gdE h fun hc h => andE' hc fun hc hn => ?_
  rw [twoE ha, nmE ht]
  exact altE h (fun h => gdE h fun h1 h => mapE h fun b hb => se_isi (b := false) O hx (eq_of_beq h1) hg hc hn (S _ _ _ O hb).1) fun h => gdE h fun h1 h => mapE h fun b hb => se_isi (b := true) O hx (eq_of_beq h1) hg hc hn (S _ _ _ O hb).1
theorem k_ok (S : RecOk C F k rec) (O : Ok C k F c) {q : Expr × List Expr × Pos} {m : ME} (h : cK rec c q = some m) : SE C F k c (.Call q.1 q.2.1 [] q.2.2) m := by
  obtain ⟨f, args, p⟩ := q
  refine altE h (fun h => bindE h fun x hx h => gdE h fun hg h => andE' hg fun hg hd => ?_) fun h => bindE h fun o ho h => gdE h fun hc h => bindE h fun j hj h => bindE h fun a ha h => mapE h fun as has => ?_
  · rw [show f = _ from nmE hx]
    refine altE h (fun h => bindE h fun i _ h => gdE h fun hi h => mapE h fun as has => ?_) fun h => altE h (fun h => bindE h fun j hj h => mapE h fun as has => ?_) fun h => gdE h fun hx h => j_ok S O (eq_of_beq hx) hg h
    · have h1 := es_ok S O has
      exact se_call O hg (neE hd) (eq_of_beq hi) h1.2 h1.1
    · have h1 := es_ok S O has
      exact se_bi O hg (neE hd) hj h1.2 h1.1
  · rw [show f = _ from atE ho]
    have h1 := es_ok S O has
    exact andE' hc fun hb hc => andE' hc fun hl hn => se_meth hb hj hl (of_decide_eq_true hn) h1.2 (S _ _ _ O ha).1 h1.1
theorem u_ok (S : RecOk C F k rec) (O : Ok C k F c) {o i : Expr} {p : Pos} {m : ME} (h : cU rec c o i = some m) : SE C F k c (.Subscript o i p) m := by
  refine altE h (fun h => bindE h fun s hs h => bindE h fun a ha h => bindE h fun b hb h => mapE h fun d hd => ?_) fun h => gdE h fun hn h => altE h (fun h => bindE h fun x hx h => bindE h fun j hj h => mapE h fun b hb => ?_)
    fun h => gdE h fun _ h => bindE h fun a ha h => mapE h fun b hb => se_sub hn (S _ _ _ O ha).1 (S _ _ _ O hb).1
  · rw [slcE hs]; exact se_slice (S _ _ _ O ha).1 (o_ok S O hb) (o_ok S O hd)
  · rw [nmE hx]; exact se_subo hj hn (S _ _ _ O hb).1
theorem e1_ok (S : RecOk C F k rec) : RecOk C F k (cE1 rec) := fun c e m O h => by
  cases e with
  | Constant v j p => exact const_ok h
  | Name x p => exact name_ok O h
  | BinOp l op r p => exact bindE h fun a ha h => mapE h fun b hb => both rfl (se_bin (S _ _ _ O ha).1 (S _ _ _ O hb).1)
  | UnaryOp op x p =>
    refine mapE h fun a ha => ?_
    have h1 := S _ _ _ O ha
    cases op with
    | Not => exact ⟨se_un h1.1, st_not h1.2⟩
    | _ => exact both rfl (se_un h1.1)
  | BoolOp op vs p =>
    cases vs with
    | nil => exact noneE h
    | cons x r => exact b_ok S O h
  | Compare l ops rs p => exact c_ok S O h
  | IfExp t b o p => exact bindE h fun x hx h => bindE h fun y hy h => mapE h fun z hz => ⟨se_ite (S _ _ _ O hx).2 (S _ _ _ O hy).1 (S _ _ _ O hz).1, st_ite (S _ _ _ O hx).2 (S _ _ _ O hy).2 (S _ _ _ O hz).2⟩
  | Subscript o i p => exact both rfl (u_ok S O h)
  | Tuple es n p => exact mapE h fun as has => both rfl (se_tup (es_ok S O has).1)
  | Call f as kw p =>
    refine both rfl (altE h (fun h => bindE h fun q hq h => ?_) fun h => (f_ok S O h).se)
    rw [callE hq]; exact k_ok S O h
  | List es p => exact both rfl (f_ok S O h).se
  | ListComp a b c p => exact both rfl (f_ok S O h).se
  | _ => exact noneE h
end
theorem snd_all : ∀ n, RecOk C F k (cE n)
  | 0 => fun c e m _ h => noneE h
  | n + 1 => e1_ok (snd_all n)
end
end Mine

-- M18
namespace Mine
open PySem PySem.Spec PySem.Calls PyProof.Rows PySem.W

section
variable {C : Cx} {env : Env} {c : CC} {sc : Scope} {tb : List (Str × Nat)} {wr : List Str} {ex X : List Addr} {loc : Loc} {s s' : Shared} {A : Around} {E : Value → Shared → Prop} {k : Nat} {F : Orc} {Ca : Addr}

/-- a new thing comes under the frame's hand -/
theorem Rel.adopt (R : Rel C env tb wr ex X loc s) {D : Addr} (G : Grow C [] s s') (hD : s.heap.get? D = none) (S : St C (D :: (X ++ ex)) s') : Rel C env tb wr ex (D :: X) loc s' := by
  have ko : ∀ b o, s.heap.get? b = some o → (∀ ps, o.data ≠ .fields ps) → s'.heap.get? b = some o := fun b o e hd => G.obj R.st e hd (fun h => nomatch h)
  have hold : ∀ {x v}, Holds env s.heap x v → Holds env s'.heap x v := fun h => h.keeps ko
  have back : ∀ {x v}, Holds env s'.heap x v → ∀ w, Holds env s.heap x w → w = v := fun h w h' => (hold h').inj h
  have hfz : Sub (Fz s.heap (X ++ ex)) (Fz s'.heap (D :: X ++ ex)) := fz_mono (fun b o hb e => G.keep b o (fun h => nomatch h) (fun ⟨t, ht, e'⟩ => hb (e' ▸ R.st.tabx t ht)) e) fun b o hb e hb' => by
    rcases List.mem_cons.mp hb' with rfl | h
    · rw [hD] at e; cases e
    · exact hb h
  refine ⟨R.tbok, R.kind, S, .tail _ R.mine, ?_, R.tabex, ?_, ?_, R.apart, fun x c e => let ⟨v, o, e1, e2⟩ := R.held x c e; ⟨v, o, ko _ _ e1 (by rw [e2]; nofun), e2⟩, ?_, ?_, ?_⟩
  · obtain ⟨m, o, es, ep, e1, e2, e3⟩ := R.ns
    exact ⟨m, o, es, ep, ko _ _ e1 (by rw [e2]; nofun), e2, e3⟩
  · intro a ha
    rcases List.mem_cons.mp ha with rfl | ha
    · rintro ⟨t, ht, e⟩
      obtain ⟨o, ho⟩ := R.st.there _ (R.st.tabx t ht)
      rw [e, hD] at ho; cases ho
    · exact R.notab a ha
  · intro a ha hb
    rcases List.mem_cons.mp ha with rfl | ha
    · obtain ⟨o, ho⟩ := R.st.there _ (List.mem_append_right _ hb)
      rw [hD] at ho; cases ho
    · exact R.disj a ha hb
  · intro x hx
    rcases R.home x hx with h | ⟨h1, c, h2, h3, v, o, e1, e2⟩
    · exact .inl h
    · exact .inr ⟨h1, c, h2, .tail _ h3, v, o, ko _ _ e1 (by rw [e2]; nofun), e2⟩
  · intro p hp mv hm
    obtain ⟨v, h1, h2⟩ := R.vars p hp mv hm
    exact ⟨v, hold h1, h2.up hfz (fun _ h => .tail _ h) fun a o _ e ⟨vs, n, hd⟩ => ko a o e (by rw [hd]; nofun)⟩
  · intro p hp q hq hn l l' a h1 h2 h3 h4
    obtain ⟨v, g1, a1, _, _, rfl, _⟩ := R.vars p hp _ h1
    obtain ⟨w, g2, a2, _, _, rfl, _⟩ := R.vars q hq _ h2
    have e1 := back h3 _ g1
    have e2 := back h4 _ g2
    cases e1; cases e2
    exact R.owns p hp q hq hn l l' a h1 h2 g1 g2

/-- an owned list changes -/
theorem Rel.mut (R : Rel C env tb wr ex X loc s) {p : Str × Nat} {l l' : List PyData} {a : Addr} {vs vs' : Array Value} {as : List Addr} {h' : Heap} {tk : Nat} (hp : p ∈ tb) (hl : loc[p.2]? = some (some (.own l))) (hv : Holds env s.heap p.1 (.ref a)) (ha : a ∈ X) (hlist : s.heap.PlainList a vs)
    (hs : Heap.SameBut a s.heap h') (hl' : h'.PlainList a vs') (hr : ReadsAll (Fz s.heap (X ++ ex)) vs'.toList l' as) :
    Grow C X s { s with heap := h', toks := tk } ∧ Rel C env tb wr ex X (loc.set p.2 (some (.own l'))) { s with heap := h', toks := tk } := by
  obtain ⟨oa, hoa, hca, na, hda⟩ := hlist.isList
  obtain ⟨ob, hob, _⟩ := hl'.isList
  have hG : Grow C X s { s with heap := h', toks := tk } := Grow.but ha hs hob tk
  have hS : St C (X ++ ex) { s with heap := h', toks := tk } := R.st.but (List.mem_append_left _ ha) (R.notab a ha) hs hob tk
  have hsub : Sub (Fz s.heap (X ++ ex)) (Fz h' (X ++ ex)) := hG.fz (s' := { s with heap := h', toks := tk }) (fun b hb => List.mem_append_left _ hb) R.st.tabx
  have ko : ∀ b o, s.heap.get? b = some o → (∀ vs n, o.data ≠ .seq vs n) → h'.get? b = some o := fun b o e hd => (hs.2 b fun e' => by subst e'; rw [hoa] at e; cases e; exact hd _ _ hda).trans e
  have hold : ∀ {x v}, Holds env s.heap x v → Holds env h' x v := fun h => by
    rcases h with ⟨k1, m, ⟨o, es, ep, e1, e2, e3⟩, e⟩ | ⟨k1, c, l, ⟨o, e1, e2⟩⟩
    · exact .inl ⟨k1, m, ⟨o, es, ep, ko _ _ e1 (by rw [e2]; nofun), e2, e3⟩, e⟩
    · exact .inr ⟨k1, c, l, ⟨o, ko _ _ e1 (by rw [e2]; nofun), e2⟩⟩
  have back : ∀ {x v}, Holds env h' x v → ∀ w, Holds env s.heap x w → w = v := fun h w h' => (hold h').inj h
  refine ⟨hG, ⟨R.tbok, R.kind, hS, R.mine, ?_, R.tabex, R.notab, R.disj, R.apart, fun x c e => let ⟨v, o, e1, e2⟩ := R.held x c e; ⟨v, o, ko _ _ e1 (by rw [e2]; nofun), e2⟩, ?_, ?_, ?_⟩⟩
  · obtain ⟨m, o, es, ep, e1, e2, e3⟩ := R.ns
    exact ⟨m, o, es, ep, ko _ _ e1 (by rw [e2]; nofun), e2, e3⟩
  · intro x hx
    rcases R.home x hx with h | ⟨h1, c, h2, h3, v, o, e1, e2⟩
    · exact .inl h
    · exact .inr ⟨h1, c, h2, h3, v, o, ko _ _ e1 (by rw [e2]; nofun), e2⟩
  · intro q hq mv hm
    by_cases hqp : q.2 = p.2
    · have := nodup_slot R.tbok hq hp hqp
      subst this
      cases getElem?_set_some hm
      exact ⟨_, hold hv, a, vs', _, rfl, ha, hl', ReadsAll.keeps hsub hr⟩
    · rw [getElem?_set_ne _ _ _ _ (Ne.symm hqp)] at hm
      obtain ⟨w, h1, h2⟩ := R.vars q hq mv hm
      refine ⟨w, hold h1, ?_⟩
      cases mv with
      | dat d => obtain ⟨as', r⟩ := h2; exact ⟨as', Reads.keeps hsub r⟩
      | rng i j => obtain ⟨ok, r, t, u, z, e, hr'⟩ := h2; exact ⟨ok, r, t, u, z, e, hsub _ _ hr'⟩
      | own l2 =>
        obtain ⟨a', vs2, as', rfl, ha', ⟨n2, ho2⟩, hr'⟩ := h2
        have hne : a' ≠ a := fun e => by subst e; exact R.owns q hq p hp hqp l2 l a' hm hl h1 hv
        exact ⟨a', vs2, as', rfl, ha', ⟨n2, (hs.2 a' hne).trans ho2⟩, ReadsAll.keeps hsub hr'⟩
  · intro q hq r hr' hn l1 l2 b h1 h2 h3 h4
    have own0 : ∀ z : Str × Nat, z ∈ tb → ∀ l3, (loc.set p.2 (some (.own l')))[z.2]? = some (some (.own l3)) → ∃ l4, loc[z.2]? = some (some (.own l4)) := fun z hz l3 h => by
      by_cases hzp : z.2 = p.2
      · rw [hzp]; exact ⟨l, hl⟩
      · rw [getElem?_set_ne _ _ _ _ (Ne.symm hzp)] at h; exact ⟨l3, h⟩
    obtain ⟨l3, h1'⟩ := own0 q hq l1 h1
    obtain ⟨l4, h2'⟩ := own0 r hr' l2 h2
    obtain ⟨v, g1, _⟩ := R.vars q hq _ h1'
    obtain ⟨w, g2, _⟩ := R.vars r hr' _ h2'
    have e1 := back h3 _ g1
    have e2 := back h4 _ g2
    subst e1; subst e2
    exact R.owns q hq r hr' hn l3 l4 b h1' h2' g1 g2

/-! ## statements -/
noncomputable def Wr (c : CC) (wr : List Str) : Prop := ∀ p ∈ c.tb, notFree c p.1 = true → p.1 ∈ wr
theorem filter_lookup {f : Str → Bool} : ∀ {l : List (Str × Nat)} {x : Str} {i : Nat}, (l.filter fun q => f q.1).lookup x = some i → l.lookup x = some i ∧ f x = true := by
  intro l
  induction l with
  | nil => intro x i h; cases h
  | cons p r ih =>
    intro x i h
    obtain ⟨y, j⟩ := p
    rw [List.lookup_cons]
    by_cases hf : f y = true
    · rw [List.filter_cons_of_pos (by simpa using hf), List.lookup_cons] at h
      cases hb : x == y with
      | true => rw [hb] at h; exact ⟨h, by rw [eq_of_beq hb]; exact hf⟩
      | false => rw [hb] at h; exact ih h
    · rw [List.filter_cons_of_neg (by simpa using hf)] at h
      obtain ⟨h1, h2⟩ := ih h
      cases hb : x == y with
      | true => rw [eq_of_beq hb] at h2; exact absurd h2 hf
      | false => exact ⟨h1, h2⟩
theorem wtb_lookup {c : CC} {x : Str} {i : Nat} (h : (wtb c).lookup x = some i) : c.tb.lookup x = some i ∧ notFree c x = true := filter_lookup h
noncomputable def Fin' (C : Cx) (env : Env) (c : CC) (wr : List Str) (ex X : List Addr) (s : Shared) (r : MF) (loc' : Loc) (Q : Flow → Shared → Prop) : Prop :=
  ∀ X' s', Grow C X s s' → (∀ a ∈ X', a ∈ X ∨ s.heap.get? a = none) → Rel C env c.tb wr ex X' loc' s' →
    match r with
    | .next => Q .next s'
    | .ret d => ∀ v as, Reads (Fz s'.heap (X' ++ ex)) v d as → Q (.ret v) s'
theorem Fin'.go {X1 : List Addr} {r : MF} {loc' : Loc} {Q : Flow → Shared → Prop} (H : Fin' C env c wr ex X s r loc' Q) (G : Grow C X s s') (hX : ∀ a ∈ X1, a ∈ X ∨ s.heap.get? a = none) : Fin' C env c wr ex X1 s' r loc' Q :=
  fun X' s'' g h R => H X' s'' (G.trans g hX) (fun a ha => (h a ha).elim (hX a) fun e => .inr (G.fresh e)) R
noncomputable def SS (C : Cx) (F : Orc) (k W : Nat) (c : CC) (st : Stmt) (m : MS) : Prop :=
  ∀ (env : Env) (wr : List Str) (ex X : List Addr) (loc : Loc) (s : Shared) (A : Around) (Q : Flow → Shared → Prop) (E : Value → Shared → Prop) (r : MF) (loc' : Loc),
    EnvOk env c → Room A k → Wr c wr → Rel C env c.tb wr ex X loc s → evS F W m loc = some (r, loc') → Fin' C env c wr ex X s r loc' Q → wpAny C.M A (exec st env) Q E s
noncomputable def SSs (C : Cx) (F : Orc) (k W : Nat) (c : CC) (sts : List Stmt) (ms : List MS) : Prop :=
  ∀ (env : Env) (wr : List Str) (ex X : List Addr) (loc : Loc) (s : Shared) (A : Around) (Q : Flow → Shared → Prop) (E : Value → Shared → Prop) (r : MF) (loc' : Loc),
    EnvOk env c → Room A k → Wr c wr → Rel C env c.tb wr ex X loc s → evSs F W ms loc = some (r, loc') → Fin' C env c wr ex X s r loc' Q → wpAny C.M A (execs sts env) Q E s

variable {W : Nat}
theorem ss_nil : SSs C F k W c [] [] := fun env wr ex X loc s A Q E r loc' EO RM hw R he H => by
  cases Option.some.inj he
  exact wpAny_execs_nil (H X s (Grow.refl ..) (fun a h => .inl h) R)
theorem ss_cons {st : Stmt} {sts : List Stmt} {m : MS} {ms : List MS} (h1 : SS C F k W c st m) (h2 : SSs C F k W c sts ms) : SSs C F k W c (st :: sts) (m :: ms) := fun env wr ex X loc s A Q E r loc' EO RM hw R he H => by
  refine bindE he fun q9 he1 he => ?_
  obtain ⟨r1, loc1⟩ := q9
  refine wpAny_execs_cons (h1 env wr ex X loc s A _ E r1 loc1 EO RM hw R he1 fun X' s' g hX R' => ?_)
  cases r1 with
  | next => exact h2 env wr ex X' loc1 s' A Q E r loc' EO RM hw R' he (H.go g hX)
  | ret d =>
    cases he
    intro v as rd
    exact H X' s' g hX R' v as rd

theorem s_assign {x : Str} {i : Nat} {e : Expr} {m : ME} {px pos : Pos} (hx : c.tb.lookup x = some i) (hxw : notFree c x = true) (he : SE C F k c e m) (hs : ∀ env, swapsWith e (some (.Name x px)) pos.line env = pure false) : SS C F k W c (.Assign [.Name x px] e pos) (.assign i m) := fun env wr ex X loc s A Q E r loc' EO RM hw R hv H => by
  refine mapI hv fun d hd hv => ?_
  cases hv
  obtain ⟨X1, hX1, R1⟩ := R.frz (fv m)
  refine wpAny_Assign_Name (he env wr ex X1 _ s A _ E d EO RM R1 hd fun v as s₁ g₁ S₁ r₁ => ?_) (hs env)
  refine store_ok (R1.grow g₁ S₁) hx (hw _ (mem_lookup hx) hxw) (mv := .dat d) ⟨as, r₁⟩ (fun l hl => by cases hl) fun s₂ g₂ R₂ => ?_
  exact H X1 s₂ ((g₁.weak0 (X := X)).trans' (g₂.weak hX1)) (fun a ha => .inl (hX1 a ha)) R₂

theorem s_ret {e : Expr} {m : ME} {pos : Pos} (he : SE C F k c e m) : SS C F k W c (.Return (some e) pos) (.ret m) := fun env wr ex X loc s A Q E r loc' EO RM hw R hv H => by
  refine mapI hv fun d hd hv => ?_
  cases hv
  obtain ⟨X1, hX1, R1⟩ := R.frz (fv m)
  refine wpAny_Return_some (he env wr ex X1 _ s A _ E d EO RM R1 hd fun v as s₁ g₁ S₁ r₁ => ?_)
  exact H X1 s₁ g₁.weak0 (fun a ha => .inl (hX1 a ha)) (R1.grow g₁ S₁) v as r₁

theorem s_ite {t : Expr} {b o : List Stmt} {m : ME} {bm om : List MS} {pos : Pos} (ht : ST C F k c t m) (hb : SSs C F k W c b bm) (ho : SSs C F k W c o om) : SS C F k W c (.If t b o pos) (.ite m bm om) := fun env wr ex X loc s A Q E r loc' EO RM hw R hv H => by
  refine bindE hv fun tv htv hv => ?_
  refine bindE htv fun d hd htv => ?_
  obtain ⟨hsm, rfl⟩ := if_some htv
  obtain ⟨X1, hX1, R1⟩ := R.frz (fv m)
  refine wpAny_If (ht env wr ex X1 _ s A _ E d EO RM R1 hd hsm fun s₁ g₁ S₁ => ?_)
  have H1 := H.go (s' := s₁) (X1 := X1) g₁.weak0 (fun a ha => .inl (hX1 a ha))
  cases htr : truthV d with
  | true => rw [htr] at hv; simp only [if_true] at hv ⊢; exact hb env wr ex X1 _ s₁ A Q E r loc' EO RM hw (R1.grow g₁ S₁) hv H1
  | false => rw [htr] at hv; simp only [Bool.false_eq_true, if_false] at hv ⊢; exact ho env wr ex X1 _ s₁ A Q E r loc' EO RM hw (R1.grow g₁ S₁) hv H1

theorem s_own {x : Str} {i : Nat} {e : Expr} {m : ME} {px pos : Pos} (hx : c.tb.lookup x = some i) (hxw : notFree c x = true) (he : SF C F k c e m) (hs : ∀ env, swapsWith e (some (.Name x px)) pos.line env = pure false) : SS C F k W c (.Assign [.Name x px] e pos) (.own i m) := fun env wr ex X loc s A Q E r loc' EO RM hw R hv H => by
  refine bindE hv fun d hd hv => ?_
  obtain ⟨l, hl, hv⟩ := Option.map_eq_some_iff.mp hv
  cases hv
  obtain ⟨X1, hX1, R1⟩ := R.frz (fv m)
  obtain ⟨l', rfl, hw'⟩ := he env wr ex X1 _ s A (fun v s₁ => wpAny C.M A (storeName env x v) (fun _ => Q .next) E s₁) E d EO RM R1 hd
  simp only [listD] at hl; cases hl
  refine wpAny_Assign_Name (hw' fun a vs as s₁ g₁ S₁ ha hlist hr => ?_) (hs env)
  have R2 := R1.adopt g₁ ha S₁
  refine store_ok R2 hx (hw _ (mem_lookup hx) hxw) (mv := .own l) ⟨a, vs, as, rfl, .head _, hlist, hr⟩ (fun l2 _ q hq _ l3 h3 hh => ?_) fun s₂ g₂ R₂ => ?_
  · obtain ⟨w, g1, a1, _, _, rfl, ha1, ⟨n1, ho1⟩, _⟩ := R1.vars q hq _ h3
    have ko : ∀ b o, s.heap.get? b = some o → (∀ ps, o.data ≠ .fields ps) → s₁.heap.get? b = some o := fun b o e hd => g₁.obj R.st e hd (fun h => nomatch h)
    have e := (g1.keeps ko).inj hh
    cases e
    rw [ha] at ho1; cases ho1
  · refine H (a :: X1) s₂ ((g₁.weak0 (X := X)).trans g₂ fun p hp => ?_) (fun b hb => ?_) R₂
    · rcases List.mem_cons.mp hp with rfl | hp
      · exact .inr ha
      · exact .inl (hX1 p hp)
    · rcases List.mem_cons.mp hb with rfl | hb
      · exact .inr ha
      · exact .inl (hX1 b hb)
end
end Mine

-- M19
namespace Mine
open PySem PySem.Spec PySem.Calls PyProof.Rows PySem.W

section
variable {C : Cx} {env : Env} {c : CC} {sc : Scope} {tb : List (Str × Nat)} {wr : List Str} {ex X : List Addr} {loc : Loc} {s s' : Shared} {A : Around} {E : Value → Shared → Prop} {k W : Nat} {F : Orc} {Ca : Addr}

theorem setItem_plain {prog : Program} {w : World} {l : Addr} {items : Array Value} {k : Int} {t : Tok} {v : Value} {Q : Unit → Shared → Prop} (hl : s.heap.PlainList l items)
    (h0 : 0 ≤ k) (hfit : k < 2 ^ 63) (hn : k < items.size)
    (hQ : ∀ h', h'.PlainList l (items.setIfInBounds k.toNat v) → Heap.SameBut l s.heap h' → Q () { s with heap := h' }) :
    wpAny (model prog w) A (setItem (.ref l) (.int k t) v) Q E s := by
  obtain ⟨n, ho⟩ := id hl
  have hT : s.TypeIs (.ref l) "list" := ⟨_, ho, rfl⟩
  unfold setItem
  refine wpAny_holding ?_
  refine wpAny_bind (wpAny_sequenceKey hT (by decide) ?_)
  refine wpAny_bind (wpAny_callSpecial?_slot (name := Str.ofString "__setitem__") hT slot_list_setitem
    (wpAny_call_entry slot_list_setitem hT entry_list_setitem ?_ (args_list_setitem _ _ _)))
  show wpAny _ _ (Builtin.List.listSubscript? (.int k t) >>= _) _ _ s
  refine wpAny_bind (wpAny_listSubscript_int (fitsIndex_of h0 hfit) ?_)
  clear hfit
  obtain ⟨j, rfl⟩ := Int.eq_ofNat_of_zero_le h0
  have hj : j < items.size := by omega
  have hx' : items[j]? = some items[j] := Array.getElem?_eq_getElem hj
  show wpAny _ _ ((seqItemAt l j >>= fun r => pure (r.map (j, ·))) >>= _) _ _ s
  refine wpAny_bind (wpAny_bind (wpAny_seqItemAt ho rfl (wpAny_pure ?_)))
  rw [hx']
  show wpAny _ _ (setSeqItemAt l j v >>= _) _ _ s
  have hfin : (s.heap.update l (Obj.mapSeq (·.setIfInBounds j v))).PlainList l (items.setIfInBounds j v) := by
    obtain ⟨n2, e2⟩ : ∃ n2, Obj.mapSeq (fun x => x.setIfInBounds j v) { cls := .type "list", data := .seq items n } = { cls := .type "list", data := .seq (items.setIfInBounds j v) n2 } := by
      unfold Obj.mapSeq; exact ⟨_, rfl⟩
    refine ⟨n2, ?_⟩
    rw [Heap.get?_update_self _ ho (by rw [e2]; rfl), e2]
  refine wpAny_bind (wpAny_setSeqItemAt ho rfl ?_)
  first
    | exact wpAny_bind (wpAny_pure (wpAny_pure ⟨.none, rfl, wpAny_pure (hQ _ hfin (Heap.SameBut.update ..))⟩))
    | exact wpAny_pure ⟨.none, rfl, wpAny_pure (hQ _ hfin (Heap.SameBut.update ..))⟩

theorem reverse_plain {prog : Program} {w : World} {l : Addr} {its : Array Value} {Q : Value → Shared → Prop} (hl : s.heap.PlainList l its) (hsz : its.size ≤ sizeLine)
    (h : ∀ h', h'.PlainList l its.toList.reverse.toArray → Heap.SameBut l s.heap h' → Q .none { s with heap := h' }) :
    wpAny (model prog w) A (call (.builtin "list.reverse") [.ref l]) Q E s := by
  obtain ⟨n, ho⟩ := hl
  refine call_meets PySem.F.slot_list_reverse ⟨_, ho, rfl⟩ PySem.F.entry_list_reverse (PySem.F.args_list_reverse_1 _) (AutoSeq1.list_reverse_list_0 l its n hsz) ⟨ho, ?_⟩
  refine h _ ⟨n, ?_⟩ (Heap.SameBut.update ..)
  rw [Heap.get?_update_self _ ho (by rw [mapSeq_reverse]; rfl), mapSeq_reverse]

theorem s_aug {x : Str} {i : Nat} {op : Operator} {e : Expr} {m : ME} {px pos : Pos} (hx : c.tb.lookup x = some i) (hxw : notFree c x = true) (he : SE C F k c e m) : SS C F k W c (.AugAssign (.Name x px) op e pos) (.aug i op m) := fun env wr ex X loc s A Q E r loc' EO RM hw R hv H => by
  refine bindE hv fun a ha hv => ?_
  refine bindE hv fun b hb hv => ?_
  obtain ⟨d, hd, hv⟩ := Option.map_eq_some_iff.mp hv
  cases hv
  obtain ⟨X1, hX1, R1⟩ := R.frz (i :: fv m)
  have hn := R.tbok.names _ (mem_lookup hx)
  have hl := datAt_inv ha
  obtain ⟨v, hv, as, r⟩ := R1.vars _ (mem_lookup hx) _ hl
  refine wpAny_AugAssign_Name (load_ok R.kind hn.1 hv ?_)
  refine he env wr ex X1 _ s A _ E b EO RM R1 hb fun w bs s₁ g₁ S₁ r₁ => ?_
  refine aug_ok S₁ hd (Reads.keeps (g₁.fz (fun _ h => nomatch h) R1.st.tabx) r) r₁ fun u cs s₂ g₂ S₂ r₂ => ?_
  refine store_ok ((R1.grow g₁ S₁).grow g₂ S₂) hx (hw _ (mem_lookup hx) hxw) (mv := .dat d) ⟨_, r₂⟩ (fun l hl => by cases hl) fun s₃ g₃ R₃ => ?_
  exact H X1 s₃ (((g₁.trans' g₂).weak0 (X := X)).trans' (g₃.weak hX1)) (fun a ha => .inl (hX1 a ha)) R₃

theorem s_rngA {x f : Str} {i : Nat} {es : List Expr} {ms : List ME} {px pf pos pos2 : Pos} (O : Ok C k F c) (hf : f = "range") (hg : isGlob c f = true) (hst : es.all notStar = true) (hx : c.tb.lookup x = some i) (hxw : notFree c x = true) (hs : SEs C F k c es ms) :
    SS C F k W c (.Assign [.Name x px] (.Call (.Name f pf) es [] pos2) pos) (.rngA i ms) := fun env wr ex X loc s A Q E r loc' EO RM hw R hv H => by
  subst hf
  refine bindE hv fun ds hds hv => ?_
  obtain ⟨pr, hp, hv⟩ := Option.map_eq_some_iff.mp hv
  cases hv
  obtain ⟨X1, hX1, R1⟩ := R.frz (fvs ms)
  refine wpAny_Assign_Name ?_
  refine wpAny_Call_NameR (bi_name EO R1 hg (by decide +kernel) (by decide +kernel) (O.bi _ (by decide +kernel)) (v := .type "range") (by decide +kernel) ?_)
  refine PySem.callWith_type (plain_any hst) (evalArgs_all hst (hs env wr ex X1 _ s A pos2 _ E ds EO RM R1 hds fun vs as s₁ g₁ S₁ r₁ => ?_))
  refine call_rng S₁ hp r₁ fun s₂ t u w g₂ S₂ hnone hr => ?_
  have hok : rangeOk pr.1 pr.2 = true := by
    obtain ⟨_, _, _, h⟩ := rangeV_ok hp
    exact h
  refine store_ok ((R1.grow g₁ S₁).grow g₂ S₂) hx (hw _ (mem_lookup hx) hxw) (mv := .rng pr.1 pr.2) ⟨hok, _, t, u, w, rfl, hr⟩ (fun l hl => by cases hl) fun s₃ g₃ R₃ => ?_
  exact H X1 s₃ (((g₁.trans' g₂).weak0 (X := X)).trans' (g₃.weak hX1)) (fun a ha => .inl (hX1 a ha)) R₃

theorem s_assign2 {x y : Str} {i j : Nat} {e : Expr} {m : ME} {px py pos : Pos} (hx : c.tb.lookup x = some i) (hy : c.tb.lookup y = some j) (hxw : notFree c x = true) (hyw : notFree c y = true) (he : SE C F k c e m) : SS C F k W c (.Assign [.Name x px, .Name y py] e pos) (.assign2 i j m) := fun env wr ex X loc s A Q E r loc' EO RM hw R hv H => by
  refine mapI hv fun d hd hv => ?_
  cases hv
  obtain ⟨X1, hX1, R1⟩ := R.frz (fv m)
  refine wpAny_Assign_two (he env wr ex X1 _ s A _ E d EO RM R1 hd fun v as s₁ g₁ S₁ r₁ => ?_)
  refine wpAny_assign_Name (store_ok (R1.grow g₁ S₁) hx (hw _ (mem_lookup hx) hxw) (mv := .dat d) ⟨as, r₁⟩ (fun l hl => by cases hl) fun s₂ g₂ R₂ => ?_)
  refine wpAny_assign_Name (store_ok R₂ hy (hw _ (mem_lookup hy) hyw) (mv := .dat d) ⟨as, Reads.keeps (g₂.fz (fun b hb => List.mem_append_left _ hb) S₁.tabx) r₁⟩ (fun l hl => by cases hl) fun s₃ g₃ R₃ => ?_)
  exact H X1 s₃ ((g₁.weak0 (X := X)).trans' ((g₂.trans' g₃).weak hX1)) (fun a ha => .inl (hX1 a ha)) R₃

theorem idxV_some {l : List PyData} {d : PyData} {n : Nat} (h : idxV l d = some n) : ∃ i : Int, d = .int i ∧ 0 ≤ i ∧ i < l.length ∧ n = i.toNat ∧ l.length ≤ 2 ^ 24 := by
  cases d with
  | int i =>
    obtain ⟨hc, rfl⟩ := if_some h
    exact ⟨i, rfl, hc.2.1, hc.2.2, rfl, hc.1⟩
  | _ => exact noneE h

theorem ownAt_some {loc : Loc} {x : Nat} {l : List PyData} (h : ownAt loc x = some l) : loc[x]? = some (some (.own l)) := by
  exact ownAt_inv h

theorem setIf_toList (vs : Array Value) (n : Nat) (v : Value) : (vs.setIfInBounds n v).toList = vs.toList.set n v := by simp

theorem assign_Sub (o i : Expr) (pos : Pos) (env : Env) (v : Value) : ∃ L : Value → Value → List Value, assign (.Subscript o i pos) env v = (do
    let ov ← holding [v] (eval o env)
    let iv ← holding [v, ov] (eval i env)
    standAt pos
    holding [v, ov, iv] (setItem ov iv v)
    release (L ov iv) []) := ⟨fun ov iv => (match i with | .Slice _ _ none _ => [iv, v, ov] | _ => [v, ov, iv]), rfl⟩
theorem s_setI {x : Str} {n : Nat} {i e : Expr} {im m : ME} {px pi pos : Pos} (hx : c.tb.lookup x = some n) (hi : notSlice i = true) (hsi : SE C F k c i im) (he : SE C F k c e m)
    (hs : ∀ env, swapsWithSole [.Subscript (.Name x px) i pi] e pos.line env = pure false) : SS C F k W c (.Assign [.Subscript (.Name x px) i pi] e pos) (.setI n im m) := fun env wr ex X loc s A Q E r loc' EO RM hw R hv H => by
  refine bindE hv fun d hd hv => ?_
  refine bindE hv fun l hl hv => ?_
  refine bindE hv fun kd hk hv => ?_
  obtain ⟨j, hj, hv⟩ := Option.map_eq_some_iff.mp hv
  cases hv
  obtain ⟨X1, hX1, R1⟩ := R.frz (fv im ++ fv m)
  have hn := R.tbok.names _ (mem_lookup hx)
  have hl' := ownAt_some hl
  obtain ⟨iv, rfl, h0, hlt, rfl, hsz⟩ := idxV_some hj
  refine wpAny_Assign_stores (he env wr ex X1 _ s A _ E d EO RM R1 hd fun v as s₁ g₁ S₁ r₁ => ?_) (hs env) rfl
  have R2 := R1.grow g₁ S₁
  show wpAny _ _ (assign (.Subscript (.Name x px) i pi) env v) _ _ _
  obtain ⟨L, hL⟩ := assign_Sub (.Name x px) i pi env v
  rw [hL]
  obtain ⟨v1, hv1, a, vs, as', rfl, ha, hlist, hr⟩ := R2.vars _ (mem_lookup hx) _ hl'
  refine wpAny_bind (wpAny_holding (wpAny_Name (load_ok R2.kind hn.1 hv1 ?_) (by simpa using hn.2)))
  refine wpAny_bind (wpAny_holding (hsi env wr ex X1 _ s₁ A _ E _ EO RM R2 hk fun u bs s₂ g₂ S₂ r₂ => ?_))
  have R3 := R2.grow g₂ S₂
  obtain ⟨v2, hv2, a2, vs2, as2, rfl, ha2, hlist2, hr2⟩ := R3.vars _ (mem_lookup hx) _ hl'
  have e1 := (hv1.keeps fun b o e hd => g₂.obj R2.st e hd (fun h => nomatch h)).inj hv2
  cases e1
  obtain ⟨t, rfl⟩ := inv_int r₂
  have hlen : vs2.size = l.length := by simpa using readsAll_len hr2
  refine wpAny_bind (wpAny_standAt (wpAny_bind (wpAny_holding (setItem_plain hlist2 h0 (by omega) (by omega) fun h' hl3 hs3 => wpAny_release ?_))))
  obtain ⟨as3, hr3⟩ := readsAll_set hr2 (Reads.keeps (g₂.fz (fun _ h => nomatch h) S₁.tabx) r₁) iv.toNat
  obtain ⟨g₃, R4⟩ := R3.mut (tk := s₂.toks) (l' := l.set iv.toNat d) (mem_lookup hx) hl' hv2 ha2 hlist2 hs3 hl3 (by rw [setIf_toList]; exact hr3)
  exact H X1 _ (((g₁.trans' g₂).weak0 (X := X)).trans' (g₃.weak hX1)) (fun b hb => .inl (hX1 b hb)) R4

theorem s_app {x f : Str} {n : Nat} {e : Expr} {m : ME} {px pa pos pos2 : Pos} (hx : c.tb.lookup x = some n) (hf : f = "append") (hl : (pa.endLine == pos2.line) = true) (hst : notStar e = true) (he : SE C F k c e m) :
    SS C F k W c (.Expr (.Call (.Attribute (.Name x px) f pa) [e] [] pos2) pos) (.app n m) := fun env wr ex X loc s A Q E r loc' EO RM hw R hv H => by
  subst hf
  refine bindE hv fun l hl1 hv => ?_
  refine bindE hv fun d hd hv => ?_
  split at hv <;> cases hv
  rename_i hsz
  obtain ⟨X1, hX1, R1⟩ := R.frz (fv m)
  have hn := R.tbok.names _ (mem_lookup hx)
  have hl' := ownAt_some hl1
  obtain ⟨v, hv, a, vs, as, rfl, ha, hlist, hr⟩ := R1.vars _ (mem_lookup hx) _ hl'
  refine wpAny_Expr ?_ (by unfold interactive; rw [R.kind]; rfl)
  have e0 : eval (.Call (.Attribute (.Name x px) "append" pa) [e] [] pos2) env = (do
    let ov ← eval (.Name x px) env
    standAt pa.atName
    methodCall (.Name x px) "append" pa pos2 env ov ([e].length + ([] : List Keyword).length) (backTo pos2 (starEach [e] env)) (backToKw pos2 (keywordEach [] env))) := rfl
  rw [e0]
  refine wpAny_bind (wpAny_Name (load_ok R.kind hn.1 hv ?_) (by simpa using hn.2))
  refine wpAny_bind (wpAny_standAt ?_)
  unfold methodCall
  have hst' : [e].all notStar = true := by simp only [List.all_cons, hst, List.all_nil]; rfl
  rw [form_ok hst' (by simp)]
  have hpos : methodCallPos true (.Name x px) env pa pos2 = pure pos2 := by unfold methodCallPos; simp only [hl, Bool.or_true, if_true]
  rw [hpos]
  refine wpAny_bind (wpAny_holding ?_)
  obtain ⟨nn, ho⟩ := id hlist
  refine getMethod_list_append ho rfl rfl ?_
  refine wpAny_bind (wpAny_pure ?_)
  show wpAny _ _ (callWith pos2 (.builtin "list.append") [.ref a] (backTo pos2 (starEach [e] env)) []) _ _ _
  refine callWith_builtin (plain_any hst') (evalArgs_all hst' ?_)
  rw [starEach_cons hst]
  refine spliced_cons (he env wr ex X1 _ s A _ E d EO RM R1 hd fun u bs s₁ g₁ S₁ r₁ => spliced_nil ?_)
  have R2 := R1.grow g₁ S₁
  obtain ⟨v', hv', a', vs', as', rfl, ha', hlist', hr'⟩ := R2.vars _ (mem_lookup hx) _ hl'
  have e1 := (hv.keeps fun b o e hd => g₁.obj R.st e hd (fun h => nomatch h)).inj hv'
  cases e1
  have hlen := readsAll_len hr'
  refine wpAny_list_append_plain hlist' (fun h' hl2 hs2 => ?_) (by rw [sizeLine_eq]; simp at hlen; omega)
  obtain ⟨g₂, R₃⟩ := R2.mut (tk := s₁.toks) (l' := l ++ [d]) (mem_lookup hx) hl' hv' ha' hlist' hs2 hl2 (by rw [Array.toList_push]; exact readsAll_append hr' (.cons r₁ .nil))
  exact H X1 _ ((g₁.weak0 (X := X)).trans' (g₂.weak hX1)) (fun b hb => .inl (hX1 b hb)) R₃

theorem s_rev {x f : Str} {n : Nat} {px pa pos pos2 : Pos} (hx : c.tb.lookup x = some n) (hf : f = "reverse") (hl : (pa.endLine == pos2.line) = true) :
    SS C F k W c (.Expr (.Call (.Attribute (.Name x px) f pa) [] [] pos2) pos) (.rev n) := fun env wr ex X loc s A Q E r loc' EO RM hw R hv H => by
  subst hf
  refine bindE hv fun l hl1 hv => ?_
  split at hv <;> cases hv
  rename_i hsz
  have hn := R.tbok.names _ (mem_lookup hx)
  have hl' := ownAt_some hl1
  obtain ⟨v, hv, a, vs, as, rfl, ha, hlist, hr⟩ := R.vars _ (mem_lookup hx) _ hl'
  refine wpAny_Expr ?_ (by unfold interactive; rw [R.kind]; rfl)
  have e0 : eval (.Call (.Attribute (.Name x px) "reverse" pa) [] [] pos2) env = (do
    let ov ← eval (.Name x px) env
    standAt pa.atName
    methodCall (.Name x px) "reverse" pa pos2 env ov (([] : List Expr).length + ([] : List Keyword).length) (backTo pos2 (starEach [] env)) (backToKw pos2 (keywordEach [] env))) := rfl
  rw [e0]
  refine wpAny_bind (wpAny_Name (load_ok R.kind hn.1 hv ?_) (by simpa using hn.2))
  refine wpAny_bind (wpAny_standAt ?_)
  unfold methodCall
  rw [form_ok (es := []) rfl (by simp)]
  have hpos : methodCallPos true (.Name x px) env pa pos2 = pure pos2 := by unfold methodCallPos; simp only [hl, Bool.or_true, if_true]
  rw [hpos]
  refine wpAny_bind (wpAny_holding ?_)
  obtain ⟨nn, ho⟩ := id hlist
  refine getMethod_list_of PySem.F.slot_list_reverse PySem.F.type_list_reverse hlist.isList ?_ ?_
  · exact ⟨_, ho, rfl⟩
  refine wpAny_bind (wpAny_pure ?_)
  show wpAny _ _ (callWith pos2 (.builtin "list.reverse") [.ref a] (backTo pos2 (starEach [] env)) []) _ _ _
  refine callWith_builtin (plain_any rfl) (evalArgs_all rfl ?_)
  refine spliced_nil ?_
  have hlen := readsAll_len hr
  refine reverse_plain hlist (by rw [sizeLine_eq]; simp at hlen; omega) fun h' hl2 hs2 => ?_
  obtain ⟨as2, hr2⟩ := readsAll_rev hr
  obtain ⟨g₂, R₃⟩ := R.mut (tk := s.toks) (l' := l.reverse) (mem_lookup hx) hl' hv ha hlist hs2 hl2 (by simpa using hr2)
  exact H X _ g₂ (fun b hb => .inl hb) R₃
end
end Mine

-- M20
namespace Mine
open PySem PySem.Spec PySem.Calls PyProof.Rows PySem.W

section
variable {C : Cx} {env : Env} {c : CC} {sc : Scope} {tb : List (Str × Nat)} {wr : List Str} {ex X : List Addr} {loc : Loc} {s s' : Shared} {A : Around} {E : Value → Shared → Prop} {k W : Nat} {F : Orc} {Ca : Addr}

theorem s_augI {x : Str} {n : Nat} {op : Operator} {i e : Expr} {im m : ME} {px pi pos : Pos} (hx : c.tb.lookup x = some n) (hi : notSlice i = true) (hsi : SE C F k c i im) (he : SE C F k c e m) :
    SS C F k W c (.AugAssign (.Subscript (.Name x px) i pi) op e pos) (.augI n op im m) := fun env wr ex X loc s A Q E r loc' EO RM hw R hv H => by
  refine bindE hv fun l hl hv => ?_
  refine bindE hv fun kd hk hv => ?_
  refine bindE hv fun j hj hv => ?_
  refine bindE hv fun d0 hd0 hv => ?_
  refine bindE hv fun b hb hv => ?_
  obtain ⟨d, hd, hv⟩ := Option.map_eq_some_iff.mp hv
  cases hv
  obtain ⟨X1, hX1, R1⟩ := R.frz (fv im ++ fv m)
  have hn := R.tbok.names _ (mem_lookup hx)
  have hl' := ownAt_some hl
  obtain ⟨iv, rfl, h0, hlt, rfl, hsz⟩ := idxV_some hj
  obtain ⟨v1, hv1, a, vs, as', rfl, ha, hlist, hr⟩ := R1.vars _ (mem_lookup hx) _ hl'
  refine wpAny_AugAssign_Subscript_any (wpAny_Name (load_ok R1.kind hn.1 hv1 ?_) (by simpa using hn.2)) (by intro ov iv new; cases i <;> first | rfl | cases hi)
  refine hsi env wr ex X1 _ s A _ E _ EO RM R1 hk fun u bs s₁ g₁ S₁ r₁ => ?_
  obtain ⟨t, rfl⟩ := inv_int r₁
  have R2 := R1.grow g₁ S₁
  obtain ⟨v2, hv2, a2, vs2, as2, rfl, ha2, hlist2, hr2⟩ := R2.vars _ (mem_lookup hx) _ hl'
  have e1 := (hv1.keeps fun b o e hd => g₁.obj R1.st e hd (fun h => nomatch h)).inj hv2
  cases e1
  have hlen : vs2.size = l.length := by simpa using readsAll_len hr2
  obtain ⟨w0, cs, hw0, r0⟩ := readsAll_get hr2 iv.toNat d0 hd0
  have hw0' : vs2[iv.toNat]? = some w0 := by simpa using hw0
  refine wpAny_getItem_list hlist2.isList h0 (by omega) hw0' ?_
  refine he env wr ex X1 _ s₁ A _ E _ EO RM R2 hb fun u2 bs2 s₂ g₂ S₂ r₂ => ?_
  refine aug_ok S₂ hd (Reads.keeps (g₂.fz (fun _ h => nomatch h) S₁.tabx) r0) r₂ fun u3 bs3 s₃ g₃ S₃ r₃ => ?_
  have R3 := (R2.grow g₂ S₂).grow g₃ S₃
  obtain ⟨v3, hv3, a3, vs3, as3, rfl, ha3, hlist3, hr3⟩ := R3.vars _ (mem_lookup hx) _ hl'
  have e1 := (hv2.keeps fun b o e hd => (g₂.trans' g₃).obj R2.st e hd (fun h => nomatch h)).inj hv3
  cases e1
  have hlen3 : vs3.size = l.length := by simpa using readsAll_len hr3
  refine setItem_plain hlist3 h0 (by omega) (by omega) fun h' hl3 hs3 => ?_
  obtain ⟨as4, hr4⟩ := readsAll_set hr3 r₃ iv.toNat
  obtain ⟨g₄, R4⟩ := R3.mut (tk := s₃.toks) (l' := l.set iv.toNat d) (mem_lookup hx) hl' hv3 ha3 hlist3 hs3 hl3 (by rw [setIf_toList]; exact hr4)
  exact H X1 _ ((((g₁.trans' g₂).trans' g₃).weak0 (X := X)).trans' (g₄.weak hX1)) (fun b hb => .inl (hX1 b hb)) R4

/-! tuples of names -/
inductive NL (tb : List (Str × Nat)) (wr : List Str) : List Str → List Nat → Prop where
  | nil : NL tb wr [] []
  | cons {x : Str} {i : Nat} {xs : List Str} {l : List Nat} : tb.lookup x = some i → x ∈ wr → NL tb wr xs l → NL tb wr (x :: xs) (i :: l)
theorem NL.snoc {xs : List Str} {l : List Nat} (h : NL tb wr xs l) {x : Str} {i : Nat} (h1 : tb.lookup x = some i) (h2 : x ∈ wr) : NL tb wr (xs ++ [x]) (l ++ [i]) := by
  induction h with
  | nil => exact .cons h1 h2 .nil
  | cons a b _ ih => exact .cons a b ih
theorem NL.rev {xs : List Str} {l : List Nat} (h : NL tb wr xs l) : NL tb wr xs.reverse l.reverse := by
  induction h with
  | nil => exact .nil
  | cons a b _ ih => rw [List.reverse_cons, List.reverse_cons]; exact ih.snoc a b
theorem NL.len {xs : List Str} {l : List Nat} (h : NL tb wr xs l) : xs.length = l.length := by
  induction h with
  | nil => rfl
  | cons _ _ _ ih => simp [ih]
noncomputable def nmOf : Expr → Option Str
  | .Name x _ => some x
  | _ => none
theorem NmOk.nl {es : List Expr} {l : List Nat} (h : NmOk tb wr es l) : NL tb wr (es.filterMap nmOf) l := by
  induction h with
  | nil => exact .nil
  | cons a b _ ih => exact .cons a b ih

theorem binds_ok {xs : List Str} {l : List Nat} (h : NL tb wr xs l) : ∀ {ds : List PyData} {vs : List Value} {as : List Addr} {loc loc' : Loc} {s : Shared} {Q : Unit → Shared → Prop}, Rel C env tb wr ex X loc s → setMany loc l ds = some loc' → ReadsAll (Fz s.heap (X ++ ex)) vs ds as →
    (∀ s', Grow C X s s' → Rel C env tb wr ex X loc' s' → Q () s') → wpAny C.M A (assignInOrder (xs.map fun n => bindName env n) vs) Q E s := by
  induction h with
  | nil =>
    intro ds vs as loc loc' s Q R hs rs hQ
    cases ds with
    | nil => cases Option.some.inj hs; cases rs; exact wpAny_pure (hQ s (Grow.refl ..) R)
    | cons => exact noneE hs
  | cons hx hw _ ih =>
    intro ds vs as loc loc' s Q R hs rs hQ
    cases ds with
    | nil => exact noneE hs
    | cons d ds =>
      cases rs with
      | cons r1 r2 =>
        refine wpAny_bind (wpAny_holding (wpAny_bindName (store_ok R hx hw (mv := .dat d) ⟨_, r1⟩ (fun l hl => by cases hl) fun s' g R' => ?_)))
        exact ih R' hs (ReadsAll.keeps (g.fz (fun a ha => List.mem_append_left _ ha) R.st.tabx) r2) fun s'' g' R'' => hQ s'' (g.trans' g') R''

theorem setMany_set {i : Nat} {v : Option MV} : ∀ {l : List Nat} {ds : List PyData} {loc : Loc}, i ∉ l → setMany (loc.set i v) l ds = (setMany loc l ds).map (·.set i v) := by
  intro l
  induction l with
  | nil => intro ds loc _; cases ds <;> rfl
  | cons j l ih =>
    intro ds loc h
    cases ds with
    | nil => rfl
    | cons d ds =>
      show setMany ((loc.set i v).set j _) l ds = (setMany (loc.set j _) l ds).map _
      rw [← ih (fun e => h (.tail _ e)), List.set_comm _ _ (fun e => h (by rw [e]; exact .head _))]
theorem setMany_snoc {i : Nat} {d : PyData} : ∀ {l : List Nat} {ds : List PyData} {loc : Loc}, l.length = ds.length → setMany loc (l ++ [i]) (ds ++ [d]) = (setMany loc l ds).map (·.set i (some (.dat d))) := by
  intro l
  induction l with
  | nil => intro ds loc h; cases ds with
    | nil => rfl
    | cons => simp at h
  | cons j l ih =>
    intro ds loc h
    cases ds with
    | nil => simp at h
    | cons e ds => exact ih (Nat.succ.inj h)
theorem setMany_rev : ∀ {l : List Nat} {ds : List PyData} {loc : Loc}, l.Nodup → l.length = ds.length → setMany loc l.reverse ds.reverse = setMany loc l ds := by
  intro l
  induction l with
  | nil => intro ds loc _ h; cases ds with
    | nil => rfl
    | cons => simp at h
  | cons j l ih =>
    intro ds loc hn h
    cases ds with
    | nil => simp at h
    | cons e ds =>
      have hn' := List.nodup_cons.mp hn
      have hl : l.length = ds.length := by simpa using h
      rw [List.reverse_cons, List.reverse_cons, setMany_snoc (by simpa using hl), ih hn'.2 hl, ← setMany_set hn'.1]
      rfl

theorem filterMap_same {g h : Expr → Option Str} (hg : ∀ t x, g t = some x → h t = some x) : ∀ {ts : List Expr}, (ts.filterMap g).length = ts.length → ts.filterMap g = ts.filterMap h := by
  intro ts
  induction ts with
  | nil => intro _; rfl
  | cons t ts ih =>
    intro hl
    cases q : g t with
    | none =>
      rw [List.filterMap_cons_none q] at hl
      have := List.length_filterMap_le g ts
      simp at hl; omega
    | some x =>
      rw [List.filterMap_cons_some q] at hl ⊢
      rw [List.filterMap_cons_some (hg _ _ q), ih (by simpa using hl)]
theorem swapped_cases {ts : List Expr} {n : Nat} {p : Pos} {e : Expr} (ok : tupOk e = true) (env : Env) :
    swappedStores [.Tuple ts n p] e env = pure none ∨ swappedStores [.Tuple ts n p] e env = pure (some (ts.filterMap nmOf)) := by
  cases e with
  | Tuple vs m q =>
    replace ok : vs.all (constantsAlone 8) = false := (Bool.not_eq_true' _).mp ok
    unfold swappedStores
    simp only [ok, Bool.false_eq_true, if_false]
    split
    · exact .inl rfl
    · split
      · exact .inl rfl
      · split
        · exact .inl rfl
        · split
          · exact .inl rfl
          · rename_i h3 h4
            refine .inr ?_
            simp only [Bool.or_eq_true, bne_iff_ne, ne_eq, not_or, Decidable.not_not] at h3
            rw [filterMap_same (h := nmOf) ?_ h3.1]
            intro t x
            cases t with
            | Name y py =>
              show (if _ then some y else none) = some x → some y = some x
              split
              · exact id
              · intro h; cases h
            | _ => intro h; cases h
  | _ => exact .inl rfl

theorem s_assignT {ts : List Expr} {n : Nat} {l : List Nat} {e : Expr} {m : ME} {p pos : Pos} (hl : ∀ wr, Wr c wr → NmOk c.tb wr ts l) (hnd : l.Nodup) (ok : tupOk e = true) (he : SE C F k c e m) :
    SS C F k W c (.Assign [.Tuple ts n p] e pos) (.assignT l m) := fun env wr ex X loc s A Q E r loc' EO RM hw R hv H => by
  refine bindE hv fun d hd hv => ?_
  have hsole : swapsWithSole [.Tuple ts n p] e pos.line env = pure false := by cases e <;> rfl
  obtain ⟨X1, hX1, R1⟩ := R.frz (fv m)
  have hN := hl wr hw
  refine bindE hv fun ds hds hv => mapI hv fun loc2 hs hv => ?_
  cases hv
  cases tupDE hds
  · rcases swapped_cases (ts := ts) (n := n) (p := p) ok env with h1 | h1
    · refine PyProof.Rows.Assign_Tuple (he env wr ex X1 _ s A _ E _ EO RM R1 hd fun v as s₁ g₁ S₁ r₁ => ?_) hsole h1
      refine target_ok (t := .many l) (d := .tuple ds) (.many hN) RM.hh (R1.grow g₁ S₁) hs r₁ fun s₂ g₂ R₂ => ?_
      exact H X1 s₂ ((g₁.weak0 (X := X)).trans' (g₂.weak hX1)) (fun a ha => .inl (hX1 a ha)) R₂
    · refine Assign_Tuple_swapped (he env wr ex X1 _ s A _ E _ EO RM R1 hd fun v as s₁ g₁ S₁ r₁ => ?_) hsole h1
      obtain ⟨a, vs, as', rfl, ht, rs, hz⟩ := inv_tuple fz_sub r₁
      have hlen := setMany_len hs
      have hnl := hN.nl
      rw [show (ts.filterMap nmOf).length = vs.size by rw [hnl.len, hlen, hz]]
      refine PyProof.Rows.unpackItems_tuple RM.hh ht fun h' hk => ?_
      have hsb := extBut_sub hk
      obtain ⟨as2, rs2⟩ := readsAll_rev (ReadsAll.keeps ((Grow.sub (C := C) (X := []) (tk := s₁.toks) hsb).fz (fun _ h => nomatch h) S₁.tabx) rs)
      refine binds_ok hnl.rev ((R1.grow g₁ S₁).grow (Grow.sub (tk := s₁.toks) hsb) (S₁.sub hsb s₁.toks)) ((setMany_rev hnd hlen).trans hs) rs2 fun s₂ g₂ R₂ => ?_
      exact H X1 s₂ (((g₁.trans' (Grow.sub (tk := s₁.toks) hsb)).weak0 (X := X)).trans' (g₂.weak hX1)) (fun a ha => .inl (hX1 a ha)) R₂
end
end Mine

-- M21
namespace Mine
open PySem PySem.Spec PySem.Calls PyProof.Rows PySem.W

section
variable {C : Cx} {env : Env} {c : CC} {sc : Scope} {tb : List (Str × Nat)} {wr : List Str} {ex X : List Addr} {loc : Loc} {s s' : Shared} {A : Around} {E : Value → Shared → Prop} {k W : Nat} {F : Orc} {Ca : Addr}

theorem app_perm {I : Addr} {X ex : List Addr} : ∀ a, a ∈ X ++ I :: ex ↔ a ∈ I :: (X ++ ex) := fun a => by
  simp only [List.mem_append, List.mem_cons]
  constructor
  · rintro (h | rfl | h)
    · exact .inr (.inl h)
    · exact .inl rfl
    · exact .inr (.inr h)
  · rintro (rfl | h | h)
    · exact .inr (.inl rfl)
    · exact .inl h
    · exact .inr (.inr h)

/-- something new is hidden from the frame -/
theorem Rel.hide (R : Rel C env tb wr ex X loc s) {I : Addr} (G : Grow C [] s s') (hI : s.heap.get? I = none) (S : St C (I :: (X ++ ex)) s') : Rel C env tb wr (I :: ex) X loc s' := by
  have ko : ∀ b o, s.heap.get? b = some o → (∀ ps, o.data ≠ .fields ps) → s'.heap.get? b = some o := fun b o e hd => G.obj R.st e hd (fun h => nomatch h)
  have hold : ∀ {x v}, Holds env s.heap x v → Holds env s'.heap x v := fun h => h.keeps ko
  have back : ∀ {x v}, Holds env s'.heap x v → ∀ w, Holds env s.heap x w → w = v := fun h w h' => (hold h').inj h
  have hfz : Sub (Fz s.heap (X ++ ex)) (Fz s'.heap (X ++ I :: ex)) := fz_mono (fun b o hb e => G.keep b o (fun h => nomatch h) (fun ⟨t, ht, e'⟩ => hb (e' ▸ R.st.tabx t ht)) e) fun b o hb e hb' => by
    rcases List.mem_cons.mp ((app_perm b).mp hb') with rfl | h
    · rw [hI] at e; cases e
    · exact hb h
  have S' : St C (X ++ I :: ex) s' := S.show_ (fun b hb => (app_perm b).mp hb) (fun t ht => (app_perm _).mpr (.tail _ (R.st.tabx t ht)))
  refine ⟨R.tbok, R.kind, S', R.mine, ?_, fun t ht => .tail _ (R.tabex t ht), R.notab, ?_, R.apart, fun x c e => let ⟨v, o, e1, e2⟩ := R.held x c e; ⟨v, o, ko _ _ e1 (by rw [e2]; nofun), e2⟩, ?_, ?_, ?_⟩
  · obtain ⟨m, o, es, ep, e1, e2, e3⟩ := R.ns
    exact ⟨m, o, es, ep, ko _ _ e1 (by rw [e2]; nofun), e2, e3⟩
  · intro a ha hb
    rcases List.mem_cons.mp hb with rfl | hb
    · obtain ⟨o, ho⟩ := R.st.there _ (List.mem_append_left _ ha)
      rw [hI] at ho; cases ho
    · exact R.disj a ha hb
  · intro x hx
    rcases R.home x hx with h | ⟨h1, c, h2, h3, v, o, e1, e2⟩
    · exact .inl h
    · exact .inr ⟨h1, c, h2, h3, v, o, ko _ _ e1 (by rw [e2]; nofun), e2⟩
  · intro p hp mv hm
    obtain ⟨v, h1, h2⟩ := R.vars p hp mv hm
    exact ⟨v, hold h1, h2.up hfz (fun _ h => h) fun a o _ e ⟨vs, n, hd⟩ => ko a o e (by rw [hd]; nofun)⟩
  · intro p hp q hq hn l l' a h1 h2 h3 h4
    obtain ⟨v, g1, a1, _, _, rfl, _⟩ := R.vars p hp _ h1
    obtain ⟨w, g2, a2, _, _, rfl, _⟩ := R.vars q hq _ h2
    have e1 := back h3 _ g1
    have e2 := back h4 _ g2
    cases e1; cases e2
    exact R.owns p hp q hq hn l l' a h1 h2 g1 g2

/-- a hidden thing that is no cell goes its own way -/
theorem Rel.drop {I : Addr} {h' : Heap} {tk : Nat} (R : Rel C env tb wr (I :: ex) X loc s) (hk : ∀ b o, b ≠ I → s.heap.get? b = some o → h'.get? b = some o) (hc : ∀ o, s.heap.get? I = some o → ∀ v, o.data ≠ .cell v) (hI : I ∉ ex)
    (ht : ∀ t ∈ C.tabs, t.P ∈ ex) : Rel C env tb wr ex X loc { s with heap := h', toks := tk } := by
  have hIX : I ∉ X := fun h => R.disj I h (.head _)
  have hold : ∀ {x v}, Holds env s.heap x v → Holds env h' x v := fun h => by
    rcases h with ⟨k1, m, ⟨o, es, ep, e1, e2, e3⟩, e⟩ | ⟨k1, c, l, ⟨o, e1, e2⟩⟩
    · exact .inl ⟨k1, m, ⟨o, es, ep, hk _ _ (fun e' => hIX (e' ▸ R.mine)) e1, e2, e3⟩, e⟩
    · exact .inr ⟨k1, c, l, ⟨o, hk _ _ (fun e' => by subst e'; exact hc _ e1 _ e2) e1, e2⟩⟩
  have back : ∀ {x v}, Holds env h' x v → ∀ w, Holds env s.heap x w → w = v := fun h w h' => (hold h').inj h
  have hfz : Sub (Fz s.heap (X ++ I :: ex)) (Fz h' (X ++ ex)) := fz_mono (fun b o hb e => hk b o (fun e' => hb ((app_perm b).mpr (e' ▸ .head _))) e) fun b o hb _ hb' => hb ((app_perm b).mpr (.tail _ hb'))
  have S' : St C (X ++ ex) { s with heap := h', toks := tk } := R.st.drop hk ((app_perm I).mpr (.head _)) (fun b hb => ⟨(app_perm b).mpr (.tail _ hb), fun e => by
    subst e; rcases List.mem_append.mp hb with h | h
    · exact hIX h
    · exact hI h⟩) (fun t ht' => List.mem_append_right _ (ht t ht')) tk
  refine ⟨R.tbok, R.kind, S', R.mine, ?_, ht, R.notab, fun a ha hb => R.disj a ha (.tail _ hb), R.apart, ?_, ?_, ?_, ?_⟩
  · obtain ⟨m, o, es, ep, e1, e2, e3⟩ := R.ns
    exact ⟨m, o, es, ep, hk _ _ (fun e' => hIX (e' ▸ R.mine)) e1, e2, e3⟩
  · intro x c e
    obtain ⟨v, o, e1, e2⟩ := R.held x c e
    exact ⟨v, o, hk _ _ (fun e' => by subst e'; exact hc _ e1 _ e2) e1, e2⟩
  · intro x hx
    rcases R.home x hx with h | ⟨h1, c, h2, h3, v, o, e1, e2⟩
    · exact .inl h
    · exact .inr ⟨h1, c, h2, h3, v, o, hk _ _ (fun e' => hIX (e' ▸ h3)) e1, e2⟩
  · intro p hp mv hm
    obtain ⟨v, h1, h2⟩ := R.vars p hp mv hm
    exact ⟨v, hold h1, h2.up hfz (fun _ h => h) fun a o ha e _ => hk a o (fun e' => hIX (e' ▸ ha)) e⟩
  · intro p hp q hq hn l l' a h1 h2 h3 h4
    obtain ⟨v, g1, a1, _, _, rfl, _⟩ := R.vars p hp _ h1
    obtain ⟨w, g2, a2, _, _, rfl, _⟩ := R.vars q hq _ h2
    have e1 := back h3 _ g1
    have e2 := back h4 _ g2
    cases e1; cases e2
    exact R.owns p hp q hq hn l l' a h1 h2 g1 g2

theorem Grow.dropped {Y : List Addr} {I : Addr} {h' : Heap} {tk : Nat} {s₀ : Shared} (G : Grow C Y s₀ s) (hI : s₀.heap.get? I = none) (hk : ∀ b o, b ≠ I → s.heap.get? b = some o → h'.get? b = some o) : Grow C Y s₀ { s with heap := h', toks := tk } := by
  have ne : ∀ b o, s₀.heap.get? b = some o → b ≠ I := fun b o e e' => by subst e'; rw [hI] at e; cases e
  exact ⟨fun b o hb hn e => hk b o (ne b o e) (G.keep b o hb hn e), fun b o e => let ⟨o', e'⟩ := G.alive b o e; ⟨o', hk b o' (ne b o e) e'⟩, G.os, G.gsize, G.gens⟩

theorem s_whl {t : Expr} {b : List Stmt} {m : ME} {bm : List MS} {pos : Pos} (ht : ST C F k c t m) (hb : SSs C F k W c b bm) : SS C F k W c (.While t b [] pos) (.whl m bm) := fun env wr ex X loc s A Q E r loc' EO RM hw R hv H => by
  refine wpAny_While ?_
  refine codeAny_whileLoop (fun n s' => ∃ X' loc₁, evWhl (fun l => evT F l m) (fun l => evSs F W bm l) n loc₁ = some (r, loc') ∧ Grow C X s s' ∧ (∀ a ∈ X', a ∈ X ∨ s.heap.get? a = none) ∧ Rel C env c.tb wr ex X' loc₁ s') ?_ W ⟨X, loc, hv, Grow.refl .., fun a h => .inl h, R⟩
  rintro n s₁ ⟨X1, loc₁, hv1, g1, hX1, R1⟩
  cases n with
  | zero => exact noneE hv1
  | succ n =>
    refine bindE hv1 fun tv htv hv1 => ?_
    refine bindE htv fun d hd htv => ?_
    obtain ⟨hsm, rfl⟩ := if_some htv
    refine ht env wr ex X1 loc₁ s₁ A _ _ d EO RM R1 hd hsm fun s₂ g₂ S₂ => ?_
    have R2 := R1.grow g₂ S₂
    have g12 : Grow C X s s₂ := g1.trans' g₂.weak0
    cases htr : truthV d with
    | false =>
      rw [htr] at hv1
      simp only [Bool.false_eq_true, if_false] at hv1 ⊢
      cases hv1
      exact wpAny_execs_nil (H X1 s₂ g12 hX1 R2)
    | true =>
      rw [htr] at hv1
      simp only [if_true] at hv1 ⊢
      refine bindE hv1 fun q9 hp hv1 => ?_
      obtain ⟨r1, loc2⟩ := q9
      refine hb env wr ex X1 loc₁ s₂ A _ _ r1 loc2 EO RM hw R2 hp fun X2 s₃ g₃ hX2 R3 => ?_
      have g13 : Grow C X s s₃ := g12.trans g₃ hX1
      have hX2' : ∀ a ∈ X2, a ∈ X ∨ s.heap.get? a = none := fun a ha => (hX2 a ha).elim (hX1 a) fun e => .inr (g12.fresh e)
      cases r1 with
      | next => exact ⟨n, Nat.lt_succ_self n, X2, loc2, hv1, g13, hX2', R3⟩
      | ret dd =>
        cases hv1
        exact fun v as rd => H X2 s₃ g13 hX2' R3 v as rd

theorem s_for {te it : Expr} {b : List Stmt} {mi : MI} {tg : Tg} {bm : List MS} {pos : Pos} (hp : plainIter it = true) (htg : ∀ wr, Wr c wr → TgOk c.tb wr te tg) (hi : SI C F k c it mi) (hb : SSs C F k W c b bm) :
    SS C F k W c (.For te it b [] pos) (.for_ tg mi bm) := fun env wr ex X loc s A Q E r loc' EO RM hw R hv H => by
  refine bindE hv fun xs hxs hv => ?_
  obtain ⟨X1, hX1, R1⟩ := R.frz (fvI mi)
  have hT := htg wr hw
  have hfold : ∀ x, foldedSetIterable it env x = pure x := folded_plain hp env
  refine wpAny_For (hi env wr ex X1 _ s A _ E xs EO RM R1 hxs fun I fp P Sti s₂ g₂ S₂ hI it' => ?_) hfold
  have R2 := R1.hide g₂ hI S₂
  have hIs : ∃ o, s₂.heap.get? I = some o := S₂.there I (.head _)
  have tabThere : ∀ {t}, t ∈ C.tabs → ∃ o, s.heap.get? t.P = some o := fun ht => R1.st.there _ (R1.st.tabx _ ht)
  have hIt : ¬ isTab C I := fun ⟨t, ht, e⟩ => by obtain ⟨o, ho⟩ := tabThere ht; rw [e, hI] at ho; cases ho
  have hIex : I ∉ ex := fun h => by obtain ⟨o, ho⟩ := R1.st.there I (List.mem_append_right _ h); rw [hI] at ho; cases ho
  have W' := it'.walks A RM.hh
  refine codeAny_forLoop_any (fun n s' => ∃ i X' loc₁, n = xs.length + 1 - i ∧ i ≤ xs.length ∧ evFor tg (fun l => evSs F W bm l) (xs.drop i) loc₁ = some (r, loc') ∧ Sti i s'.heap ∧ Grow C (I :: X1) s₂ s' ∧ (∀ a ∈ X', a ∈ X1 ∨ s₂.heap.get? a = none) ∧ Rel C env c.tb wr (I :: ex) X' loc₁ s') ?_ (xs.length + 1)
    ⟨0, X1, _, rfl, Nat.zero_le _, by simpa using hv, it'.st0, Grow.refl .., fun a h => .inl h, R2⟩
  rintro n s₃ ⟨i, X2, loc₁, rfl, hi', hv1, st, g₃, hX2, R3⟩
  have fin : ∀ {X3 : List Addr} {loc3 : Loc} {s₄ : Shared} {h' : Heap} {tk : Nat}, Grow C (I :: X1) s₂ s₄ → (∀ a ∈ X3, a ∈ X1 ∨ s₂.heap.get? a = none) → Rel C env c.tb wr (I :: ex) X3 loc3 s₄ → (∃ i, Sti i s₄.heap) → (∀ b o, b ≠ I → s₄.heap.get? b = some o → h'.get? b = some o) →
      Grow C X s { s₄ with heap := h', toks := tk } ∧ ∀ a ∈ X3, a ∈ X ∨ s.heap.get? a = none := by
    intro X3 loc3 s₄ h' tk g hX R' hst hk
    have gs : Grow C X s s₄ := (g₂.weak0 (X := X)).trans g fun p hp => by
      rcases List.mem_cons.mp hp with rfl | hp
      · exact .inr hI
      · exact .inl (hX1 p hp)
    exact ⟨gs.dropped hI hk, fun a ha => (hX a ha).elim (fun h => .inl (hX1 a h)) fun e => .inr (g₂.fresh e)⟩
  by_cases hlt : i < xs.length
  · refine turn_ok W' it'.live R3 (.head _) hIt hlt st fun v s₄ hPv g₄ st₄ R4 => ?_
    obtain ⟨d, bs, hd, rd⟩ := it'.vals i v hPv
    have hdrop : xs.drop i = d :: xs.drop (i + 1) := by
      have := List.drop_eq_getElem_cons hlt
      rw [this]
      have e2 := List.getElem?_eq_getElem hlt
      rw [e2] at hd; cases hd; rfl
    rw [hdrop] at hv1
    refine bindE hv1 fun loc2 hb2 hv1 => ?_
    refine bindE hv1 fun q9 hp3 hv1 => ?_
    obtain ⟨r1, loc3⟩ := q9
    have g4' : Grow C (I :: X1) s₂ s₄ := g₃.trans' (g₄.weak fun a ha => by rw [List.mem_singleton.mp ha]; exact .head _)
    refine letgo_ok (fun a ha => it'.cls i _ _ a (ha ▸ hPv) st₄) ?_
    have hfz : Sub (Fz s₂.heap (I :: (X1 ++ ex))) (Fz s₄.heap (X2 ++ I :: ex)) := fz_mono (fun b o hb e => g4'.keep b o (fun h => by
        rcases List.mem_cons.mp h with rfl | h
        · exact hb (.head _)
        · exact hb (.tail _ (List.mem_append_left _ h))) (fun ⟨t, ht, e'⟩ => hb (e' ▸ .tail _ (R1.st.tabx t ht))) e) fun b o hb e hb' => by
      rcases List.mem_cons.mp ((app_perm b).mp hb') with rfl | h
      · exact hb (.head _)
      · rcases List.mem_append.mp h with h | h
        · rcases hX2 b h with h | h
          · exact hb (.tail _ (List.mem_append_left _ h))
          · rw [h] at e; cases e
        · exact hb (.tail _ (List.mem_append_right _ h))
    refine target_ok hT RM.hh R4 hb2 (Reads.keeps hfz rd) fun s₅ g₅ R5 => ?_
    have g5' : Grow C (I :: X1) s₂ s₅ := g4'.trans g₅ fun p hp => (hX2 p hp).elim (fun h => .inl (.tail _ h)) .inr
    refine hb env wr (I :: ex) X2 loc2 s₅ A _ _ r1 loc3 EO RM hw R5 hp3 fun X3 s₆ g₆ hX3 R6 => ?_
    have g6' : Grow C (I :: X1) s₂ s₆ := g5'.trans g₆ fun p hp => (hX2 p hp).elim (fun h => .inl (.tail _ h)) .inr
    have hX3' : ∀ a ∈ X3, a ∈ X1 ∨ s₂.heap.get? a = none := fun a ha => (hX3 a ha).elim (hX2 a) fun e => .inr (g5'.fresh e)
    have hfp : ∀ b ∈ fp, b ∉ X2 ∧ ¬ isTab C b := fun b hb' => by
      rcases it'.fpok b hb' with rfl | ⟨o, ho⟩
      · exact ⟨fun h => R3.disj _ h (.head _), hIt⟩
      · obtain ⟨h1, h2⟩ := fz_iff.mp ho
        refine ⟨fun h => ?_, fun ⟨t, ht, e⟩ => h2 (e ▸ .tail _ (R1.st.tabx t ht))⟩
        rcases hX2 b h with h | h
        · exact h2 (.tail _ (List.mem_append_left _ h))
        · rw [h] at h1; cases h1
    have st₆ : Sti (i + 1) s₆.heap := Walks.over (C := C) (Y := X2) W' (Walks.over (C := C) (Y := X2) W' st₄ g₅ hfp) g₆ hfp
    cases r1 with
    | next => exact ⟨xs.length + 1 - (i + 1), by omega, i + 1, X3, loc3, rfl, hlt, hv1, st₆, g6', hX3', R6⟩
    | ret dd =>
      cases hv1
      intro v' as' rd'
      obtain ⟨f1, f2⟩ := fin (h' := s₆.heap) (tk := s₆.toks) g6' hX3' R6 ⟨_, st₆⟩ fun _ _ _ e => e
      obtain ⟨o, vs, ho, hdt⟩ := it'.live _ _ st₆
      have R7 := R6.drop (h' := s₆.heap) (tk := s₆.toks) (fun _ _ _ e => e) (fun o' e => by rw [ho] at e; cases e; rw [hdt]; nofun) hIex R1.tabex
      exact H X3 _ f1 f2 R7 v' as' (Reads.keeps (fz_mono (fun _ _ _ e => e) fun b _ hb _ hb' => hb ((app_perm b).mpr (.tail _ hb'))) rd')
  · have hin : i = xs.length := by omega
    subst hin
    rw [List.drop_length] at hv1
    cases Option.some.inj hv1
    refine W'.done s₃ _ _ st fun h' tk hk => ?_
    have hk' : ∀ b o, b ≠ I → s₃.heap.get? b = some o → h'.get? b = some o := fun b o hb e => hk b o (by simpa using hb) e
    obtain ⟨f1, f2⟩ := fin (h' := h') (tk := tk) g₃ hX2 R3 ⟨_, st⟩ hk'
    obtain ⟨o, vs, ho, hdt⟩ := it'.live _ _ st
    refine wpAny_execs_nil (H X2 _ f1 f2 (R3.drop (h' := h') (tk := tk) hk' (fun o' e => by rw [ho] at e; cases e; rw [hdt]; nofun) hIex R1.tabex))
end
end Mine

-- M22
namespace Mine
open PySem PySem.Spec PySem.Calls PyProof.Rows PySem.W

section
variable {C : Cx} {env : Env} {c : CC} {sc : Scope} {tb : List (Str × Nat)} {wr : List Str} {ex X : List Addr} {loc : Loc} {s s' : Shared} {A : Around} {E : Value → Shared → Prop} {k W : Nat} {F : Orc} {Ca : Addr}

theorem swaps_comp (elt : Expr) (gs : List Comprehension) (sc : Scope) (p : Pos) (x : Str) (px : Pos) (ln : Nat) (env : Env) : ∃ b, swapsWith (.ListComp elt gs sc p) (some (.Name x px)) ln env = pure b := ⟨_, rfl⟩

theorem s_ownc {x : Str} {i : Nat} {elt : Expr} {gs : List Comprehension} {sc : Scope} {p px pos : Pos} {m : ME} (hx : c.tb.lookup x = some i) (hxw : notFree c x = true) (hf : SF C F k c (.ListComp elt gs sc p) m) (hu : SU C F k c (.ListComp elt gs sc p) m) :
    SS C F k W c (.Assign [.Name x px] (.ListComp elt gs sc p) pos) (.own i m) := fun env wr ex X loc s A Q E r loc' EO RM hw R hv H => by
  have hv0 := hv
  refine bindE hv fun d hd hv => ?_
  obtain ⟨l, hl, hv⟩ := Option.map_eq_some_iff.mp hv
  cases hv
  obtain ⟨X1, hX1, R1⟩ := R.frz (fv m)
  obtain ⟨b, hb⟩ := swaps_comp elt gs sc p x px pos.line env
  have freshOwn : ∀ {a : Addr} {s₁ : Shared}, Grow C [] s s₁ → s.heap.get? a = none → ∀ q ∈ c.tb, q.2 ≠ i → ∀ l3, (frz (fv m) loc)[q.2]? = some (some (.own l3)) → ¬ Holds env s₁.heap q.1 (.ref a) := by
    intro a s₁ g₁ ha q hq _ l3 h3 hh
    obtain ⟨w, g1, a1, _, _, rfl, ha1, ⟨n1, ho1⟩, _⟩ := R1.vars q hq _ h3
    have ko : ∀ b o, s.heap.get? b = some o → (∀ ps, o.data ≠ .fields ps) → s₁.heap.get? b = some o := fun b o e hd => g₁.obj R.st e hd (fun h => nomatch h)
    have e := (g1.keeps ko).inj hh
    cases e
    rw [ha] at ho1; cases ho1
  cases b with
  | false =>
    obtain ⟨l', rfl, hw'⟩ := hf env wr ex X1 _ s A (fun v s₁ => wpAny C.M A (storeName env x v) (fun _ => Q .next) E s₁) E d EO RM R1 hd
    simp only [listD] at hl; cases hl
    refine wpAny_Assign_Name (hw' fun a vs as s₁ g₁ S₁ ha hlist hr => ?_) hb
    have R2 := R1.adopt g₁ ha S₁
    refine store_ok R2 hx (hw _ (mem_lookup hx) hxw) (mv := .own l) ⟨a, vs, as, rfl, .head _, hlist, hr⟩ (fun l2 _ q hq hqi l3 h3 => freshOwn g₁ ha q hq hqi l3 h3) fun s₂ g₂ R₂ => ?_
    refine H (a :: X1) s₂ ((g₁.weak0 (X := X)).trans g₂ fun p hp => ?_) (fun b hb => ?_) R₂
    · rcases List.mem_cons.mp hp with rfl | hp
      · exact .inr ha
      · exact .inl (hX1 p hp)
    · rcases List.mem_cons.mp hb with rfl | hb
      · exact .inr ha
      · exact .inl (hX1 b hb)
  | true =>
    obtain ⟨l', rfl, hw'⟩ := hu env wr ex X1 _ s A (assign (.Name x px) env) (fun _ s' => Q .next s') E d EO RM R1 hd
    simp only [listD] at hl; cases hl
    rw [exec_Assign_Name_used _ _ _ _ hb]
    refine wpAny_bind (wpAny_standAt (wpAny_bind (wpAny_mono (hw' ?_) (fun _ s' h => wpAny_pure h) fun _ _ h => h)))
    intro D Ca vs as s₁ g₁ S₁ hD hC hDC hns hlist hr
    have hCex : ∀ a ∈ X1 ++ ex, a ≠ Ca := fun a ha e => by
      obtain ⟨o, ho⟩ := R1.st.there a ha
      rw [e, hC] at ho; cases ho
    have R2 := (R1.hide g₁ hC (S₁.show_ (fun b hb => by
      rcases List.mem_cons.mp hb with rfl | hb
      · exact .head _
      · exact .tail _ (.tail _ hb)) (fun t ht => .tail _ (R1.st.tabx t ht))))
    have R3 : Rel C env c.tb wr (Ca :: ex) (D :: X1) (frz (fv m) loc) s₁ := by
      have S2 : St C (D :: (X1 ++ Ca :: ex)) s₁ := S₁.show_ (fun b hb => by
        rcases List.mem_cons.mp hb with rfl | hb
        · exact .tail _ (.head _)
        · rcases List.mem_cons.mp ((app_perm b).mp hb) with rfl | hb
          · exact .head _
          · exact .tail _ (.tail _ hb)) (fun t ht => .tail _ (List.mem_append_right _ (.tail _ (R1.tabex t ht))))
      -- both at once, from the start
      have ko : ∀ b o, s.heap.get? b = some o → (∀ ps, o.data ≠ .fields ps) → s₁.heap.get? b = some o := fun b o e hd => g₁.obj R1.st e hd (fun h => nomatch h)
      have hold : ∀ {x v}, Holds env s.heap x v → Holds env s₁.heap x v := fun h => h.keeps ko
      have back : ∀ {x v}, Holds env s₁.heap x v → ∀ w, Holds env s.heap x w → w = v := fun h w h' => (hold h').inj h
      have hfz : Sub (Fz s.heap (X1 ++ ex)) (Fz s₁.heap (D :: X1 ++ Ca :: ex)) := fz_mono (fun b o hb e => g₁.keep b o (fun h => nomatch h) (fun ⟨t, ht, e'⟩ => hb (e' ▸ R1.st.tabx t ht)) e) fun b o hb e hb' => by
        rcases List.mem_cons.mp hb' with rfl | h
        · rw [hD] at e; cases e
        · rcases List.mem_cons.mp ((app_perm b).mp h) with rfl | h
          · rw [hC] at e; cases e
          · exact hb h
      refine ⟨R1.tbok, R1.kind, S2, .tail _ R1.mine, R2.ns, R2.tabex, ?_, ?_, R1.apart, R2.held, ?_, ?_, ?_⟩
      · intro a ha
        rcases List.mem_cons.mp ha with rfl | ha
        · rintro ⟨t, ht, e⟩
          obtain ⟨o, ho⟩ := R1.st.there _ (R1.st.tabx t ht)
          rw [e, hD] at ho; cases ho
        · exact R1.notab a ha
      · intro a ha hb
        rcases List.mem_cons.mp ha with rfl | ha
        · rcases List.mem_cons.mp hb with rfl | hb
          · exact hDC rfl
          · obtain ⟨o, ho⟩ := R1.st.there _ (List.mem_append_right _ hb)
            rw [hD] at ho; cases ho
        · exact R2.disj a ha hb
      · intro x hx
        rcases R2.home x hx with h | ⟨h1, c, h2, h3, r⟩
        · exact .inl h
        · exact .inr ⟨h1, c, h2, .tail _ h3, r⟩
      · intro p hp mv hm
        obtain ⟨v, h1, h2⟩ := R1.vars p hp mv hm
        exact ⟨v, hold h1, h2.up hfz (fun _ h => .tail _ h) fun a o _ e ⟨vs, n, hd⟩ => ko a o e (by rw [hd]; nofun)⟩
      · exact R2.owns
    have hr3 : ReadsAll (Fz s₁.heap (D :: X1 ++ Ca :: ex)) vs.toList l as := ReadsAll.keeps (fz_mono (fun _ _ _ e => e) fun b _ hb _ hb' => hb (by
      rcases List.mem_cons.mp hb' with rfl | h
      · exact .tail _ (.head _)
      · rcases List.mem_cons.mp ((app_perm b).mp h) with rfl | h
        · exact .head _
        · exact .tail _ (.tail _ h))) hr
    refine wpAny_assign_Name (store_ok R3 hx (hw _ (mem_lookup hx) hxw) (mv := .own l) ⟨D, vs, as, rfl, .head _, hlist, hr3⟩ (fun l2 _ q hq hqi l3 h3 => freshOwn g₁ hD q hq hqi l3 h3) fun s₂ g₂ R₂ => ?_)
    have hCt : ¬ isTab C Ca := fun ⟨t, ht, e⟩ => by
      obtain ⟨o, ho⟩ := R1.st.there _ (R1.st.tabx t ht)
      rw [e, hC] at ho; cases ho
    have hCX : Ca ∉ D :: X1 := fun h => R3.disj Ca h (.head _)
    obtain ⟨mm, oc, es, ep, e1, e2, e3⟩ := hns
    have e1' := g₂.keep Ca oc hCX hCt e1
    refine ⟨mm, ⟨oc, es, ep, e1', e2, e3⟩, fun h' hs => ?_⟩
    have hk : ∀ b o, b ≠ Ca → s₂.heap.get? b = some o → h'.get? b = some o := fun b o hb e => (hs.2 b hb).trans e
    have hCe : Ca ∉ ex := fun h => hCex Ca (List.mem_append_right _ h) rfl
    have gX : Grow C X s s₂ := (g₁.weak0 (X := X)).trans g₂ fun p hp => by
      rcases List.mem_cons.mp hp with rfl | hp
      · exact .inr hD
      · exact .inl (hX1 p hp)
    refine H (D :: X1) { s₂ with heap := h', toks := s₂.toks } (gX.dropped hC hk) (fun b hb => ?_) (R₂.drop hk (fun o e v => by rw [e1'] at e; cases e; rw [e2]; nofun) hCe R1.tabex)
    rcases List.mem_cons.mp hb with rfl | hb
    · exact .inr hD
    · exact .inl (hX1 b hb)

theorem s_retN {pos : Pos} : SS C F k W c (.Return none pos) (.ret (.lit .none)) := fun env wr ex X loc s A Q E r loc' EO RM hw R hv H => by
  cases Option.some.inj hv
  obtain ⟨X1, hX1, R1⟩ := R.frz (fv (.lit .none))
  rw [exec_Return_none]
  exact wpAny_bind (wpAny_standAt (wpAny_pure (H X1 s (Grow.refl ..) (fun a ha => .inl (hX1 a ha)) R1 .none [] .none)))
theorem s_fail {st : Stmt} : SS C F k W c st .fail := fun env wr ex X loc s A Q E r loc' EO RM hw R hv H => by
  exact noneE hv

theorem swaps_no {e : Expr} (h : noComp e = true) (x : Str) (px : Pos) (ln : Nat) (env : Env) : swapsWith e (some (.Name x px)) ln env = pure false := by
  cases e <;> first | rfl | cases h

theorem swaps_sub (o i : Expr) (p : Pos) (e : Expr) (ln : Nat) (env : Env) : swapsWithSole [.Subscript o i p] e ln env = pure false := by cases e <;> rfl
section
variable {rec : CC → Expr → Option ME}
theorem wtb_tg {t : Expr} {tg : Tg} (h : targetOf (wtb c) t = some tg) (wr : List Str) (hw : Wr c wr) : TgOk c.tb wr t tg := tgOk_of (fun x i hxi => ⟨(wtb_lookup hxi).1, hw _ (mem_lookup (wtb_lookup hxi).1) (wtb_lookup hxi).2⟩) h
theorem cA1_ok (S : RecOk C F k rec) (O : Ok C k F c) {i : Nat} {x : Str} {px : Pos} {e : Expr} {m : MS} {pos : Pos} (hx : (wtb c).lookup x = some i) (h : cA1 rec c i e = some m) : SS C F k W c (.Assign [.Name x px] e pos) m := by
  have hw := wtb_lookup hx
  refine altE h (fun h => bindE h fun q hq h => mapE h fun a ha => ?_) fun h => gdE h fun hn h => altE h (fun h => bindE h fun q hq h => bindE h fun f hf h => gdE h fun hg h => mapE h fun as has => ?_)
    fun h => altE h (fun h => mapE h fun a ha => s_own hw.1 hw.2 (f_ok S O ha) fun env => swaps_no hn ..) fun h => mapE h fun a ha => s_assign hw.1 hw.2 (S _ _ _ O ha).1 fun env => swaps_no hn ..
  · rw [lcE hq]
    have h1 := g_ok S O (p := q.2.2.2) ha
    exact s_ownc hw.1 hw.2 h1.1 h1.2
  · rw [callE hq, nmE hf]
    have h1 := es_ok S O has
    exact andE' hg fun hr hg => s_rngA O (eq_of_beq hr) hg h1.2 hw.1 hw.2 h1.1
theorem cA_ok (S : RecOk C F k rec) (O : Ok C k F c) {ts : List Expr} {e : Expr} {m : MS} {pos : Pos} (h : cA rec c ts e = some m) : SS C F k W c (.Assign ts e pos) m := by
  refine altE h (fun h => bindE h fun t ht h => bindE h fun x hx h => bindE h fun y hy h => bindE h fun i hi h => bindE h fun j hj h => mapE h fun a ha => ?_) fun h => bindE h fun t ht h => ?_
  · rw [twoE ht, nmE hx, nmE hy]
    exact s_assign2 (wtb_lookup hi).1 (wtb_lookup hj).1 (wtb_lookup hi).2 (wtb_lookup hj).2 (S _ _ _ O ha).1
  · rw [oneE ht]
    refine altE h (fun h => bindE h fun x hx h => bindE h fun i hi h => ?_) fun h => altE h (fun h => bindE h fun t ht h => gdE h fun ho h => bindE h fun l hl h => gdE h fun hnd h => mapE h fun a ha => ?_)
      fun h => bindE h fun q hq h => bindE h fun x hx h => gdE h fun hn h => bindE h fun n hk h => bindE h fun a ha h => mapE h fun b hb => ?_
    · rw [nmE hx]; exact cA1_ok S O hi h
    · rw [tupE ht]
      exact s_assignT (fun wr hw => nmOk_of (fun x i hxi => ⟨(wtb_lookup hxi).1, hw _ (mem_lookup (wtb_lookup hxi).1) (wtb_lookup hxi).2⟩) hl) (of_decide_eq_true hnd) ho (S _ _ _ O ha).1
    · rw [subE hq, nmE hx]
      exact s_setI hk hn (S _ _ _ O hb).1 (S _ _ _ O ha).1 fun env => swaps_sub ..
theorem cG2_ok (S : RecOk C F k rec) (O : Ok C k F c) {t e : Expr} {op : Operator} {m : MS} {pos : Pos} (h : cG2 rec c t op e = some m) : SS C F k W c (.AugAssign t op e pos) m := by
  refine altE h (fun h => bindE h fun x hx h => bindE h fun i hi h => mapE h fun a ha => ?_) fun h => bindE h fun q hq h => bindE h fun x hx h => gdE h fun hn h => bindE h fun n hk h => bindE h fun b hb h => mapE h fun a ha => ?_
  · rw [nmE hx]; exact s_aug (wtb_lookup hi).1 (wtb_lookup hi).2 (S _ _ _ O ha).1
  · rw [subE hq, nmE hx]; exact s_augI hk hn (S _ _ _ O hb).1 (S _ _ _ O ha).1
theorem cX_ok (S : RecOk C F k rec) (O : Ok C k F c) {e : Expr} {m : MS} {pos : Pos} (h : cX rec c e = some m) : SS C F k W c (.Expr e pos) m := by
  refine bindE h fun q hq h => bindE h fun o ho h => bindE h fun x hx h => gdE h fun hl h => bindE h fun n hk h => ?_
  rw [callE hq, atE ho, nmE hx]
  refine altE h (fun h => bindE h fun a ha h => gdE h fun hm h => andE' hm fun hm hs => mapE h fun b hb => ?_) fun h => gdE h fun hm h => andE' hm fun h0 hm => someE h ?_
  · rw [oneE ha]; exact s_app hk (eq_of_beq hm) hl hs (S _ _ _ O hb).1
  · rw [show q.2.1 = [] from List.isEmpty_iff.mp h0]; exact s_rev hk (eq_of_beq hm) hl
variable {recS : CC → Stmt → Option MS}
noncomputable def RecSOk (C : Cx) (F : Orc) (k W : Nat) (recS : CC → Stmt → Option MS) : Prop := ∀ c st m, Ok C k F c → recS c st = some m → SS C F k W c st m
theorem sl_ok (T : RecSOk C F k W recS) (O : Ok C k F c) : ∀ {l : List Stmt} {ms : List MS}, cSl c recS l = some ms → SSs C F k W c l ms
  | [], _, h => someE h ss_nil
  | s :: r, _, h => bindE h fun a ha h => mapE h fun as has => ss_cons (T _ _ _ O ha) (sl_ok T O has)
theorem s1_ok (S : RecOk C F k rec) (T : RecSOk C F k W recS) (O : Ok C k F c) {st : Stmt} {m : MS} (h : cS1 rec c recS st = some m) : SS C F k W c st m := by
  cases st with
  | Assign ts e p => exact cA_ok S O h
  | AugAssign t op e p => exact cG2_ok S O h
  | Expr e p => exact cX_ok S O h
  | If t b o p => exact bindE h fun x hx h => bindE h fun y hy h => mapE h fun z hz => s_ite (S _ _ _ O hx).2 (sl_ok T O hy) (sl_ok T O hz)
  | While t b o p =>
    refine gdE h fun h0 h => bindE h fun x hx h => mapE h fun y hy => ?_
    obtain rfl : o = [] := List.isEmpty_iff.mp h0
    exact s_whl (S _ _ _ O hx).2 (sl_ok T O hy)
  | For t it b o p =>
    refine gdE h fun h0 h => andE' h0 fun h0 hp => bindE h fun tg ht h => bindE h fun a ha h => mapE h fun y hy => ?_
    obtain rfl : o = [] := List.isEmpty_iff.mp h0
    exact s_for hp (wtb_tg ht) (i_ok S O ha) (sl_ok T O hy)
  | Return e p =>
    refine mapE h fun a ha => ?_
    cases e with
    | none => exact someE (P := fun m => SS C F k W c (.Return none p) (.ret m)) (show some _ = some a from ha) s_retN
    | some e => exact s_ret (S _ _ _ O ha).1
  | Raise => exact someE h s_fail
  | _ => exact noneE h
end
structure SndS (C : Cx) (F : Orc) (k W n : Nat) : Prop where
  s : ∀ c st m, Ok C k F c → cS n c st = some m → SS C F k W c st m
  ss : ∀ c sts ms, Ok C k F c → cSs n c sts = some ms → SSs C F k W c sts ms
theorem cS_ok : ∀ n, RecSOk C F k W (cS n)
  | 0 => fun c st m _ h => noneE h
  | n + 1 => fun c st m O h => s1_ok (snd_all n) (cS_ok n) O h
theorem sndS_all (n : Nat) : SndS C F k W n := ⟨cS_ok n, fun c sts ms O h => sl_ok (cS_ok n) O h⟩
end
end Mine

-- M23
namespace Mine
open PySem PySem.Spec PySem.Calls PyProof.Rows PySem.W

/-! ## defs -/
noncomputable def paramsOf (d : DefRec) : List Str := d.params.args.map (·.arg)
noncomputable def defOk (d : DefRec) : Bool :=
  d.scope.kind == .function && !d.scope.isCoroutine && !d.scope.isGenerator && decide (d.scope.names.map (·.1)).Nodup && (d.scope.names.all fun p => p.2 != .free) &&
  ((slotsOf d.params d.scope).all fun p => d.scope.names.lookup p.1 == some .local || d.scope.names.lookup p.1 == some .cell) &&
  (((slotsOf d.params d.scope).all fun p => p.1 != ("__classdict__" : Str) && p.1 != ("__debug__" : Str)) && decide ((slotsOf d.params d.scope).map (·.1)).Nodup && decide ((slotsOf d.params d.scope).map (·.2)).Nodup)

structure DefOk (d : DefRec) : Prop where
  kind : d.scope.kind = .function
  co : d.scope.isCoroutine = false
  gen : d.scope.isGenerator = false
  nodup : (d.scope.names.map (·.1)).Nodup
  nofree : ∀ x, (x, NameKind.free) ∉ d.scope.names
  own : ∀ p ∈ slotsOf d.params d.scope, d.scope.names.lookup p.1 = some .local ∨ d.scope.names.lookup p.1 = some .cell
  tb : TbOk (slotsOf d.params d.scope)
theorem DefOk.of {d : DefRec} (h : defOk d = true) : DefOk d := by
  unfold defOk at h
  simp only [Bool.and_eq_true, decide_eq_true_eq, List.all_eq_true, bne_iff_ne, ne_eq, Bool.or_eq_true, beq_iff_eq, Bool.not_eq_true'] at h
  obtain ⟨⟨⟨⟨⟨⟨h1, h2⟩, h3⟩, h4⟩, h5⟩, h6⟩, ⟨h7, h8⟩, h9⟩ := h
  exact ⟨h1, h2, h3, h4, fun x hx => h5 _ hx rfl, h6, ⟨h7, h8, h9⟩⟩

theorem bindL_other {kindOf : Str → Option NameKind} : ∀ {binds : List (Str × Value)} {m : Str → Option Value} {x : Str}, x ∉ binds.map (·.1) → bindL kindOf binds m x = m x := by
  intro binds
  induction binds with
  | nil => intro m x _; rfl
  | cons p r ih =>
    intro m x h
    obtain ⟨n, v⟩ := p
    simp only [List.map_cons, List.mem_cons, not_or] at h
    unfold bindL
    rw [ih h.2]
    split
    · show (if x = n then some v else m x) = m x
      rw [if_neg h.1]
    · rfl
theorem bindL_get {kindOf : Str → Option NameKind} : ∀ {binds : List (Str × Value)} {m : Str → Option Value} {x : Str} {v : Value}, (binds.map (·.1)).Nodup → (x, v) ∈ binds → kindOf x = some .local → bindL kindOf binds m x = some v := by
  intro binds
  induction binds with
  | nil => intro m x v _ h; cases h
  | cons p r ih =>
    intro m x v hn h hk
    obtain ⟨n, w⟩ := p
    simp only [List.map_cons, List.nodup_cons] at hn
    unfold bindL
    rcases List.mem_cons.mp h with h | h
    · cases h
      rw [bindL_other hn.1, if_pos hk]; simp
    · exact ih hn.2 h hk
theorem bindC_other {kindOf : Str → Option NameKind} : ∀ {binds : List (Str × Value)} {m : Str → Option Value} {x : Str}, x ∉ binds.map (·.1) → bindC kindOf binds m x = m x := by
  intro binds
  induction binds with
  | nil => intro m x _; rfl
  | cons p r ih =>
    intro m x h
    obtain ⟨n, v⟩ := p
    simp only [List.map_cons, List.mem_cons, not_or] at h
    unfold bindC
    rw [ih h.2]
    split
    · rfl
    · show (if x = n then some v else m x) = m x
      rw [if_neg h.1]
theorem bindC_get {kindOf : Str → Option NameKind} : ∀ {binds : List (Str × Value)} {m : Str → Option Value} {x : Str} {v : Value}, (binds.map (·.1)).Nodup → (x, v) ∈ binds → kindOf x ≠ some .local → bindC kindOf binds m x = some v := by
  intro binds
  induction binds with
  | nil => intro m x v _ h; cases h
  | cons p r ih =>
    intro m x v hn h hk
    obtain ⟨n, w⟩ := p
    simp only [List.map_cons, List.nodup_cons] at hn
    unfold bindC
    rcases List.mem_cons.mp h with h | h
    · cases h
      rw [bindC_other hn.1, if_neg hk]; simp
    · exact ih hn.2 h hk

theorem slots_param {ps : Arguments} {sc : Scope} {i : Nat} (h : i < (ps.args.map (·.arg)).length) {x : Str} (hx : (x, i) ∈ slotsOf ps sc) : (ps.args.map (·.arg))[i]? = some x := by
  unfold slotsOf at hx
  have h1 := List.mem_zipIdx hx
  have h2 := h1.2.2
  simp only [Nat.sub_zero] at h2
  rw [List.getElem_append_left h] at h2
  rw [List.getElem?_eq_getElem h, h2]
theorem slots_has {ps : Arguments} {sc : Scope} {i : Nat} {x : Str} (h : (ps.args.map (·.arg))[i]? = some x) : (x, i) ∈ slotsOf ps sc := by
  unfold slotsOf
  have hi : i < (ps.args.map (·.arg)).length := by
    rcases Nat.lt_or_ge i (ps.args.map (·.arg)).length with h' | h'
    · exact h'
    · rw [List.getElem?_eq_none h'] at h; cases h
  rw [List.mem_zipIdx_iff_getElem?]
  rw [List.getElem?_append_left hi]
  exact h

theorem cells_nodup : ∀ {names : List (Str × NameKind)} {n : Nat} {acc : List (Str × Addr)}, (names.map (·.1)).Nodup → (acc.map (·.1)).Nodup → (∀ x, x ∈ names.map (·.1) → x ∉ acc.map (·.1)) → ((cellsFrom n names acc).map (·.1)).Nodup := by
  intro names
  induction names with
  | nil => intro n acc _ h _; exact h
  | cons p r ih =>
    intro n acc h1 h2 h3
    obtain ⟨m, kd⟩ := p
    simp only [List.map_cons, List.nodup_cons] at h1
    unfold cellsFrom
    split
    · refine ih h1.2 ?_ ?_
      · simp only [List.map_cons, List.nodup_cons]
        exact ⟨h3 m (by simp), h2⟩
      · intro x hx hx2
        simp only [List.map_cons, List.mem_cons] at hx2
        rcases hx2 with rfl | hx2
        · exact h1.1 hx
        · exact h3 x (by simp only [List.map_cons, List.mem_cons]; exact .inr hx) hx2
    · exact ih h1.2 h2 fun x hx => h3 x (by simp only [List.map_cons, List.mem_cons]; exact .inr hx)

section
variable {C : Cx} {k W : Nat} {F : Orc}

theorem def_entryE {d : DefRec} {N : Nat} {fns : List Str} {consts : List (Str × PyData)} {args : List PyData} (hd : d ∈ C.defs) (D : DefOk d)
    (hbind : ∀ pm code doc vals, vals.length = (paramsOf d).length → bindArgs (docDef d.name d.params d.body d.scope pm code doc) ⟨vals, []⟩ = pure ((paramsOf d).zip vals))
    (hnp : args.length = d.params.args.length) {a : Addr} (hma : C.mg d.name = some (.ref a)) {A : Around} {s : Shared} {ex : List Addr} {vs : List Value} {as : List Addr} {Q E : Value → Shared → Prop} (RM : Room A (k + 1)) (S : St C ex s) (hreads : ReadsAll (Fz s.heap ex) vs args as)
    (h : ∀ env X s₁ o pm code doc, env.frame = some env.locals → X = env.locals :: env.cells.map (·.2) → env.cells = cellsFrom (s.heap.objs.size + 1) d.scope.names [] → (Fz s.heap ex).get? a = some o → o.data = .func (docDef d.name d.params d.body d.scope pm code doc) → env.code = code → env.qual = d.name ++ ".<locals>." → env.scope = d.scope → EnvOk env (ccOf d.params d.scope fns consts) → Grow C [] s s₁ → (∀ b ∈ X, s.heap.get? b = none) →
      Rel C env (ccOf d.params d.scope fns consts).tb ((slotsOf d.params d.scope).map (·.1)) ex X (args.map (fun d => some (.dat d)) ++ List.replicate (N - d.params.args.length) none) s₁ →
      wpAny C.M (A.deeper env) (execs d.body env) (fun f s' => Q (match f with | .ret v => v | _ => .none) s') (fun e s' => wpAny C.M (A.deeper env) (leaving env e) (fun _ s'' => E e s'') (fun e' s'' => E e' s'') s') s₁) : wpAny C.M A (call (.ref a) vs []) Q E s := by
  obtain ⟨a', o, pm, code, doc, hm, ho, hdat, hcode⟩ := S.gd.fn d hd
  rw [hma] at hm; cases hm
  have hlen := readsAll_len hreads
  have hpl : (paramsOf d).length = d.params.args.length := by simp [paramsOf]
  have hvl : vs.length = (paramsOf d).length := by rw [hlen, hnp, hpl]
  have hpn : ((paramsOf d).zip vs).map (·.1) = paramsOf d := by
    rw [List.map_fst_zip]; omega
  have hpnd : (((paramsOf d).zip vs).map (·.1)).Nodup := by
    rw [hpn]
    have := D.tb.n1
    unfold slotsOf at this
    rw [List.zipIdx_map_fst] at this
    exact (List.nodup_append.mp this).1
  have own : ∀ x i, (paramsOf d)[i]? = some x → d.scope.names.lookup x = some .local ∨ d.scope.names.lookup x = some .cell := fun x i h => D.own _ (slots_has h)
  refine wpAny_call (codeAny_call_cells (binds := (paramsOf d).zip vs) RM.here (fz_sub _ _ ho) hdat (S.gd.nolimit.keeps fz_sub) (hcode.keeps fz_sub) rfl (hbind pm code doc vs hvl) rfl ?_ (fun s₁ x => ?_) D.co D.gen D.kind)
  · intro x hx
    have hx1 : x.1 ∈ paramsOf d := by rw [← hpn]; exact List.mem_map.mpr ⟨x, hx, rfl⟩
    obtain ⟨i, hi⟩ := List.getElem?_of_mem hx1
    rcases own _ _ hi with h | h
    · exact .inl h
    · refine .inr ⟨h, ?_⟩
      obtain ⟨b, hb⟩ := cells_has (n := s.heap.objs.size + 1) (acc := []) (.inl (mem_lookup h))
      obtain ⟨b', hb'⟩ := lookup_of_mem hb
      show (List.lookup x.1 (cellsFrom (s.heap.objs.size + 1) d.scope.names [])).isSome = true
      rw [hb']; rfl
  · have keep := x.toInCall.keep
    have hns := x.toInCall.ns
    have hcell := x.cell
    have hap := x.apart
    have habove := x.above
    obtain ⟨h₁, tk, hs₁⟩ := x.toInCall.same
    subst hs₁
    generalize henv : callEnvC (docDef d.name d.params d.body d.scope pm code doc) s.heap.objs.size a = env at hns hcell hap habove ⊢
    have hkind : ∀ y, env.kindOf y = d.scope.names.lookup y := fun y => by rw [← henv]; rfl
    have hcells : env.cells = cellsFrom (s.heap.objs.size + 1) d.scope.names [] := by rw [← henv]; rfl
    have hloc : env.locals = s.heap.objs.size := by rw [← henv]; rfl
    have hgl : env.globals = mainGlobals := by rw [← henv]; rfl
    have hbi : env.builtins = builtinsNs := by rw [← henv]; rfl
    have hfr : env.frame = some env.locals := by rw [← henv]; rfl
    have hsk : env.scope.kind = .function := by rw [← henv]; exact D.kind
    have hcodeE : env.code = code := by rw [← henv]; rfl
    have hqual : env.qual = d.name ++ ".<locals>." := by rw [← henv]; rfl
    have hscE : env.scope = d.scope := by rw [← henv]; rfl
    clear henv
    have EO : EnvOk env (ccOf d.params d.scope fns consts) := ⟨hgl, hbi, fun y kd h => .inl ((hkind y).trans h), fun y h => by
      rw [hkind] at h
      rw [hcells]
      rcases h with h | h
      · obtain ⟨b, hb⟩ := cells_has (n := s.heap.objs.size + 1) (acc := []) (.inl (mem_lookup h))
        exact lookup_of_mem hb
      · exact absurd (mem_lookup h) (D.nofree y)⟩
    have hX : ∀ b ∈ env.locals :: env.cells.map (·.2), s.heap.get? b = none ∧ ∃ o, h₁.get? b = some o := fun b hb => by
      rcases List.mem_cons.mp hb with rfl | hb
      · obtain ⟨o, _, _, e, _⟩ := hns
        exact ⟨by rw [hloc]; exact get?_size _, o, e⟩
      · obtain ⟨⟨y, b'⟩, hy, rfl⟩ := List.mem_map.mp hb
        have hlt := habove y b' hy
        rw [hloc] at hlt
        refine ⟨?_, ?_⟩
        · cases q : s.heap.get? b' with
          | none => rfl
          | some o => exact absurd (Heap.lt_size q) (Nat.not_lt.mpr (Nat.le_of_lt hlt))
        · obtain ⟨c', hc'⟩ := lookup_of_mem hy
          have hm2 := mem_lookup hc'
          have he : c' = b' := by
            have hnd : (env.cells.map (·.1)).Nodup := by
              rw [hcells]; exact cells_nodup D.nodup List.nodup_nil (fun z _ h => nomatch h)
            have := lookup_uniq hnd hy
            rw [hc'] at this
            exact Option.some.inj this
          subst he
          obtain ⟨o, e, _⟩ := hcell y c' hc'
          exact ⟨o, e⟩
    have hG : Grow C [] s { s with heap := h₁, toks := tk } := Grow.sub keep
    have hS : St C ((env.locals :: env.cells.map (·.2)) ++ ex) { s with heap := h₁, toks := tk } := S.hids keep (fun b hb => (hX b hb).1) (fun b hb => (hX b hb).2) tk
    have hparam : ∀ (i : Nat) (y : Str) (v : Value), (paramsOf d)[i]? = some y → vs[i]? = some v → (y, v) ∈ (paramsOf d).zip vs := fun i y v h1 h2 => by
      refine List.mem_of_getElem? (i := i) ?_
      rw [List.getElem?_zip_eq_some]; exact ⟨h1, h2⟩
    have R : Rel C env (ccOf d.params d.scope fns consts).tb ((slotsOf d.params d.scope).map (·.1)) ex (env.locals :: env.cells.map (·.2))
        (args.map (fun d => some (.dat d)) ++ List.replicate (N - d.params.args.length) none) { s with heap := h₁, toks := tk } := by
      have homeC : ∀ y, d.scope.names.lookup y = some .cell → ∃ c, env.cells.lookup y = some c := fun y h => EO.cells y (.inl ((hkind y).trans h))
      have vget : ∀ p ∈ slotsOf d.params d.scope, ∀ mv, (args.map (fun d => some (MV.dat d)) ++ List.replicate (N - d.params.args.length) none)[p.2]? = some (some mv) → ∃ dd, args[p.2]? = some dd ∧ mv = .dat dd ∧ p.2 < (paramsOf d).length := by
        intro p hp mv hm
        rcases Nat.lt_or_ge p.2 (args.map fun d => some (MV.dat d)).length with hi | hi
        · rw [List.getElem?_append_left hi, List.getElem?_map] at hm
          have hi' : p.2 < args.length := by simpa using hi
          rw [List.getElem?_eq_getElem hi'] at hm
          cases hm
          exact ⟨_, List.getElem?_eq_getElem hi', rfl, by rw [hpl, ← show args.length = d.params.args.length from hnp]; exact hi'⟩
        · rw [List.getElem?_append_right hi] at hm
          have := List.eq_of_mem_replicate (List.mem_of_getElem? hm)
          cases this
      refine ⟨D.tb, hsk, hS, .head _, ⟨_, hns⟩, fun t ht => S.tabx t ht, ?_, ?_, ?_, ?_, ?_, ?_, ?_⟩
      · rintro b hb ⟨t, ht, rfl⟩
        obtain ⟨ps, h1, _⟩ := S.tab t ht
        rw [(hX _ hb).1] at h1; cases h1
      · intro b hb hb'
        obtain ⟨o, e⟩ := S.there b hb'
        rw [(hX b hb).1] at e; cases e
      · intro y z b hy hz
        exact name_of_addr hap (mem_lookup hy) (mem_lookup hz)
      · intro y b hy
        exact ⟨_, hcell y b hy⟩
      · intro y hy
        obtain ⟨p, hp, rfl⟩ := List.mem_map.mp hy
        rcases D.own p hp with h | h
        · exact .inl ((hkind _).trans h)
        · obtain ⟨c', hc'⟩ := homeC _ h
          exact .inr ⟨(hkind _).trans h, c', hc', .tail _ (List.mem_map.mpr ⟨_, mem_lookup hc', rfl⟩), _, hcell _ _ hc'⟩
      · intro p hp mv hm
        obtain ⟨dd, hdd, rfl, hi⟩ := vget p hp mv hm
        obtain ⟨v, bs, hv, rv⟩ := readsAll_get hreads p.2 dd hdd
        have hpi := slots_param (show p.2 < (d.params.args.map (·.arg)).length from hi) (x := p.1) hp
        have hz := hparam p.2 p.1 v hpi hv
        refine ⟨v, ?_, bs, Reads.keeps (fz_mono (fun b o _ e => keep b o e) fun b o hb e hb' => ?_) rv⟩
        · rcases D.own p hp with h | h
          · exact .inl ⟨(hkind _).trans h, _, hns, bindL_get hpnd hz ((hkind _).trans h)⟩
          · obtain ⟨c', hc'⟩ := homeC _ h
            refine .inr ⟨.inl ((hkind _).trans h), c', hc', ?_⟩
            have := hcell _ _ hc'
            rw [bindC_get hpnd hz (by rw [hkind, h]; decide)] at this
            exact this
        · rcases List.mem_append.mp hb' with h | h
          · rw [(hX b h).1] at e; cases e
          · exact hb h
      · intro p hp q hq hn l l' b h1
        obtain ⟨dd, _, e, _⟩ := vget p hp _ h1
        cases e
    exact h env _ _ o pm code doc hfr rfl hcells ho hdat hcodeE hqual hscE EO hG (fun b hb => (hX b hb).1) R

theorem def_entry {d : DefRec} {N : Nat} {fns : List Str} {consts : List (Str × PyData)} {args : List PyData} (hd : d ∈ C.defs) (D : DefOk d)
    (hbind : ∀ pm code doc vals, vals.length = (paramsOf d).length → bindArgs (docDef d.name d.params d.body d.scope pm code doc) ⟨vals, []⟩ = pure ((paramsOf d).zip vals))
    (hnp : args.length = d.params.args.length) {a : Addr} (hma : C.mg d.name = some (.ref a)) {A : Around} {s : Shared} {ex : List Addr} {vs : List Value} {as : List Addr} {Q E : Value → Shared → Prop} (RM : Room A (k + 1)) (S : St C ex s) (hreads : ReadsAll (Fz s.heap ex) vs args as)
    (h : ∀ env X s₁ E' o pm code doc, (Fz s.heap ex).get? a = some o → o.data = .func (docDef d.name d.params d.body d.scope pm code doc) → env.code = code → env.qual = d.name ++ ".<locals>." → env.scope = d.scope → EnvOk env (ccOf d.params d.scope fns consts) → Grow C [] s s₁ → (∀ b ∈ X, s.heap.get? b = none) →
      Rel C env (ccOf d.params d.scope fns consts).tb ((slotsOf d.params d.scope).map (·.1)) ex X (args.map (fun d => some (.dat d)) ++ List.replicate (N - d.params.args.length) none) s₁ →
      wpAny C.M (A.deeper env) (execs d.body env) (fun f s' => Q (match f with | .ret v => v | _ => .none) s') E' s₁) : wpAny C.M A (call (.ref a) vs []) Q E s := def_entryE hd D hbind hnp hma RM S hreads fun env X s₁ o pm code doc _ _ _ => h env X s₁ _ o pm code doc

theorem call_ss {d : DefRec} {ms : List MS} {N : Nat} {fns : List Str} {consts : List (Str × PyData)} {args : List PyData} {r : PyData} (hd : d ∈ C.defs) (D : DefOk d)
    (hss : SSs C F k W (ccOf d.params d.scope fns consts) d.body ms) (hbind : ∀ pm code doc vals, vals.length = (paramsOf d).length → bindArgs (docDef d.name d.params d.body d.scope pm code doc) ⟨vals, []⟩ = pure ((paramsOf d).zip vals))
    (hr : evFn F W ⟨d.params.args.length, N, ms⟩ args = some r) : ∀ a, C.mg d.name = some (.ref a) → CallsTo C (k + 1) (.ref a) args r := by
  intro a hma A s ex vs as Q E RM S hreads hQ
  unfold evFn at hr
  split at hr
  · rename_i hnp
    obtain ⟨⟨fr, loc'⟩, hev, hr⟩ := Option.map_eq_some_iff.mp hr
    refine def_entry (N := N) (fns := fns) (consts := consts) hd D hbind hnp hma RM S hreads fun env X s₁ E' o pm code doc _ _ _ _ _ EO hG hX R => ?_
    refine hss env _ ex _ _ _ _ _ _ fr loc' EO RM.deeper (fun p hp _ => List.mem_map.mpr ⟨p, hp, rfl⟩) R hev fun X' s' g hX' R' => ?_
    have gs : Grow C [] s s' := hG.trans g fun b hb => .inr (hX b hb)
    have Ss : St C ex s' := R'.st.show_ (fun b hb => List.mem_append_right _ hb) S.tabx
    cases fr with
    | next => cases hr; exact hQ _ [] s' gs Ss .none
    | ret dd =>
      cases hr
      exact fun v bs rv => hQ v bs s' gs Ss (Reads.keeps (fz_mono (fun _ _ _ e => e) fun b _ hb _ hb' => hb (List.mem_append_right _ hb')) rv)
  · cases hr
end
end Mine

-- G1
namespace Mine
open PySem PySem.Spec PySem.Calls PyProof.Rows PySem.W
open Sem (wp)

section
variable {M : Model} {A : Around} {R : GenEnd} {Y : Protocol} {n : Nat} {s₀ : Shared} {c : Code} {fs : List Frame} {s : Shared} {env : Env}
  {K : Flow → Sem Fin} {H : Value → Sem Fin} {gd : Bool → Bool} {lv : List Value → List Value}

theorem seg_If {test : Expr} {body orelse : List Stmt} {pos : Pos}
    (h : wpAny M (A.over c fs) (isTrue test env (eval test env)) (fun b s' => Seg M A R Y n s₀ c ((execs (if b then body else orelse) env).wrap K H gd lv) fs s') (fun x s' => Seg M A R Y n s₀ c (H x) fs s') s) :
    Seg M A R Y n s₀ c ((exec (.If test body orelse pos) env).wrap K H gd lv) fs s := by
  rw [exec_If]
  show Seg M A R Y n s₀ c (.at pos fun _ => ((isTrue test env (eval test env) >>= fun b => if b = true then execs body env else execs orelse env)).wrap K H gd lv) fs s
  refine seg_at ?_
  rw [Sem.bind_eq_wrap', Sem.wrap_wrap]
  refine seg_wrap (wpAny_mono h (fun b s' h' => ?_) fun _ _ x => x)
  cases b <;> exact h'

theorem seg_plain {st : Stmt} (h : wpAny M (A.over c fs) (exec st env) (fun f s' => Seg M A R Y n s₀ c (K f) fs s') (fun x s' => Seg M A R Y n s₀ c (H x) fs s') s) :
    Seg M A R Y n s₀ c ((exec st env).wrap K H gd lv) fs s := seg_wrap h

theorem seg_For {target iter : Expr} {body orelse : List Stmt} {pos : Pos} (hs : ∀ x, foldedSetIterable iter env x = pure x)
    (h : wpAny M (A.over c fs) (eval iter env) (fun x s₁ => wpAny M (A.over c fs) (pyIter x) (fun it s₂ => ∀ p, Seg M A R Y n s₀ (.forLoop target it body orelse env) (M.den (.forLoop target it body orelse env))
      (.ret (fun r => ((match r with | .ok f => (.pure f : Sem Flow) | .error e => .raise e).onRaise fun (x : Value) => do
        if (← field x 1) == Value.none then unsupported "frame.own-activation:exception-without-traceback"
        setFlight x env.frame).wrap K H gd lv) none (gd false) (lv []) c p [] :: fs) s₂) (fun x s' => Seg M A R Y n s₀ c (H x) fs s') s₁) (fun x s' => Seg M A R Y n s₀ c (H x) fs s') s) :
    Seg M A R Y n s₀ c ((exec (.For target iter body orelse pos) env).wrap K H gd lv) fs s := by
  rw [exec_For]
  show Seg M A R Y n s₀ c (.at pos fun _ => (eval iter env >>= fun v => foldedSetIterable iter env v >>= fun x => standAt iter.pos >>= fun _ => holding [x] (pyIter x) >>= fun it => runOwn (.forLoop target it body orelse env) env).wrap K H gd lv) fs s
  refine seg_at ?_
  rw [Sem.bind_eq_wrap', Sem.wrap_wrap]
  refine seg_wrap (wpAny_mono h (fun v s₁ h₁ => ?_) fun _ _ x => x)
  rw [hs v]
  show Seg M A R Y n s₀ c (.at iter.pos fun _ => (holding [v] (pyIter v) >>= fun it => runOwn (.forLoop target it body orelse env) env).wrap K H (fun g => gd (id g)) (fun l => lv (id l))) fs s₁
  refine seg_at ?_
  rw [Sem.bind_eq_wrap', Sem.wrap_wrap]
  refine seg_wrap (wpAny_holding (wpAny_mono h₁ (fun it s₂ h₂ => ?_) fun _ _ x => x))
  exact seg_call h₂
end

section
variable {prog : Program} {w : World} {A : Around} {R : GenEnd} {Y : Protocol} {n : Nat} {s₀ : Shared} {fs : List Frame} {s : Shared} {env : Env}

theorem seg_forLoop {target : Expr} {it : Value} {body orelse : List Stmt}
    (h : ∀ NE : Value → Shared → Prop, wpAny (model prog w) (A.over (.forLoop target it body orelse env) fs) (pyNext it) (fun r s' => match r with
        | none => Seg (model prog w) A R Y n s₀ (.forLoop target it body orelse env) (.pure (.again (.block orelse env))) fs s'
        | some v => wpAny (model prog w) (A.over (.forLoop target it body orelse env) fs) (letOwnedTupleGo target it v) (fun _ s₁ => wpAny (model prog w) (A.over (.forLoop target it body orelse env) fs) (assign target env v) (fun _ s₂ =>
          Seg (model prog w) A R Y n s₀ (.forLoop target it body orelse env) ((execs body env).wrap (fun f => match f with
            | .next | .cont => .pure (.again (.forLoop target it body orelse env))
            | .brk => .pure (.done .next)
            | .ret v => .pure (.done (.ret v))) (fun e => (do noteFrame e env; theTreesLotGoes e : Sem Unit).wrap (fun _ => .raise e) .raise id id) id id) fs s₂) NE s₁) NE s') NE s) :
    Seg (model prog w) A R Y n s₀ (.forLoop target it body orelse env) ((model prog w).den (.forLoop target it body orelse env)) fs s := by
  show Seg _ A R Y n s₀ _ ((forTurn target it body orelse env).onRaise (fun x => do noteFrame x env; theTreesLotGoes x)) fs s
  unfold forTurn
  rw [Sem.onRaise_eq_wrap]
  show Seg _ A R Y n s₀ _ (.at target.pos fun _ => ((pyNext it).onRaise (fun _ => standAt { target.pos with line := 0 }) >>= fun r => match r with
    | none => again (.block orelse env)
    | some v => letOwnedTupleGo target it v >>= fun _ => assign target env v >>= fun _ => execs body env >>= fun f => match f with
      | .next | .cont => again (.forLoop target it body orelse env)
      | .brk => pure (.done .next)
      | .ret v => pure (.done (.ret v))).wrap Sem.pure (fun e => ((do noteFrame e env; theTreesLotGoes e : Sem Unit)).bind fun _ => .raise e) id id) fs s
  refine seg_at ?_
  rw [Sem.bind_eq_wrap', Sem.wrap_wrap]
  refine seg_wrap (wpAny_onRaise (wpAny_mono (h _) (fun r s₁ h₁ => ?_) fun _ _ h' => wpAny_standAt h'))
  cases r with
  | none => exact h₁
  | some v =>
    show Seg _ A R Y n s₀ _ (Sem.wrap _ _ _ _ (letOwnedTupleGo target it v >>= _)) fs s₁
    rw [Sem.bind_eq_wrap', Sem.wrap_wrap]
    refine seg_wrap (wpAny_mono h₁ (fun _ s₂ h₂ => ?_) fun _ _ h' => h')
    rw [Sem.bind_eq_wrap', Sem.wrap_wrap]
    refine seg_wrap (wpAny_mono h₂ (fun _ s₃ h₃ => ?_) fun _ _ h' => h')
    rw [Sem.bind_eq_wrap', Sem.wrap_wrap]
    rw [Sem.wrap_congr (execs body env) _ _ (K' := fun f => match f with
            | .next | .cont => .pure (.again (.forLoop target it body orelse env))
            | .brk => .pure (.done .next)
            | .ret v => .pure (.done (.ret v))) (H' := (fun e => (do noteFrame e env; theTreesLotGoes e : Sem Unit).wrap (fun _ => .raise e) .raise id id))
        (fun f => by cases f <;> rfl)
        (fun e => by first | exact Sem.bind_eq_wrap _ _ | (show (do noteFrame e env; theTreesLotGoes e : Sem Unit).bind (fun _ => .raise e) = _; rw [Sem.bind_eq_wrap]))]
    exact h₃
end
end Mine

-- G2
namespace Mine
open PySem PySem.Spec PySem.Calls PyProof.Rows PySem.W

/-! ## the generator of escaped signs -/
/-- its text, whatever the places -/
inductive IterBody : List Stmt → Prop where
  | mk {q : Nat → Pos} {j : Nat → Nat} : IterBody [
      .Assign [.Name "pos" (q 0)] (.Constant (.int 0) (j 0) (q 1)) (q 2),
      .Assign [.Name "escape" (q 3)] (.Constant (.bool false) (j 1) (q 4)) (q 5),
      .For (.Tuple [.Name "pos" (q 6), .Name "ch" (q 7)] (j 2) (q 8)) (.Call (.Name "enumerate" (q 9)) [.Name "addr" (q 10)] [] (q 11)) [
        .If (.Name "escape" (q 12)) [
          .Expr (.Yield (some (.Tuple [.Name "pos" (q 13), .BinOp (.Constant (.str "\\") (j 3) (q 14)) .Add (.Name "ch" (q 15)) (q 16)] (j 4) (q 17))) (q 18)) (q 19),
          .Assign [.Name "escape" (q 20)] (.Constant (.bool false) (j 5) (q 21)) (q 22)] [
          .If (.Compare (.Name "ch" (q 23)) [.Eq] [.Constant (.str "\\") (j 6) (q 24)] (q 25)) [
            .Assign [.Name "escape" (q 26)] (.Constant (.bool true) (j 7) (q 27)) (q 28)] [
            .Expr (.Yield (some (.Tuple [.Name "pos" (q 29), .Name "ch" (q 30)] (j 8) (q 31))) (q 32)) (q 33)] (q 34)] (q 35)] [] (q 36),
      .If (.Name "escape" (q 37)) [
        .Expr (.Yield (some (.Tuple [.Name "pos" (q 38), .Constant (.str "\\") (j 9) (q 39)] (j 10) (q 40))) (q 41)) (q 42)] [] (q 43)]

structure GenvOk (env : Env) : Prop where
  kind : env.scope.kind = .function
  co : env.scope.isCoroutine = false
  addr : env.kindOf "addr" = some .local
  pos : env.kindOf "pos" = some .local
  escape : env.kindOf "escape" = some .local
  ch : env.kindOf "ch" = some .local
  enum : env.kindOf "enumerate" = some .globalImplicit

structure GSt (env : Env) (x : Str) (t : Tok) (e it : Addr) (i : Nat) (b : Bool) (s : Shared) : Prop where
  fr : ∃ m, s.heap.Ns env.locals m ∧ m "addr" = some (.str x t) ∧ m "escape" = some (.bool b) ∧ ∃ u, m "pos" = some (.int ((i - 1 : Nat) : Int) u)
  en : ∃ old, IsEnum s.heap e it (i : Int) old
  dr : s.heap.IsStrIter it (strIterType x) x t i

/-- there, and no cell -/
noncomputable def NC (h : Heap) (a : Addr) : Prop := ∃ o, h.get? a = some o ∧ ∀ v, o.data ≠ .cell v
theorem NC.there {h : Heap} {a : Addr} (x : NC h a) : ∃ o, h.get? a = some o := let ⟨o, e, _⟩ := x; ⟨o, e⟩
theorem NC.up {h h' : Heap} {a : Addr} (x : NC h a) (k : ∀ o, h.get? a = some o → h'.get? a = some o) : NC h' a := let ⟨o, e, r⟩ := x; ⟨o, k o e, r⟩
noncomputable def Kp (L e it : Addr) (s₀ s : Shared) : Prop := ∃ h' tk, s = { s₀ with heap := h', toks := tk } ∧ ∀ b o, b ≠ L → b ≠ e → b ≠ it → s₀.heap.get? b = some o → h'.get? b = some o
theorem Kp.refl (L e it : Addr) (s : Shared) : Kp L e it s s := ⟨s.heap, s.toks, rfl, fun _ _ _ _ _ e => e⟩
theorem Kp.trans {L e it : Addr} {a b c : Shared} (x : Kp L e it a b) (y : Kp L e it b c) : Kp L e it a c := by
  obtain ⟨h, tk, rfl, k⟩ := x
  obtain ⟨h', tk', rfl, k'⟩ := y
  exact ⟨h', tk', rfl, fun p o h1 h2 h3 e => k' p o h1 h2 h3 (k p o h1 h2 h3 e)⟩
theorem Kp.fresh {L e it : Addr} {s₀ s : Shared} (x : Kp L e it s₀ s) (h1 : ∃ o, s.heap.get? L = some o) (h2 : ∃ o, s.heap.get? e = some o) (h3 : ∃ o, s.heap.get? it = some o) {T : Addr} (hT : s.heap.get? T = none) : s₀.heap.get? T = none := by
  obtain ⟨h, tk, rfl, k⟩ := x
  cases q : s₀.heap.get? T with
  | none => rfl
  | some o =>
    have l : ∀ a, (∃ o, h.get? a = some o) → T ≠ a := fun a ⟨o, ho⟩ e => by subst e; rw [show h.get? T = none from hT] at ho; cases ho
    have := k T o (l _ h1) (l _ h2) (l _ h3) q
    rw [show h.get? T = none from hT] at this; cases this

theorem mem3 {L e it : Addr} {P : Addr → Prop} (h1 : P L) (h2 : P e) (h3 : P it) : ∀ a ∈ [L, e, it], P a := List.forall_mem_cons.mpr ⟨h1, List.forall_mem_cons.mpr ⟨h2, List.forall_mem_cons.mpr ⟨h3, fun _ h => nomatch h⟩⟩⟩
inductive GYs (L e it : Addr) (Ys : List (Nat × Str)) (m : Nat) (s₀ : Shared) (v : Value) (s₁ : Shared) (kap : Resume → Shared → Prop) : Prop where
  | mk (p : Nat) (txt : Str) (T : Addr) (u1 u2 : Tok) (hy : Ys[Ys.length - 1 - m]? = some (p, txt)) (hm : m < Ys.length) (hv : v = .ref T) (hT : s₀.heap.get? T = none) (hne : T ∉ [L, e, it]) (ht : s₁.heap.IsTuple T #[.int (p : Int) u1, .str txt u2]) (kp : Kp L e it s₀ s₁)
      (nc : ∀ a ∈ [L, e, it], NC s₁.heap a) (go : ∀ s₂ : Shared, (∀ b ∈ [L, e, it], s₂.heap.get? b = s₁.heap.get? b) → kap (.send .none) s₂)
noncomputable def GY (L e it : Addr) (Ys : List (Nat × Str)) : Protocol := GYs L e it Ys
noncomputable def GR (L e it : Addr) : GenEnd := fun n s₀ r s₁ => r = .ok (.ret .none) ∧ (n = 0 ∧ Kp L e it s₀ s₁)

section
variable {prog : Program} {w : World} {A : Around} {E : Value → Shared → Prop} {s s₀ : Shared} {env : Env} {x : Str} {t : Tok} {e it : Addr} {i : Nat} {b : Bool}

theorem draws_str (hh : A.handled = none) (it : Addr) (x : Str) (t : Tok) : Draws prog w A it [it] x.cps.size (fun i v => ∃ c u, x.cps[i]? = some c ∧ v = .str ⟨#[c]⟩ u) (fun i h => h.IsStrIter it (strIterType x) x t i) := by
  unfold strIterType
  split
  · exact Draws.strAscii hh it x t
  · exact Draws.strWide hh it x t

theorem GSt.at_ {s' : Shared} (G : GSt env x t e it i b s) (h : ∀ a ∈ [env.locals, e, it], s'.heap.get? a = s.heap.get? a) : GSt env x t e it i b s' := by
  obtain ⟨⟨m, ⟨o, es, ep, e1, r⟩, f⟩, ⟨old, en⟩, ⟨oi, d1, d2⟩⟩ := G
  exact ⟨⟨m, ⟨o, es, ep, (h _ (.head _)).trans e1, r⟩, f⟩, ⟨old, (h _ (.tail _ (.head _))).trans en⟩, ⟨oi, (h _ (.tail _ (.tail _ (.head _)))).trans d1, d2⟩⟩

theorem g_name {y : Str} {p : Pos} {m : Str → Option Value} {v : Value} {Q : Value → Shared → Prop} (hk : env.scope.kind = .function) (hl : env.kindOf y = some .local) (hn : s.heap.Ns env.locals m) (hv : m y = some v) (hd : (y == ("__debug__" : Str)) = false) (h : Q v s) {M : Model} :
    wpAny M A (eval (.Name y p) env) Q E s := wpAny_Name (wpAny_loadName_local hk hl hn hv h) hd

theorem isFn (hk : env.scope.kind = .function) : (env.scope.kind == .class || (env.scope.kind == .module && env.locals != env.globals)) = false := by rw [hk]; rfl

/-- `escape = b'` -/
theorem g_set {p p2 p3 : Pos} {j : Nat} {b' : Bool} {Q : Flow → Shared → Prop} {M : Model} (K : GenvOk env) (hLe : env.locals ≠ e) (hLi : env.locals ≠ it) (G : GSt env x t e it i b s) (h : ∀ s', GSt env x t e it i b' s' → Kp env.locals e it s s' → Q .next s') :
    wpAny M A (exec (.Assign [.Name "escape" p] (.Constant (.bool b') j p2) p3) env) Q E s := by
  obtain ⟨⟨m, hn, h1, h2, u, h3⟩, ⟨old, en⟩, dr⟩ := G
  refine wpAny_Assign_Name (wpAny_pure (wpAny_storeName_local K.escape hn (fun h' hn' hs' => ?_) (isFn K.kind)))
  refine h _ ⟨⟨_, hn', (if_neg (by decide +kernel)).trans h1, if_pos rfl, u, (if_neg (by decide +kernel)).trans h3⟩, ⟨old, (hs'.2 e (Ne.symm hLe)).trans en⟩, ?_⟩ ⟨h', _, rfl, fun q o hq _ _ eo => (hs'.2 q hq).trans eo⟩
  obtain ⟨oi, d1, d2⟩ := dr
  exact ⟨oi, (hs'.2 it (Ne.symm hLi)).trans d1, d2⟩

theorem kp_done {s' : Shared} {h' : Heap} {tk : Nat} (hs : ∀ b o, b ≠ env.locals → b ≠ e → b ≠ it → s.heap.get? b = some o → h'.get? b = some o) : Kp env.locals e it s { s with heap := h', toks := tk } := ⟨h', tk, rfl, hs⟩

/-- one yield: the rest after it -/
theorem g_yield {c : Code} {fs : List Frame} {K : Flow → Sem Fin} {H : Value → Sem Fin} {Ys : List (Nat × Str)} {k : Nat} {ve : Expr} {yp pp : Pos} {p : Nat} {txt : Str} {rest : List (Nat × Str)} (KE : GenvOk env) (hfs : splitAtGen fs = none) (hfg : fs.any Frame.guarded = false)
    (hY : Ys.drop (Ys.length - (k + 1)) = (p, txt) :: rest) (hk : k + 1 ≤ Ys.length) (hLs : NC s.heap env.locals) (hes : NC s.heap e) (his : NC s.heap it) (hKp : Kp env.locals e it s₀ s)
    (hv : ∀ (Q : Value → Shared → Prop) (E : Value → Shared → Prop), (∀ u1 u2 tk, Q (.ref s.heap.objs.size) { s with heap := s.heap.push { cls := .type "tuple", data := .seq #[.int (p : Int) u1, .str txt u2] }, toks := tk }) → wpAny (model prog w) (A.over c fs) (eval ve env) Q E s)
    (hnext : ∀ s₂ : Shared, (∀ a ∈ [env.locals, e, it], s₂.heap.get? a = s.heap.get? a) → Seg (model prog w) A (GR env.locals e it) (GY env.locals e it Ys) k s₂ c (K .next) fs s₂) :
    Seg (model prog w) A (GR env.locals e it) (GY env.locals e it Ys) (k + 1) s₀ c ((exec (.Expr (.Yield (some ve) yp) pp) env).wrap K H id id) fs s := by
  have hnone := get?_size s.heap
  have hne : ∀ a, (∃ o, s.heap.get? a = some o) → a ≠ s.heap.objs.size := fun a ⟨o, ho⟩ e => by subst e; rw [hnone] at ho; cases ho
  have hpush : ∀ (ob : Obj) b o, s.heap.get? b = some o → (s.heap.push ob).get? b = some o := fun ob b o e => Heap.get?_push_of_some _ e
  refine seg_Expr_Yield hfs rfl hfg (hv _ _ fun u1 u2 tk => ?_) KE.co (by unfold interactive; rw [KE.kind]; rfl)
  intro kap hkap
  refine GYs.mk p txt s.heap.objs.size u1 u2 ?_ hk rfl (hKp.fresh hLs.there hes.there his.there hnone) (fun h => mem3 (P := fun a => a ≠ s.heap.objs.size) (hne _ hLs.there) (hne _ hes.there) (hne _ his.there) _ h rfl) ⟨_, Heap.get?_push_size _ rfl, rfl, _, rfl⟩ (hKp.trans ⟨_, tk, rfl, fun b o _ _ _ e => hpush _ b o e⟩)
    (mem3 (hLs.up fun o ho => hpush _ _ _ ho) (hes.up fun o ho => hpush _ _ _ ho) (his.up fun o ho => hpush _ _ _ ho)) fun s₂ h₂ => hkap .none s₂ (hnext s₂ fun a ha => ?_)
  · have : (Ys.drop (Ys.length - (k + 1)))[0]? = some (p, txt) := by rw [hY]; rfl
    rw [List.getElem?_drop] at this
    rw [Nat.sub_sub, Nat.add_comm 1 k]; exact this
  · rw [h₂ a ha]
    obtain ⟨o, ho⟩ := mem3 (P := fun a => ∃ o, s.heap.get? a = some o) hLs.there hes.there his.there a ha
    rw [ho]; exact hpush _ _ _ ho
theorem drop_next {α : Type} {Ys rest : List α} {y : α} {k : Nat} (hY : Ys.drop (Ys.length - (k + 1)) = y :: rest) (hk : k + 1 ≤ Ys.length) : Ys.drop (Ys.length - k) = rest := by
  have e : Ys.length - k = (Ys.length - (k + 1)) + 1 := by omega
  rw [e, ← List.drop_drop, hY]; rfl

/-- the end of a text's iterator; the iterator is still there -/
theorem ascii_end {Q : Value → Shared → Prop} (hh : A.handled = none) (hit : s.heap.IsStrIter it "str_ascii_iterator" x t i) (hx : x.cps[i]? = none)
    (hE : ∀ h' a, Heap.ExtBut it s.heap h' → NC h' it → (∃ o, h'.get? a = some o ∧ o.cls = .type "StopIteration") → E (.ref a) { s with heap := h' }) :
    wpAny (model prog w) A (Builtin.SmallTypes.nextOf (.ref it)) Q E s := by
  obtain ⟨o, ho, hc, hd⟩ := id hit
  unfold Builtin.SmallTypes.nextOf
  refine wpAny_bind (wpAny_callSpecial?_slot (name := Str.ofString "__next__") hit.typeIs F.slot_str_ascii_iterator_next (wpAny_call_entry F.slot_str_ascii_iterator_next hit.typeIs F.entry_str_ascii_iterator_next ?_ (F.args_str_ascii_iterator_next_1 _)))
  show wpAny _ _ (field (.ref it) 0 >>= _) _ _ s
  refine wpAny_bind (wpAny_field ho hd (x := .str x t) rfl ?_)
  show wpAny _ _ (field (.ref it) 1 >>= _) _ _ s
  refine wpAny_bind (wpAny_field ho hd (x := .int i 0) rfl ?_)
  simp only [Int.toNat_natCast, hx]
  refine wpAny_bind (wpAny_rule (wpAny_bind (wpAny_setField ho hd (by simp) (wpAny_bind (wpAny_letGo ?_)))))
  show wpAny _ _ (newExc (.type "StopIteration") [] >>= _) _ _ _
  refine wpAny_bind ?_
  simp only [newExc, newTuple]
  refine wpAny_bind (wpAny_newObj_type ?_ (by size_fits))
  refine wpAny_bind (m := firstArgMember _ _) (wpAny_of_eq (a := Value.none) (by first | rfl | (simp only [firstArgMember]; rfl)) ?_)
  refine wpAny_newObj_type ?_ (by size_fits)
  simp only [raiseNew]
  refine wpAny_bind (wpAny_handled ?_)
  first | rw [show A.in1.handled = none from hh] | rw [hh]
  refine wpAny_bind (wpAny_pure (wpAny_throw ?_))
  exact hE _ _ (((Heap.SameBut.update ..).extBut.push _).push _) ⟨_, Heap.get?_push_of_some _ (Heap.get?_push_of_some _ (Heap.get?_update_self _ ho (Obj.isFreed_of_fields (Obj.data_mapFields hd _)))), by rw [Obj.data_mapFields hd]; nofun⟩ ⟨_, Heap.get?_push_size _ rfl, rfl⟩

theorem enum_end {Q : Option Value → Shared → Prop} {k : Int} {old : Value} (hh : A.handled = none) (he : IsEnum s.heap e it k old) (hit : s.heap.IsStrIter it "str_ascii_iterator" x t i) (hx : x.cps[i]? = none)
    (hQ : ∀ h', Heap.ExtBut it s.heap h' → NC h' it → Q none { s with heap := h' }) : wpAny (model prog w) A (pyNext (.ref e)) Q E s := by
  have hT : s.TypeIs (.ref e) "enumerate" := ⟨_, he, rfl⟩
  unfold pyNext
  refine wpAny_bind (wpAny_attempt (wpAny_callSpecial?_slot (name := Str.ofString "__next__") hT F.slot_enumerate_next (wpAny_call_entry F.slot_enumerate_next hT F.entry_enumerate_next ?_ (F.args_enumerate_next_1 _))))
  show wpAny _ _ (field (.ref e) 2 >>= _) _ _ _
  refine wpAny_bind (wpAny_field he rfl (x := .ref it) rfl ?_)
  refine wpAny_bind (ascii_end (A := A.in1) hh hit hx fun h' a he' hi' ha' => ?_)
  obtain ⟨o, ho, hc⟩ := ha'
  refine wpAny_bind (wpAny_isInstance (T := "StopIteration") (b := true) ⟨o, ho, hc⟩ isSubtype_stop ?_)
  exact wpAny_pure (hQ _ he' hi')

/-- one sign of the text -/
theorem enum_item {Q : Option Value → Shared → Prop} {c : Nat} (hh : A.handled = none) (ha : x.cps.all (· < 128) = true) (hei : e ≠ it) (G : GSt env x t e it i b s) (hx : x.cps[i]? = some c)
    (hQ : ∀ tup h' tk u1 u2, s.heap.get? tup = none → h'.IsTuple tup #[.int (i : Int) u1, .str ⟨#[c]⟩ u2] → (∃ y, IsEnumOut h' e it ((i : Int) + 1) y tup) → h'.IsStrIter it (strIterType x) x t (i + 1) → tup ≠ e → tup ≠ it →
      (∀ b o, b ≠ e → b ≠ it → s.heap.get? b = some o → h'.get? b = some o) → Q (some (.ref tup)) { s with heap := h', toks := tk }) : wpAny (model prog w) A (pyNext (.ref e)) Q E s := by
  obtain ⟨_, ⟨old, en⟩, dr⟩ := G
  have hlt : i < x.cps.size := by
    rcases Nat.lt_or_ge i x.cps.size with h | h
    · exact h
    · rw [Array.getElem?_eq_none h] at hx; cases hx
  have D := draws_str (prog := prog) (w := w) (A := A.in1) hh it x t
  refine wpAny_pyNext_enum_itemD D en dr hlt hei (by simpa using hei) fun y h' tk hy ho hs hT hsz hk => ?_
  obtain ⟨c', u, hc', rfl⟩ := hy
  rw [hx] at hc'; cases hc'
  have h1 := Heap.lt_size en
  have h2 : it < s.heap.objs.size := by obtain ⟨o, ho, _⟩ := dr; exact Heap.lt_size ho
  exact hQ _ h' _ _ _ (get?_size _) ⟨_, hT, rfl, _, rfl⟩ ⟨_, ho⟩ hs (Nat.ne_of_gt h1) (Nat.ne_of_gt h2) hk

theorem esc_str (c : Nat) : (("\\" : Str) ++ (⟨#[c]⟩ : Str)) = ⟨#[92, c]⟩ := by
  have : ("\\" : Str) = ⟨#[92]⟩ := by decide +kernel
  rw [this]; rfl

/-- the body of the loop -/
theorem g_body {q : Nat → Pos} {j : Nat → Nat} {Ys : List (Nat × Str)} {fs : List Frame} {c : Code} {K : Flow → Sem Fin} {H : Value → Sem Fin} {cc : Nat} {r : List Nat} {k : Nat} {m : Str → Option Value} {u1 u2 : Tok} {old : Value} (KE : GenvOk env) (hfs : splitAtGen fs = none) (hfg : fs.any Frame.guarded = false) (hei : e ≠ it) (hLe : env.locals ≠ e) (hLi : env.locals ≠ it)
    (hn : s.heap.Ns env.locals m) (h1 : m "addr" = some (.str x t)) (h2 : m "escape" = some (.bool b)) (h3 : m "pos" = some (.int (i : Int) u1)) (h4 : m "ch" = some (.str ⟨#[cc]⟩ u2)) (en : IsEnum s.heap e it ((i : Int) + 1) old) (dr : s.heap.IsStrIter it (strIterType x) x t (i + 1))
    (hKp : Kp env.locals e it s₀ s) (hY : Ys.drop (Ys.length - k) = escGo i b (cc :: r)) (hk : k = (escGo i b (cc :: r)).length) (hkl : k ≤ Ys.length)
    (IH : ∀ b' s₀' s' k', GSt env x t e it (i + 1) b' s' → Kp env.locals e it s₀' s' → Ys.drop (Ys.length - k') = escGo (i + 1) b' r → k' = (escGo (i + 1) b' r).length → k' ≤ Ys.length → Seg (model prog w) A (GR env.locals e it) (GY env.locals e it Ys) k' s₀' c (K .next) fs s') :
    Seg (model prog w) A (GR env.locals e it) (GY env.locals e it Ys) k s₀ c ((execs [.If (.Name "escape" (q 12)) [
          .Expr (.Yield (some (.Tuple [.Name "pos" (q 13), .BinOp (.Constant (.str "\\") (j 3) (q 14)) .Add (.Name "ch" (q 15)) (q 16)] (j 4) (q 17))) (q 18)) (q 19),
          .Assign [.Name "escape" (q 20)] (.Constant (.bool false) (j 5) (q 21)) (q 22)] [
          .If (.Compare (.Name "ch" (q 23)) [.Eq] [.Constant (.str "\\") (j 6) (q 24)] (q 25)) [
            .Assign [.Name "escape" (q 26)] (.Constant (.bool true) (j 7) (q 27)) (q 28)] [
            .Expr (.Yield (some (.Tuple [.Name "pos" (q 29), .Name "ch" (q 30)] (j 8) (q 31))) (q 32)) (q 33)] (q 34)] (q 35)] env).wrap K H id id) fs s := by
  have hGS : ∀ s' : Shared, (∀ a ∈ [env.locals, e, it], s'.heap.get? a = s.heap.get? a) → GSt env x t e it (i + 1) b s' := fun s' h => by
    obtain ⟨o, es, ep, e1, r⟩ := hn
    obtain ⟨oi, d1, d2⟩ := dr
    exact ⟨⟨m, ⟨o, es, ep, (h _ (.head _)).trans e1, r⟩, h1, h2, u1, by simpa using h3⟩, ⟨old, by have := (h e (.tail _ (.head _))).trans en; simpa using this⟩, ⟨oi, (h _ (.tail _ (.tail _ (.head _)))).trans d1, d2⟩⟩
  have hLs : NC s.heap env.locals := let ⟨o, _, _, e1, e2, _⟩ := hn; ⟨o, e1, by rw [e2]; nofun⟩
  have his : NC s.heap it := let ⟨o, e1, _, e2⟩ := dr; ⟨o, e1, by rw [e2]; nofun⟩
  refine seg_execs_cons (seg_If ?_)
  rw [isTrue_of_plain rfl]
  refine wpAny_bind (g_name KE.kind KE.escape hn h2 (by decide +kernel) (wpAny_bind (wpAny_standAt (wpAny_holding (wpAny_truthy_bool ?_)))))
  cases b with
  | true =>
    simp only [if_true]
    have hY' : Ys.drop (Ys.length - k) = (i, ⟨#[92, cc]⟩) :: escGo (i + 1) false r := by rw [hY]; rfl
    have hkk : k = (escGo (i + 1) false r).length + 1 := by rw [hk]; rfl
    generalize hk0 : (escGo (i + 1) false r).length = k0 at hkk
    subst hkk
    refine seg_execs_cons (g_yield KE hfs hfg hY' hkl hLs ⟨_, en, nofun⟩ his hKp (fun Q E hQ => ?_) fun s₂ hs₂ => ?_)
    · refine wpAny_Tuple_spliced ?_
      rw [starEach_cons rfl]
      refine spliced_cons (g_name KE.kind KE.pos hn h3 (by decide +kernel) ?_)
      rw [starEach_cons rfl]
      refine spliced_cons (wpAny_BinOp (Constant_str (g_name (s := { s with toks := s.toks + 1 }) KE.kind KE.ch hn h4 (by decide +kernel) ?_)))
      refine P.add_str ?_
      rw [if_neg (by decide +kernel), if_neg (by show ¬ (1 == 0) = true; decide), esc_str]
      refine ⟨by show 2 ≤ sizeLine; rw [sizeLine_eq]; decide, ?_⟩
      refine spliced_nil ?_
      exact And.intro (by show 2 ≤ sizeLine; rw [sizeLine_eq]; decide) (hQ _ _ _)
    · show Seg _ _ _ _ _ _ _ ((execs [.Assign [.Name "escape" (q 20)] (.Constant (.bool false) (j 5) (q 21)) (q 22)] env).wrap _ _ _ _) _ _
      refine seg_execs_cons (seg_plain (g_set KE hLe hLi (hGS s₂ hs₂) fun s₃ G₃ k₃ => ?_))
      exact IH false s₂ s₃ k0 G₃ k₃ (drop_next hY' hkl) hk0.symm (by omega)
  | false =>
    simp only [Bool.false_eq_true, if_false]
    refine seg_execs_cons (seg_If ?_)
    refine wpAny_isTrue_Compare1 (g_name KE.kind KE.ch hn h4 (by decide +kernel) (Constant_str ?_)) (by with_unfolding_all rfl)
    refine P.eq_str (wpAny_truthy_bool ?_)
    by_cases hc : cc = 92
    · subst hc
      rw [if_pos (by decide +kernel)]
      have hY' : Ys.drop (Ys.length - k) = escGo (i + 1) true r := by rw [hY]; simp [escGo]
      have hkk : k = (escGo (i + 1) true r).length := by rw [hk]; simp [escGo]
      refine seg_execs_cons (seg_plain (g_set (s := { s with toks := s.toks + 1 }) KE hLe hLi (hGS _ fun _ _ => rfl) fun s₃ G₃ k₃ => ?_))
      exact IH true s₀ s₃ k G₃ (hKp.trans ((show Kp env.locals e it s { s with toks := s.toks + 1 } from ⟨s.heap, _, rfl, fun _ _ _ _ _ e => e⟩).trans k₃)) hY' hkk hkl
    · rw [if_neg (by
        have e92 : ("\\" : Str).cps.toList = [92] := by decide +kernel
        rw [e92]; simpa using hc)]
      have hY' : Ys.drop (Ys.length - k) = (i, ⟨#[cc]⟩) :: escGo (i + 1) false r := by rw [hY]; simp [escGo, hc]
      have hkk : k = (escGo (i + 1) false r).length + 1 := by rw [hk]; simp [escGo, hc]
      generalize hk0 : (escGo (i + 1) false r).length = k0 at hkk
      subst hkk
      refine seg_execs_cons (g_yield (s := { s with toks := s.toks + 1 }) KE hfs hfg hY' hkl hLs ⟨_, en, nofun⟩ his (hKp.trans ⟨s.heap, _, rfl, fun _ _ _ _ _ e => e⟩) (fun Q E hQ => ?_) fun s₂ hs₂ => ?_)
      · refine wpAny_Tuple_spliced ?_
        rw [starEach_cons rfl]
        refine spliced_cons (g_name (s := { s with toks := s.toks + 1 }) KE.kind KE.pos hn h3 (by decide +kernel) ?_)
        rw [starEach_cons rfl]
        refine spliced_cons (g_name (s := { s with toks := s.toks + 1 }) KE.kind KE.ch hn h4 (by decide +kernel) ?_)
        exact spliced_nil ⟨by show 2 ≤ sizeLine; rw [sizeLine_eq]; decide, hQ _ _ _⟩
      · exact IH false s₂ s₂ k0 (GSt.at_ (hGS s₂ hs₂) fun _ _ => rfl) (Kp.refl ..) (drop_next hY' hkl) hk0.symm (by omega)

theorem seg_forLoopG {q : Nat → Pos} {j : Nat → Nat} {Ys : List (Nat × Str)} {fs : List Frame} (KE : GenvOk env) (hh : A.handled = none) (hfs : splitAtGen fs = none) (hfg : fs.any Frame.guarded = false) (hei : e ≠ it) (hLe : env.locals ≠ e) (hLi : env.locals ≠ it)
    (hover : ∀ c : Code, (A.over c fs).handled = none) {body : List Stmt} {target : Expr}
    (htg : target = .Tuple [.Name "pos" (q 6), .Name "ch" (q 7)] (j 2) (q 8))
    (hbd : body = [.If (.Name "escape" (q 12)) [
          .Expr (.Yield (some (.Tuple [.Name "pos" (q 13), .BinOp (.Constant (.str "\\") (j 3) (q 14)) .Add (.Name "ch" (q 15)) (q 16)] (j 4) (q 17))) (q 18)) (q 19),
          .Assign [.Name "escape" (q 20)] (.Constant (.bool false) (j 5) (q 21)) (q 22)] [
          .If (.Compare (.Name "ch" (q 23)) [.Eq] [.Constant (.str "\\") (j 6) (q 24)] (q 25)) [
            .Assign [.Name "escape" (q 26)] (.Constant (.bool true) (j 7) (q 27)) (q 28)] [
            .Expr (.Yield (some (.Tuple [.Name "pos" (q 29), .Name "ch" (q 30)] (j 8) (q 31))) (q 32)) (q 33)] (q 34)] (q 35)])
    (ha : x.cps.all (· < 128) = true)
    (hend : ∀ (b : Bool) (s₀ s : Shared) (k : Nat), (∃ m, s.heap.Ns env.locals m ∧ m "escape" = some (.bool b) ∧ ∃ u, m "pos" = some (.int ((x.cps.size - 1 : Nat) : Int) u)) → NC s.heap e → NC s.heap it → Kp env.locals e it s₀ s → Ys.drop (Ys.length - k) = escGo x.cps.size b [] → k = (escGo x.cps.size b []).length → k ≤ Ys.length →
      Seg (model prog w) A (GR env.locals e it) (GY env.locals e it Ys) k s₀ (.forLoop target (.ref e) body [] env) (.pure (.again (.block [] env))) fs s) :
    ∀ (r : List Nat) (i : Nat) (b : Bool) (s₀ s : Shared) (k : Nat), x.cps.toList.drop i = r → i ≤ x.cps.size → GSt env x t e it i b s → Kp env.locals e it s₀ s → Ys.drop (Ys.length - k) = escGo i b r → k = (escGo i b r).length → k ≤ Ys.length →
      Seg (model prog w) A (GR env.locals e it) (GY env.locals e it Ys) k s₀ (.forLoop target (.ref e) body [] env) ((model prog w).den (.forLoop target (.ref e) body [] env)) fs s := by
  intro r
  induction r with
  | nil =>
    intro i b s₀ s k hr hi G hKp hY hk hkl
    have hin : i = x.cps.size := by
      have := congrArg List.length hr
      simp at this; omega
    subst hin
    obtain ⟨⟨m, hn, h1, h2, u, h3⟩, ⟨old, en⟩, dr⟩ := G
    have dr' : s.heap.IsStrIter it "str_ascii_iterator" x t x.cps.size := by simpa [strIterType, ha] using dr
    refine seg_forLoop fun NE => ?_
    refine enum_end (hover _) en dr' (by simp) fun h' hk' hi' => ?_
    have hL : ∃ o, s.heap.get? env.locals = some o := let ⟨o, _, _, e1, _⟩ := hn; ⟨o, e1⟩
    exact hend b s₀ _ k ⟨m, hn.extBut hk' hLi, h2, u, h3⟩ ⟨_, hk' _ _ hei en, nofun⟩ hi' (hKp.trans ⟨h', s.toks, rfl, fun p o _ _ hp eo => hk' p o hp eo⟩) hY hk hkl
  | cons cc r ih =>
    intro i b s₀ s k hr hi G hKp hY hk hkl
    have hlt : i < x.cps.size := by
      rcases Nat.lt_or_ge i x.cps.size with h | h
      · exact h
      · rw [List.drop_eq_nil_of_le (by simpa using h)] at hr; cases hr
    have hr2 : x.cps.toList.drop (i + 1) = r := by
      have := List.drop_eq_getElem_cons (l := x.cps.toList) (i := i) (by simpa using hlt)
      rw [hr] at this
      exact (List.cons.inj this).2.symm
    have hcc : x.cps[i]? = some cc := by
      have : (x.cps.toList.drop i)[0]? = some cc := by rw [hr]; rfl
      rw [List.getElem?_drop] at this
      simpa using this
    refine seg_forLoop fun NE => ?_
    refine enum_item (hover _) ha hei G hcc fun tup h₁ tk₁ u1 u2 htn htup ⟨y, hout⟩ hdr hte hti hk₁ => ?_
    subst htg
    refine wpAny_letOwnedTupleGo_enum hout fun h₂ he₂ hs₂ => ?_
    obtain ⟨⟨m, hn, m1, m2, u, m3⟩, _, _⟩ := G
    have hLo : ∃ o, s.heap.get? env.locals = some o := let ⟨o, _, _, e1, _⟩ := hn; ⟨o, e1⟩
    have hn₂ : h₂.Ns env.locals m := by
      obtain ⟨o, es, ep, e1, r⟩ := hn
      exact ⟨o, es, ep, (hs₂.2 _ hLe).trans (hk₁ _ _ hLe hLi e1), r⟩
    have htup₂ : h₂.IsTuple tup #[.int (i : Int) u1, .str ⟨#[cc]⟩ u2] := by
      obtain ⟨o, e1, r⟩ := htup
      exact ⟨o, (hs₂.2 _ hte).trans e1, r⟩
    refine PyProof.Rows.assign_Tuple_tuple (hover _) htup₂ rfl rfl fun h₃ hk₃ => ?_
    have hk₃' := extBut_sub hk₃
    have e0 : (assignEach [Expr.Name "pos" (q 6), Expr.Name "ch" (q 7)] env).map (·.2) = [assign (.Name "pos" (q 6)) env, assign (.Name "ch" (q 7)) env] := rfl
    rw [e0]
    refine wpAny_bind (wpAny_holding (wpAny_assign_Name (wpAny_storeName_local KE.pos (hn₂.keeps hk₃') (fun h₄ hn₄ hs₄ => ?_) (isFn KE.kind))))
    refine wpAny_bind (wpAny_holding (wpAny_assign_Name (wpAny_storeName_local KE.ch hn₄ (fun h₅ hn₅ hs₅ => ?_) (isFn KE.kind))))
    refine wpAny_pure ?_
    have hk₅ : ∀ p o, p ≠ env.locals → p ≠ e → p ≠ it → s.heap.get? p = some o → h₅.get? p = some o := fun p o hL he hi eo =>
      (hs₅.2 p hL).trans ((hs₄.2 p hL).trans (hk₃' _ _ ((hs₂.2 p he).trans (hk₁ p o he hi eo))))
    have up : ∀ p o, p ≠ env.locals → h₂.get? p = some o → h₅.get? p = some o := fun p o hL eo => (hs₅.2 p hL).trans ((hs₄.2 p hL).trans (hk₃' _ _ eo))
    subst hbd
    have hLo5 : ∀ p o, p = e ∨ p = it → h₂.get? p = some o → h₅.get? p = some o := fun p o hp eo => by
      rcases hp with hp | hp
      · rw [hp] at eo ⊢; exact up _ _ (Ne.symm hLe) eo
      · rw [hp] at eo ⊢; exact up _ _ (Ne.symm hLi) eo
    refine g_body (s := { s with heap := h₅, toks := _ }) (old := y) (u1 := u1) (u2 := u2) (cc := cc) (t := t) (i := i) (b := b) (x := x) (e := e) (it := it) KE hfs hfg hei hLe hLi hn₅ ?_ ?_ ?_ ?_ ?_ ?_ (hKp.trans ⟨h₅, _, rfl, hk₅⟩) hY hk hkl fun b' s₀' s' k' G' K' hY' hk' hkl' => ?_
    · exact (if_neg (by decide +kernel)).trans ((if_neg (by decide +kernel)).trans m1)
    · exact (if_neg (by decide +kernel)).trans ((if_neg (by decide +kernel)).trans m2)
    · exact (if_neg (by decide +kernel)).trans (if_pos rfl)
    · exact if_pos rfl
    · exact hLo5 _ _ (.inl rfl) he₂
    · obtain ⟨oi, d1, d2⟩ := hdr
      exact ⟨oi, hLo5 _ _ (.inr rfl) ((hs₂.2 it (Ne.symm hei)).trans d1), d2⟩
    · exact seg_again rfl (ih (i + 1) b' s₀' s' k' hr2 hlt G' K' hY' hk' hkl')
end
end Mine

-- G3
namespace Mine
open PySem PySem.Spec PySem.Calls PyProof.Rows PySem.W

section
variable {prog : Program} {w : World} {A : Around} {E : Value → Shared → Prop} {s s₀ : Shared} {env : Env} {x : Str} {t : Tok} {e it : Addr} {i : Nat} {b : Bool}

theorem gen_goes {C : Cx} {body : List Stmt} {m : Str → Option Value} (B : IterBody body) (KE : GenvOk env) (hgl : env.globals = mainGlobals) (hbi : env.builtins = builtinsNs) (hh : A.handled = none) (ha : x.cps.all (· < 128) = true)
    (hg : s.heap.Ns mainGlobals C.mg) (hb : s.heap.Ns builtinsNs C.mb) (hbo : ∀ x : Str, x ≠ "__name__" → C.mb x = bootBuiltins x) (hen : C.mg "enumerate" = none) (hLg : env.locals ≠ mainGlobals) (hLb : env.locals ≠ builtinsNs)
    (hn : s.heap.Ns env.locals m) (hm : m "addr" = some (.str x t)) :
    Seg (model prog w) A (GR env.locals (s.heap.objs.size + 1) s.heap.objs.size) (GY env.locals (s.heap.objs.size + 1) s.heap.objs.size (escGo 0 false x.cps.toList)) (escGo 0 false x.cps.toList).length s (.func body env) ((model prog w).den (.func body env)) [] s := by
  cases B with
  | mk =>
  rename_i q j
  have hLlt : env.locals < s.heap.objs.size := by obtain ⟨o, _, _, e1, _⟩ := hn; exact Heap.lt_size e1
  refine seg_func (seg_execs_cons (seg_plain (wpAny_Assign_Name (wpAny_Constant_int (wpAny_storeName_local KE.pos hn (fun h₁ hn₁ hs₁ => ?_) (isFn KE.kind))))))
  refine seg_execs_cons (seg_plain (wpAny_Assign_Name (wpAny_pure (wpAny_storeName_local KE.escape hn₁ (fun h₂ hn₂ hs₂ => ?_) (isFn KE.kind)))))
  have hsz : h₂.objs.size = s.heap.objs.size := by rw [hs₂.1, hs₁.1]
  have hk₂ : ∀ p o, p ≠ env.locals → s.heap.get? p = some o → h₂.get? p = some o := fun p o hp eo => (hs₂.2 p hp).trans ((hs₁.2 p hp).trans eo)
  have hg₂ : h₂.Ns mainGlobals C.mg := by obtain ⟨o, es, ep, e1, r⟩ := hg; exact ⟨o, es, ep, hk₂ _ _ (Ne.symm hLg) e1, r⟩
  have hb₂ : h₂.Ns builtinsNs C.mb := by obtain ⟨o, es, ep, e1, r⟩ := hb; exact ⟨o, es, ep, hk₂ _ _ (Ne.symm hLb) e1, r⟩
  refine seg_execs_cons (seg_For (folded_plain rfl env) ?_)
  refine wpAny_Call_NameR (Name_function_global KE.kind KE.enum (loadGlobal_builtin (mg := C.mg) (mb := C.mb) (by rw [hgl]; exact hg₂) hen (by rw [hbi]; exact hb₂) ((hbo "enumerate" (by decide +kernel)).trans (show bootBuiltins "enumerate" = some (.type "enumerate") by decide +kernel)) ?_) (by decide +kernel))
  refine PySem.callWith_type (plain_any rfl) (evalArgs_all rfl ?_)
  refine spliced_cons (g_name KE.kind KE.addr hn₂ ((if_neg (by decide +kernel)).trans ((if_neg (by decide +kernel)).trans hm)) (by decide +kernel) ?_)
  refine spliced_nil ?_
  refine call_enumerate_str fun h₃ he₃ hi₃ hsz₃ hk₃ => ?_
  dsimp only at he₃ hi₃ hsz₃ hk₃ ⊢
  rw [hsz] at he₃ hi₃ ⊢
  generalize hE : s.heap.objs.size + 1 = e at he₃ ⊢
  generalize hI : s.heap.objs.size = it at hE he₃ hi₃ hLlt ⊢
  have hei : e ≠ it := by rw [← hE]; exact Nat.succ_ne_self _
  have hLi : env.locals ≠ it := Nat.ne_of_lt hLlt
  have hLe : env.locals ≠ e := by rw [← hE]; exact Nat.ne_of_lt (Nat.lt_succ_of_lt hLlt)
  have hover : ∀ (fr : Frame) (c : Code), fr.marks (none, none) = (none, none) → (A.over c [fr]).handled = none := fun fr c h => by
    show (marksOver [fr] (A.handled, A.handled)).1 = none
    rw [hh]
    show (fr.marks (none, none)).1 = none
    rw [h]
  have W := fun (A' : Around) (h : A'.handled = none) => WalksT.enumerateD (prog := prog) (w := w) (A := A') (draws_str (prog := prog) (w := w) (A := A'.in1) h it x t) e hei (by simpa using hei) (by simp)
  refine (W _ (show (A.over _ []).handled = none from hh)).self 0 _ _ _ ⟨⟨.none, by simpa using he₃⟩, hi₃⟩ fun p => ?_
  have hn₃ := hn₂.keeps hk₃
  refine seg_forLoopG KE hh rfl rfl hei hLe hLi (fun c => hover _ c rfl) rfl rfl ha ?_ x.cps.toList 0 false _ _ _ rfl (Nat.zero_le _) ⟨⟨_, hn₃, (if_neg (by decide +kernel)).trans ((if_neg (by decide +kernel)).trans hm), if_pos rfl, _, (if_neg (by decide +kernel)).trans (if_pos rfl)⟩, ⟨.none, by simpa using he₃⟩, hi₃⟩
    ⟨h₃, _, rfl, fun p o hp _ _ eo => hk₃ _ _ (hk₂ p o hp eo)⟩ (by simp) rfl (Nat.le_refl _)
  intro b' s₀' s' k' ⟨m', hn', m1, u, m2⟩ hes his hKp hY hk' hkl
  have hLs : NC s'.heap env.locals := let ⟨o, _, _, e1, e2, _⟩ := hn'; ⟨o, e1, by rw [e2]; nofun⟩
  refine seg_again rfl ?_
  show Seg _ _ _ _ _ _ _ (leafOf (.ok .next)) _ _
  refine seg_leaf (.ok .next) ?_
  refine seg_execs_cons (seg_If ?_)
  rw [isTrue_of_plain rfl]
  refine wpAny_bind (g_name KE.kind KE.escape hn' m1 (by decide +kernel) (wpAny_bind (wpAny_standAt (wpAny_holding (wpAny_truthy_bool ?_)))))
  cases b' with
  | true =>
    simp only [if_true]
    have hkk : k' = 1 := hk'
    subst hkk
    refine seg_execs_cons (g_yield (rest := []) (p := x.cps.size - 1) (txt := ⟨#[92]⟩) KE rfl rfl hY hkl hLs hes his hKp (fun Q E hQ => ?_) fun s₂ hs₂ => ?_)
    · refine wpAny_Tuple_spliced ?_
      rw [starEach_cons rfl]
      refine spliced_cons (g_name KE.kind KE.pos hn' m2 (by decide +kernel) ?_)
      rw [starEach_cons rfl]
      refine spliced_cons (Constant_str ?_)
      refine spliced_nil ?_
      rw [show ("\\" : Str) = ⟨#[92]⟩ by decide +kernel]
      exact And.intro (by show 2 ≤ sizeLine; rw [sizeLine_eq]; decide) (hQ _ _ _)
    · show Seg _ _ _ _ _ _ _ (leafOf (.ok (.ret .none))) _ _
      exact seg_end (.ok (.ret .none)) ⟨rfl, rfl, Kp.refl ..⟩
  | false =>
    have hkk : k' = 0 := hk'
    subst hkk
    simp only [Bool.false_eq_true, if_false]
    show Seg _ _ _ _ _ _ _ (leafOf (.ok (.ret .none))) _ _
    exact seg_end (.ok (.ret .none)) ⟨rfl, rfl, hKp⟩
end
end Mine

-- G4
namespace Mine
open PySem PySem.Spec PySem.Calls PyProof.Rows PySem.W

section
variable {C : Cx} {env : Env} {c : CC} {tb : List (Str × Nat)} {wr : List Str} {ex ex' X Y Z : List Addr} {loc : Loc} {s s' : Shared} {A : Around} {E : Value → Shared → Prop} {k W : Nat} {F : Orc}

theorem St.outs (S : St C ex s) (hk : ∀ b o, b ∉ Y → s.heap.get? b = some o → s'.heap.get? b = some o) (hYt : ∀ a ∈ Y, ¬ isTab C a) (hY : ∀ a ∈ Y, a ∈ ex ∨ s.heap.get? a = none) (ht' : ∀ t ∈ C.tabs, t.P ∈ ex') (hnew : ∀ a ∈ ex', a ∈ ex ∨ s.heap.get? a = none)
    (hth : ∀ a ∈ ex', ∃ o, s'.heap.get? a = some o) (hb : AllBare s'.gens) : St C ex' s' := by
  have hf : Sub (Fz s.heap ex) (Fz s'.heap ex') := fz_mono (fun b o hb e => hk b o (fun h => (hY b h).elim hb fun h' => by rw [h'] at e; cases e) e) fun b o hb e hb' => (hnew b hb').elim hb fun h' => by rw [h'] at e; cases e
  refine ⟨S.gd.keeps hf, ht', hth, fun t ht => ?_, hb⟩
  obtain ⟨ps, h1, h2⟩ := S.tab t ht
  refine ⟨ps, hk _ _ (fun h => hYt _ h ⟨t, ht, rfl⟩) h1, h2.imp id ?_⟩
  rintro ⟨c', e, hc⟩
  exact ⟨c', e, hc.keeps hf⟩

/-- hidden things change, new ones are hidden -/
theorem Rel.outs (R : Rel C env tb wr ex X loc s) (hk : ∀ b o, b ∉ Y → s.heap.get? b = some o → s'.heap.get? b = some o) (hYt : ∀ a ∈ Y, ¬ isTab C a) (hY : ∀ a ∈ Y, (a ∈ ex ∧ ∀ o, s.heap.get? a = some o → ∀ v, o.data ≠ .cell v) ∨ s.heap.get? a = none)
    (ht' : ∀ t ∈ C.tabs, t.P ∈ ex') (hnew : ∀ a ∈ ex', a ∈ ex ∨ s.heap.get? a = none) (hth : ∀ a ∈ ex', ∃ o, s'.heap.get? a = some o) (hb : AllBare s'.gens) : Rel C env tb wr ex' X loc s' := by
  have hYX : ∀ a ∈ X, a ∉ Y := fun a ha hy => by
    rcases hY a hy with ⟨h, _⟩ | h
    · exact R.disj a ha h
    · obtain ⟨o, e⟩ := R.st.there a (List.mem_append_left _ ha); rw [h] at e; cases e
  have hYc : ∀ a o v, s.heap.get? a = some o → o.data = .cell v → a ∉ Y := fun a o v e hd hy => by
    rcases hY a hy with ⟨_, h⟩ | h
    · exact h o e v hd
    · rw [h] at e; cases e
  have hold : ∀ {x v}, Holds env s.heap x v → Holds env s'.heap x v := fun h => by
    rcases h with ⟨k1, m, ⟨o, es, ep, e1, e2, e3⟩, e⟩ | ⟨k1, c, l, ⟨o, e1, e2⟩⟩
    · exact .inl ⟨k1, m, ⟨o, es, ep, hk _ _ (hYX _ R.mine) e1, e2, e3⟩, e⟩
    · exact .inr ⟨k1, c, l, ⟨o, hk _ _ (hYc _ _ _ e1 e2) e1, e2⟩⟩
  have back : ∀ {x v}, Holds env s'.heap x v → ∀ w, Holds env s.heap x w → w = v := fun h w h' => (hold h').inj h
  have hthX : ∀ a ∈ X ++ ex', ∃ o, s'.heap.get? a = some o := fun a ha => by
    rcases List.mem_append.mp ha with h | h
    · obtain ⟨o, e⟩ := R.st.there a (List.mem_append_left _ h); exact ⟨o, hk a o (hYX a h) e⟩
    · exact hth a h
  have hnX : ∀ a ∈ X ++ ex', a ∈ X ++ ex ∨ s.heap.get? a = none := fun a ha => by
    rcases List.mem_append.mp ha with h | h
    · exact .inl (List.mem_append_left _ h)
    · exact (hnew a h).imp (List.mem_append_right _) id
  have hfz : Sub (Fz s.heap (X ++ ex)) (Fz s'.heap (X ++ ex')) := fz_mono (fun b o hb e => hk b o (fun h => by
      rcases hY b h with ⟨h, _⟩ | h
      · exact hb (List.mem_append_right _ h)
      · rw [h] at e; cases e) e) fun b o hb e hb' => (hnX b hb').elim hb fun h' => by rw [h'] at e; cases e
  refine ⟨R.tbok, R.kind, R.st.outs hk hYt (fun a ha => (hY a ha).imp (fun h => List.mem_append_right _ h.1) id) (fun t ht => List.mem_append_right _ (ht' t ht)) hnX hthX hb, R.mine, ?_, ht', R.notab, ?_, R.apart, ?_, ?_, ?_, ?_⟩
  · obtain ⟨m, o, es, ep, e1, e2, e3⟩ := R.ns
    exact ⟨m, o, es, ep, hk _ _ (hYX _ R.mine) e1, e2, e3⟩
  · intro a ha hb'
    rcases hnew a hb' with h | h
    · exact R.disj a ha h
    · obtain ⟨o, e⟩ := R.st.there a (List.mem_append_left _ ha); rw [h] at e; cases e
  · intro x c e
    obtain ⟨v, o, e1, e2⟩ := R.held x c e
    exact ⟨v, o, hk _ _ (hYc _ _ _ e1 e2) e1, e2⟩
  · intro x hx
    rcases R.home x hx with h | ⟨h1, c, h2, h3, v, o, e1, e2⟩
    · exact .inl h
    · exact .inr ⟨h1, c, h2, h3, v, o, hk _ _ (hYc _ _ _ e1 e2) e1, e2⟩
  · intro p hp mv hm
    obtain ⟨v, h1, h2⟩ := R.vars p hp mv hm
    exact ⟨v, hold h1, h2.up hfz (fun _ h => h) fun a o ha e _ => hk a o (hYX a ha) e⟩
  · intro p hp q hq hn l l' a h1 h2 h3 h4
    obtain ⟨v, g1, a1, _, _, rfl, _⟩ := R.vars p hp _ h1
    obtain ⟨w, g2, a2, _, _, rfl, _⟩ := R.vars q hq _ h2
    have e1 := back h3 _ g1
    have e2 := back h4 _ g2
    cases e1; cases e2
    exact R.owns p hp q hq hn l l' a h1 h2 g1 g2

/-- fewer things are hidden -/
theorem Rel.bares (R : Rel C env tb wr ex X loc s) (hsub : ∀ a ∈ ex', a ∈ ex) (ht : ∀ t ∈ C.tabs, t.P ∈ ex') : Rel C env tb wr ex' X loc s := by
  have hfz : Sub (Fz s.heap (X ++ ex)) (Fz s.heap (X ++ ex')) := fz_mono (fun _ _ _ e => e) fun b _ hb _ hb' => hb (by
    rcases List.mem_append.mp hb' with h | h
    · exact List.mem_append_left _ h
    · exact List.mem_append_right _ (hsub b h))
  exact ⟨R.tbok, R.kind, R.st.show_ (fun a ha => by
    rcases List.mem_append.mp ha with h | h
    · exact List.mem_append_left _ h
    · exact List.mem_append_right _ (hsub a h)) (fun t h => List.mem_append_right _ (ht t h)), R.mine, R.ns, ht, R.notab, fun a ha hb => R.disj a ha (hsub a hb), R.apart, R.held, R.home,
    fun p hp mv hm => let ⟨v, h1, h2⟩ := R.vars p hp mv hm; ⟨v, h1, h2.up hfz (fun _ h => h) fun _ _ _ e _ => e⟩, R.owns⟩
end

section
variable {prog : Program} {w : World} {A : Around} {E : Value → Shared → Prop} {s : Shared}
theorem next_gen {a : Addr} {g n : Nat} {gs : GenState} {P : Nat → Shared → Shared → Prop} {Y : Protocol} {Q : Option Value → Shared → Prop} (hh : A.handled = none)
    (hl : s.heap.NoLimit) (hroom : A.depth < recursionLimit) (hg : s.heap.IsGen a g) (hgs : s.gens[g]? = some gs)
    (hgo : gs.Goes (model prog w) A.in1 (fun n s₀ r s₁ => r = .ok (.ret .none) ∧ P n s₀ s₁) Y n (.send .none) (s.setGen g .running))
    (hY : ∀ v s₁ gs', gs'.bare = true → Y (n - 1) (s.setGen g .running) v s₁ (fun r' s'' => match n with
        | 0 => False
        | m + 1 => gs'.Goes (model prog w) A.in1 (fun n s₀ r s₁ => r = .ok (.ret .none) ∧ P n s₀ s₁) Y m r' s'') → Q (some v) (s₁.setGen g gs'))
    (hP : ∀ s₁, P n (s.setGen g .running) s₁ → ∀ h', (∀ b o, s₁.heap.get? b = some o → h'.get? b = some o) → Q none { s₁.setGen g .finished with heap := h' }) :
    wpAny (model prog w) A (pyNext (.ref a)) Q E s := by
  unfold pyNext
  refine wpAny_bind (wpAny_attempt (wpAny_callSpecial?_slot (name := Str.ofString "__next__") hg.typeIs slot_gen_next (wpAny_call_entry slot_gen_next hg.typeIs entry_gen_next ?_ (args_gen_next _))))
  show wpAny _ A.in1 (Builtin.Generator.genWake (.ref a) (.send .none)) _ _ s
  unfold Builtin.Generator.genWake
  refine wpAny_bind (wpAny_holding (wpAny_genNumber hg (wpAny_bind (wpAny_genState hgs ?_))))
  cases gs with
  | running => exact hgo.elim
  | finished => exact hgo.elim
  | _ =>
    refine wpAny_bind (wpAny_roomToWake hl hroom ?_)
    show wpAny _ A.in1 (.resume g (.send .none) [] _) _ _ s
    refine wpAny_resumeQ hgs hgo (fun x s₁ hx => ?_) (fun v s₁ gs' hb hv => ?_)
    · obtain ⟨rfl, hp⟩ := hx
      show wpAny _ A.in1 (newExc (.type "StopIteration") [] >>= _) _ _ _
      refine wpAny_bind ?_
      simp only [newExc, newTuple]
      refine wpAny_bind (wpAny_newObj_type ?_ (by size_fits))
      refine wpAny_bind (m := firstArgMember _ _) (wpAny_of_eq (a := Value.none) (by first | rfl | (simp only [firstArgMember]; rfl)) ?_)
      refine wpAny_newObj_type ?_ (by size_fits)
      simp only [raiseNew]
      refine wpAny_bind (wpAny_bind (wpAny_handled ?_))
      first | rw [show A.in1.handled = none from hh] | rw [hh]
      refine wpAny_throw ?_
      refine wpAny_bind (wpAny_isInstance (T := "StopIteration") (b := true) ⟨_, Heap.get?_push_size _ rfl, rfl⟩ isSubtype_stop ?_)
      exact wpAny_pure (hP s₁ hp _ fun b o hb => Heap.get?_push_of_some _ (Heap.get?_push_of_some _ hb))
    · exact wpAny_pure ⟨v, rfl, wpAny_pure (hY v s₁ gs' hb hv)⟩
end
end Mine

-- G5
namespace Mine
open PySem PySem.Spec PySem.Calls PyProof.Rows PySem.W

structure GenDef (C : Cx) (d : DefRec) : Prop where
  mem : d ∈ C.defs
  body : IterBody d.body
  kind : d.scope.kind = .function
  co : d.scope.isCoroutine = false
  gen : d.scope.isGenerator = true
  bind : ∀ pm code doc v, bindArgs (docDef d.name d.params d.body d.scope pm code doc) ⟨[v], []⟩ = pure [(("addr" : Str), v)]
  nocell : ∀ x ∈ d.scope.names, x.2 ≠ .cell
  addr : d.scope.names.lookup ("addr" : Str) = some .local
  pos : d.scope.names.lookup ("pos" : Str) = some .local
  escape : d.scope.names.lookup ("escape" : Str) = some .local
  ch : d.scope.names.lookup ("ch" : Str) = some .local
  enum : d.scope.names.lookup ("enumerate" : Str) = some .globalImplicit
  en : C.mg "enumerate" = none

section
variable {C : Cx} {env : Env} {c : CC} {tb : List (Str × Nat)} {wr : List Str} {ex ex' X Y Z : List Addr} {loc : Loc} {s s' : Shared} {A : Around} {E : Value → Shared → Prop} {k W : Nat} {F : Orc}

theorem bare_set {gens : Array GenState} {g : Nat} {x : GenState} (h : AllBare gens) (hx : x.bare = true) : AllBare (gens.setIfInBounds g x) := fun y hy => by
  rcases Array.mem_or_eq_of_mem_setIfInBounds hy with h' | h'
  · exact h y h'
  · exact h' ▸ hx

end

/-- all that stays in a loop over the generator -/
structure GD0 where
  C : Cx
  env : Env
  c : CC
  wr : List Str
  ex : List Addr
  X : List Addr
  s : Shared
  A : Around
  I : Addr
  L : Addr
  g : Nat
  Ys : List (Nat × Str)
  tg : Tg
  bd : Loc → Option (MF × Loc)
  r : MF
  loc' : Loc
structure GS (D : GD0) : Prop where
  I0 : D.s.heap.get? D.I = none
  L0 : D.s.heap.get? D.L = none
  IL : D.I ≠ D.L
  g0 : D.s.gens.size ≤ D.g
  tx : ∀ t ∈ D.C.tabs, t.P ∈ D.ex
  st : St D.C (D.X ++ D.ex) D.s
  hh : D.A.handled = none
  here : D.A.depth < recursionLimit
noncomputable abbrev outs (Ys : List (Nat × Str)) : List PyData := Ys.map fun p => .tuple [.int p.1, .str p.2]
noncomputable abbrev ncell (h : Heap) (a : Addr) : Prop := ∀ o, h.get? a = some o → ∀ v, o.data ≠ .cell v
/-- a state within it -/
structure GI (D : GD0) (i : Nat) (X' : List Addr) (loc : Loc) (Zo : List Addr) (e it : Addr) (gs : GenState) (s' : Shared) : Prop where
  le : i ≤ D.Ys.length
  ev : evFor D.tg D.bd ((outs D.Ys).drop i) loc = some (D.r, D.loc')
  gr : Grow D.C D.X D.s s'
  hX : ∀ a ∈ X', a ∈ D.X ∨ D.s.heap.get? a = none
  gen : s'.heap.IsGen D.I D.g
  rel : Rel D.C D.env D.c.tb D.wr (Zo ++ D.ex) X' loc s'
  gg : s'.gens[D.g]? = some gs
  iin : D.I ∈ Zo
  fr : ∀ a ∈ [D.L, e, it], D.s.heap.get? a = none
  ni : D.I ∉ [D.L, e, it]
  nc : ∀ a ∈ [D.L, e, it], (a ∈ Zo ∧ ncell s'.heap a) ∨ s'.heap.get? a = none
  go : gs.Goes D.C.M D.A.in1 (GR D.L e it) (GY D.L e it D.Ys) (D.Ys.length - i) (.send .none) (s'.setGen D.g .running)

section
variable {D : GD0} {i : Nat} {X' : List Addr} {loc : Loc} {Zo : List Addr} {e it : Addr} {gs : GenState} {s' s₁ : Shared}
theorem GS.notab (S : GS D) {a : Addr} (h : D.s.heap.get? a = none) : ¬ isTab D.C a := fun ⟨t, ht, e⟩ => by
  obtain ⟨o, ho⟩ := S.st.there _ (List.mem_append_right _ (S.tx t ht))
  rw [e, h] at ho; cases ho
theorem set_twice {gens : Array GenState} {g j : Nat} {x y : GenState} (h : j ≠ g) : ((gens.setIfInBounds g x).setIfInBounds g y)[j]? = gens[j]? := by
  rw [Array.getElem?_setIfInBounds_ne (Ne.symm h), Array.getElem?_setIfInBounds_ne (Ne.symm h)]
theorem get_lt {gens : Array GenState} {g : Nat} {x : GenState} (h : gens[g]? = some x) : g < gens.size := (Array.getElem?_eq_some_iff.mp h).1
theorem get_set {gens : Array GenState} {g : Nat} {x y z : GenState} (h : gens[g]? = some x) : ((gens.setIfInBounds g y).setIfInBounds g z)[g]? = some z := by
  rw [Array.getElem?_setIfInBounds_self, if_pos (by rw [Array.size_setIfInBounds]; exact get_lt h)]
/-- what is changed besides -/
structure Aft (D : GD0) (e it : Addr) (s' s4 : Shared) : Prop where
  keep : ∀ q o, q ∉ [D.L, e, it] → s'.heap.get? q = some o → s4.heap.get? q = some o
  os : s4.os = s'.os
  gsz : s'.gens.size ≤ s4.gens.size
  gj : ∀ j, j ≠ D.g → s4.gens[j]? = s'.gens[j]?
  bare : AllBare s4.gens
theorem GI.aft (H : GI D i X' loc Zo e it gs s') (k : Kp D.L e it (s'.setGen D.g .running) s₁) {gs' : GenState} (hb : gs'.bare = true) {h' : Heap} (hk : ∀ b o, s₁.heap.get? b = some o → h'.get? b = some o) :
    Aft D e it s' { s₁.setGen D.g gs' with heap := h' } := by
  obtain ⟨h1, tk, rfl, kp⟩ := k
  refine ⟨fun q o hq eo => hk q o (kp q o (fun h => hq (h ▸ .head _)) (fun h => hq (h ▸ .tail _ (.head _))) (fun h => hq (h ▸ .tail _ (.tail _ (.head _)))) eo), rfl, ?_, fun j hj => set_twice hj, bare_set (bare_set H.rel.st.bare rfl) hb⟩
  show s'.gens.size ≤ ((s'.gens.setIfInBounds D.g .running).setIfInBounds D.g gs').size
  rw [Array.size_setIfInBounds, Array.size_setIfInBounds]
  exact Nat.le_refl _
theorem GI.grow (S : GS D) (H : GI D i X' loc Zo e it gs s') {s4 : Shared} (T : Aft D e it s' s4) : Grow D.C D.X D.s s4 := by
  have nY : ∀ q o, D.s.heap.get? q = some o → q ∉ [D.L, e, it] := fun q o eo hq => by rw [H.fr q hq] at eo; cases eo
  refine ⟨fun q o hq hnt eo => T.keep q o (nY q o eo) (H.gr.keep q o hq hnt eo), fun q o eo => ?_, T.os.trans H.gr.os, Nat.le_trans H.gr.gsize T.gsz, fun j hj => (T.gj j fun h => ?_).trans (H.gr.gens j hj)⟩
  · obtain ⟨o', e'⟩ := H.gr.alive q o eo
    exact ⟨o', T.keep q o' (nY q o eo) e'⟩
  · rw [h] at hj; exact Nat.lt_irrefl _ (Nat.lt_of_lt_of_le hj S.g0)
theorem GI.out (S : GS D) (H : GI D i X' loc Zo e it gs s') {s4 : Shared} (T : Aft D e it s' s4) {new : List Addr} (h1 : ∀ a ∈ new, a ∈ Zo ∨ s'.heap.get? a = none) (h2 : ∀ a ∈ new, ∃ o, s4.heap.get? a = some o) : Rel D.C D.env D.c.tb D.wr (new ++ D.ex) X' loc s4 := by
  refine H.rel.outs T.keep (fun a ha => S.notab (H.fr a ha)) (fun a ha => (H.nc a ha).imp (fun h => ⟨List.mem_append_left _ h.1, h.2⟩) id) (fun t ht => List.mem_append_right _ (S.tx t ht)) (fun a ha => ?_) (fun a ha => ?_) T.bare
  · rcases List.mem_append.mp ha with h | h
    · exact (h1 a h).imp (List.mem_append_left _) id
    · exact .inl (List.mem_append_right _ h)
  · rcases List.mem_append.mp ha with h | h
    · exact h2 a h
    · obtain ⟨o, eo⟩ := S.st.there a (List.mem_append_right _ h)
      exact (H.grow S T).alive a o eo
/-- the start -/
theorem gen_start {body : List Stmt} {genv : Env} {mm : Str → Option Value} {x : Str} {t : Tok} {C : Cx} (S : GS D) (hC : D.C = C) (B : IterBody body) (KE : GenvOk genv) (hgl : genv.globals = mainGlobals) (hbi : genv.builtins = builtinsNs) (hen : C.mg "enumerate" = none) (hloc : genv.locals = D.L) (ha : x.cps.all (· < 128) = true) (hys : D.Ys = escGo 0 false x.cps.toList)
    (hev : evFor D.tg D.bd (outs D.Ys) loc = some (D.r, D.loc')) (hns : s'.heap.Ns D.L mm) (hmm : mm "addr" = some (.str x t)) (gr : Grow D.C D.X D.s s') (hX : ∀ a ∈ X', a ∈ D.X ∨ D.s.heap.get? a = none) (gen : s'.heap.IsGen D.I D.g)
    (rel : Rel D.C D.env D.c.tb D.wr ([D.I, D.L] ++ D.ex) X' loc s') (gg : s'.gens[D.g]? = some (.fresh (.func body genv))) : GI D 0 X' loc [D.I, D.L] (s'.heap.objs.size + 1) s'.heap.objs.size (.fresh (.func body genv)) s' := by
  subst hC
  have hn1 : s'.heap.get? (s'.heap.objs.size + 1) = none := Heap.get?_none_of_le (Nat.le_succ _)
  have hn0 := get?_size s'.heap
  have hI : ∀ a, s'.heap.get? a = none → D.I ≠ a := fun a h e => by
    obtain ⟨o, _, _, eo, _⟩ := gen; rw [e, h] at eo; cases eo
  refine ⟨Nat.zero_le _, hev, gr, hX, gen, rel, gg, .head _, mem3 S.L0 (gr.fresh hn1) (gr.fresh hn0), fun h => mem3 (P := fun a => D.I ≠ a) S.IL (hI _ hn1) (hI _ hn0) _ h rfl,
    mem3 (P := fun a => (a ∈ [D.I, D.L] ∧ ncell s'.heap a) ∨ s'.heap.get? a = none) (.inl ⟨.tail _ (.head _), fun o eo v hd => ?_⟩) (.inr hn1) (.inr hn0), ?_⟩
  · obtain ⟨o', _, _, e1, e2, _⟩ := hns
    rw [e1] at eo; cases eo; rw [e2] at hd; cases hd
  · have hid : ∀ {q mq}, (Fz s'.heap (X' ++ ([D.I, D.L] ++ D.ex))).Ns q mq → genv.locals ≠ q := fun ⟨o, _, _, e1, _⟩ e => (fz_iff.mp e1).2 (List.mem_append_right _ (by rw [← e, hloc]; exact .tail _ (.head _)))
    rw [hys, ← hloc]
    exact And.intro rfl <| gen_goes (prog := D.C.prog) (w := D.C.w) (C := D.C) (A := D.A.in1) (s := s'.setGen D.g .running) B KE hgl hbi S.hh ha (rel.st.gd.g.keeps fz_sub) (rel.st.gd.b.keeps fz_sub) rel.st.gd.builtins hen (hid rel.st.gd.g) (hid rel.st.gd.b) (by rw [hloc]; exact hns) hmm
/-- the end -/
theorem gen_end (S : GS D) (H : GI D i X' loc Zo e it gs s') (k : Kp D.L e it (s'.setGen D.g .running) s₁) (h0 : D.Ys.length - i = 0) {h' : Heap} (hk : ∀ b o, s₁.heap.get? b = some o → h'.get? b = some o) :
    D.r = .next ∧ Grow D.C D.X D.s { s₁.setGen D.g .finished with heap := h' } ∧ Rel D.C D.env D.c.tb D.wr D.ex X' D.loc' { s₁.setGen D.g .finished with heap := h' } := by
  have T := H.aft k (gs' := .finished) rfl hk
  have hi : i = D.Ys.length := Nat.le_antisymm H.le (Nat.le_of_sub_eq_zero h0)
  have hv := H.ev
  rw [hi, List.drop_eq_nil_of_le (by rw [List.length_map]; exact Nat.le_refl _)] at hv
  have e := Prod.mk.inj (Option.some.inj (show some (MF.next, loc) = some (D.r, D.loc') from hv))
  exact ⟨e.1.symm, H.grow S T, e.2 ▸ H.out S T (new := []) (fun _ h => nomatch h) fun _ h => nomatch h⟩
/-- an item -/
structure GO (D : GD0) (i : Nat) (X' : List Addr) (loc : Loc) (e it : Addr) (gs' : GenState) (s4 : Shared) (T : Addr) (d : PyData) : Prop where
  lt : i < D.Ys.length
  gr : Grow D.C D.X D.s s4
  rel : Rel D.C D.env D.c.tb D.wr ([D.I, D.L, e, it] ++ D.ex) X' loc s4
  gen : s4.heap.IsGen D.I D.g
  gg : s4.gens[D.g]? = some gs'
  rd : ∃ as, Reads (Fz s4.heap (X' ++ ([D.I, D.L, e, it] ++ D.ex))) (.ref T) d as
  ev : ∃ loc2, bindT loc D.tg d = some loc2 ∧ (D.bd loc2).bind (fun p => match p.1 with
      | .next => evFor D.tg D.bd ((outs D.Ys).drop (i + 1)) p.2
      | .ret d => some (.ret d, p.2)) = some (D.r, D.loc')
  nc : ∀ a ∈ [D.L, e, it], NC s4.heap a
  go : ∀ s₂ : Shared, (∀ b ∈ [D.L, e, it], s₂.heap.get? b = s4.heap.get? b) → gs'.Goes D.C.M D.A.in1 (GR D.L e it) (GY D.L e it D.Ys) (D.Ys.length - (i + 1)) (.send .none) s₂
theorem gen_item (S : GS D) (H : GI D i X' loc Zo e it gs s') {gs' : GenState} (hb : gs'.bare = true) {v : Value}
    (hy : GY D.L e it D.Ys (D.Ys.length - i - 1) (s'.setGen D.g .running) v s₁ (fun r' s'' => match D.Ys.length - i with
        | 0 => False
        | m + 1 => gs'.Goes D.C.M D.A.in1 (GR D.L e it) (GY D.L e it D.Ys) m r' s'')) : ∃ T d, v = .ref T ∧ GO D i X' loc e it gs' (s₁.setGen D.g gs') T d := by
  obtain ⟨p, txt, T, u1, u2, hYi, hm, rfl, hTn, hne, ⟨oT, hoT, hcT, nT, hdT⟩, hkp, hnc, hnext⟩ := hy
  have hlt : i < D.Ys.length := by
    refine Nat.lt_of_le_of_ne H.le fun h => ?_
    have := hnext s₁ fun _ _ => rfl
    rw [h, Nat.sub_self] at this; exact this
  have hl1 : D.Ys.length - i = D.Ys.length - (i + 1) + 1 := by rw [Nat.sub_add_eq]; exact (Nat.sub_add_cancel (Nat.sub_pos_of_lt hlt)).symm
  rw [hl1] at hnext hYi hm
  have hYi' : D.Ys[i]? = some (p, txt) := by rw [← hYi]; congr 1; omega
  have T' := H.aft hkp hb fun _ _ e => e
  have hIY : s₁.heap.IsGen D.I D.g := let ⟨o, nm, qn, eo, r⟩ := H.gen; ⟨o, nm, qn, T'.keep _ _ H.ni eo, r⟩
  have hdead : ∀ q, (∃ o, s'.heap.get? q = some o) → T ≠ q := fun q ⟨o, eo⟩ e => by rw [e] at hTn; rw [show s'.heap.get? q = none from hTn] at eo; cases eo
  have R4 := H.out S T' (new := [D.I, D.L, e, it]) (List.forall_mem_cons.mpr ⟨.inl H.iin, fun a ha => (H.nc a ha).imp And.left id⟩) (List.forall_mem_cons.mpr ⟨let ⟨o, _, _, eo, _⟩ := hIY; ⟨o, eo⟩, fun a ha => (hnc a ha).there⟩)
  have hv := H.ev
  have hd : (outs D.Ys).drop i = .tuple [.int (p : Int), .str txt] :: (outs D.Ys).drop (i + 1) := by
    have hl : i < (outs D.Ys).length := by rw [List.length_map]; exact hlt
    rw [List.drop_eq_getElem_cons hl]
    congr 1
    have e2 := List.getElem?_eq_getElem hl
    rw [List.getElem?_map, hYi'] at e2
    exact (Option.some.inj e2).symm
  rw [hd] at hv
  refine ⟨T, .tuple [.int (p : Int), .str txt], rfl, hlt, H.grow S T', R4, hIY, ?_, ⟨_, .tuple (o := oT) (fz_iff.mpr ⟨hoT, fun hm => ?_⟩) hcT hdT (.cons (.int _ u1) (.cons (.str _ u2) .nil))⟩, bindE hv fun l2 h1 h2 => ⟨l2, h1, h2⟩, hnc, hnext⟩
  · obtain ⟨h1, tk, rfl, _⟩ := hkp; exact get_set H.gg
  · rcases List.mem_append.mp hm with h | h
    · exact hdead T (H.rel.st.there T (List.mem_append_left _ h)) rfl
    · rcases List.mem_append.mp h with h | h
      · rcases List.mem_cons.mp h with h | h
        · exact hdead D.I (let ⟨o, _, _, eo, _⟩ := H.gen; ⟨o, eo⟩) h
        · exact hne h
      · exact hdead T (H.rel.st.there T (List.mem_append_right _ (List.mem_append_right _ h))) rfl
/-- the state behind a turn -/
theorem gen_next (S : GS D) {gs' : GenState} {s4 s6 : Shared} {T : Addr} {d : PyData} (O : GO D i X' loc e it gs' s4 T d) (hni : D.I ∉ [D.L, e, it]) (hfr : ∀ a ∈ [D.L, e, it], D.s.heap.get? a = none) (hX' : ∀ a ∈ X', a ∈ D.X ∨ D.s.heap.get? a = none) (g : Grow D.C X' s4 s6) {X3 : List Addr} {loc3 : Loc} (hX3 : ∀ a ∈ X3, a ∈ X' ∨ s4.heap.get? a = none)
    (R6 : Rel D.C D.env D.c.tb D.wr ([D.I, D.L, e, it] ++ D.ex) X3 loc3 s6) (hev : evFor D.tg D.bd ((outs D.Ys).drop (i + 1)) loc3 = some (D.r, D.loc')) : GI D (i + 1) X3 loc3 [D.I, D.L, e, it] e it gs' s6 := by
  have kept : ∀ a o, a ∈ [D.I, D.L, e, it] → D.s.heap.get? a = none → s4.heap.get? a = some o → s6.heap.get? a = some o := fun a o ha hn eo => g.keep a o (fun h => O.rel.disj a h (List.mem_append_left _ ha)) (S.notab hn) eo
  have same : ∀ a ∈ [D.L, e, it], s6.heap.get? a = s4.heap.get? a := fun a ha => by
    obtain ⟨o, eo, _⟩ := O.nc a ha
    rw [eo]; exact kept a o (.tail _ ha) (hfr a ha) eo
  refine ⟨O.lt, hev, O.gr.trans g hX', fun a ha => (hX3 a ha).elim (hX' a) fun e => .inr (O.gr.fresh e), ?_, R6, (g.gens _ (get_lt O.gg)).trans O.gg, .head _, hfr, hni, fun a ha => .inl ⟨.tail _ ha, fun o eo => ?_⟩, O.go _ same⟩
  · obtain ⟨o, nm, qn, eo, r⟩ := O.gen
    exact ⟨o, nm, qn, kept _ o (.head _) S.I0 eo, r⟩
  · obtain ⟨o', eo', hn⟩ := O.nc a ha
    rw [same a ha, eo'] at eo; cases eo; exact hn
theorem gen_loop {k W : Nat} {F : Orc} {te : Expr} {b : List Stmt} {bm : List MS} {Q : Flow → Shared → Prop} {RR : Result → Shared → Prop} (S : GS D) (EO : EnvOk D.env D.c) (RM : Room D.A k) (hw : Wr D.c D.wr) (hT : TgOk D.c.tb D.wr te D.tg) (hb : SSs D.C F k W D.c b bm)
    (hbd : ∀ l, D.bd l = evSs F W bm l) (Fi : Fin' D.C D.env D.c D.wr D.ex D.X D.s D.r D.loc' Q) (hRR : ∀ f s', Q f s' → RR (.ok f) s') (H0 : GI D i X' loc Zo e it gs s') : codeAny D.C.M D.A (.forLoop te (.ref D.I) b [] D.env) RR s' := by
  refine codeAny_forLoop_any (fun n s' => ∃ i X' loc Zo e it gs, n = D.Ys.length + 1 - i ∧ GI D i X' loc Zo e it gs s') ?_ _ ⟨i, X', loc, Zo, e, it, gs, rfl, H0⟩
  clear H0
  rintro n s' ⟨i, X', loc, Zo, e, it, gs, rfl, H⟩
  refine next_gen (P := fun n s₀ s₁ => n = 0 ∧ Kp D.L e it s₀ s₁) (Y := GY D.L e it D.Ys) S.hh (H.rel.st.gd.nolimit.keeps fz_sub) S.here H.gen H.gg H.go (fun v s₁ gs' hbare hy => ?_) fun s₁ hs h' hk' => ?_
  · obtain ⟨T, d, rfl, O⟩ := gen_item S H hbare hy
    refine letgo_ok (fun _ _ => let ⟨o, nm, qn, eo, hc, _⟩ := O.gen; ⟨o, _, eo, hc, by decide +kernel⟩) ?_
    obtain ⟨loc2, hb2, hv⟩ := O.ev
    obtain ⟨as, rd⟩ := O.rd
    refine target_ok hT S.hh O.rel hb2 rd fun s₅ g₅ R5 => bindE hv fun p3 hp3 hv => ?_
    obtain ⟨r1, loc3⟩ := p3
    refine hb D.env D.wr ([D.I, D.L, e, it] ++ D.ex) X' loc2 s₅ D.A _ _ r1 loc3 EO RM hw R5 ((hbd _).symm.trans hp3) fun X3 s₆ g₆ hX3 R6 => ?_
    have N := fun hv => gen_next (loc3 := loc3) S O H.ni H.fr H.hX (g₅.trans' g₆) (fun a ha => (hX3 a ha).imp id g₅.fresh) R6 hv
    cases r1 with
    | next => exact ⟨_, Nat.sub_lt_sub_left (Nat.lt_succ_of_lt O.lt) (Nat.lt_succ_self i), i + 1, X3, loc3, _, e, it, gs', rfl, N hv⟩
    | ret dd =>
      have e := Prod.mk.inj (Option.some.inj (show some (MF.ret dd, loc3) = some (D.r, D.loc') from hv))
      have f := Fi X3 s₆ (O.gr.trans (g₅.trans' g₆) H.hX) (fun a ha => (hX3 a ha).elim (H.hX a) fun e => .inr (O.gr.fresh (g₅.fresh e))) (e.2 ▸ R6.bares (fun a ha => List.mem_append_right _ ha) S.tx)
      rw [← e.1] at f
      refine fun v as rd => hRR _ _ (f v as (Reads.keeps (fz_mono (fun _ _ _ e => e) fun q _ hq _ hq' => hq ?_) rd))
      exact (List.mem_append.mp hq').elim (fun h => List.mem_append_left _ h) fun h => List.mem_append_right _ (List.mem_append_right _ h)
  · obtain ⟨e1, g, R⟩ := gen_end S H hs.2 hs.1 hk'
    have f := Fi X' _ g H.hX R
    rw [e1] at f
    exact wpAny_execs_nil (hRR _ _ f)
end

section
variable {C : Cx} {env : Env} {c : CC} {tb : List (Str × Nat)} {wr : List Str} {ex ex' X Y Z : List Addr} {loc : Loc} {s s' : Shared} {A : Around} {E : Value → Shared → Prop} {k W : Nat} {F : Orc}
theorem s_forG {d : DefRec} {te e : Expr} {b : List Stmt} {m : ME} {tg : Tg} {bm : List MS} {f : Str} {pf pc pos : Pos} (GD : GenDef C d) (hf : f = d.name) (hx : isGlob c f = true) (hd : f ≠ "__debug__") (hst : notStar e = true) (he : SE C F k c e m)
    (htg : ∀ wr, Wr c wr → TgOk c.tb wr te tg) (hb : SSs C F k W c b bm) :
    SS C F k W c (.For te (.Call (.Name f pf) [e] [] pc) b [] pos) (.forG tg m bm) := fun env wr ex X loc s A Q E r loc' EO RM hw R hv H => by
  subst hf
  refine bindE hv fun dd hdd hv => bindE hv fun xs hxs hv => ?_
  obtain ⟨X1, hX1, R1⟩ := R.frz (fv m)
  have hT := htg wr hw
  cases dd with
  | str x =>
    simp only [genV] at hxs
    split at hxs
    · rename_i hok
      cases hxs
      simp only [Bool.and_eq_true, decide_eq_true_eq] at hok
      obtain ⟨a, o, pm, code, doc, hm, ho, hdat, hcode⟩ := R1.st.gd.fn d GD.mem
      refine wpAny_For (wpAny_Call_NameR (glob_name EO R1 hx hd hm ?_)) (fun _ => rfl)
      have hst' : [e].all notStar = true := by simp only [List.all_cons, hst, List.all_nil]; rfl
      refine callWith_function (o := o) (fd := docDef d.name d.params d.body d.scope pm code doc) (evalArgs_all hst' ?_)
      rw [starEach_cons hst]
      refine spliced_cons (he env wr ex X1 _ s A _ E _ EO RM R1 hdd fun v as s₁ g₁ S₁ r₁ => spliced_nil ?_)
      refine ⟨⟨fz_sub _ _ (g₁.fz (fun _ h => nomatch h) R1.st.tabx _ _ ho), hdat⟩, ?_⟩
      obtain ⟨t, rfl⟩ := inv_str r₁
      obtain ⟨a', o', pm', code', doc', hm', ho', hdat', hcode'⟩ := S₁.gd.fn d GD.mem
      rw [hm] at hm'; cases hm'
      refine wpAny_call (codeAny_call_generator RM.here (fz_sub _ _ ho') hdat' GD.co GD.gen rfl (hcode'.keeps fz_sub) ?_)
      show wpAny _ _ (bindArgs (docDef d.name d.params d.body d.scope pm' code' doc') ⟨[.str x t], []⟩) _ _ _
      rw [GD.bind]
      refine wpAny_pure (wpAny_newFunctionEnv GD.nocell (fun y hy => by
        rw [List.mem_singleton.mp hy]; exact GD.addr) (fun h' hns hsb => ?_) GD.kind)
      have hL0 := get?_size s₁.heap
      have hpush : ∀ (o : Obj), Sub s₁.heap (s₁.heap.push o) := fun o _ _ e => Heap.get?_push_of_some _ e
      have hk1 : Sub s₁.heap h' := fun p o eo => hsb.extBut p o (Nat.ne_of_lt (Heap.lt_size eo)) (hpush _ _ _ eo)
      refine ⟨(S₁.gd.nolimit.keeps fz_sub).keeps hk1, ?_⟩
      -- the generator and its frame
      have hgl : (newEnv d.scope s₁.heap.objs.size mainGlobals [] (d.name ++ ".<locals>.") (some a) code' none builtinsNs).globals = mainGlobals := rfl
      have hbi : (newEnv d.scope s₁.heap.objs.size mainGlobals [] (d.name ++ ".<locals>.") (some a) code' none builtinsNs).builtins = builtinsNs := rfl
      have hlo : (newEnv d.scope s₁.heap.objs.size mainGlobals [] (d.name ++ ".<locals>.") (some a) code' none builtinsNs).locals = s₁.heap.objs.size := rfl
      have KE : GenvOk (newEnv d.scope s₁.heap.objs.size mainGlobals [] (d.name ++ ".<locals>.") (some a) code' none builtinsNs) :=
        ⟨GD.kind, GD.co, GD.addr, GD.pos, GD.escape, GD.ch, GD.enum⟩
      have hk2 : Sub s₁.heap (h'.push { cls := .type "generator", data := .fields #[.int s₁.gens.size 0, .str d.name (s₁.toks + 1), .str d.name (s₁.toks + 1 + 1)] }) := fun p o eo => Heap.get?_push_of_some _ (hk1 p o eo)
      have hLI : s₁.heap.objs.size < h'.objs.size := by obtain ⟨o, _, _, e1, _⟩ := hns; exact Heap.lt_size e1
      have hI0 : s₁.heap.get? h'.objs.size = none := Heap.get?_none_of_le (Nat.le_of_lt hLI)
      have hgen : Heap.IsGen (h'.push { cls := .type "generator", data := .fields #[.int s₁.gens.size 0, .str d.name (s₁.toks + 1), .str d.name (s₁.toks + 1 + 1)] }) h'.objs.size s₁.gens.size := ⟨_, _, _, Heap.get?_push_size _ rfl, rfl, rfl, rfl⟩
      refine wpAny_pyIter_gen hgen ?_
      have hGs : Grow C [] s₁ { heap := h'.push { cls := .type "generator", data := .fields #[.int s₁.gens.size 0, .str d.name (s₁.toks + 1), .str d.name (s₁.toks + 1 + 1)] }, gens := s₁.gens.push (.fresh (.func d.body (newEnv d.scope s₁.heap.objs.size mainGlobals [] (d.name ++ ".<locals>.") (some a) code' none builtinsNs))), drawn := s₁.drawn, toks := s₁.toks + 1 + 1 + 1, os := s₁.os } :=
        ⟨fun q o _ _ eo => hk2 q o eo, fun q o eo => ⟨o, hk2 q o eo⟩, rfl, by simp, fun j hj => by
          show (s₁.gens.push _)[j]? = _
          rw [Array.getElem?_push, if_neg (Nat.ne_of_lt hj)]⟩
      have hbare : AllBare (s₁.gens.push (.fresh (.func d.body (newEnv d.scope s₁.heap.objs.size mainGlobals [] (d.name ++ ".<locals>.") (some a) code' none builtinsNs)))) := S₁.bare.push rfl
      have R2 := (R1.grow g₁ S₁).outs (Y := []) (s' := { heap := h'.push { cls := .type "generator", data := .fields #[.int s₁.gens.size 0, .str d.name (s₁.toks + 1), .str d.name (s₁.toks + 1 + 1)] }, gens := s₁.gens.push (.fresh (.func d.body (newEnv d.scope s₁.heap.objs.size mainGlobals [] (d.name ++ ".<locals>.") (some a) code' none builtinsNs))), drawn := s₁.drawn, toks := s₁.toks + 1 + 1 + 1, os := s₁.os })
        (ex' := h'.objs.size :: s₁.heap.objs.size :: ex) (fun q o _ eo => hk2 q o eo) (fun _ h => nomatch h) (fun _ h => nomatch h) (fun t ht => .tail _ (.tail _ (R1.tabex t ht))) (fun q hq => by
          simp only [List.mem_cons] at hq
          rcases hq with rfl | rfl | hq
          · exact .inr hI0
          · exact .inr hL0
          · exact .inl hq) (fun q hq => by
          simp only [List.mem_cons] at hq
          rcases hq with rfl | rfl | hq
          · exact ⟨_, Heap.get?_push_size _ rfl⟩
          · obtain ⟨o, _, _, e1, _⟩ := hns; exact ⟨o, Heap.get?_push_of_some _ e1⟩
          · obtain ⟨o, eo⟩ := S₁.there q (List.mem_append_right _ hq); exact ⟨o, hk2 q o eo⟩) hbare
      have hI := g₁.fresh hI0
      have hL := g₁.fresh hL0
      let D : GD0 := ⟨C, env, c, wr, ex, X, s, A, h'.objs.size, s₁.heap.objs.size, s₁.gens.size, escGo 0 false x.cps.toList, tg, fun l => evSs F W bm l, r, loc'⟩
      have S : GS D := ⟨hI, hL, Nat.ne_of_gt hLI, g₁.gsize, R1.tabex, R.st, RM.hh, RM.here⟩
      exact gen_loop (D := D) S EO RM hw hT hb (fun _ => rfl) H (fun f s' h => h) (gen_start (D := D) S rfl GD.body KE hgl hbi GD.en hlo hok.1 rfl hv (hns.keeps fun q o eo => Heap.get?_push_of_some _ eo) (by rfl) ((g₁.weak0 (X := X)).trans' hGs.weak0) (fun a ha => .inl (hX1 a ha)) hgen R2 (Array.getElem?_push_size ..))
    · cases hxs
  | _ => simp [genV] at hxs
end
end Mine

-- K1
namespace Mine
open PySem PySem.Spec PySem.Calls PyProof.Rows PySem.W

section
variable {C : Cx} {k W : Nat} {F : Orc}

/-- a call of a closure without cells of its own -/
theorem clos_entry {ci : CC} {fa : Addr} {o : Obj} {fd : FuncData} {body : List Stmt} {pn : List Str} {vs : List Value} {args : List PyData} {as ex Xd : List Addr} {loc0 : Loc} {s : Shared} {A : Around} {Q E : Value → Shared → Prop} {wr : List Str}
    (RM : Room A (k + 1)) (S : St C (Xd ++ ex) s) (ho : s.heap.get? fa = some o) (hdata : o.data = .func fd) (hcode : s.heap.CodeRec fd.code fd.qualname) (hbody : fd.body = .stmts body) (hgl : fd.globals = mainGlobals) (hbi : fd.builtins = builtinsNs)
    (hkd : fd.scope.kind = .function) (hco : fd.scope.isCoroutine = false) (hgen : fd.scope.isGenerator = false) (hsc : ci.sc = fd.scope) (hnc : ∀ x ∈ fd.scope.names, x.2 ≠ .cell) (htb : TbOk ci.tb)
    (hbind : bindArgs fd ⟨vs, []⟩ = pure (pn.zip vs)) (hpl : ∀ x ∈ pn, fd.scope.names.lookup x = some .local) (hpn : pn.Nodup) (hlen : vs.length = pn.length) (hargs : ReadsAll (Fz s.heap (Xd ++ ex)) vs args as)
    (hfree : ∀ x, fd.scope.names.lookup x = some .free → ∃ a, fd.closure.lookup x = some a) (happ : ∀ x y a, fd.closure.lookup x = some a → fd.closure.lookup y = some a → x = y) (hheld : ∀ x a, fd.closure.lookup x = some a → ∃ v, s.heap.IsCell a v)
    (hwr : ∀ x ∈ wr, fd.scope.names.lookup x = some .local) (hXt : ∀ a ∈ Xd, ¬ isTab C a) (hXe : ∀ a ∈ Xd, a ∉ ex) (htx : ∀ t ∈ C.tabs, t.P ∈ ex)
    (hloc : ∀ p ∈ ci.tb, ∀ mv, loc0[p.2]? = some (some mv) → (∃ (i : Nat) (d : PyData), pn[i]? = some p.1 ∧ args[i]? = some d ∧ mv = .dat d) ∨ (∃ a v, fd.closure.lookup p.1 = some a ∧ fd.scope.names.lookup p.1 = some .free ∧ s.heap.IsCell a (some v) ∧ MVok (Fz s.heap (Xd ++ ex)) s.heap Xd v mv))
    (hown : ∀ p ∈ ci.tb, ∀ q ∈ ci.tb, p.2 ≠ q.2 → ∀ l l', loc0[p.2]? = some (some (.own l)) → loc0[q.2]? ≠ some (some (.own l')))
    (h : ∀ env s₁ E', EnvOk env ci → env.cells = fd.closure → Grow C [] s s₁ → s.heap.get? env.locals = none → Rel C env ci.tb wr ex (env.locals :: Xd) loc0 s₁ → wpAny C.M (A.deeper env) (execs body env) (fun f s' => Q (match f with | .ret v => v | _ => .none) s') E' s₁) :
    wpAny C.M A (call (.ref fa) vs []) Q E s := by
  have hL := get?_size s.heap
  have hpush : ∀ o : Obj, Sub s.heap (s.heap.push o) := fun o _ _ e => Heap.get?_push_of_some _ e
  have hz1 : (pn.zip vs).map (·.1) = pn := by rw [List.map_fst_zip]; omega
  refine wpAny_call (codeAny_call_function RM.here ho hdata hco hgen hbody hcode ?_)
  rw [hbind]
  refine wpAny_pure (wpAny_newFunctionEnv hnc (fun y hy => hpl _ (by rw [← hz1]; exact List.mem_map.mpr ⟨y, hy, rfl⟩)) (fun h' hns hsb => ?_) hkd)
  have hk1 : Sub s.heap h' := fun p o eo => hsb.extBut p o (Nat.ne_of_lt (Heap.lt_size eo)) (hpush _ _ _ eo)
  refine ⟨(S.gd.nolimit.keeps fz_sub).keeps hk1, codeAny_func ?_⟩
  have hLo : ∃ o, h'.get? s.heap.objs.size = some o := by obtain ⟨o, _, _, e, _⟩ := hns; exact ⟨o, e⟩
  obtain ⟨oL, hoL⟩ := hLo
  have hfz : Sub (Fz s.heap (Xd ++ ex)) (Fz h' (s.heap.objs.size :: (Xd ++ ex))) := fz_hid hk1 hL
  have hG : Grow C [] s { s with heap := h', toks := s.toks + (pn.zip vs).length } := Grow.sub hk1
  refine h _ _ _ ⟨hgl, hbi, fun x kd hx => .inl (hsc ▸ hx), fun x hx => ?_⟩ rfl hG hL ⟨htb, hkd, S.hid hk1 hL hoL _, .head _, ⟨_, hns⟩, htx, ?_, ?_, happ, ?_, ?_, ?_, ?_⟩
  · have hx' : fd.scope.names.lookup x = some .cell ∨ fd.scope.names.lookup x = some .free := hx
    rcases hx' with hx' | hx'
    · exact absurd rfl (hnc _ (mem_lookup hx'))
    · exact hfree x hx'
  · intro a ha
    rcases List.mem_cons.mp ha with rfl | ha
    · rintro ⟨t, ht, e⟩
      obtain ⟨o, ho⟩ := S.there _ (S.tabx t ht)
      have : s.heap.get? s.heap.objs.size = some o := by rw [e] at ho; exact ho
      rw [hL] at this; cases this
    · exact hXt a ha
  · intro a ha hb
    rcases List.mem_cons.mp ha with rfl | ha
    · obtain ⟨o, ho⟩ := S.there _ (List.mem_append_right _ hb)
      have : s.heap.get? s.heap.objs.size = some o := ho
      rw [hL] at this; cases this
    · exact hXe a ha hb
  · intro x a hx
    obtain ⟨v, o, e1, e2⟩ := hheld x a hx
    exact ⟨v, o, hk1 _ _ e1, e2⟩
  · intro x hx; exact .inl (hwr x hx)
  · intro p hp mv hm
    rcases hloc p hp mv hm with ⟨i, d, h1, h2, rfl⟩ | ⟨a, v, h1, h2, h3, h4⟩
    · obtain ⟨v, bs, hv, rv⟩ := readsAll_get hargs i d h2
      refine ⟨v, .inl ⟨hpl _ (List.mem_of_getElem? h1), _, hns, ?_⟩, bs, Reads.keeps hfz rv⟩
      have hmem : (p.1, v) ∈ pn.zip vs := List.mem_of_getElem? (i := i) (by rw [List.getElem?_zip_eq_some]; exact ⟨h1, hv⟩)
      have hnd : (((pn.zip vs).reverse).map (·.1)).Nodup := by rw [List.map_reverse, hz1]; unfold List.Nodup; rw [List.pairwise_reverse]; exact hpn.imp fun h => Ne.symm h
      exact lookup_uniq hnd (List.mem_reverse.mpr hmem)
    · obtain ⟨o, e1, e2⟩ := h3
      exact ⟨v, .inr ⟨.inr h2, a, h1, o, hk1 _ _ e1, e2⟩, h4.up hfz (fun _ h => .tail _ h) fun a o _ e _ => hk1 _ _ e⟩
  · intro p hp q hq hn l l' b h1 h2
    exact absurd h2 (hown p hp q hq hn l l' h1)
end
end Mine

-- K2
namespace Mine
open PySem PySem.Spec PySem.Calls PyProof.Rows PySem.W

section
variable {C : Cx} {env : Env} {tb : List (Str × Nat)} {wr : List Str} {ex X : List Addr} {loc : Loc} {s : Shared} {A : Around} {E : Value → Shared → Prop} {k : Nat}

theorem Rel.builtinsAt (R : Rel C env tb wr ex X loc s) {t : Tab} (ht : t ∈ C.tabs) : s.heap.BuiltinsAt C.mg t.P := by
  obtain ⟨bm, ob, b1, b2, b3, b4, b5, b6⟩ := R.st.gd.bmain
  have hP := List.mem_append_right X (R.tabex t ht)
  refine ⟨bm, ob, b1, b2, fun e => ?_, fun e => (fz_iff.mp b3).2 (e ▸ hP), fz_sub _ _ b3, b4, b5, b6⟩
  obtain ⟨o, es, ep, e1, e2, _⟩ := R.st.gd.g
  rw [e, e1] at b3; cases b3; rw [e2] at b6; cases b6

theorem Rel.gP (R : Rel C env tb wr ex X loc s) {t : Tab} (ht : t ∈ C.tabs) : mainGlobals ≠ t.P := fun e => by
  obtain ⟨o, es, ep, e1, e2, _⟩ := R.st.gd.g
  exact (fz_iff.mp e1).2 (e ▸ List.mem_append_right X (R.tabex t ht))

theorem def_stmt {t : Tab} {name : Str} {params : Arguments} {body : List Stmt} {scope : Scope} {pos : Pos} {clos : List (Str × Addr)} {i : Nat} {Q : Flow → Shared → Prop} (R : Rel C env tb wr ex X loc s) (ht : t ∈ C.tabs) (hu : ∀ t' ∈ C.tabs, t'.P = t.P → t' = t) (hgl : env.globals = mainGlobals) (hcode : env.code = .ref t.c)
    (hx : tb.lookup name = some i) (hw : name ∈ wr) (hqual : qualnameIn env name name = t.qual) (hl : (pos.line : Int) = t.line) (hc : (pos.col : Int) = t.col) (hd0 : params.defaults = []) (hk0 : params.kw_defaults = []) (ha : annTrees params none env = []) (hcl : closureFor scope env = pure clos)
    (h : ∀ f c' ctv doc pm s', Grow C X s s' → s.heap.get? f = none → (Fz s'.heap (X ++ ex)).get? f = some (fnMade name t.qual params body scope clos doc pm c' ctv) → (Fz s'.heap (X ++ ex)).CodeRec (.ref c') t.qual → Rel C env tb wr ex X (loc.set i none) s' → Holds env s'.heap name (.ref f) → Q .next s') :
    wpAny C.M A (exec (.FunctionDef name params body [] none [] scope none name pos) env) Q E s := by
  refine nestDef_K hd0 hk0 ha ?_
  rw [hqual]
  have hPx : t.P ∈ X ++ ex := List.mem_append_right X (R.tabex t ht)
  have hH := (R.st.gd.heads t ht).keeps fz_sub
  obtain ⟨ps, hP, hps⟩ := R.st.tab t ht
  -- what the name's binding leaves
  have fin : ∀ (f : Addr) (c' : Addr) (ctv doc pm : Value) (h₂ : Heap) (tk : Nat), s.heap.get? f = none → (∀ b o, b ≠ t.P → s.heap.get? b = some o → h₂.get? b = some o) → h₂.get? f = some (fnMade name t.qual params body scope clos doc pm c' ctv) → (Fz h₂ (X ++ ex)).CodeRec (.ref c') t.qual →
      (∃ ps', h₂.get? t.P = some (tabObj ps') ∧ (ps' = #[] ∨ ∃ c'', ps' = #[rawInt t.line, rawInt t.col, .ref c''] ∧ (Fz h₂ (X ++ ex)).CodeRec (.ref c'') t.qual)) →
      wpAny C.M A (storeName env name (.ref f)) (fun _ s'' => Q .next s'') E { s with heap := h₂, toks := tk } := by
    intro f c' ctv doc pm h₂ tk hf hk hfo hrec ⟨ps', hP', hps'⟩
    have hfz : Sub (Fz s.heap (X ++ ex)) (Fz h₂ (X ++ ex)) := fz_mono (fun b o hb e => hk b o (fun e' => hb (e' ▸ hPx)) e) fun _ _ hb _ => hb
    have g : Grow C [] s { s with heap := h₂, toks := tk } := ⟨fun b o _ hn e => hk b o (fun e' => hn ⟨t, ht, e'.symm⟩) e, fun b o e => by
      by_cases hb : b = t.P
      · exact ⟨_, hb ▸ hP'⟩
      · exact ⟨o, hk b o hb e⟩, rfl, Nat.le_refl _, fun _ _ => rfl⟩
    have S₂ : St C (X ++ ex) { s with heap := h₂, toks := tk } := by
      refine ⟨R.st.gd.keeps hfz, R.st.tabx, fun b hb => ?_, fun t' ht' => ?_, R.st.bare⟩
      · obtain ⟨o, e⟩ := R.st.there b hb; exact g.alive b o e
      · by_cases hp : t'.P = t.P
        · have := hu t' ht' hp; subst this; exact ⟨ps', hP', hps'⟩
        · obtain ⟨qs, q1, q2⟩ := R.st.tab t' ht'
          refine ⟨qs, hk _ _ hp q1, q2.imp id ?_⟩
          rintro ⟨c3, e, hc3⟩
          exact ⟨c3, e, hc3.keeps hfz⟩
    have R₂ := R.grow g S₂
    have hfx : f ∉ X ++ ex := fun hm => by obtain ⟨o, e⟩ := R.st.there f hm; rw [hf] at e; cases e
    refine store_gen R₂ hx hw (om := none) (fun mv e => by cases e) (fun l e => by cases e) fun s₃ g₃ R₃ hh => ?_
    have hz3 := g₃.fz (fun b hb => List.mem_append_left ex hb) R₂.st.tabx
    exact h f c' ctv doc pm s₃ ((g.weak0 (X := X)).trans' g₃) hf (hz3 _ _ (fz_iff.mpr ⟨hfo, hfx⟩)) (hrec.keeps hz3) R₃ hh
  rcases hps with rfl | ⟨c', rfl, hrec⟩
  · refine makeFunction_K (mg := C.mg) hcl hgl (R.st.gd.g.keeps fz_sub) hcode hH hP (by first | trivial | decide | simp [TriplesOk]) rfl (R.gP ht) (R.builtinsAt ht) fun c' ctv doc h' tk hxb hge hlt hrec htb => ?_
    have hnf := get?_size h'
    have hf0 : s.heap.get? h'.objs.size = none := Heap.get?_none_of_le (Nat.le_trans hge (Nat.le_of_lt hlt))
    have hc0 : s.heap.get? c' = none := Heap.get?_none_of_le hge
    have hcx : c' ∉ X ++ ex := fun hm => by obtain ⟨o, e⟩ := R.st.there c' hm; rw [hc0] at e; cases e
    have hrec' : ∀ ob : Obj, (Fz (h'.push ob) (X ++ ex)).CodeRec (.ref c') t.qual := fun ob => by
      obtain ⟨c2, oc, vs, tt, e1, e2, e3⟩ := hrec
      cases e1
      exact ⟨c', oc, vs, tt, rfl, fz_iff.mpr ⟨Heap.get?_push_of_some _ e2, hcx⟩, e3⟩
    refine fin h'.objs.size c' ctv doc _ _ tk hf0 (fun b o hb e => Heap.get?_push_of_some _ (hxb b o hb e)) (Heap.get?_push_size _ rfl) (hrec' _) ⟨_, Heap.get?_push_of_some _ htb, .inr ⟨c', ?_, hrec' _⟩⟩
    rw [hl, hc]; rfl
  · refine makeFunction_hit (mg := C.mg) (cv := .ref c') hcl hgl (R.st.gd.g.keeps fz_sub) hcode hH hP (by first | trivial | decide | simp [TriplesOk]) ?_ (R.builtinsAt ht) fun ctv doc h' tk hk hsz => ?_
    · show codeAmong pos [rawInt t.line, rawInt t.col, .ref c'] = _
      rw [← hl, ← hc]
      exact codeAmong_snoc [] trivial rfl
    · have hf0 : s.heap.get? h'.objs.size = none := Heap.get?_none_of_le hsz
      have hsub : ∀ ob : Obj, Sub s.heap (h'.push ob) := fun ob b o e => Heap.get?_push_of_some _ (hk b o e)
      have hfz : ∀ ob : Obj, Sub (Fz s.heap (X ++ ex)) (Fz (h'.push ob) (X ++ ex)) := fun ob => fz_mono (fun b o _ e => hsub ob b o e) fun _ _ hb _ => hb
      exact fin h'.objs.size c' ctv doc _ _ tk hf0 (fun b o _ e => hsub _ b o e) (Heap.get?_push_size _ rfl) (hrec.keeps (hfz _)) ⟨_, hsub _ _ _ hP, .inr ⟨c', rfl, hrec.keeps (hfz _)⟩⟩
end
end Mine

-- K3
namespace Mine
open PySem PySem.Spec PySem.Calls PyProof.Rows PySem.W

/-! ## _digits2int -/
noncomputable def d2iGo (ds : List Int) (n : Int) : Nat → Nat → Nat → Option Int
  | 0, _, _ => none
  | f + 1, L, R => if L + 1 = R then ds[L]? else
      if L < R then (d2iGo ds n f ((L + R) / 2) R).bind fun a => (d2iGo ds n f L ((L + R) / 2)).bind fun b =>
        if mulOk (((L + R) / 2 : Nat) - (L : Nat) : Int) n && decide (0 ≤ (((L + R) / 2 : Nat) - (L : Nat) : Int) * n) && decide ((bits a : Int) + (((L + R) / 2 : Nat) - (L : Nat) : Int) * n ≤ 2 ^ 27) then
          some (a * 2 ^ ((((L + R) / 2 : Nat) - (L : Nat) : Int) * n).toNat + b) else none
      else none

structure InnerFn (C : Cx) (ci : CC) (params : Arguments) (pn : List Str) (scope : Scope) (dn : Str) : Prop where
  kind : scope.kind = .function
  co : scope.isCoroutine = false
  gen : scope.isGenerator = false
  sc : ci.sc = scope
  nocell : ∀ x ∈ scope.names, x.2 ≠ .cell
  tb : TbOk ci.tb
  bind : ∀ name qual body clos doc pm cdv ctv vs, vs.length = pn.length → bindArgs (fnX name qual params body scope clos .none .none doc pm none cdv ctv) ⟨vs, []⟩ = pure (pn.zip vs)
  pl : ∀ x ∈ pn, scope.names.lookup x = some .local
  pnd : pn.Nodup
  free : ∀ x, scope.names.lookup x = some .free ↔ x = "inner" ∨ x = "n" ∨ x = dn

theorem wpAny_execs_append {M : Model} {A : Around} {E : Value → Shared → Prop} {env : Env} {s : Shared} {Q : Flow → Shared → Prop} {a b : List Stmt}
    (h : wpAny M A (execs a env) (fun f s' => match f with | .next => wpAny M A (execs b env) Q E s' | f => Q f s') E s) : wpAny M A (execs (a ++ b) env) Q E s := by
  intro Γ p hΓ
  have h1 := h Γ p hΓ
  clear h
  induction a generalizing p s with
  | nil => exact h1 Γ p hΓ
  | cons st r ih =>
    rw [List.cons_append, execs_cons, Sem.wp_bind']
    rw [execs_cons, Sem.wp_bind'] at h1
    refine Sem.wp_mono M Γ _ (fun f p' s' h' => ?_) (fun _ _ _ h' => h') _ _ h1
    cases f with
    | next => exact ih p' h'
    | _ => exact h'

/-- a closure named inner -/
structure IFn where
  C : Cx
  ci : CC
  params : Arguments
  pn : List Str
  scope : Scope
  dn : Str
  body : List Stmt
  qual : Str
  clos : List (Str × Addr)
  doc : Value
  pm : Value
  ctv : Value
  c' : Addr
  fa : Addr
  cd : Addr
  cn : Addr
  cf : Addr
  n : Int
  tn : Tok
  wr : List Str
noncomputable abbrev IFn.obj (D : IFn) : Obj := fnMade "inner" D.qual D.params D.body D.scope D.clos D.doc D.pm D.c' D.ctv
noncomputable abbrev noO : Orc := fun _ _ => none
structure IOk (D : IFn) : Prop where
  fn : InnerFn D.C D.ci D.params D.pn D.scope D.dn
  d : D.clos.lookup D.dn = some D.cd
  n : D.clos.lookup ("n" : Str) = some D.cn
  i : D.clos.lookup ("inner" : Str) = some D.cf
  nd : ∀ x y a, D.clos.lookup x = some a → D.clos.lookup y = some a → x = y
  cl : ∀ x a, D.clos.lookup x = some a → x = "inner" ∨ x = "n" ∨ x = D.dn
  ok : ∀ k, Ok D.C k noO D.ci
  wr : Wr D.ci D.wr
  loc : ∀ x ∈ D.wr, D.scope.names.lookup x = some .local
structure ISt (D : IFn) (dv : Value) (ex : List Addr) (s : Shared) : Prop where
  fo : (Fz s.heap ex).get? D.fa = some D.obj
  rc : (Fz s.heap ex).CodeRec (.ref D.c') D.qual
  c1 : s.heap.IsCell D.cd (some dv)
  c2 : s.heap.IsCell D.cn (some (.int D.n D.tn))
  c3 : s.heap.IsCell D.cf (some (.ref D.fa))
theorem ok_nil {C : Cx} {c : CC} {k : Nat} (hfn : c.fns = []) (hco : c.consts = []) (hbi : ∀ n ∈ biNames, C.mg n = none) : Ok C k noO c :=
  ⟨fun i x h => (by rw [hfn] at h; cases h), hbi, fun i h => (by rw [hfn] at h; cases h), fun x d h => (by rw [hco] at h; cases h)⟩

section
variable {D : IFn} {Y ex X' : List Addr} {s s' : Shared} {A : Around} {env : Env} {dv : Value} {k : Nat} {loc loc' : Loc}
theorem ISt.up {ex' : List Addr} (T : ISt D dv ex s) (h : Sub (Fz s.heap ex) (Fz s'.heap ex') ∧ ∀ a v, s.heap.IsCell a v → s'.heap.IsCell a v) : ISt D dv ex' s' := ⟨h.1 _ _ T.fo, T.rc.keeps h.1, h.2 _ _ T.c1, h.2 _ _ T.c2, h.2 _ _ T.c3⟩
theorem stay {C : Cx} (S : St C (Y ++ ex) s) (hY : ∀ a ∈ Y, ∀ v, ¬ s.heap.IsCell a v) (g : Grow C Y s s') (hX : ∀ a ∈ X', a ∈ Y ∨ s.heap.get? a = none) : Sub (Fz s.heap (Y ++ ex)) (Fz s'.heap (X' ++ ex)) ∧ ∀ a v, s.heap.IsCell a v → s'.heap.IsCell a v := by
  refine ⟨fz_mono (fun b o hb e => g.keep b o (fun h => hb (List.mem_append_left _ h)) (fun ⟨t, ht, e'⟩ => hb (e' ▸ S.tabx t ht)) e) fun b o hb e hb' => ?_, fun a v h => ?_⟩
  · refine (List.mem_append.mp hb').elim (fun h => (hX b h).elim (fun h => hb (List.mem_append_left _ h)) fun h => ?_) fun h => hb (List.mem_append_right _ h)
    rw [h] at e; cases e
  · obtain ⟨o, e1, e2⟩ := id h
    exact ⟨o, g.keep a o (fun hm => hY a hm v h) (tab_ne S e1 (by rw [e2]; nofun)) e1, e2⟩
/-- a free name of it -/
theorem IOk.kind (H : IOk D) (EO : EnvOk env D.ci) {x : Str} (hx : x = "inner" ∨ x = "n" ∨ x = D.dn) : env.kindOf x = some .cell ∨ env.kindOf x = some .free :=
  (EO.kinds x .free (by rw [H.fn.sc]; exact (H.fn.free _).mpr hx)).elim .inr fun h => .inl h.2
theorem IOk.holds (H : IOk D) (EO : EnvOk env D.ci) (hc : env.cells = D.clos) {x : Str} {c : Addr} {v : Value} {h : Heap} (hx : D.clos.lookup x = some c) (i : h.IsCell c (some v)) : Holds env h x v := .inr ⟨H.kind EO (H.cl x c hx), c, by rw [hc]; exact hx, i⟩
theorem inner_entry (H : IOk D) {vs : List Value} {args : List PyData} {as : List Addr} {Q E : Value → Shared → Prop} (RM : Room A (k + 1)) (S : St D.C (Y ++ ex) s) (T : ISt D dv (Y ++ ex) s) (hlen : vs.length = D.pn.length) (hargs : ReadsAll (Fz s.heap (Y ++ ex)) vs args as)
    (hYt : ∀ a ∈ Y, ¬ isTab D.C a) (hYe : ∀ a ∈ Y, a ∉ ex) (htx : ∀ t ∈ D.C.tabs, t.P ∈ ex)
    (hloc : ∀ p ∈ D.ci.tb, ∀ mv, loc[p.2]? = some (some mv) → (∃ (i : Nat) (d : PyData), D.pn[i]? = some p.1 ∧ args[i]? = some d ∧ mv = .dat d) ∨ (p.1 = D.dn ∧ MVok (Fz s.heap (Y ++ ex)) s.heap Y dv mv) ∨ (p.1 = ("n" : Str) ∧ mv = .dat (.int D.n)))
    (hown : ∀ p ∈ D.ci.tb, ∀ q ∈ D.ci.tb, p.2 ≠ q.2 → ∀ l l', loc[p.2]? = some (some (.own l)) → loc[q.2]? ≠ some (some (.own l')))
    (h : ∀ env s₁ E', EnvOk env D.ci → env.cells = D.clos → Grow D.C [] s s₁ → s.heap.get? env.locals = none → Rel D.C env D.ci.tb D.wr ex (env.locals :: Y) loc s₁ → wpAny D.C.M (A.deeper env) (execs D.body env) (fun f s' => Q (match f with | .ret v => v | _ => .none) s') E' s₁) :
    wpAny D.C.M A (call (.ref D.fa) vs []) Q E s := by
  have held : ∀ x a, D.clos.lookup x = some a → ∃ v, s.heap.IsCell a (some v) := fun x a hx => by
    rcases H.cl x a hx with h | h | h <;> rw [h] at hx
    · rw [H.i] at hx; cases hx; exact ⟨_, T.c3⟩
    · rw [H.n] at hx; cases hx; exact ⟨_, T.c2⟩
    · rw [H.d] at hx; cases hx; exact ⟨_, T.c1⟩
  refine clos_entry (ci := D.ci) (pn := D.pn) RM S (fz_sub _ _ T.fo) rfl (T.rc.keeps fz_sub) rfl rfl rfl H.fn.kind H.fn.co H.fn.gen H.fn.sc H.fn.nocell H.fn.tb (H.fn.bind _ _ _ _ _ _ _ _ _ hlen) H.fn.pl H.fn.pnd hlen hargs (fun x hx => ?_) H.nd (fun x a hx => let ⟨v, i⟩ := held x a hx; ⟨_, i⟩) H.loc hYt hYe htx
    (fun p hp mv hm => (hloc p hp mv hm).imp id fun h => h.elim (fun h => ⟨D.cd, dv, h.1 ▸ H.d, (H.fn.free _).mpr (.inr (.inr h.1)), T.c1, h.2⟩) fun h => ⟨D.cn, _, h.1 ▸ H.n, (H.fn.free _).mpr (.inr (.inl h.1)), T.c2, h.2 ▸ ⟨[], .int _ _⟩⟩) hown h
  exact ((H.fn.free x).mp hx).elim (fun h => ⟨_, h ▸ H.i⟩) fun h => h.elim (fun h => ⟨_, h ▸ H.n⟩) fun h => ⟨_, h ▸ H.d⟩
/-- within its body -/
structure IIn (D : IFn) (Y ex : List Addr) (env : Env) (s : Shared) (X' : List Addr) (loc : Loc) (s' : Shared) : Prop where
  g : Grow D.C Y s s'
  fr : ∀ a ∈ X', a ∈ Y ∨ s.heap.get? a = none
  R : Rel D.C env D.ci.tb D.wr ex X' loc s'
theorem IIn.start (g : Grow D.C [] s s') (hL : s.heap.get? env.locals = none) (R : Rel D.C env D.ci.tb D.wr ex (env.locals :: Y) loc s') : IIn D Y ex env s (env.locals :: Y) loc s' :=
  ⟨g.weak0, List.forall_mem_cons.mpr ⟨.inr hL, fun _ h => .inl h⟩, R⟩
theorem IIn.next (J : IIn D Y ex env s X' loc s') {X'' : List Addr} {s'' : Shared} (g : Grow D.C X' s' s'') (hX : ∀ a ∈ X'', a ∈ X' ∨ s'.heap.get? a = none) (R : Rel D.C env D.ci.tb D.wr ex X'' loc' s'') : IIn D Y ex env s X'' loc' s'' :=
  ⟨J.g.trans g J.fr, fun a ha => (hX a ha).elim (J.fr a) fun e => .inr (J.g.fresh e), R⟩
theorem IIn.grow (J : IIn D Y ex env s X' loc s') {s'' : Shared} (g : Grow D.C [] s' s'') (S : St D.C (X' ++ ex) s'') : IIn D Y ex env s X' loc s'' := ⟨J.g.trans' g.weak0, J.fr, J.R.grow g S⟩
theorem IIn.stay (J : IIn D Y ex env s X' loc s') (S : St D.C (Y ++ ex) s) (hY : ∀ a ∈ Y, ∀ v, ¬ s.heap.IsCell a v) : Sub (Fz s.heap (Y ++ ex)) (Fz s'.heap (X' ++ ex)) ∧ ∀ a v, s.heap.IsCell a v → s'.heap.IsCell a v := Mine.stay S hY J.g J.fr
/-- some of its statements -/
theorem IIn.run (H : IOk D) (EO : EnvOk env D.ci) (RD : Room A k) (J : IIn D Y ex env s X' loc s') {n : Nat} {sts rest : List Stmt} {ms : List MS} {fr : MF} {Q : Flow → Shared → Prop} {E : Value → Shared → Prop} (hc : cSs n D.ci sts = some ms) (ev : evSs noO 0 ms loc = some (fr, loc'))
    (h : ∀ X'' s'', IIn D Y ex env s X'' loc' s'' → match (generalizing := false) fr with
      | .next => wpAny D.C.M A (execs rest env) Q E s''
      | .ret d => ∀ v as, Reads (Fz s''.heap (X'' ++ ex)) v d as → Q (.ret v) s'') : wpAny D.C.M A (execs (sts ++ rest) env) Q E s' := by
  refine wpAny_execs_append ((sndS_all (F := noO) (k := k) (W := 0) n).ss D.ci _ _ (H.ok k) hc env _ ex X' _ s' _ _ _ fr _ EO RD H.wr J.R ev fun X2 s2 g2 hX2 R2 => ?_)
  have hh := h X2 s2 (J.next g2 hX2 R2)
  cases fr with
  | next => exact hh
  | ret d => exact hh
/-- a call of itself -/
theorem inner_ev (H : IOk D) (EO : EnvOk env D.ci) (hcells : env.cells = D.clos) (RD : Room A k) (J : IIn D Y ex env s X' loc s') (T : ISt D dv (X' ++ ex) s') {es : List Expr} {ms : List ME} {ds : List PyData} {p q : Pos} {Q E : Value → Shared → Prop} (hst : es.all notStar = true) (hs : SEs D.C noO k D.ci es ms) (hds : evEs noO loc ms = some ds)
    (h : ∀ vs as s'', IIn D Y ex env s X' loc s'' → ReadsAll (Fz s''.heap (X' ++ ex)) vs ds as → wpAny D.C.M A (call (.ref D.fa) vs []) Q E s'') : wpAny D.C.M A (eval (.Call (.Name "inner" p) es [] q) env) Q E s' := by
  refine wpAny_Call_NameR (wpAny_Name (load_ok J.R.kind (by decide +kernel) (H.holds EO hcells H.i T.c3) ?_) (by decide +kernel))
  refine callWith_function (o := D.obj) (fd := fnX "inner" D.qual D.params D.body D.scope D.clos .none .none D.doc D.pm none (.ref D.c') D.ctv) (evalArgs_all hst (hs env _ ex X' _ s' _ _ _ _ ds EO RD J.R hds fun vs as s2 g2 S2 r2 => ⟨⟨fz_sub _ _ (g2.fz (fun _ h => nomatch h) J.R.st.tabx _ _ T.fo), rfl⟩, h vs as s2 (J.grow g2 S2) r2⟩))
end

noncomputable def tbD : List (Str × Nat) := [("L", 0), ("R", 1), ("mid", 2), ("shift", 3), ("digits", 4), ("n", 5)]
noncomputable def m1D : MS := .ite (.cmp .Eq (.bin .Add (.var 0) (.lit (.int 1))) (.var 1)) [.ret (.subo 4 (.var 0))] []
noncomputable def m2D : MS := .assign 2 (.bin .RShift (.bin .Add (.var 0) (.var 1)) (.lit (.int 1)))
noncomputable def m3D : MS := .assign 3 (.bin .Mult (.bin .Sub (.var 2) (.var 0)) (.var 5))
noncomputable def locD (L R n : Int) (ds : List Int) : Loc := [some (.dat (.int L)), some (.dat (.int R)), none, none, some (.dat (.list (ds.map .int))), some (.dat (.int n))]

theorem ite_some_iff {α : Type} {c : Prop} [Decidable c] {a v : α} : (if c then some a else none) = some v ↔ c ∧ a = v := by
  by_cases h : c <;> simp [h]
theorem seq_nat {L n : Nat} (h : L < n) : seqIndex? (L : Int) n = some L := by
  unfold seqIndex?
  rw [if_neg (show ¬ ((L : Int) < 0) by omega)]
  have : (decide (0 ≤ (L : Int)) && decide ((L : Int) < (n : Int))) = true := by simp; omega
  simp only [this, if_true, Int.toNat_natCast]
theorem add_half (L R : Nat) : ((L : Int) + (R : Int)).fdiv (2 ^ (1 : Int).toNat) = (((L + R) / 2 : Nat) : Int) := by
  rw [show (2 : Int) ^ (1 : Int).toNat = 2 from rfl, Int.fdiv_eq_ediv_of_nonneg _ (by decide)]
  omega
theorem locD_own {L R n : Int} {ds : List Int} {i : Nat} {l : List PyData} (h : (locD L R n ds)[i]? = some (some (.own l))) : False := by
  match i with
  | 0 | 1 | 2 | 3 | 4 | 5 => cases h
  | _ + 6 => cases h

noncomputable def locD2 (L R M S n : Int) (ds : List Int) : Loc := [some (.dat (.int L)), some (.dat (.int R)), some (.dat (.int M)), some (.dat (.int S)), some (.dat (.list (ds.map .int))), some (.dat (.int n))]

theorem ev1D {F : Orc} {W : Nat} {L R : Nat} {n : Int} {ds : List Int} : evS F W m1D (locD L R n ds) = if L + 1 = R then (subV (.list (ds.map .int)) (.int (L : Int))).map fun d => (.ret d, locD L R n ds) else some (.next, locD L R n ds) := by
  show (if ((L : Int) + 1 == (R : Int)) = true then evSs F W [.ret (.subo 4 (.var 0))] (locD L R n ds) else some (.next, locD L R n ds)) = _
  by_cases h : L + 1 = R
  · subst h
    rw [if_pos (show ((L : Int) + 1 == ((L + 1 : Nat) : Int)) = true from beq_self_eq_true ((L : Int) + 1)), if_pos rfl]
    show ((subV (.list (ds.map .int)) (.int (L : Int))).map fun d => (MF.ret d, locD L _ n ds)).bind _ = _
    cases subV (.list (ds.map .int)) (.int (L : Int)) <;> rfl
  · rw [if_neg (show ¬ ((L : Int) + 1 == (R : Int)) = true from fun e => h (Int.ofNat.inj (show ((L + 1 : Nat) : Int) = (R : Int) from eq_of_beq e))), if_neg h]
theorem evs1D {L R f : Nat} {n v : Int} {ds : List Int} (hds : ds.length ≤ 2 ^ 20) (hv : d2iGo ds n (f + 1) L R = some v) : evSs noO 0 [m1D] (locD L R n ds) = some (if L + 1 = R then .ret (.int v) else .next, locD L R n ds) := by
  show (evS noO 0 m1D (locD L R n ds)).bind _ = _
  rw [ev1D]
  rw [d2iGo] at hv
  by_cases h : L + 1 = R
  · rw [if_pos h, if_pos h]
    rw [if_pos h] at hv
    have hlt : L < ds.length := (List.getElem?_eq_some_iff.mp hv).1
    have e : subV (.list (ds.map .int)) (.int (L : Int)) = some (.int v) := by
      show (if (ds.map PyData.int).length ≤ 2 ^ 24 then (seqIndex? (L : Int) (ds.map PyData.int).length).bind ((ds.map PyData.int)[·]?) else none) = _
      rw [List.length_map, if_pos (Nat.le_trans hds (by decide)), seq_nat hlt, Option.bind_some, List.getElem?_map, hv]; rfl
    rw [e]; rfl
  · rw [if_neg h, if_neg h]; rfl
theorem evs23D {L R : Nat} {n : Int} {ds : List Int} (hm : mulOk ((((L + R) / 2 : Nat) : Int) - L) n = true) : evSs noO 0 [m2D, m3D] (locD L R n ds) = some (.next, locD2 L R (((L + R) / 2 : Nat) : Int) (((((L + R) / 2 : Nat) : Int) - L) * n) n ds) := by
  have e2 : evS noO 0 m2D (locD L R n ds) = some (.next, (locD L R n ds).set 2 (some (.dat (.int (((L + R) / 2 : Nat) : Int))))) := by rw [← add_half]; rfl
  refine bindV e2 ?_
  show Option.bind (Option.map _ (Option.bind (some (PyData.int ((((L + R) / 2 : Nat) : Int) - L))) fun a => Option.bind (some (PyData.int n)) fun b => binV .Mult a b)) _ = _
  rw [Option.bind_some, Option.bind_some, show binV .Mult (.int ((((L + R) / 2 : Nat) : Int) - L)) (.int n) = some (.int (((((L + R) / 2 : Nat) : Int) - L) * n)) from if_pos hm]
  rfl
theorem shl_ev {a n : Int} (h : 0 ≤ n) (h1 : n.toNat + bits a ≤ 2 ^ 27) : binV .LShift (.int a) (.int n) = some (.int (a * 2 ^ n.toNat)) := if_pos ⟨h, h1⟩
theorem toNat_le {a : Int} {b m : Nat} (h : 0 ≤ a) (h1 : (b : Int) + a ≤ m) : a.toNat + b ≤ m := by omega
theorem d2iE {ds : List Int} {n v : Int} {f L R : Nat} {P : Prop} (h : ¬ L + 1 = R) (hv : d2iGo ds n (f + 1) L R = some v) (k : ∀ a b, d2iGo ds n f ((L + R) / 2) R = some a → d2iGo ds n f L ((L + R) / 2) = some b → mulOk ((((L + R) / 2 : Nat) : Int) - (L : Nat)) n = true → 0 ≤ ((((L + R) / 2 : Nat) : Int) - (L : Nat)) * n →
    (bits a : Int) + ((((L + R) / 2 : Nat) : Int) - (L : Nat)) * n ≤ (2 ^ 27 : Nat) → a * 2 ^ (((((L + R) / 2 : Nat) : Int) - (L : Nat)) * n).toNat + b = v → P) : P := by
  rw [d2iGo, if_neg h] at hv
  by_cases hl : L < R
  · rw [if_pos hl] at hv
    refine bindE hv fun a ha hv => bindE hv fun b hb hv => ?_
    rw [ite_some_iff, Bool.and_eq_true, Bool.and_eq_true, decide_eq_true_eq, decide_eq_true_eq] at hv
    exact k a b ha hb hv.1.1.1 hv.1.1.2 hv.1.2 hv.2
  · rw [if_neg hl] at hv; cases hv

noncomputable abbrev bodyD (s1 s2' s3' : Stmt) (q : Nat → Pos) : List Stmt := [s1, s2', s3', .Return (some (.BinOp (.BinOp (.Call (.Name "inner" (q 0)) [.Name "mid" (q 1), .Name "R" (q 2)] [] (q 3)) .LShift (.Name "shift" (q 4)) (q 5)) .Add (.Call (.Name "inner" (q 6)) [.Name "L" (q 7), .Name "mid" (q 8)] [] (q 9)) (q 10))) (q 11)]


structure DOk (D : IFn) (s1 s2 s3 : Stmt) (q : Nat → Pos) : Prop where
  ok : IOk D
  pn : D.pn = (["L", "R"] : List Str)
  dn : D.dn = "digits"
  body : D.body = bodyD s1 s2 s3 q
  tb : D.ci.tb = tbD
  c1 : cSs 59 D.ci [s1] = some [m1D]
  c23 : cSs 59 D.ci [s2, s3] = some [m2D, m3D]
/-- what a call of it gives -/
noncomputable def CallD (D : IFn) (ds : List Int) (f : Nat) : Prop := ∀ (L R : Nat) (v : Int), d2iGo ds D.n f L R = some v → ∀ (A : Around) (s : Shared) (ex : List Addr) (dv : Value) (as as' : List Addr) (vs : List Value) (Q E : Value → Shared → Prop), Room A (f + 1) → St D.C ex s → ISt D dv ex s → Reads (Fz s.heap ex) dv (.list (ds.map .int)) as → ReadsAll (Fz s.heap ex) vs [.int (L : Int), .int (R : Int)] as' →
  (∀ t' s', Grow D.C [] s s' → St D.C ex s' → Q (.int v t') s') → wpAny D.C.M A (call (.ref D.fa) vs []) Q E s
section
variable {D : IFn} {s1 s2 s3 : Stmt} {q : Nat → Pos} {ds : List Int} {f : Nat} {ex X' : List Addr} {s s' : Shared} {A : Around} {env : Env} {dv : Value} {as : List Addr} {L R M : Nat} {S : Int}
theorem d2i_self (H : DOk D s1 s2 s3 q) (ih : CallD D ds f) (EO : EnvOk env D.ci) (hcells : env.cells = D.clos) (RD : Room A (f + 1)) (T : ISt D dv ex s) (S0 : St D.C ex s) (hrd : Reads (Fz s.heap ex) dv (.list (ds.map .int)) as) (J : IIn D [] ex env s X' (locD2 L R M S D.n ds) s') {p q1 q2 q3 : Pos} {x y : Str} {i j a b : Nat} {v : Int} {Q E : Value → Shared → Prop}
    (hx : tbD.lookup x = some i) (hy : tbD.lookup y = some j) (ha : (locD2 L R M S D.n ds)[i]? = some (some (.dat (.int (a : Int))))) (hb : (locD2 L R M S D.n ds)[j]? = some (some (.dat (.int (b : Int))))) (hgo : d2iGo ds D.n f a b = some v)
    (h : ∀ t s'', IIn D [] ex env s X' (locD2 L R M S D.n ds) s'' → Q (.int v t) s'') : wpAny D.C.M A (eval (.Call (.Name "inner" p) [.Name x q1, .Name y q2] [] q3) env) Q E s' := by
  have hd : evEs noO (locD2 L R M S D.n ds) [.var i, .var j] = some [.int (a : Int), .int (b : Int)] := bindV (MV.at_of ha rfl) (mapV (bindV (MV.at_of hb rfl) (mapV rfl)))
  refine inner_ev H.ok EO hcells RD J (T.up (J.stay S0 (fun _ h => nomatch h))) rfl (ses_cons rfl (se_var (by rw [H.tb]; exact hx)) (ses_cons rfl (se_var (by rw [H.tb]; exact hy)) ses_nil)) hd fun vs as2 s2 J2 r2 => ?_
  have st := J2.stay S0 fun _ h => nomatch h
  exact ih a b v hgo A s2 (X' ++ ex) dv as as2 vs Q E RD J2.R.st (T.up st) (Reads.keeps st.1 hrd) r2 fun t s3 g3 S3 => h t s3 (J2.grow g3 S3)
theorem inner_d2i (H : DOk D s1 s2 s3 q) (hds : ds.length ≤ 2 ^ 20) : ∀ f, CallD D ds f := by
  intro f
  induction f with
  | zero => intro L R v hv; cases hv
  | succ f ih =>
    intro L R v hv A s ex dv as as' vs Q E RM S T hrd hvs hQ
    refine inner_entry (Y := []) (loc := locD (L : Int) (R : Int) D.n ds) H.ok RM S T (by rw [readsAll_len hvs, H.pn]; rfl) hvs (fun _ h => nomatch h) (fun _ h => nomatch h) S.tabx ?_ ?_ fun env s₁ E' EO hcells g₁ hL R₁ => ?_
    · rw [H.tb, H.pn, H.dn]
      exact List.forall_mem_cons.mpr ⟨fun mv h => .inl ⟨0, _, rfl, rfl, (Option.some.inj (Option.some.inj h)).symm⟩, List.forall_mem_cons.mpr ⟨fun mv h => .inl ⟨1, _, rfl, rfl, (Option.some.inj (Option.some.inj h)).symm⟩, List.forall_mem_cons.mpr ⟨fun mv h => (nomatch Option.some.inj h), List.forall_mem_cons.mpr ⟨fun mv h => (nomatch Option.some.inj h),
        List.forall_mem_cons.mpr ⟨fun mv h => .inr (.inl ⟨rfl, (Option.some.inj (Option.some.inj h)) ▸ ⟨as, hrd⟩⟩), List.forall_mem_cons.mpr ⟨fun mv h => .inr (.inr ⟨rfl, (Option.some.inj (Option.some.inj h)).symm⟩), fun _ h => nomatch h⟩⟩⟩⟩⟩⟩
    · rw [H.tb]
      exact fun p hp q hq hn l l' h => nomatch locD_own h
    · have RD : Room (A.deeper env) (f + 1) := RM.deeper
      rw [H.body]
      refine IIn.run (sts := [s1]) H.ok EO RD (IIn.start g₁ hL R₁) H.c1 (loc' := locD (L : Int) (R : Int) D.n ds) (fr := if L + 1 = R then .ret (.int v) else .next) (evs1D hds hv) fun X2 s2 J2 => ?_
      by_cases hLR : L + 1 = R
      · rw [if_pos hLR]
        intro w bs rw_
        obtain ⟨t, rfl⟩ := inv_int rw_
        exact hQ t s2 J2.g (J2.R.st.show_ (fun b hb => List.mem_append_right _ hb) S.tabx)
      · rw [if_neg hLR]
        refine d2iE hLR hv fun va vb hva hvb hm hp0 hp1 hv => ?_
        generalize hM : (L + R) / 2 = M at *
        refine IIn.run (sts := [_, _]) H.ok EO RD J2 H.c23 (loc' := locD2 L R M (((M : Int) - L) * D.n) D.n ds) (fr := .next) (hM ▸ evs23D (hM ▸ hm)) fun X4 s4 J4 => ?_
        refine wpAny_execs_cons (wpAny_Return_some (wpAny_BinOp (wpAny_BinOp (d2i_self H ih EO hcells RD T S hrd J4 (x := "mid") (y := "R") (i := 2) (j := 1) rfl rfl rfl rfl hva fun t5 s5 J5 => ?_))))
        refine se_var (F := noO) (k := f + 1) (by rw [H.tb]; rfl) env _ ex X4 _ s5 _ _ _ (.int (((M : Int) - L) * D.n)) EO RD J5.R rfl fun w1 as1 s6 g6 S6 r6 => ?_
        obtain ⟨u1, rfl⟩ := inv_int r6
        refine bin_ok S6 (shl_ev hp0 (toNat_le hp0 hp1)) (.int va t5) (.int _ u1) fun w2 as2 s7 g7 S7 r7 => ?_
        obtain ⟨u2, rfl⟩ := inv_int r7
        refine d2i_self H ih EO hcells RD T S hrd ((J5.grow g6 S6).grow g7 S7) (x := "L") (y := "mid") (i := 0) (j := 2) rfl rfl rfl rfl hvb fun t8 s8 J8 => ?_
        refine bin_ok J8.R.st (op := .Add) (x := .int (va * 2 ^ (((M : Int) - L) * D.n).toNat)) (y := .int vb) rfl (.int _ u2) (.int vb t8) fun w9 as9 s9 g9 S9 r9 => ?_
        obtain ⟨u9, rfl⟩ := inv_int r9
        exact hv ▸ hQ u9 s9 (J8.g.trans' g9) (S9.show_ (fun b hb => List.mem_append_right _ hb) S.tabx)
end
end Mine

-- K4
namespace Mine
open PySem PySem.Spec PySem.Calls PyProof.Rows PySem.W

section
variable {C : Cx} {s : Shared} {A : Around} {k : Nat}

/-- a def that makes a closure named inner -/
structure NestDef (C : Cx) (d : DefRec) (t : Tab) : Prop where
  mem : d ∈ C.defs
  ok : DefOk d
  bind : ∀ pm code doc vals, vals.length = (paramsOf d).length → bindArgs (docDef d.name d.params d.body d.scope pm code doc) ⟨vals, []⟩ = pure ((paramsOf d).zip vals)
  tab : t ∈ C.tabs
  uniq : ∀ t' ∈ C.tabs, t'.P = t.P → t' = t
  own : t.own = d.name
  qual : t.qual = d.name ++ ".<locals>." ++ "inner"
  inner : d.scope.names.lookup ("inner" : Str) = some .cell
  bi : ∀ n ∈ biNames, C.mg n = none

theorem nest_code {ex : List Addr} {d : DefRec} {t : Tab} {a : Addr} {o : Obj} {pm code doc : Value} (N : NestDef C d t) (S : St C ex s) (hma : C.mg d.name = some (.ref a)) (ho : (Fz s.heap ex).get? a = some o) (hd : o.data = .func (docDef d.name d.params d.body d.scope pm code doc)) : code = .ref t.c := by
  obtain ⟨a', o', fd, h1, h2, h3, h4⟩ := S.gd.owner t N.tab
  rw [N.own, hma] at h1; cases h1
  rw [ho] at h2; cases h2
  rw [hd] at h3; cases h3
  exact h4

theorem frees_lookup {env : Env} {names : List (Str × NameKind)} {x : Str} {a : Addr} (h : (x, NameKind.free) ∈ names) (e : env.cells.lookup x = some a) : (frees env names []).lookup x = some a := by
  obtain ⟨b, hb⟩ := frees_has (env := env) (acc := []) (.inl h)
  obtain ⟨c, hc⟩ := lookup_of_mem hb
  rcases frees_mem (mem_lookup hc) with h' | ⟨_, h'⟩
  · cases h'
  · rw [e] at h'; rw [hc, h']; rfl
theorem frees_back {env : Env} {names : List (Str × NameKind)} {x : Str} {a : Addr} (hf : ∀ x, (x, NameKind.free) ∈ names → ∃ c, env.cells.lookup x = some c) (h : (frees env names []).lookup x = some a) : (x, NameKind.free) ∈ names ∧ env.cells.lookup x = some a := by
  rcases frees_mem (mem_lookup h) with h' | ⟨h1, h2⟩
  · cases h'
  · obtain ⟨c, hc⟩ := hf x h1
    rw [hc] at h2; exact ⟨h1, by rw [hc, h2]; rfl⟩
theorem holds_cell {env : Env} {h : Heap} {x : Str} {v : Value} (hh : Holds env h x v) (hk : env.kindOf x = some .cell) : ∃ c, env.cells.lookup x = some c ∧ h.IsCell c (some v) := by
  rcases hh with ⟨k, _⟩ | ⟨_, c, l, i⟩
  · rw [hk] at k; cases k
  · exact ⟨c, l, i⟩

noncomputable def args0 (ds : List Int) (n : Int) : Loc := [some (.dat (.list (ds.map .int))), some (.dat (.int n)), none]

theorem params_len {d : DefRec} {l : List Str} (h : paramsOf d = l) : d.params.args.length = l.length := by rw [← h]; exact (List.length_map ..).symm
theorem len_list {ds : List Int} (h : ds.length ≤ 2 ^ 20) : biV 0 [.list (ds.map .int)] = some (.int (ds.length : Nat)) := by
  show (if (ds.map PyData.int).length ≤ 2 ^ 24 then some (PyData.int (ds.map PyData.int).length) else none) = _
  rw [List.length_map, if_pos (Nat.le_trans h (by decide))]
theorem d2i_call {d : DefRec} {t : Tab} {ci : CC} {ip : Arguments} {iscope : Scope} {s1 s2 s3 : Stmt} {q : Nat → Pos} {dp : Pos} {j1 j2 : Nat} {ds : List Int} {n v : Int} {f : Nat} (N : NestDef C d t)
    (I : InnerFn C ci ip ["L", "R"] iscope "digits") (htb : ci.tb = tbD) (hs1 : cSs 59 ci [s1] = some [m1D]) (hs23 : cSs 59 ci [s2, s3] = some [m2D, m3D]) (hwr : Wr ci ["L", "R", "mid", "shift"]) (hds : ds.length ≤ 2 ^ 20) (hln : ∀ x ∈ (["L", "R", "mid", "shift"] : List Str), iscope.names.lookup x = some .local) (hfn : ci.fns = []) (hco : ci.consts = [])
    (hbody : d.body = [.FunctionDef "inner" ip (bodyD s1 s2 s3 q) [] none [] iscope none "inner" dp,
      .Return (some (.IfExp (.Name "digits" (q 20)) (.Call (.Name "inner" (q 21)) [.Constant (.int 0) j1 (q 22), .Call (.Name "len" (q 23)) [.Name "digits" (q 24)] [] (q 25)] [] (q 26)) (.Constant (.int 0) j2 (q 27)) (q 28))) (q 29)])
    (hl : (dp.line : Int) = t.line) (hc : (dp.col : Int) = t.col) (hd0 : ip.defaults = []) (hk0 : ip.kw_defaults = []) (ha : ∀ env, annTrees ip none env = []) (hps : paramsOf d = (["digits", "n"] : List Str)) (hsl : slotsOf d.params d.scope = ([("digits", 0), ("n", 1), ("inner", 2)] : List (Str × Nat))) (hlen : isGlob (ccOf d.params d.scope [] []) "len" = true)
    (hcells : d.scope.names.lookup ("digits" : Str) = some .cell ∧ d.scope.names.lookup ("n" : Str) = some .cell) (hfr : ∀ x, (x, NameKind.free) ∈ iscope.names ↔ x = "inner" ∨ x = "n" ∨ x = "digits")
    (hv : if ds = [] then v = 0 else d2iGo ds n f 0 ds.length = some v) : ∀ a, C.mg d.name = some (.ref a) → CallsTo C (f + 3) (.ref a) [.list (ds.map .int), .int n] (.int v) := by
  intro a hma A s ex vs as Q E RM S hreads hQ
  have hpl := params_len hps
  refine def_entry (N := 3) (fns := []) (consts := []) (k := f + 2) N.mem N.ok N.bind (by rw [hpl]; rfl) hma RM S hreads fun env X s₁ E' o pm code doc ho hdat hce hqe hse EO G1 hX R1 => ?_
  have hcode : env.code = .ref t.c := hce.trans (nest_code N S hma ho hdat)
  rw [hbody]
  have htb0 : (ccOf d.params d.scope [] []).tb = ([("digits", 0), ("n", 1), ("inner", 2)] : List (Str × Nat)) := hsl
  have hkind : ∀ x kd, d.scope.names.lookup x = some kd → env.kindOf x = some kd := fun x kd h => by rw [show env.kindOf x = env.scope.names.lookup x from rfl, hse]; exact h
  have hfree : ∀ x, (x, NameKind.free) ∈ iscope.names → ∃ c, env.cells.lookup x = some c := fun x hx => by
    rcases (hfr x).mp hx with rfl | rfl | rfl
    · exact EO.cells _ (.inl (hkind _ _ N.inner))
    · exact EO.cells _ (.inl (hkind _ _ hcells.2))
    · exact EO.cells _ (.inl (hkind _ _ hcells.1))
  refine wpAny_execs_cons (def_stmt (t := t) (clos := frees env iscope.names []) (i := 2) R1 N.tab N.uniq EO.glob hcode (by rw [htb0]; rfl) (List.mem_map.mpr ⟨("inner", 2), by rw [hsl]; exact .tail _ (.tail _ (.head _)), rfl⟩) ?_ hl hc hd0 hk0 (ha env) (closure_ok hfree) fun fa c' ctv doc' pm' s₂ g₂ hfa hfo hrec R₂ hin => ?_)
  · unfold qualnameIn
    rw [show env.kindOf ("inner" : Str) = some .cell from hkind _ _ N.inner, if_neg (by decide), hqe, N.qual]
  have RD : Room (A.deeper env) (f + 2) := RM.deeper
  have G2 : Grow C [] s s₂ := G1.trans g₂ fun p hp => .inr (hX p hp)
  have hl0 : ((args0 ds n).set 2 none)[0]? = some (some (.dat (.list (ds.map .int)))) := rfl
  have hl1 : ((args0 ds n).set 2 none)[1]? = some (some (.dat (.int n))) := rfl
  have O : Ok C (f + 2) noO (ccOf d.params d.scope [] []) := ok_nil rfl rfl N.bi
  have lk0 : (ccOf d.params d.scope [] []).tb.lookup ("digits" : Str) = some 0 := by rw [htb0]; rfl
  have R₂' : Rel C env (ccOf d.params d.scope [] []).tb ((slotsOf d.params d.scope).map (·.1)) ex X ((args0 ds n).set 2 none) s₂ := by
    have e : ([PyData.list (ds.map .int), PyData.int n].map (fun d => some (MV.dat d)) ++ List.replicate (3 - d.params.args.length) none) = args0 ds n := by rw [hpl]; rfl
    rw [e] at R₂; exact R₂
  clear R₂ R1
  have hlen2 : (ds.map PyData.int).length ≤ 2 ^ 24 := by rw [List.length_map]; omega
  refine wpAny_execs_cons (wpAny_Return_some ?_)
  rw [eval_IfExp]
  refine wpAny_bind (st_plain (C := C) (F := noO) (k := f + 2) rfl (se_var lk0) env _ ex X _ s₂ _ _ _ (.list (ds.map .int)) EO RD R₂' (MV.at_of hl0 rfl) (decide_eq_true hlen2) fun s₃ g₃ S₃ => ?_)
  have R₃ := R₂'.grow g₃ S₃
  have G3 := G2.trans' g₃
  cases ds with
  | nil =>
    rw [if_pos rfl] at hv
    subst hv
    show wpAny _ _ (eval (.Constant (.int 0) j2 (q 27)) env) _ _ _
    refine wpAny_Constant_int ?_
    exact hQ _ [] _ (G3.trans' Grow.toks) ((R₃.st.show_ (fun b hb => List.mem_append_right _ hb) S.tabx).toks _) (.int 0 _)
  | cons d0 dr =>
    rw [if_neg (fun h => nomatch h)] at hv
    show wpAny _ _ (eval (.Call (.Name "inner" (q 21)) [.Constant (.int 0) j1 (q 22), .Call (.Name "len" (q 23)) [.Name "digits" (q 24)] [] (q 25)] [] (q 26)) env) _ _ _
    have hin3 : Holds env s₃.heap "inner" (.ref fa) := hin.keeps fun b o e hd => g₃.obj R₂'.st e hd (fun h => nomatch h)
    have lkR : Rel C env (ccOf d.params d.scope [] []).tb ((slotsOf d.params d.scope).map (·.1)) ex X ((args0 (d0 :: dr) n).set 2 none) s₃ := R₃
    refine wpAny_Call_NameR (wpAny_Name (load_ok R₃.kind (by decide +kernel) hin3 ?_) (by decide +kernel))
    refine callWith_function (o := fnMade "inner" t.qual ip (bodyD s1 s2 s3 q) iscope (frees env iscope.names []) doc' pm' c' ctv) (fd := fnX "inner" t.qual ip (bodyD s1 s2 s3 q) iscope (frees env iscope.names []) .none .none doc' pm' none (.ref c') ctv) (evalArgs_all rfl ?_)
    rw [starEach_cons rfl]
    refine spliced_cons (wpAny_Constant_int ?_)
    rw [starEach_cons rfl]
    have hSlen : SE C (noO) (f + 2) (ccOf d.params d.scope [] []) (.Call (.Name "len" (q 23)) [.Name "digits" (q 24)] [] (q 25)) (.bi 0 [.var 0]) :=
      se_bi O hlen (by decide +kernel) (by decide +kernel) rfl (ses_cons rfl (se_var lk0) ses_nil)
    refine spliced_cons (hSlen env _ ex X _ _ _ _ _ (.int ((d0 :: dr).length : Nat)) EO RD (R₃.toks _) (by
      exact len_list hds) fun w as4 s₄ g₄ S₄ r₄ => spliced_nil ?_)
    obtain ⟨u4, rfl⟩ := inv_int r₄
    have g34 : Grow C [] s₃ s₄ := Grow.toks.trans' g₄
    have R₄ := R₃.grow g34 S₄
    have G4 := G3.trans' g34
    have hz24 : Sub (Fz s₂.heap (X ++ ex)) (Fz s₄.heap (X ++ ex)) := (g₃.trans' g34).fz (fun _ h => nomatch h) R₂'.st.tabx
    refine ⟨⟨fz_sub _ _ (hz24 _ _ hfo), rfl⟩, ?_⟩
    -- the cells
    obtain ⟨dv, hdv, as5, rdv⟩ := R₄.vars ("digits", 0) (by rw [htb0]; exact .head _) _ hl0
    obtain ⟨nv, hnv, as6, rnv⟩ := R₄.vars ("n", 1) (by rw [htb0]; exact .tail _ (.head _)) _ hl1
    obtain ⟨tn, rfl⟩ := inv_int rnv
    have hin4 : Holds env s₄.heap "inner" (.ref fa) := hin3.keeps fun b o e hd => g34.obj R₃.st e hd (fun h => nomatch h)
    obtain ⟨cd, e1, i1⟩ := holds_cell hdv (hkind _ _ hcells.1)
    obtain ⟨cn, e2, i2⟩ := holds_cell hnv (hkind _ _ hcells.2)
    obtain ⟨cf, e3, i3⟩ := holds_cell hin4 (hkind _ _ N.inner)
    refine inner_d2i (s1 := s1) (s2 := s2) (s3 := s3) (q := q) (D := ⟨C, ci, ip, _, iscope, "digits", _, t.qual, frees env iscope.names [], doc', pm', ctv, c', fa, cd, cn, cf, n, tn, _⟩)
      ⟨⟨I, frees_lookup ((hfr _).mpr (.inr (.inr rfl))) e1, frees_lookup ((hfr _).mpr (.inr (.inl rfl))) e2, frees_lookup ((hfr _).mpr (.inl rfl)) e3, fun x y b hx hy => R₄.apart x y b (frees_back hfree hx).2 (frees_back hfree hy).2, fun x b hx => (hfr x).mp (frees_back hfree hx).1, fun k => ok_nil hfn hco N.bi, hwr, hln⟩, rfl, rfl, rfl, htb, hs1, hs23⟩
      hds f 0 _ v hv (A.deeper env) s₄ (X ++ ex) dv as5 _ _ _ _ (RD.le (Nat.le_succ _)) S₄ ⟨hz24 _ _ hfo, hrec.keeps hz24, i1, i2, i3⟩ rdv (.cons (.int _ _) (.cons (.int _ u4) .nil)) fun t' s₅ g₅ S₅ => ?_
    exact hQ (.int v t') [] s₅ (G4.trans' g₅) (S₅.show_ (fun b hb => List.mem_append_right _ hb) S.tabx) (.int v t')
end
end Mine

-- K5
namespace Mine
open PySem PySem.Spec PySem.Calls PyProof.Rows PySem.W

section
variable {C : Cx} {env : Env} {tb : List (Str × Nat)} {wr : List Str} {ex X : List Addr} {loc : Loc} {s s' : Shared} {A : Around} {E : Value → Shared → Prop} {k : Nat}

/-- an owned list changes, whoever did it -/
theorem Rel.mutG (R : Rel C env tb wr ex X loc s) {p : Str × Nat} {l l' : List PyData} {a : Addr} {vs vs' : Array Value} {as : List Addr} (hp : p ∈ tb) (hl : loc[p.2]? = some (some (.own l))) (hv : Holds env s.heap p.1 (.ref a)) (ha : a ∈ X) (hlist : s.heap.PlainList a vs)
    (G : Grow C [a] s s') (hS : St C (X ++ ex) s') (hl' : s'.heap.PlainList a vs') (hr : ReadsAll (Fz s'.heap (X ++ ex)) vs'.toList l' as) :
    Rel C env tb wr ex X (loc.set p.2 (some (.own l'))) s' := by
  obtain ⟨oa, hoa, hca, na, hda⟩ := hlist.isList
  have hsub : Sub (Fz s.heap (X ++ ex)) (Fz s'.heap (X ++ ex)) := G.fz (fun b hb => by rw [List.mem_singleton.mp hb]; exact List.mem_append_left _ ha) R.st.tabx
  have ko : ∀ b o, s.heap.get? b = some o → (∀ vs n, o.data ≠ .seq vs n) → (∀ ps, o.data ≠ .fields ps) → s'.heap.get? b = some o := fun b o e hd hf => G.keep b o (fun hm => by
    rw [List.mem_singleton.mp hm, hoa] at e; cases e; exact hd _ _ hda) (tab_ne R.st e hf) e
  have hold : ∀ {x v}, Holds env s.heap x v → Holds env s'.heap x v := fun h => by
    rcases h with ⟨k1, m, ⟨o, es, ep, e1, e2, e3⟩, e⟩ | ⟨k1, c, l, ⟨o, e1, e2⟩⟩
    · exact .inl ⟨k1, m, ⟨o, es, ep, ko _ _ e1 (by rw [e2]; nofun) (by rw [e2]; nofun), e2, e3⟩, e⟩
    · exact .inr ⟨k1, c, l, ⟨o, ko _ _ e1 (by rw [e2]; nofun) (by rw [e2]; nofun), e2⟩⟩
  have back : ∀ {x v}, Holds env s'.heap x v → ∀ w, Holds env s.heap x w → w = v := fun h w h' => (hold h').inj h
  refine ⟨R.tbok, R.kind, hS, R.mine, ?_, R.tabex, R.notab, R.disj, R.apart, fun x c e => let ⟨v, o, e1, e2⟩ := R.held x c e; ⟨v, o, ko _ _ e1 (by rw [e2]; nofun) (by rw [e2]; nofun), e2⟩, ?_, ?_, ?_⟩
  · obtain ⟨m, o, es, ep, e1, e2, e3⟩ := R.ns
    exact ⟨m, o, es, ep, ko _ _ e1 (by rw [e2]; nofun) (by rw [e2]; nofun), e2, e3⟩
  · intro x hx
    rcases R.home x hx with h | ⟨h1, c, h2, h3, v, o, e1, e2⟩
    · exact .inl h
    · exact .inr ⟨h1, c, h2, h3, v, o, ko _ _ e1 (by rw [e2]; nofun) (by rw [e2]; nofun), e2⟩
  · intro q hq mv hm
    by_cases hqp : q.2 = p.2
    · have := nodup_slot R.tbok hq hp hqp
      subst this
      cases getElem?_set_some hm
      exact ⟨_, hold hv, a, vs', _, rfl, ha, hl', hr⟩
    · rw [getElem?_set_ne _ _ _ _ (Ne.symm hqp)] at hm
      obtain ⟨w, h1, h2⟩ := R.vars q hq mv hm
      refine ⟨w, hold h1, ?_⟩
      cases mv with
      | dat d => obtain ⟨as', r⟩ := h2; exact ⟨as', Reads.keeps hsub r⟩
      | rng i j => obtain ⟨ok, r, t, u, z, e, hr'⟩ := h2; exact ⟨ok, r, t, u, z, e, hsub _ _ hr'⟩
      | own l2 =>
        obtain ⟨a', vs2, as', rfl, ha', ⟨n2, ho2⟩, hr'⟩ := h2
        have hne : a' ≠ a := fun e => by subst e; exact R.owns q hq p hp hqp l2 l a' hm hl h1 hv
        exact ⟨a', vs2, as', rfl, ha', ⟨n2, G.keep a' _ (by simpa using hne) (tab_ne R.st ho2 nofun) ho2⟩, ReadsAll.keeps hsub hr'⟩
  · intro q hq r hr' hn l1 l2 b h1 h2 h3 h4
    have own0 : ∀ z : Str × Nat, z ∈ tb → ∀ l3, (loc.set p.2 (some (.own l')))[z.2]? = some (some (.own l3)) → ∃ l4, loc[z.2]? = some (some (.own l4)) := fun z hz l3 h => by
      by_cases hzp : z.2 = p.2
      · rw [hzp]; exact ⟨l, hl⟩
      · rw [getElem?_set_ne _ _ _ _ (Ne.symm hzp)] at h; exact ⟨l3, h⟩
    obtain ⟨l3, h1'⟩ := own0 q hq l1 h1
    obtain ⟨l4, h2'⟩ := own0 r hr' l2 h2
    obtain ⟨v, g1, _⟩ := R.vars q hq _ h1'
    obtain ⟨w, g2, _⟩ := R.vars r hr' _ h2'
    have e1 := back h3 _ g1
    have e2 := back h4 _ g2
    subst e1; subst e2
    exact R.owns q hq r hr' hn l3 l4 b h1' h2' g1 g2
end

/-! ## _int2digits -/
noncomputable def i2dGo (n : Int) : Nat → List Int → Int → Nat → Nat → Option (List Int)
  | 0, _, _, _, _ => none
  | f + 1, items, x, L, R => if L + 1 = R then (if L < items.length then some (items.set L x) else none) else
      if L < R ∧ mulOk ((((L + R) / 2 : Nat) : Int) - L) n = true ∧ 0 ≤ ((((L + R) / 2 : Nat) : Int) - L) * n ∧ (bits (x.fdiv (2 ^ (((((L + R) / 2 : Nat) : Int) - L) * n).toNat)) : Int) + ((((L + R) / 2 : Nat) : Int) - L) * n ≤ 2 ^ 27 then
        (i2dGo n f items (Builtin.bitXor x (x.fdiv (2 ^ (((((L + R) / 2 : Nat) : Int) - L) * n).toNat) * 2 ^ (((((L + R) / 2 : Nat) : Int) - L) * n).toNat)) L ((L + R) / 2)).bind fun it =>
          i2dGo n f it (x.fdiv (2 ^ (((((L + R) / 2 : Nat) : Int) - L) * n).toNat)) ((L + R) / 2) R
      else none

noncomputable def tbI : List (Str × Nat) := [("x", 0), ("L", 1), ("R", 2), ("mid", 3), ("shift", 4), ("upper", 5), ("lower", 6), ("a_digits", 7), ("n", 8)]
noncomputable def m1I : MS := .ite (.cmp .Eq (.bin .Add (.var 1) (.lit (.int 1))) (.var 2)) [.setI 7 (.var 1) (.var 0), .ret (.lit .none)] []
noncomputable def m2I : MS := .assign 3 (.bin .RShift (.bin .Add (.var 1) (.var 2)) (.lit (.int 1)))
noncomputable def m3I : MS := .assign 4 (.bin .Mult (.bin .Sub (.var 3) (.var 1)) (.var 8))
noncomputable def m4I : MS := .assign 5 (.bin .RShift (.var 0) (.var 4))
noncomputable def m5I : MS := .assign 6 (.bin .BitXor (.var 0) (.bin .LShift (.var 5) (.var 4)))
noncomputable def locI (x L R n : Int) (items : List Int) : Loc := [some (.dat (.int x)), some (.dat (.int L)), some (.dat (.int R)), none, none, none, none, some (.own (items.map .int)), some (.dat (.int n))]
noncomputable def locI2 (x L R M S U V n : Int) (items : List Int) : Loc := [some (.dat (.int x)), some (.dat (.int L)), some (.dat (.int R)), some (.dat (.int M)), some (.dat (.int S)), some (.dat (.int U)), some (.dat (.int V)), some (.own (items.map .int)), some (.dat (.int n))]

theorem eq_succ {L R : Nat} : ((L : Int) + 1 == (R : Int)) = decide (L + 1 = R) := by
  by_cases h : L + 1 = R
  · subst h; exact (beq_self_eq_true ((L : Int) + 1)).trans (decide_eq_true rfl).symm
  · exact (beq_eq_false_iff_ne.mpr fun e => h (Int.ofNat.inj (show ((L + 1 : Nat) : Int) = (R : Int) from e))).trans (decide_eq_false h).symm
theorem idx_nat {l : List PyData} {L : Nat} (h1 : l.length ≤ 2 ^ 24) (h2 : L < l.length) : idxV l (.int (L : Int)) = some L := if_pos ⟨h1, Int.natCast_nonneg L, Int.ofNat_lt.mpr h2⟩
theorem evs1I {x : Int} {L R f : Nat} {n : Int} {items r : List Int} (hi : items.length ≤ 2 ^ 20) (hv : i2dGo n (f + 1) items x L R = some r) :
    evSs noO 0 [m1I] (locI x L R n items) = some (if L + 1 = R then .ret .none else .next, locI x L R n (if L + 1 = R then r else items)) := by
  rw [i2dGo] at hv
  show Option.bind (if ((L : Int) + 1 == (R : Int)) = true then evSs noO 0 [.setI 7 (.var 1) (.var 0), .ret (.lit .none)] (locI x L R n items) else some (.next, locI x L R n items)) _ = _
  rw [eq_succ]
  by_cases h : L + 1 = R
  · rw [if_pos h] at hv
    by_cases hl : L < items.length
    · rw [if_pos hl] at hv; cases hv
      rw [decide_eq_true h, if_pos rfl, if_pos h, if_pos h]
      show Option.bind (Option.bind (Option.map _ (idxV (items.map .int) (.int (L : Int)))) _) _ = _
      rw [idx_nat (by rw [List.length_map]; exact Nat.le_trans hi (by decide)) (by rw [List.length_map]; exact hl)]
      show some (MF.ret PyData.none, (locI x L R n items).set 7 (some (.own ((items.map PyData.int).set L (.int x))))) = _
      rw [← List.map_set]
      rfl
    · rw [if_neg hl] at hv; cases hv
  · rw [decide_eq_false h, if_neg h, if_neg h]; rfl
theorem evs25I {x S U : Int} {L R M : Nat} {n : Int} {items : List Int} (hM : (L + R) / 2 = M) (hm : mulOk ((M : Int) - L) n = true) (hS : ((M : Int) - L) * n = S) (hU : x.fdiv (2 ^ S.toNat) = U) (h0 : 0 ≤ S) (h1 : (bits U : Int) + S ≤ (2 ^ 27 : Nat)) :
    evSs noO 0 [m2I, m3I, m4I, m5I] (locI x L R n items) = some (.next, locI2 x L R M S U (Builtin.bitXor x (U * 2 ^ S.toNat)) n items) := by
  have e2 : evS noO 0 m2I (locI x L R n items) = some (.next, (locI x L R n items).set 3 (some (.dat (.int (M : Int))))) := by rw [← hM, ← add_half]; rfl
  refine bindV e2 ?_
  show evSs noO 0 [m3I, m4I, m5I] _ = _
  refine bindV (show evS noO 0 m3I ((locI x L R n items).set 3 (some (.dat (.int (M : Int))))) = some (.next, ((locI x L R n items).set 3 (some (.dat (.int (M : Int))))).set 4 (some (.dat (.int S)))) by
    show Option.map _ (binV .Mult (.int ((M : Int) - L)) (.int n)) = _
    rw [show binV .Mult (.int ((M : Int) - L)) (.int n) = some (.int (((M : Int) - L) * n)) from if_pos hm, hS]; rfl) ?_
  show evSs noO 0 [m4I, m5I] _ = _
  refine bindV (show evS noO 0 m4I (((locI x L R n items).set 3 (some (.dat (.int (M : Int))))).set 4 (some (.dat (.int S)))) = some (.next, (((locI x L R n items).set 3 (some (.dat (.int (M : Int))))).set 4 (some (.dat (.int S)))).set 5 (some (.dat (.int U)))) by
    show Option.map _ (binV .RShift (.int x) (.int S)) = _
    rw [show binV .RShift (.int x) (.int S) = some (.int (x.fdiv (2 ^ S.toNat))) from if_pos h0, hU]; rfl) ?_
  show Option.bind (Option.map _ (Option.bind (binV .LShift (.int U) (.int S)) fun b => binV .BitXor (.int x) b)) _ = _
  rw [shl_ev h0 (toNat_le h0 h1)]
  rfl
theorem i2dE {n x : Int} {f L R : Nat} {items r : List Int} {P : Prop} (h : ¬ L + 1 = R) (hv : i2dGo n (f + 1) items x L R = some r) (k : ∀ M S U it, (L + R) / 2 = M → ((M : Int) - L) * n = S → x.fdiv (2 ^ S.toNat) = U → mulOk ((M : Int) - L) n = true → 0 ≤ S → (bits U : Int) + S ≤ (2 ^ 27 : Nat) →
    i2dGo n f items (Builtin.bitXor x (U * 2 ^ S.toNat)) L M = some it → i2dGo n f it U M R = some r → P) : P := by
  rw [i2dGo, if_neg h] at hv
  split at hv
  · rename_i hg
    exact bindE hv fun it h1 h2 => k _ _ _ it rfl rfl rfl hg.2.1 hg.2.2.1 hg.2.2.2 h1 h2
  · cases hv
theorem len_i {n : Int} : ∀ (f : Nat) (l l' : List Int) (y : Int) (a b : Nat), i2dGo n f l y a b = some l' → l'.length = l.length
  | 0, _, _, _, _, _, h => nomatch h
  | f + 1, l, l', y, a, b, h => by
    by_cases hab : a + 1 = b
    · rw [i2dGo, if_pos hab] at h
      split at h
      · cases h; exact List.length_set
      · cases h
    · exact i2dE hab h fun M S U it _ _ _ _ _ _ h1 h2 => (len_i f _ _ _ _ _ h2).trans (len_i f _ _ _ _ _ h1)
theorem locI_own {x L R n : Int} {items : List Int} {i : Nat} {l : List PyData} (h : (locI x L R n items)[i]? = some (some (.own l))) : i = 7 := by
  match i with
  | 7 => rfl
  | 0 | 1 | 2 | 3 | 4 | 5 | 6 | 8 => cases h
  | _ + 9 => cases h
end Mine

-- K6
namespace Mine
open PySem PySem.Spec PySem.Calls PyProof.Rows PySem.W

section
variable {C : Cx}

noncomputable abbrev bodyI (s1 s2 s3 s4 s5 : Stmt) (q : Nat → Pos) : List Stmt := s1 :: ([s2, s3, s4, s5] ++ [
  .Expr (.Call (.Name "inner" (q 0)) [.Name "lower" (q 1), .Name "L" (q 2), .Name "mid" (q 3)] [] (q 4)) (q 5),
  .Expr (.Call (.Name "inner" (q 6)) [.Name "upper" (q 7), .Name "mid" (q 8), .Name "R" (q 9)] [] (q 10)) (q 11)])
noncomputable def wrI : List Str := ["x", "L", "R", "mid", "shift", "upper", "lower"]

structure IOk2 (D : IFn) (s1 sB s3 s4 s5 : Stmt) (q : Nat → Pos) : Prop where
  ok : IOk D
  pn : D.pn = (["x", "L", "R"] : List Str)
  dn : D.dn = "a_digits"
  body : D.body = bodyI s1 sB s3 s4 s5 q
  tb : D.ci.tb = tbI
  c1 : cSs 59 D.ci [s1] = some [m1I]
  c25 : cSs 59 D.ci [sB, s3, s4, s5] = some [m2I, m3I, m4I, m5I]
/-- hidden things in another order, the list ahead -/
theorem ahead {X ex : List Addr} {a : Addr} (ha : a ∈ X) (p : Addr) : p ∈ [a] ++ (X.filter (· ≠ a) ++ ex) ↔ p ∈ X ++ ex := by
  show p ∈ a :: (X.filter (· ≠ a) ++ ex) ↔ _
  constructor
  · intro hp
    refine (List.mem_cons.mp hp).elim (fun h => h ▸ List.mem_append_left _ ha) fun hp => (List.mem_append.mp hp).elim (fun h => List.mem_append_left _ (List.mem_filter.mp h).1) fun h => List.mem_append_right _ h
  · intro hp
    by_cases h : p = a
    · rw [h]; exact .head _
    · exact (List.mem_append.mp hp).elim (fun h' => .tail _ (List.mem_append_left _ (List.mem_filter.mpr ⟨h', decide_eq_true h⟩))) fun h' => .tail _ (List.mem_append_right _ h')
theorem fz_perm {ex ex' : List Addr} (h : ∀ p, p ∈ ex ↔ p ∈ ex') (g : Heap) : Sub (Fz g ex) (Fz g ex') := fz_mono (fun _ _ _ e => e) fun b _ hb _ hb' => hb ((h b).mpr hb')
theorem not_ahead {X ex : List Addr} {a : Addr} (h : a ∉ ex) : a ∉ X.filter (· ≠ a) ++ ex := fun hm => (List.mem_append.mp hm).elim (fun h' => of_decide_eq_true (List.mem_filter.mp h').2 rfl) h
/-- what a call of it gives -/
noncomputable def CallI (D : IFn) (a : Addr) (f : Nat) : Prop := ∀ (x : Int) (L R : Nat) (items items' : List Int), i2dGo D.n f items x L R = some items' → ∀ (A : Around) (s : Shared) (ex : List Addr) (ws : Array Value) (as as' : List Addr) (vs : List Value) (Q E : Value → Shared → Prop), Room A (f + 1) → St D.C ([a] ++ ex) s → a ∉ ex → (∀ t ∈ D.C.tabs, t.P ∈ ex) → items.length ≤ 2 ^ 20 →
  ISt D (.ref a) ([a] ++ ex) s → s.heap.PlainList a ws → ReadsAll (Fz s.heap ([a] ++ ex)) ws.toList (items.map .int) as → ReadsAll (Fz s.heap ([a] ++ ex)) vs [.int x, .int (L : Int), .int (R : Int)] as' →
  (∀ ws' as' s', Grow D.C [a] s s' → St D.C ([a] ++ ex) s' → s'.heap.PlainList a ws' → ReadsAll (Fz s'.heap ([a] ++ ex)) ws'.toList (items'.map .int) as' → Q .none s') → wpAny D.C.M A (call (.ref D.fa) vs []) Q E s
section
variable {D : IFn} {s1 sB s3 s4 s5 : Stmt} {q : Nat → Pos} {f : Nat} {ex X' : List Addr} {s s' : Shared} {A : Around} {env : Env} {as : List Addr} {a : Addr} {loc : Loc} {l : List PyData}
theorem no_cell {h : Heap} {ws : Array Value} (hp : h.PlainList a ws) : ∀ b ∈ [a], ∀ v, ¬ h.IsCell b v := fun b hb v ⟨o, e1, e2⟩ => by
  obtain ⟨n, e⟩ := hp
  rw [List.mem_singleton.mp hb, e] at e1; cases e1; cases e2
/-- where the list is -/
theorem the_list (H : IOk2 D s1 sB s3 s4 s5 q) (EO : EnvOk env D.ci) (hcells : env.cells = D.clos) (c1 : s'.heap.IsCell D.cd (some (.ref a))) (R : Rel D.C env D.ci.tb D.wr ex X' loc s') (hl : loc[7]? = some (some (.own l))) :
    a ∈ X' ∧ Holds env s'.heap "a_digits" (.ref a) ∧ ∃ ws as, s'.heap.PlainList a ws ∧ ReadsAll (Fz s'.heap (X' ++ ex)) ws.toList l as := by
  obtain ⟨v, hv, b, ws, as, rfl, hb, hp, hr⟩ := R.vars ("a_digits", 7) (mem_lookup (by rw [H.tb]; rfl)) _ hl
  have hh : Holds env s'.heap "a_digits" (.ref a) := H.ok.holds EO hcells (H.dn ▸ H.ok.d) c1
  have := hv.inj hh
  cases this
  exact ⟨hb, hh, ws, as, hp, hr⟩
theorem i2d_self (H : IOk2 D s1 sB s3 s4 s5 q) (ih : CallI D a f) (EO : EnvOk env D.ci) (hcells : env.cells = D.clos) (RD : Room A (f + 1)) (hae : a ∉ ex) (htx : ∀ t ∈ D.C.tabs, t.P ∈ ex) (S0 : St D.C ([a] ++ ex) s) (T : ISt D (.ref a) ([a] ++ ex) s) {ws0 : Array Value} (hp0 : s.heap.PlainList a ws0)
    {x L R M Sh U V : Int} {l l' : List Int} (J : IIn D [a] ex env s X' (locI2 x L R M Sh U V D.n l) s') {p q1 q2 q3 q4 : Pos} {nx ny nz : Str} {i j k b c : Nat} {y : Int} {Q E : Value → Shared → Prop} (hx : tbI.lookup nx = some i) (hy : tbI.lookup ny = some j) (hz : tbI.lookup nz = some k)
    (hix : (locI2 x L R M Sh U V D.n l)[i]? = some (some (.dat (.int y)))) (hiy : (locI2 x L R M Sh U V D.n l)[j]? = some (some (.dat (.int (b : Int))))) (hiz : (locI2 x L R M Sh U V D.n l)[k]? = some (some (.dat (.int (c : Int))))) (hll : l.length ≤ 2 ^ 20) (hgo : i2dGo D.n f l y b c = some l')
    (h : ∀ s'', IIn D [a] ex env s X' (locI2 x L R M Sh U V D.n l') s'' → Q .none s'') : wpAny D.C.M A (eval (.Call (.Name "inner" p) [.Name nx q1, .Name ny q2, .Name nz q3] [] q4) env) Q E s' := by
  have hd : evEs noO (locI2 x L R M Sh U V D.n l) [.var i, .var j, .var k] = some [.int y, .int (b : Int), .int (c : Int)] := bindV (MV.at_of hix rfl) (mapV (bindV (MV.at_of hiy rfl) (mapV (bindV (MV.at_of hiz rfl) (mapV rfl)))))
  have lk : ∀ {nm : Str} {j : Nat}, tbI.lookup nm = some j → D.ci.tb.lookup nm = some j := fun h => by rw [H.tb]; exact h
  refine inner_ev H.ok EO hcells RD J (T.up (J.stay S0 (no_cell hp0))) rfl (ses_cons rfl (se_var (lk hx)) (ses_cons rfl (se_var (lk hy)) (ses_cons rfl (se_var (lk hz)) ses_nil))) hd fun vs as2 s2 J2 r2 => ?_
  have st := J2.stay S0 (no_cell hp0)
  obtain ⟨haX, hh, ws2, as3, hp2, hr2⟩ := the_list H EO hcells (st.2 _ _ T.c1) J2.R rfl
  have pm := ahead (ex := ex) haX
  have z1 := fz_perm fun p => (pm p).symm
  refine ih y b c l l' hgo A s2 (X'.filter (· ≠ a) ++ ex) ws2 as3 as2 vs Q E RD (J2.R.st.show_ (fun p hp => (pm p).mp hp) fun t ht => show t.P ∈ a :: (X'.filter (· ≠ a) ++ ex) from .tail _ (List.mem_append_right _ (htx t ht))) (not_ahead hae) (fun t ht => List.mem_append_right _ (htx t ht)) hll ((T.up st).up ⟨z1 _, fun _ _ h => h⟩) hp2 (ReadsAll.keeps (z1 _) hr2) (ReadsAll.keeps (z1 _) r2) fun ws9 as9 s9 g9 S9 hp9 hr9 => ?_
  have R9 := J2.R.mutG (p := ("a_digits", 7)) (l' := l'.map .int) (mem_lookup (by rw [H.tb]; rfl)) rfl hh haX hp2 g9 (S9.show_ (fun p hp => (pm p).mpr hp) fun t ht => List.mem_append_right _ (htx t ht)) hp9 (ReadsAll.keeps (fz_perm pm _) hr9)
  exact h s9 ⟨J2.g.trans' g9, J2.fr, R9⟩
theorem inner_i2d (H : IOk2 D s1 sB s3 s4 s5 q) (hat : ¬ isTab D.C a) : ∀ f, CallI D a f := by
  intro f
  induction f with
  | zero => intro x L R items items' hv; cases hv
  | succ f ih =>
    intro x L R items items' hv A s ex ws as as' vs Q E RM S hae htx hli T hpl hrd hvs hQ
    refine inner_entry (Y := [a]) (loc := locI x (L : Int) (R : Int) D.n items) H.ok RM S T (by rw [readsAll_len hvs, H.pn]; rfl) hvs (fun b hb => by rw [List.mem_singleton.mp hb]; exact hat) (fun b hb => by rw [List.mem_singleton.mp hb]; exact hae) htx ?_ ?_ fun env s₁ E' EO hcells g₁ hL R₁ => ?_
    · rw [H.tb, H.pn, H.dn]
      have no : ∀ {o : Option MV} {P : MV → Prop}, o = none → ∀ mv, some o = some (some mv) → P mv := fun e mv h => by rw [e] at h; cases h
      exact List.forall_mem_cons.mpr ⟨fun mv h => .inl ⟨0, _, rfl, rfl, (Option.some.inj (Option.some.inj h)).symm⟩, List.forall_mem_cons.mpr ⟨fun mv h => .inl ⟨1, _, rfl, rfl, (Option.some.inj (Option.some.inj h)).symm⟩, List.forall_mem_cons.mpr ⟨fun mv h => .inl ⟨2, _, rfl, rfl, (Option.some.inj (Option.some.inj h)).symm⟩,
        List.forall_mem_cons.mpr ⟨no rfl, List.forall_mem_cons.mpr ⟨no rfl, List.forall_mem_cons.mpr ⟨no rfl, List.forall_mem_cons.mpr ⟨no rfl,
        List.forall_mem_cons.mpr ⟨fun mv h => .inr (.inl ⟨rfl, (Option.some.inj (Option.some.inj h)) ▸ ⟨a, ws, as, rfl, .head _, hpl, hrd⟩⟩), List.forall_mem_cons.mpr ⟨fun mv h => .inr (.inr ⟨rfl, (Option.some.inj (Option.some.inj h)).symm⟩), fun _ h => nomatch h⟩⟩⟩⟩⟩⟩⟩⟩⟩
    · exact fun p hp p' hp' hne l l' h h' => hne ((locI_own h).trans (locI_own h').symm)
    · have RD : Room (A.deeper env) (f + 1) := RM.deeper
      have fin : ∀ {X'' loc s''}, IIn D [a] ex env s X'' loc s'' → loc[7]? = some (some (.own (items'.map .int))) → Q .none s'' := fun {X'' loc s''} J hl => by
        obtain ⟨haX, _, ws', as', hp, hr⟩ := the_list H EO hcells ((J.stay S (no_cell hpl)).2 _ _ T.c1) J.R hl
        have hsub : ∀ b ∈ [a] ++ ex, b ∈ X'' ++ ex := fun b hb => (List.mem_cons.mp hb).elim (fun h => h ▸ List.mem_append_left _ haX) fun h => List.mem_append_right _ h
        exact hQ ws' as' s'' J.g (J.R.st.show_ hsub S.tabx) hp (ReadsAll.keeps (fz_mono (fun _ _ _ e => e) fun b _ hb _ hb' => hb (hsub b hb')) hr)
      rw [H.body]
      refine IIn.run (sts := [s1]) H.ok EO RD (IIn.start g₁ hL R₁) H.c1 (evs1I hli hv) fun X2 s2 J2 => ?_
      by_cases hLR : L + 1 = R
      · rw [if_pos hLR] at J2 ⊢
        intro w bs rw_
        obtain rfl := inv_none rw_
        exact fin J2 rfl
      · rw [if_neg hLR] at J2 ⊢
        refine i2dE hLR hv fun M Sh U it1 hM hS hU hm h0 h1 hi1 hi2 => ?_
        refine IIn.run (sts := [sB, s3, s4, s5]) H.ok EO RD J2 H.c25 (evs25I hM hm hS hU h0 h1) fun X3 s3' J3 => ?_
        refine wpAny_execs_cons (wpAny_Expr (i2d_self H ih EO hcells RD hae htx S T hpl J3 (nx := "lower") (ny := "L") (nz := "mid") (i := 6) (j := 1) (k := 3) rfl rfl rfl rfl rfl rfl hli hi1 fun s6 J6 => ?_) (by unfold interactive; rw [J3.R.kind]; rfl))
        refine wpAny_execs_cons (wpAny_Expr (i2d_self H ih EO hcells RD hae htx S T hpl J6 (nx := "upper") (ny := "mid") (nz := "R") (i := 5) (j := 3) (k := 2) rfl rfl rfl rfl rfl rfl (by rw [len_i _ _ _ _ _ _ hi1]; exact hli) hi2 fun s7 J7 => ?_) (by unfold interactive; rw [J3.R.kind]; rfl))
        exact wpAny_execs_nil (fin J7 rfl)
end
end
end Mine

-- K7
namespace Mine
open PySem PySem.Spec PySem.Calls PyProof.Rows PySem.W

section
variable {C : Cx} {c : CC} {k W : Nat} {F : Orc}

/-- a list display, repeated: a fresh list -/
theorem sf_mul {es : List Expr} {p pos : Pos} {ms : List ME} {r : Expr} {b : ME} (ha : SE C F k c (.List es p) (.lst ms)) (hb : SE C F k c r b) : SF C F k c (.BinOp (.List es p) .Mult r pos) (.bin .Mult (.lst ms) b) := fun env wr ex X loc s A Q E d EO RM R he => by
  refine bindE he fun x hx he => bindE he fun y hy he => bindE hx fun ds hds hx' => ?_
  obtain ⟨hlen, rfl⟩ := if_some hx'
  cases y with
  | int n =>
    obtain ⟨hc, rfl⟩ := if_some he
    refine ⟨_, rfl, fun G => ?_⟩
    refine wpAny_BinOp (ha env wr ex X loc s A _ E _ EO RM R hx fun v as s₁ g₁ S₁ r₁ => ?_)
    refine hb env wr ex X loc s₁ A _ E _ EO RM (R.grow g₁ S₁) hy fun w bs s₂ g₂ S₂ r₂ => ?_
    obtain ⟨t, rfl⟩ := inv_int r₂
    obtain ⟨a, vs, as', rfl, hl, rs, hz⟩ := inv_list fz_sub (Reads.keeps (g₂.fz (fun _ h => nomatch h) S₁.tabx) r₁)
    have hN : n.toNat ≤ 2 ^ 12 := by omega
    have hP : vs.size * n.toNat ≤ 2 ^ 24 := by
      calc vs.size * n.toNat ≤ 2 ^ 12 * 2 ^ 12 := Nat.mul_le_mul (by omega) hN
        _ = 2 ^ 24 := by decide
    refine mul_list_raw hl (by omega) (by omega) hP ?_
    have hnone := get?_size s₂.heap
    obtain ⟨as2, rs2⟩ := readsAll_rep rs n.toNat
    refine G s₂.heap.objs.size _ as2 _ ((g₁.trans' g₂).trans' (Grow.push (tk := s₂.toks))) (S₂.hid (fun _ _ e => Heap.get?_push_of_some _ e) hnone (Heap.get?_push_size _ rfl) s₂.toks) ((g₁.trans' g₂).fresh hnone) ⟨_, Heap.get?_push_size _ rfl⟩ ?_
    exact ReadsAll.keeps (fz_hid (fun _ _ e => Heap.get?_push_of_some _ e) hnone) rs2
  | _ => cases he
end
end Mine

-- K8
namespace Mine
open PySem PySem.Spec PySem.Calls PyProof.Rows PySem.W

section
variable {C : Cx} {s : Shared} {A : Around} {k : Nat}

noncomputable def mrI : ME := .bin .FloorDiv (.bin .Sub (.bin .Add (.meth 0 (.var 0) []) (.var 1)) (.lit (.int 1))) (.var 1)
noncomputable def cntI (a n : Int) : Nat := (((bits a : Int) + n - 1).fdiv n).toNat
noncomputable def i2dTop (f : Nat) (a n : Int) : Option (List Int) :=
  if n ≠ 0 ∧ bits n ≤ 9000 ∧ ((bits a : Int) + n - 1).fdiv n ≤ 2 ^ 12 ∧ -(2 ^ 12) ≤ ((bits a : Int) + n - 1).fdiv n then
    if a = 0 then some (List.replicate (cntI a n) 0) else i2dGo n f (List.replicate (cntI a n) 0) a 0 (cntI a n)
  else none

theorem evDig {a n : Int} (hn0 : n ≠ 0) (hnb : bits n ≤ 9000) (hc1 : ((bits a : Int) + n - 1).fdiv n ≤ 2 ^ 12) (hc2 : -(2 ^ 12) ≤ ((bits a : Int) + n - 1).fdiv n) : evS noO 0 (.own 2 (.bin .Mult (.lst [.lit (.int 0)]) mrI)) [some (.dat (.int a)), some (.dat (.int n)), none, none] =
    some (.next, [some (.dat (.int a)), some (.dat (.int n)), some (.own ((List.replicate (cntI a n) (0 : Int)).map .int)), none]) := by
  have e : evE noO [some (.dat (.int a)), some (.dat (.int n)), none, none] mrI = some (.int (((bits a : Int) + n - 1).fdiv n)) := by
    show binV .FloorDiv (.int ((bits a : Int) + n - 1)) (.int n) = _
    exact if_pos ⟨hn0, hnb⟩
  show Option.bind (Option.bind (evE noO [some (.dat (.int a)), some (.dat (.int n)), none, none] mrI) fun b => binV .Mult (.list [.int 0]) b) _ = _
  rw [e, Option.bind_some, show binV .Mult (.list [.int 0]) (.int (((bits a : Int) + n - 1).fdiv n)) = some (.list (List.replicate (((bits a : Int) + n - 1).fdiv n).toNat [PyData.int 0]).flatten) from if_pos ⟨show 1 ≤ 2 ^ 12 by decide, hc1, hc2⟩, List.flatten_replicate_singleton]
  show some (MF.next, [_, _, some (MV.own (List.replicate (cntI a n) (PyData.int 0))), _]) = _
  rw [List.map_replicate]
theorem i2d_call {d : DefRec} {t : Tab} {ci : CC} {ip : Arguments} {iscope : Scope} {s1 sB s3 s4 s5' : Stmt} {q : Nat → Pos} {dp : Pos} {j1 j2 : Nat} {e0 : Expr} {n a : Int} {r : List Int} {f : Nat} (N : NestDef C d t)
    (I : InnerFn C ci ip ["x", "L", "R"] iscope "a_digits") (htb : ci.tb = tbI) (hs1 : cSs 59 ci [s1] = some [m1I]) (hs25 : cSs 59 ci [sB, s3, s4, s5'] = some [m2I, m3I, m4I, m5I]) (hwr : Wr ci wrI) (hln : ∀ x ∈ wrI, iscope.names.lookup x = some .local) (hfn : ci.fns = []) (hco : ci.consts = [])
    (hbody : d.body = [.Assign [.Name "a_digits" (q 40)] (.BinOp (.List [.Constant (.int 0) j1 (q 41)] (q 42)) .Mult e0 (q 43)) (q 44), .FunctionDef "inner" ip (bodyI s1 sB s3 s4 s5' q) [] none [] iscope none "inner" dp,
      .If (.Name "a" (q 20)) [.Expr (.Call (.Name "inner" (q 21)) [.Name "a" (q 22), .Constant (.int 0) j2 (q 23), .Call (.Name "len" (q 24)) [.Name "a_digits" (q 25)] [] (q 26)] [] (q 27)) (q 28)] [] (q 29),
      .Return (some (.Name "a_digits" (q 30))) (q 31)])
    (he0 : cE 59 (ccOf d.params d.scope [] []) e0 = some mrI)
    (hl : (dp.line : Int) = t.line) (hc : (dp.col : Int) = t.col) (hd0 : ip.defaults = []) (hk0 : ip.kw_defaults = []) (ha : ∀ env, annTrees ip none env = []) (hps : paramsOf d = (["a", "n"] : List Str)) (hsl : slotsOf d.params d.scope = ([("a", 0), ("n", 1), ("a_digits", 2), ("inner", 3)] : List (Str × Nat))) (hlen : isGlob (ccOf d.params d.scope [] []) "len" = true)
    (hcells : d.scope.names.lookup ("a_digits" : Str) = some .cell ∧ d.scope.names.lookup ("n" : Str) = some .cell) (hfr : ∀ x, (x, NameKind.free) ∈ iscope.names ↔ x = "inner" ∨ x = "n" ∨ x = "a_digits")
    (hv : i2dTop f a n = some r) : ∀ ad, C.mg d.name = some (.ref ad) → CallsTo C (f + 3) (.ref ad) [.int a, .int n] (.list (r.map .int)) := by
  intro ad hma A s ex vs as Q E RM S hreads hQ
  have hpl := params_len hps
  unfold i2dTop at hv
  split at hv
  · rename_i hg
    obtain ⟨hn0, hnb, hc1, hc2⟩ := hg
    refine def_entry (N := 4) (fns := []) (consts := []) (k := f + 2) N.mem N.ok N.bind (by rw [hpl]; rfl) hma RM S hreads fun env X s₁ E' o pm code doc ho hdat hce hqe hse EO G1 hX R1 => ?_
    have hcode : env.code = .ref t.c := hce.trans (nest_code N S hma ho hdat)
    rw [hbody]
    have htb0 : (ccOf d.params d.scope [] []).tb = ([("a", 0), ("n", 1), ("a_digits", 2), ("inner", 3)] : List (Str × Nat)) := hsl
    have hkind : ∀ x kd, d.scope.names.lookup x = some kd → env.kindOf x = some kd := fun x kd h => by rw [show env.kindOf x = env.scope.names.lookup x from rfl, hse]; exact h
    have RD : Room (A.deeper env) (f + 2) := RM.deeper
    have O : Ok C (f + 2) noO (ccOf d.params d.scope [] []) := ok_nil rfl rfl N.bi
    have hw : Wr (ccOf d.params d.scope [] []) ((slotsOf d.params d.scope).map (·.1)) := fun p hp _ => List.mem_map.mpr ⟨p, hp, rfl⟩
    have lkA : (ccOf d.params d.scope [] []).tb.lookup ("a_digits" : Str) = some 2 := by rw [htb0]; rfl
    have T := snd_all (C := C) (F := noO) (k := f + 2) 59
    have hS0 : SF C (noO) (f + 2) (ccOf d.params d.scope [] []) (.BinOp (.List [.Constant (.int 0) j1 (q 41)] (q 42)) .Mult e0 (q 43)) (.bin .Mult (.lst [.lit (.int 0)]) mrI) :=
      sf_mul (sf_lst (ses_cons rfl se_lit_int ses_nil)).se (T _ _ _ O he0).1
    have hnf : notFree (ccOf d.params d.scope [] []) "a_digits" = true := by
      unfold notFree
      rw [show (ccOf d.params d.scope [] []).sc.names.lookup ("a_digits" : Str) = some .cell from hcells.1]; rfl
    have e1 : ([PyData.int a, PyData.int n].map (fun d => some (MV.dat d)) ++ List.replicate (4 - d.params.args.length) none) = [some (.dat (.int a)), some (.dat (.int n)), none, none] := by rw [hpl]; rfl
    rw [e1] at R1
    refine wpAny_execs_cons (s_own (F := noO) (W := 0) (k := f + 2) lkA hnf hS0 (fun env => swaps_no rfl ..) env _ ex X _ s₁ _ _ _ .next [some (.dat (.int a)), some (.dat (.int n)), some (.own ((List.replicate (cntI a n) (0 : Int)).map .int)), none] EO RD hw R1 ?_ fun X2 s₂ g₂ hX2 R2 => ?_)
    · exact evDig hn0 hnb hc1 hc2
    · have G2 : Grow C [] s s₂ := G1.trans g₂ fun p hp => .inr (hX p hp)
      have fr2 : ∀ p ∈ X2, s.heap.get? p = none := fun p hp => (hX2 p hp).elim (hX p) fun e => G1.fresh e
      have hfree : ∀ x, (x, NameKind.free) ∈ iscope.names → ∃ c, env.cells.lookup x = some c := fun x hx => by
        rcases (hfr x).mp hx with rfl | rfl | rfl
        · exact EO.cells _ (.inl (hkind _ _ N.inner))
        · exact EO.cells _ (.inl (hkind _ _ hcells.2))
        · exact EO.cells _ (.inl (hkind _ _ hcells.1))
      refine wpAny_execs_cons (def_stmt (t := t) (clos := frees env iscope.names []) (i := 3) R2 N.tab N.uniq EO.glob hcode (by rw [htb0]; rfl) (List.mem_map.mpr ⟨("inner", 3), by rw [hsl]; exact .tail _ (.tail _ (.tail _ (.head _))), rfl⟩) ?_ hl hc hd0 hk0 (ha env) (closure_ok hfree) fun fa c' ctv doc' pm' s₃ g₃ hfa hfo hrec R3 hin => ?_)
      · unfold qualnameIn
        rw [show env.kindOf ("inner" : Str) = some .cell from hkind _ _ N.inner, if_neg (by decide), hqe, N.qual]
      have G3 : Grow C [] s s₃ := G2.trans g₃ fun p hp => .inr (fr2 p hp)
      have lk0 : (ccOf d.params d.scope [] []).tb.lookup ("a" : Str) = some 0 := by rw [htb0]; rfl
      -- the end
      have fin : ∀ (s₄ : Shared) (l : List Int), Grow C [] s s₄ → Rel C env (ccOf d.params d.scope [] []).tb ((slotsOf d.params d.scope).map (·.1)) ex X2 [some (.dat (.int a)), some (.dat (.int n)), some (.own (l.map .int)), none] s₄ → l = r →
          wpAny C.M (A.deeper env) (execs [.Return (some (.Name "a_digits" (q 30))) (q 31)] env) (fun f s' => Q (match f with | .ret v => v | _ => .none) s') E' s₄ := fun s₄ l G4 R4 e => by
        subst e
        refine wpAny_execs_cons (s_ret (F := noO) (W := 0) (k := f + 2) (se_var lkA) env _ ex X2 _ s₄ _ _ _ (.ret (.list (l.map .int))) [some (.dat (.int a)), some (.dat (.int n)), some (.dat (.list (l.map .int))), none] EO RD hw R4 (by rfl) fun X5 s₅ g5 hX5 R5 => ?_)
        intro v bs rv
        exact hQ v bs s₅ (G4.trans g5 fun p hp => .inr (fr2 p hp)) (R5.st.show_ (fun b hb => List.mem_append_right _ hb) S.tabx) (Reads.keeps (fz_mono (fun _ _ _ e => e) fun b _ hb _ hb' => hb (List.mem_append_right _ hb')) rv)
      refine wpAny_execs_cons (wpAny_If (st_plain (C := C) (F := noO) (k := f + 2) rfl (se_var lk0) env _ ex X2 _ s₃ _ _ _ (.int a) EO RD R3 (by rfl) rfl fun s₄ g4 S4 => ?_))
      have R4 := R3.grow g4 S4
      have G4 := G3.trans' g4
      by_cases ha0 : a = 0
      · rw [if_pos ha0] at hv
        rw [show truthV (.int a) = false from bne_eq_false_iff_eq.mpr ha0]
        exact wpAny_execs_nil (fin s₄ _ G4 R4 (Option.some.inj hv))
      · rw [if_neg ha0] at hv
        rw [show truthV (.int a) = true from bne_iff_ne.mpr ha0]
        have cnt_le : cntI a n ≤ 2 ^ 12 := by unfold cntI; omega
        have hin4 : Holds env s₄.heap "inner" (.ref fa) := hin.keeps fun b o e hd => g4.obj R3.st e hd (fun h => nomatch h)
        refine wpAny_execs_cons (wpAny_Expr ?_ (by unfold interactive; rw [R4.kind]; rfl))
        refine wpAny_Call_NameR (wpAny_Name (load_ok R4.kind (by decide +kernel) hin4 ?_) (by decide +kernel))
        refine callWith_function (o := fnMade "inner" t.qual ip (bodyI s1 sB s3 s4 s5' q) iscope (frees env iscope.names []) doc' pm' c' ctv) (fd := fnX "inner" t.qual ip (bodyI s1 sB s3 s4 s5' q) iscope (frees env iscope.names []) .none .none doc' pm' none (.ref c') ctv) (evalArgs_all rfl ?_)
        rw [starEach_cons rfl]
        refine spliced_cons (se_var (F := noO) (k := f + 2) lk0 env _ ex X2 _ s₄ _ _ _ (.int a) EO RD R4 (by rfl) fun w1 as1 s5 g5 S5 r5 => ?_)
        obtain ⟨u1, rfl⟩ := inv_int r5
        rw [starEach_cons rfl]
        refine spliced_cons (wpAny_Constant_int ?_)
        rw [starEach_cons rfl]
        have R6 := (R4.grow g5 S5).toks (s5.toks + 1)
        obtain ⟨v7, hv7, D, vs7, as7, rfl, hDX, hp7, hr7⟩ := R6.vars ("a_digits", 2) (by rw [htb0]; exact .tail _ (.tail _ (.head _))) _ rfl
        have hsz7 : vs7.size = cntI a n := (readsAll_len hr7).trans ((List.length_map ..).trans List.length_replicate)
        refine spliced_cons (wpAny_Call_NameR (bi_name EO R6 hlen (by decide +kernel) (by decide +kernel) (N.bi _ (by decide +kernel)) (v := .builtin "len") (by decide +kernel) ?_))
        refine callWith_builtin (plain_any rfl) (evalArgs_all rfl ?_)
        rw [starEach_cons rfl]
        refine spliced_cons (wpAny_Name (load_ok R6.kind (by decide +kernel) hv7 ?_) (by decide +kernel))
        refine spliced_nil ?_
        refine call_len_list hp7.isList (by rw [hsz7]; omega) (spliced_nil ?_)
        have R8 := R6.toks (s5.toks + 1 + 1 + 1)
        have g38 : Grow C [] s₃ { s5 with toks := s5.toks + 1 + 1 + 1 } := (g4.trans' g5).trans' Grow.toks
        have G8 : Grow C [] s { s5 with toks := s5.toks + 1 + 1 + 1 } := G3.trans' g38
        have hz38 : Sub (Fz s₃.heap (X2 ++ ex)) (Fz s5.heap (X2 ++ ex)) := g38.fz (fun _ h => nomatch h) R3.st.tabx
        refine ⟨⟨fz_sub _ _ (hz38 _ _ hfo), rfl⟩, ?_⟩
        obtain ⟨nv, hnv, as9, rnv⟩ := R8.vars ("n", 1) (by rw [htb0]; exact .tail _ (.head _)) (.dat (.int n)) rfl
        obtain ⟨tn, rfl⟩ := inv_int rnv
        have hin8 : Holds env s5.heap "inner" (.ref fa) := hin.keeps fun b o e hd => g38.obj R3.st e hd (fun h => nomatch h)
        obtain ⟨cd, e1', i1⟩ := holds_cell hv7 (hkind _ _ hcells.1)
        obtain ⟨cn, e2', i2⟩ := holds_cell hnv (hkind _ _ hcells.2)
        obtain ⟨cf, e3', i3⟩ := holds_cell hin8 (hkind _ _ N.inner)
        have hDt : ¬ isTab C D := R8.notab D hDX
        have pm := ahead (ex := ex) hDX
        have hz1 := fz_perm fun p => (pm p).symm
        have htx : ∀ t ∈ C.tabs, t.P ∈ X2.filter (· ≠ D) ++ ex := fun t ht => List.mem_append_right _ (S.tabx t ht)
        refine inner_i2d (s1 := s1) (sB := sB) (s3 := s3) (s4 := s4) (s5 := s5') (q := q) (D := ⟨C, ci, ip, _, iscope, "a_digits", _, t.qual, frees env iscope.names [], doc', pm', ctv, c', fa, cd, cn, cf, n, tn, _⟩)
          ⟨⟨I, frees_lookup ((hfr _).mpr (.inr (.inr rfl))) e1', frees_lookup ((hfr _).mpr (.inr (.inl rfl))) e2', frees_lookup ((hfr _).mpr (.inl rfl)) e3', fun x y b hx hy => R8.apart x y b (frees_back hfree hx).2 (frees_back hfree hy).2, fun x b hx => (hfr x).mp (frees_back hfree hx).1, fun k => ok_nil hfn hco N.bi, hwr, hln⟩, rfl, rfl, rfl, htb, hs1, hs25⟩
          hDt f a 0 vs7.size (List.replicate (cntI a n) 0) r (by rw [hsz7]; exact hv) (A.deeper env) _ (X2.filter (· ≠ D) ++ ex) vs7 as7 _ _ _ _ (RD.le (Nat.le_succ _)) (R8.st.show_ (fun p hp => (pm p).mp hp) fun t ht => .tail _ (htx t ht)) (not_ahead (R8.disj D hDX)) htx (by rw [List.length_replicate]; exact Nat.le_trans cnt_le (by decide))
          ⟨hz1 _ _ _ (hz38 _ _ hfo), (hrec.keeps hz38).keeps (hz1 _), i1, i2, i3⟩ hp7 (ReadsAll.keeps (hz1 _) hr7) (.cons (.int _ u1) (.cons (.int _ _) (.cons (.int _ _) .nil))) fun vs9 as9' s9 g9 S9 hp9 hr9 => ?_
        · have S9' : St C (X2 ++ ex) s9 := S9.show_ (fun p hp => (pm p).mpr hp) fun t ht => List.mem_append_right _ (S.tabx t ht)
          have R9 := R8.mutG (p := ("a_digits", 2)) (l' := r.map .int) (by rw [htb0]; exact .tail _ (.tail _ (.head _))) rfl hv7 hDX hp7 g9 S9' hp9 (ReadsAll.keeps (fz_perm pm _) hr9)
          have G9 : Grow C [] s s9 := G8.trans g9 fun p hp => .inr (by rw [List.mem_singleton.mp hp]; exact fr2 D hDX)
          exact wpAny_execs_nil (fin s9 r G9 R9 rfl)
  · cases hv
end
end Mine

-- S1
namespace Mine
open PySem PySem.Spec PySem.Calls PyProof.Rows PySem.W

/-- statements, with loops over the generator g at the top -/
noncomputable def for? : Stmt → Option (Expr × Expr × List Stmt × Pos)
  | .For te it b o p => gd o.isEmpty (some (te, it, b, p))
  | _ => none
theorem forE {st : Stmt} {x : Expr × Expr × List Stmt × Pos} (h : for? st = some x) : st = .For x.1 x.2.1 x.2.2.1 [] x.2.2.2 := by
  cases st with
  | For te it b o p => exact gdE h fun h0 h => by rw [show o = [] from List.isEmpty_iff.mp h0]; exact someE (P := fun x : Expr × Expr × List Stmt × Pos => Stmt.For te it b [] p = .For x.1 x.2.1 x.2.2.1 [] x.2.2.2) h rfl
  | _ => exact noneE h
noncomputable def cSG (g : Str) (n : Nat) (c : CC) (s : Stmt) : Option MS :=
  alt ((for? s).bind fun q => (call? q.2.1).bind fun w => (nm? w.1).bind fun f => (one? w.2.1).bind fun e => gd (f.1 == g && (isGlob c f.1 && (f.1 != ("__debug__" : Str) && notStar e)))
    ((targetOf (wtb c) q.1).bind fun tg => (cE n c e).bind fun m => (cSs n c q.2.2.1).map fun bm => .forG tg m bm)) (cS n c s)
noncomputable def cSsG (g : Str) (n : Nat) (c : CC) (l : List Stmt) : Option (List MS) := cSl c (cSG g n) l
theorem cSG_ok {C : Cx} {F : Orc} {k W n : Nat} {d : DefRec} (GD : GenDef C d) : RecSOk C F k W (cSG d.name n) := fun c st m O h => by
  refine altE h (fun h => bindE h fun q hq h => bindE h fun w hw h => bindE h fun f hf h => bindE h fun e he h => gdE h fun hc h => bindE h fun tg ht h => bindE h fun m hm h => mapE h fun bm hb => ?_) fun h => cS_ok n _ _ _ O h
  refine andE' hc fun h1 hc => andE' hc fun h2 hc => andE' hc fun h3 h4 => ?_
  rw [forE hq, callE hw, nmE hf, oneE he]
  exact s_forG GD (eq_of_beq h1) h2 (neE h3) h4 (snd_all n _ _ _ O hm).1 (wtb_tg ht) (sl_ok (cS_ok n) O hb)
theorem cSsG_ok {C : Cx} {F : Orc} {k W n : Nat} {c : CC} {d : DefRec} (O : Ok C k F c) (GD : GenDef C d) {sts : List Stmt} {ms : List MS} (h : cSsG d.name n c sts = some ms) : SSs C F k W c sts ms := sl_ok (cSG_ok GD) O h
end Mine

-- A1
namespace Mine
open PySem PySem.Spec PySem.Calls PyProof.Rows PySem.W

/-! ## numbers -/
theorem bits_le {x : Int} {m : Nat} : bits x ≤ m ↔ x.natAbs < 2 ^ m := intBits_le_iff
theorem bits_nat {x m : Nat} : bits (x : Int) ≤ m ↔ x < 2 ^ m := bits_le
theorem bits_eq {x m : Nat} (h : x ≠ 0) : bits (x : Int) = m + 1 ↔ 2 ^ m ≤ x ∧ x < 2 ^ (m + 1) := by
  have h1 : bits (x : Int) ≤ m + 1 ↔ x < 2 ^ (m + 1) := bits_nat
  have h2 : bits (x : Int) ≤ m ↔ x < 2 ^ m := bits_nat
  omega
theorem bits_zero : bits (0 : Int) = 0 := by decide
theorem bits_pos {x : Nat} (h : 0 < x) : 1 ≤ bits (x : Int) := by
  have h2 : bits (x : Int) ≤ 0 ↔ x < 2 ^ 0 := bits_nat
  simp at h2; omega
theorem bits_lt (x : Nat) : x < 2 ^ bits (x : Int) := bits_nat.mp (Nat.le_refl _)
theorem bits_ge {x : Nat} (h : 0 < x) : 2 ^ (bits (x : Int) - 1) ≤ x := by
  have h2 : bits (x : Int) ≤ bits (x : Int) - 1 ↔ x < 2 ^ (bits (x : Int) - 1) := bits_nat
  have := bits_pos h
  omega

theorem fdiv_nat (a b : Nat) : (a : Int).fdiv (b : Int) = ((a / b : Nat) : Int) := by
  rw [Int.fdiv_eq_ediv_of_nonneg _ (by omega)]; rfl
theorem fmod_nat (a b : Nat) : (a : Int).fmod (b : Int) = ((a % b : Nat) : Int) := by
  rw [Int.fmod_eq_emod_of_nonneg _ (by omega)]; rfl
theorem two_pow_cast (n : Nat) : (2 : Int) ^ n = ((2 ^ n : Nat) : Int) := by simp
theorem shr_nat (a n : Nat) : (a : Int).fdiv (2 ^ n) = ((a / 2 ^ n : Nat) : Int) := by
  rw [two_pow_cast, fdiv_nat]
theorem shl_nat (a n : Nat) : (a : Int) * 2 ^ n = ((a * 2 ^ n : Nat) : Int) := by simp
theorem and_nat (a b : Nat) : Builtin.bitAnd (a : Int) (b : Int) = ((a &&& b : Nat) : Int) := by
  rw [bitAnd_pp (by omega) (by omega)]; simp
theorem and_mask (a k : Nat) : Builtin.bitAnd (a : Int) ((2 ^ k - 1 : Nat) : Int) = ((a % 2 ^ k : Nat) : Int) := by
  rw [and_nat, Nat.and_two_pow_sub_one_eq_mod]
theorem and_mulpow {x k y : Nat} (hy : y < 2 ^ k) : (x * 2 ^ k) &&& y = 0 := by
  apply Nat.eq_of_testBit_eq
  intro i
  rw [Nat.testBit_and, Nat.zero_testBit, Nat.mul_comm, Nat.testBit_two_pow_mul]
  by_cases h : k ≤ i
  · rw [Nat.testBit_lt_two_pow (Nat.lt_of_lt_of_le hy (Nat.pow_le_pow_right (by decide) h))]; simp
  · simp [h]
theorem or_shl {x k y : Nat} (hy : y < 2 ^ k) : Builtin.bitOr ((x * 2 ^ k : Nat) : Int) (y : Int) = ((x * 2 ^ k + y : Nat) : Int) := by
  rw [bitOr_and, and_nat, and_mulpow hy]; simp
theorem and_self_mul (x k : Nat) : x &&& (x / 2 ^ k * 2 ^ k) = x / 2 ^ k * 2 ^ k := by
  apply Nat.eq_of_testBit_eq
  intro i
  rw [Nat.testBit_and, Nat.mul_comm, Nat.testBit_two_pow_mul]
  by_cases h : k ≤ i
  · rw [Nat.testBit_div_two_pow]; simp [h]
  · simp [h]
theorem xor_low (x k : Nat) : Builtin.bitXor (x : Int) ((x / 2 ^ k * 2 ^ k : Nat) : Int) = ((x % 2 ^ k : Nat) : Int) := by
  rw [bitXor_and, and_nat, and_self_mul]
  have := Nat.div_add_mod x (2 ^ k)
  rw [Nat.mul_comm] at this
  omega

theorem mulOk_of {a b : Int} {m n : Nat} (ha : bits a ≤ m) (hb : bits b ≤ n) (h : m + n ≤ 2 ^ 27) : mulOk a b = true := by
  unfold mulOk
  have : bits a + bits b ≤ 2 ^ 27 := by omega
  simp only [this, decide_true, Bool.or_true]

/-! the digits of a number -/
noncomputable def digs (n : Nat) : Nat → Nat → List Nat
  | 0, _ => []
  | k + 1, a => a % 2 ^ n :: digs n k (a / 2 ^ n)
theorem digs_len {n : Nat} : ∀ {k a : Nat}, (digs n k a).length = k
  | 0, _ => rfl
  | k + 1, a => by simp [digs, digs_len]
theorem digs_append {n : Nat} : ∀ (j k a : Nat), digs n (j + k) a = digs n j (a % 2 ^ (n * j)) ++ digs n k (a / 2 ^ (n * j))
  | 0, k, a => by simp [digs]
  | j + 1, k, a => by
    rw [show j + 1 + k = (j + k) + 1 by omega]
    simp only [digs]
    rw [digs_append j k]
    have e1 : a % 2 ^ (n * (j + 1)) % 2 ^ n = a % 2 ^ n := Nat.mod_mod_of_dvd _ (Nat.pow_dvd_pow 2 (by rw [Nat.mul_succ]; omega))
    have e2 : a % 2 ^ (n * (j + 1)) / 2 ^ n = a / 2 ^ n % 2 ^ (n * j) := by
      rw [Nat.mul_succ, Nat.add_comm, Nat.pow_add, Nat.mod_mul_right_div_self]
    have e3 : a / 2 ^ (n * (j + 1)) = a / 2 ^ n / 2 ^ (n * j) := by
      rw [Nat.mul_succ, Nat.add_comm, Nat.pow_add, Nat.div_div_eq_div_mul]
    rw [e1, e2, e3]; rfl
noncomputable def undigs (n : Nat) : List Nat → Nat
  | [] => 0
  | d :: r => d + 2 ^ n * undigs n r
theorem undigs_digs {n : Nat} : ∀ {k a : Nat}, a < 2 ^ (n * k) → undigs n (digs n k a) = a
  | 0, a, h => by simp at h; simp [digs, undigs, h]
  | k + 1, a, h => by
    simp only [digs, undigs]
    rw [undigs_digs]
    · exact Nat.mod_add_div a (2 ^ n)
    · rw [Nat.mul_succ, Nat.add_comm, Nat.pow_add] at h
      exact Nat.div_lt_of_lt_mul h
theorem undigs_append {n : Nat} : ∀ (l m : List Nat), undigs n (l ++ m) = undigs n l + 2 ^ (n * l.length) * undigs n m
  | [], m => by simp [undigs]
  | d :: r, m => by
    simp only [List.cons_append, undigs, undigs_append r m, List.length_cons]
    rw [Nat.mul_succ, Nat.add_comm (n * r.length), Nat.pow_add, Nat.mul_add, Nat.mul_assoc, Nat.add_assoc]
theorem undigs_lt {n : Nat} : ∀ {l : List Nat}, (∀ d ∈ l, d < 2 ^ n) → undigs n l < 2 ^ (n * l.length)
  | [], _ => by simp [undigs]
  | d :: r, h => by
    have h1 := undigs_lt (n := n) (l := r) fun x hx => h x (.tail _ hx)
    have h2 := h d (.head _)
    simp only [undigs, List.length_cons]
    rw [Nat.mul_succ, Nat.add_comm (n * r.length), Nat.pow_add]
    have h3 : 2 ^ n * (undigs n r + 1) ≤ 2 ^ n * 2 ^ (n * r.length) := Nat.mul_le_mul_left _ h1
    rw [Nat.mul_succ] at h3
    omega
end Mine

-- A3
namespace Mine
open PySem PySem.Spec PySem.Calls PyProof.Rows PySem.W

noncomputable def casts (l : List Nat) : List Int := l.map fun (x : Nat) => (x : Int)

theorem small_bits {x m : Nat} (h : x < 2 ^ m) : bits (x : Int) ≤ m := bits_nat.mpr h

theorem pow_half {d f q : Nat} (h : d ≤ 2 ^ (f + 1)) (h1 : q = 2 ^ f) : d ≤ q + q := by rw [Nat.pow_succ, ← h1] at h; omega
theorem mid_lt {L R m : Nat} (h1 : L < R) (e : ¬ L + 1 = R) (hm : (L + R) / 2 = m) : L < m ∧ m < R := by omega
theorem mid_le {L R m q : Nat} (h1 : L < R) (hm : (L + R) / 2 = m) (h4 : R - L ≤ q + q) : m - L ≤ q ∧ R - m ≤ q := by
  have h5 : R ≤ q + q + L := Nat.sub_le_iff_le_add.mp h4
  clear h4 h1
  exact ⟨Nat.sub_le_of_le_add (by omega), Nat.sub_le_of_le_add (by omega)⟩
theorem mid_sum {L R m : Nat} (h : L < m) (h2 : m < R) : m - L + (R - m) = R - L := by rw [Nat.add_comm]; exact Nat.sub_add_sub_cancel (Nat.le_of_lt h2) (Nat.le_of_lt h)
theorem cast_sub {L m : Nat} (h : L < m) : (m : Int) - (L : Int) = ((m - L : Nat) : Int) := (Int.ofNat_sub (Nat.le_of_lt h)).symm
theorem one_of {L R f : Nat} (h : L < R) (h0 : f = 0) (h4 : R - L ≤ 2 ^ f) : L + 1 = R := by subst h0; simp at h4; omega
theorem sub_one (L : Nat) : L + 1 - L = 1 := Nat.add_sub_cancel_left ..
theorem mulOk_dn {d n : Nat} (hd : d ≤ 4096) (hn : n ≤ 9000) : mulOk (d : Int) (n : Int) = true := mulOk_of (m := 13) (n := 14) (small_bits (Nat.lt_of_le_of_lt hd (by decide))) (small_bits (Nat.lt_of_le_of_lt hn (by decide))) (by decide)
theorem sz_ok {x n d e : Nat} (hn : n ≤ 9000) (hd : d ≤ 4096) (he : e ≤ 4096) (hx : x ≤ n * e) : (x : Int) + ((n * d : Nat) : Int) ≤ 2 ^ 27 := by
  have h1 := Nat.mul_le_mul hn hd
  have h2 := Nat.le_trans hx (Nat.mul_le_mul hn he)
  omega
theorem prod_dn {L m n : Nat} (h : L < m) : ((m : Int) - (L : Int)) * (n : Int) = ((n * (m - L) : Nat) : Int) := by
  rw [cast_sub h, Nat.mul_comm]; rfl
theorem take_app {α : Type} {a b c : List α} {m R : Nat} (h : (a ++ b).length = m) (hm : m ≤ R) : (a ++ b ++ c.drop m).take m = a ++ b ∧ (a ++ b ++ c.drop m).drop R = c.drop R := by
  refine ⟨by rw [← h]; exact List.take_left' rfl, ?_⟩
  rw [List.drop_append, List.drop_of_length_le (by rw [h]; exact hm), h, List.drop_drop, Nat.add_sub_cancel' hm]; rfl
theorem set_one {α : Type} {items : List α} {L : Nat} {v : α} (h : L < items.length) : items.set L v = items.take L ++ [v] ++ items.drop (L + 1) := by
  rw [List.set_eq_take_append_cons_drop, if_pos h, List.append_assoc]; rfl
theorem leafI {n L x : Nat} {items : List Int} (f : Nat) (h2 : L < items.length) (h5 : x < 2 ^ (n * (L + 1 - L))) : i2dGo (n : Int) (f + 1) items (x : Int) L (L + 1) = some (items.take L ++ casts (digs n (L + 1 - L) x) ++ items.drop (L + 1)) := by
  rw [sub_one] at h5 ⊢
  rw [Nat.mul_one] at h5
  rw [i2dGo, if_pos rfl, if_pos h2, set_one h2]
  show _ = some (_ ++ [((x % 2 ^ n : Nat) : Int)] ++ _)
  rw [Nat.mod_eq_of_lt h5]

theorem i2dGo_eq {n : Nat} (hn : n ≤ 9000) : ∀ (f : Nat) (items : List Int) (x L R : Nat), L < R → R ≤ items.length → R ≤ 4096 → R - L ≤ 2 ^ f → x < 2 ^ (n * (R - L)) →
    i2dGo (n : Int) (f + 1) items (x : Int) L R = some (items.take L ++ casts (digs n (R - L) x) ++ items.drop R) := by
  intro f
  induction f with
  | zero =>
    intro items x L R h1 h2 h3 h4 h5
    obtain rfl := one_of h1 rfl h4
    exact leafI 0 h2 h5
  | succ f ih =>
    intro items x L R h1 h2 h3 h4 h5
    by_cases e : L + 1 = R
    · subst e
      exact leafI (f + 1) h2 h5
    · rw [i2dGo, if_neg e]
      generalize hm : (L + R) / 2 = m
      obtain ⟨m1, m2⟩ := mid_lt h1 e hm
      obtain ⟨m3, m4⟩ := mid_le h1 hm (pow_half h4 rfl)
      have k1 : m - L ≤ 4096 := Nat.le_trans (Nat.sub_le ..) (Nat.le_trans (Nat.le_of_lt m2) h3)
      have k2 : R - L ≤ 4096 := Nat.le_trans (Nat.sub_le ..) h3
      have hsum := mid_sum m1 m2
      have h2' : m ≤ items.length := Nat.le_trans (Nat.le_of_lt m2) h2
      rw [prod_dn m1]
      simp only [Int.toNat_natCast, shr_nat, shl_nat, xor_low]
      have g3 : bits ((x / 2 ^ (n * (m - L)) : Nat) : Int) ≤ n * (R - L) := small_bits (Nat.lt_of_le_of_lt (Nat.div_le_self ..) h5)
      rw [if_pos ⟨h1, by rw [cast_sub m1]; exact mulOk_dn k1 hn, Int.natCast_nonneg _, sz_ok hn k1 k2 g3⟩]
      rw [ih _ _ _ _ m1 h2' (Nat.le_trans (Nat.le_of_lt m2) h3) m3 (Nat.mod_lt _ (Nat.two_pow_pos _)), Option.bind_some]
      have hx2 : x / 2 ^ (n * (m - L)) < 2 ^ (n * (R - m)) := by
        apply Nat.div_lt_of_lt_mul
        rw [← Nat.pow_add, ← Nat.mul_add, hsum]; exact h5
      have hl : (items.take L ++ casts (digs n (m - L) (x % 2 ^ (n * (m - L))))).length = m := by
        rw [List.length_append, List.length_take, casts, List.length_map, digs_len, Nat.min_eq_left (Nat.le_trans (Nat.le_of_lt m1) h2'), Nat.add_sub_cancel' (Nat.le_of_lt m1)]
      obtain ⟨t1, t2⟩ := take_app (c := items) hl (Nat.le_of_lt m2)
      rw [ih _ _ _ _ m2 (by rw [List.length_append, hl, List.length_drop, Nat.add_sub_cancel' h2']; exact h2) h3 m4 hx2, t1, t2, ← hsum, digs_append, casts, casts, casts, List.map_append, List.append_assoc (items.take L)]

theorem cnt_nat {a n : Nat} (hn : 1 ≤ n) : cntI (a : Int) (n : Int) = (bits (a : Int) + n - 1) / n ∧ ((bits (a : Int) : Int) + (n : Int) - 1).fdiv (n : Int) = (((bits (a : Int) + n - 1) / n : Nat) : Int) := by
  have : ((bits (a : Int) : Int) + (n : Int) - 1) = ((bits (a : Int) + n - 1 : Nat) : Int) := by omega
  unfold cntI
  rw [this, fdiv_nat]
  exact ⟨Int.toNat_natCast _, rfl⟩
theorem lt_cnt {a n : Nat} (hn : 1 ≤ n) : a < 2 ^ (n * ((bits (a : Int) + n - 1) / n)) := by
  refine Nat.lt_of_lt_of_le (bits_lt a) (Nat.pow_le_pow_right (by decide) ?_)
  have := Nat.div_add_mod (bits (a : Int) + n - 1) n
  have h2 := Nat.mod_lt (bits (a : Int) + n - 1) (show n > 0 by omega)
  omega

theorem i2dTop_eq {a n : Nat} (hn1 : 1 ≤ n) (hn : n ≤ 9000) (hc : (bits (a : Int) + n - 1) / n ≤ 4096) :
    i2dTop 13 (a : Int) (n : Int) = some (casts (digs n ((bits (a : Int) + n - 1) / n) a)) := by
  obtain ⟨c1, c2⟩ := cnt_nat (a := a) hn1
  have hb : bits (n : Int) ≤ 9000 := Nat.le_trans (small_bits (m := 14) (by omega)) (by decide)
  unfold i2dTop
  rw [if_pos ⟨by omega, hb, by rw [c2]; omega, by rw [c2]; omega⟩, c1]
  by_cases h0 : a = 0
  · subst h0
    have : (bits ((0 : Nat) : Int) + n - 1) / n = 0 := by
      rw [show bits ((0 : Nat) : Int) = 0 from bits_zero]
      exact Nat.div_eq_of_lt (by omega)
    rw [this]; simp [digs, casts]
  · rw [if_neg (by omega)]
    have hp : 0 < (bits (a : Int) + n - 1) / n := Nat.div_pos (by have := bits_pos (x := a) (by omega); omega) (by omega)
    rw [i2dGo_eq hn 12 _ a 0 _ hp (by simp) hc (by omega) (by simpa using lt_cnt hn1)]
    simp

theorem leaf1 {n L : Nat} {ds : List Nat} (h : L < ds.length) : (casts ds)[L]? = some ((undigs n ((ds.drop L).take (L + 1 - L)) : Nat) : Int) := by
  have e2 : (ds.drop L).take 1 = [ds[L]] := by rw [List.drop_eq_getElem_cons h]; rfl
  rw [sub_one, e2]
  simp [undigs, casts, List.getElem?_eq_getElem h]
theorem len_mid {α : Type} {ds : List α} {m R : Nat} (h : R ≤ ds.length) : ((ds.drop m).take (R - m)).length = R - m := by
  rw [List.length_take, List.length_drop, Nat.min_eq_left (Nat.sub_le_sub_right h m)]
theorem d2iGo_eq {n : Nat} (hn : n ≤ 9000) {ds : List Nat} (hl : ds.length ≤ 4096) (hd : ∀ d ∈ ds, d < 2 ^ n) : ∀ (f L R : Nat), L < R → R ≤ ds.length → R - L ≤ 2 ^ f →
    d2iGo (casts ds) (n : Int) (f + 1) L R = some ((undigs n ((ds.drop L).take (R - L)) : Nat) : Int) := by
  intro f
  induction f with
  | zero =>
    intro L R h1 h2 h3
    obtain rfl := one_of h1 rfl h3
    rw [d2iGo, if_pos rfl]
    exact leaf1 h2
  | succ f ih =>
    intro L R h1 h2 h3
    by_cases e : L + 1 = R
    · subst e
      rw [d2iGo, if_pos rfl]
      exact leaf1 h2
    · rw [d2iGo, if_neg e, if_pos h1]
      generalize hm : (L + R) / 2 = m
      obtain ⟨m1, m2⟩ := mid_lt h1 e hm
      obtain ⟨m3, m4⟩ := mid_le h1 hm (pow_half h3 rfl)
      have h2' : m ≤ ds.length := Nat.le_trans (Nat.le_of_lt m2) h2
      have k1 : m - L ≤ 4096 := Nat.le_trans (Nat.sub_le ..) (Nat.le_trans h2' hl)
      have k2 : R - m ≤ 4096 := Nat.le_trans (Nat.sub_le ..) (Nat.le_trans h2 hl)
      rw [ih _ _ m2 h2 m4, ih _ _ m1 h2' m3, Option.bind_some, Option.bind_some, prod_dn m1]
      have hlt : undigs n ((ds.drop m).take (R - m)) < 2 ^ (n * (R - m)) := by
        have := undigs_lt (n := n) (l := (ds.drop m).take (R - m)) fun d h => hd d (List.mem_of_mem_drop (List.mem_of_mem_take h))
        rwa [len_mid h2] at this
      have g1 : mulOk ((m : Int) - (L : Int)) (n : Int) = true := by rw [cast_sub m1]; exact mulOk_dn k1 hn
      rw [g1, decide_eq_true (Int.natCast_nonneg (n * (m - L))), decide_eq_true (sz_ok hn k1 k2 (small_bits hlt))]
      have hs : (ds.drop L).take (R - L) = (ds.drop L).take (m - L) ++ (ds.drop m).take (R - m) := by
        rw [← mid_sum m1 m2, List.take_add, List.drop_drop, Nat.add_sub_cancel' (Nat.le_of_lt m1)]
      rw [hs, undigs_append, len_mid h2', Nat.add_comm, Nat.mul_comm (2 ^ _)]
      show some (_ * 2 ^ ((n * (m - L) : Nat) : Int).toNat + _) = _
      rw [Int.toNat_natCast, shl_nat]; rfl

theorem d2i_eq {n : Nat} (hn : n ≤ 9000) {ds : List Nat} (hl : ds.length ≤ 4096) (hd : ∀ d ∈ ds, d < 2 ^ n) : if casts ds = [] then ((undigs n ds : Nat) : Int) = 0 else d2iGo (casts ds) (n : Int) 13 0 (casts ds).length = some ((undigs n ds : Nat) : Int) := by
  cases ds with
  | nil => simp [casts, undigs]
  | cons d r =>
    rw [if_neg (by simp [casts]), show (casts (d :: r)).length = (d :: r).length by simp [casts], d2iGo_eq hn hl hd 12 0 _ (by simp) (Nat.le_refl _) (by simp at hl ⊢; omega)]
    rw [List.drop_zero, Nat.sub_zero, List.take_length]
end Mine

-- A2
namespace Mine
open PySem PySem.Spec PySem.Calls PyProof.Rows PySem.W

noncomputable def s_strip_quoted_realnames_0 : MS := .ite (.cmp .NotIn (.lit (.str ⟨#[34]⟩)) (.var 0)) [.ret (.var 0)] []
noncomputable def s_strip_quoted_realnames_1 : MS := .assign 1 (.lit (.int 0))
noncomputable def s_strip_quoted_realnames_2 : MS := .assign 2 (.lit .none)
noncomputable def s_strip_quoted_realnames_3 : MS := .own 3 (.lst [])
noncomputable def s_strip_quoted_realnames_4 : MS := .forG (.many [4, 5]) (.var 0) [.ite (.cmp .Eq (.var 5) (.lit (.str ⟨#[34]⟩))) [.ite (.cmp .Is (.var 2) (.lit .none)) [.assign 2 (.var 4)] [.ite (.cmp .NotEq (.var 1) (.var 2)) [.app 3 (.slice (.var 0) (.var 1) (.var 2))] [], .assign 1 (.bin .Add (.var 4) (.lit (.int 1))), .assign 2 (.lit .none)]] []]
noncomputable def s_strip_quoted_realnames_5 : MS := .ite (.cmp .Lt (.var 1) (.bi 0 [(.var 0)])) [.app 3 (.slice (.var 0) (.var 1) (.lit .none))] []
noncomputable def s_strip_quoted_realnames_6 : MS := .ret (.meth 3 (.lit (.str ⟨#[]⟩)) [(.var 3)])
noncomputable def m_strip_quoted_realnames : MFn := ⟨1, 6, [s_strip_quoted_realnames_0, s_strip_quoted_realnames_1, s_strip_quoted_realnames_2, s_strip_quoted_realnames_3, s_strip_quoted_realnames_4, s_strip_quoted_realnames_5, s_strip_quoted_realnames_6]⟩
noncomputable def s_check_parenthesis_0 : MS := .assign 0 (.call 1 [(.var 0)])
noncomputable def s_check_parenthesis_1 : MS := .assign 1 (.lit (.int 0))
noncomputable def s_check_parenthesis_2 : MS := .forG (.many [2, 3]) (.var 0) [.ite (.cmp .Eq (.var 3) (.lit (.str ⟨#[40]⟩))) [.aug 1 .Add (.lit (.int 1))] [.ite (.cmp .Eq (.var 3) (.lit (.str ⟨#[41]⟩))) [.aug 1 .Sub (.lit (.int 1)), .ite (.cmp .Lt (.var 1) (.lit (.int 0))) [.ret (.lit (.bool false))] []] []]]
noncomputable def s_check_parenthesis_3 : MS := .ret (.cmp .Eq (.var 1) (.lit (.int 0)))
noncomputable def m_check_parenthesis : MFn := ⟨1, 4, [s_check_parenthesis_0, s_check_parenthesis_1, s_check_parenthesis_2, s_check_parenthesis_3]⟩
noncomputable def s_pre_parse_validation_0 : MS := .own 1 (.lst [])
noncomputable def s_pre_parse_validation_1 : MS := .for_ (.one 2) (.var 0) [.ite (.un .Not (.call 2 [(.var 2)])) [.assign 2 (.lit (.str ⟨#[40, 39, 39, 44, 32, 39, 39, 41]⟩))] [], .app 1 (.var 2)]
noncomputable def s_pre_parse_validation_2 : MS := .ret (.var 1)
noncomputable def m_pre_parse_validation : MFn := ⟨1, 3, [s_pre_parse_validation_0, s_pre_parse_validation_1, s_pre_parse_validation_2]⟩
noncomputable def s_div2n1n_0 : MS := .ite (.cmp .LtE (.bin .Sub (.meth 0 (.var 0) []) (.var 2)) (.lit (.int 4000))) [.ret (.bi 7 [(.var 0), (.var 1)])] []
noncomputable def s_div2n1n_1 : MS := .assign 3 (.bin .BitAnd (.var 2) (.lit (.int 1)))
noncomputable def s_div2n1n_2 : MS := .ite (.var 3) [.aug 0 .LShift (.lit (.int 1)), .aug 1 .LShift (.lit (.int 1)), .aug 2 .Add (.lit (.int 1))] []
noncomputable def s_div2n1n_3 : MS := .assign 4 (.bin .RShift (.var 2) (.lit (.int 1)))
noncomputable def s_div2n1n_4 : MS := .assign 5 (.bin .Sub (.bin .LShift (.lit (.int 1)) (.var 4)) (.lit (.int 1)))
noncomputable def s_div2n1n_5 : MS := .assignT [6, 7] (.tup [(.bin .RShift (.var 1) (.var 4)), (.bin .BitAnd (.var 1) (.var 5))])
noncomputable def s_div2n1n_6 : MS := .assignT [8, 9] (.call 5 [(.bin .RShift (.var 0) (.var 2)), (.bin .BitAnd (.bin .RShift (.var 0) (.var 4)) (.var 5)), (.var 1), (.var 6), (.var 7), (.var 4)])
noncomputable def s_div2n1n_7 : MS := .assignT [10, 9] (.call 5 [(.var 9), (.bin .BitAnd (.var 0) (.var 5)), (.var 1), (.var 6), (.var 7), (.var 4)])
noncomputable def s_div2n1n_8 : MS := .ite (.var 3) [.aug 9 .RShift (.lit (.int 1))] []
noncomputable def s_div2n1n_9 : MS := .ret (.tup [(.bin .BitOr (.bin .LShift (.var 8) (.var 4)) (.var 10)), (.var 9)])
noncomputable def m_div2n1n : MFn := ⟨3, 11, [s_div2n1n_0, s_div2n1n_1, s_div2n1n_2, s_div2n1n_3, s_div2n1n_4, s_div2n1n_5, s_div2n1n_6, s_div2n1n_7, s_div2n1n_8, s_div2n1n_9]⟩
noncomputable def s_div3n2n_0 : MS := .ite (.cmp .Eq (.bin .RShift (.var 0) (.var 5)) (.var 3)) [.assignT [6, 7] (.tup [(.bin .Sub (.bin .LShift (.lit (.int 1)) (.var 5)) (.lit (.int 1))), (.bin .Add (.bin .Sub (.var 0) (.bin .LShift (.var 3) (.var 5))) (.var 3))])] [.assignT [6, 7] (.call 4 [(.var 0), (.var 3), (.var 5)])]
noncomputable def s_div3n2n_1 : MS := .assign 7 (.bin .Sub (.bin .BitOr (.bin .LShift (.var 7) (.var 5)) (.var 1)) (.bin .Mult (.var 6) (.var 4)))
noncomputable def s_div3n2n_2 : MS := .whl (.cmp .Lt (.var 7) (.lit (.int 0))) [.aug 6 .Sub (.lit (.int 1)), .aug 7 .Add (.var 2)]
noncomputable def s_div3n2n_3 : MS := .ret (.tup [(.var 6), (.var 7)])
noncomputable def m_div3n2n : MFn := ⟨6, 8, [s_div3n2n_0, s_div3n2n_1, s_div3n2n_2, s_div3n2n_3]⟩
noncomputable def s_divmod_pos_0 : MS := .assign 2 (.meth 0 (.var 1) [])
noncomputable def s_divmod_pos_1 : MS := .assign 3 (.call 6 [(.var 0), (.var 2)])
noncomputable def s_divmod_pos_2 : MS := .assign 4 (.lit (.int 0))
noncomputable def s_divmod_pos_3 : MS := .own 5 (.lst [])
noncomputable def s_divmod_pos_4 : MS := .for_ (.one 6) (.rev (.var 3)) [.assignT [7, 4] (.call 4 [(.bin .Add (.bin .LShift (.var 4) (.var 2)) (.var 6)), (.var 1), (.var 2)]), .app 5 (.var 7)]
noncomputable def s_divmod_pos_5 : MS := .rev 5
noncomputable def s_divmod_pos_6 : MS := .assign 8 (.call 7 [(.var 5), (.var 2)])
noncomputable def s_divmod_pos_7 : MS := .ret (.tup [(.var 8), (.var 4)])
noncomputable def m_divmod_pos : MFn := ⟨2, 9, [s_divmod_pos_0, s_divmod_pos_1, s_divmod_pos_2, s_divmod_pos_3, s_divmod_pos_4, s_divmod_pos_5, s_divmod_pos_6, s_divmod_pos_7]⟩
noncomputable def s_int_divmod_0 : MS := .ite (.cmp .Eq (.var 1) (.lit (.int 0))) [.fail] [.ite (.cmp .Lt (.var 1) (.lit (.int 0))) [.assignT [2, 3] (.call 9 [(.un .USub (.var 0)), (.un .USub (.var 1))]), .ret (.tup [(.var 2), (.un .USub (.var 3))])] [.ite (.cmp .Lt (.var 0) (.lit (.int 0))) [.assignT [2, 3] (.call 9 [(.un .Invert (.var 0)), (.var 1)]), .ret (.tup [(.un .Invert (.var 2)), (.bin .Add (.var 1) (.un .Invert (.var 3)))])] [.ret (.call 8 [(.var 0), (.var 1)])]]]
noncomputable def m_int_divmod : MFn := ⟨2, 4, [s_int_divmod_0]⟩
noncomputable def s_substitution_cost_0 : MS := .ite (.cmp .Eq (.var 0) (.var 1)) [.ret (.lit (.int 0))] []
noncomputable def s_substitution_cost_1 : MS := .ite (.cmp .Eq (.meth 1 (.var 0) []) (.meth 1 (.var 1) [])) [.ret (.lit (.int 1))] []
noncomputable def s_substitution_cost_2 : MS := .ret (.lit (.int 2))
noncomputable def m_substitution_cost : MFn := ⟨2, 2, [s_substitution_cost_0, s_substitution_cost_1, s_substitution_cost_2]⟩
noncomputable def s_levenshtein_distance_0 : MS := .ite (.cmp .Eq (.var 0) (.var 1)) [.ret (.lit (.int 0))] []
noncomputable def s_levenshtein_distance_1 : MS := .assign 3 (.lit (.int 0))
noncomputable def s_levenshtein_distance_2 : MS := .whl (.andE (.slice (.var 0) (.var 3) (.lit .none)) (.andE (.slice (.var 1) (.var 3) (.lit .none)) (.cmp .Eq (.subo 0 (.var 3)) (.subo 1 (.var 3))))) [.aug 3 .Add (.lit (.int 1))]
noncomputable def s_levenshtein_distance_3 : MS := .assign 0 (.slice (.var 0) (.var 3) (.lit .none))
noncomputable def s_levenshtein_distance_4 : MS := .assign 1 (.slice (.var 1) (.var 3) (.lit .none))
noncomputable def s_levenshtein_distance_5 : MS := .assign 4 (.lit (.int 0))
noncomputable def s_levenshtein_distance_6 : MS := .whl (.andE (.slice (.var 0) (.lit .none) (.orE (.var 4) (.lit .none))) (.andE (.slice (.var 1) (.lit .none) (.orE (.var 4) (.lit .none))) (.cmp .Eq (.subo 0 (.bin .Sub (.var 4) (.lit (.int 1)))) (.subo 1 (.bin .Sub (.var 4) (.lit (.int 1))))))) [.aug 4 .Sub (.lit (.int 1))]
noncomputable def s_levenshtein_distance_7 : MS := .assign 0 (.slice (.var 0) (.lit .none) (.orE (.var 4) (.lit .none)))
noncomputable def s_levenshtein_distance_8 : MS := .assign 1 (.slice (.var 1) (.lit .none) (.orE (.var 4) (.lit .none)))
noncomputable def s_levenshtein_distance_9 : MS := .ite (.orE (.un .Not (.var 0)) (.un .Not (.var 1))) [.ret (.bin .Mult (.lit (.int 2)) (.bin .Add (.bi 0 [(.var 0)]) (.bi 0 [(.var 1)])))] []
noncomputable def s_levenshtein_distance_10 : MS := .ite (.orE (.cmp .Gt (.bi 0 [(.var 0)]) (.lit (.int 40))) (.cmp .Gt (.bi 0 [(.var 1)]) (.lit (.int 40)))) [.ret (.bin .Add (.var 2) (.lit (.int 1)))] []
noncomputable def s_levenshtein_distance_11 : MS := .ite (.cmp .Lt (.bi 0 [(.var 1)]) (.bi 0 [(.var 0)])) [.assignT [0, 1] (.tup [(.var 1), (.var 0)])] []
noncomputable def s_levenshtein_distance_12 : MS := .ite (.cmp .Gt (.bin .Mult (.bin .Sub (.bi 0 [(.var 1)]) (.bi 0 [(.var 0)])) (.lit (.int 2))) (.var 2)) [.ret (.bin .Add (.var 2) (.lit (.int 1)))] []
noncomputable def s_levenshtein_distance_13 : MS := .own 5 (.listr [(.lit (.int 2)), (.bin .Mult (.lit (.int 2)) (.bin .Add (.bi 0 [(.var 0)]) (.lit (.int 1)))), (.lit (.int 2))])
noncomputable def s_levenshtein_distance_14 : MS := .assign 6 (.lit (.int 0))
noncomputable def s_levenshtein_distance_15 : MS := .for_ (.one 7) (.rng [(.bi 0 [(.var 1)])]) [.assign 8 (.subo 1 (.var 7)), .assign2 9 6 (.bin .Mult (.var 7) (.lit (.int 2))), .assign 10 (.lit (.int 9223372036854775807)), .for_ (.one 11) (.rng [(.bi 0 [(.var 0)])]) [.assign 12 (.bin .Add (.var 9) (.call 10 [(.var 8), (.subo 0 (.var 11))])), .assign 9 (.subo 5 (.var 11)), .assign 13 (.bin .Add (.bi 2 [(.var 6), (.var 9)]) (.lit (.int 2))), .assign 6 (.bi 2 [(.var 13), (.var 12)]), .setI 5 (.var 11) (.var 6), .ite (.cmp .Lt (.var 6) (.var 10)) [.assign 10 (.var 6)] []], .ite (.cmp .Gt (.var 10) (.var 2)) [.ret (.bin .Add (.var 2) (.lit (.int 1)))] []]
noncomputable def s_levenshtein_distance_16 : MS := .ret (.var 6)
noncomputable def m_levenshtein_distance : MFn := ⟨3, 14, [s_levenshtein_distance_0, s_levenshtein_distance_1, s_levenshtein_distance_2, s_levenshtein_distance_3, s_levenshtein_distance_4, s_levenshtein_distance_5, s_levenshtein_distance_6, s_levenshtein_distance_7, s_levenshtein_distance_8, s_levenshtein_distance_9, s_levenshtein_distance_10, s_levenshtein_distance_11, s_levenshtein_distance_12, s_levenshtein_distance_13, s_levenshtein_distance_14, s_levenshtein_distance_15, s_levenshtein_distance_16]⟩
end Mine

-- E1
namespace Mine
open PySem PySem.Spec PySem.Calls PyProof.Rows PySem.W

/-! ## steps of the small evaluator -/
section
variable {F : Orc} {W : Nat} {l l0 l' : Loc} {a b c e : ME} {x y z d : PyData} {es : List ME} {ds : List PyData}
theorem ev_bin {op : Operator} (ha : evE F l a = some x) (hb : evE F l b = some y) (h : binV op x y = some z) : evE F l (.bin op a b) = some z := bindV ha (bindV hb h)
theorem ev_un {op : UnaryOp} (ha : evE F l a = some x) (h : unV op x = some z) : evE F l (.un op a) = some z := bindV ha h
theorem ev_cmp {op : CmpOp} {t : Bool} (ha : evE F l a = some x) (hb : evE F l b = some y) (h : cmpV op x y = some t) : evE F l (.cmp op a b) = some (.bool t) := bindV ha (bindV hb (mapV h))
theorem evs_nil : evEs F l [] = some [] := rfl
theorem evs_cons (ha : evE F l a = some x) (hs : evEs F l es = some ds) : evEs F l (a :: es) = some (x :: ds) := bindV ha (mapV hs)
theorem evs1 (ha : evE F l a = some x) : evEs F l [a] = some [x] := evs_cons ha rfl
theorem evs2 (ha : evE F l a = some x) (hb : evE F l b = some y) : evEs F l [a, b] = some [x, y] := evs_cons ha (evs1 hb)
theorem evs3 (ha : evE F l a = some x) (hb : evE F l b = some y) (hc : evE F l c = some z) : evEs F l [a, b, c] = some [x, y, z] := evs_cons ha (evs2 hb hc)
theorem evs6 {a' b' c' : ME} {x' y' z' : PyData} (ha : evE F l a = some x) (hb : evE F l b = some y) (hc : evE F l c = some z) (ha' : evE F l a' = some x') (hb' : evE F l b' = some y') (hc' : evE F l c' = some z') : evEs F l [a, b, c, a', b', c'] = some [x, y, z, x', y', z'] := evs_cons ha (evs_cons hb (evs_cons hc (evs3 ha' hb' hc')))
theorem ev_call {f : Nat} (hs : evEs F l es = some ds) (h : F f ds = some z) : evE F l (.call f es) = some z := bindV hs h
theorem ev_bi {f : Nat} (hs : evEs F l es = some ds) (h : biV f ds = some z) : evE F l (.bi f es) = some z := bindV hs h
theorem ev_meth {m : Nat} (ha : evE F l a = some x) (hs : evEs F l es = some ds) (h : methV m x ds = some z) : evE F l (.meth m a es) = some z := bindV ha (bindV hs h)
theorem ev_sub (ha : evE F l a = some x) (hb : evE F l b = some y) (h : subV x y = some z) : evE F l (.sub a b) = some z := bindV ha (bindV hb h)
theorem ev_subo {i : Nat} {xs : List PyData} (hi : l[i]? = some (some (.own xs))) (hb : evE F l b = some y) (h : subV (.list xs) y = some z) : evE F l (.subo i b) = some z := bindV hb (MV.at_of hi h)
theorem ev_subd {i : Nat} (hi : l[i]? = some (some (.dat x))) (hb : evE F l b = some y) (h : subV x y = some z) : evE F l (.subo i b) = some z := bindV hb (MV.at_of hi h)
theorem ev_slice (ha : evE F l a = some x) (hb : evE F l b = some y) (hc : evE F l c = some z) (h : sliceV x y z = some d) : evE F l (.slice a b c) = some d := bindV ha (bindV hb (bindV hc h))
theorem ev_tup (hs : evEs F l es = some ds) (h : ds.length ≤ 2 ^ 20) : evE F l (.tup es) = some (.tuple ds) := bindV hs (if_pos h)
theorem ev_tup2 (ha : evE F l a = some x) (hb : evE F l b = some y) : evE F l (.tup [a, b]) = some (.tuple [x, y]) := ev_tup (evs2 ha hb) (show 2 ≤ 2 ^ 20 by decide)
theorem ev_lst (hs : evEs F l es = some ds) (h : ds.length ≤ 2 ^ 20) : evE F l (.lst es) = some (.list ds) := bindV hs (if_pos h)
theorem ev_listc {xs : List PyData} (ha : evE F l a = some (.list xs)) (h : xs.length ≤ 2 ^ 20) : evE F l (.listc a) = some (.list xs) := bindV ha (bindV rfl (if_pos h))
theorem ev_ite_t (ha : evE F l a = some x) (hs : smallV x = true) (ht : truthV x = true) (h : evE F l b = some z) : evE F l (.ite a b c) = some z := bindV ha (by rw [if_pos hs, if_pos ht]; exact h)
theorem ev_ite_f (ha : evE F l a = some x) (hs : smallV x = true) (ht : truthV x = false) (h : evE F l c = some z) : evE F l (.ite a b c) = some z := bindV ha (by rw [if_pos hs, ht]; exact h)
theorem ev_and_t (ha : evE F l a = some x) (hs : smallV x = true) (ht : truthV x = true) (h : evE F l b = some z) : evE F l (.andE a b) = some z := bindV ha (by rw [if_pos hs, if_pos ht]; exact h)
theorem ev_and_f (ha : evE F l a = some x) (hs : smallV x = true) (ht : truthV x = false) : evE F l (.andE a b) = some x := bindV ha (by rw [if_pos hs, ht]; rfl)
theorem ev_or_t (ha : evE F l a = some x) (hs : smallV x = true) (ht : truthV x = true) : evE F l (.orE a b) = some x := bindV ha (by rw [if_pos hs, if_pos ht])
theorem ev_or_f (ha : evE F l a = some x) (hs : smallV x = true) (ht : truthV x = false) (h : evE F l b = some z) : evE F l (.orE a b) = some z := bindV ha (by rw [if_pos hs, ht]; exact h)
theorem evT_of {t : Bool} (ha : evE F l a = some x) (hs : smallV x = true) (ht : truthV x = t) : evT F l a = some t := bindV ha (by rw [if_pos hs, ht])
theorem evT_cmp {op : CmpOp} {t : Bool} (ha : evE F l a = some x) (hb : evE F l b = some y) (h : cmpV op x y = some t) : evT F l (.cmp op a b) = some t := evT_of (ev_cmp ha hb h) rfl rfl

theorem evI_rev {xs : List PyData} (h : evE F l e = some (.list xs)) (hl : xs.length ≤ 2 ^ 20) : evI F l (.rev e) = some xs.reverse := bindV h (if_pos hl)
theorem evI_val {xs : List PyData} (h : evE F l e = some x) (hi : itemsV x = some xs) : evI F l (.val e) = some xs := bindV h hi
theorem items_list {xs : List PyData} (h : xs.length ≤ 2 ^ 20) : itemsV (.list xs) = some xs := if_pos h
theorem evI_var {i : Nat} {xs : List PyData} (h : itemsV d = some xs) (hi : l[i]? = some (some (.dat d)) := by rfl) : evI F l (.var i) = some xs := MV.at_of hi h
theorem evI_rng {p : Int × Int} (h : evEs F l es = some ds) (hi : rangeV ds = some p) : evI F l (.rng es) = some (rangeL p.1 p.2) := bindV h (mapV hi)

/-! statements -/
variable {s : MS} {r A B : List MS} {i j k n : Nat} {X : Option (MF × Loc)} {xs : List PyData}
theorem ss_step (h1 : evS F W s l = some (.next, l')) (h2 : evSs F W r l' = X) : evSs F W (s :: r) l = X := bindV h1 h2
theorem ss_ret (h1 : evS F W s l = some (.ret d, l')) : evSs F W (s :: r) l = some (.ret d, l') := bindV h1 rfl
theorem ss_nil0 : evSs F W [] l = some (.next, l) := rfl
theorem ite_t (hl : frz (fv c) l = l0) (h : evT F l0 c = some true) (hx : evSs F W A l0 = X) : evS F W (.ite c A B) l = X := by subst hl; exact bindV h hx
theorem ite_f (hl : frz (fv c) l = l0) (h : evT F l0 c = some false) (hx : evSs F W B l0 = X) : evS F W (.ite c A B) l = X := by subst hl; exact bindV h hx
theorem ite_f0 (hl : frz (fv c) l = l0) (h : evT F l0 c = some false) : evS F W (.ite c A []) l = some (.next, l0) := ite_f hl h rfl
theorem own_ev (hl : frz (fv e) l = l0) (he : evE F l0 e = some (.list xs)) : evS F W (.own i e) l = some (.next, l0.set i (some (.own xs))) := by subst hl; exact bindV he rfl
theorem asg_ev (hl : frz (fv e) l = l0) (he : evE F l0 e = some d) : evS F W (.assign i e) l = some (.next, l0.set i (some (.dat d))) := by subst hl; exact mapV he
theorem asg2_ev (hl : frz (fv e) l = l0) (he : evE F l0 e = some d) : evS F W (.assign2 i j e) l = some (.next, (l0.set i (some (.dat d))).set j (some (.dat d))) := by subst hl; exact mapV he
theorem asgT_ev {is : List Nat} (hl : frz (fv e) l = l0) (he : evE F l0 e = some (.tuple ds)) (hs : setMany l0 is ds = some l') : evS F W (.assignT is e) l = some (.next, l') := by subst hl; exact bindV he (bindV rfl (mapV hs))
theorem aug_ev {op : Operator} (hl : frz (i :: fv e) l = l0) (hi : l0[i]? = some (some (.dat x))) (he : evE F l0 e = some y) (h : augV op x y = some z) : evS F W (.aug i op e) l = some (.next, l0.set i (some (.dat z))) := by
  subst hl; exact bindV (show evE F _ (.var i) = some x from MV.at_of hi rfl) (bindV he (mapV h))
theorem ret_ev (hl : frz (fv e) l = l0) (he : evE F l0 e = some d) : evS F W (.ret e) l = some (.ret d, l0) := by subst hl; exact mapV he
theorem app_ev (hl : frz (fv e) l = l0) (hi : l0[i]? = some (some (.own xs))) (he : evE F l0 e = some d) (h : xs.length ≤ 2 ^ 20) : evS F W (.app i e) l = some (.next, l0.set i (some (.own (xs ++ [d])))) := by
  subst hl; exact bindV (MV.at_of hi rfl) (bindV he (if_pos h))
theorem for_ev {t : Tg} {it : MI} (hl : frz (fvI it) l = l0) (hi : evI F l0 it = some xs) (h : evFor t (fun l => evSs F W B l) xs l0 = X) : evS F W (.for_ t it B) l = X := by subst hl; exact bindV hi h
/-! where nothing freezes -/
theorem ite_t' (h : evT F l c = some true) (hx : evSs F W A l = X) (hl : frz (fv c) l = l := by rfl) : evS F W (.ite c A B) l = X := ite_t hl h hx
theorem ite_f' (h : evT F l c = some false) (hx : evSs F W B l = X) (hl : frz (fv c) l = l := by rfl) : evS F W (.ite c A B) l = X := ite_f hl h hx
theorem ite_n (h : evT F l c = some false) (hl : frz (fv c) l = l := by rfl) : evS F W (.ite c A []) l = some (.next, l) := ite_f0 hl h
theorem own' (he : evE F l e = some (.list xs)) (hl : frz (fv e) l = l := by rfl) : evS F W (.own i e) l = some (.next, l.set i (some (.own xs))) := own_ev hl he
theorem asg' (he : evE F l e = some d) (hl : frz (fv e) l = l := by rfl) : evS F W (.assign i e) l = some (.next, l.set i (some (.dat d))) := asg_ev hl he
theorem asgT' {is : List Nat} (he : evE F l e = some (.tuple ds)) (hs : setMany l is ds = some l' := by rfl) (hl : frz (fv e) l = l := by rfl) : evS F W (.assignT is e) l = some (.next, l') := asgT_ev hl he hs
theorem aug' {op : Operator} (he : evE F l e = some y) (h : augV op x y = some z) (hi : l[i]? = some (some (.dat x)) := by rfl) (hl : frz (i :: fv e) l = l := by rfl) : evS F W (.aug i op e) l = some (.next, l.set i (some (.dat z))) := aug_ev hl hi he h
theorem ret' (he : evE F l e = some d) (hl : frz (fv e) l = l := by rfl) : evS F W (.ret e) l = some (.ret d, l) := ret_ev hl he
theorem app' (he : evE F l e = some d) (h : xs.length ≤ 2 ^ 20) (hi : l[i]? = some (some (.own xs)) := by rfl) (hl : frz (fv e) l = l := by rfl) : evS F W (.app i e) l = some (.next, l.set i (some (.own (xs ++ [d])))) := app_ev hl hi he h
theorem for' {t : Tg} {it : MI} (hi : evI F l it = some xs) (h : evFor t (fun l => evSs F W B l) xs l = X) (hl : frz (fvI it) l = l := by rfl) : evS F W (.for_ t it B) l = X := for_ev hl hi h
theorem rev' (h : xs.length ≤ 2 ^ 20) (hi : l[i]? = some (some (.own xs)) := by rfl) : evS F W (.rev i) l = some (.next, l.set i (some (.own xs.reverse))) := bindV (MV.at_of hi rfl) (if_pos h)
theorem forG' {t : Tg} (he : evE F l e = some x) (hg : genV x = some xs) (h : evFor t (fun l => evSs F W B l) xs l = X) (hl : frz (fv e) l = l := by rfl) : evS F W (.forG t e B) l = X := by
  have h' : evFor t (fun l => evSs F W B l) xs (frz (fv e) l) = X := by rw [hl]; exact h
  exact bindV (show evE F (frz (fv e) l) e = some x by rw [hl]; exact he) (bindV hg h')
theorem asg2' (he : evE F l e = some d) (hl : frz (fv e) l = l := by rfl) : evS F W (.assign2 i j e) l = some (.next, (l.set i (some (.dat d))).set j (some (.dat d))) := asg2_ev hl he
theorem setI' (he : evE F l e = some d) (hk : evE F l a = some y) (hn : idxV xs y = some n) (hi : l[k]? = some (some (.own xs)) := by rfl) (hl : frz (fv a ++ fv e) l = l := by rfl) : evS F W (.setI k a e) l = some (.next, l.set k (some (.own (xs.set n d)))) := by
  have h : evS F W (.setI k a e) l = (evE F (frz (fv a ++ fv e) l) e).bind fun d => (ownAt (frz (fv a ++ fv e) l) k).bind fun l1 => (evE F (frz (fv a ++ fv e) l) a).bind fun y => (idxV l1 y).map fun n => (.next, (frz (fv a ++ fv e) l).set k (some (.own (l1.set n d)))) := rfl
  rw [h, hl]
  exact bindV he (bindV (MV.at_of hi rfl) (bindV hk (mapV hn)))
theorem whl_stop {C : Loc → Option Bool} {Bd : Loc → Option (MF × Loc)} (h : C l = some false) : evWhl C Bd (n + 1) l = some (.next, l) := bindV h rfl
theorem whl_go {C : Loc → Option Bool} {Bd : Loc → Option (MF × Loc)} (h : C l = some true) (hb : Bd l = some (.next, l')) : evWhl C Bd (n + 1) l = evWhl C Bd n l' := bindV h (by rw [if_pos rfl, hb]; rfl)
theorem for_nil {t : Tg} {Bd : Loc → Option (MF × Loc)} : evFor t Bd [] l = some (.next, l) := rfl
theorem for_go {t : Tg} {Bd : Loc → Option (MF × Loc)} (ht : bindT l t x = some l0) (hb : Bd l0 = some (.next, l')) : evFor t Bd (x :: xs) l = evFor t Bd xs l' := bindV ht (by rw [hb]; rfl)
theorem for_ret {t : Tg} {Bd : Loc → Option (MF × Loc)} (ht : bindT l t x = some l0) (hb : Bd l0 = some (.ret d, l')) : evFor t Bd (x :: xs) l = some (.ret d, l') := bindV ht (by rw [hb]; rfl)
theorem whl_ev (h : evWhl (fun l => evT F l c) (fun l => evSs F W B l) W l = X) : evS F W (.whl c B) l = X := h
end

theorem evFn_of {F : Orc} {W : Nat} {fn : MFn} {args : List PyData} {loc : Loc} {p : MF × Loc} (hl : args.length = fn.np) (hloc : args.map (fun d => some (MV.dat d)) ++ List.replicate (fn.n - fn.np) none = loc) (h : evSs F W fn.body loc = some p) :
    evFn F W fn args = some (match p.1 with | .ret d => d | .next => .none) := by
  unfold evFn
  rw [if_pos hl, hloc, h]; rfl
theorem evFn_ret {F : Orc} {W : Nat} {fn : MFn} {args : List PyData} {loc loc' : Loc} {d : PyData} (hl : args.length = fn.np) (hloc : args.map (fun d => some (MV.dat d)) ++ List.replicate (fn.n - fn.np) none = loc) (h : evSs F W fn.body loc = some (.ret d, loc')) :
    evFn F W fn args = some d := evFn_of hl hloc h

section
variable {x y : Int}
theorem cmp_eq_t (h : x = y) : cmpV .Eq (.int x) (.int y) = some true := congrArg some (beq_iff_eq.mpr h)
theorem cmp_eq_f (h : x ≠ y) : cmpV .Eq (.int x) (.int y) = some false := congrArg some (beq_eq_false_iff_ne.mpr h)
theorem cmp_ne_t (h : x ≠ y) : cmpV .NotEq (.int x) (.int y) = some true := congrArg (fun b => some (!b)) (beq_eq_false_iff_ne.mpr h)
theorem cmp_ne_f (h : x = y) : cmpV .NotEq (.int x) (.int y) = some false := congrArg (fun b => some (!b)) (beq_iff_eq.mpr h)
theorem cmp_lt_t (h : x < y) : cmpV .Lt (.int x) (.int y) = some true := congrArg some (decide_eq_true h)
theorem cmp_lt_f (h : ¬ x < y) : cmpV .Lt (.int x) (.int y) = some false := congrArg some (decide_eq_false h)
theorem cmp_le_t (h : x ≤ y) : cmpV .LtE (.int x) (.int y) = some true := congrArg some (decide_eq_true h)
theorem cmp_le_f (h : ¬ x ≤ y) : cmpV .LtE (.int x) (.int y) = some false := congrArg some (decide_eq_false h)
theorem cmp_ge_t (h : x ≥ y) : cmpV .GtE (.int x) (.int y) = some true := congrArg some (decide_eq_true h)
theorem cmp_ge_f (h : ¬ x ≥ y) : cmpV .GtE (.int x) (.int y) = some false := congrArg some (decide_eq_false h)
theorem cmp_gt_t (h : x > y) : cmpV .Gt (.int x) (.int y) = some true := congrArg some (decide_eq_true h)
theorem cmp_gt_f (h : ¬ x > y) : cmpV .Gt (.int x) (.int y) = some false := congrArg some (decide_eq_false h)
end
theorem cmp_seq {a b : Str} {t : Bool} (h : (a.cps.toList == b.cps.toList) = t) : cmpV .Eq (.str a) (.str b) = some t := congrArg some h
/-! numbers -/
theorem shr_nn {a n : Nat} : shrV (a : Int) (n : Int) = some (.int ((a / 2 ^ n : Nat) : Int)) := by
  unfold shrV; rw [if_pos (Int.natCast_nonneg n), Int.toNat_natCast, shr_nat]
theorem binV_shr {a n : Nat} : binV .RShift (.int (a : Int)) (.int (n : Int)) = some (.int ((a / 2 ^ n : Nat) : Int)) := shr_nn
theorem shl_nn {a n m : Nat} (h : a < 2 ^ m) (hm : m + n ≤ 2 ^ 27) : shlV (a : Int) (n : Int) = some (.int ((a * 2 ^ n : Nat) : Int)) := by
  rw [← shl_nat]; exact if_pos ⟨Int.natCast_nonneg n, Nat.le_trans (Nat.add_comm .. ▸ Nat.add_le_add_right (small_bits h) n) hm⟩
theorem binV_shl {a n m : Nat} (h : a < 2 ^ m) (hm : m + n ≤ 2 ^ 27) : binV .LShift (.int (a : Int)) (.int (n : Int)) = some (.int ((a * 2 ^ n : Nat) : Int)) := shl_nn h hm
theorem augV_shr {a n : Nat} : augV .RShift (.int (a : Int)) (.int (n : Int)) = some (.int ((a / 2 ^ n : Nat) : Int)) := shr_nn
theorem augV_shl {a n m : Nat} (h : a < 2 ^ m) (hm : m + n ≤ 2 ^ 27) : augV .LShift (.int (a : Int)) (.int (n : Int)) = some (.int ((a * 2 ^ n : Nat) : Int)) := shl_nn h hm
theorem binV_mask {a k : Nat} : binV .BitAnd (.int (a : Int)) (.int ((2 ^ k - 1 : Nat) : Int)) = some (.int ((a % 2 ^ k : Nat) : Int)) := by rw [← and_mask]; rfl
theorem binV_or {x k y : Nat} (hy : y < 2 ^ k) : binV .BitOr (.int ((x * 2 ^ k : Nat) : Int)) (.int (y : Int)) = some (.int ((x * 2 ^ k + y : Nat) : Int)) := by rw [← or_shl hy]; rfl
theorem binV_mul {a b : Int} {m n : Nat} (ha : bits a ≤ m) (hb : bits b ≤ n) (h : m + n ≤ 2 ^ 27) : binV .Mult (.int a) (.int b) = some (.int (a * b)) := if_pos (mulOk_of ha hb h)
theorem binV_subI {a b : Int} : binV .Sub (.int a) (.int b) = some (.int (a - b)) := rfl
theorem binV_addI {a b : Int} : binV .Add (.int a) (.int b) = some (.int (a + b)) := rfl
theorem augV_subI {a b : Int} : augV .Sub (.int a) (.int b) = some (.int (a - b)) := rfl
theorem augV_addI {a b : Int} : augV .Add (.int a) (.int b) = some (.int (a + b)) := rfl
theorem mod_ev {a b : Int} (h : b ≠ 0) : binV .Mod (.int a) (.int b) = some (.int (a.fmod b)) := if_pos h
theorem fdiv_ev {a b : Int} (h : b ≠ 0) (hb : bits b ≤ 9000) : binV .FloorDiv (.int a) (.int b) = some (.int (a.fdiv b)) := if_pos ⟨h, hb⟩
theorem binV_subN {a b : Nat} (h : b ≤ a) : binV .Sub (.int (a : Int)) (.int (b : Int)) = some (.int ((a - b : Nat) : Int)) := by rw [Int.ofNat_sub h]; rfl
theorem binV_sub1 {a : Nat} (h : 1 ≤ a) : binV .Sub (.int (a : Int)) (.int 1) = some (.int ((a - 1 : Nat) : Int)) := binV_subN h
end Mine

-- A4
namespace Mine
open PySem PySem.Spec PySem.Calls PyProof.Rows PySem.W

/-! ## _div3n2n -/
noncomputable def loc3 (a12 a3 b b1 b2 n : Nat) (q r : Int) : Loc := [some (.dat (.int a12)), some (.dat (.int a3)), some (.dat (.int b)), some (.dat (.int b1)), some (.dat (.int b2)), some (.dat (.int n)), some (.dat (.int q)), some (.dat (.int r))]
theorem wlow {k b : Nat} {r : Int} (h1 : -(((k + 1) * b : Nat) : Int) ≤ r) : -((k * b : Nat) : Int) ≤ r + b := by rw [Nat.succ_mul] at h1; omega
theorem whl3 {F : Orc} {W a12 a3 b b1 b2 n : Nat} (hb : 0 < b) : ∀ (k W' : Nat) (q r : Int), k < W' → -((k * b : Nat) : Int) ≤ r → r < b →
    ∃ q' r' : Int, evWhl (fun l => evT F l (.cmp .Lt (.var 7) (.lit (.int 0)))) (fun l => evSs F W [.aug 6 .Sub (.lit (.int 1)), .aug 7 .Add (.var 2)] l) W' (loc3 a12 a3 b b1 b2 n q r) = some (.next, loc3 a12 a3 b b1 b2 n q' r') ∧ q' * b + r' = q * b + r ∧ 0 ≤ r' ∧ r' < b
  | _, 0, _, _, hW, _, _ => absurd hW (Nat.not_lt_zero _)
  | k, W' + 1, q, r, hW, h1, h2 => by
    by_cases h0 : r < 0
    · cases k with
      | zero => rw [Nat.zero_mul] at h1; exact absurd h0 (Int.not_lt.mpr h1)
      | succ k =>
        obtain ⟨q', r', e, e2, e3⟩ := whl3 hb k W' (q - 1) (r + b) (Nat.lt_of_succ_lt_succ hW) (wlow h1) (by omega)
        refine ⟨q', r', (whl_go (evT_cmp (x := .int r) rfl rfl (cmp_lt_t h0)) rfl).trans e, ?_, e3⟩
        rw [e2, Int.sub_mul]; omega
    · exact ⟨q, r, whl_stop (evT_cmp (x := .int r) rfl rfl (cmp_lt_f h0)), rfl, Int.not_lt.mp h0, h2⟩

theorem div_unique {A b : Nat} {q r : Int} (h : q * b + r = (A : Int)) (h0 : 0 ≤ r) (h1 : r < b) : q = ((A / b : Nat) : Int) ∧ r = ((A % b : Nat) : Int) := by
  have hb : (0 : Int) < b := by omega
  have := (Int.ediv_emod_unique (a := (A : Int)) (b := (b : Int)) (q := q) (r := r) hb).mpr ⟨by rw [Int.mul_comm]; omega, h0, h1⟩
  exact ⟨by rw [← this.1]; rfl, by rw [← this.2]; rfl⟩

structure Ok3 (N a12 a3 b b1 b2 n : Nat) : Prop where
  n1 : 1 ≤ n
  nN : n ≤ N
  eb : b = b1 * 2 ^ n + b2
  b2 : b2 < 2 ^ n
  b1lo : 2 ^ n ≤ 2 * b1
  b1hi : b1 < 2 ^ n
  a12 : a12 < b
  a3 : a3 < 2 ^ n

theorem div3_ev {F : Orc} {W a12 a3 b b1 b2 n : Nat} (hW : 3 ≤ W) (O : Ok3 9000 a12 a3 b b1 b2 n)
    (hF : a12 < b1 * 2 ^ n → F 4 [.int (a12 : Int), .int (b1 : Int), .int (n : Int)] = some (.tuple [.int ((a12 / b1 : Nat) : Int), .int ((a12 % b1 : Nat) : Int)])) :
    evFn F W m_div3n2n [.int (a12 : Int), .int (a3 : Int), .int (b : Int), .int (b1 : Int), .int (b2 : Int), .int (n : Int)] = some (.tuple [.int (((a12 * 2 ^ n + a3) / b : Nat) : Int), .int (((a12 * 2 ^ n + a3) % b : Nat) : Int)]) := by
  obtain ⟨n1, nN, eb, hb2, b1lo, b1hi, ha12, ha3⟩ := O
  have hp : 0 < 2 ^ n := Nat.two_pow_pos n
  have hn2 : b1 * 2 ^ n < 2 ^ n * 2 ^ n := Nat.mul_lt_mul_of_pos_right b1hi hp
  -- the first statement
  have key : ∃ q r : Nat, evS F W s_div3n2n_0 (([some (.dat (.int a12)), some (.dat (.int a3)), some (.dat (.int b)), some (.dat (.int b1)), some (.dat (.int b2)), some (.dat (.int n)), none, none] : Loc)) = some (.next, loc3 a12 a3 b b1 b2 n q r) ∧
      q * b1 + r = a12 ∧ q < 2 ^ n ∧ r < 2 ^ n * 2 ∧ (r : Int) * 2 ^ n + a3 - q * b2 < b := by
    by_cases e : a12 / 2 ^ n = b1
    · have hle : b1 * 2 ^ n ≤ a12 := by rw [← e]; exact Nat.div_mul_le_self _ _
      have hr : a12 - b1 * 2 ^ n < b2 := by omega
      refine ⟨2 ^ n - 1, a12 - b1 * 2 ^ n + b1, ?_, ?_, by omega, by omega, ?_⟩
      · have e1 : binV .LShift (.int 1) (.int (n : Int)) = some (.int ((1 * 2 ^ n : Nat) : Int)) := binV_shl (a := 1) (m := 1) (by decide) (by omega)
        rw [Nat.one_mul] at e1
        exact ite_t' (evT_cmp (ev_bin rfl rfl binV_shr) rfl (cmp_eq_t (congrArg _ e))) (ss_step (asgT' (ev_tup2 (ev_bin (ev_bin rfl rfl e1) rfl (binV_sub1 hp)) (ev_bin (ev_bin rfl (ev_bin rfl rfl (binV_shl b1hi (by omega))) (binV_subN hle)) rfl rfl))) rfl)
      · have hx : (2 ^ n - 1) * b1 = b1 * 2 ^ n - b1 := by rw [Nat.sub_mul, Nat.one_mul, Nat.mul_comm]
        have : b1 ≤ b1 * 2 ^ n := Nat.le_mul_of_pos_right _ hp
        rw [hx]
        omega
      · have h3 : ((2 ^ n - 1 : Nat) : Int) = 2 ^ n - 1 := by rw [Int.natCast_sub hp]; simp
        have h4 : ((a12 - b1 * 2 ^ n + b1 : Nat) : Int) ≤ (b2 : Int) - 1 + b1 := by omega
        have h5 : ((a12 - b1 * 2 ^ n + b1 : Nat) : Int) * 2 ^ n ≤ ((b2 : Int) - 1 + b1) * 2 ^ n := Int.mul_le_mul_of_nonneg_right h4 (by rw [two_pow_cast]; omega)
        rw [h3, Int.sub_mul, Int.one_mul]
        rw [Int.add_mul, Int.sub_mul, Int.one_mul] at h5
        have h6 : (b : Int) = b1 * 2 ^ n + b2 := by rw [eb]; simp
        have h7 : (a3 : Int) < 2 ^ n := by rw [two_pow_cast]; omega
        rw [h6, Int.mul_comm (2 ^ n) (b2 : Int)]
        omega
    · have hd : a12 / 2 ^ n ≤ b1 := by
        have : a12 < (b1 + 1) * 2 ^ n := by rw [Nat.succ_mul]; omega
        have := Nat.div_lt_of_lt_mul (by rw [Nat.mul_comm]; exact this)
        omega
      have hlt : a12 < b1 * 2 ^ n := (Nat.div_lt_iff_lt_mul hp).mp (by omega)
      have hb1 : 0 < b1 := by omega
      have hr := Nat.mod_lt a12 hb1
      have hq : a12 / b1 < 2 ^ n := Nat.div_lt_of_lt_mul hlt
      refine ⟨a12 / b1, a12 % b1, ?_, ?_, hq, by omega, ?_⟩
      · exact ite_f' (evT_cmp (ev_bin rfl rfl binV_shr) rfl (cmp_eq_f fun h => e (Int.ofNat.inj h))) (ss_step (asgT' (ev_call (evs3 rfl rfl rfl) (hF hlt))) rfl)
      · rw [Nat.mul_comm]; exact Nat.div_add_mod _ _
      · have h5 : (a12 % b1 + 1) * 2 ^ n ≤ b1 * 2 ^ n := Nat.mul_le_mul_right _ hr
        rw [Nat.succ_mul] at h5
        have h8 : (0 : Int) ≤ ((a12 / b1 : Nat) : Int) * b2 := Int.mul_nonneg (Int.natCast_nonneg _) (Int.natCast_nonneg _)
        have h9 : ((a12 % b1 : Nat) : Int) * 2 ^ n = ((a12 % b1 * 2 ^ n : Nat) : Int) := by simp
        rw [h9]
        omega
  obtain ⟨q, r, k0, k1, k2, k3, k4⟩ := key
  -- the second
  have e1 : binV .LShift (.int (r : Int)) (.int (n : Int)) = some (.int ((r * 2 ^ n : Nat) : Int)) := binV_shl (m := n + 1) (by rw [Nat.pow_succ]; exact k3) (by omega)
  have e2 := binV_or (x := r) ha3
  have e3 : binV .Mult (.int (q : Int)) (.int (b2 : Int)) = some (.int ((q : Int) * (b2 : Int))) := binV_mul (small_bits k2) (small_bits hb2) (by omega)
  have hq2 : q * b2 ≤ 2 ^ n * 2 ^ n := Nat.mul_le_mul (Nat.le_of_lt k2) (Nat.le_of_lt hb2)
  have hbb : 2 ^ n * 2 ^ n ≤ 2 * b := by
    calc 2 ^ n * 2 ^ n ≤ (2 * b1) * 2 ^ n := Nat.mul_le_mul_right _ b1lo
      _ = 2 * (b1 * 2 ^ n) := by rw [Nat.mul_assoc]
      _ ≤ 2 * b := by omega
  obtain ⟨q', r', w1, w2, w3, w4⟩ := whl3 (F := F) (W := W) (a12 := a12) (a3 := a3) (b := b) (b1 := b1) (b2 := b2) (n := n) (by omega) 2 W q (((r * 2 ^ n + a3 : Nat) : Int) - (q : Int) * (b2 : Int)) (by omega)
    (by have : ((q * b2 : Nat) : Int) = (q : Int) * (b2 : Int) := by simp
        omega) (by have : ((r * 2 ^ n + a3 : Nat) : Int) = (r : Int) * 2 ^ n + a3 := by simp
                   rw [this]; exact k4)
  have hA : q' * b + r' = ((a12 * 2 ^ n + a3 : Nat) : Int) := by
    rw [w2, eb, ← k1]
    simp only [Int.natCast_add, Int.natCast_mul, Int.natCast_pow]
    grind
  obtain ⟨u1, u2⟩ := div_unique hA w3 w4
  refine evFn_ret (loc := [some (.dat (.int a12)), some (.dat (.int a3)), some (.dat (.int b)), some (.dat (.int b1)), some (.dat (.int b2)), some (.dat (.int n)), none, none]) (loc' := loc3 a12 a3 b b1 b2 n q' r') rfl rfl ?_
  exact ss_step k0 (ss_step (asg' (ev_bin (ev_bin (ev_bin rfl rfl e1) rfl e2) (ev_bin rfl rfl e3) binV_subI)) (ss_step (whl_ev w1) (ss_ret (ret' (u1 ▸ u2 ▸ ev_tup2 rfl rfl)))))
end Mine

-- A5
namespace Mine
open PySem PySem.Spec PySem.Calls PyProof.Rows PySem.W

theorem ss_app {F : Orc} {W : Nat} : ∀ {a b : List MS} {l l' : Loc}, evSs F W a l = some (.next, l') → evSs F W (a ++ b) l = evSs F W b l'
  | [], b, l, l', h => by cases h; rfl
  | x :: r, b, l, l', h => by
    refine bindE (show (evS F W x l).bind _ = _ from h) fun p hp h => ?_
    obtain ⟨f, l2⟩ := p
    cases f with
    | next => exact bindV hp (ss_app h)
    | ret d => cases h
theorem ss3 {F : Orc} {W : Nat} {a b c : List MS} {l l1 l2 : Loc} {p : MF × Loc} (h1 : evSs F W a l = some (.next, l1)) (h2 : evSs F W b l1 = some (.next, l2)) (h3 : evSs F W c l2 = some p) : evSs F W (a ++ (b ++ c)) l = some p := by
  rw [ss_app h1, ss_app h2, h3]
theorem div2_ev0 {F : Orc} {W a b n : Nat} (hb : 0 < b) (h2 : bits (b : Int) ≤ 9000) (h1 : bits (a : Int) ≤ n + 4000) :
    evFn F W m_div2n1n [.int (a : Int), .int (b : Int), .int (n : Int)] = some (.tuple [.int ((a / b : Nat) : Int), .int ((a % b : Nat) : Int)]) := by
  refine evFn_ret (loc := [some (.dat (.int a)), some (.dat (.int b)), some (.dat (.int n)), none, none, none, none, none, none, none, none]) (loc' := [some (.dat (.int a)), some (.dat (.int b)), some (.dat (.int n)), none, none, none, none, none, none, none, none]) rfl rfl ?_
  have h3 : ((bits (a : Int) : Nat) : Int) - (n : Int) ≤ 4000 := by omega
  have hd : biV 7 [.int (a : Int), .int (b : Int)] = some (.tuple [.int ((a / b : Nat) : Int), .int ((a % b : Nat) : Int)]) := by
    rw [← fdiv_nat, ← fmod_nat]; exact if_pos ⟨Int.ofNat_ne_zero.mpr (Nat.ne_of_gt hb), h2⟩
  exact ss_ret (ite_t' (evT_cmp (ev_bin (ev_meth rfl rfl rfl) rfl rfl) rfl (cmp_le_t h3)) (ss_ret (ret' (ev_bi (evs2 rfl rfl) hd))))

noncomputable def loc2 (a b n p h : Nat) (m b1 b2 q1 r q2 : Option MV) : Loc := [some (.dat (.int (a : Int))), some (.dat (.int (b : Int))), some (.dat (.int (n : Int))), some (.dat (.int (p : Int))), some (.dat (.int (h : Int))), m, b1, b2, q1, r, q2]
noncomputable abbrev nv (x : Nat) : Option MV := some (.dat (.int (x : Int)))

theorem sq_pow (h : Nat) : 2 ^ (2 * h) = 2 ^ h * 2 ^ h := by rw [Nat.two_mul, Nat.pow_add]

theorem div2_mid {F : Orc} {W a b p h : Nat} (h1 : 1 ≤ h) (hh : h ≤ 4501) (hb : b < 2 ^ (2 * h)) (hb2 : 2 ^ (2 * h) ≤ 2 * b) (ha : a < b * 2 ^ (2 * h))
    (hF : ∀ a12 a3 b b1 b2 n : Nat, Ok3 h a12 a3 b b1 b2 n → F 5 [.int (a12 : Int), .int (a3 : Int), .int (b : Int), .int (b1 : Int), .int (b2 : Int), .int (n : Int)] = some (.tuple [.int (((a12 * 2 ^ n + a3) / b : Nat) : Int), .int (((a12 * 2 ^ n + a3) % b : Nat) : Int)])) :
    ∃ q1 q2 : Nat, q1 < 2 ^ h ∧ q2 < 2 ^ h ∧ q1 * 2 ^ h + q2 = a / b ∧
      evSs F W [s_div2n1n_4, s_div2n1n_5, s_div2n1n_6, s_div2n1n_7] (loc2 a b (2 * h) p h none none none none none none) =
        some (.next, loc2 a b (2 * h) p h (nv (2 ^ h - 1)) (nv (b / 2 ^ h)) (nv (b % 2 ^ h)) (nv q1) (nv (a % b)) (nv q2)) := by
  have hp : 0 < 2 ^ h := Nat.two_pow_pos h
  have hb0 : 0 < b := by have := Nat.two_pow_pos (2 * h); omega
  rw [sq_pow] at hb hb2 ha
  have ok : ∀ a12 a3 : Nat, a12 < b → a3 < 2 ^ h → Ok3 h a12 a3 b (b / 2 ^ h) (b % 2 ^ h) h := fun a12 a3 u v => by
    refine ⟨h1, Nat.le_refl _, ?_, Nat.mod_lt _ hp, ?_, Nat.div_lt_of_lt_mul hb, u, v⟩
    · rw [Nat.mul_comm]; exact (Nat.div_add_mod b (2 ^ h)).symm
    · obtain ⟨k, rfl⟩ : ∃ k, h = k + 1 := ⟨h - 1, by omega⟩
      have : 2 ^ k * 2 ^ (k + 1) ≤ b := by rw [Nat.pow_succ] at hb2 ⊢; rw [Nat.mul_assoc] at hb2; grind
      have := (Nat.le_div_iff_mul_le (Nat.two_pow_pos (k + 1))).mpr this
      rw [Nat.pow_succ]; rw [Nat.pow_succ] at this; omega
  have hx : a / 2 ^ (2 * h) * 2 ^ h + a / 2 ^ h % 2 ^ h = a / 2 ^ h := by
    rw [sq_pow, ← Nat.div_div_eq_div_mul, Nat.mul_comm]; exact Nat.div_add_mod _ _
  have ha12 : a / 2 ^ (2 * h) < b := by rw [sq_pow]; exact Nat.div_lt_of_lt_mul (by rw [Nat.mul_comm]; exact ha)
  have c1 := hF _ _ _ _ _ _ (ok (a / 2 ^ (2 * h)) (a / 2 ^ h % 2 ^ h) ha12 (Nat.mod_lt _ hp))
  rw [hx] at c1
  have hr := Nat.mod_lt (a / 2 ^ h) hb0
  have c2 := hF _ _ _ _ _ _ (ok (a / 2 ^ h % b) (a % 2 ^ h) hr (Nat.mod_lt _ hp))
  have hA : a / 2 ^ h / b * 2 ^ h * b + (a / 2 ^ h % b * 2 ^ h + a % 2 ^ h) = a := by
    have e1 := Nat.div_add_mod (a / 2 ^ h) b
    have e2 := Nat.div_add_mod a (2 ^ h)
    grind
  have hq2 : (a / 2 ^ h % b * 2 ^ h + a % 2 ^ h) / b < 2 ^ h := by
    apply Nat.div_lt_of_lt_mul
    have : (a / 2 ^ h % b + 1) * 2 ^ h ≤ b * 2 ^ h := Nat.mul_le_mul_right _ hr
    have := Nat.mod_lt a hp
    rw [Nat.succ_mul] at *
    omega
  have hq1 : a / 2 ^ h / b < 2 ^ h := by
    apply Nat.div_lt_of_lt_mul
    apply Nat.div_lt_of_lt_mul
    calc a < b * (2 ^ h * 2 ^ h) := ha
      _ = 2 ^ h * (b * 2 ^ h) := by grind
  have hrem : (a / 2 ^ h % b * 2 ^ h + a % 2 ^ h) % b = a % b := by
    conv => rhs; rw [← hA]
    rw [Nat.mul_add_mod_self_right]
  rw [hrem] at c2
  refine ⟨a / 2 ^ h / b, (a / 2 ^ h % b * 2 ^ h + a % 2 ^ h) / b, hq1, hq2, ?_, ?_⟩
  · conv => rhs; rw [← hA]
    rw [Nat.add_comm (a / 2 ^ h / b * 2 ^ h * b), Nat.add_mul_div_right _ _ hb0, Nat.add_comm]
  · have e1 : binV .LShift (.int 1) (.int (h : Int)) = some (.int ((1 * 2 ^ h : Nat) : Int)) := binV_shl (a := 1) (m := 1) (by decide) (by omega)
    rw [Nat.one_mul] at e1
    have e2 := binV_sub1 (a := 2 ^ h) hp
    exact ss_step (l' := loc2 a b (2 * h) p h (nv (2 ^ h - 1)) none none none none none) (asg' (ev_bin (ev_bin rfl rfl e1) rfl e2)) (ss_step (l' := loc2 a b (2 * h) p h (nv (2 ^ h - 1)) (nv (b / 2 ^ h)) (nv (b % 2 ^ h)) none none none) (asgT' (ev_tup2 (ev_bin rfl rfl binV_shr) (ev_bin rfl rfl binV_mask)))
      (ss_step (l' := loc2 a b (2 * h) p h (nv (2 ^ h - 1)) (nv (b / 2 ^ h)) (nv (b % 2 ^ h)) (nv (a / 2 ^ h / b)) (nv (a / 2 ^ h % b)) none) (asgT' (ev_call (evs6 (ev_bin rfl rfl binV_shr) (ev_bin (ev_bin rfl rfl binV_shr) rfl binV_mask) rfl rfl rfl rfl) c1)) (ss_step (asgT' (ev_call (evs6 rfl (ev_bin rfl rfl binV_mask) rfl rfl rfl rfl) c2)) rfl)))
end Mine

-- A6
namespace Mine
open PySem PySem.Spec PySem.Calls PyProof.Rows PySem.W

noncomputable def loc20 (a b n : Nat) : Loc := [some (.dat (.int a)), some (.dat (.int b)), some (.dat (.int (n : Int))), none, none, none, none, none, none, none, none]
noncomputable def loc21 (a b n p : Nat) : Loc := [some (.dat (.int a)), some (.dat (.int b)), some (.dat (.int (n : Int))), nv p, none, none, none, none, none, none, none]
theorem d2_p0 {F : Orc} {W a b n : Nat} (h3 : ¬ ((bits (a : Int) : Nat) : Int) - (n : Int) ≤ 4000) : evS F W s_div2n1n_0 (loc20 a b n) = some (.next, loc20 a b n) :=
  ite_n (evT_cmp (ev_bin (ev_meth rfl rfl rfl) rfl rfl) rfl (cmp_le_f h3))
theorem and1_even {h : Nat} : binV .BitAnd (.int ((2 * h : Nat) : Int)) (.int 1) = some (.int ((0 : Nat) : Int)) := by
  show some (PyData.int (Builtin.bitAnd ((2 * h : Nat) : Int) 1)) = _
  rw [bitAnd_m1]; exact congrArg (fun i => some (PyData.int i)) (by omega)
theorem and1_odd {h : Nat} (h1 : 1 ≤ h) : binV .BitAnd (.int ((2 * h - 1 : Nat) : Int)) (.int 1) = some (.int ((1 : Nat) : Int)) := by
  show some (PyData.int (Builtin.bitAnd ((2 * h - 1 : Nat) : Int) 1)) = _
  rw [bitAnd_m1]; exact congrArg (fun i => some (PyData.int i)) (by omega)
theorem shr_half {h : Nat} : binV .RShift (.int ((2 * h : Nat) : Int)) (.int 1) = some (.int ((h : Nat) : Int)) := by
  rw [show (1 : Int) = ((1 : Nat) : Int) from rfl, binV_shr, Nat.pow_one, Nat.mul_div_cancel_left _ (by decide)]
theorem le_bits {h m : Nat} (hh : h ≤ 4501) (hm : m ≤ 20000) : m + h ≤ 2 ^ 27 := Nat.le_trans (Nat.add_le_add hm hh) (by decide)
theorem d2_p1 {F : Orc} {W a b h : Nat} : evSs F W [s_div2n1n_1, s_div2n1n_2, s_div2n1n_3] (loc20 a b (2 * h)) = some (.next, loc2 a b (2 * h) 0 h none none none none none none) :=
  ss_step (l' := loc21 a b (2 * h) 0) (asg' (ev_bin rfl rfl and1_even)) (ss_step (ite_n (evT_of (x := .int ((0 : Nat) : Int)) rfl rfl rfl)) (ss_step (asg' (ev_bin rfl rfl shr_half)) rfl))
theorem d2_p2 {F : Orc} {W a b h q1 q2 r B : Nat} (hh : h ≤ 4501) (k1 : q1 < 2 ^ h) (k2 : q2 < 2 ^ h) (k3 : q1 * 2 ^ h + q2 = B) {m b1 b2 : Option MV} (hm : ∀ l, m ≠ some (.own l)) : evSs F W [s_div2n1n_8, s_div2n1n_9] (loc2 a b (2 * h) 0 h m b1 b2 (nv q1) (nv r) (nv q2)) =
    some (.ret (.tuple [.int ((B : Nat) : Int), .int (r : Int)]), loc2 a b (2 * h) 0 h m b1 b2 (nv q1) (nv r) (nv q2)) :=
  ss_step (ite_n (evT_of (x := .int ((0 : Nat) : Int)) rfl rfl rfl)) (ss_ret (ret' (ev_tup2 (ev_bin (ev_bin rfl rfl (binV_shl k1 (le_bits hh (Nat.le_trans hh (by decide))))) rfl (k3 ▸ binV_or k2)) rfl)))
theorem d2_o1 {F : Orc} {W a b h m : Nat} (h1 : 1 ≤ h) (hh : h ≤ 4501) (ha : a < 2 ^ m) (hb : b < 2 ^ m) (hm : m ≤ 20000) : evSs F W [s_div2n1n_1, s_div2n1n_2, s_div2n1n_3] (loc20 a b (2 * h - 1)) = some (.next, loc2 (a * 2) (b * 2) (2 * h) 1 h none none none none none none) := by
  have hz : m + 1 ≤ 2 ^ 27 := le_bits (by decide) hm
  have e5 : augV .Add (.int ((2 * h - 1 : Nat) : Int)) (.int 1) = some (.int ((2 * h : Nat) : Int)) := by
    rw [augV_addI, show ((2 * h - 1 : Nat) : Int) + 1 = ((2 * h : Nat) : Int) by omega]
  exact ss_step (l' := loc21 a b (2 * h - 1) 1) (asg' (ev_bin rfl rfl (and1_odd h1))) (ss_step (l' := loc21 (a * 2) (b * 2) (2 * h) 1) (ite_t' (evT_of (x := .int ((1 : Nat) : Int)) rfl rfl rfl)
    (ss_step (l' := loc21 (a * 2) b (2 * h - 1) 1) (aug' rfl (augV_shl (n := 1) ha hz)) (ss_step (l' := loc21 (a * 2) (b * 2) (2 * h - 1) 1) (aug' rfl (augV_shl (n := 1) hb hz)) (ss_step (aug' rfl e5) rfl))))
    (ss_step (asg' (ev_bin rfl rfl shr_half)) rfl))
theorem d2_o2 {F : Orc} {W a b h q1 q2 r B : Nat} (hh : h ≤ 4501) (k1 : q1 < 2 ^ h) (k2 : q2 < 2 ^ h) (k3 : q1 * 2 ^ h + q2 = B) {m b1 b2 : Option MV} : evSs F W [s_div2n1n_8, s_div2n1n_9] (loc2 a b (2 * h) 1 h m b1 b2 (nv q1) (nv (r * 2)) (nv q2)) =
    some (.ret (.tuple [.int ((B : Nat) : Int), .int (r : Int)]), loc2 a b (2 * h) 1 h m b1 b2 (nv q1) (nv r) (nv q2)) := by
  have e3 : augV .RShift (.int ((r * 2 : Nat) : Int)) (.int 1) = some (.int ((r : Nat) : Int)) := by
    rw [show (1 : Int) = ((1 : Nat) : Int) from rfl, augV_shr, Nat.pow_one, Nat.mul_div_cancel _ (by decide)]
  exact ss_step (l' := loc2 a b (2 * h) 1 h m b1 b2 (nv q1) (nv r) (nv q2)) (ite_t' (evT_of (x := .int ((1 : Nat) : Int)) rfl rfl rfl) (ss_step (aug' rfl e3) rfl))
    (ss_ret (ret' (ev_tup2 (ev_bin (ev_bin rfl rfl (binV_shl k1 (le_bits hh (Nat.le_trans hh (by decide))))) rfl (k3 ▸ binV_or k2)) rfl)))

theorem div2_ev {F : Orc} {W a b n : Nat} (hn : 2 ≤ n) (hn2 : n ≤ 9000) (hb : b < 2 ^ n) (hb2 : 2 ^ n ≤ 2 * b) (ha : a < b * 2 ^ n) (ha2 : n + 4000 < bits (a : Int))
    (hF : ∀ a12 a3 b b1 b2 m : Nat, Ok3 ((n + 1) / 2) a12 a3 b b1 b2 m → F 5 [.int (a12 : Int), .int (a3 : Int), .int (b : Int), .int (b1 : Int), .int (b2 : Int), .int (m : Int)] = some (.tuple [.int (((a12 * 2 ^ m + a3) / b : Nat) : Int), .int (((a12 * 2 ^ m + a3) % b : Nat) : Int)])) :
    evFn F W m_div2n1n [.int (a : Int), .int (b : Int), .int (n : Int)] = some (.tuple [.int ((a / b : Nat) : Int), .int ((a % b : Nat) : Int)]) := by
  have h3 : ¬ ((bits (a : Int) : Nat) : Int) - (n : Int) ≤ 4000 := by omega
  have ha3 : a < 2 ^ (2 * n) := by
    rw [sq_pow]; exact Nat.lt_trans ha (Nat.mul_lt_mul_of_pos_right hb (Nat.two_pow_pos n))
  have p0 := d2_p0 (F := F) (W := W) (b := b) h3
  rcases Nat.mod_two_eq_zero_or_one n with e | e
  · obtain ⟨h, rfl⟩ : ∃ h, n = 2 * h := ⟨n / 2, by omega⟩
    obtain ⟨q1, q2, k1, k2, k3, k4⟩ := div2_mid (F := F) (W := W) (a := a) (b := b) (p := 0) (h := h) (by omega) (by omega) hb hb2 ha (by rw [show (2 * h + 1) / 2 = h by omega] at hF; exact hF)
    have fin := ss_step p0 (ss3 d2_p1 k4 (d2_p2 (by omega) k1 k2 k3 nofun))
    exact evFn_ret (fn := m_div2n1n) (loc := loc20 a b (2 * h)) rfl rfl fin
  · obtain ⟨h, rfl⟩ : ∃ h, n = 2 * h - 1 := ⟨(n + 1) / 2, by omega⟩
    have en : 2 ^ (2 * h) = 2 ^ (2 * h - 1) * 2 := by rw [← Nat.pow_succ]; congr 1; omega
    obtain ⟨q1, q2, k1, k2, k3, k4⟩ := div2_mid (F := F) (W := W) (a := a * 2) (b := b * 2) (p := 1) (h := h) (by omega) (by omega) (by omega) (by omega) (by
        rw [en, ← Nat.mul_assoc]
        have : b * 2 * 2 ^ (2 * h - 1) * 2 = 2 * (2 * (b * 2 ^ (2 * h - 1))) := by grind
        rw [this]; omega) (by rw [show (2 * h - 1 + 1) / 2 = h by omega] at hF; exact hF)
    have em : a * 2 % (b * 2) = a % b * 2 := Nat.mul_mod_mul_right 2 a b
    have ed : a * 2 / (b * 2) = a / b := Nat.mul_div_mul_right a b (by decide)
    rw [em] at k4
    rw [ed] at k3
    have hb4 : b < 2 ^ (2 * (2 * h - 1)) := Nat.lt_of_lt_of_le hb (Nat.pow_le_pow_right (by decide) (by omega))
    have fin := ss_step p0 (ss3 (d2_o1 (by omega) (by omega) ha3 hb4 (by omega)) k4 (d2_o2 (by omega) k1 k2 k3))
    exact evFn_ret (fn := m_div2n1n) (loc := loc20 a b (2 * h - 1)) rfl rfl fin
end Mine

-- A7
namespace Mine
open PySem PySem.Spec PySem.Calls PyProof.Rows PySem.W

noncomputable def pl (l : List Nat) : List PyData := l.map fun (x : Nat) => PyData.int (x : Int)
theorem pl_casts (l : List Nat) : (casts l).map PyData.int = pl l := by simp [casts, pl]
theorem pl_len (l : List Nat) : (pl l).length = l.length := by simp [pl]
theorem pl_rev (l : List Nat) : (pl l).reverse = pl l.reverse := by simp [pl]
theorem pl_app (l : List Nat) (q : Nat) : pl l ++ [.int (q : Int)] = pl (l ++ [q]) := by simp [pl]

noncomputable def locP (a b n : Nat) (dl qs : List Nat) (r : Nat) (v6 v7 : Option MV) : Loc := [nv a, nv b, nv n, some (.dat (.list (pl dl))), nv r, some (.own (pl qs)), v6, v7, none]
noncomputable def NoOwn (v : Option MV) : Prop := ∀ l, v ≠ some (.own l)

theorem divpos_loop {F : Orc} {W a b n : Nat} {dl : List Nat} (hb : 0 < b) (hbn : b < 2 ^ n) (hn : n ≤ 9000)
    (hF : ∀ x : Nat, x < b * 2 ^ n → F 4 [.int (x : Int), .int (b : Int), .int (n : Int)] = some (.tuple [.int ((x / b : Nat) : Int), .int ((x % b : Nat) : Int)])) :
    ∀ (ds qs : List Nat) (r : Nat) (v6 v7 : Option MV), (∀ d ∈ ds, d < 2 ^ n) → r < b → ds.length + qs.length ≤ 4096 →
    ∃ (new : List Nat) (v6' v7' : Option MV), evFor (.one 6) (fun l => evSs F W [.assignT [7, 4] (.call 4 [(.bin .Add (.bin .LShift (.var 4) (.var 2)) (.var 6)), (.var 1), (.var 2)]), .app 5 (.var 7)] l) (pl ds) (locP a b n dl qs r v6 v7) =
      some (.next, locP a b n dl (qs ++ new) ((r * 2 ^ (n * ds.length) + undigs n ds.reverse) % b) v6' v7') ∧ (∀ d ∈ new, d < 2 ^ n) ∧ new.length = ds.length ∧ undigs n new.reverse = (r * 2 ^ (n * ds.length) + undigs n ds.reverse) / b := by
  intro ds
  induction ds with
  | nil =>
    intro qs r v6 v7 _ hr _
    refine ⟨[], v6, v7, ?_, (fun _ h => nomatch h), rfl, ?_⟩
    · show some (MF.next, _) = _
      rw [List.append_nil, List.length_nil, Nat.mul_zero, Nat.pow_zero, Nat.mul_one, List.reverse_nil, show undigs n [] = 0 from rfl, Nat.add_zero, Nat.mod_eq_of_lt hr]
    · rw [List.length_nil, Nat.mul_zero, Nat.pow_zero, Nat.mul_one, List.reverse_nil, show undigs n [] = 0 from rfl, Nat.add_zero, Nat.div_eq_of_lt hr]
  | cons d ds ih =>
    intro qs r v6 v7 hd hr hl
    have hd0 := hd d (.head _)
    have hp := Nat.two_pow_pos n
    have hx : r * 2 ^ n + d < b * 2 ^ n := by
      have : (r + 1) * 2 ^ n ≤ b * 2 ^ n := Nat.mul_le_mul_right _ hr
      rw [Nat.succ_mul] at this; omega
    have hq : (r * 2 ^ n + d) / b < 2 ^ n := Nat.div_lt_of_lt_mul hx
    obtain ⟨new, v6', v7', e, h1, h2, h3⟩ := ih (qs ++ [(r * 2 ^ n + d) / b]) ((r * 2 ^ n + d) % b) (nv d) (nv ((r * 2 ^ n + d) / b)) (fun x h => hd x (.tail _ h)) (Nat.mod_lt _ hb) (by rw [List.length_append]; show ds.length + (qs.length + 1) ≤ 4096; rw [Nat.add_comm qs.length, ← Nat.add_assoc]; exact hl)
    have hU : r * 2 ^ (n * (ds.length + 1)) + undigs n (ds.reverse ++ [d]) = (r * 2 ^ n + d) * 2 ^ (n * ds.length) + undigs n ds.reverse := by
      rw [undigs_append, List.length_reverse]
      simp only [undigs, Nat.mul_zero, Nat.add_zero]
      rw [Nat.mul_succ, Nat.pow_add]
      grind
    have hdm := Nat.div_add_mod (r * 2 ^ n + d) b
    have hV : (r * 2 ^ n + d) * 2 ^ (n * ds.length) + undigs n ds.reverse = ((r * 2 ^ n + d) % b * 2 ^ (n * ds.length) + undigs n ds.reverse) + b * ((r * 2 ^ n + d) / b * 2 ^ (n * ds.length)) := by
      conv => lhs; rw [← hdm]
      grind
    refine ⟨(r * 2 ^ n + d) / b :: new, v6', v7', ?_, ?_, by simp [h2], ?_⟩
    · have e1 : binV .LShift (.int (r : Int)) (.int (n : Int)) = some (.int ((r * 2 ^ n : Nat) : Int)) := binV_shl (m := n) (Nat.lt_trans hr hbn) (Nat.le_trans (Nat.add_le_add hn hn) (by decide))
      refine (for_go rfl (l' := locP a b n dl (qs ++ [(r * 2 ^ n + d) / b]) ((r * 2 ^ n + d) % b) (nv d) (nv ((r * 2 ^ n + d) / b))) (ss_step (l' := locP a b n dl qs ((r * 2 ^ n + d) % b) (nv d) (nv ((r * 2 ^ n + d) / b))) (asgT' (ev_call (evs3 (ev_bin (ev_bin rfl rfl e1) rfl rfl) rfl rfl) (hF _ hx))) (ss_step ?_ rfl))).trans ?_
      · have ha := app' (F := F) (W := W) (l := locP a b n dl qs ((r * 2 ^ n + d) % b) (nv d) (nv ((r * 2 ^ n + d) / b))) (i := 5) (e := .var 7) (d := .int (((r * 2 ^ n + d) / b : Nat) : Int)) (xs := pl qs) rfl (by rw [pl_len]; exact Nat.le_trans (Nat.le_add_left ..) (Nat.le_trans hl (by decide)))
        rw [pl_app] at ha
        exact ha
      · refine e.trans ?_
        rw [List.append_assoc, List.singleton_append, List.length_cons, List.reverse_cons, hU, hV, Nat.add_mul_mod_self_left]
    · intro x hx
      rcases List.mem_cons.mp hx with rfl | hx
      · exact hq
      · exact h1 x hx
    · simp only [List.reverse_cons, List.length_cons]
      rw [hU, hV, Nat.add_mul_div_left _ _ hb, ← h3, undigs_append, List.length_reverse, h2]
      simp only [undigs, Nat.mul_zero, Nat.add_zero]
      rw [Nat.mul_comm (2 ^ _)]

theorem divpos_ev {F : Orc} {W a b : Nat} (hb : 0 < b) (hn : bits (b : Int) ≤ 9000) (hc : (bits (a : Int) + bits (b : Int) - 1) / bits (b : Int) ≤ 4096)
    (h6 : F 6 [.int (a : Int), .int ((bits (b : Int) : Nat) : Int)] = some (.list (pl (digs (bits (b : Int)) ((bits (a : Int) + bits (b : Int) - 1) / bits (b : Int)) a))))
    (h4 : ∀ x : Nat, x < b * 2 ^ bits (b : Int) → F 4 [.int (x : Int), .int (b : Int), .int ((bits (b : Int) : Nat) : Int)] = some (.tuple [.int ((x / b : Nat) : Int), .int ((x % b : Nat) : Int)]))
    (h7 : ∀ ds : List Nat, ds.length ≤ 4096 → (∀ d ∈ ds, d < 2 ^ bits (b : Int)) → F 7 [.list (pl ds), .int ((bits (b : Int) : Nat) : Int)] = some (.int ((undigs (bits (b : Int)) ds : Nat) : Int))) :
    evFn F W m_divmod_pos [.int (a : Int), .int (b : Int)] = some (.tuple [.int ((a / b : Nat) : Int), .int ((a % b : Nat) : Int)]) := by
  have hbn := bits_lt b
  have hn1 := bits_pos hb
  have hlt : a < 2 ^ (bits (b : Int) * ((bits (a : Int) + bits (b : Int) - 1) / bits (b : Int))) := lt_cnt hn1
  have s0 : evS F W s_divmod_pos_0 [nv a, nv b, none, none, none, none, none, none, none] = some (.next, [nv a, nv b, nv (bits (b : Int)), none, none, none, none, none, none]) := by
    exact asg' (ev_meth rfl rfl rfl)
  generalize bits (b : Int) = n at *
  generalize hk : (bits (a : Int) + n - 1) / n = k at *
  have hdl : (digs n k a).length = k := digs_len
  have hdd : ∀ d ∈ digs n k a, d < 2 ^ n := by
    intro d
    clear hk h6 hlt s0 hdl hc
    revert a
    induction k with
    | zero => intro a h; cases h
    | succ k ih =>
      intro a h
      rcases List.mem_cons.mp h with rfl | h
      · exact Nat.mod_lt _ (Nat.two_pow_pos n)
      · exact ih h
  obtain ⟨new, v6', v7', e, h1, h2, h3⟩ := divpos_loop (F := F) (W := W) (a := a) (dl := digs n k a) hb hbn hn h4 (digs n k a).reverse [] 0 none none (fun d h => hdd d (List.mem_reverse.mp h)) hb (by simp [hdl]; omega)
  rw [List.reverse_reverse, undigs_digs hlt, Nat.zero_mul, Nat.zero_add] at e h3
  rw [List.length_reverse, hdl] at h2
  have h7' := h7 new.reverse (by rw [List.length_reverse]; omega) (fun d h => h1 d (List.mem_reverse.mp h))
  rw [h3] at h7'
  refine evFn_ret (loc := [nv a, nv b, none, none, none, none, none, none, none]) rfl rfl (loc' := [nv a, nv b, nv n, some (.dat (.list (pl (digs n k a)))), nv (a % b), some (.dat (.list (pl new.reverse))), v6', v7', nv (a / b)]) ?_
  have hl : new.length ≤ 2 ^ 20 := by rw [h2]; exact Nat.le_trans hc (by decide)
  refine ss_step s0 (ss_step (l' := [nv a, nv b, nv n, some (.dat (.list (pl (digs n k a)))), none, none, none, none, none]) (asg' (ev_call (evs2 rfl rfl) h6)) (ss_step (l' := [nv a, nv b, nv n, some (.dat (.list (pl (digs n k a)))), nv 0, none, none, none, none]) (asg' rfl)
    (ss_step (l' := locP a b n (digs n k a) [] 0 none none) (own' rfl) (ss_step (for' (xs := pl (digs n k a).reverse) ?_ e) (ss_step (l' := locP a b n (digs n k a) new.reverse (a % b) v6' v7') ?_ (ss_step (asg_ev rfl (ev_call (evs2 rfl rfl) h7')) (ss_ret (ret' (ev_tup2 rfl rfl)))))))))
  · rw [← pl_rev]; exact evI_rev rfl (by rw [pl_len, hdl]; exact Nat.le_trans hc (by decide))
  · have hr := rev' (F := F) (W := W) (l := locP a b n (digs n k a) new (a % b) v6' v7') (i := 5) (xs := pl new) (by rw [pl_len]; exact hl)
    rw [pl_rev] at hr
    exact hr
end Mine

-- A8
namespace Mine
open PySem PySem.Spec PySem.Calls PyProof.Rows PySem.W

/-! ## int_divmod -/
theorem fd_unique {a b q r : Int} (hb : 0 < b) (h : q * b + r = a) (h0 : 0 ≤ r) (h1 : r < b) : a.fdiv b = q ∧ a.fmod b = r := by
  rw [Int.fdiv_eq_ediv_of_nonneg _ (by omega), Int.fmod_eq_emod_of_nonneg _ (by omega)]
  exact (Int.ediv_emod_unique hb).mpr ⟨by rw [Int.mul_comm]; omega, h0, h1⟩
theorem fd_spec {a b : Int} (hb : 0 < b) : a.fdiv b * b + a.fmod b = a ∧ 0 ≤ a.fmod b ∧ a.fmod b < b := by
  rw [Int.fdiv_eq_ediv_of_nonneg _ (by omega), Int.fmod_eq_emod_of_nonneg _ (by omega)]
  refine ⟨?_, Int.emod_nonneg _ (by omega), Int.emod_lt_of_pos _ hb⟩
  rw [Int.mul_comm]; exact Int.mul_ediv_add_emod a b
noncomputable def dm (a b : Int) : PyData := .tuple [.int (a.fdiv b), .int (a.fmod b)]

theorem intdiv_pos {F : Orc} {W : Nat} {a b : Int} (ha : 0 ≤ a) (hb : 0 < b) (h8 : F 8 [.int a, .int b] = some (dm a b)) : evFn F W m_int_divmod [.int a, .int b] = some (dm a b) :=
  evFn_ret (loc := [some (.dat (.int a)), some (.dat (.int b)), none, none]) rfl rfl (loc' := [some (.dat (.int a)), some (.dat (.int b)), none, none])
    (ss_ret (ite_f' (evT_cmp rfl rfl (cmp_eq_f (Int.ne_of_gt hb))) (ss_ret (ite_f' (evT_cmp rfl rfl (cmp_lt_f (Int.not_lt.mpr (Int.le_of_lt hb)))) (ss_ret (ite_f' (evT_cmp rfl rfl (cmp_lt_f (Int.not_lt.mpr ha))) (ss_ret (ret' (ev_call (evs2 rfl rfl) h8)))))))))
theorem intdiv_a {F : Orc} {W : Nat} {a b : Int} (ha : a < 0) (hb : 0 < b) (h9 : F 9 [.int (-a - 1), .int b] = some (dm (-a - 1) b)) : evFn F W m_int_divmod [.int a, .int b] = some (dm a b) := by
  obtain ⟨s1, s2, s3⟩ := fd_spec (a := -a - 1) hb
  obtain ⟨u1, u2⟩ := fd_unique (a := a) (q := -((-a - 1).fdiv b) - 1) (r := b + (-((-a - 1).fmod b) - 1)) hb (by rw [Int.sub_mul, Int.neg_mul]; omega) (by omega) (by omega)
  refine evFn_ret (loc := [some (.dat (.int a)), some (.dat (.int b)), none, none]) rfl rfl (loc' := [some (.dat (.int a)), some (.dat (.int b)), some (.dat (.int ((-a - 1).fdiv b))), some (.dat (.int ((-a - 1).fmod b)))]) ?_
  rw [dm, u1, u2]
  exact ss_ret (ite_f' (evT_cmp rfl rfl (cmp_eq_f (Int.ne_of_gt hb))) (ss_ret (ite_f' (evT_cmp rfl rfl (cmp_lt_f (Int.not_lt.mpr (Int.le_of_lt hb)))) (ss_ret (ite_t' (evT_cmp rfl rfl (cmp_lt_t ha))
    (ss_step (asgT' (ev_call (evs2 (ev_un rfl rfl) rfl) h9)) (ss_ret (ret' (ev_tup2 (ev_un rfl rfl) (ev_bin rfl (ev_un rfl rfl) rfl))))))))))
theorem neg_fd {a b : Int} (hb : b < 0) : a.fdiv b = (-a).fdiv (-b) ∧ a.fmod b = -((-a).fmod (-b)) := by
  have h1 : (-a).fdiv (-b) = a.fdiv b := Int.neg_fdiv_neg a b
  refine ⟨h1.symm, ?_⟩
  have h2 := Int.mul_fdiv_add_fmod a b
  have h3 := Int.mul_fdiv_add_fmod (-a) (-b)
  rw [h1, Int.neg_mul] at h3
  omega
theorem intdiv_b {F : Orc} {W : Nat} {a b : Int} (hb : b < 0) (h9 : F 9 [.int (-a), .int (-b)] = some (dm (-a) (-b))) : evFn F W m_int_divmod [.int a, .int b] = some (dm a b) := by
  obtain ⟨u1, u2⟩ := neg_fd (a := a) hb
  refine evFn_ret (loc := [some (.dat (.int a)), some (.dat (.int b)), none, none]) rfl rfl (loc' := [some (.dat (.int a)), some (.dat (.int b)), some (.dat (.int ((-a).fdiv (-b)))), some (.dat (.int ((-a).fmod (-b))))]) ?_
  rw [dm, u1, u2]
  exact ss_ret (ite_f' (evT_cmp rfl rfl (cmp_eq_f (Int.ne_of_lt hb))) (ss_ret (ite_t' (evT_cmp rfl rfl (cmp_lt_t hb))
    (ss_step (asgT' (ev_call (evs2 (ev_un rfl rfl) (ev_un rfl rfl)) h9)) (ss_ret (ret' (ev_tup2 rfl (ev_un rfl rfl))))))))
end Mine

-- A9
namespace Mine
open PySem PySem.Spec PySem.Calls PyProof.Rows PySem.W

/-! ## serving: from values to calls -/
noncomputable def fnsAll : List Str := ["_iter_escaped_chars", "_strip_quoted_realnames", "_check_parenthesis", "_pre_parse_validation", "_div2n1n", "_div3n2n", "_int2digits", "_digits2int", "_divmod_pos", "int_divmod", "_substitution_cost", "_levenshtein_distance", "_law_drawn", "_law_heights", "_law_text", "_law_near", "_law_refused", "_law_steps"]
noncomputable def constsAll : List (Str × PyData) := [("_DIV_LIMIT", .int 4000), ("_MAX_STRING_SIZE", .int 40), ("_MOVE_COST", .int 2), ("_CASE_COST", .int 1)]

noncomputable def Srv (C : Cx) (k : Nat) (x : Str) (args : List PyData) (r : PyData) : Prop := (∃ d ∈ C.defs, d.name = x) ∧ ∀ a, C.mg x = some (.ref a) → CallsTo C k (.ref a) args r
theorem Srv.le {C : Cx} {k k' : Nat} {x : Str} {args : List PyData} {r : PyData} (h : Srv C k x args r) (hk : k ≤ k') : Srv C k' x args r := ⟨h.1, fun a e => (h.2 a e).le hk⟩
noncomputable def Serves (C : Cx) (k : Nat) (F : Orc) : Prop := ∀ i x, fnsAll[i]? = some x → ∀ args r, F i args = some r → Srv C k x args r
theorem Serves.le {C : Cx} {k k' : Nat} {F : Orc} (h : Serves C k F) (hk : k ≤ k') : Serves C k' F := fun i x e args r hr => (h i x e args r hr).le hk
noncomputable def orc0 : Orc := fun _ _ => none
theorem serves0 {C : Cx} {k : Nat} : Serves C k orc0 := fun _ _ _ _ _ h => nomatch h
open Classical in
noncomputable def orc1 (i0 : Nat) (P : List PyData → PyData → Prop) : Orc := fun i args => if h : i = i0 ∧ ∃ r, P args r then some (Classical.choose h.2) else none
theorem orc1_some {i0 : Nat} {P : List PyData → PyData → Prop} {args : List PyData} {r : PyData} (hu : ∀ args r r', P args r → P args r' → r = r') (h : P args r) : orc1 i0 P i0 args = some r := by
  unfold orc1
  rw [dif_pos ⟨rfl, r, h⟩]
  exact congrArg some (hu _ _ _ (Classical.choose_spec (p := fun r => P args r) ⟨r, h⟩) h)
theorem orc1_ne {i0 i : Nat} {P : List PyData → PyData → Prop} {args : List PyData} (h : i ≠ i0) : orc1 i0 P i args = none := by
  unfold orc1
  rw [dif_neg (fun q => h q.1)]
theorem serves1 {C : Cx} {k i0 : Nat} {x : Str} {P : List PyData → PyData → Prop} (hx : fnsAll[i0]? = some x) (h : ∀ args r, P args r → Srv C k x args r) : Serves C k (orc1 i0 P) := fun i y e args r hr => by
  unfold orc1 at hr
  split at hr
  · rename_i hq
    cases hr
    obtain ⟨rfl, hq2⟩ := hq
    rw [hx] at e; cases e
    exact h _ _ (Classical.choose_spec (p := fun r => P args r) hq2)
  · cases hr
noncomputable def orcOr (F G : Orc) : Orc := fun i args => (F i args).or (G i args)
theorem servesOr {C : Cx} {k : Nat} {F G : Orc} (hF : Serves C k F) (hG : Serves C k G) : Serves C k (orcOr F G) := fun i x e args r hr => by
  unfold orcOr at hr
  cases hf : F i args with
  | none => rw [hf] at hr; exact hG i x e args r hr
  | some r' => rw [hf] at hr; cases hr; exact hF i x e args _ hf
theorem or_l {F G : Orc} {i : Nat} {args : List PyData} {r : PyData} (h : F i args = some r) : orcOr F G i args = some r := by unfold orcOr; rw [h]; rfl
theorem or_r {F G : Orc} {i : Nat} {args : List PyData} {r : PyData} (h0 : F i args = none) (h : G i args = some r) : orcOr F G i args = some r := by unfold orcOr; rw [h0, h]; rfl

/-- a def of the program, compiled -/
structure FnOk (C : Cx) (x : Str) (m : MFn) : Prop where
  ex : ∃ d ∈ C.defs, d.name = x ∧ DefOk d ∧ (∀ pm code doc vals, vals.length = (paramsOf d).length → bindArgs (docDef d.name d.params d.body d.scope pm code doc) ⟨vals, []⟩ = pure ((paramsOf d).zip vals)) ∧ d.params.args.length = m.np ∧
    ∀ (F : Orc) (k W : Nat), Ok C k F (ccOf d.params d.scope fnsAll constsAll) → SSs C F k W (ccOf d.params d.scope fnsAll constsAll) d.body m.body
structure Base (C : Cx) : Prop where
  bi : ∀ n ∈ biNames, C.mg n = none
  const : ∀ x d, constsAll.lookup x = some d → ∃ v, C.mg x = some v ∧ ∀ h : Heap, Reads h v d []
theorem fnsAll_nolist : ∀ i : Nat, fnsAll[i]? ≠ some "list" := by
  intro i h
  have := List.mem_of_getElem? h
  exact absurd this (by decide +kernel)
theorem Base.ok {C : Cx} (B : Base C) {k : Nat} {F : Orc} {ps : Arguments} {sc : Scope} (S : Serves C k F) : Ok C k F (ccOf ps sc fnsAll constsAll) := ⟨S, B.bi, fnsAll_nolist, B.const⟩
theorem fn_call {C : Cx} {k W : Nat} {F : Orc} {x : Str} {m : MFn} {args : List PyData} {r : PyData} (B : Base C) (H : FnOk C x m) (S : Serves C k F) (hr : evFn F W m args = some r) : Srv C (k + 1) x args r := by
  obtain ⟨d, hd, rfl, D, hb, hnp, hss⟩ := H.ex
  refine ⟨⟨d, hd, rfl⟩, ?_⟩
  refine call_ss (N := m.n) (fns := fnsAll) (consts := constsAll) hd D (hss F k W (B.ok S)) hb ?_
  rw [hnp]; exact hr

/-! ## division -/
structure D2 (N a b n : Nat) : Prop where
  n1 : 1 ≤ n
  nN : n ≤ N
  hb : b < 2 ^ n
  hb2 : 2 ^ n ≤ 2 * b
  ha : a < b * 2 ^ n
noncomputable def P2 (N : Nat) (args : List PyData) (r : PyData) : Prop := ∃ a b n : Nat, D2 N a b n ∧ args = [.int (a : Int), .int (b : Int), .int (n : Int)] ∧ r = .tuple [.int ((a / b : Nat) : Int), .int ((a % b : Nat) : Int)]
noncomputable def P3 (N : Nat) (args : List PyData) (r : PyData) : Prop := ∃ a12 a3 b b1 b2 n : Nat, Ok3 N a12 a3 b b1 b2 n ∧ args = [.int (a12 : Int), .int (a3 : Int), .int (b : Int), .int (b1 : Int), .int (b2 : Int), .int (n : Int)] ∧
  r = .tuple [.int (((a12 * 2 ^ n + a3) / b : Nat) : Int), .int (((a12 * 2 ^ n + a3) % b : Nat) : Int)]
theorem P2.uniq {N : Nat} : ∀ args r r', P2 N args r → P2 N args r' → r = r' := by
  rintro args r r' ⟨a, b, n, _, rfl, rfl⟩ ⟨a', b', n', _, e, rfl⟩
  simp only [List.cons.injEq, PyData.int.injEq, Int.natCast_inj] at e
  obtain ⟨rfl, rfl, rfl, _⟩ := e
  rfl
theorem P3.uniq {N : Nat} : ∀ args r r', P3 N args r → P3 N args r' → r = r' := by
  rintro args r r' ⟨a, b, c, d, e, f, _, rfl, rfl⟩ ⟨a', b', c', d', e', f', _, q, rfl⟩
  simp only [List.cons.injEq, PyData.int.injEq, Int.natCast_inj] at q
  obtain ⟨rfl, rfl, rfl, rfl, rfl, rfl, _⟩ := q
  rfl

structure PyLong (C : Cx) : Prop where
  base : Base C
  f4 : FnOk C "_div2n1n" m_div2n1n
  f5 : FnOk C "_div3n2n" m_div3n2n
  f8 : FnOk C "_divmod_pos" m_divmod_pos
  f9 : FnOk C "int_divmod" m_int_divmod
  f6 : ∀ (a n : Int) (r : List Int), i2dTop 13 a n = some r → Srv C 16 "_int2digits" [.int a, .int n] (.list (r.map .int))
  f7 : ∀ (ds : List Int) (n v : Int), ds.length ≤ 2 ^ 20 → (if ds = [] then v = 0 else d2iGo ds n 13 0 ds.length = some v) → Srv C 16 "_digits2int" [.list (ds.map .int), .int n] (.int v)

theorem div_base {C : Cx} (L : PyLong C) {k a b n : Nat} (D : D2 9000 a b n) (h : bits (a : Int) ≤ n + 4000) : Srv C (k + 1) "_div2n1n" [.int (a : Int), .int (b : Int), .int (n : Int)] (.tuple [.int ((a / b : Nat) : Int), .int ((a % b : Nat) : Int)]) := by
  have hp := Nat.two_pow_pos n
  refine fn_call L.base L.f4 (serves0 (k := k)) (div2_ev0 (W := 0) (by have := D.hb2; omega) (Nat.le_trans (small_bits D.hb) D.nN) h)

theorem D2.mono {N N' a b n : Nat} (D : D2 N a b n) (h : N ≤ N') : D2 N' a b n := ⟨D.n1, Nat.le_trans D.nN h, D.hb, D.hb2, D.ha⟩
theorem Ok3.mono {N N' a b c d e n : Nat} (D : Ok3 N a b c d e n) (h : N ≤ N') : Ok3 N' a b c d e n := ⟨D.n1, Nat.le_trans D.nN h, D.eb, D.b2, D.b1lo, D.b1hi, D.a12, D.a3⟩

noncomputable def lim : Nat → Nat
  | 0 => 4000
  | 1 => 8000
  | _ => 9000
theorem div3_srv {C : Cx} (L : PyLong C) {N k : Nat} (hN : N ≤ 9000) (ih : ∀ a b n : Nat, D2 N a b n → Srv C k "_div2n1n" [.int (a : Int), .int (b : Int), .int (n : Int)] (.tuple [.int ((a / b : Nat) : Int), .int ((a % b : Nat) : Int)])) :
    ∀ a12 a3 b b1 b2 n : Nat, Ok3 N a12 a3 b b1 b2 n → Srv C (k + 1) "_div3n2n" [.int (a12 : Int), .int (a3 : Int), .int (b : Int), .int (b1 : Int), .int (b2 : Int), .int (n : Int)] (.tuple [.int (((a12 * 2 ^ n + a3) / b : Nat) : Int), .int (((a12 * 2 ^ n + a3) % b : Nat) : Int)]) := by
  intro a12 a3 b b1 b2 n O
  refine fn_call (F := orc1 4 (P2 N)) (W := 3) L.base L.f5 (serves1 rfl fun args r h => ?_) (div3_ev (by omega) (O.mono hN) fun h => orc1_some P2.uniq ⟨a12, b1, n, ⟨O.n1, O.nN, O.b1hi, O.b1lo, h⟩, rfl, rfl⟩)
  obtain ⟨a, b, n, D, rfl, rfl⟩ := h
  exact ih a b n D
theorem div2_srv {C : Cx} (L : PyLong C) : ∀ f, f ≤ 2 → ∀ a b n : Nat, D2 (lim f) a b n → Srv C (2 * f + 1) "_div2n1n" [.int (a : Int), .int (b : Int), .int (n : Int)] (.tuple [.int ((a / b : Nat) : Int), .int ((a % b : Nat) : Int)]) := by
  intro f
  have hlim : ∀ f, lim f ≤ 9000 := fun f => by
    match f with
    | 0 => decide
    | 1 => decide
    | _ + 2 => exact Nat.le_refl _
  induction f with
  | zero =>
    intro _ a b n D
    refine div_base L (D.mono (hlim _)) ?_
    have h1 : a < 2 ^ (2 * n) := by rw [sq_pow]; exact Nat.lt_trans D.ha (Nat.mul_lt_mul_of_pos_right D.hb (Nat.two_pow_pos n))
    have h2 := small_bits h1
    have h3 : n ≤ 4000 := D.nN
    omega
  | succ f ih =>
    intro hf a b n D
    by_cases hs : bits (a : Int) ≤ n + 4000
    · exact div_base L (D.mono (hlim _)) hs
    · have h1 : a < 2 ^ (2 * n) := by rw [sq_pow]; exact Nat.lt_trans D.ha (Nat.mul_lt_mul_of_pos_right D.hb (Nat.two_pow_pos n))
      have h2 := small_bits h1
      have hh : (n + 1) / 2 ≤ lim f := by
        have h3 := D.nN
        match f, hf with
        | 0, _ => have h4 : n ≤ 8000 := h3; show (n + 1) / 2 ≤ 4000; omega
        | 1, _ => have h4 : n ≤ 9000 := h3; show (n + 1) / 2 ≤ 8000; omega
        | f + 2, hf => omega
      have S3 := div3_srv L (hlim f) (ih (by omega))
      refine fn_call (k := 2 * f + 1 + 1) (F := orc1 5 (P3 (lim f))) (W := 0) L.base L.f4 (serves1 rfl fun args r h => ?_) (div2_ev (by omega) (Nat.le_trans D.nN (hlim _)) D.hb D.hb2 D.ha (by omega) fun a12 a3 b b1 b2 m O => orc1_some P3.uniq ⟨a12, a3, b, b1, b2, m, O.mono hh, rfl, rfl⟩)
      obtain ⟨a12, a3, b, b1, b2, n, O, rfl, rfl⟩ := h
      exact S3 _ _ _ _ _ _ O
end Mine

-- A10
namespace Mine
open PySem PySem.Spec PySem.Calls PyProof.Rows PySem.W

theorem i2d_srv {C : Cx} (L : PyLong C) {a n : Nat} (hn1 : 1 ≤ n) (hn : n ≤ 9000) (hc : (bits (a : Int) + n - 1) / n ≤ 4096) : Srv C 16 "_int2digits" [.int (a : Int), .int (n : Int)] (.list (pl (digs n ((bits (a : Int) + n - 1) / n) a))) := by
  have := L.f6 (a : Int) (n : Int) _ (i2dTop_eq hn1 hn hc)
  rw [pl_casts] at this; exact this
theorem d2i_srv {C : Cx} (L : PyLong C) {n : Nat} {ds : List Nat} (hn : n ≤ 9000) (hl : ds.length ≤ 4096) (hd : ∀ d ∈ ds, d < 2 ^ n) : Srv C 16 "_digits2int" [.list (pl ds), .int (n : Int)] (.int ((undigs n ds : Nat) : Int)) := by
  have := L.f7 (casts ds) (n : Int) ((undigs n ds : Nat) : Int) (by simp [casts]; omega) (d2i_eq hn hl hd)
  rw [pl_casts] at this; exact this

noncomputable def P6 (args : List PyData) (r : PyData) : Prop := ∃ a n : Nat, 1 ≤ n ∧ n ≤ 9000 ∧ (bits (a : Int) + n - 1) / n ≤ 4096 ∧ args = [.int (a : Int), .int (n : Int)] ∧ r = .list (pl (digs n ((bits (a : Int) + n - 1) / n) a))
noncomputable def P7 (args : List PyData) (r : PyData) : Prop := ∃ (n : Nat) (ds : List Nat), n ≤ 9000 ∧ ds.length ≤ 4096 ∧ (∀ d ∈ ds, d < 2 ^ n) ∧ args = [.list (pl ds), .int (n : Int)] ∧ r = .int ((undigs n ds : Nat) : Int)
theorem P6.uniq : ∀ args r r', P6 args r → P6 args r' → r = r' := by
  rintro args r r' ⟨a, n, _, _, _, rfl, rfl⟩ ⟨a', n', _, _, _, q, rfl⟩
  simp only [List.cons.injEq, PyData.int.injEq, Int.natCast_inj] at q
  obtain ⟨rfl, rfl, _⟩ := q
  rfl
theorem pl_inj : ∀ {l m : List Nat}, pl l = pl m → l = m
  | [], [], _ => rfl
  | [], _ :: _, h => by simp [pl] at h
  | _ :: _, [], h => by simp [pl] at h
  | x :: l, y :: m, h => by
    simp only [pl, List.map_cons, List.cons.injEq, PyData.int.injEq, Int.natCast_inj] at h
    rw [h.1, pl_inj h.2]
theorem P7.uniq : ∀ args r r', P7 args r → P7 args r' → r = r' := by
  rintro args r r' ⟨n, ds, _, _, _, rfl, rfl⟩ ⟨n', ds', _, _, _, q, rfl⟩
  simp only [List.cons.injEq, PyData.int.injEq, Int.natCast_inj, PyData.list.injEq] at q
  obtain ⟨q1, rfl, _⟩ := q
  rw [pl_inj q1]
theorem P6.srv {C : Cx} (L : PyLong C) : Serves C 16 (orc1 6 P6) := serves1 rfl fun args r h => by
  obtain ⟨a, n, h1, h2, h3, rfl, rfl⟩ := h
  exact i2d_srv L h1 h2 h3
theorem P7.srv {C : Cx} (L : PyLong C) : Serves C 16 (orc1 7 P7) := serves1 rfl fun args r h => by
  obtain ⟨n, ds, h1, h2, h3, rfl, rfl⟩ := h
  exact d2i_srv L h1 h2 h3
theorem P2.srv {C : Cx} (L : PyLong C) : Serves C 5 (orc1 4 (P2 9000)) := serves1 rfl fun args r h => by
  obtain ⟨a, b, n, h1, rfl, rfl⟩ := h
  exact div2_srv L 2 (by omega) a b n h1

structure Dv (a b : Int) : Prop where
  hb : bits b ≤ 9000
  ha : bits a ≤ 4095 * bits b
theorem Dv.of {a b a' b' : Int} (D : Dv a b) (h1 : a'.natAbs ≤ a.natAbs) (h2 : b'.natAbs = b.natAbs) : Dv a' b' := by
  have e : bits b' = bits b := Nat.le_antisymm (intBits_le_of_natAbs (by omega) (Nat.le_refl _)) (intBits_le_of_natAbs (by omega) (Nat.le_refl _))
  exact ⟨by rw [e]; exact D.hb, by rw [e]; exact Nat.le_trans (intBits_le_of_natAbs h1 (Nat.le_refl _)) D.ha⟩

theorem divpos_srv {C : Cx} (L : PyLong C) {a b : Int} (ha : 0 ≤ a) (hb : 0 < b) (D : Dv a b) : Srv C 17 "_divmod_pos" [.int a, .int b] (dm a b) := by
  obtain ⟨a, rfl⟩ := Int.eq_ofNat_of_zero_le ha
  obtain ⟨b, rfl⟩ := Int.eq_ofNat_of_zero_le (Int.le_of_lt hb)
  have hb' : 0 < b := by omega
  have h1 := bits_pos hb'
  have hc : (bits (a : Int) + bits (b : Int) - 1) / bits (b : Int) ≤ 4096 := by
    have h2 := D.ha
    have h3 : bits (a : Int) + bits (b : Int) - 1 < bits (b : Int) * 4097 := by omega
    have := Nat.div_lt_of_lt_mul h3
    omega
  unfold dm
  rw [fdiv_nat, fmod_nat]
  refine fn_call (k := 16) (F := orcOr (orc1 6 P6) (orcOr (orc1 7 P7) (orc1 4 (P2 9000)))) (W := 0) L.base L.f8 (servesOr (P6.srv L) (servesOr (P7.srv L) ((P2.srv L).le (by omega)))) (divpos_ev hb' D.hb hc ?_ ?_ ?_)
  · exact or_l (orc1_some P6.uniq ⟨a, _, h1, D.hb, hc, rfl, rfl⟩)
  · intro x hx
    refine or_r (orc1_ne (by decide)) (or_r (orc1_ne (by decide)) (orc1_some P2.uniq ⟨x, b, _, ⟨h1, D.hb, bits_lt b, ?_, hx⟩, rfl, rfl⟩))
    have h4 := bits_ge hb'
    obtain ⟨k, hk⟩ : ∃ k, bits (b : Int) = k + 1 := ⟨bits (b : Int) - 1, by omega⟩
    rw [hk] at h4 ⊢
    rw [Nat.pow_succ]
    simp only [Nat.add_sub_cancel] at h4
    omega
  · intro ds h2 h3
    exact or_r (orc1_ne (by decide)) (or_l (orc1_some P7.uniq ⟨_, ds, D.hb, h2, h3, rfl, rfl⟩))

noncomputable def P9 (lo : Int → Int → Prop) (args : List PyData) (r : PyData) : Prop := ∃ a b : Int, Dv a b ∧ lo a b ∧ args = [.int a, .int b] ∧ r = dm a b
theorem P9.uniq {lo : Int → Int → Prop} : ∀ args r r', P9 lo args r → P9 lo args r' → r = r' := by
  rintro args r r' ⟨a, b, _, _, rfl, rfl⟩ ⟨a', b', _, _, q, rfl⟩
  simp only [List.cons.injEq, PyData.int.injEq] at q
  obtain ⟨rfl, rfl, _⟩ := q
  rfl
theorem int0_srv {C : Cx} (L : PyLong C) {a b : Int} (ha : 0 ≤ a) (hb : 0 < b) (D : Dv a b) : Srv C 18 "int_divmod" [.int a, .int b] (dm a b) := by
  refine fn_call (k := 17) (F := orc1 8 (P9 fun a b => 0 ≤ a ∧ 0 < b)) (W := 0) L.base L.f9 (serves1 rfl fun args r h => ?_) (intdiv_pos ha hb (orc1_some P9.uniq ⟨a, b, D, ⟨ha, hb⟩, rfl, rfl⟩))
  obtain ⟨a, b, D, h, rfl, rfl⟩ := h
  exact divpos_srv L h.1 h.2 D
theorem int1_srv {C : Cx} (L : PyLong C) {a b : Int} (hb : 0 < b) (D : Dv a b) : Srv C 19 "int_divmod" [.int a, .int b] (dm a b) := by
  by_cases ha : 0 ≤ a
  · exact (int0_srv L ha hb D).le (by omega)
  refine fn_call (k := 18) (F := orc1 9 (P9 fun a b => 0 ≤ a ∧ 0 < b)) (W := 0) L.base L.f9 (serves1 rfl fun args r h => ?_) (intdiv_a (by omega) hb (orc1_some P9.uniq ⟨-a - 1, b, D.of (by omega) rfl, ⟨by omega, hb⟩, rfl, rfl⟩))
  obtain ⟨a, b, D, h, rfl, rfl⟩ := h
  exact int0_srv L h.1 h.2 D
theorem int_srv {C : Cx} (L : PyLong C) {a b : Int} (hb : b ≠ 0) (D : Dv a b) : Srv C 20 "int_divmod" [.int a, .int b] (dm a b) := by
  by_cases hb' : 0 < b
  · exact (int1_srv L hb' D).le (by omega)
  refine fn_call (k := 19) (F := orc1 9 (P9 fun a b => 0 < b)) (W := 0) L.base L.f9 (serves1 rfl fun args r h => ?_) (intdiv_b (by omega) (orc1_some P9.uniq ⟨-a, -b, D.of (by omega) (by omega), by omega, rfl, rfl⟩))
  obtain ⟨a, b, D, h, rfl, rfl⟩ := h
  exact int1_srv L h D
theorem P9.srv {C : Cx} (L : PyLong C) : Serves C 20 (orc1 9 (P9 fun _ b => b ≠ 0)) := serves1 rfl fun args r h => by
  obtain ⟨a, b, D, h, rfl, rfl⟩ := h
  exact int_srv L h D
end Mine

-- B1
namespace Mine
open PySem PySem.Spec PySem.Calls PyProof.Rows PySem.W

/-! ## texts as lists of code points -/
noncomputable abbrev S (l : List Nat) : Str := ⟨l.toArray⟩
theorem S_list (l : List Nat) : (S l).cps.toList = l := by simp
theorem S_len (l : List Nat) : (S l).length = l.length := by simp [Str.length]
theorem S_app (l m : List Nat) : S l ++ S m = S (l ++ m) := by
  show (⟨l.toArray ++ m.toArray⟩ : Str) = _
  simp
theorem slice_ft {l : List Nat} {i j : Nat} (h1 : i ≤ j) (h2 : j ≤ l.length) : Txt.slice (S l) (some (i : Int)) (some (j : Int)) = S ((l.take j).drop i) := by
  have := beq_iff_eq.mp (slice_closes (x := S l) (i := i) (j := j) ⟨by omega, by omega, by simp; omega⟩)
  rw [this, S_list, show ((j : Int) - (i : Int)).toNat = j - i by omega, Int.toNat_natCast, List.drop_take]
theorem slice_t {l : List Nat} {j : Nat} (h2 : j ≤ l.length) : Txt.slice (S l) none (some (j : Int)) = S (l.take j) := by
  have := beq_iff_eq.mp (slice_closes_to (x := S l) (j := j) ⟨by omega, by simp; omega⟩)
  rw [this, S_list]
  simp
theorem slice_f {l : List Nat} {i : Nat} (h2 : i ≤ l.length) : Txt.slice (S l) (some (i : Int)) none = S (l.drop i) := by
  have := slice_from_eq (x := S l) (i := i) (b := (l.length : Int)) (by omega) (by rw [S_len]; omega) (by rw [S_len])
  rw [this, S_list, Int.toNat_natCast, show ((l.length : Int) - (i : Int)).toNat = l.length - i by omega, ← List.length_drop, List.take_length]
theorem fold_join (ts : List Str) : ∀ acc : Array Nat, ts.foldl (fun acc p => acc ++ (#[] : Array Nat) ++ p.cps) acc = (acc.toList ++ (ts.map fun t => t.cps.toList).flatten).toArray := by
  induction ts with
  | nil => intro acc; simp
  | cons t r ih => intro acc; simp only [List.foldl_cons, ih]; simp
theorem join_nil (ts : List Str) : Txt.join ⟨#[]⟩ ts = S (ts.map fun t => t.cps.toList).flatten := by
  unfold Txt.join Builtin.Str.glued
  cases ts with
  | nil => simp [Str.empty]
  | cons t r =>
    simp only [List.drop_succ_cons, List.drop_zero, List.headD_cons]
    rw [fold_join]; simp
theorem fold_len (ts : List Str) : ∀ n : Nat, ts.foldl (fun a t => a + t.length + (⟨#[]⟩ : Str).length) n = n + (ts.map fun t => t.cps.toList).flatten.length := by
  induction ts with
  | nil => intro n; simp
  | cons t r ih =>
    intro n
    simp only [List.foldl_cons, ih]
    simp [Str.length]; omega
theorem joinOk_nil {ts : List Str} (h : (ts.map fun t => t.cps.toList).flatten.length ≤ 2 ^ 20) : JoinOk ⟨#[]⟩ ts = true := by
  unfold JoinOk
  rw [← Array.foldl_toList, List.toList_toArray, fold_len]
  unfold Builtin.Str.tooLong
  rw [show decide (0 + (ts.map fun t => t.cps.toList).flatten.length > sizeLine) = false from decide_eq_false (by rw [sizeLine_eq]; omega)]
  rfl
theorem contains_one (l : List Nat) (c : Nat) : Txt.contains (S l) ⟨#[c]⟩ = decide (c ∈ l) := by
  unfold Txt.contains
  rw [StrLaws.found_one, S_list]

/-! ## tokens -/
noncomputable abbrev tv (p : Nat × Str) : PyData := .tuple [.int p.1, .str p.2]
noncomputable def toks (i : Nat) (l : List Nat) : List PyData := (escGo i false l).map tv
theorem toks_plain {i c : Nat} {r : List Nat} (h : c ≠ 92) : toks i (c :: r) = .tuple [.int (i : Int), .str ⟨#[c]⟩] :: toks (i + 1) r := by
  unfold toks
  rw [escGo, if_neg h]; rfl
theorem toks_esc {i c : Nat} {r : List Nat} : toks i (92 :: c :: r) = .tuple [.int ((i + 1 : Nat) : Int), .str ⟨#[92, c]⟩] :: toks (i + 2) r := by
  unfold toks
  rw [escGo, if_pos rfl, escGo]; rfl
theorem genV_S {l : List Nat} (h1 : ∀ c ∈ l, c < 128) (h2 : l.length ≤ 2 ^ 20) : genV (.str (S l)) = some (toks 0 l) := by
  have a1 : (S l).cps.all (· < 128) = true := by simp; exact h1
  have a2 : decide ((S l).cps.size ≤ 2 ^ 20) = true := by simpa using h2
  simp only [genV]
  rw [a1, a2]
  simp only [Bool.and_self, if_true, S_list]
  rfl

noncomputable def Par (l : List Nat) : Prop := ∀ c ∈ l, c = 40 ∨ c = 41

/-! ## _strip_quoted_realnames -/
noncomputable def locS (x : List Nat) (start : Nat) (op : PyData) (res : List (List Nat)) (v4 v5 : Option MV) : Loc := [some (.dat (.str (S x))), nv start, some (.dat op), some (.own (res.map fun l => .str (S l))), v4, v5]
noncomputable def bodyS : List MS := [.ite (.cmp .Eq (.var 5) (.lit (.str ⟨#[34]⟩))) [.ite (.cmp .Is (.var 2) (.lit .none)) [.assign 2 (.var 4)] [.ite (.cmp .NotEq (.var 1) (.var 2)) [.app 3 (.slice (.var 0) (.var 1) (.var 2))] [], .assign 1 (.bin .Add (.var 4) (.lit (.int 1))), .assign 2 (.lit .none)]] []]

noncomputable abbrev forS (F : Orc) (W : Nat) (l : List PyData) (loc : Loc) : Option (MF × Loc) := evFor (.many [4, 5]) (fun l => evSs F W bodyS l) l loc
section
variable {F : Orc} {W : Nat} {x : List Nat} {st p : Nat} {res : List (List Nat)} {v4 v5 : Option MV} {r : List PyData}
theorem stS_plain {op : PyData} {t : Str} (hc : (t.cps.toList == [34]) = false) :
    forS F W (.tuple [.int (p : Int), .str t] :: r) (locS x st op res v4 v5) = forS F W r (locS x st op res (nv p) (some (.dat (.str t)))) :=
  for_go (l0 := locS x st op res (nv p) (some (.dat (.str t)))) rfl (ss_step (ite_n (evT_cmp rfl rfl (cmp_seq hc))) rfl)
theorem stS_open : forS F W (.tuple [.int (p : Int), .str ⟨#[34]⟩] :: r) (locS x st .none res v4 v5) = forS F W r (locS x st (.int (p : Int)) res (nv p) (some (.dat (.str ⟨#[34]⟩)))) :=
  for_go (l0 := locS x st .none res (nv p) (some (.dat (.str ⟨#[34]⟩)))) rfl (ss_step (ite_t' (evT_cmp rfl rfl (cmp_seq (t := true) rfl)) (ss_step (ite_t' (evT_cmp (t := true) rfl rfl rfl) (ss_step (asg' rfl) rfl)) rfl)) rfl)
noncomputable def addS (x : List Nat) (st o : Nat) (res : List (List Nat)) : List (List Nat) := if st = o then res else res ++ [(x.take o).drop st]
theorem le24 {n : Nat} (h : n ≤ 2 ^ 20) : n ≤ 2 ^ 24 := Nat.le_trans h (by decide)
theorem stS_app {op : PyData} {l : List Nat} {e : ME} (he : evE F (locS x st op res v4 v5) e = some (.str (S l))) (hr : res.length ≤ 2 ^ 20) (hl : frz (fv e) (locS x st op res v4 v5) = locS x st op res v4 v5 := by rfl) : evS F W (.app 3 e) (locS x st op res v4 v5) = some (.next, locS x st op (res ++ [l]) v4 v5) := by
  have h := app' (F := F) (W := W) (l := locS x st op res v4 v5) (i := 3) (e := e) (d := .str (S l)) (xs := res.map fun l => .str (S l)) he (by rw [List.length_map]; exact hr) rfl hl
  rw [locS, locS, List.map_append]
  exact h
theorem slice_val {i j : Nat} (h1 : i ≤ j) (h2 : j ≤ x.length) (hx : x.length ≤ 2 ^ 20) : sliceV (.str (S x)) (.int (i : Int)) (.int (j : Int)) = some (.str (S ((x.take j).drop i))) := by
  rw [← slice_ft h1 h2]; exact if_pos (by rw [S_len]; exact le24 hx)
theorem stS_close {o : Nat} (h1 : st ≤ o) (h2 : o ≤ x.length) (hx : x.length ≤ 2 ^ 20) (hr : res.length ≤ 2 ^ 20) :
    forS F W (.tuple [.int (p : Int), .str ⟨#[34]⟩] :: r) (locS x st (.int (o : Int)) res v4 v5) = forS F W r (locS x (p + 1) .none (addS x st o res) (nv p) (some (.dat (.str ⟨#[34]⟩)))) := by
  refine for_go (l0 := locS x st (.int (o : Int)) res (nv p) (some (.dat (.str ⟨#[34]⟩)))) rfl (ss_step (ite_t' (evT_cmp rfl rfl (cmp_seq (t := true) rfl)) (ss_step (ite_f' (evT_cmp (t := false) rfl rfl rfl) (ss_step (l' := locS x st (.int (o : Int)) (addS x st o res) (nv p) (some (.dat (.str ⟨#[34]⟩)))) ?_
    (ss_step (l' := locS x (p + 1) (.int (o : Int)) (addS x st o res) (nv p) (some (.dat (.str ⟨#[34]⟩)))) (asg' (ev_bin rfl rfl rfl)) (ss_step (asg' rfl) rfl)))) rfl)) rfl)
  by_cases hso : st = o
  · rw [show addS x st o res = res from if_pos hso]
    exact ite_n (evT_cmp rfl rfl (cmp_ne_f (congrArg _ hso)))
  · rw [show addS x st o res = res ++ [(x.take o).drop st] from if_neg hso]
    exact ite_t' (evT_cmp rfl rfl (cmp_ne_t fun h => hso (Int.ofNat.inj h))) (ss_step (stS_app (ev_slice rfl rfl rfl (slice_val h1 h2 hx)) hr) rfl)
end
theorem stS_par {F : Orc} {W : Nat} {x : List Nat} {st : Nat} {op : PyData} {res : List (List Nat)} {r : List Nat} : ∀ (u : List Nat), Par u → ∀ (i : Nat) (v4 v5 : Option MV), ∃ v4' v5', forS F W (toks i (u ++ r)) (locS x st op res v4 v5) = forS F W (toks (i + u.length) r) (locS x st op res v4' v5') := by
  intro u
  induction u with
  | nil => intro _ i v4 v5; exact ⟨v4, v5, rfl⟩
  | cons c u ih =>
    intro hp i v4 v5
    have hc := hp c (.head _)
    obtain ⟨v4', v5', e⟩ := ih (fun c h => hp c (.tail _ h)) (i + 1) (nv i) (some (.dat (.str ⟨#[c]⟩)))
    refine ⟨v4', v5', ?_⟩
    rw [List.cons_append, toks_plain (by omega), stS_plain (by rw [beq_eq_false_iff_ne]; simp; omega), e, List.length_cons]
    congr 2; omega
end Mine

-- B2
namespace Mine
open PySem PySem.Spec PySem.Calls PyProof.Rows PySem.W

inductive Hid : List Nat → List Nat → Prop where
  | a : Hid [] []
  | b : Hid [92, 41] [92, 41]
  | c : Hid [34, 40, 34] []
  | d : Hid [92, 92] [92, 92]
  | e : Hid [92, 34] [92, 34]
  | f : Hid [34] [34]
  | g : Hid [34, 41, 34] []
  | h : Hid [34, 92, 34, 41, 34] []

theorem stS_esc {F : Orc} {W : Nat} {x : List Nat} {st : Nat} {op : PyData} {res : List (List Nat)} {v4 v5 : Option MV} {i c : Nat} {r : List Nat} :
    forS F W (toks i (92 :: c :: r)) (locS x st op res v4 v5) = forS F W (toks (i + 2) r) (locS x st op res (nv (i + 1)) (some (.dat (.str ⟨#[92, c]⟩)))) := by
  rw [toks_esc, stS_plain (by rw [beq_eq_false_iff_ne]; simp)]
theorem stS_q {F : Orc} {W : Nat} {x : List Nat} {st : Nat} {res : List (List Nat)} {v4 v5 : Option MV} {i : Nat} {r : List Nat} :
    forS F W (toks i (34 :: r)) (locS x st .none res v4 v5) = forS F W (toks (i + 1) r) (locS x st (.int (i : Int)) res (nv i) (some (.dat (.str ⟨#[34]⟩)))) := by
  rw [toks_plain (by decide), stS_open]
theorem stS_q2 {F : Orc} {W : Nat} {x : List Nat} {st o : Nat} {res : List (List Nat)} {v4 v5 : Option MV} {i : Nat} {r : List Nat} (h1 : st ≤ o) (h2 : o ≤ x.length) (hx : x.length ≤ 2 ^ 20) (hr : res.length ≤ 2 ^ 20) :
    forS F W (toks i (34 :: r)) (locS x st (.int (o : Int)) res v4 v5) = forS F W (toks (i + 1) r) (locS x (i + 1) .none (addS x st o res) (nv i) (some (.dat (.str ⟨#[34]⟩)))) := by
  rw [toks_plain (by decide), stS_close h1 h2 hx hr]
theorem stS_c {F : Orc} {W : Nat} {x : List Nat} {st : Nat} {op : PyData} {res : List (List Nat)} {v4 v5 : Option MV} {i c : Nat} {r : List Nat} (h1 : c ≠ 92) (h2 : c ≠ 34) :
    forS F W (toks i (c :: r)) (locS x st op res v4 v5) = forS F W (toks (i + 1) r) (locS x st op res (nv i) (some (.dat (.str ⟨#[c]⟩)))) := by
  rw [toks_plain h1, stS_plain (by rw [beq_eq_false_iff_ne]; simp [h2])]

/-- what a hidden piece leaves -/
theorem stS_hid {F : Orc} {W : Nat} {x : List Nat} {st i : Nat} {res : List (List Nat)} {h h' r : List Nat} (H : Hid h h') (h1 : st ≤ i) (h2 : i ≤ x.length) (hx : x.length ≤ 2 ^ 20) (hr : res.length ≤ 2 ^ 20) (v4 v5 : Option MV) :
    ∃ st' op' res' v4' v5', forS F W (toks i (h ++ r)) (locS x st .none res v4 v5) = forS F W (toks (i + h.length) r) (locS x st' op' res' v4' v5') ∧
      ((h = h' ∧ st' = st ∧ res' = res) ∨ (h' = [] ∧ st' = i + h.length ∧ res' = addS x st i res)) := by
  cases H with
  | a => exact ⟨_, _, _, v4, v5, rfl, .inl ⟨rfl, rfl, rfl⟩⟩
  | b => exact ⟨_, _, _, _, _, stS_esc, .inl ⟨rfl, rfl, rfl⟩⟩
  | c => exact ⟨_, _, _, _, _, by rw [show ([34, 40, 34] : List Nat) ++ r = 34 :: 40 :: 34 :: r from rfl, stS_q, stS_c (by decide) (by decide), stS_q2 h1 h2 hx hr]; rfl, .inr ⟨rfl, rfl, rfl⟩⟩
  | d => exact ⟨_, _, _, _, _, stS_esc, .inl ⟨rfl, rfl, rfl⟩⟩
  | e => exact ⟨_, _, _, _, _, stS_esc, .inl ⟨rfl, rfl, rfl⟩⟩
  | f => exact ⟨_, _, _, _, _, stS_q, .inl ⟨rfl, rfl, rfl⟩⟩
  | g => exact ⟨_, _, _, _, _, by rw [show ([34, 41, 34] : List Nat) ++ r = 34 :: 41 :: 34 :: r from rfl, stS_q, stS_c (by decide) (by decide), stS_q2 h1 h2 hx hr]; rfl, .inr ⟨rfl, rfl, rfl⟩⟩
  | h => exact ⟨_, _, _, _, _, by rw [show ([34, 92, 34, 41, 34] : List Nat) ++ r = 34 :: 92 :: 34 :: 41 :: 34 :: r from rfl, stS_q, stS_esc, stS_c (by decide) (by decide), stS_q2 h1 h2 hx hr]; rfl, .inr ⟨rfl, rfl, rfl⟩⟩

theorem addS_flat {x : List Nat} {st o : Nat} {res : List (List Nat)} : (addS x st o res).flatten = res.flatten ++ (x.take o).drop st := by
  unfold addS
  by_cases h : st = o
  · subst h; rw [if_pos rfl, List.drop_of_length_le (by rw [List.length_take]; omega)]; simp
  · rw [if_neg h]; simp
theorem addS_len {x : List Nat} {st o : Nat} {res : List (List Nat)} : (addS x st o res).length ≤ res.length + 1 := by
  unfold addS; split <;> simp

theorem strs2_S (res : List (List Nat)) : strs2? (res.map fun l => PyData.str (S l)) = some (res.map S) := by
  have := strs2?_map (res.map S)
  rw [List.map_map] at this
  exact this
theorem flat_S (res : List (List Nat)) : ((res.map S).map fun t => t.cps.toList).flatten = res.flatten := by
  congr 1
  rw [List.map_map]
  conv => rhs; rw [← List.map_id res]
  exact List.map_congr_left fun l _ => S_list l

theorem len_S {x : List Nat} (h : x.length ≤ 2 ^ 20) : biV 0 [.str (S x)] = some (.int (x.length : Int)) := by
  rw [← S_len]; exact if_pos (by rw [S_len]; exact le24 h)
theorem join_S {res : List (List Nat)} (h : res.flatten.length ≤ 2 ^ 20) : methV 3 (.str ⟨#[]⟩) [.list (res.map fun l => .str (S l))] = some (.str (S res.flatten)) := by
  refine bindV (strs2_S res) ?_
  rw [if_pos (joinOk_nil (by rw [flat_S]; exact h)), join_nil, flat_S]
theorem endS {F : Orc} {W : Nat} {x : List Nat} {st : Nat} {op : PyData} {res : List (List Nat)} {v4 v5 : Option MV} (h1 : st ≤ x.length) (hx : x.length ≤ 2 ^ 19) (hr : res.flatten.length ≤ 2 ^ 19) (hrl : res.length ≤ 2 ^ 19) :
    ∃ l, evSs F W [s_strip_quoted_realnames_5, s_strip_quoted_realnames_6] (locS x st op res v4 v5) = some (.ret (.str (S (res.flatten ++ x.drop st))), l) := by
  have hx' : x.length ≤ 2 ^ 20 := Nat.le_trans hx (by decide)
  have fin : ∀ res' : List (List Nat), res'.flatten.length ≤ 2 ^ 20 → evSs F W [s_strip_quoted_realnames_6] (locS x st op res' v4 v5) = some (.ret (.str (S res'.flatten)), [some (.dat (.str (S x))), nv st, some (.dat op), some (.dat (.list (res'.map fun l => .str (S l)))), v4, v5]) := fun res' h =>
    ss_ret (ret_ev rfl (ev_meth rfl (evs1 rfl) (join_S h)))
  by_cases h : st < x.length
  · have hsl : sliceV (.str (S x)) (.int (st : Int)) .none = some (.str (S (x.drop st))) := by
      rw [← slice_f h1]; exact if_pos (by rw [S_len]; exact le24 hx')
    have e := fin (res ++ [x.drop st]) (by rw [List.flatten_append, List.length_append, List.flatten_singleton, List.length_drop]; omega)
    rw [List.flatten_append, List.flatten_singleton] at e
    exact ⟨_, ss_step (ite_t' (evT_cmp rfl (ev_bi (evs1 rfl) (len_S hx')) (cmp_lt_t (Int.ofNat_lt.mpr h))) (ss_step (stS_app (ev_slice rfl rfl rfl hsl) (Nat.le_trans hrl (by decide))) rfl)) e⟩
  · have e := fin res (Nat.le_trans hr (by decide))
    rw [List.drop_of_length_le (Nat.not_lt.mp h), List.append_nil]
    exact ⟨_, ss_step (ite_n (evT_cmp rfl (ev_bi (evs1 rfl) (len_S hx')) (cmp_lt_f fun k => h (Int.ofNat_lt.mp k)))) e⟩

theorem hid_lt {h h' : List Nat} (H : Hid h h') : ∀ c ∈ h, c < 128 := by cases H <;> decide
theorem hid_len {h h' : List Nat} (H : Hid h h') : h.length ≤ 5 := by cases H <;> decide
theorem par_lt {l : List Nat} (H : Par l) : ∀ c ∈ l, c < 128 := fun c hc => by rcases H c hc with rfl | rfl <;> decide

noncomputable def txt (p u h v : List Nat) : List Nat := p ++ ([34, 40, 34] ++ (u ++ (h ++ v)))
theorem txt_len (p u h v : List Nat) : (txt p u h v).length = p.length + 3 + u.length + h.length + v.length := by simp [txt]; omega
theorem txt_lt {p u h h' v : List Nat} (hp : Par p) (hu : Par u) (hv : Par v) (H : Hid h h') : ∀ c ∈ txt p u h v, c < 128 := by
  intro c hc
  simp only [txt, List.mem_append] at hc
  rcases hc with hc | hc | hc | hc | hc
  · exact par_lt hp c hc
  · revert hc; revert c; decide
  · exact par_lt hu c hc
  · exact hid_lt H c hc
  · exact par_lt hv c hc

theorem strip_ev {F : Orc} {W : Nat} {p u h h' v : List Nat} (hp : Par p) (hu : Par u) (hv : Par v) (H : Hid h h') (hl : (txt p u h v).length ≤ 2 ^ 16) :
    evFn F W m_strip_quoted_realnames [.str (S (txt p u h v))] = some (.str (S (p ++ u ++ h' ++ v))) := by
  have hlen := txt_len p u h v
  generalize hX : txt p u h v = x at *
  have hmem : (34 : Nat) ∈ x := by rw [← hX]; simp [txt]
  have hlt : ∀ c ∈ x, c < 128 := by rw [← hX]; exact txt_lt hp hu hv H
  have a0 := hlen
  -- the loop
  obtain ⟨a4, a5, e1⟩ := stS_par (F := F) (W := W) (x := x) (st := 0) (op := .none) (res := []) (r := [34, 40, 34] ++ (u ++ (h ++ v))) p hp 0 none none
  have e2 : forS F W (toks (0 + p.length) ([34, 40, 34] ++ (u ++ (h ++ v)))) (locS x 0 .none [] a4 a5) = forS F W (toks (0 + p.length + 1 + 1 + 1) (u ++ (h ++ v))) (locS x (0 + p.length + 1 + 1 + 1) .none (addS x 0 (0 + p.length) []) (nv (0 + p.length + 1 + 1)) (some (.dat (.str ⟨#[34]⟩)))) := by
    rw [show ([34, 40, 34] : List Nat) ++ (u ++ (h ++ v)) = 34 :: 40 :: 34 :: (u ++ (h ++ v)) from rfl, stS_q, stS_c (by decide) (by decide), stS_q2 (by omega) (by omega) (by omega) (by simp)]
  obtain ⟨b4, b5, e3⟩ := stS_par (F := F) (W := W) (x := x) (st := 0 + p.length + 1 + 1 + 1) (op := .none) (res := addS x 0 (0 + p.length) []) (r := h ++ v) u hu (0 + p.length + 1 + 1 + 1) (nv (0 + p.length + 1 + 1)) (some (.dat (.str ⟨#[34]⟩)))
  obtain ⟨st', op', res', c4, c5, e4, hst⟩ := stS_hid (F := F) (W := W) (x := x) (st := 0 + p.length + 1 + 1 + 1) (i := 0 + p.length + 1 + 1 + 1 + u.length) (res := addS x 0 (0 + p.length) []) (r := v) H (by omega) (by omega) (by omega) (by have := addS_len (x := x) (st := 0) (o := 0 + p.length) (res := []); simp only [List.length_nil] at this; omega) b4 b5
  obtain ⟨d4, d5, e5⟩ := stS_par (F := F) (W := W) (x := x) (st := st') (op := op') (res := res') (r := []) v hv (0 + p.length + 1 + 1 + 1 + u.length + h.length) c4 c5
  have eL : forS F W (toks 0 x) (locS x 0 .none [] none none) = some (.next, locS x st' op' res' d4 d5) := by
    rw [List.append_nil] at e5
    rw [show toks 0 x = toks 0 (p ++ ([34, 40, 34] ++ (u ++ (h ++ v)))) by rw [← hX]; rfl]
    rw [e1, e2, e3, e4, e5]
    simp [toks, escGo, evFor, forS]
  -- what is left
  have hp1 : (x.take (0 + p.length)).drop 0 = p := by rw [← hX]; simp [txt]
  have hd1 : x.drop (0 + p.length + 1 + 1 + 1) = u ++ (h ++ v) := by
    rw [← hX, txt, List.drop_append, List.drop_of_length_le (by omega)]
    rw [show 0 + p.length + 1 + 1 + 1 - p.length = 3 by omega]; rfl
  have hres : res'.flatten ++ x.drop st' = p ++ u ++ h' ++ v ∧ st' ≤ x.length ∧ res'.flatten.length ≤ 2 ^ 19 ∧ res'.length ≤ 2 ^ 19 := by
    have l1 := addS_len (x := x) (st := 0) (o := 0 + p.length) (res := [])
    simp only [List.length_nil] at l1
    rcases hst with ⟨rfl, rfl, rfl⟩ | ⟨rfl, rfl, rfl⟩
    · refine ⟨?_, by omega, ?_, by omega⟩
      · rw [addS_flat, hp1, hd1]; simp
      · rw [addS_flat, hp1]; simp; omega
    · have l2 := addS_len (x := x) (st := 0 + p.length + 1 + 1 + 1) (o := 0 + p.length + 1 + 1 + 1 + u.length) (res := addS x 0 (0 + p.length) [])
      have hu1 : (x.take (0 + p.length + 1 + 1 + 1 + u.length)).drop (0 + p.length + 1 + 1 + 1) = u := by
        rw [List.drop_take, hd1, show 0 + p.length + 1 + 1 + 1 + u.length - (0 + p.length + 1 + 1 + 1) = u.length by omega]; simp
      have hv1 : x.drop (0 + p.length + 1 + 1 + 1 + u.length + h.length) = v := by
        rw [show 0 + p.length + 1 + 1 + 1 + u.length + h.length = (0 + p.length + 1 + 1 + 1) + (u.length + h.length) by omega, ← List.drop_drop, hd1, ← List.append_assoc, ← List.length_append, List.drop_left]
      refine ⟨?_, by omega, ?_, by omega⟩
      · rw [addS_flat, addS_flat, hp1, hu1, hv1]; simp
      · rw [addS_flat, addS_flat, hp1, hu1]; simp; omega
  obtain ⟨r1, r2, r3, r4⟩ := hres
  obtain ⟨l, eE⟩ := endS (F := F) (W := W) (x := x) (st := st') (op := op') (res := res') (v4 := d4) (v5 := d5) r2 (by omega) r3 r4
  rw [r1] at eE
  refine evFn_ret (loc := [some (.dat (.str (S x))), none, none, none, none, none]) (loc' := l) rfl rfl ?_
  have q0 : evT F [some (.dat (.str (S x))), none, none, none, none, none] (.cmp .NotIn (.lit (.str ⟨#[34]⟩)) (.var 0)) = some false := evT_cmp rfl rfl (by
    show some (!Txt.contains (S x) ⟨#[34]⟩) = _
    rw [contains_one, decide_eq_true hmem]; rfl)
  exact ss_step (ite_n q0) (ss_step (l' := [some (.dat (.str (S x))), nv 0, none, none, none, none]) (asg' rfl) (ss_step (l' := [some (.dat (.str (S x))), nv 0, some (.dat .none), none, none, none]) (asg' rfl) (ss_step (l' := locS x 0 .none [] none none) (own' rfl)
    (ss_step (l' := locS x st' op' res' d4 d5) (forG' rfl (genV_S hlt (Nat.le_trans hl (by decide))) eL) eE))))
end Mine

-- B3
namespace Mine
open PySem PySem.Spec PySem.Calls PyProof.Rows PySem.W

/-! ## _check_parenthesis -/
noncomputable def balGo : List Nat → Nat → Option Nat
  | [], o => some o
  | c :: r, o => if c == 40 then balGo r (o + 1) else match o with
    | 0 => none
    | o + 1 => balGo r o
noncomputable def bal (l : List Nat) : Bool := match balGo l 0 with
  | some 0 => true
  | _ => false
theorem balGo_app : ∀ (u v : List Nat) (o : Nat), balGo (u ++ v) o = (balGo u o).bind (balGo v)
  | [], v, o => rfl
  | c :: u, v, o => by
    simp only [List.cons_append, balGo]
    split
    · exact balGo_app u v _
    · cases o with
      | zero => rfl
      | succ o => exact balGo_app u v o

noncomputable def locC (x : List Nat) (o : Nat) (v2 v3 : Option MV) : Loc := [some (.dat (.str (S x))), nv o, v2, v3]
noncomputable def bodyC : List MS := [.ite (.cmp .Eq (.var 3) (.lit (.str ⟨#[40]⟩))) [.aug 1 .Add (.lit (.int 1))] [.ite (.cmp .Eq (.var 3) (.lit (.str ⟨#[41]⟩))) [.aug 1 .Sub (.lit (.int 1)), .ite (.cmp .Lt (.var 1) (.lit (.int 0))) [.ret (.lit (.bool false))] []] []]]
noncomputable abbrev forC (F : Orc) (W : Nat) (l : List PyData) (loc : Loc) : Option (MF × Loc) := evFor (.many [2, 3]) (fun l => evSs F W bodyC l) l loc
section
variable {F : Orc} {W : Nat} {x : List Nat} {o : Nat} {v2 v3 : Option MV} {p : Nat} {r : List PyData}
theorem stC_open : forC F W (.tuple [.int (p : Int), .str ⟨#[40]⟩] :: r) (locC x o v2 v3) = forC F W r (locC x (o + 1) (nv p) (some (.dat (.str ⟨#[40]⟩)))) :=
  for_go (l0 := locC x o (nv p) (some (.dat (.str ⟨#[40]⟩)))) rfl (ss_step (ite_t' (evT_cmp rfl rfl (cmp_seq (t := true) rfl)) (ss_step (aug' rfl rfl) rfl)) rfl)
theorem stC_other {t : Str} (h1 : (t.cps.toList == [40]) = false) (h2 : (t.cps.toList == [41]) = false) : forC F W (.tuple [.int (p : Int), .str t] :: r) (locC x o v2 v3) = forC F W r (locC x o (nv p) (some (.dat (.str t)))) :=
  for_go (l0 := locC x o (nv p) (some (.dat (.str t)))) rfl (ss_step (ite_f' (evT_cmp rfl rfl (cmp_seq h1)) (ss_step (ite_n (evT_cmp rfl rfl (cmp_seq h2))) rfl)) rfl)
theorem stC_close : forC F W (.tuple [.int (p : Int), .str ⟨#[41]⟩] :: r) (locC x (o + 1) v2 v3) = forC F W r (locC x o (nv p) (some (.dat (.str ⟨#[41]⟩)))) := by
  have hs : augV .Sub (.int ((o + 1 : Nat) : Int)) (.int 1) = some (.int (o : Int)) := by
    rw [augV_subI, show ((o + 1 : Nat) : Int) - 1 = (o : Int) from Int.add_sub_cancel (o : Int) 1]
  exact for_go (l0 := locC x (o + 1) (nv p) (some (.dat (.str ⟨#[41]⟩)))) rfl (ss_step (ite_f' (evT_cmp rfl rfl (cmp_seq (t := false) rfl)) (ss_step (ite_t' (evT_cmp rfl rfl (cmp_seq (t := true) rfl))
    (ss_step (l' := locC x o (nv p) (some (.dat (.str ⟨#[41]⟩)))) (aug' rfl hs) (ss_step (ite_n (evT_cmp rfl rfl (cmp_lt_f (Int.not_lt.mpr (Int.natCast_nonneg o))))) rfl))) rfl)) rfl)
theorem stC_fail : ∃ l, forC F W (.tuple [.int (p : Int), .str ⟨#[41]⟩] :: r) (locC x 0 v2 v3) = some (.ret (.bool false), l) :=
  ⟨[some (.dat (.str (S x))), some (.dat (.int (-1))), nv p, some (.dat (.str ⟨#[41]⟩))], for_ret (l0 := locC x 0 (nv p) (some (.dat (.str ⟨#[41]⟩)))) rfl (ss_ret (ite_f' (evT_cmp rfl rfl (cmp_seq (t := false) rfl)) (ss_ret (ite_t' (evT_cmp rfl rfl (cmp_seq (t := true) rfl))
    (ss_step (l' := [some (.dat (.str (S x))), some (.dat (.int (-1))), nv p, some (.dat (.str ⟨#[41]⟩))]) (aug' rfl rfl) (ss_ret (ite_t' (evT_cmp rfl rfl (cmp_lt_t (x := -1) (by decide))) (ss_ret (ret' rfl)))))))))⟩
end
theorem stC_par {F : Orc} {W : Nat} {x r : List Nat} : ∀ (u : List Nat), Par u → ∀ (i o : Nat) (v2 v3 : Option MV), match balGo u o with
    | none => ∃ l, forC F W (toks i (u ++ r)) (locC x o v2 v3) = some (.ret (.bool false), l)
    | some o' => ∃ v2' v3', forC F W (toks i (u ++ r)) (locC x o v2 v3) = forC F W (toks (i + u.length) r) (locC x o' v2' v3') := by
  intro u
  induction u with
  | nil => intro _ i o v2 v3; exact ⟨v2, v3, rfl⟩
  | cons c u ih =>
    intro hp i o v2 v3
    have ih' := ih fun c h => hp c (.tail _ h)
    have e5 : i + (c :: u).length = i + 1 + u.length := by simp; omega
    rcases hp c (.head _) with rfl | rfl
    · rw [List.cons_append, toks_plain (by decide), stC_open, e5]
      exact ih' (i + 1) (o + 1) _ _
    · rw [List.cons_append, toks_plain (by decide), e5]
      cases o with
      | zero => exact stC_fail
      | succ o =>
        rw [stC_close]
        exact ih' (i + 1) o _ _

theorem stC_hid {F : Orc} {W : Nat} {x h h' r : List Nat} (H : Hid h h') (i o : Nat) (v2 v3 : Option MV) : ∃ v2' v3', forC F W (toks i (h' ++ r)) (locC x o v2 v3) = forC F W (toks (i + h'.length) r) (locC x o v2' v3') := by
  have esc : ∀ c, ∃ v2' v3', forC F W (toks i (92 :: c :: r)) (locC x o v2 v3) = forC F W (toks (i + 2) r) (locC x o v2' v3') := fun c => ⟨_, _, by rw [toks_esc, stC_other (by rw [beq_eq_false_iff_ne]; simp) (by rw [beq_eq_false_iff_ne]; simp)]⟩
  cases H with
  | a => exact ⟨v2, v3, rfl⟩
  | b => exact esc _
  | c => exact ⟨v2, v3, rfl⟩
  | d => exact esc _
  | e => exact esc _
  | f => exact ⟨_, _, by rw [show ([34] : List Nat) ++ r = 34 :: r from rfl, toks_plain (by decide), stC_other rfl rfl]; rfl⟩
  | g => exact ⟨v2, v3, rfl⟩
  | h => exact ⟨v2, v3, rfl⟩
theorem hid2_lt {h h' : List Nat} (H : Hid h h') : ∀ c ∈ h', c < 128 := by cases H <;> decide
theorem hid2_len {h h' : List Nat} (H : Hid h h') : h'.length ≤ 5 := by cases H <;> decide

theorem check_ev {F : Orc} {W : Nat} {y p u h h' v : List Nat} (hp : Par p) (hu : Par u) (hv : Par v) (H : Hid h h') (hl : p.length + u.length + v.length ≤ 2 ^ 16)
    (h1 : F 1 [.str (S y)] = some (.str (S (p ++ u ++ h' ++ v)))) : evFn F W m_check_parenthesis [.str (S y)] = some (.bool (bal (p ++ u ++ v))) := by
  have hpu : Par (p ++ u) := fun c hc => (List.mem_append.mp hc).elim (hp c) (hu c)
  have hlt : ∀ c ∈ p ++ u ++ h' ++ v, c < 128 := fun c hc => by
    simp only [List.mem_append] at hc
    rcases hc with ((hc | hc) | hc) | hc
    · exact par_lt hp c hc
    · exact par_lt hu c hc
    · exact hid2_lt H c hc
    · exact par_lt hv c hc
  have hln : (p ++ u ++ h' ++ v).length ≤ 2 ^ 20 := by have := hid2_len H; simp; omega
  have s0 : evS F W s_check_parenthesis_0 [some (.dat (.str (S y))), none, none, none] = some (.next, [some (.dat (.str (S (p ++ u ++ h' ++ v)))), none, none, none]) := by
    exact asg' (ev_call (evs1 rfl) h1)
  have s1 : evS F W s_check_parenthesis_1 [some (.dat (.str (S (p ++ u ++ h' ++ v)))), none, none, none] = some (.next, locC (p ++ u ++ h' ++ v) 0 none none) := asg' rfl
  have s2 : evS F W s_check_parenthesis_2 (locC (p ++ u ++ h' ++ v) 0 none none) = forC F W (toks 0 (p ++ u ++ h' ++ v)) (locC (p ++ u ++ h' ++ v) 0 none none) := forG' rfl (genV_S hlt hln) rfl
  generalize hX : locC (p ++ u ++ h' ++ v) = L at *
  have loop : (∃ l, balGo (p ++ u ++ v) 0 = none ∧ forC F W (toks 0 (p ++ u ++ h' ++ v)) (L 0 none none) = some (.ret (.bool false), l)) ∨ ∃ o v2 v3, balGo (p ++ u ++ v) 0 = some o ∧ forC F W (toks 0 (p ++ u ++ h' ++ v)) (L 0 none none) = some (.next, L o v2 v3) := by
    rw [balGo_app, List.append_assoc (p ++ u)]
    have a1 := stC_par (F := F) (W := W) (x := p ++ u ++ h' ++ v) (r := h' ++ v) (p ++ u) hpu 0 0 none none
    rw [hX] at a1
    cases e1 : balGo (p ++ u) 0 with
    | none =>
      rw [e1] at a1
      obtain ⟨l, hl⟩ := a1
      exact .inl ⟨l, rfl, hl⟩
    | some o1 =>
      rw [e1] at a1
      obtain ⟨v2, v3, a1⟩ := a1
      obtain ⟨w2, w3, a2⟩ := stC_hid (F := F) (W := W) (x := p ++ u ++ h' ++ v) (r := v) H (0 + (p ++ u).length) o1 v2 v3
      have a3 := stC_par (F := F) (W := W) (x := p ++ u ++ h' ++ v) (r := []) v hv (0 + (p ++ u).length + h'.length) o1 w2 w3
      rw [hX] at a2 a3
      rw [List.append_nil] at a3
      rw [Option.bind_some]
      cases e2 : balGo v o1 with
      | none =>
        rw [e2] at a3
        obtain ⟨l, a3⟩ := a3
        exact .inl ⟨l, rfl, by rw [a1, a2, a3]⟩
      | some o2 =>
        rw [e2] at a3
        obtain ⟨z2, z3, a3⟩ := a3
        exact .inr ⟨o2, z2, z3, rfl, by rw [a1, a2, a3]; simp [toks, escGo, evFor, forC]⟩
  rcases loop with ⟨l, e1, e2⟩ | ⟨o, v2, v3, e1, e2⟩
  · rw [show bal (p ++ u ++ v) = false by unfold bal; rw [e1]]
    refine evFn_ret (loc := [some (.dat (.str (S y))), none, none, none]) (loc' := l) rfl rfl ?_
    exact ss_step s0 (ss_step s1 (ss_ret (by rw [s2, e2])))
  · have e3 : (((o : Nat) : Int) == 0) = bal (p ++ u ++ v) := by
      unfold bal; rw [e1]
      cases o with
      | zero => rfl
      | succ o => simp; omega
    refine evFn_ret (loc := [some (.dat (.str (S y))), none, none, none]) (loc' := L o v2 v3) rfl rfl ?_
    rw [← hX] at s1 s2 e2 ⊢
    exact ss_step s0 (ss_step s1 (ss_step (s2.trans e2) (ss_ret (ret' (ev_cmp rfl rfl (congrArg some e3))))))

/-! ## _pre_parse_validation -/
noncomputable def badT : List Nat := [40, 39, 39, 44, 32, 39, 39, 41]
noncomputable def locV (l0 : PyData) (acc : List (List Nat)) (v2 : Option MV) : Loc := [some (.dat l0), some (.own (acc.map fun l => .str (S l))), v2]
theorem pre_loop {F : Orc} {W : Nat} {l0 : PyData} {g : List Nat → List Nat} : ∀ (ts : List (List Nat)) (acc : List (List Nat)) (v2 : Option MV), (∀ t ∈ ts, ∃ b, F 2 [.str (S t)] = some (.bool b) ∧ g t = if b then t else badT) → acc.length + ts.length ≤ 2 ^ 16 →
    ∃ v2', evFor (.one 2) (fun l => evSs F W [.ite (.un .Not (.call 2 [(.var 2)])) [.assign 2 (.lit (.str ⟨#[40, 39, 39, 44, 32, 39, 39, 41]⟩))] [], .app 1 (.var 2)] l) (ts.map fun t => .str (S t)) (locV l0 acc v2) = some (.next, locV l0 (acc ++ ts.map g) v2') := by
  intro ts
  induction ts with
  | nil => intro acc v2 _ _; exact ⟨v2, by simp [evFor]⟩
  | cons t ts ih =>
    intro acc v2 h hl
    obtain ⟨b, h2, hg⟩ := h t (.head _)
    simp only [List.length_cons] at hl
    obtain ⟨v2', e⟩ := ih (acc ++ [g t]) (some (.dat (.str (S (g t))))) (fun t ht => h t (.tail _ ht)) (by simp; omega)
    refine ⟨v2', ?_⟩
    refine (for_go (l0 := locV l0 acc (some (.dat (.str (S t))))) rfl (l' := locV l0 (acc ++ [g t]) (some (.dat (.str (S (g t)))))) (ss_step (l' := locV l0 acc (some (.dat (.str (S (g t)))))) ?_ (ss_step ?_ rfl))).trans ?_
    · cases b with
      | true =>
        rw [hg, if_pos rfl]
        exact ite_n (evT_of (ev_un (ev_call (evs1 rfl) h2) rfl) rfl rfl)
      | false =>
        rw [hg, if_neg Bool.false_ne_true]
        exact ite_t' (evT_of (ev_un (ev_call (evs1 rfl) h2) rfl) rfl rfl) (ss_step (asg' rfl) rfl)
    · have ha := app' (F := F) (W := W) (l := locV l0 acc (some (.dat (.str (S (g t)))))) (i := 1) (e := .var 2) (d := .str (S (g t))) (xs := acc.map fun l => .str (S l)) rfl (by rw [List.length_map]; omega)
      rw [locV, locV, List.map_append]
      exact ha
    · rw [e, List.append_assoc]; rfl
theorem pre_ev {F : Orc} {W : Nat} {g : List Nat → List Nat} {ts : List (List Nat)} (h : ∀ t ∈ ts, ∃ b, F 2 [.str (S t)] = some (.bool b) ∧ g t = if b then t else badT) (hl : ts.length ≤ 2 ^ 16) :
    evFn F W m_pre_parse_validation [.list (ts.map fun t => .str (S t))] = some (.list ((ts.map g).map fun t => .str (S t))) := by
  obtain ⟨v2, e⟩ := pre_loop (F := F) (W := W) (l0 := .list (ts.map fun t => .str (S t))) ts [] none h (by simp; omega)
  refine evFn_ret (loc := [some (.dat (.list (ts.map fun t => .str (S t)))), none, none]) (loc' := [some (.dat (.list (ts.map fun t => .str (S t)))), some (.dat (.list ((ts.map g).map fun t => .str (S t)))), v2]) rfl rfl ?_
  exact ss_step (l' := locV (.list (ts.map fun t => .str (S t))) [] none) (own' rfl) (ss_step (l' := locV (.list (ts.map fun t => .str (S t))) (ts.map g) v2) (for' (evI_var (items_list (by rw [List.length_map]; exact Nat.le_trans hl (by decide)))) e) (ss_ret (ret_ev rfl rfl)))
end Mine

-- C1
namespace Mine
open PySem PySem.Spec PySem.Calls PyProof.Rows PySem.W

/-! ## _levenshtein_distance -/
noncomputable def cost (x y : Nat) : Int := if x == y then 0 else 2
noncomputable def inn (bc : Nat) : List Nat → List Int → Int → Int → Int → List Int × Int × Int
  | x :: as, d :: row, dist, res, mn =>
    let ins := (if d < res then d else res) + 2
    let sub := dist + cost bc x
    let res' := if sub < ins then sub else ins
    let t := inn bc as row d res' (if res' < mn then res' else mn)
    (res' :: t.1, t.2.1, t.2.2)
  | _, _, _, res, mn => ([], res, mn)
noncomputable def huge : Int := 9223372036854775807
noncomputable def outr (a : List Nat) (c : Int) : List Nat → Nat → List Int → Int → Int
  | [], _, _, res => res
  | y :: bs, i, row, _ =>
    let t := inn y a row ((i : Int) * 2) ((i : Int) * 2) huge
    if c < t.2.2 then c + 1 else outr a c bs (i + 1) t.1 t.2.1
noncomputable def stripP : List Nat → List Nat → List Nat × List Nat
  | x :: a, y :: b => if x == y then stripP a b else (x :: a, y :: b)
  | a, b => (a, b)
noncomputable def dpP (a b : List Nat) (c : Int) : Int :=
  if a.isEmpty || b.isEmpty then 2 * ((a.length : Int) + (b.length : Int)) else
  let a' := if b.length < a.length then b else a
  let b' := if b.length < a.length then a else b
  if c < ((b'.length : Int) - (a'.length : Int)) * 2 then c + 1 else
  outr a' c b' 0 ((List.range a'.length).map fun (i : Nat) => 2 * ((i : Int) + 1)) 0
noncomputable def levP (a b : List Nat) (c : Int) : Int :=
  if a == b then 0 else
  let p := stripP a b
  let q := stripP p.1.reverse p.2.reverse
  dpP q.1.reverse q.2.reverse c

theorem inn_len {bc : Nat} : ∀ {as : List Nat} {row : List Int} {d r m : Int}, as.length = row.length → (inn bc as row d r m).1.length = row.length
  | [], [], _, _, _, _ => rfl
  | _ :: as, _ :: row, _, _, _, h => congrArg Nat.succ (inn_len (Nat.succ.inj h))
  | [], _ :: _, _, _, _, h => nomatch h
  | _ :: _, [], _, _, _, h => nomatch h

noncomputable abbrev sv (x : Nat) : Option MV := some (.dat (.str ⟨#[x]⟩))
noncomputable abbrev iv (x : Int) : Option MV := some (.dat (.int x))
noncomputable def LL (a b : List Nat) (c : Int) (p q : Option MV) (row : List Int) (res : Int) (v7 v8 v9 v10 v11 v12 v13 : Option MV) : Loc :=
  [some (.dat (.str (S a))), some (.dat (.str (S b))), iv c, p, q, some (.own (row.map .int)), iv res, v7, v8, v9, v10, v11, v12, v13]
noncomputable def bodyI2 : List MS := [.assign 12 (.bin .Add (.var 9) (.call 10 [(.var 8), (.subo 0 (.var 11))])), .assign 9 (.subo 5 (.var 11)), .assign 13 (.bin .Add (.bi 2 [(.var 6), (.var 9)]) (.lit (.int 2))), .assign 6 (.bi 2 [(.var 13), (.var 12)]), .setI 5 (.var 11) (.var 6), .ite (.cmp .Lt (.var 6) (.var 10)) [.assign 10 (.var 6)] []]

theorem lt_get {α : Type} {l : List α} {k : Nat} {x : α} (h : l[k]? = some x) : k < l.length := (List.getElem?_eq_some_iff.mp h).1
theorem subV_S {a : List Nat} {k x : Nat} (ha : a.length ≤ 2 ^ 20) (h : a[k]? = some x) : subV (.str (S a)) (.int (k : Int)) = some (.str ⟨#[x]⟩) := by
  refine (if_pos (by rw [S_len]; exact le24 ha)).trans ?_
  rw [S_len, seq_nat (lt_get h), Option.bind_some, show (S a).cps[k]? = some x by rw [← Array.getElem?_toList, S_list]; exact h]; rfl
theorem subV_L {l : List PyData} {k : Nat} {d : PyData} (hl : l.length ≤ 2 ^ 20) (h : l[k]? = some d) : subV (.list l) (.int (k : Int)) = some d := by
  refine (if_pos (le24 hl)).trans ?_
  rw [seq_nat (lt_get h), Option.bind_some, h]
theorem set_mid {done rest : List Int} {d r : Int} {k : Nat} (hk : done.length = k) : ((done ++ d :: rest).map PyData.int).set k (.int r) = (done ++ r :: rest).map PyData.int := by
  rw [← List.map_set, ← hk, List.set_append_right _ _ (Nat.le_refl _), Nat.sub_self]; rfl
theorem get_mid {done rest : List Int} {d : Int} {k : Nat} (hk : done.length = k) : ((done ++ d :: rest).map PyData.int)[k]? = some (.int d) := by
  rw [List.getElem?_map, ← hk, List.getElem?_append_right (Nat.le_refl _), Nat.sub_self]; rfl

theorem inner_step {F : Orc} {W : Nat} {a b : List Nat} {c : Int} {p q : Option MV} {done rest : List Int} {d res : Int} {v7 : Option MV} {bc x k : Nat} {dist mn : Int} {v12 v13 : Option MV}
    (ha : a.length ≤ 40) (hx : a[k]? = some x) (hk : done.length = k) (hr : done.length + rest.length + 1 ≤ 40) (hF : F 10 [.str ⟨#[bc]⟩, .str ⟨#[x]⟩] = some (.int (cost bc x))) :
    ∀ ins sub res' : Int, (if d < res then d else res) + 2 = ins → dist + cost bc x = sub → (if sub < ins then sub else ins) = res' →
    evSs F W bodyI2 (LL a b c p q (done ++ d :: rest) res v7 (sv bc) (iv dist) (iv mn) (nv k) v12 v13) =
      some (.next, LL a b c p q (done ++ res' :: rest) res' v7 (sv bc) (iv d) (iv (if res' < mn then res' else mn)) (nv k) (iv sub) (iv ins)) := by
  intro ins sub res' hins hsub hres
  have hz : ((done ++ d :: rest).map PyData.int).length ≤ 2 ^ 20 := by
    rw [List.length_map, List.length_append]; exact Nat.le_trans hr (by decide)
  have e5 := setI' (F := F) (W := W) (k := 5) (a := .var 11) (e := .var 6) (l := LL a b c p q (done ++ d :: rest) res' v7 (sv bc) (iv d) (iv mn) (nv k) (iv sub) (iv ins)) (d := .int res') rfl rfl (idx_nat (le24 hz) (lt_get (get_mid hk)))
  rw [set_mid hk] at e5
  refine ss_step (l' := LL a b c p q (done ++ d :: rest) res v7 (sv bc) (iv dist) (iv mn) (nv k) (iv sub) v13) (asg' (ev_bin rfl (ev_call (evs2 rfl (ev_subd rfl rfl (subV_S (Nat.le_trans ha (by decide)) hx))) hF) (congrArg (fun i => some (PyData.int i)) hsub)))
    (ss_step (l' := LL a b c p q (done ++ d :: rest) res v7 (sv bc) (iv d) (iv mn) (nv k) (iv sub) v13) (asg' (ev_subo rfl rfl (subV_L hz (get_mid hk))))
    (ss_step (l' := LL a b c p q (done ++ d :: rest) res v7 (sv bc) (iv d) (iv mn) (nv k) (iv sub) (iv ins)) (asg' (ev_bin (ev_bi (evs2 rfl rfl) rfl) rfl (congrArg (fun i => some (PyData.int i)) hins)))
    (ss_step (l' := LL a b c p q (done ++ d :: rest) res' v7 (sv bc) (iv d) (iv mn) (nv k) (iv sub) (iv ins)) (asg' (ev_bi (evs2 rfl rfl) (congrArg (fun i => some (PyData.int i)) hres)))
    (ss_step (l' := LL a b c p q (done ++ res' :: rest) res' v7 (sv bc) (iv d) (iv mn) (nv k) (iv sub) (iv ins)) e5 ?_))))
  by_cases h : res' < mn
  · rw [if_pos h]; exact ss_step (ite_t' (evT_cmp rfl rfl (cmp_lt_t h)) (ss_step (asg' rfl) rfl)) rfl
  · rw [if_neg h]; exact ss_step (ite_n (evT_cmp rfl rfl (cmp_lt_f h))) rfl

noncomputable def ilist (k m : Nat) : List PyData := (List.range' k m).map fun (i : Nat) => PyData.int (i : Int)
theorem ilist_succ {k m : Nat} : ilist k (m + 1) = .int (k : Int) :: ilist (k + 1) m := by simp [ilist, List.range'_succ]
theorem rangeL_nat {n : Nat} : rangeL 0 (n : Int) = ilist 0 n := by
  unfold rangeL ilist
  rw [List.range_eq_range']
  simp
theorem rangeV_nat {n : Nat} (h : n ≤ 2 ^ 20) : rangeV [.int (n : Int)] = some (0, (n : Int)) := if_pos (by
  unfold rangeOk smallI
  have h1 : (n : Int) ≤ 2 ^ 20 := by omega
  rw [decide_eq_true (show -(2 ^ 40) ≤ (n : Int) by omega), decide_eq_true (show (n : Int) ≤ 2 ^ 40 by omega), decide_eq_true (show (n : Int) - 0 ≤ 2 ^ 20 by omega)]
  rfl)
theorem evI_rngN {F : Orc} {l : Loc} {e : ME} {n : Nat} (he : evE F l e = some (.int (n : Int))) (h : n ≤ 2 ^ 20) : evI F l (.rng [e]) = some (ilist 0 n) := (evI_rng (evs1 he) (rangeV_nat h)).trans (congrArg some rangeL_nat)

theorem inner_loop {F : Orc} {W : Nat} {a b : List Nat} {c : Int} {p q v7 : Option MV} {bc : Nat} (ha : a.length ≤ 40) (hF : ∀ x ∈ a, F 10 [.str ⟨#[bc]⟩, .str ⟨#[x]⟩] = some (.int (cost bc x))) :
    ∀ (as : List Nat) (k : Nat) (done rest : List Int) (res dist mn : Int) (v11 v12 v13 : Option MV), a.drop k = as → done.length = k → rest.length = as.length →
    ∃ dist' v11' v12' v13', evFor (.one 11) (fun l => evSs F W bodyI2 l) (ilist k as.length) (LL a b c p q (done ++ rest) res v7 (sv bc) (iv dist) (iv mn) v11 v12 v13) =
      some (.next, LL a b c p q (done ++ (inn bc as rest dist res mn).1) (inn bc as rest dist res mn).2.1 v7 (sv bc) (iv dist') (iv (inn bc as rest dist res mn).2.2) v11' v12' v13') := by
  intro as
  induction as with
  | nil =>
    intro k done rest res dist mn v11 v12 v13 _ _ hr
    have : rest = [] := List.length_eq_zero_iff.mp hr
    subst this
    exact ⟨dist, v11, v12, v13, rfl⟩
  | cons x as ih =>
    intro k done rest res dist mn v11 v12 v13 hd hk hr
    cases rest with
    | nil => cases hr
    | cons d rest =>
      have hx : a[k]? = some x := by rw [← List.head?_drop, hd]; rfl
      have hl : a.length - k = as.length + 1 := by have := congrArg List.length hd; rwa [List.length_drop] at this
      have hkl := lt_get hx
      have hr' : rest.length = as.length := Nat.succ.inj hr
      have st := inner_step (F := F) (W := W) (a := a) (b := b) (c := c) (p := p) (q := q) (done := done) (rest := rest) (d := d) (res := res) (v7 := v7) (dist := dist) (mn := mn) (v12 := v12) (v13 := v13) ha hx hk (by omega) (hF x (List.mem_of_getElem? hx)) _ _ _ rfl rfl rfl
      obtain ⟨dist', w11, w12, w13, e⟩ := ih (k + 1) (done ++ [if dist + cost bc x < (if d < res then d else res) + 2 then dist + cost bc x else (if d < res then d else res) + 2]) rest
        (if dist + cost bc x < (if d < res then d else res) + 2 then dist + cost bc x else (if d < res then d else res) + 2) d
        (if (if dist + cost bc x < (if d < res then d else res) + 2 then dist + cost bc x else (if d < res then d else res) + 2) < mn then (if dist + cost bc x < (if d < res then d else res) + 2 then dist + cost bc x else (if d < res then d else res) + 2) else mn)
        (nv k) (iv (dist + cost bc x)) (iv ((if d < res then d else res) + 2)) (by rw [← List.drop_drop, hd]; rfl) (by rw [List.length_append, hk]; rfl) hr'
      refine ⟨dist', w11, w12, w13, ?_⟩
      rw [List.length_cons, ilist_succ]
      refine (for_go (l0 := LL a b c p q (done ++ d :: rest) res v7 (sv bc) (iv dist) (iv mn) (nv k) v12 v13) rfl st).trans ?_
      rw [List.append_assoc, List.singleton_append, List.append_assoc, List.singleton_append] at e
      exact e
end Mine

-- C2
namespace Mine
open PySem PySem.Spec PySem.Calls PyProof.Rows PySem.W

noncomputable def bodyO : List MS := [.assign 8 (.subo 1 (.var 7)), .assign2 9 6 (.bin .Mult (.var 7) (.lit (.int 2))), .assign 10 (.lit (.int 9223372036854775807)), .for_ (.one 11) (.rng [(.bi 0 [(.var 0)])]) bodyI2, .ite (.cmp .Gt (.var 10) (.var 2)) [.ret (.bin .Add (.var 2) (.lit (.int 1)))] []]
theorem biV_len {l : List Nat} (h : l.length ≤ 2 ^ 20) : biV 0 [.str (S l)] = some (.int (l.length : Int)) := len_S h
noncomputable def bodyO3 : List MS := [.assign 8 (.subo 1 (.var 7)), .assign2 9 6 (.bin .Mult (.var 7) (.lit (.int 2))), .assign 10 (.lit (.int 9223372036854775807)), .for_ (.one 11) (.rng [(.bi 0 [(.var 0)])]) bodyI2]

theorem outer_loop {F : Orc} {W : Nat} {a b : List Nat} {c : Int} {p q : Option MV} (ha : a.length ≤ 40) (hb : b.length ≤ 40) (hF : ∀ y ∈ b, ∀ x ∈ a, F 10 [.str ⟨#[y]⟩, .str ⟨#[x]⟩] = some (.int (cost y x))) :
    ∀ (bs : List Nat) (k : Nat) (row : List Int) (res : Int) (v7 v8 v9 v10 v11 v12 v13 : Option MV), b.drop k = bs → row.length = a.length →
    (∃ l, evFor (.one 7) (fun l => evSs F W bodyO l) (ilist k bs.length) (LL a b c p q row res v7 v8 v9 v10 v11 v12 v13) = some (.ret (.int (outr a c bs k row res)), l)) ∨
    (∃ row' w7 w8 w9 w10 w11 w12 w13, evFor (.one 7) (fun l => evSs F W bodyO l) (ilist k bs.length) (LL a b c p q row res v7 v8 v9 v10 v11 v12 v13) = some (.next, LL a b c p q row' (outr a c bs k row res) w7 w8 w9 w10 w11 w12 w13)) := by
  intro bs
  induction bs with
  | nil => intro k row res v7 v8 v9 v10 v11 v12 v13 _ _; exact .inr ⟨row, v7, v8, v9, v10, v11, v12, v13, rfl⟩
  | cons y bs ih =>
    intro k row res v7 v8 v9 v10 v11 v12 v13 hd hr
    have hy : b[k]? = some y := by rw [← List.head?_drop, hd]; rfl
    have hk := lt_get hy
    obtain ⟨d', w11, w12, w13, e⟩ := inner_loop (F := F) (W := W) (a := a) (b := b) (c := c) (p := p) (q := q) (v7 := nv k) (bc := y) ha (hF y (List.mem_of_getElem? hy)) a 0 [] row ((k : Int) * 2) ((k : Int) * 2) huge v11 v12 v13 rfl rfl hr
    rw [List.nil_append, List.nil_append] at e
    have hil := inn_len (bc := y) (d := (k : Int) * 2) (r := (k : Int) * 2) (m := huge) hr.symm
    rw [List.length_cons, ilist_succ]
    have hU : ∀ row' res', inn y a row ((k : Int) * 2) ((k : Int) * 2) huge = (row', res', (inn y a row ((k : Int) * 2) ((k : Int) * 2) huge).2.2) → outr a c (y :: bs) k row res = if c < (inn y a row ((k : Int) * 2) ((k : Int) * 2) huge).2.2 then c + 1 else outr a c bs (k + 1) row' res' := fun row' res' h => by
      show (if c < (inn y a row ((k : Int) * 2) ((k : Int) * 2) huge).2.2 then c + 1 else outr a c bs (k + 1) (inn y a row ((k : Int) * 2) ((k : Int) * 2) huge).1 (inn y a row ((k : Int) * 2) ((k : Int) * 2) huge).2.1) = _
      rw [h]
    rw [hU _ _ rfl]
    clear hU
    generalize inn y a row ((k : Int) * 2) ((k : Int) * 2) huge = T at *
    obtain ⟨row', res', mn⟩ := T
    have e2 : binV .Mult (.int (k : Int)) (.int 2) = some (.int ((k : Int) * 2)) := binV_mul (m := 8) (n := 8) (small_bits (Nat.lt_trans hk (Nat.lt_of_le_of_lt hb (by decide)))) (by decide) (by decide)
    have p1 : evSs F W bodyO3 (LL a b c p q row res (nv k) v8 v9 v10 v11 v12 v13) = some (.next, LL a b c p q row' res' (nv k) (sv y) (iv d') (iv mn) w11 w12 w13) :=
      ss_step (l' := LL a b c p q row res (nv k) (sv y) v9 v10 v11 v12 v13) (asg' (ev_subd rfl rfl (subV_S (Nat.le_trans hb (by decide)) hy)))
        (ss_step (l' := LL a b c p q row ((k : Int) * 2) (nv k) (sv y) (iv ((k : Int) * 2)) v10 v11 v12 v13) (asg2' (ev_bin rfl rfl e2))
        (ss_step (l' := LL a b c p q row ((k : Int) * 2) (nv k) (sv y) (iv ((k : Int) * 2)) (iv huge) v11 v12 v13) (asg' rfl)
        (ss_step (for' (evI_rngN (ev_bi (evs1 rfl) (biV_len (Nat.le_trans ha (by decide)))) (Nat.le_trans ha (by decide))) e) rfl)))
    by_cases hg : c < mn
    · refine .inl ⟨LL a b c p q row' res' (nv k) (sv y) (iv d') (iv mn) w11 w12 w13, ?_⟩
      rw [if_pos hg]
      exact for_ret (l0 := LL a b c p q row res (nv k) v8 v9 v10 v11 v12 v13) rfl ((ss_app p1).trans (ss_ret (ite_t' (evT_cmp rfl rfl (cmp_gt_t hg)) (ss_ret (ret' (ev_bin rfl rfl rfl))))))
    · have st : evFor (.one 7) (fun l => evSs F W bodyO l) (.int (k : Int) :: ilist (k + 1) bs.length) (LL a b c p q row res v7 v8 v9 v10 v11 v12 v13) = evFor (.one 7) (fun l => evSs F W bodyO l) (ilist (k + 1) bs.length) (LL a b c p q row' res' (nv k) (sv y) (iv d') (iv mn) w11 w12 w13) :=
        for_go (l0 := LL a b c p q row res (nv k) v8 v9 v10 v11 v12 v13) rfl ((ss_app p1).trans (ss_step (ite_n (evT_cmp rfl rfl (cmp_gt_f hg))) rfl))
      rw [st, if_neg hg]
      exact ih (k + 1) _ _ _ _ _ _ _ _ _ (by rw [← List.drop_drop, hd]; rfl) (hil.trans hr)
end Mine

-- C3
namespace Mine
open PySem PySem.Spec PySem.Calls PyProof.Rows PySem.W

theorem slice_nn {l : List Nat} : Txt.slice (S l) none none = S l := by
  have e : Txt.slice (S l) none none = Txt.slice (S l) (some ((0 : Nat) : Int)) none := by
    unfold Txt.slice
    rw [StrLaws.sliceIdx_none_lo]; rfl
  rw [e, slice_f (by omega), List.drop_zero]
theorem slice_neg {l : List Nat} {j : Nat} (h0 : 0 < j) (h : j ≤ l.length) : Txt.slice (S l) none (some (-(j : Int))) = S (l.take (l.length - j)) := by
  have := beq_iff_eq.mp (slice_closes_to_neg (x := S l) (j := -(j : Int)) (by omega) (by rw [S_len]; omega) rfl)
  rw [this, S_list, S_len]
  rw [show ((-(j : Int) + (l.length : Int)) - 0).toNat = l.length - j by omega]
  simp

theorem tr_S {l : List Nat} : truthV (.str (S l)) = !l.isEmpty := by
  show (((S l).length : Int) != 0) = _
  rw [S_len]
  cases l with
  | nil => rfl
  | cons c r => exact bne_iff_ne.mpr (Int.ofNat_ne_zero.mpr (Nat.succ_ne_zero _))
theorem sm_S {l : List Nat} (h : l.length ≤ 2 ^ 20) : smallV (.str (S l)) = true := decide_eq_true (by rw [S_len]; exact le24 h)

theorem and3 {F : Orc} {loc : Loc} {A B D : ME} {a1 b1 : List Nat} {t : Bool} (h1 : evE F loc A = some (.str (S a1))) (h2 : evE F loc B = some (.str (S b1))) (l1 : a1.length ≤ 2 ^ 20) (l2 : b1.length ≤ 2 ^ 20)
    (h3 : a1.isEmpty = false → b1.isEmpty = false → evE F loc D = some (.bool t)) : evT F loc (.andE A (.andE B D)) = some (!a1.isEmpty && (!b1.isEmpty && t)) := by
  have r1 := tr_S (l := a1)
  have r2 := tr_S (l := b1)
  cases hA : a1.isEmpty with
  | true => rw [hA] at r1; exact evT_of (ev_and_f h1 (sm_S l1) r1) (sm_S l1) r1
  | false =>
    rw [hA] at r1
    cases hB : b1.isEmpty with
    | true => rw [hB] at r2; exact evT_of (ev_and_t h1 (sm_S l1) r1 (ev_and_f h2 (sm_S l2) r2)) (sm_S l2) r2
    | false => rw [hB] at r2; exact evT_of (ev_and_t h1 (sm_S l1) r1 (ev_and_t h2 (sm_S l2) r2 (h3 hA hB))) rfl rfl
/-- the first signs are the same -/
noncomputable def he2 : List Nat → List Nat → Bool
  | x :: _, y :: _ => x == y
  | _, _ => false
theorem he2_and (u v : List Nat) : (!u.isEmpty && (!v.isEmpty && he2 u v)) = he2 u v := by
  cases u with
  | nil => rfl
  | cons x u => cases v with
    | nil => rfl
    | cons y v => rfl
theorem cmp_one {x y : Nat} : cmpV .Eq (.str ⟨#[x]⟩) (.str ⟨#[y]⟩) = some (x == y) := cmp_seq (by
  by_cases h : x = y
  · subst h; rw [beq_self_eq_true x]; exact beq_self_eq_true [x]
  · rw [beq_eq_false_iff_ne.mpr h]; exact beq_eq_false_iff_ne.mpr fun e => h (List.cons.inj e).1)
/-- a loop that goes on while the signs are the same -/
theorem strip_loop {F : Orc} {W : Nat} {Lf : Nat → Loc} {cnd : ME} {bd : List MS} {u v : List Nat} (hb : ∀ j, evSs F W bd (Lf j) = some (.next, Lf (j + 1))) (hc : ∀ j, j ≤ u.length → j ≤ v.length → evT F (Lf j) cnd = some (he2 (u.drop j) (v.drop j))) :
    ∀ (a1 b1 : List Nat) (j W' : Nat), u.drop j = a1 → v.drop j = b1 → j ≤ u.length → j ≤ v.length → a1.length < W' →
    ∃ j', evWhl (fun l => evT F l cnd) (fun l => evSs F W bd l) W' (Lf j) = some (.next, Lf j') ∧ j' ≤ u.length ∧ j' ≤ v.length ∧ (u.drop j', v.drop j') = stripP a1 b1
  | _, _, _, 0, _, _, _, _, h => absurd h (Nat.not_lt_zero _)
  | a1, b1, j, W' + 1, h1, h2, h3, h4, h5 => by
    have c := hc j h3 h4
    rw [h1, h2] at c
    have stop : he2 a1 b1 = false → stripP a1 b1 = (a1, b1) → ∃ j', evWhl (fun l => evT F l cnd) (fun l => evSs F W bd l) (W' + 1) (Lf j) = some (.next, Lf j') ∧ j' ≤ u.length ∧ j' ≤ v.length ∧ (u.drop j', v.drop j') = stripP a1 b1 := fun e1 e2 =>
      ⟨j, whl_stop (c.trans (congrArg some e1)), h3, h4, by rw [h1, h2, e2]⟩
    cases a1 with
    | nil => exact stop rfl rfl
    | cons x a1 => cases b1 with
      | nil => exact stop rfl rfl
      | cons y b1 =>
        by_cases h : x = y
        · subst h
          obtain ⟨j', e', r1, r2, r3⟩ := strip_loop hb hc a1 b1 (j + 1) W' (by rw [← List.drop_drop, h1]; rfl) (by rw [← List.drop_drop, h2]; rfl) (Nat.not_le.mp fun h => by rw [List.drop_eq_nil_of_le h] at h1; cases h1) (Nat.not_le.mp fun h => by rw [List.drop_eq_nil_of_le h] at h2; cases h2) (Nat.lt_of_succ_lt_succ h5)
          exact ⟨j', (whl_go (c.trans (congrArg some (beq_self_eq_true x))) (hb j)).trans e', r1, r2, r3.trans (if_pos (beq_self_eq_true x)).symm⟩
        · have hn := beq_eq_false_iff_ne.mpr h
          exact stop hn (if_neg (by rw [hn]; exact Bool.false_ne_true))

/-! the common prefix -/
noncomputable def LP (a b : List Nat) (c : Int) (k : Nat) : Loc := [some (.dat (.str (S a))), some (.dat (.str (S b))), iv c, nv k, none, none, none, none, none, none, none, none, none, none]
noncomputable def cP : ME := .andE (.slice (.var 0) (.var 3) (.lit .none)) (.andE (.slice (.var 1) (.var 3) (.lit .none)) (.cmp .Eq (.subo 0 (.var 3)) (.subo 1 (.var 3))))
theorem sl_f {a : List Nat} {k : Nat} (ha : a.length ≤ 2 ^ 20) (hk : k ≤ a.length) : sliceV (.str (S a)) (.int (k : Int)) .none = some (.str (S (a.drop k))) := by
  rw [← slice_f hk]; exact if_pos (by rw [S_len]; exact le24 ha)
theorem drop_le {α : Type} {l : List α} {k n : Nat} (h : l.length ≤ n) : (l.drop k).length ≤ n := by rw [List.length_drop]; exact Nat.le_trans (Nat.sub_le ..) h
theorem pre_cond {F : Orc} {a b : List Nat} {c : Int} {k : Nat} (ha : a.length ≤ 2 ^ 20) (hb : b.length ≤ 2 ^ 20) (h3 : k ≤ a.length) (h4 : k ≤ b.length) : evT F (LP a b c k) cP = some (he2 (a.drop k) (b.drop k)) := by
  refine (and3 (t := he2 (a.drop k) (b.drop k)) (ev_slice rfl rfl rfl (sl_f ha h3)) (ev_slice rfl rfl rfl (sl_f hb h4)) (drop_le ha) (drop_le hb) fun q1 q2 => ?_).trans (congrArg some (he2_and _ _))
  cases h1 : a.drop k with
  | nil => rw [h1] at q1; cases q1
  | cons x a1 => cases h2 : b.drop k with
    | nil => rw [h2] at q2; cases q2
    | cons y b1 => exact ev_cmp (ev_subd rfl rfl (subV_S ha (by rw [← List.head?_drop, h1]; rfl))) (ev_subd rfl rfl (subV_S hb (by rw [← List.head?_drop, h2]; rfl))) cmp_one
theorem pre_loop2 {F : Orc} {W : Nat} {a b : List Nat} {c : Int} (ha : a.length ≤ 2 ^ 20) (hb : b.length ≤ 2 ^ 20) : ∀ (a1 b1 : List Nat) (k W' : Nat), a.drop k = a1 → b.drop k = b1 → k ≤ a.length → k ≤ b.length → a1.length < W' →
    ∃ k', evWhl (fun l => evT F l cP) (fun l => evSs F W [.aug 3 .Add (.lit (.int 1))] l) W' (LP a b c k) = some (.next, LP a b c k') ∧ k' ≤ a.length ∧ k' ≤ b.length ∧ (a.drop k', b.drop k') = stripP a1 b1 :=
  strip_loop (Lf := LP a b c) (fun j => ss_step (aug' rfl rfl) rfl) fun j h3 h4 => pre_cond ha hb h3 h4

/-! the common suffix -/
noncomputable def LQ (a b : List Nat) (c : Int) (p : Option MV) (j : Nat) : Loc := [some (.dat (.str (S a))), some (.dat (.str (S b))), iv c, p, iv (-(j : Int)), none, none, none, none, none, none, none, none, none]
noncomputable def cQ : ME := .andE (.slice (.var 0) (.lit .none) (.orE (.var 4) (.lit .none))) (.andE (.slice (.var 1) (.lit .none) (.orE (.var 4) (.lit .none))) (.cmp .Eq (.subo 0 (.bin .Sub (.var 4) (.lit (.int 1)))) (.subo 1 (.bin .Sub (.var 4) (.lit (.int 1))))))
noncomputable def upTo (j : Nat) : PyData := if j = 0 then .none else .int (-(j : Int))
theorem or_none {F : Orc} {loc : Loc} {j : Nat} (h : loc[4]? = some (iv (-(j : Int)))) : evE F loc (.orE (.var 4) (.lit .none)) = some (upTo j) := by
  have h4 : evE F loc (.var 4) = some (.int (-(j : Int))) := MV.at_of h rfl
  unfold upTo
  by_cases hj : j = 0
  · subst hj; exact ev_or_f h4 rfl rfl rfl
  · rw [if_neg hj]; exact ev_or_t h4 rfl (bne_iff_ne.mpr (Int.neg_ne_zero.mpr (Int.ofNat_ne_zero.mpr hj)))
theorem sl_t {a : List Nat} {j : Nat} (ha : a.length ≤ 2 ^ 20) (hj : j ≤ a.length) : sliceV (.str (S a)) .none (upTo j) = some (.str (S (a.take (a.length - j)))) := by
  unfold upTo
  by_cases h : j = 0
  · subst h
    rw [if_pos rfl, Nat.sub_zero, List.take_length]
    exact (if_pos (by rw [S_len]; exact le24 ha)).trans (congrArg (fun x => some (PyData.str x)) slice_nn)
  · rw [if_neg h, ← slice_neg (Nat.pos_of_ne_zero h) hj]
    exact if_pos (by rw [S_len]; exact le24 ha)
theorem rev_take {a a1 : List Nat} {j : Nat} (h : a.reverse.drop j = a1) : a.take (a.length - j) = a1.reverse := by
  rw [← h, List.drop_reverse, List.reverse_reverse]
theorem sub_neg {a a1 : List Nat} {j x : Nat} (ha : a.length ≤ 2 ^ 20) (h : a.reverse.drop j = x :: a1) : subV (.str (S a)) (.int (-(j : Int) - 1)) = some (.str ⟨#[x]⟩) := by
  have hx : a.reverse[j]? = some x := by rw [← List.head?_drop, h]; rfl
  have hj : j < a.length := by rw [← List.length_reverse]; exact lt_get hx
  rw [List.getElem?_reverse hj] at hx
  refine (if_pos (by rw [S_len]; exact le24 ha)).trans ?_
  rw [S_len]
  have : seqIndex? (-(j : Int) - 1) a.length = some (a.length - 1 - j) := by
    unfold seqIndex?
    rw [if_pos (show -(j : Int) - 1 < 0 by omega)]
    have h2 : (decide (0 ≤ -(j : Int) - 1 + (a.length : Int)) && decide (-(j : Int) - 1 + (a.length : Int) < (a.length : Int))) = true := Bool.and_eq_true_iff.mpr ⟨decide_eq_true (by omega), decide_eq_true (by omega)⟩
    rw [if_pos h2]
    congr 1; omega
  rw [this, Option.bind_some, show (S a).cps[a.length - 1 - j]? = some x by rw [← Array.getElem?_toList, S_list]; exact hx]; rfl
theorem rev_le {a : List Nat} {j n : Nat} (h : a.length ≤ n) : (a.take (a.length - j)).length ≤ n := by rw [List.length_take]; exact Nat.le_trans (Nat.min_le_right ..) h
theorem post_cond {F : Orc} {a b : List Nat} {c : Int} {p : Option MV} {j : Nat} (ha : a.length ≤ 2 ^ 20) (hb : b.length ≤ 2 ^ 20) (h3 : j ≤ a.length) (h4 : j ≤ b.length) : evT F (LQ a b c p j) cQ = some (he2 (a.reverse.drop j) (b.reverse.drop j)) := by
  have r1 : (a.take (a.length - j)).isEmpty = (a.reverse.drop j).isEmpty := by rw [rev_take rfl, List.isEmpty_reverse]
  have r2 : (b.take (b.length - j)).isEmpty = (b.reverse.drop j).isEmpty := by rw [rev_take rfl, List.isEmpty_reverse]
  refine (and3 (t := he2 (a.reverse.drop j) (b.reverse.drop j)) (ev_slice rfl rfl (or_none rfl) (sl_t ha h3)) (ev_slice rfl rfl (or_none rfl) (sl_t hb h4)) (rev_le ha) (rev_le hb) fun q1 q2 => ?_).trans (by rw [r1, r2, he2_and])
  rw [r1] at q1
  rw [r2] at q2
  cases h1 : a.reverse.drop j with
  | nil => rw [h1] at q1; cases q1
  | cons x a1 => cases h2 : b.reverse.drop j with
    | nil => rw [h2] at q2; cases q2
    | cons y b1 => exact ev_cmp (ev_subd rfl (ev_bin rfl rfl rfl) (sub_neg ha h1)) (ev_subd rfl (ev_bin rfl rfl rfl) (sub_neg hb h2)) cmp_one
theorem post_loop {F : Orc} {W : Nat} {a b : List Nat} {c : Int} {p : Option MV} (ha : a.length ≤ 2 ^ 20) (hb : b.length ≤ 2 ^ 20) (a1 b1 : List Nat) (j W' : Nat) (h1 : a.reverse.drop j = a1) (h2 : b.reverse.drop j = b1) (h3 : j ≤ a.length) (h4 : j ≤ b.length) (h5 : a1.length < W') :
    ∃ j', evWhl (fun l => evT F l cQ) (fun l => evSs F W [.aug 4 .Sub (.lit (.int 1))] l) W' (LQ a b c p j) = some (.next, LQ a b c p j') ∧ j' ≤ a.length ∧ j' ≤ b.length ∧ (a.reverse.drop j', b.reverse.drop j') = stripP a1 b1 := by
  have hs : ∀ j : Nat, augV .Sub (.int (-(j : Int))) (.int 1) = some (.int (-((j + 1 : Nat) : Int))) := fun j => by rw [augV_subI, Int.natCast_succ, Int.neg_add]; rfl
  have h := strip_loop (F := F) (W := W) (Lf := LQ a b c p) (cnd := cQ) (bd := [.aug 4 .Sub (.lit (.int 1))]) (u := a.reverse) (v := b.reverse) (fun j => ss_step (aug' rfl (hs j)) rfl) (fun j h3 h4 => post_cond ha hb (by rwa [List.length_reverse] at h3) (by rwa [List.length_reverse] at h4)) a1 b1 j W' h1 h2 (by rwa [List.length_reverse]) (by rwa [List.length_reverse]) h5
  rwa [List.length_reverse, List.length_reverse] at h
end Mine

-- C4
namespace Mine
open PySem PySem.Spec PySem.Calls PyProof.Rows PySem.W

noncomputable def row0 (n : Nat) : List Int := (List.range n).map fun (i : Nat) => 2 * ((i : Int) + 1)
theorem range3_nat : ∀ n : Nat, n < 17 → (range3 [.int 2, .int (2 * ((n : Int) + 1)), .int 2]).bind boundL = some (.list ((row0 n).map .int))
  | 0, _ => rfl
  | 1, _ => rfl
  | 2, _ => rfl
  | 3, _ => rfl
  | 4, _ => rfl
  | 5, _ => rfl
  | 6, _ => rfl
  | 7, _ => rfl
  | 8, _ => rfl
  | 9, _ => rfl
  | 10, _ => rfl
  | 11, _ => rfl
  | 12, _ => rfl
  | 13, _ => rfl
  | 14, _ => rfl
  | 15, _ => rfl
  | 16, _ => rfl
  | n + 17, h => absurd h (by omega)

noncomputable abbrev L0 (a b : List Nat) (c : Int) (p q r : Option MV) : Loc := [some (.dat (.str (S a))), some (.dat (.str (S b))), iv c, p, q, r, none, none, none, none, none, none, none, none]
theorem bits8 {n : Nat} (h : n ≤ 32) : bits (n : Int) ≤ 8 := small_bits (Nat.lt_of_le_of_lt h (by decide))
theorem not_S {l : List Nat} (h : l.length ≤ 2 ^ 20) : unV .Not (.str (S l)) = some (.bool l.isEmpty) := by
  refine (if_pos (sm_S h)).trans ?_
  rw [tr_S, Bool.not_not]
theorem le20 {n : Nat} (h : n ≤ 16) : n ≤ 2 ^ 20 := Nat.le_trans h (by decide)
section
variable {F : Orc} {W : Nat} {a b : List Nat} {c : Int} {p q : Option MV}
theorem dp_9 (ha : a.length ≤ 16) (hb : b.length ≤ 16) : evT F (L0 a b c p q none) (.orE (.un .Not (.var 0)) (.un .Not (.var 1))) = some (a.isEmpty || b.isEmpty) := by
  have n1 : evE F (L0 a b c p q none) (.un .Not (.var 0)) = some (.bool a.isEmpty) := ev_un rfl (not_S (le20 ha))
  have n2 : evE F (L0 a b c p q none) (.un .Not (.var 1)) = some (.bool b.isEmpty) := ev_un rfl (not_S (le20 hb))
  cases h : a.isEmpty with
  | true => rw [h] at n1; exact evT_of (ev_or_t n1 rfl rfl) rfl rfl
  | false => rw [h] at n1; exact evT_of (ev_or_f n1 rfl rfl n2) rfl rfl
theorem dp_10 (ha : a.length ≤ 16) (hb : b.length ≤ 16) : evS F W s_levenshtein_distance_10 (L0 a b c p q none) = some (.next, L0 a b c p q none) :=
  ite_n (evT_of (ev_or_f (ev_cmp (ev_bi (evs1 rfl) (biV_len (le20 ha))) rfl (cmp_gt_f (by omega))) rfl rfl (ev_cmp (ev_bi (evs1 rfl) (biV_len (le20 hb))) rfl (cmp_gt_f (by omega)))) rfl rfl)
theorem dp_11 (ha : a.length ≤ 16) (hb : b.length ≤ 16) : evS F W s_levenshtein_distance_11 (L0 a b c p q none) = some (.next, L0 (if b.length < a.length then b else a) (if b.length < a.length then a else b) c p q none) := by
  have l1 : evE F (L0 a b c p q none) (.bi 0 [.var 1]) = some (.int (b.length : Int)) := ev_bi (evs1 rfl) (biV_len (le20 hb))
  have l2 : evE F (L0 a b c p q none) (.bi 0 [.var 0]) = some (.int (a.length : Int)) := ev_bi (evs1 rfl) (biV_len (le20 ha))
  by_cases h : b.length < a.length
  · rw [if_pos h, if_pos h]
    exact ite_t' (evT_cmp l1 l2 (cmp_lt_t (Int.ofNat_lt.mpr h))) (ss_step (asgT' (ev_tup2 rfl rfl)) rfl)
  · rw [if_neg h, if_neg h]
    exact ite_n (evT_cmp l1 l2 (cmp_lt_f fun k => h (Int.ofNat_lt.mp k)))
/-- the shorter one is first -/
noncomputable def dp2 (a' b' : List Nat) (c : Int) : Int := if c < ((b'.length : Int) - (a'.length : Int)) * 2 then c + 1 else outr a' c b' 0 (row0 a'.length) 0
theorem dp_rest (ha : a.length ≤ 16) (hb : b.length ≤ 16) (hle : a.length ≤ b.length) (hF : ∀ y ∈ b, ∀ x ∈ a, F 10 [.str ⟨#[y]⟩, .str ⟨#[x]⟩] = some (.int (cost y x))) :
    ∃ l, evSs F W [s_levenshtein_distance_12, s_levenshtein_distance_13, s_levenshtein_distance_14, s_levenshtein_distance_15, s_levenshtein_distance_16] (L0 a b c p q none) = some (.ret (.int (dp2 a b c)), l) := by
  have l1 : ∀ r, evE F (L0 a b c p q r) (.bi 0 [.var 1]) = some (.int (b.length : Int)) := fun r => ev_bi (evs1 rfl) (biV_len (le20 hb))
  have l2 : ∀ r, evE F (L0 a b c p q r) (.bi 0 [.var 0]) = some (.int (a.length : Int)) := fun r => ev_bi (evs1 rfl) (biV_len (le20 ha))
  have e2 : evE F (L0 a b c p q none) (.bin .Mult (.bin .Sub (.bi 0 [.var 1]) (.bi 0 [.var 0])) (.lit (.int 2))) = some (.int (((b.length : Int) - (a.length : Int)) * 2)) :=
    ev_bin (ev_bin (l1 _) (l2 _) rfl) rfl (binV_mul (m := 8) (n := 8) (by rw [← Int.ofNat_sub hle]; exact bits8 (Nat.le_trans (Nat.sub_le ..) (Nat.le_trans hb (by decide)))) (by decide) (by decide))
  unfold dp2
  by_cases h3 : c < ((b.length : Int) - (a.length : Int)) * 2
  · rw [if_pos h3]
    exact ⟨_, ss_ret (ite_t' (evT_cmp e2 rfl (cmp_gt_t h3)) (ss_ret (ret' (ev_bin rfl rfl rfl))))⟩
  · rw [if_neg h3]
    have e3 : evE F (L0 a b c p q none) (.bin .Mult (.lit (.int 2)) (.bin .Add (.bi 0 [.var 0]) (.lit (.int 1)))) = some (.int (2 * ((a.length : Int) + 1))) :=
      ev_bin rfl (ev_bin (l2 _) rfl rfl) (binV_mul (m := 8) (n := 8) (by decide) (bits8 (n := a.length + 1) (Nat.succ_le_succ (Nat.le_trans ha (by decide)))) (by decide))
    have st4 : evS F W s_levenshtein_distance_13 (L0 a b c p q none) = some (.next, L0 a b c p q (some (.own ((row0 a.length).map .int)))) := own' (bindV (evs3 rfl e3 rfl) (range3_nat a.length (Nat.lt_succ_of_le ha)))
    have st6 : ∀ v7 v8 v9 v10 v11 v12 v13 X, evFor (.one 7) (fun l => evSs F W bodyO l) (ilist 0 b.length) (LL a b c p q (row0 a.length) 0 v7 v8 v9 v10 v11 v12 v13) = X → evS F W s_levenshtein_distance_15 (LL a b c p q (row0 a.length) 0 v7 v8 v9 v10 v11 v12 v13) = X := fun v7 v8 v9 v10 v11 v12 v13 X h =>
      for' (evI_rngN (ev_bi (evs1 rfl) (biV_len (le20 hb))) (le20 hb)) h
    have pre : ∀ {X}, evSs F W [s_levenshtein_distance_15, s_levenshtein_distance_16] (LL a b c p q (row0 a.length) 0 none none none none none none none) = X → evSs F W [s_levenshtein_distance_12, s_levenshtein_distance_13, s_levenshtein_distance_14, s_levenshtein_distance_15, s_levenshtein_distance_16] (L0 a b c p q none) = X := fun h =>
      ss_step (ite_n (evT_cmp e2 rfl (cmp_gt_f h3))) (ss_step st4 (ss_step (asg' rfl) h))
    rcases outer_loop (F := F) (W := W) (a := a) (b := b) (c := c) (p := p) (q := q) (Nat.le_trans ha (by decide)) (Nat.le_trans hb (by decide)) hF b 0 (row0 a.length) 0 none none none none none none none rfl (by rw [row0, List.length_map, List.length_range]) with ⟨l, e⟩ | ⟨row', w7, w8, w9, w10, w11, w12, w13, e⟩
    · exact ⟨l, pre (ss_ret (st6 _ _ _ _ _ _ _ _ e))⟩
    · exact ⟨_, pre (ss_step (st6 _ _ _ _ _ _ _ _ e) (ss_ret (ret' rfl)))⟩
theorem dp_ev (ha : a.length ≤ 16) (hb : b.length ≤ 16) (hF : ∀ y ∈ a ++ b, ∀ x ∈ a ++ b, F 10 [.str ⟨#[y]⟩, .str ⟨#[x]⟩] = some (.int (cost y x))) :
    ∃ l, evSs F W [s_levenshtein_distance_9, s_levenshtein_distance_10, s_levenshtein_distance_11, s_levenshtein_distance_12, s_levenshtein_distance_13, s_levenshtein_distance_14, s_levenshtein_distance_15, s_levenshtein_distance_16] (L0 a b c p q none) = some (.ret (.int (dpP a b c)), l) := by
  have e0 := dp_9 (F := F) (c := c) (p := p) (q := q) ha hb
  have hd : dpP a b c = if (a.isEmpty || b.isEmpty) = true then 2 * ((a.length : Int) + (b.length : Int)) else dp2 (if b.length < a.length then b else a) (if b.length < a.length then a else b) c := rfl
  rw [hd]
  cases h0 : (a.isEmpty || b.isEmpty) with
  | true =>
    rw [if_pos rfl]
    rw [h0] at e0
    exact ⟨_, ss_ret (ite_t' e0 (ss_ret (ret' (ev_bin rfl (ev_bin (ev_bi (evs1 rfl) (biV_len (le20 ha))) (ev_bi (evs1 rfl) (biV_len (le20 hb))) rfl) (binV_mul (m := 8) (n := 8) (by decide) (bits8 (n := a.length + b.length) (Nat.add_le_add ha hb)) (by decide))))))⟩
  | false =>
    rw [if_neg Bool.false_ne_true]
    rw [h0] at e0
    have hle : (if b.length < a.length then b else a).length ≤ 16 ∧ (if b.length < a.length then a else b).length ≤ 16 ∧ (if b.length < a.length then b else a).length ≤ (if b.length < a.length then a else b).length ∧ (∀ y ∈ (if b.length < a.length then a else b), y ∈ a ++ b) ∧ ∀ x ∈ (if b.length < a.length then b else a), x ∈ a ++ b := by
      by_cases h : b.length < a.length
      · rw [if_pos h, if_pos h]; exact ⟨hb, ha, Nat.le_of_lt h, fun y hy => List.mem_append_left _ hy, fun y hy => List.mem_append_right _ hy⟩
      · rw [if_neg h, if_neg h]; exact ⟨ha, hb, Nat.not_lt.mp h, fun y hy => List.mem_append_right _ hy, fun y hy => List.mem_append_left _ hy⟩
    obtain ⟨l, e⟩ := dp_rest (F := F) (W := W) (c := c) (p := p) (q := q) hle.1 hle.2.1 hle.2.2.1 fun y hy x hx => hF y (hle.2.2.2.1 y hy) x (hle.2.2.2.2 x hx)
    exact ⟨l, ss_step (ite_n e0) (ss_step (dp_10 ha hb) (ss_step (dp_11 ha hb) e))⟩
end

theorem stripP_len : ∀ (a b : List Nat), (stripP a b).1.length ≤ a.length ∧ (stripP a b).2.length ≤ b.length
  | [], b => ⟨Nat.le_refl _, Nat.le_refl _⟩
  | x :: a, [] => ⟨Nat.le_refl _, Nat.le_refl _⟩
  | x :: a, y :: b => by
    have h := stripP_len a b
    unfold stripP
    split
    · exact ⟨Nat.le_succ_of_le h.1, Nat.le_succ_of_le h.2⟩
    · exact ⟨Nat.le_refl _, Nat.le_refl _⟩
theorem lev_ev {F : Orc} {W : Nat} {a b : List Nat} {c : Int} (hW : 17 ≤ W) (ha : a.length ≤ 16) (hb : b.length ≤ 16) (hF : ∀ y ∈ a ++ b, ∀ x ∈ a ++ b, F 10 [.str ⟨#[y]⟩, .str ⟨#[x]⟩] = some (.int (cost y x))) :
    evFn F W m_levenshtein_distance [.str (S a), .str (S b), .int c] = some (.int (levP a b c)) := by
  have e0 : evT F (L0 a b c none none none) (.cmp .Eq (.var 0) (.var 1)) = some (a == b) := evT_cmp rfl rfl (cmp_seq rfl)
  unfold levP
  by_cases h0 : (a == b) = true
  · rw [if_pos h0]
    rw [h0] at e0
    exact evFn_ret (loc := L0 a b c none none none) (loc' := L0 a b c none none none) rfl rfl (ss_ret (ite_t' e0 (ss_ret (ret' rfl))))
  · rw [if_neg h0]
    rw [Bool.not_eq_true] at h0
    rw [h0] at e0
    obtain ⟨k, w1, k1, k2, k3⟩ := pre_loop2 (F := F) (W := W) (a := a) (b := b) (c := c) (by omega) (by omega) a b 0 W rfl rfl (by omega) (by omega) (by omega)
    have ka : a.drop k = (stripP a b).1 := congrArg Prod.fst k3
    have kb : b.drop k = (stripP a b).2 := congrArg Prod.snd k3
    have len1 := stripP_len a b
    generalize (stripP a b) = P at *
    obtain ⟨a1, b1⟩ := P
    simp only at ka kb len1 ⊢
    obtain ⟨j, w2, j1, j2, j3⟩ := post_loop (F := F) (W := W) (a := a1) (b := b1) (c := c) (p := nv k) (by omega) (by omega) a1.reverse b1.reverse 0 W rfl rfl (by omega) (by omega) (by rw [List.length_reverse]; omega)
    have ja : a1.take (a1.length - j) = (stripP a1.reverse b1.reverse).1.reverse := rev_take (congrArg Prod.fst j3)
    have jb : b1.take (b1.length - j) = (stripP a1.reverse b1.reverse).2.reverse := rev_take (congrArg Prod.snd j3)
    have sub1 : ∀ x ∈ a1.take (a1.length - j), x ∈ a ++ b := fun x hx => List.mem_append_left _ (by rw [← ka] at hx; exact List.mem_of_mem_drop (List.mem_of_mem_take hx))
    have sub2 : ∀ x ∈ b1.take (b1.length - j), x ∈ a ++ b := fun x hx => List.mem_append_right _ (by rw [← kb] at hx; exact List.mem_of_mem_drop (List.mem_of_mem_take hx))
    have sub3 : ∀ x ∈ a1.take (a1.length - j) ++ b1.take (b1.length - j), x ∈ a ++ b := fun x hx => (List.mem_append.mp hx).elim (sub1 x) (sub2 x)
    obtain ⟨l, e⟩ := dp_ev (F := F) (W := W) (a := a1.take (a1.length - j)) (b := b1.take (b1.length - j)) (c := c) (p := nv k) (q := iv (-(j : Int))) (by rw [List.length_take]; omega) (by rw [List.length_take]; omega) (fun y hy x hx => hF y (sub3 y hy) x (sub3 x hx))
    rw [← ja, ← jb]
    refine evFn_ret (loc := L0 a b c none none none) (loc' := l) rfl rfl ?_
    have f1 := sl_f (a := a) (k := k) (le20 ha) k1
    have f2 := sl_f (a := b) (k := k) (le20 hb) k2
    rw [ka] at f1
    rw [kb] at f2
    have h1 : a1.length ≤ 2 ^ 20 := Nat.le_trans len1.1 (le20 ha)
    have h2 : b1.length ≤ 2 ^ 20 := Nat.le_trans len1.2 (le20 hb)
    exact ss_step (ite_n e0) (ss_step (l' := LP a b c 0) (asg' rfl) (ss_step (whl_ev w1) (ss_step (l' := LP a1 b c k) (asg' (ev_slice rfl rfl rfl f1)) (ss_step (l' := LP a1 b1 c k) (asg' (ev_slice rfl rfl rfl f2)) (ss_step (l' := LQ a1 b1 c (nv k) 0) (asg' rfl) (ss_step (whl_ev w2)
      (ss_step (l' := LQ (a1.take (a1.length - j)) b1 c (nv k) j) (asg' (ev_slice rfl rfl (or_none rfl) (sl_t h1 j1))) (ss_step (l' := LQ (a1.take (a1.length - j)) (b1.take (b1.length - j)) c (nv k) j) (asg' (ev_slice rfl rfl (or_none rfl) (sl_t h2 j2))) e))))))))
end Mine

-- D1
namespace Mine
open PySem PySem.Spec PySem.Calls PyProof.Rows PySem.W

/-! ## equality of data, decided -/
mutual
noncomputable def eqD : PyData → PyData → Bool
  | .none, .none => true
  | .bool a, .bool b => a == b
  | .int a, .int b => a == b
  | .str a, .str b => a.cps.toList == b.cps.toList
  | .list a, .list b => eqDs a b
  | .tuple a, .tuple b => eqDs a b
  | _, _ => false
noncomputable def eqDs : List PyData → List PyData → Bool
  | [], [] => true
  | a :: r, b :: s => eqD a b && eqDs r s
  | _, _ => false
end
mutual
theorem eqD_sound : ∀ a b, eqD a b = true → a = b
  | .none, b, h => by cases b <;> first | rfl | cases h
  | .bool x, b, h => by
    cases b <;> first | exact congrArg _ (eq_of_beq h) | cases h
  | .int x, b, h => by
    cases b <;> first | exact congrArg _ (eq_of_beq h) | cases h
  | .str x, b, h => by
    cases b <;> first | exact congrArg _ (str_ext (eq_of_beq h)) | cases h
  | .list x, b, h => by
    cases b <;> first | exact congrArg _ (eqDs_sound _ _ h) | cases h
  | .tuple x, b, h => by
    cases b <;> first | exact congrArg _ (eqDs_sound _ _ h) | cases h
  | .dict x, b, h => by cases b <;> cases h
theorem eqDs_sound : ∀ a b, eqDs a b = true → a = b
  | [], b, h => by cases b <;> first | rfl | cases h
  | x :: r, b, h => by
    cases b with
    | nil => cases h
    | cons y s => exact andE' h fun h1 h2 => by rw [eqD_sound _ _ h1, eqDs_sound _ _ h2]
end
noncomputable def eqO (o : Option PyData) (d : PyData) : Bool := match o with
  | some x => eqD x d
  | none => false
theorem eqO_sound {o : Option PyData} {d : PyData} (h : eqO o d = true) : o = some d := by
  cases o with
  | none => cases h
  | some x => rw [eqD_sound _ _ h]

/-! ## served values of the text functions -/
noncomputable def orcF (i0 : Nat) (F : Orc) (W : Nat) (m : MFn) : Orc := fun i args => if i = i0 then evFn F W m args else none
theorem servesF {C : Cx} {k W i0 : Nat} {F : Orc} {x : Str} {m : MFn} (B : Base C) (hx : fnsAll[i0]? = some x) (H : FnOk C x m) (Sv : Serves C k F) : Serves C (k + 1) (orcF i0 F W m) := fun i y e args r hr => by
  unfold orcF at hr
  split at hr
  · rename_i hi
    subst hi
    rw [hx] at e; cases e
    exact fn_call B H Sv hr
  · cases hr
theorem orcF_eq {i0 : Nat} {F : Orc} {W : Nat} {m : MFn} {args : List PyData} : orcF i0 F W m i0 args = evFn F W m args := if_pos rfl
theorem orcF_ne {i0 i : Nat} {F : Orc} {W : Nat} {m : MFn} {args : List PyData} (h : i ≠ i0) : orcF i0 F W m i args = none := if_neg h

structure Texts (C : Cx) : Prop where
  base : Base C
  f1 : FnOk C "_strip_quoted_realnames" m_strip_quoted_realnames
  f2 : FnOk C "_check_parenthesis" m_check_parenthesis
  f3 : FnOk C "_pre_parse_validation" m_pre_parse_validation
  f10 : FnOk C "_substitution_cost" m_substitution_cost
  f11 : FnOk C "_levenshtein_distance" m_levenshtein_distance

noncomputable def O1 : Orc := orcF 1 orc0 0 m_strip_quoted_realnames
noncomputable def O2 : Orc := orcF 2 O1 0 m_check_parenthesis
noncomputable def O3 : Orc := orcF 3 O2 0 m_pre_parse_validation
noncomputable def O10 : Orc := orcF 10 orc0 0 m_substitution_cost
theorem O3_srv {C : Cx} (T : Texts C) : Serves C 3 O3 := servesF T.base rfl T.f3 (servesF T.base rfl T.f2 (servesF T.base rfl T.f1 (serves0 (k := 0))))
theorem O10_srv {C : Cx} (T : Texts C) : Serves C 1 O10 := servesF T.base rfl T.f10 (serves0 (k := 0))

noncomputable def sgn (l : List Nat) : Bool := l.all fun c => c == 40 || c == 41 || c == 45
theorem sgn_mem {l : List Nat} (h : sgn l = true) : ∀ x ∈ l, x = 40 ∨ x = 41 ∨ x = 45 := fun x hx => by
  rcases Bool.or_eq_true_iff.mp (List.all_eq_true.mp h x hx) with h | h
  · exact (Bool.or_eq_true_iff.mp h).elim (fun h => .inl (eq_of_beq h)) fun h => .inr (.inl (eq_of_beq h))
  · exact .inr (.inr (eq_of_beq h))
theorem O10_val {y x : Nat} (hy : y = 40 ∨ y = 41 ∨ y = 45) (hx : x = 40 ∨ x = 41 ∨ x = 45) : O10 10 [.str ⟨#[y]⟩, .str ⟨#[x]⟩] = some (.int (cost y x)) := by
  rcases hy with rfl | rfl | rfl <;> rcases hx with rfl | rfl | rfl <;> exact eqO_sound (by decide +kernel)
/-- the distance, as a plain function -/
noncomputable def levA (a b : List Nat) : Bool := (sgn a && sgn b) && (Nat.ble a.length 16 && Nat.ble b.length 16)
noncomputable def str? : PyData → Option Str
  | .str a => some a
  | _ => none
noncomputable def int? : PyData → Option Int
  | .int a => some a
  | _ => none
theorem strE {x : PyData} {a : Str} (h : str? x = some a) : x = .str a := by cases x <;> cases h; rfl
theorem intE {x : PyData} {a : Int} (h : int? x = some a) : x = .int a := by cases x <;> cases h; rfl
noncomputable def levO : Orc := fun i args => gd (decide (i = 11)) (match args with
  | x :: r => (two? r).bind fun q => (str? x).bind fun a => (str? q.1).bind fun b => (int? q.2).bind fun c => gd (levA a.cps.toList b.cps.toList) (some (.int (levP a.cps.toList b.cps.toList c)))
  | [] => none)
theorem S_cps (a : Str) : S a.cps.toList = a := rfl
theorem levO_srv {C : Cx} (T : Texts C) : Serves C 2 levO := fun i x e args r hr => by
  refine gdE hr fun hi hr => ?_
  obtain rfl := of_decide_eq_true hi
  cases args with
  | nil => cases hr
  | cons x r =>
    refine bindE hr fun q hq hr => bindE hr fun a ha hr => bindE hr fun b hb hr => bindE hr fun c hc hr => gdE hr fun hl hr => andE' hl fun h1 h2 => andE' h1 fun h1 h1' => andE' h2 fun h2 h2' => ?_
    cases e; cases hr
    rw [twoE hq, strE ha, strE hb, intE hc]
    have hm : ∀ x ∈ a.cps.toList ++ b.cps.toList, x = 40 ∨ x = 41 ∨ x = 45 := fun x hx => (List.mem_append.mp hx).elim (sgn_mem h1 x) (sgn_mem h1' x)
    have := lev_ev (F := O10) (W := 17) (a := a.cps.toList) (b := b.cps.toList) (c := c) (Nat.le_refl _) (Nat.le_of_ble_eq_true h2) (Nat.le_of_ble_eq_true h2') fun y hy x hx => O10_val (hm y hy) (hm x hx)
    exact fn_call T.base T.f11 (O10_srv T) this
theorem levO_val {a b : List Nat} {c : Int} (h1 : sgn a = true) (h2 : sgn b = true) (h3 : a.length ≤ 16) (h4 : b.length ≤ 16) : levO 11 [.str (S a), .str (S b), .int c] = some (.int (levP a b c)) := by
  show gd (levA a b) _ = _
  rw [show levA a b = true by rw [levA, h1, h2, Nat.ble_eq_true_of_le h3, Nat.ble_eq_true_of_le h4]; rfl]
  rfl

theorem O2_val {p u h h' v : List Nat} (hp : Par p) (hu : Par u) (hv : Par v) (H : Hid h h') (hl : (txt p u h v).length ≤ 2 ^ 16) : O2 2 [.str (S (txt p u h v))] = some (.bool (bal (p ++ u ++ v))) := by
  unfold O2
  rw [orcF_eq]
  have := txt_len p u h v
  refine check_ev hp hu hv H (by omega) ?_
  unfold O1
  rw [orcF_eq]
  exact strip_ev hp hu hv H hl
theorem O3_val {g : List Nat → List Nat} {ts : List (List Nat)} (h : ∀ t ∈ ts, ∃ p u h h' v, Par p ∧ Par u ∧ Par v ∧ Hid h h' ∧ (txt p u h v).length ≤ 2 ^ 16 ∧ t = txt p u h v ∧ g t = if bal (p ++ u ++ v) then t else badT) (hl : ts.length ≤ 2 ^ 16) :
    O3 3 [.list (ts.map fun t => .str (S t))] = some (.list ((ts.map g).map fun t => .str (S t))) := by
  unfold O3
  rw [orcF_eq]
  refine pre_ev (fun t ht => ?_) hl
  obtain ⟨p, u, h, h', v, h1, h2, h3, h4, h5, rfl, h6⟩ := h t ht
  exact ⟨_, O2_val h1 h2 h3 h4 h5, h6⟩
end Mine

-- L1a
namespace Mine
open PySem PySem.Spec PySem.Calls PyProof.Rows PySem.W

noncomputable def s1_law_drawn_0 : MS := .own 1 (.lst [(.lit (.int 0)), (.lit (.int 1)), (.lit (.int 1)), (.lit (.int 2)), (.lit (.int 4)), (.lit (.int 3))])
noncomputable def s1_law_drawn_1 : MS := .ret (.comp 2 1 (.bin .Add (.subo 1 (.var 2)) (.ite (.cmp .Lt (.var 2) (.bi 0 [(.var 0)])) (.subo 0 (.var 2)) (.lit (.int 0)))) (.one 2) (.rng [(.lit (.int 6))]))
noncomputable def m1_law_drawn : MFn := ⟨1, 2, [s1_law_drawn_0, s1_law_drawn_1]⟩
noncomputable def s1_law_heights_0 : MS := .own 2 (.lst [(.var 1)])
noncomputable def s1_law_heights_1 : MS := .for_ (.one 3) (.var 0) [.app 2 (.bin .Add (.subo 2 (.un .USub (.lit (.int 1)))) (.ite (.cmp .Eq (.var 3) (.lit (.str ⟨#[40]⟩))) (.lit (.int 1)) (.un .USub (.lit (.int 1)))))]
noncomputable def s1_law_heights_2 : MS := .ret (.var 2)
noncomputable def m1_law_heights : MFn := ⟨2, 4, [s1_law_heights_0, s1_law_heights_1, s1_law_heights_2]⟩
noncomputable def s1_law_text_0 : MS := .own 4 (.lst [(.lit (.str ⟨#[]⟩)), (.lit (.str ⟨#[92, 41]⟩)), (.lit (.str ⟨#[34, 40, 34]⟩)), (.lit (.str ⟨#[92, 92]⟩)), (.lit (.str ⟨#[92, 34]⟩)), (.lit (.str ⟨#[34]⟩)), (.lit (.str ⟨#[34, 41, 34]⟩)), (.lit (.str ⟨#[34, 92, 34, 41, 34]⟩))])
noncomputable def s1_law_text_1 : MS := .assign 5 (.bin .Mod (.bin .Add (.bin .FloorDiv (.var 2) (.lit (.int 8))) (.var 3)) (.bin .Add (.bi 0 [(.var 0)]) (.lit (.int 1))))
noncomputable def s1_law_text_2 : MS := .assign 6 (.bin .Add (.bin .Add (.bin .Add (.lit (.str ⟨#[34, 40, 34]⟩)) (.bin .Mult (.lit (.str ⟨#[40]⟩)) (.subo 1 (.lit (.int 0))))) (.slice (.var 0) (.lit .none) (.var 5))) (.subo 4 (.bin .Mod (.bin .Add (.var 2) (.var 3)) (.lit (.int 8)))))
noncomputable def s1_law_text_3 : MS := .ret (.bin .Add (.bin .Add (.var 6) (.slice (.var 0) (.var 5) (.lit .none))) (.bin .Mult (.lit (.str ⟨#[41]⟩)) (.bi 3 [(.subo 1 (.un .USub (.lit (.int 1)))), (.lit (.int 0))])))
noncomputable def m1_law_text : MFn := ⟨4, 7, [s1_law_text_0, s1_law_text_1, s1_law_text_2, s1_law_text_3]⟩
noncomputable def s1_law_near_0 : MS := .assign 1 (.bi 0 [(.var 0)])
noncomputable def s1_law_near_1 : MS := .own 2 (.lst [(.tup [(.bin .Add (.lit (.str ⟨#[45]⟩)) (.slice (.var 0) (.lit .none) (.un .USub (.lit (.int 1))))), (.lit (.int 4))]), (.tup [(.bin .Add (.slice (.var 0) (.lit (.int 1)) (.lit .none)) (.lit (.str ⟨#[45]⟩))), (.lit (.int 4))]), (.tup [(.bin .Add (.bin .Add (.bin .Add (.bin .Add (.slice (.var 0) (.lit .none) (.lit (.int 1))) (.lit (.str ⟨#[45]⟩))) (.slice (.var 0) (.lit (.int 1)) (.lit (.int 2)))) (.lit (.str ⟨#[45]⟩))) (.slice (.var 0) (.lit (.int 2)) (.lit .none))), (.lit (.int 4))])])
noncomputable def s1_law_near_2 : MS := .assign 2 (.bin .Add (.var 2) (.lst [(.tup [(.bin .Add (.slice (.var 0) (.lit .none) (.lit (.int 2))) (.slice (.var 0) (.lit (.int 1)) (.lit .none))), (.lit (.int 0))]), (.tup [(.lit (.str ⟨#[45, 45]⟩)), (.bin .Mult (.lit (.int 2)) (.var 1))]), (.tup [(.lit (.str ⟨#[45, 45]⟩)), (.bin .Sub (.bin .Mult (.lit (.int 2)) (.var 1)) (.lit (.int 3)))]), (.tup [(.lit (.str ⟨#[45]⟩)), (.lit (.int 1))])]))
noncomputable def s1_law_near_3 : MS := .ret (.comp 3 2 (.call 11 [(.var 0), (.var 3), (.var 4)]) (.many [3, 4]) (.var 2))
noncomputable def m1_law_near : MFn := ⟨1, 3, [s1_law_near_0, s1_law_near_1, s1_law_near_2, s1_law_near_3]⟩
noncomputable def s1_law_0 : MS := .assign 1 (.call 12 [(.var 0)])
noncomputable def s1_law_1 : MS := .assign 2 (.bi 1 [(.var 0)])
noncomputable def s1_law_2 : MS := .assign 3 (.bin .Add (.lit (.int 3)) (.bin .Mod (.subo 1 (.lit (.int 0))) (.lit (.int 2))))
noncomputable def s1_law_3 : MS := .assign 4 (.bin .Add (.lit (.int 1)) (.bin .Mod (.subo 1 (.lit (.int 1))) (.lit (.int 4))))
noncomputable def s1_law_4 : MS := .assign 5 (.bin .Mod (.subo 1 (.lit (.int 2))) (.bin .Add (.var 4) (.lit (.int 1))))
noncomputable def s1_law_5 : MS := .rngA 6 [(.bin .Pow (.lit (.int 2)) (.var 3))]
noncomputable def s1_law_6 : MS := .own 8 (.comp 31 1 (.meth 3 (.lit (.str ⟨#[]⟩)) [(.comp 32 1 (.ite (.bin .BitAnd (.bin .RShift (.var 31) (.var 32)) (.lit (.int 1))) (.lit (.str ⟨#[40]⟩)) (.lit (.str ⟨#[41]⟩))) (.one 32) (.rng [(.var 3)]))]) (.one 31) (.var 6))
noncomputable def s1_law_7 : MS := .own 9 (.comp 31 1 (.call 13 [(.var 31), (.var 5)]) (.one 31) (.var 8))
noncomputable def s1_law_8 : MS := .own 10 (.comp 31 1 (.call 14 [(.subo 8 (.var 31)), (.subo 9 (.var 31)), (.subo 1 (.lit (.int 3))), (.var 31)]) (.one 31) (.var 6))
noncomputable def s1_law_9 : MS := .own 11 (.listc (.var 10))
noncomputable def s1_law_10 : MS := .assign 12 (.call 3 [(.var 11)])
noncomputable def s1_law_11 : MS := .ite (.orE (.cmp .NotEq (.var 11) (.var 10)) (.cmp .NotEq (.var 12) (.comp 31 1 (.ite (.cmp .GtE (.bi 2 [(.subo 9 (.var 31))]) (.lit (.int 0))) (.subo 10 (.var 31)) (.lit (.str ⟨#[40, 39, 39, 44, 32, 39, 39, 41]⟩))) (.one 31) (.var 6)))) [.ret (.lit (.bool false))] []
noncomputable def s1_law_12 : MS := .ite (.cmp .NotEq (.call 3 [(.lst [(.bin .Add (.lit (.str ⟨#[40]⟩)) (.subo 10 (.lit (.int 5)))), (.bin .Add (.lit (.str ⟨#[40, 40]⟩)) (.subo 10 (.lit (.int 5))))])]) (.lst [(.lit (.str ⟨#[40, 39, 39, 44, 32, 39, 39, 41]⟩)), (.lit (.str ⟨#[40, 39, 39, 44, 32, 39, 39, 41]⟩))])) [.ret (.lit (.bool false))] []
noncomputable def s1_law_13 : MS := .ite (.cmp .NotEq (.call 15 [(.subo 8 (.lit (.int 5)))]) (.lst [(.lit (.int 4)), (.lit (.int 4)), (.lit (.int 4)), (.lit (.int 2)), (.bin .Mult (.lit (.int 2)) (.var 3)), (.bin .Sub (.bin .Mult (.lit (.int 2)) (.var 3)) (.lit (.int 2))), (.lit (.int 2))])) [.ret (.lit (.bool false))] []
noncomputable def s1_law_14 : MS := .assign 13 (.bin .Add (.bin .Mult (.lit (.str ⟨#[40]⟩)) (.var 3)) (.bin .Mult (.lit (.str ⟨#[41]⟩)) (.var 3)))
noncomputable def s1_law_15 : MS := .own 15 (.comp 31 1 (.lit (.int 0)) (.one 31) (.rng [(.bin .Add (.var 4) (.lit (.int 1)))]))
noncomputable def s1_law_16 : MS := .for_ (.one 7) (.var 6) [.ite (.cmp .Eq (.subo 12 (.var 7)) (.subo 10 (.var 7))) [.assign 16 (.bin .Sub (.bin .Mult (.lit (.int 2)) (.var 3)) (.meth 2 (.subo 8 (.var 7)) [(.lit (.str ⟨#[41]⟩))])), .assign 17 (.bin .Mult (.lit (.int 2)) (.bin .Sub (.bin .Add (.var 16) (.var 5)) (.bi 3 [(.subo 9 (.var 7))]))), .ite (.cmp .Eq (.bin .Mod (.var 7) (.lit (.int 2))) (.lit (.int 0))) [.assign 18 (.call 11 [(.subo 8 (.var 7)), (.var 13), (.bin .Sub (.var 17) (.bin .Mod (.var 2) (.lit (.int 2))))])] [.assign 18 (.call 11 [(.var 13), (.subo 8 (.var 7)), (.bin .Add (.bin .Sub (.var 17) (.lit (.int 1))) (.bin .Mod (.var 2) (.lit (.int 2))))])], .ite (.orE (.cmp .NotEq (.var 18) (.var 17)) (.un .Not (.isi false (.var 18)))) [.ret (.lit (.bool false))] [], .ite (.cmp .LtE (.bin .Sub (.bin .Add (.var 5) (.var 16)) (.bin .FloorDiv (.var 18) (.lit (.int 2)))) (.var 4)) [.augI 15 .Add (.sub (.subo 9 (.var 7)) (.un .USub (.lit (.int 1)))) (.lit (.int 1))] []] []]
noncomputable def s1_law_17 : MS := .assign 19 (.bin .Add (.lit (.int 6)) (.bin .Mod (.var 2) (.lit (.int 1400))))
noncomputable def s1_law_18 : MS := .assign 20 (.bin .Add (.var 4) (.lit (.int 2)))
noncomputable def s1_law_19 : MS := .assign 21 (.bin .Sub (.bin .LShift (.lit (.int 1)) (.bin .Mult (.var 19) (.var 20))) (.lit (.int 1)))
noncomputable def s1_law_20 : MS := .ite (.cmp .NotEq (.call 6 [(.var 21), (.var 19)]) (.comp 31 1 (.bin .Sub (.bin .LShift (.lit (.int 1)) (.var 19)) (.lit (.int 1))) (.one 31) (.rng [(.var 20)]))) [.ret (.lit (.bool false))] []
noncomputable def s1_law_21 : MS := .assign 22 (.bin .Sub (.bin .Add (.bin .Mult (.bin .Sub (.bin .Mod (.subo 1 (.lit (.int 4))) (.lit (.int 7))) (.lit (.int 3))) (.bin .Add (.var 21) (.lit (.int 1)))) (.bin .Mod (.subo 1 (.lit (.int 5))) (.lit (.int 9)))) (.lit (.int 4)))
noncomputable def s1_law_22 : MS := .assign 23 (.bin .Add (.bin .Pow (.bin .Add (.bin .LShift (.lit (.int 1)) (.var 19)) (.lit (.int 1))) (.var 3)) (.bin .Mult (.var 22) (.var 21)))
noncomputable def s1_law_23 : MS := .assign 24 (.bin .Sub (.lit (.int 1)) (.bin .Mult (.lit (.int 2)) (.bin .Mod (.var 2) (.lit (.int 2)))))
noncomputable def s1_law_24 : MS := .assign 25 (.call 9 [(.bin .Mult (.var 24) (.var 23)), (.bin .Mult (.var 24) (.var 21))])
noncomputable def s1_law_25 : MS := .assignT [26, 27] (.var 25)
noncomputable def s1_law_26 : MS := .assign 28 (.bin .Mult (.var 24) (.var 27))
noncomputable def s1_law_27 : MS := .ite (.orE (.cmp .NotEq (.var 25) (.tup [(.var 26), (.var 27)])) (.orE (.cmp .NotEq (.bin .Add (.bin .Mult (.var 26) (.var 21)) (.var 28)) (.var 23)) (.un .Not (.cmp2 .LtE .Lt (.lit (.int 0)) (.var 28) (.var 21))))) [.ret (.lit (.bool false))] []
noncomputable def s1_law_28 : MS := .assign 29 (.call 6 [(.var 28), (.var 19)])
noncomputable def s1_law_29 : MS := .ite (.orE (.cmp .Gt (.bi 0 [(.var 29)]) (.var 20)) (.orE (.cmp .Eq (.slice (.var 29) (.un .USub (.lit (.int 1))) (.lit .none)) (.lst [(.lit (.int 0))])) (.cmp .NotEq (.bi 1 [(.var 29)]) (.bin .Pow (.lit (.int 2)) (.var 3))))) [.ret (.lit (.bool false))] []
noncomputable def s1_law_30 : MS := .ite (.cmp .NotEq (.call 7 [(.var 29), (.var 19)]) (.var 28)) [.ret (.lit (.bool false))] []
noncomputable def s1_law_31 : MS := .assign 29 (.bin .Add (.var 29) (.bin .Mult (.lst [(.lit (.int 0))]) (.bin .Sub (.var 20) (.bi 0 [(.var 29)]))))
noncomputable def s1_law_32 : MS := .for_ (.one 14) (.rng [(.bin .Add (.var 4) (.lit (.int 1)))]) [.ite (.cmp .Eq (.bin .Mod (.bin .Sub (.bin .Add (.var 3) (.var 14)) (.var 5)) (.lit (.int 2))) (.lit (.int 0))) [.assign 30 (.subo 29 (.bin .Mod (.bin .FloorDiv (.bin .Sub (.bin .Add (.var 3) (.var 14)) (.var 5)) (.lit (.int 2))) (.var 20))), .ite (.cmp .NotEq (.subo 15 (.var 14)) (.bin .Sub (.var 30) (.subo 29 (.bin .Mod (.bin .Add (.bin .FloorDiv (.bin .Add (.bin .Add (.var 3) (.var 14)) (.var 5)) (.lit (.int 2))) (.lit (.int 1))) (.var 20))))) [.ret (.lit (.bool false))] []] []]
noncomputable def s1_law_33 : MS := .ret (.lit (.bool true))
noncomputable def m1_law : MFn := ⟨1, 31, [s1_law_0, s1_law_1, s1_law_2, s1_law_3, s1_law_4, s1_law_5, s1_law_6, s1_law_7, s1_law_8, s1_law_9, s1_law_10, s1_law_11, s1_law_12, s1_law_13, s1_law_14, s1_law_15, s1_law_16, s1_law_17, s1_law_18, s1_law_19, s1_law_20, s1_law_21, s1_law_22, s1_law_23, s1_law_24, s1_law_25, s1_law_26, s1_law_27, s1_law_28, s1_law_29, s1_law_30, s1_law_31, s1_law_32, s1_law_33]⟩

/-! ## helpers of law 01 -/
theorem mapMO_map {α β : Type} {f : α → Option β} {g : α → β} : ∀ {xs : List α}, (∀ x ∈ xs, f x = some (g x)) → mapMO f xs = some (xs.map g)
  | [], _ => rfl
  | x :: xs, h => by rw [mapMO, h x (.head _), Option.bind_some, mapMO_map fun y hy => h y (.tail _ hy)]; rfl
theorem comp_ev {F : Orc} {loc : Loc} {nx n : Nat} {elt : ME} {t : Tg} {it : MI} {xs : List PyData} {g : PyData → PyData} (hi : evI F loc it = some xs) (h : ∀ x ∈ xs, ((bindT (inLoc nx n loc) t x).bind fun l => evE F l elt) = some (g x)) (hl : xs.length ≤ 2 ^ 20) :
    evE F loc (.comp nx n elt t it) = some (.list (xs.map g)) := bindV hi (bindV (mapMO_map h) (if_pos (by rw [List.length_map]; exact hl)))
theorem mem_ilist {k m : Nat} {x : PyData} (h : x ∈ ilist k m) : ∃ i : Nat, k ≤ i ∧ i < k + m ∧ x = .int (i : Int) := by
  obtain ⟨i, hi, rfl⟩ := List.mem_map.mp h
  have := List.mem_range'_1.mp hi
  exact ⟨i, this.1, this.2, rfl⟩
theorem ilist_len {k m : Nat} : (ilist k m).length = m := by simp [ilist]
noncomputable def natD : PyData → Nat
  | .int i => i.toNat
  | _ => 0

/-! drawn -/
noncomputable def dr (own : List Int) (ns : List Int) : List Int := (List.range 6).map fun (k : Nat) => own.getD k 0 + ns.getD k 0
theorem subV_int {l : List Int} {k : Nat} (hl : l.length ≤ 2 ^ 20) (h : k < l.length) : subV (.list (l.map .int)) (.int (k : Int)) = some (.int (l.getD k 0)) := by
  refine subV_L (by simpa using hl) ?_
  rw [List.getElem?_map, List.getElem?_eq_getElem h, List.getD_eq_getElem?_getD, List.getElem?_eq_getElem h]; rfl
theorem len_ints {ns : List Int} (h : ns.length ≤ 63) : biV 0 [.list (ns.map .int)] = some (.int (ns.length : Int)) := len_list (Nat.le_trans h (by decide))
theorem drawn1_elt {F : Orc} {own ns : List Int} {k : Nat} (ho : own.length = 6) (hk : k < 6) (hn : ns.length ≤ 63) :
    evE F [some (.dat (.list (ns.map .int))), some (.dat (.list (own.map .int))), nv k] (.bin .Add (.subo 1 (.var 2)) (.ite (.cmp .Lt (.var 2) (.bi 0 [(.var 0)])) (.subo 0 (.var 2)) (.lit (.int 0)))) = some (.int (own.getD k 0 + ns.getD k 0)) := by
  have hz : ns.length ≤ 2 ^ 20 := Nat.le_trans hn (by decide)
  refine ev_bin (ev_subd rfl rfl (subV_int (by rw [ho]; decide) (by rw [ho]; exact hk))) (y := .int (ns.getD k 0)) ?_ rfl
  by_cases h : k < ns.length
  · exact ev_ite_t (ev_cmp rfl (ev_bi (evs1 rfl) (len_ints hn)) (cmp_lt_t (Int.ofNat_lt.mpr h))) rfl rfl (ev_subd rfl rfl (subV_int hz h))
  · rw [show ns.getD k 0 = 0 from by rw [List.getD_eq_getElem?_getD, List.getElem?_eq_none (Nat.not_lt.mp h)]; rfl]
    exact ev_ite_f (ev_cmp rfl (ev_bi (evs1 rfl) (len_ints hn)) (cmp_lt_f fun k => h (Int.ofNat_lt.mp k))) rfl rfl rfl
theorem drawn_comp {F : Orc} {own ns : List Int} (ho : own.length = 6) (hn : ns.length ≤ 63) :
    evE F [some (.dat (.list (ns.map .int))), some (.dat (.list (own.map .int))), none] (.comp 2 1 (.bin .Add (.subo 1 (.var 2)) (.ite (.cmp .Lt (.var 2) (.bi 0 [(.var 0)])) (.subo 0 (.var 2)) (.lit (.int 0)))) (.one 2) (.rng [(.lit (.int 6))])) = some (.list ((dr own ns).map .int)) := by
  have hi : evI F [some (.dat (.list (ns.map .int))), some (.dat (.list (own.map .int))), none] (.rng [(.lit (.int 6))]) = some (ilist 0 6) := by
    exact evI_rngN (n := 6) rfl (by decide)
  rw [comp_ev (g := fun x => .int (own.getD (natD x) 0 + ns.getD (natD x) 0)) hi ?_ (by decide)]
  · simp [dr, ilist, List.range_eq_range', natD]
  · intro x hx
    obtain ⟨i, _, h2, rfl⟩ := mem_ilist hx
    exact drawn1_elt ho (by omega) hn
theorem drawn1_ev {F : Orc} {W : Nat} {ns : List Int} (hn : ns.length ≤ 63) : evFn F W m1_law_drawn [.list (ns.map .int)] = some (.list ((dr [0, 1, 1, 2, 4, 3] ns).map .int)) := by
  refine evFn_ret (loc := [some (.dat (.list (ns.map .int))), none]) (loc' := [some (.dat (.list (ns.map .int))), some (.dat (.list (([0, 1, 1, 2, 4, 3] : List Int).map .int)))]) rfl rfl ?_
  exact ss_step (l' := [some (.dat (.list (ns.map .int))), some (.own (([0, 1, 1, 2, 4, 3] : List Int).map .int))]) (own' rfl) (ss_ret (ret_ev (l0 := [some (.dat (.list (ns.map .int))), some (.dat (.list (([0, 1, 1, 2, 4, 3] : List Int).map .int)))]) rfl (drawn_comp (F := F) (own := [0, 1, 1, 2, 4, 3]) (ns := ns) rfl hn)))

/-! heights -/
noncomputable def hgo : List Nat → Int → List Int
  | [], _ => []
  | c :: r, h => (h + (if c == 40 then 1 else -1)) :: hgo r (h + (if c == 40 then 1 else -1))
noncomputable def hts (row : List Nat) (h : Int) : List Int := h :: hgo row h
noncomputable def locH (row : List Nat) (start : Int) (l : List Int) (v3 : Option MV) : Loc := [some (.dat (.str (S row))), iv start, some (.own (l.map .int)), v3]
theorem subV_last {l : List Int} {h : Int} (hl : l.length ≤ 2 ^ 19) : subV (.list ((l ++ [h]).map .int)) (.int (-1)) = some (.int h) := by
  have hz : ((l ++ [h]).map PyData.int).length = l.length + 1 := by rw [List.length_map, List.length_append]; rfl
  refine (if_pos (by rw [hz]; exact Nat.le_trans (Nat.succ_le_succ hl) (by decide))).trans ?_
  rw [hz]
  have : seqIndex? (-1) (l.length + 1) = some l.length := by
    unfold seqIndex?
    rw [if_pos (show (-1 : Int) < 0 by decide), if_pos (by rw [decide_eq_true (show 0 ≤ (-1 : Int) + ((l.length + 1 : Nat) : Int) by omega), decide_eq_true (show (-1 : Int) + ((l.length + 1 : Nat) : Int) < ((l.length + 1 : Nat) : Int) by omega)]; rfl)]
    congr 1; omega
  rw [this, Option.bind_some, List.getElem?_map, List.getElem?_append_right (Nat.le_refl _), Nat.sub_self]; rfl
theorem heights_loop {F : Orc} {W : Nat} {row : List Nat} {start : Int} : ∀ (cs : List Nat) (l : List Int) (h : Int) (v3 : Option MV), l.length + cs.length ≤ 2 ^ 10 →
    ∃ v3', evFor (.one 3) (fun l => evSs F W [.app 2 (.bin .Add (.subo 2 (.un .USub (.lit (.int 1)))) (.ite (.cmp .Eq (.var 3) (.lit (.str ⟨#[40]⟩))) (.lit (.int 1)) (.un .USub (.lit (.int 1)))))] l) (cs.map fun c => .str ⟨#[c]⟩) (locH row start (l ++ [h]) v3) = some (.next, locH row start (l ++ h :: hgo cs h) v3') := by
  intro cs
  induction cs with
  | nil => intro l h v3 _; exact ⟨v3, rfl⟩
  | cons c cs ih =>
    intro l h v3 hl
    simp only [List.length_cons] at hl
    obtain ⟨v3', e⟩ := ih (l ++ [h]) (h + (if c == 40 then 1 else -1)) (sv c) (by simp; omega)
    refine ⟨v3', ?_⟩
    have e1 := subV_last (l := l) (h := h) (by omega)
    have hx : evE F (locH row start (l ++ [h]) (sv c)) (.bin .Add (.subo 2 (.un .USub (.lit (.int 1)))) (.ite (.cmp .Eq (.var 3) (.lit (.str ⟨#[40]⟩))) (.lit (.int 1)) (.un .USub (.lit (.int 1))))) = some (.int (h + (if c == 40 then 1 else -1))) := by
      refine ev_bin (y := .int (if c == 40 then 1 else -1)) (ev_subo rfl (ev_un rfl rfl) e1) ?_ rfl
      cases hc : (c == 40) with
      | true => exact ev_ite_t (ev_cmp rfl rfl cmp_one) rfl hc rfl
      | false => exact ev_ite_f (ev_cmp rfl rfl cmp_one) rfl hc (ev_un rfl rfl)
    have st := app' (F := F) (W := W) (i := 2) (l := locH row start (l ++ [h]) (sv c)) (xs := (l ++ [h]).map .int) hx (by rw [List.length_map, List.length_append]; exact Nat.le_trans (Nat.add_le_add_left (Nat.succ_le_succ (Nat.zero_le _)) _) (Nat.le_trans hl (by decide)))
    rw [show (l ++ [h]).map PyData.int ++ [.int (h + (if c == 40 then 1 else -1))] = ((l ++ [h]) ++ [h + (if c == 40 then 1 else -1)]).map .int from by rw [List.map_append (l₁ := l ++ [h])]; rfl] at st
    refine (for_go (l0 := locH row start (l ++ [h]) (sv c)) rfl (ss_step st rfl)).trans (e.trans ?_)
    rw [List.append_assoc]; rfl
theorem itemsV_S {l : List Nat} (h : l.length ≤ 2 ^ 20) : itemsV (.str (S l)) = some (l.map fun c => .str ⟨#[c]⟩) := if_pos (by rw [S_len]; exact h)
theorem heights1_ev {F : Orc} {W : Nat} {row : List Nat} {start : Int} (hl : row.length ≤ 1000) : evFn F W m1_law_heights [.str (S row), .int start] = some (.list ((hts row start).map .int)) := by
  obtain ⟨v3, e⟩ := heights_loop (F := F) (W := W) (row := row) (start := start) row [] start none (by simp; omega)
  refine evFn_ret (loc := [some (.dat (.str (S row))), iv start, none, none]) (loc' := [some (.dat (.str (S row))), iv start, some (.dat (.list ((hts row start).map .int))), v3]) rfl rfl ?_
  exact ss_step (l' := locH row start [start] none) (own' rfl) (ss_step (l' := locH row start (hts row start) v3) (for' (evI_var (itemsV_S (Nat.le_trans hl (by decide)))) e) (ss_ret (ret_ev rfl rfl)))
end Mine

-- L1b
namespace Mine
open PySem PySem.Spec PySem.Calls PyProof.Rows PySem.W

theorem binV_addS {l m : List Nat} (h : l.length + m.length ≤ 2 ^ 20) : binV .Add (.str (S l)) (.str (S m)) = some (.str (S (l ++ m))) :=
  (if_pos (by rw [S_len, S_len]; exact le24 h)).trans (congrArg (fun x => some (PyData.str x)) (S_app l m))
theorem binV_mulS {c : Nat} {n : Int} (h1 : -(2 ^ 12) ≤ n) (h2 : n ≤ 2 ^ 12) : binV .Mult (.str (S [c])) (.int n) = some (.str (S (List.replicate n.toNat c))) :=
  (if_pos ⟨show 1 ≤ 2 ^ 12 by decide, h2, h1⟩).trans (congrArg (fun l => some (PyData.str (S l))) List.flatten_replicate_singleton)
noncomputable def hidL : List (List Nat) := [[], [92, 41], [34, 40, 34], [92, 92], [92, 34], [34], [34, 41, 34], [34, 92, 34, 41, 34]]
noncomputable def hidL' : List (List Nat) := [[], [92, 41], [], [92, 92], [92, 34], [34], [], []]
theorem hidL_hid {i : Nat} (h : i < 8) : Hid (hidL.getD i []) (hidL'.getD i []) := by
  match i, h with
  | 0, _ => exact .a
  | 1, _ => exact .b
  | 2, _ => exact .c
  | 3, _ => exact .d
  | 4, _ => exact .e
  | 5, _ => exact .f
  | 6, _ => exact .g
  | 7, _ => exact .h
  | i + 8, h => omega
noncomputable def slst (l : List (List Nat)) : List PyData := l.map fun t => PyData.str (S t)
theorem subV_slst {l : List (List Nat)} {k : Nat} (hl : l.length ≤ 2 ^ 20) (h : k < l.length) : subV (.list (slst l)) (.int (k : Int)) = some (.str (S (l.getD k []))) := by
  refine subV_L (by rw [slst, List.length_map]; exact hl) ?_
  rw [slst, List.getElem?_map, List.getElem?_eq_getElem h, List.getD_eq_getElem?_getD, List.getElem?_eq_getElem h]; rfl
theorem fmod_range {a b : Int} (hb : 0 < b) : 0 ≤ a.fmod b ∧ a.fmod b < b := by
  rw [Int.fmod_eq_emod_of_nonneg _ (by omega)]
  exact ⟨Int.emod_nonneg _ (by omega), Int.emod_lt_of_pos _ hb⟩
noncomputable def placeI (row : List Nat) (number code : Int) : Nat := ((number.fdiv 8 + code).fmod ((row.length : Int) + 1)).toNat
noncomputable def hidI (number code : Int) : Nat := ((number + code).fmod 8).toNat
theorem nat_mod {a b : Int} (hb : 0 < b) : ((a.fmod b).toNat : Int) = a.fmod b := Int.toNat_of_nonneg (fmod_range hb).1
theorem placeI_le (row : List Nat) (number code : Int) : (placeI row number code : Int) = (number.fdiv 8 + code).fmod ((row.length : Int) + 1) ∧ placeI row number code ≤ row.length := by
  have hb : (0 : Int) < (row.length : Int) + 1 := Int.lt_add_one_of_le (Int.natCast_nonneg _)
  have h1 : (placeI row number code : Int) = _ := nat_mod (a := number.fdiv 8 + code) hb
  exact ⟨h1, Int.ofNat_le.mp (h1 ▸ Int.le_of_lt_add_one (fmod_range hb).2)⟩
theorem hidI_lt (number code : Int) : (hidI number code : Int) = (number + code).fmod 8 ∧ hidI number code < 8 := by
  have h1 : (hidI number code : Int) = _ := nat_mod (a := number + code) (b := 8) (by decide)
  exact ⟨h1, Int.ofNat_lt.mp (h1 ▸ (fmod_range (by decide)).2)⟩
noncomputable def text1 (row : List Nat) (h0 la number code : Int) : List Nat :=
  txt [] (List.replicate h0.toNat 40 ++ row.take (placeI row number code)) (hidL.getD (hidI number code) []) (row.drop (placeI row number code) ++ List.replicate (if 0 > la then 0 else la).toNat 41)
theorem hidL_len (i : Nat) : (hidL.getD i []).length ≤ 5 := by
  by_cases h : i < 8
  · exact hid_len (hidL_hid h)
  · rw [List.getD_eq_getElem?_getD, List.getElem?_eq_none (by simp [hidL]; omega)]; simp
noncomputable def locT (row : List Nat) (hs : List Int) (number code : Int) (v5 v6 : Option MV) : Loc := [some (.dat (.str (S row))), some (.dat (.list (hs.map .int))), iv number, iv code, some (.own (slst hidL)), v5, v6]
theorem text1_ev {F : Orc} {W : Nat} {row : List Nat} {h0 la number code : Int} {hs init t : List Int} (hl : row.length ≤ 16) (e0 : hs = h0 :: t) (e1 : hs = init ++ [la]) (h1 : 0 ≤ h0) (h2 : h0 ≤ 100) (h3 : -100 ≤ la) (h4 : la ≤ 100) (h5 : hs.length ≤ 100) :
    evFn F W m1_law_text [.str (S row), .list (hs.map .int), .int number, .int code] = some (.str (S (text1 row h0 la number code))) := by
  obtain ⟨p1, p2⟩ := placeI_le row number code
  obtain ⟨q1, q2⟩ := hidI_lt number code
  have hil := hidL_len (hidI number code)
  unfold text1
  generalize placeI row number code = pl at *
  generalize hidI number code = hi at *
  have hr : row.length ≤ 2 ^ 20 := Nat.le_trans hl (by decide)
  have k0 : binV .FloorDiv (.int number) (.int 8) = some (.int (number.fdiv 8)) := fdiv_ev (by decide) (by decide)
  have k1 : binV .Mod (.int (number.fdiv 8 + code)) (.int ((row.length : Int) + 1)) = some (.int (pl : Int)) := by rw [p1]; exact mod_ev (Int.ne_of_gt (Int.lt_add_one_of_le (Int.natCast_nonneg _)))
  have k3 : binV .Mod (.int (number + code)) (.int 8) = some (.int (hi : Int)) := by rw [q1]; exact mod_ev (by decide)
  have k5 : subV (.list (hs.map .int)) (.int 0) = some (.int h0) :=
    subV_L (l := hs.map PyData.int) (k := 0) (d := .int h0) (by rw [List.length_map]; exact Nat.le_trans h5 (by decide)) (by rw [e0]; rfl)
  have k6 : subV (.list (hs.map .int)) (.int (-1)) = some (.int la) := by
    rw [e1, List.length_append] at h5
    rw [e1]; exact subV_last (Nat.le_trans (Nat.le_add_right ..) (Nat.le_trans h5 (by decide)))
  have k7 : sliceV (.str (S row)) .none (.int (pl : Int)) = some (.str (S (row.take pl))) := by
    rw [← slice_t p2]; exact if_pos (by rw [S_len]; exact le24 hr)
  have k9 : binV .Mult (.str ⟨#[40]⟩) (.int h0) = some (.str (S (List.replicate h0.toNat 40))) := binV_mulS (by omega) (by omega)
  have hu : 0 ≤ (if 0 > la then (0 : Int) else la) ∧ (if 0 > la then (0 : Int) else la) ≤ 100 := by split <;> omega
  generalize hg : (if 0 > la then (0 : Int) else la) = U at *
  have k10 : biV 3 [.int la, .int 0] = some (.int U) := congrArg (fun i => some (PyData.int i)) hg
  have k11 : binV .Mult (.str ⟨#[41]⟩) (.int U) = some (.str (S (List.replicate U.toNat 41))) := binV_mulS (by omega) (by omega)
  have k12 : U.toNat ≤ 100 := by omega
  obtain ⟨L1, d1⟩ : ∃ L, L = [34, 40, 34] ++ List.replicate h0.toNat 40 := ⟨_, rfl⟩
  obtain ⟨L2, d2⟩ : ∃ L, L = L1 ++ row.take pl := ⟨_, rfl⟩
  obtain ⟨L3, d3⟩ : ∃ L, L = L2 ++ hidL.getD hi [] := ⟨_, rfl⟩
  obtain ⟨L4, d4⟩ : ∃ L, L = L3 ++ row.drop pl := ⟨_, rfl⟩
  have n1 : L1.length ≤ 103 := by rw [d1]; simp only [List.length_append, List.length_replicate, List.length_cons, List.length_nil]; omega
  have n2 : L2.length ≤ 119 := by rw [d2]; simp only [List.length_append, List.length_take]; omega
  have n3 : L3.length ≤ 124 := by rw [d3]; simp only [List.length_append]; omega
  have n4 : L4.length ≤ 140 := by rw [d4]; simp only [List.length_append, List.length_drop]; omega
  have a1 : binV .Add (.str ⟨#[34, 40, 34]⟩) (.str (S (List.replicate h0.toNat 40))) = some (.str (S L1)) := by rw [d1]; exact binV_addS (by simp only [List.length_replicate, List.length_cons, List.length_nil]; omega)
  have a2 : binV .Add (.str (S L1)) (.str (S (row.take pl))) = some (.str (S L2)) := by rw [d2]; exact binV_addS (by rw [List.length_take]; omega)
  have a3 : binV .Add (.str (S L2)) (.str (S (hidL.getD hi []))) = some (.str (S L3)) := by rw [d3]; exact binV_addS (by omega)
  have a4 : binV .Add (.str (S L3)) (.str (S (row.drop pl))) = some (.str (S L4)) := by rw [d4]; exact binV_addS (by rw [List.length_drop]; omega)
  have a5 : binV .Add (.str (S L4)) (.str (S (List.replicate U.toNat 41))) = some (.str (S (L4 ++ List.replicate U.toNat 41))) := binV_addS (by rw [List.length_replicate]; omega)
  have fin : L4 ++ List.replicate U.toNat 41 = txt [] (List.replicate h0.toNat 40 ++ row.take pl) (hidL.getD hi []) (row.drop pl ++ List.replicate U.toNat 41) := by
    rw [d4, d3, d2, d1]; simp [txt]
  rw [fin] at a5
  refine evFn_ret (loc := [some (.dat (.str (S row))), some (.dat (.list (hs.map .int))), iv number, iv code, none, none, none]) (loc' := locT row hs number code (nv pl) (some (.dat (.str (S L3))))) rfl rfl ?_
  exact ss_step (l' := locT row hs number code none none) (own' rfl) (ss_step (l' := locT row hs number code (nv pl) none) (asg' (ev_bin (ev_bin (ev_bin rfl rfl k0) rfl rfl) (ev_bin (ev_bi (evs1 rfl) (biV_len hr)) rfl rfl) k1))
    (ss_step (l' := locT row hs number code (nv pl) (some (.dat (.str (S L3))))) (asg' (ev_bin (ev_bin (ev_bin rfl (ev_bin rfl (ev_subd rfl rfl k5) k9) a1) (ev_slice rfl rfl rfl k7) a2) (ev_subo rfl (ev_bin (ev_bin rfl rfl rfl) rfl k3) (subV_slst (l := hidL) (by decide) q2)) a3))
    (ss_ret (ret' (ev_bin (ev_bin rfl (ev_slice rfl rfl rfl (sl_f hr p2)) a4) (ev_bin rfl (ev_bi (evs2 (ev_subd rfl (ev_un rfl rfl) k6) rfl) k10) k11) a5)))))
end Mine

-- D2
namespace Mine
open PySem PySem.Spec PySem.Calls PyProof.Rows PySem.W

/-! ## the frame of a law: 31 places -/
structure Z where
  v0 : Option MV
  v1 : Option MV
  v2 : Option MV
  v3 : Option MV
  v4 : Option MV
  v5 : Option MV
  v6 : Option MV
  v7 : Option MV
  v8 : Option MV
  v9 : Option MV
  v10 : Option MV
  v11 : Option MV
  v12 : Option MV
  v13 : Option MV
  v14 : Option MV
  v15 : Option MV
  v16 : Option MV
  v17 : Option MV
  v18 : Option MV
  v19 : Option MV
  v20 : Option MV
  v21 : Option MV
  v22 : Option MV
  v23 : Option MV
  v24 : Option MV
  v25 : Option MV
  v26 : Option MV
  v27 : Option MV
  v28 : Option MV
  v29 : Option MV
  v30 : Option MV
noncomputable def Z.loc (z : Z) : Loc := [z.v0, z.v1, z.v2, z.v3, z.v4, z.v5, z.v6, z.v7, z.v8, z.v9, z.v10, z.v11, z.v12, z.v13, z.v14, z.v15, z.v16, z.v17, z.v18, z.v19, z.v20, z.v21, z.v22, z.v23, z.v24, z.v25, z.v26, z.v27, z.v28, z.v29, z.v30]
noncomputable def flt : Option MV → Option MV
  | some (.own _) => none
  | o => o
noncomputable def ZC (z : Z) (x : PyData) : Loc := [flt z.v0, flt z.v1, flt z.v2, flt z.v3, flt z.v4, flt z.v5, flt z.v6, flt z.v7, flt z.v8, flt z.v9, flt z.v10, flt z.v11, flt z.v12, flt z.v13, flt z.v14, flt z.v15, flt z.v16, flt z.v17, flt z.v18, flt z.v19, flt z.v20, flt z.v21, flt z.v22, flt z.v23, flt z.v24, flt z.v25, flt z.v26, flt z.v27, flt z.v28, flt z.v29, flt z.v30, some (.dat x)]
theorem bindZ {z : Z} {x : PyData} : bindT (inLoc 31 1 z.loc) (.one 31) x = some (ZC z x) := rfl
theorem flt_dat {d : PyData} : flt (some (.dat d)) = some (.dat d) := rfl
theorem flt_rng {a b : Int} : flt (some (.rng a b)) = some (.rng a b) := rfl
theorem compZ {F : Orc} {z : Z} {elt : ME} {it : MI} {xs : List PyData} {g : PyData → PyData} (hi : evI F z.loc it = some xs) (h : ∀ x ∈ xs, evE F (ZC z x) elt = some (g x)) (hl : xs.length ≤ 2 ^ 20) :
    evE F z.loc (.comp 31 1 elt (.one 31) it) = some (.list (xs.map g)) :=
  comp_ev hi (fun x hx => by rw [bindZ, Option.bind_some]; exact h x hx) hl

/-! equal lists -/
theorem eqv_ints : ∀ (l : List Int), PyData.eqvAll (l.map .int) (l.map .int) = true
  | [] => rfl
  | i :: r => Bool.and_eq_true_iff.mpr ⟨beq_self_eq_true i, eqv_ints r⟩
theorem eqv_strs : ∀ (l : List (List Nat)), PyData.eqvAll (slst l) (slst l) = true
  | [] => rfl
  | i :: r => Bool.and_eq_true_iff.mpr ⟨beq_self_eq_true (S i), eqv_strs r⟩
theorem canLay_ints : ∀ (l : List Int), PyData.canLayAll0 (l.map .int) = true
  | [] => rfl
  | i :: r => Bool.and_eq_true_iff.mpr ⟨rfl, canLay_ints r⟩
noncomputable def asc (l : List Nat) : Prop := ∀ c ∈ l, c < 128
theorem canLay_strs : ∀ (l : List (List Nat)), (∀ t ∈ l, asc t) → PyData.canLayAll0 (slst l) = true
  | [], _ => rfl
  | t :: r, h => by
    have h1 : PyData.strOk (S t) = true := by
      unfold PyData.strOk
      rw [← Array.all_toList, List.all_eq_true]
      intro c hc
      have := h t (.head _) c (by simpa using hc)
      exact decide_eq_true (by omega)
    exact Bool.and_eq_true_iff.mpr ⟨h1, canLay_strs r fun t ht => h t (.tail _ ht)⟩
theorem depth_ints : ∀ (l : List Int), PyData.depthAll (l.map .int) = 0
  | [] => rfl
  | i :: r => by show Nat.max 0 _ = 0; rw [show PyData.depthAll (r.map .int) = 0 from depth_ints r]; rfl
theorem depth_strs : ∀ (l : List (List Nat)), PyData.depthAll (slst l) = 0
  | [] => rfl
  | i :: r => by show Nat.max 0 (PyData.depthAll (slst r)) = 0; rw [depth_strs r]; rfl
theorem okEq_of {l : List PyData} (h1 : PyData.canLayAll0 l = true) (h2 : PyData.depthAll l = 0) : okEq (.list l) = true := by
  unfold okEq
  simp only [PyData.canLay0, PyData.depth, h1, h2]; rfl
theorem okEq_ints (l : List Int) : okEq (.list (l.map .int)) = true := okEq_of (canLay_ints l) (depth_ints l)
theorem okEq_strs (l : List (List Nat)) (h : ∀ t ∈ l, asc t) : okEq (.list (slst l)) = true := okEq_of (canLay_strs l h) (depth_strs l)
theorem ne_same {l : List PyData} (h1 : okEq (.list l) = true) (h2 : PyData.eqvAll l l = true) : cmpV .NotEq (.list l) (.list l) = some false :=
  mapV (f := (!·)) (v := true) ((if_pos (by rw [h1]; rfl)).trans (congrArg some h2))
theorem ne_ints (l : List Int) : cmpV .NotEq (.list (l.map .int)) (.list (l.map .int)) = some false := ne_same (okEq_ints l) (eqv_ints l)
theorem ne_strs (l : List (List Nat)) (h : ∀ t ∈ l, asc t) : cmpV .NotEq (.list (slst l)) (.list (slst l)) = some false := ne_same (okEq_strs l h) (eqv_strs l)
theorem asc_txt {p u h h' v : List Nat} (hp : Par p) (hu : Par u) (hv : Par v) (H : Hid h h') : asc (txt p u h v) := txt_lt hp hu hv H
theorem asc_bad : asc badT := by unfold asc badT; decide

/-! what is kept of the texts -/
noncomputable def gP (t : List Nat) : List Nat := match O2 2 [.str (S t)] with
  | some (.bool true) => t
  | _ => badT
theorem gP_txt {p u h h' v : List Nat} (hp : Par p) (hu : Par u) (hv : Par v) (H : Hid h h') (hl : (txt p u h v).length ≤ 2 ^ 16) : gP (txt p u h v) = if bal (p ++ u ++ v) then txt p u h v else badT := by
  unfold gP
  rw [O2_val hp hu hv H hl]
  cases bal (p ++ u ++ v) <;> rfl
noncomputable def IsTxt (t : List Nat) : Prop := ∃ p u h h' v, Par p ∧ Par u ∧ Par v ∧ Hid h h' ∧ (txt p u h v).length ≤ 2 ^ 16 ∧ t = txt p u h v
theorem O3_strs {ts : List (List Nat)} (h : ∀ t ∈ ts, IsTxt t) (hl : ts.length ≤ 2 ^ 16) : O3 3 [.list (slst ts)] = some (.list (slst (ts.map gP))) := by
  refine O3_val (g := gP) (fun t ht => ?_) hl
  obtain ⟨p, u, h, h', v, h1, h2, h3, h4, h5, rfl⟩ := h t ht
  exact ⟨p, u, h, h', v, h1, h2, h3, h4, h5, rfl, gP_txt h1 h2 h3 h4 h5⟩
theorem asc_gP {t : List Nat} (h : IsTxt t) : asc (gP t) := by
  obtain ⟨p, u, h, h', v, h1, h2, h3, h4, h5, rfl⟩ := h
  rw [gP_txt h1 h2 h3 h4 h5]
  split
  · exact asc_txt h1 h2 h3 h4
  · exact asc_bad
theorem asc_IsTxt {t : List Nat} (h : IsTxt t) : asc t := by
  obtain ⟨p, u, h, h', v, h1, h2, h3, h4, h5, rfl⟩ := h
  exact asc_txt h1 h2 h3 h4
/-- a text begins with a mark, or with an opening bracket and a mark -/
theorem txt_ne_bad (p u h v : List Nat) (hp : p = []) : txt p u h v ≠ badT := by
  subst hp
  intro e
  simp [txt, badT] at e
end Mine

-- L1c
namespace Mine
open PySem PySem.Spec PySem.Calls PyProof.Rows PySem.W

/-! ## plain values of law 01 -/
noncomputable def rowOf (st code : Nat) : List Nat := (List.range st).map fun k => if code / 2 ^ k % 2 == 1 then 40 else 41
noncomputable def minI (l : List Int) : Int := bestI (fun a b => decide (a < b)) l
noncomputable def maxI (l : List Int) : Int := bestI (fun a b => decide (a > b)) l
noncomputable def lastI (l : List Int) : Int := l.getLastD 0
noncomputable def hs1 (st sa code : Nat) : List Int := hts (rowOf st code) sa
noncomputable def ups (k : Int) : Nat := (if 0 > k then 0 else k).toNat
noncomputable def parB (l : List Nat) : Bool := l.all fun c => c == 40 || c == 41
noncomputable def whole (st sa code : Nat) : List Nat := List.replicate sa 40 ++ rowOf st code ++ List.replicate (ups (lastI (hs1 st sa code))) 41
noncomputable def keepB (st sa code : Nat) : Bool := bal (whole st sa code)
noncomputable def tab1 (st sa code : Nat) : Bool := parB (rowOf st code) && decide ((rowOf st code).length = st) && decide (-100 ≤ lastI (hs1 st sa code)) && decide (lastI (hs1 st sa code) ≤ 100) && (keepB st sa code == decide (minI (hs1 st sa code) ≥ 0)) &&
  (code != 5 || (!bal (40 :: whole st sa code) && !bal (40 :: 40 :: whole st sa code)))
noncomputable def ramp (st : Nat) : List Nat := List.replicate st 40 ++ List.replicate st 41
noncomputable def cnt41 (l : List Nat) : Int := ((l.filter (· == 41)).length : Nat)
noncomputable def lack1 (st code : Nat) : Int := 2 * st - cnt41 (rowOf st code)
noncomputable def due1 (st sa code : Nat) : Int := 2 * ((lack1 st code + sa) - maxI (hs1 st sa code))
noncomputable def tab2 (st sa code : Nat) : Bool := if code % 2 == 0 then levP (rowOf st code) (ramp st) (due1 st sa code - 0) == due1 st sa code && levP (rowOf st code) (ramp st) (due1 st sa code - 1) == due1 st sa code
  else levP (ramp st) (rowOf st code) (due1 st sa code - 1 + 0) == due1 st sa code && levP (ramp st) (rowOf st code) (due1 st sa code - 1 + 1) == due1 st sa code
noncomputable def allOf (p : Nat → Nat → Nat → Bool) (st : Nat) : Bool := (List.range 5).all fun sa => (List.range (2 ^ st)).all fun code => p st sa code
theorem allOf_get {p : Nat → Nat → Nat → Bool} {st : Nat} (h : allOf p st = true) {sa code : Nat} (h1 : sa < 5) (h2 : code < 2 ^ st) : p st sa code = true :=
  List.all_eq_true.mp (List.all_eq_true.mp h sa (List.mem_range.mpr h1)) code (List.mem_range.mpr h2)
theorem tab1_3 : allOf tab1 3 = true := by decide +kernel
theorem tab1_4 : allOf tab1 4 = true := by decide +kernel
theorem tab2_3 : allOf tab2 3 = true := by decide +kernel
theorem tab2_4 : allOf tab2 4 = true := by decide +kernel
/-! near -/
noncomputable def nearO : Orc := orcF 15 levO 0 m1_law_near
theorem near_3 : nearO 15 [.str (S (rowOf 3 5))] = some (.list (([4, 4, 4, 2, 6, 4, 2] : List Int).map .int)) := eqO_sound (by decide +kernel)
theorem near_4 : nearO 15 [.str (S (rowOf 4 5))] = some (.list (([4, 4, 4, 2, 8, 6, 2] : List Int).map .int)) := eqO_sound (by decide +kernel)
/-! the counts -/
noncomputable def step1 (st sa ce : Nat) (cs : List Int) (code : Nat) : List Int :=
  if keepB st sa code && decide ((sa : Int) + lack1 st code - (due1 st sa code).fdiv 2 ≤ ce) then cs.set (lastI (hs1 st sa code)).toNat (cs.getD (lastI (hs1 st sa code)).toNat 0 + 1) else cs
noncomputable def counts1 (st sa ce : Nat) : List Int := (List.range (2 ^ st)).foldl (step1 st sa ce) (List.replicate (ce + 1) 0)
noncomputable def binom (st : Nat) : List Nat := if st == 3 then [1, 3, 3, 1] else [1, 4, 6, 4, 1]
/-- the coefficients, folded -/
noncomputable def fold1 (st size : Nat) : List Nat := (List.range size).map fun i => ((List.range 5).map fun j => if j % size == i then (binom st).getD j 0 else 0).sum
noncomputable def end1 (st sa ce : Nat) : Bool := (List.range (ce + 1)).all fun h =>
  ((st : Int) + h - sa).fmod 2 != 0 || (counts1 st sa ce).getD h 0 == (((fold1 st (ce + 2)).getD ((((st : Int) + h - sa).fdiv 2).fmod (ce + 2 : Nat)).toNat 0 : Nat) : Int) - (((fold1 st (ce + 2)).getD (((((st : Int) + h + sa).fdiv 2) + 1).fmod (ce + 2 : Nat)).toNat 0 : Nat) : Int)
noncomputable def endAll (st : Nat) : Bool := (List.range 4).all fun c => (List.range (c + 2)).all fun sa => end1 st sa (c + 1)
theorem end_3 : endAll 3 = true := by decide +kernel
theorem end_4 : endAll 4 = true := by decide +kernel
end Mine

-- L1d
namespace Mine
open PySem PySem.Spec PySem.Calls PyProof.Rows PySem.W

theorem if_false_ev {F : Orc} {W : Nat} {e : ME} {a : List MS} {l l0 : Loc} (hl : frz (fv e) l = l0) (he : evE F l0 e = some (.bool false)) : evS F W (.ite e a []) l = some (.next, l0) :=
  ite_f0 hl (evT_of he rfl rfl)

structure F1 (F : Orc) : Prop where
  h12 : ∀ ns : List Int, ns.length ≤ 63 → F 12 [.list (ns.map .int)] = some (.list ((dr [0, 1, 1, 2, 4, 3] ns).map .int))
  h13 : ∀ (row : List Nat) (s : Int), row.length ≤ 16 → F 13 [.str (S row), .int s] = some (.list ((hts row s).map .int))
  h14 : ∀ (row : List Nat) (h0 la number code : Int) (hs init t : List Int), row.length ≤ 16 → hs = h0 :: t → hs = init ++ [la] → 0 ≤ h0 → h0 ≤ 100 → -100 ≤ la → la ≤ 100 → hs.length ≤ 100 →
    F 14 [.str (S row), .list (hs.map .int), .int number, .int code] = some (.str (S (text1 row h0 la number code)))
  h3 : ∀ ts : List (List Nat), (∀ t ∈ ts, IsTxt t) → ts.length ≤ 2 ^ 16 → F 3 [.list (slst ts)] = some (.list (slst (ts.map gP)))
  h15 : ∀ st : Nat, st = 3 ∨ st = 4 → F 15 [.str (S (rowOf st 5))] = some (.list (([4, 4, 4, 2, 2 * st, 2 * st - 2, 2] : List Int).map .int))
  h11 : ∀ (a b : List Nat) (c : Int), sgn a = true → sgn b = true → a.length ≤ 16 → b.length ≤ 16 → F 11 [.str (S a), .str (S b), .int c] = some (.int (levP a b c))
  h6 : ∀ a n : Nat, 1 ≤ n → n ≤ 9000 → (bits (a : Int) + n - 1) / n ≤ 4096 → F 6 [.int (a : Int), .int (n : Int)] = some (.list (pl (digs n ((bits (a : Int) + n - 1) / n) a)))
  h7 : ∀ (n : Nat) (ds : List Nat), n ≤ 9000 → ds.length ≤ 4096 → (∀ d ∈ ds, d < 2 ^ n) → F 7 [.list (pl ds), .int (n : Int)] = some (.int ((undigs n ds : Nat) : Int))
  h9 : ∀ a b : Int, b ≠ 0 → Dv a b → F 9 [.int a, .int b] = some (dm a b)

/-- what a script draws -/
structure Dr1 (ns : List Int) (st ce sa : Nat) : Prop where
  len : ns.length ≤ 63
  est : (st : Int) = 3 + ((dr [0, 1, 1, 2, 4, 3] ns).getD 0 0).fmod 2
  ece : (ce : Int) = 1 + ((dr [0, 1, 1, 2, 4, 3] ns).getD 1 0).fmod 4
  esa : (sa : Int) = ((dr [0, 1, 1, 2, 4, 3] ns).getD 2 0).fmod (ce + 1)
theorem Dr1.st34 {ns : List Int} {st ce sa : Nat} (D : Dr1 ns st ce sa) : st = 3 ∨ st = 4 := by
  have := fmod_range (a := (dr [0, 1, 1, 2, 4, 3] ns).getD 0 0) (b := 2) (by decide)
  have := D.est; omega
theorem Dr1.ce14 {ns : List Int} {st ce sa : Nat} (D : Dr1 ns st ce sa) : 1 ≤ ce ∧ ce ≤ 4 := by
  have := fmod_range (a := (dr [0, 1, 1, 2, 4, 3] ns).getD 1 0) (b := 4) (by decide)
  have := D.ece; omega
theorem Dr1.sa_le {ns : List Int} {st ce sa : Nat} (D : Dr1 ns st ce sa) : sa ≤ ce := by
  have := fmod_range (a := (dr [0, 1, 1, 2, 4, 3] ns).getD 2 0) (b := (ce : Int) + 1) (by omega)
  have := D.esa; omega
theorem Dr1.ex {ns : List Int} (h : ns.length ≤ 63) : ∃ st ce sa, Dr1 ns st ce sa := by
  have h1 := fmod_range (a := (dr [0, 1, 1, 2, 4, 3] ns).getD 0 0) (b := 2) (by decide)
  have h2 := fmod_range (a := (dr [0, 1, 1, 2, 4, 3] ns).getD 1 0) (b := 4) (by decide)
  have h3 := fmod_range (a := (dr [0, 1, 1, 2, 4, 3] ns).getD 2 0) (b := 1 + ((dr [0, 1, 1, 2, 4, 3] ns).getD 1 0).fmod 4 + 1) (by omega)
  refine ⟨(3 + ((dr [0, 1, 1, 2, 4, 3] ns).getD 0 0).fmod 2).toNat, (1 + ((dr [0, 1, 1, 2, 4, 3] ns).getD 1 0).fmod 4).toNat, (((dr [0, 1, 1, 2, 4, 3] ns).getD 2 0).fmod (1 + ((dr [0, 1, 1, 2, 4, 3] ns).getD 1 0).fmod 4 + 1)).toNat, h, by omega, by omega, ?_⟩
  rw [Int.toNat_of_nonneg h3.1, Int.toNat_of_nonneg (by omega)]

noncomputable def Z0 : Z := ⟨none, none, none, none, none, none, none, none, none, none, none, none, none, none, none, none, none, none, none, none, none, none, none, none, none, none, none, none, none, none, none⟩
noncomputable abbrev dv (d : PyData) : Option MV := some (.dat d)
noncomputable abbrev ov (l : List PyData) : Option MV := some (.own l)
noncomputable def z0 (ns : List Int) : Z := { Z0 with v0 := dv (.list (ns.map .int)) }
noncomputable def zA (ns : List Int) (st ce sa : Nat) : Z := { z0 ns with v1 := dv (.list ((dr [0, 1, 1, 2, 4, 3] ns).map .int)), v2 := iv ns.sum, v3 := nv st, v4 := nv ce, v5 := nv sa, v6 := some (.rng 0 ((2 ^ st : Nat) : Int)) }

theorem dr_len {own ns : List Int} : (dr own ns).length = 6 := (List.length_map ..).trans List.length_range
theorem subV_dr {own ns : List Int} {k : Nat} (h : k < 6) : subV (.list ((dr own ns).map .int)) (.int (k : Int)) = some (.int ((dr own ns).getD k 0)) := subV_int (by rw [dr_len]; decide) (by rw [dr_len]; exact h)
theorem sum_ev {ns : List Int} : biV 1 [.list (ns.map .int)] = some (.int ns.sum) := by
  show (ints? (ns.map .int)).bind _ = _
  rw [ints?_map]; rfl
theorem pow_st {st : Nat} (h : st = 3 ∨ st = 4) : binV .Pow (.int 2) (.int (st : Int)) = some (.int ((2 ^ st : Nat) : Int)) := by
  rcases h with rfl | rfl <;> rfl
section
variable {F : Orc} {W : Nat} {ns : List Int} {st ce sa : Nat}
theorem st_0_5 (H : F1 F) (D : Dr1 ns st ce sa) {r : List MS} {X : Option (MF × Loc)} (h : evSs F W r (zA ns st ce sa).loc = X) :
    evSs F W (s1_law_0 :: s1_law_1 :: s1_law_2 :: s1_law_3 :: s1_law_4 :: s1_law_5 :: r) (z0 ns).loc = X := by
  have h12 := H.h12 ns D.len
  have d0 := subV_dr (own := [0, 1, 1, 2, 4, 3]) (ns := ns) (k := 0) (by decide)
  have d1 := subV_dr (own := [0, 1, 1, 2, 4, 3]) (ns := ns) (k := 1) (by decide)
  have d2 := subV_dr (own := [0, 1, 1, 2, 4, 3]) (ns := ns) (k := 2) (by decide)
  rw [show ((0 : Nat) : Int) = 0 from rfl] at d0
  rw [show ((1 : Nat) : Int) = 1 from rfl] at d1
  rw [show ((2 : Nat) : Int) = 2 from rfl] at d2
  have e3 := D.est
  have e4 := D.ece
  have e5 := D.esa
  have p := pow_st D.st34
  have hr := rangeV_nat (n := 2 ^ st) (by rcases D.st34 with rfl | rfl <;> decide)
  have hce : (ce : Int) + 1 ≠ 0 := by omega
  exact ss_step (l' := ({ z0 ns with v1 := dv (.list ((dr [0, 1, 1, 2, 4, 3] ns).map .int)) } : Z).loc) (asg' (ev_call (evs1 rfl) h12)) (ss_step (l' := ({ z0 ns with v1 := dv (.list ((dr [0, 1, 1, 2, 4, 3] ns).map .int)), v2 := iv ns.sum } : Z).loc) (asg' (ev_bi (evs1 rfl) sum_ev))
    (ss_step (l' := ({ z0 ns with v1 := dv (.list ((dr [0, 1, 1, 2, 4, 3] ns).map .int)), v2 := iv ns.sum, v3 := nv st } : Z).loc) (asg' (e3 ▸ ev_bin rfl (ev_bin (ev_subd rfl rfl d0) rfl (mod_ev (by decide))) rfl))
    (ss_step (l' := ({ z0 ns with v1 := dv (.list ((dr [0, 1, 1, 2, 4, 3] ns).map .int)), v2 := iv ns.sum, v3 := nv st, v4 := nv ce } : Z).loc) (asg' (e4 ▸ ev_bin rfl (ev_bin (ev_subd rfl rfl d1) rfl (mod_ev (by decide))) rfl))
    (ss_step (l' := ({ z0 ns with v1 := dv (.list ((dr [0, 1, 1, 2, 4, 3] ns).map .int)), v2 := iv ns.sum, v3 := nv st, v4 := nv ce, v5 := nv sa } : Z).loc) (asg' (e5 ▸ ev_bin (ev_subd rfl rfl d2) (ev_bin rfl rfl rfl) (mod_ev hce)))
    (ss_step (bindV (evs1 (ev_bin rfl rfl p)) (mapV hr)) h)))))
end
end Mine

-- L1e
namespace Mine
open PySem PySem.Spec PySem.Calls PyProof.Rows PySem.W

/-! lists made from a list of places -/
section
variable {F : Orc} {l : Loc} {γ : Type} {ks : List γ} {p g : γ → PyData} {elt : ME} {it : MI}
theorem ev_var {i : Nat} {d : PyData} (h : l[i]? = some (some (.dat d))) : evE F l (.var i) = some d := MV.at_of h rfl
theorem evI_rngv {i n : Nat} (h : l[i]? = some (some (.rng 0 (n : Int)))) : evI F l (.var i) = some (ilist 0 n) := (MV.at_of h rfl).trans (congrArg some rangeL_nat)
theorem mapMO_of {f : PyData → Option PyData} : ∀ {ks : List γ}, (∀ k ∈ ks, f (p k) = some (g k)) → mapMO f (ks.map p) = some (ks.map g)
  | [], _ => rfl
  | k :: r, h => bindV (h k (.head _)) (mapV (mapMO_of fun y hy => h y (.tail _ hy)))
theorem comp_of {nx n : Nat} {t : Tg} (hi : evI F l it = some (ks.map p)) (h : ∀ k ∈ ks, ((bindT (inLoc nx n l) t (p k)).bind fun l => evE F l elt) = some (g k)) (hl : ks.length ≤ 2 ^ 20) :
    evE F l (.comp nx n elt t it) = some (.list (ks.map g)) := bindV hi (bindV (mapMO_of h) (if_pos (by rw [List.length_map]; exact hl)))
theorem compK {z : Z} (hi : evI F z.loc it = some (ks.map p)) (h : ∀ k ∈ ks, evE F (ZC z (p k)) elt = some (g k)) (hl : ks.length ≤ 2 ^ 20) :
    evE F z.loc (.comp 31 1 elt (.one 31) it) = some (.list (ks.map g)) := comp_of hi (fun k hk => bindV bindZ (h k hk)) hl
theorem ilist_range {n : Nat} : ilist 0 n = (List.range n).map fun (k : Nat) => .int (k : Int) := by
  unfold ilist; rw [← List.range_eq_range']
theorem compR {z : Z} {n : Nat} {g : Nat → PyData} (hi : evI F z.loc it = some (ilist 0 n)) (h : ∀ c : Nat, c < n → evE F (ZC z (.int (c : Int))) elt = some (g c)) (hl : n ≤ 2 ^ 20) :
    evE F z.loc (.comp 31 1 elt (.one 31) it) = some (.list ((List.range n).map g)) :=
  compK (hi.trans (congrArg some ilist_range)) (fun c hc => h c (List.mem_range.mp hc)) (by rw [List.length_range]; exact hl)
theorem compS {z : Z} {n : Nat} {f : Nat → List Nat} (hi : evI F z.loc it = some (ilist 0 n)) (h : ∀ c : Nat, c < n → evE F (ZC z (.int (c : Int))) elt = some (.str (S (f c)))) (hl : n ≤ 2 ^ 20) :
    evE F z.loc (.comp 31 1 elt (.one 31) it) = some (.list (slst ((List.range n).map f))) := (compR hi h hl).trans (by rw [slst, List.map_map]; rfl)
end

section
variable {F : Orc} {W : Nat} {ns : List Int} {st ce sa : Nat}
noncomputable def rows1 (st : Nat) : List (List Nat) := (List.range (2 ^ st)).map (rowOf st)
noncomputable def climbs1 (st sa : Nat) : List PyData := (List.range (2 ^ st)).map fun c => .list ((hs1 st sa c).map .int)
noncomputable def text1P (st sa : Nat) (num : Int) (c : Nat) : List Nat := text1 (rowOf st c) sa (lastI (hs1 st sa c)) num c
noncomputable def texts1 (st sa : Nat) (num : Int) : List (List Nat) := (List.range (2 ^ st)).map (text1P st sa num)
noncomputable def num1 (ns : List Int) : Int := (dr [0, 1, 1, 2, 4, 3] ns).getD 3 0
theorem two_st (h : st = 3 ∨ st = 4) : 2 ^ st ≤ 16 ∧ 8 ≤ 2 ^ st := by rcases h with rfl | rfl <;> decide
theorem Dr1.st16 (D : Dr1 ns st ce sa) : st ≤ 16 := by have := D.st34; omega
theorem Dr1.sa5 (D : Dr1 ns st ce sa) : sa < 5 := Nat.lt_succ_of_le (Nat.le_trans D.sa_le D.ce14.2)
theorem Dr1.ce5 (D : Dr1 ns st ce sa) : ce < 5 := Nat.lt_succ_of_le D.ce14.2
theorem Dr1.p20 (D : Dr1 ns st ce sa) : 2 ^ st ≤ 2 ^ 20 := le20 (two_st D.st34).1
theorem Dr1.five (D : Dr1 ns st ce sa) : 5 < 2 ^ st := Nat.lt_of_lt_of_le (by decide) (two_st D.st34).2

theorem bit_elt {loc : Loc} {code k : Nat} (h31 : loc[31]? = some (nv code)) (h32 : loc[32]? = some (nv k)) :
    evE F loc (.ite (.bin .BitAnd (.bin .RShift (.var 31) (.var 32)) (.lit (.int 1))) (.lit (.str ⟨#[40]⟩)) (.lit (.str ⟨#[41]⟩))) = some (.str (S [if code / 2 ^ k % 2 == 1 then 40 else 41])) := by
  have hc : evE F loc (.bin .BitAnd (.bin .RShift (.var 31) (.var 32)) (.lit (.int 1))) = some (.int ((code / 2 ^ k % 2 : Nat) : Int)) := ev_bin (ev_bin (ev_var h31) (ev_var h32) binV_shr) rfl (binV_mask (k := 1))
  rcases Nat.mod_two_eq_zero_or_one (code / 2 ^ k) with e | e
  · rw [e] at hc ⊢; exact ev_ite_f hc rfl rfl rfl
  · rw [e] at hc ⊢; exact ev_ite_t hc rfl rfl rfl

theorem flat_single {f : Nat → Nat} : ∀ (l : List Nat), (l.map fun k => [f k]).flatten = l.map f
  | [] => rfl
  | x :: r => congrArg (f x :: ·) (flat_single r)
theorem rowOf_len (st c : Nat) : (rowOf st c).length = st := (List.length_map ..).trans List.length_range

theorem row_elt {z : Z} {code : Nat} (h3 : z.v3 = nv st) (hst : st ≤ 16) : evE F (ZC z (.int (code : Int))) (.meth 3 (.lit (.str ⟨#[]⟩)) [(.comp 32 1 (.ite (.bin .BitAnd (.bin .RShift (.var 31) (.var 32)) (.lit (.int 1))) (.lit (.str ⟨#[40]⟩)) (.lit (.str ⟨#[41]⟩))) (.one 32) (.rng [(.var 3)]))]) = some (.str (S (rowOf st code))) := by
  have hi : evI F (ZC z (.int (code : Int))) (.rng [(.var 3)]) = some (ilist 0 st) := evI_rngN (ev_var (congrArg (fun o => some (flt o)) h3)) (le20 hst)
  have hj := join_S (res := (List.range st).map fun k => [if code / 2 ^ k % 2 == 1 then 40 else 41]) (by rw [flat_single]; exact (rowOf_len st code).symm ▸ le20 hst)
  rw [flat_single, List.map_map] at hj
  exact ev_meth rfl (evs1 (comp_of (hi.trans (congrArg some ilist_range)) (fun k _ => bindV rfl (bit_elt rfl rfl)) (by rw [List.length_range]; exact le20 hst))) hj

noncomputable def zR (ns : List Int) (st ce sa : Nat) : Z := { zA ns st ce sa with v8 := ov (slst (rows1 st)) }
noncomputable def zR' (ns : List Int) (st ce sa : Nat) : Z := { zA ns st ce sa with v8 := dv (.list (slst (rows1 st))) }
theorem rows_st (D : Dr1 ns st ce sa) : evS F W s1_law_6 (zA ns st ce sa).loc = some (.next, (zR ns st ce sa).loc) :=
  own_ev rfl (compS (z := zA ns st ce sa) (evI_rngv rfl) (fun c _ => row_elt rfl D.st16) D.p20)

theorem tabs1 (D : Dr1 ns st ce sa) {c : Nat} (hc : c < 2 ^ st) : tab1 st sa c = true := by
  rcases D.st34 with rfl | rfl
  · exact allOf_get tab1_3 D.sa5 hc
  · exact allOf_get tab1_4 D.sa5 hc
theorem tabs2 (D : Dr1 ns st ce sa) {c : Nat} (hc : c < 2 ^ st) : tab2 st sa c = true := by
  rcases D.st34 with rfl | rfl
  · exact allOf_get tab2_3 D.sa5 hc
  · exact allOf_get tab2_4 D.sa5 hc
theorem rowOf_par (st c : Nat) : Par (rowOf st c) := fun x hx => by
  obtain ⟨k, _, rfl⟩ := List.mem_map.mp hx
  cases (c / 2 ^ k % 2 == 1)
  · exact .inr rfl
  · exact .inl rfl
theorem hgo_len : ∀ (l : List Nat) (h : Int), (hgo l h).length = l.length
  | [], _ => rfl
  | _ :: r, h => congrArg (· + 1) (hgo_len r _)
theorem hs1_len (st sa c : Nat) : (hs1 st sa c).length = st + 1 := congrArg (· + 1) ((hgo_len _ _).trans (rowOf_len st c))

theorem rows1_get {c : Nat} (h : c < 2 ^ st) : (rows1 st).getD c [] = rowOf st c := by
  unfold rows1
  rw [List.getD_eq_getElem?_getD, List.getElem?_map, List.getElem?_range h]; rfl
theorem rows1_len : (rows1 st).length = 2 ^ st := (List.length_map ..).trans List.length_range
theorem slst_len (l : List (List Nat)) : (slst l).length = l.length := List.length_map ..
noncomputable def zC (ns : List Int) (st ce sa : Nat) : Z := { zA ns st ce sa with v8 := dv (.list (slst (rows1 st))), v9 := ov (climbs1 st sa) }
theorem climbs_st (H : F1 F) (D : Dr1 ns st ce sa) : evS F W s1_law_7 (zR ns st ce sa).loc = some (.next, (zC ns st ce sa).loc) := by
  have hl : (rows1 st).length ≤ 2 ^ 20 := by rw [rows1_len]; exact D.p20
  have hi : evI F (zR' ns st ce sa).loc (.var 8) = some ((List.range (2 ^ st)).map fun c => .str (S (rowOf st c))) := evI_var ((items_list ((slst_len _).symm ▸ hl)).trans (by rw [slst, rows1, List.map_map]; rfl))
  exact own_ev (l0 := (zR' ns st ce sa).loc) rfl (compK hi (fun c _ => ev_call (evs2 rfl rfl) (H.h13 _ _ ((rowOf_len st c).symm ▸ D.st16))) (by rw [List.length_range]; exact D.p20))

theorem hs1_ne (st sa c : Nat) : hs1 st sa c ≠ [] := List.cons_ne_nil _ _
theorem hs1_split (st sa c : Nat) : hs1 st sa c = (hs1 st sa c).dropLast ++ [lastI (hs1 st sa c)] :=
  (List.dropLast_concat_getLast (hs1_ne st sa c)).symm.trans (congrArg (fun x => (hs1 st sa c).dropLast ++ [x]) rfl)
noncomputable def zC' (ns : List Int) (st ce sa : Nat) : Z := { zA ns st ce sa with v8 := dv (.list (slst (rows1 st))), v9 := dv (.list (climbs1 st sa)) }
noncomputable def zT (ns : List Int) (st ce sa : Nat) : Z := { zC' ns st ce sa with v10 := ov (slst (texts1 st sa (num1 ns))) }

theorem tab1_of (D : Dr1 ns st ce sa) {c : Nat} (hc : c < 2 ^ st) : -100 ≤ lastI (hs1 st sa c) ∧ lastI (hs1 st sa c) ≤ 100 ∧ keepB st sa c = decide (minI (hs1 st sa c) ≥ 0) ∧ (c = 5 → bal (40 :: whole st sa c) = false ∧ bal (40 :: 40 :: whole st sa c) = false) := by
  obtain ⟨h, h4⟩ := Bool.and_eq_true_iff.mp (tabs1 D hc)
  obtain ⟨h, h3⟩ := Bool.and_eq_true_iff.mp h
  obtain ⟨h, h2⟩ := Bool.and_eq_true_iff.mp h
  refine ⟨of_decide_eq_true (Bool.and_eq_true_iff.mp h).2, of_decide_eq_true h2, eq_of_beq h3, fun e => ?_⟩
  subst e
  obtain ⟨a, b⟩ := Bool.and_eq_true_iff.mp h4
  exact ⟨(Bool.not_eq_true' _).mp a, (Bool.not_eq_true' _).mp b⟩
theorem climb_get {c : Nat} (hp : 2 ^ st ≤ 2 ^ 20) (hc : c < 2 ^ st) : subV (.list (climbs1 st sa)) (.int (c : Int)) = some (.list ((hs1 st sa c).map .int)) :=
  subV_L (by rw [climbs1, List.length_map, List.length_range]; exact hp) (by unfold climbs1; rw [List.getElem?_map, List.getElem?_range hc]; rfl)
theorem row_get {c : Nat} (hp : 2 ^ st ≤ 2 ^ 20) (hc : c < 2 ^ st) : subV (.list (slst (rows1 st))) (.int (c : Int)) = some (.str (S (rowOf st c))) := by
  rw [subV_slst (rows1_len.symm ▸ hp) (rows1_len.symm ▸ hc), rows1_get hc]

theorem texts_st (H : F1 F) (D : Dr1 ns st ce sa) : evS F W s1_law_8 (zC ns st ce sa).loc = some (.next, (zT ns st ce sa).loc) := by
  have hp := D.p20
  have e3 := subV_dr (own := [0, 1, 1, 2, 4, 3]) (ns := ns) (k := 3) (by decide)
  have hst := D.st16
  refine own_ev (l0 := (zC' ns st ce sa).loc) rfl (compS (evI_rngv rfl) (fun c hc => ?_) hp)
  obtain ⟨b1, b2, _, _⟩ := tab1_of D hc
  have hl : (hs1 st sa c).length ≤ 100 := (hs1_len st sa c).symm ▸ Nat.le_trans (Nat.succ_le_succ hst) (by decide)
  exact ev_call (evs_cons (ev_subd rfl rfl (row_get hp hc)) (evs3 (ev_subd rfl rfl (climb_get hp hc)) (ev_subd rfl rfl e3) rfl))
    (H.h14 (rowOf st c) sa (lastI (hs1 st sa c)) (num1 ns) c (hs1 st sa c) (hs1 st sa c).dropLast (hgo (rowOf st c) sa) ((rowOf_len st c).symm ▸ hst) rfl (hs1_split ..) (Int.natCast_nonneg _) (by have := D.sa5; omega) b1 b2 hl)
end
end Mine

-- L1f
namespace Mine
open PySem PySem.Spec PySem.Calls PyProof.Rows PySem.W

section
variable {F : Orc} {W : Nat} {ns : List Int} {st ce sa : Nat}
noncomputable def tab3 (st : Nat) : Bool := (List.range (2 ^ st)).all fun c => Txt.count (S (rowOf st c)) ⟨#[41]⟩ == cnt41 (rowOf st c)
theorem tab3_3 : tab3 3 = true := by decide +kernel
theorem tab3_4 : tab3 4 = true := by decide +kernel
theorem count_row (h : st = 3 ∨ st = 4) {c : Nat} (hc : c < 2 ^ st) : Txt.count (S (rowOf st c)) ⟨#[41]⟩ = cnt41 (rowOf st c) := by
  have : tab3 st = true := by rcases h with rfl | rfl <;> first | exact tab3_3 | exact tab3_4
  exact beq_iff_eq.mp (List.all_eq_true.mp this c (List.mem_range.mpr hc))
noncomputable def condB (st sa ce code : Nat) : Bool := keepB st sa code && decide ((sa : Int) + lack1 st code - (due1 st sa code).fdiv 2 ≤ ce)
noncomputable def tab4 (st : Nat) : Bool := (List.range 5).all fun ce => (List.range 5).all fun sa => (List.range (2 ^ st)).all fun code => !(condB st sa ce code) || (decide (0 ≤ lastI (hs1 st sa code)) && decide (lastI (hs1 st sa code) ≤ ce))
theorem tab4_3 : tab4 3 = true := by decide +kernel
theorem tab4_4 : tab4 4 = true := by decide +kernel
theorem cond_last (D : Dr1 ns st ce sa) {c : Nat} (hc : c < 2 ^ st) (h : condB st sa ce c = true) : 0 ≤ lastI (hs1 st sa c) ∧ lastI (hs1 st sa c) ≤ ce := by
  have ht : tab4 st = true := by rcases D.st34 with rfl | rfl <;> first | exact tab4_3 | exact tab4_4
  have := List.all_eq_true.mp (List.all_eq_true.mp (List.all_eq_true.mp ht ce (List.mem_range.mpr D.ce5)) sa (List.mem_range.mpr D.sa5)) c (List.mem_range.mpr hc)
  rw [h] at this
  obtain ⟨a, b⟩ := Bool.and_eq_true_iff.mp this
  exact ⟨of_decide_eq_true a, of_decide_eq_true b⟩

/-! the texts and what is kept -/
theorem par_nil : Par [] := fun _ h => nomatch h
theorem par_rep40 (n : Nat) : Par (List.replicate n 40) := fun c hc => .inl (List.eq_of_mem_replicate hc)
theorem par_rep41 (n : Nat) : Par (List.replicate n 41) := fun c hc => .inr (List.eq_of_mem_replicate hc)
theorem par_app {l m : List Nat} (h1 : Par l) (h2 : Par m) : Par (l ++ m) := fun c hc => (List.mem_append.mp hc).elim (h1 c) (h2 c)
theorem par_take {l : List Nat} (h : Par l) (n : Nat) : Par (l.take n) := fun c hc => h c (List.mem_of_mem_take hc)
theorem par_drop {l : List Nat} (h : Par l) (n : Nat) : Par (l.drop n) := fun c hc => h c (List.mem_of_mem_drop hc)
theorem par_cons {c : Nat} {l : List Nat} (h1 : c = 40 ∨ c = 41) (h2 : Par l) : Par (c :: l) := fun x hx => by
  rcases List.mem_cons.mp hx with rfl | hx
  · exact h1
  · exact h2 x hx
noncomputable def uP (st sa : Nat) (num : Int) (c : Nat) : List Nat := List.replicate sa 40 ++ (rowOf st c).take (placeI (rowOf st c) num c)
noncomputable def vP (st sa : Nat) (num : Int) (c : Nat) : List Nat := (rowOf st c).drop (placeI (rowOf st c) num c) ++ List.replicate (ups (lastI (hs1 st sa c))) 41
noncomputable def hP (num : Int) (c : Nat) : List Nat := hidL.getD (hidI num c) []
noncomputable def hP' (num : Int) (c : Nat) : List Nat := hidL'.getD (hidI num c) []
theorem text1P_eq (st sa : Nat) (num : Int) (c : Nat) : text1P st sa num c = txt [] (uP st sa num c) (hP num c) (vP st sa num c) := rfl
theorem hP_hid (num : Int) (c : Nat) : Hid (hP num c) (hP' num c) := hidL_hid (hidI_lt num c).2
theorem uv_whole (st sa : Nat) (num : Int) (c : Nat) : uP st sa num c ++ vP st sa num c = whole st sa c := by
  unfold uP vP whole
  rw [List.append_assoc, ← List.append_assoc ((rowOf st c).take _), List.take_append_drop, List.append_assoc]
theorem uP_par (st sa : Nat) (num : Int) (c : Nat) : Par (uP st sa num c) := par_app (par_rep40 _) (par_take (rowOf_par _ _) _)
theorem vP_par (st sa : Nat) (num : Int) (c : Nat) : Par (vP st sa num c) := par_app (par_drop (rowOf_par _ _) _) (par_rep41 _)
theorem uP_len (st sa : Nat) (num : Int) (c : Nat) : (uP st sa num c).length ≤ sa + st := by
  rw [uP, List.length_append, List.length_replicate, List.length_take, rowOf_len]
  exact Nat.add_le_add_left (Nat.min_le_right ..) _
theorem vP_len (st sa : Nat) (num : Int) (c : Nat) : (vP st sa num c).length ≤ st + ups (lastI (hs1 st sa c)) := by
  rw [vP, List.length_append, List.length_replicate, List.length_drop, rowOf_len]
  exact Nat.add_le_add_right (Nat.sub_le ..) _
theorem ups_le {k : Int} (h : k ≤ 100) : ups k ≤ 100 := Int.toNat_le.mpr (by split <;> omega)
theorem txtP_len (D : Dr1 ns st ce sa) {c : Nat} (hc : c < 2 ^ st) (num : Int) (p : List Nat) (hp : p.length ≤ 100) : (txt p (uP st sa num c) (hP num c) (vP st sa num c)).length ≤ 2 ^ 16 := by
  rw [txt_len]
  exact Nat.le_trans (Nat.add_le_add (Nat.add_le_add (Nat.add_le_add (Nat.add_le_add_right hp 3) (Nat.le_trans (uP_len ..) (Nat.add_le_add (Nat.le_of_lt D.sa5) D.st16))) (hidL_len _)) (Nat.le_trans (vP_len ..) (Nat.add_le_add D.st16 (ups_le (tab1_of D hc).2.1)))) (by decide)
theorem gP_text (D : Dr1 ns st ce sa) {c : Nat} (hc : c < 2 ^ st) (num : Int) : gP (text1P st sa num c) = if keepB st sa c then text1P st sa num c else badT := by
  rw [text1P_eq, gP_txt par_nil (uP_par _ _ _ _) (vP_par _ _ _ _) (hP_hid _ _) (txtP_len D hc num [] (by simp))]
  rw [List.nil_append, uv_whole]; rfl
theorem isTxt_text (D : Dr1 ns st ce sa) {c : Nat} (hc : c < 2 ^ st) (num : Int) : IsTxt (text1P st sa num c) :=
  ⟨[], uP st sa num c, hP num c, hP' num c, vP st sa num c, par_nil, uP_par _ _ _ _, vP_par _ _ _ _, hP_hid _ _, txtP_len D hc num [] (by simp), rfl⟩
theorem isTxt_texts (D : Dr1 ns st ce sa) (num : Int) : ∀ t ∈ texts1 st sa num, IsTxt t := fun t ht => by
  obtain ⟨c, hc, rfl⟩ := List.mem_map.mp ht
  exact isTxt_text D (List.mem_range.mp hc) num
noncomputable def kept1 (st sa : Nat) (num : Int) : List (List Nat) := (texts1 st sa num).map gP
theorem kept1_eq (D : Dr1 ns st ce sa) (num : Int) : kept1 st sa num = (List.range (2 ^ st)).map fun c => if keepB st sa c then text1P st sa num c else badT := by
  unfold kept1 texts1
  rw [List.map_map]
  exact List.map_congr_left fun c hc => gP_text D (List.mem_range.mp hc) num
theorem asc_kept (D : Dr1 ns st ce sa) (num : Int) : ∀ t ∈ kept1 st sa num, asc t := fun t ht => by
  obtain ⟨t', ht', rfl⟩ := List.mem_map.mp ht
  exact asc_gP (isTxt_texts D num t' ht')
theorem texts_len : (texts1 st sa (num1 ns)).length = 2 ^ st := by simp [texts1]
theorem kept_len : (kept1 st sa (num1 ns)).length = 2 ^ st := by simp [kept1, texts1]
noncomputable def zG (ns : List Int) (st ce sa : Nat) : Z := { zC' ns st ce sa with v10 := dv (.list (slst (texts1 st sa (num1 ns)))), v11 := ov (slst (texts1 st sa (num1 ns))) }
noncomputable def zG' (ns : List Int) (st ce sa : Nat) : Z := { zC' ns st ce sa with v10 := dv (.list (slst (texts1 st sa (num1 ns)))), v11 := dv (.list (slst (texts1 st sa (num1 ns)))) }
noncomputable def zT' (ns : List Int) (st ce sa : Nat) : Z := { zC' ns st ce sa with v10 := dv (.list (slst (texts1 st sa (num1 ns)))) }
noncomputable def zK (ns : List Int) (st ce sa : Nat) : Z := { zG' ns st ce sa with v12 := dv (.list (slst (kept1 st sa (num1 ns)))) }
theorem given_st (D : Dr1 ns st ce sa) : evS F W s1_law_9 (zT ns st ce sa).loc = some (.next, (zG ns st ce sa).loc) :=
  own_ev (l0 := (zT' ns st ce sa).loc) rfl (ev_listc rfl (by rw [slst_len, texts_len]; exact D.p20))
theorem kept_st (H : F1 F) (D : Dr1 ns st ce sa) : evS F W s1_law_10 (zG ns st ce sa).loc = some (.next, (zK ns st ce sa).loc) :=
  asg_ev (l0 := (zG' ns st ce sa).loc) (d := .list (slst (kept1 st sa (num1 ns)))) rfl (ev_call (evs1 rfl) (H.h3 _ (isTxt_texts D _) (by rw [texts_len]; exact Nat.le_trans (two_st D.st34).1 (by decide))))

theorem min_ev {l : List Int} (h : l ≠ []) : biV 2 [.list (l.map .int)] = some (.int (minI l)) := bindV (ints?_map l) (if_neg h)
theorem max_ev {l : List Int} (h : l ≠ []) : biV 3 [.list (l.map .int)] = some (.int (maxI l)) := bindV (ints?_map l) (if_neg h)
theorem texts_get {c : Nat} (hc : c < 2 ^ st) : (texts1 st sa (num1 ns)).getD c [] = text1P st sa (num1 ns) c := by
  unfold texts1
  rw [List.getD_eq_getElem?_getD, List.getElem?_map, List.getElem?_range hc]; rfl
theorem text_get {c : Nat} (hp : 2 ^ st ≤ 2 ^ 20) (hc : c < 2 ^ st) : subV (.list (slst (texts1 st sa (num1 ns)))) (.int (c : Int)) = some (.str (S (text1P st sa (num1 ns) c))) := by
  rw [subV_slst (texts_len.symm ▸ hp) (texts_len.symm ▸ hc), texts_get hc]

theorem keep_ev (D : Dr1 ns st ce sa) {z : Z} {c : Nat} {a b : ME} {x y : PyData} (h9 : z.v9 = dv (.list (climbs1 st sa))) (hc : c < 2 ^ st) (ha : evE F (ZC z (.int (c : Int))) a = some x) (hb : evE F (ZC z (.int (c : Int))) b = some y) :
    evE F (ZC z (.int (c : Int))) (.ite (.cmp .GtE (.bi 2 [(.subo 9 (.var 31))]) (.lit (.int 0))) a b) = some (if keepB st sa c then x else y) := by
  have e3 : evE F (ZC z (.int (c : Int))) (.cmp .GtE (.bi 2 [(.subo 9 (.var 31))]) (.lit (.int 0))) = some (.bool (keepB st sa c)) := by
    rw [(tab1_of D hc).2.2.1]
    exact ev_cmp (ev_bi (evs1 (ev_subd (congrArg (fun o => some (flt o)) h9) rfl (climb_get D.p20 hc))) (min_ev (hs1_ne _ _ _))) rfl rfl
  cases h : keepB st sa c
  · rw [h] at e3; exact ev_ite_f e3 rfl rfl hb
  · rw [h] at e3; exact ev_ite_t e3 rfl rfl ha

theorem check1_st (D : Dr1 ns st ce sa) : evS F W s1_law_11 (zK ns st ce sa).loc = some (.next, (zK ns st ce sa).loc) := by
  have a2 := compS (F := F) (z := zK ns st ce sa) (it := .var 6) (f := fun c => if keepB st sa c then text1P st sa (num1 ns) c else badT) (evI_rngv (n := 2 ^ st) rfl) (fun c hc => (keep_ev D rfl hc (ev_subd (i := 10) (b := .var 31) rfl rfl (text_get D.p20 hc)) (b := .lit (.str ⟨#[40, 39, 39, 44, 32, 39, 39, 41]⟩)) rfl).trans (by cases keepB st sa c <;> rfl)) D.p20
  rw [← kept1_eq D] at a2
  exact if_false_ev rfl (ev_or_f (ev_cmp rfl rfl (ne_strs _ fun t ht => asc_IsTxt (isTxt_texts D _ t ht))) rfl rfl (ev_cmp rfl a2 (ne_strs _ (asc_kept D _))))

theorem txt5 (p : List Nat) (c : Nat) : txt p (uP st sa (num1 ns) c) (hP (num1 ns) c) (vP st sa (num1 ns) c) = p ++ text1P st sa (num1 ns) c := rfl
theorem gbad (D : Dr1 ns st ce sa) {p : List Nat} (hp : Par p) (hl : p.length ≤ 100) (h : bal (p ++ whole st sa 5) = false) : gP (p ++ text1P st sa (num1 ns) 5) = badT := by
  rw [← txt5, gP_txt hp (uP_par _ _ _ _) (vP_par _ _ _ _) (hP_hid _ _) (txtP_len D D.five _ p hl), List.append_assoc, uv_whole, h]; rfl
theorem gtxt (D : Dr1 ns st ce sa) {p : List Nat} (hp : Par p) (hl : p.length ≤ 100) : IsTxt (p ++ text1P st sa (num1 ns) 5) :=
  ⟨_, _, _, _, _, hp, uP_par _ _ _ _, vP_par _ _ _ _, hP_hid _ _, txtP_len D D.five _ p hl, (txt5 ..).symm⟩
theorem text1P_len (D : Dr1 ns st ce sa) {c : Nat} (hc : c < 2 ^ st) (num : Int) : (text1P st sa num c).length ≤ 2 ^ 16 := txtP_len D hc num [] (Nat.zero_le _)
theorem check2_ev (D : Dr1 ns st ce sa) {t : List Nat} {z : Z} (h10 : evE F z.loc (.subo 10 (.lit (.int 5))) = some (.str (S t))) (hl : t.length ≤ 2 ^ 16) (h3 : F 3 [.list (slst [40 :: t, 40 :: 40 :: t])] = some (.list (slst [badT, badT]))) :
    evE F z.loc (.cmp .NotEq (.call 3 [(.lst [(.bin .Add (.lit (.str ⟨#[40]⟩)) (.subo 10 (.lit (.int 5)))), (.bin .Add (.lit (.str ⟨#[40, 40]⟩)) (.subo 10 (.lit (.int 5))))])]) (.lst [(.lit (.str ⟨#[40, 39, 39, 44, 32, 39, 39, 41]⟩)), (.lit (.str ⟨#[40, 39, 39, 44, 32, 39, 39, 41]⟩))])) = some (.bool false) := by
  have hl2 : 2 + t.length ≤ 2 ^ 20 := Nat.le_trans (Nat.add_le_add_left hl 2) (by decide)
  have hl1 : 1 + t.length ≤ 2 ^ 20 := Nat.le_trans (Nat.add_le_add_left hl 1) (by decide)
  have b1 := binV_addS (l := [40]) hl1
  have b2 := binV_addS (l := [40, 40]) hl2
  exact ev_cmp (ev_call (evs1 (ev_lst (evs2 (ev_bin rfl h10 b1) (ev_bin rfl h10 b2)) (show 2 ≤ 2 ^ 20 by decide))) h3) rfl (ne_strs [badT, badT] (fun u hu => by rw [List.eq_of_mem_replicate (n := 2) (a := badT) hu]; exact asc_bad))
theorem check2_st (H : F1 F) (D : Dr1 ns st ce sa) : evS F W s1_law_12 (zK ns st ce sa).loc = some (.next, (zK ns st ce sa).loc) := by
  have p1 : Par [40] := par_cons (.inl rfl) par_nil
  have p2 : Par [40, 40] := par_cons (.inl rfl) p1
  obtain ⟨_, _, _, hb⟩ := tab1_of D D.five
  obtain ⟨b1, b2⟩ := hb rfl
  have h3 := H.h3 [[40] ++ text1P st sa (num1 ns) 5, [40, 40] ++ text1P st sa (num1 ns) 5] (fun t ht => by
    rcases List.mem_cons.mp ht with rfl | ht
    · exact gtxt D p1 (by decide)
    · rw [List.mem_singleton.mp ht]
      exact gtxt D p2 (by decide)) (show 2 ≤ 2 ^ 16 by decide)
  rw [List.map_cons, List.map_cons, List.map_nil, gbad D p1 (by decide) b1, gbad D p2 (by decide) b2] at h3
  exact if_false_ev rfl (check2_ev D (ev_subd rfl rfl (text_get (c := 5) D.p20 D.five)) (text1P_len D D.five _) h3)

theorem check3_st (H : F1 F) (D : Dr1 ns st ce sa) : evS F W s1_law_13 (zK ns st ce sa).loc = some (.next, (zK ns st ce sa).loc) := by
  have m1 : binV .Mult (.int 2) (.int (st : Int)) = some (.int (2 * (st : Int))) := by rcases D.st34 with rfl | rfl <;> rfl
  have m : evE F (zK ns st ce sa).loc (.bin .Mult (.lit (.int 2)) (.var 3)) = some (.int (2 * (st : Int))) := ev_bin rfl rfl m1
  exact if_false_ev rfl (ev_cmp (ev_call (evs1 (ev_subd rfl rfl (row_get (c := 5) D.p20 D.five))) (H.h15 st D.st34)) (ev_lst (evs_cons rfl (evs6 rfl rfl rfl m (ev_bin m rfl rfl) rfl)) (show 7 ≤ 2 ^ 20 by decide)) (ne_ints _))
end
end Mine

-- L1g
namespace Mine
open PySem PySem.Spec PySem.Calls PyProof.Rows PySem.W

section
variable {F : Orc} {W : Nat} {ns : List Int} {st ce sa c : Nat}
noncomputable def zW (ns : List Int) (st ce sa : Nat) : Z := { zK ns st ce sa with v13 := dv (.str (S (ramp st))) }
noncomputable def zL (ns : List Int) (st ce sa : Nat) (cs : List Int) (a b c d : Option MV) : Z := { zW ns st ce sa with v15 := ov (cs.map .int), v7 := a, v16 := b, v17 := c, v18 := d }
theorem mulS_nat {c n : Nat} (h : n ≤ 2 ^ 12) : binV .Mult (.str (S [c])) (.int (n : Int)) = some (.str (S (List.replicate n c))) := binV_mulS (n := (n : Int)) (by omega) (by omega)
theorem ramp_st (D : Dr1 ns st ce sa) : evS F W s1_law_14 (zK ns st ce sa).loc = some (.next, (zW ns st ce sa).loc) := by
  have h := Nat.le_trans D.st16 (show 16 ≤ 2 ^ 12 by decide)
  exact asg_ev (l0 := (zK ns st ce sa).loc) (d := .str (S (ramp st))) rfl (ev_bin (ev_bin rfl rfl (mulS_nat (c := 40) h)) (ev_bin rfl rfl (mulS_nat (c := 41) h))
    (binV_addS (by rw [List.length_replicate, List.length_replicate]; exact Nat.le_trans (Nat.add_le_add h h) (by decide))))
theorem counts0_st (D : Dr1 ns st ce sa) : evS F W s1_law_15 (zW ns st ce sa).loc = some (.next, (zL ns st ce sa (List.replicate (ce + 1) 0) none none none none).loc) := by
  have h : ce + 1 ≤ 2 ^ 20 := Nat.le_trans D.ce5 (by decide)
  have a2 := compR (F := F) (z := zW ns st ce sa) (elt := .lit (.int 0)) (it := .rng [(.bin .Add (.var 4) (.lit (.int 1)))]) (g := fun _ => .int 0) (evI_rngN (ev_bin rfl rfl rfl) h) (fun c _ => rfl) h
  rw [List.map_const', List.length_range, show List.replicate (ce + 1) (PyData.int 0) = (List.replicate (ce + 1) (0 : Int)).map .int from List.map_replicate.symm] at a2
  exact own_ev (l0 := (zW ns st ce sa).loc) rfl a2

noncomputable def b16_3 : List MS := [.assign 18 (.call 11 [(.subo 8 (.var 7)), (.var 13), (.bin .Sub (.var 17) (.bin .Mod (.var 2) (.lit (.int 2))))])]
noncomputable def b16_4 : List MS := [.assign 18 (.call 11 [(.var 13), (.subo 8 (.var 7)), (.bin .Add (.bin .Sub (.var 17) (.lit (.int 1))) (.bin .Mod (.var 2) (.lit (.int 2))))])]
noncomputable def b16_5 : MS := .ite (.cmp .LtE (.bin .Sub (.bin .Add (.var 5) (.var 16)) (.bin .FloorDiv (.var 18) (.lit (.int 2)))) (.var 4)) [.augI 15 .Add (.sub (.subo 9 (.var 7)) (.un .USub (.lit (.int 1)))) (.lit (.int 1))] []
noncomputable def b16 : List MS := [.assign 16 (.bin .Sub (.bin .Mult (.lit (.int 2)) (.var 3)) (.meth 2 (.subo 8 (.var 7)) [(.lit (.str ⟨#[41]⟩))])), .assign 17 (.bin .Mult (.lit (.int 2)) (.bin .Sub (.bin .Add (.var 16) (.var 5)) (.bi 3 [(.subo 9 (.var 7))]))), .ite (.cmp .Eq (.bin .Mod (.var 7) (.lit (.int 2))) (.lit (.int 0))) b16_3 b16_4, .ite (.orE (.cmp .NotEq (.var 18) (.var 17)) (.un .Not (.isi false (.var 18)))) [.ret (.lit (.bool false))] [], b16_5]
noncomputable def body16 : List MS := [.ite (.cmp .Eq (.subo 12 (.var 7)) (.subo 10 (.var 7))) b16 []]
noncomputable def tab5 (st sa c : Nat) : Bool := decide (-100 ≤ maxI (hs1 st sa c)) && decide (maxI (hs1 st sa c) ≤ 100) && decide (-100 ≤ lack1 st c) && decide (lack1 st c ≤ 100)
theorem tab5_3 : allOf tab5 3 = true := by decide +kernel
theorem tab5_4 : allOf tab5 4 = true := by decide +kernel
theorem body16_eq : s1_law_16 = .for_ (.one 7) (.var 6) body16 := rfl

theorem sgn_par {l : List Nat} (h : Par l) : sgn l = true := by
  unfold sgn
  rw [List.all_eq_true]
  intro c hc
  rcases h c hc with rfl | rfl <;> rfl
theorem ramp_par (st : Nat) : Par (ramp st) := par_app (par_rep40 _) (par_rep41 _)
theorem ramp_len (D : Dr1 ns st ce sa) : (ramp st).length ≤ 16 := by
  rw [ramp, List.length_append, List.length_replicate, List.length_replicate]
  rcases D.st34 with rfl | rfl <;> decide
theorem row_len (D : Dr1 ns st ce sa) : (rowOf st c).length ≤ 16 := (rowOf_len st c).symm ▸ D.st16
theorem kept_get (D : Dr1 ns st ce sa) (hc : c < 2 ^ st) : subV (.list (slst (kept1 st sa (num1 ns)))) (.int (c : Int)) = some (.str (S (if keepB st sa c then text1P st sa (num1 ns) c else badT))) := by
  rw [subV_slst (kept_len.symm ▸ D.p20) (kept_len.symm ▸ hc), kept1_eq D, List.getD_eq_getElem?_getD, List.getElem?_map, List.getElem?_range hc]; rfl
theorem fm2 {a : Int} : a.fmod 2 = 0 ∨ a.fmod 2 = 1 := by
  have := fmod_range (a := a) (b := 2) (by decide); omega
theorem lev_e (D : Dr1 ns st ce sa) (hc : c < 2 ^ st) (e : c % 2 = 0) (s : Int) : levP (rowOf st c) (ramp st) (due1 st sa c - s.fmod 2) = due1 st sa c := by
  have t2 := tabs2 D hc
  unfold tab2 at t2
  rw [e, if_pos (beq_self_eq_true 0)] at t2
  obtain ⟨a, b⟩ := Bool.and_eq_true_iff.mp t2
  rcases fm2 (a := s) with h | h <;> rw [h]
  · exact eq_of_beq a
  · exact eq_of_beq b
theorem lev_o (D : Dr1 ns st ce sa) (hc : c < 2 ^ st) (e : c % 2 = 1) (s : Int) : levP (ramp st) (rowOf st c) (due1 st sa c - 1 + s.fmod 2) = due1 st sa c := by
  have t2 := tabs2 D hc
  unfold tab2 at t2
  rw [e, if_neg (by decide)] at t2
  obtain ⟨a, b⟩ := Bool.and_eq_true_iff.mp t2
  rcases fm2 (a := s) with h | h <;> rw [h]
  · exact eq_of_beq a
  · exact eq_of_beq b
theorem due_mul (D : Dr1 ns st ce sa) (hc : c < 2 ^ st) : binV .Mult (.int 2) (.int ((lack1 st c + sa) - maxI (hs1 st sa c))) = some (.int (due1 st sa c)) := by
  have ht : tab5 st sa c = true := by
    rcases D.st34 with rfl | rfl
    · exact allOf_get tab5_3 D.sa5 hc
    · exact allOf_get tab5_4 D.sa5 hc
  obtain ⟨ht, h4⟩ := Bool.and_eq_true_iff.mp ht
  obtain ⟨ht, h3⟩ := Bool.and_eq_true_iff.mp ht
  obtain ⟨h1, h2⟩ := Bool.and_eq_true_iff.mp ht
  have h5 := D.sa5
  have h1 := of_decide_eq_true h1
  have h2 := of_decide_eq_true h2
  have h3 := of_decide_eq_true h3
  have h4 := of_decide_eq_true h4
  clear ht
  exact binV_mul (m := 8) (n := 12) (by decide) (bits_le.mpr (by clear D hc; omega)) (by decide)

section
variable {cs : List Int} {b' c' d' : Option MV}
theorem sl1 (D : Dr1 ns st ce sa) (hc : c < 2 ^ st) : evS F W (.assign 16 (.bin .Sub (.bin .Mult (.lit (.int 2)) (.var 3)) (.meth 2 (.subo 8 (.var 7)) [(.lit (.str ⟨#[41]⟩))]))) (zL ns st ce sa cs (nv c) b' c' d').loc = some (.next, (zL ns st ce sa cs (nv c) (iv (lack1 st c)) c' d').loc) := by
  have m1 : binV .Mult (.int 2) (.int (st : Int)) = some (.int (2 * (st : Int))) := by rcases D.st34 with rfl | rfl <;> rfl
  have m2 : methV 2 (.str (S (rowOf st c))) [.str ⟨#[41]⟩] = some (.int (cnt41 (rowOf st c))) := congrArg (fun i => some (PyData.int i)) (count_row D.st34 hc)
  exact asg' (d := .int (lack1 st c)) (ev_bin (ev_bin rfl rfl m1) (ev_meth (ev_subd rfl rfl (row_get D.p20 hc)) (evs1 rfl) m2) rfl)
theorem sl2 (D : Dr1 ns st ce sa) (hc : c < 2 ^ st) : evS F W (.assign 17 (.bin .Mult (.lit (.int 2)) (.bin .Sub (.bin .Add (.var 16) (.var 5)) (.bi 3 [(.subo 9 (.var 7))])))) (zL ns st ce sa cs (nv c) (iv (lack1 st c)) c' d').loc = some (.next, (zL ns st ce sa cs (nv c) (iv (lack1 st c)) (iv (due1 st sa c)) d').loc) :=
  asg' (ev_bin rfl (ev_bin (ev_bin rfl rfl rfl) (ev_bi (evs1 (ev_subd rfl rfl (climb_get D.p20 hc))) (max_ev (hs1_ne _ _ _))) rfl) (due_mul D hc))
theorem sl3 (H : F1 F) (D : Dr1 ns st ce sa) (hc : c < 2 ^ st) : evS F W (.ite (.cmp .Eq (.bin .Mod (.var 7) (.lit (.int 2))) (.lit (.int 0))) b16_3 b16_4)
    (zL ns st ce sa cs (nv c) (iv (lack1 st c)) (iv (due1 st sa c)) d').loc = some (.next, (zL ns st ce sa cs (nv c) (iv (lack1 st c)) (iv (due1 st sa c)) (iv (due1 st sa c))).loc) := by
  have e8 := row_get (st := st) D.p20 hc
  have hm : binV .Mod (.int ns.sum) (.int 2) = some (.int (ns.sum.fmod 2)) := mod_ev (by decide)
  have hc2 : binV .Mod (.int (c : Int)) (.int 2) = some (.int ((c % 2 : Nat) : Int)) := (mod_ev (by decide)).trans (congrArg (fun i => some (PyData.int i)) (fmod_nat c 2))
  rcases Nat.mod_two_eq_zero_or_one c with e | e
  · have h11 := H.h11 (rowOf st c) (ramp st) (due1 st sa c - ns.sum.fmod 2) (sgn_par (rowOf_par _ _)) (sgn_par (ramp_par _)) (row_len D) (ramp_len D)
    rw [lev_e D hc e] at h11
    rw [e] at hc2
    exact ite_t' (evT_cmp (ev_bin rfl rfl hc2) rfl rfl) (ss_step (asg' (ev_call (evs3 (ev_subd rfl rfl e8) rfl (ev_bin rfl (ev_bin rfl rfl hm) rfl)) h11)) ss_nil0)
  · have h11 := H.h11 (ramp st) (rowOf st c) (due1 st sa c - 1 + ns.sum.fmod 2) (sgn_par (ramp_par _)) (sgn_par (rowOf_par _ _)) (ramp_len D) (row_len D)
    rw [lev_o D hc e] at h11
    rw [e] at hc2
    exact ite_f' (evT_cmp (ev_bin rfl rfl hc2) rfl rfl) (ss_step (asg' (ev_call (evs3 rfl (ev_subd rfl rfl e8) (ev_bin (ev_bin rfl rfl rfl) (ev_bin rfl rfl hm) rfl)) h11)) ss_nil0)
theorem augI' {l : Loc} {k n : Nat} {op : Operator} {a e : ME} {xs : List PyData} {y x v d : PyData} (hk : evE F l a = some y) (hn : idxV xs y = some n) (hx : xs[n]? = some x) (he : evE F l e = some v) (h : augV op x v = some d) (hi : l[k]? = some (some (.own xs)) := by rfl) (hl : frz (fv a ++ fv e) l = l := by rfl) :
    evS F W (.augI k op a e) l = some (.next, l.set k (some (.own (xs.set n d)))) := by
  have hh : evS F W (.augI k op a e) l = (ownAt (frz (fv a ++ fv e) l) k).bind fun l1 => (evE F (frz (fv a ++ fv e) l) a).bind fun y => (idxV l1 y).bind fun n => (l1[n]?).bind fun x => (evE F (frz (fv a ++ fv e) l) e).bind fun v => (augV op x v).map fun d => (.next, (frz (fv a ++ fv e) l).set k (some (.own (l1.set n d)))) := rfl
  rw [hh, hl]
  exact bindV (MV.at_of hi rfl) (bindV hk (bindV hn (bindV hx (bindV he (mapV h)))))
theorem sl5 (D : Dr1 ns st ce sa) (hc : c < 2 ^ st) (hk : keepB st sa c = true) (hcs : cs.length = ce + 1) :
    evS F W b16_5 (zL ns st ce sa cs (nv c) (iv (lack1 st c)) (iv (due1 st sa c)) (iv (due1 st sa c))).loc = some (.next, (zL ns st ce sa (step1 st sa ce cs c) (nv c) (iv (lack1 st c)) (iv (due1 st sa c)) (iv (due1 st sa c))).loc) := by
  have hd : evE F (zL ns st ce sa cs (nv c) (iv (lack1 st c)) (iv (due1 st sa c)) (iv (due1 st sa c))).loc (.bin .Sub (.bin .Add (.var 5) (.var 16)) (.bin .FloorDiv (.var 18) (.lit (.int 2)))) = some (.int ((sa : Int) + lack1 st c - (due1 st sa c).fdiv 2)) :=
    ev_bin (ev_bin rfl rfl rfl) (ev_bin rfl rfl (fdiv_ev (by decide) (by decide))) rfl
  by_cases h5 : (sa : Int) + lack1 st c - (due1 st sa c).fdiv 2 ≤ ce
  · have hB : condB st sa ce c = true := by unfold condB; rw [hk, decide_eq_true h5]; rfl
    obtain ⟨q1, q2⟩ := cond_last D hc hB
    have hlt : (lastI (hs1 st sa c)).toNat < cs.length := hcs.symm ▸ Nat.lt_succ_of_le (Int.toNat_le.mpr q2)
    have hstep : step1 st sa ce cs c = cs.set (lastI (hs1 st sa c)).toNat (cs.getD (lastI (hs1 st sa c)).toNat 0 + 1) := if_pos hB
    have hlast : subV (.list ((hs1 st sa c).map .int)) (.int (-1)) = some (.int (lastI (hs1 st sa c))) := by
      conv => lhs; rw [hs1_split st sa c]
      exact subV_last (by rw [List.length_dropLast, hs1_len]; exact Nat.le_trans D.st16 (by decide))
    have hidx : idxV (cs.map PyData.int) (.int (lastI (hs1 st sa c))) = some (lastI (hs1 st sa c)).toNat := if_pos ⟨by rw [List.length_map, hcs]; exact Nat.le_trans (Nat.succ_le_succ D.ce14.2) (by decide), q1, by rw [List.length_map, hcs]; exact Int.lt_add_one_of_le q2⟩
    have hget : (cs.map PyData.int)[(lastI (hs1 st sa c)).toNat]? = some (.int (cs.getD (lastI (hs1 st sa c)).toNat 0)) := by
      rw [List.getElem?_map, List.getElem?_eq_getElem hlt, List.getD_eq_getElem?_getD, List.getElem?_eq_getElem hlt]; rfl
    rw [hstep]
    refine ite_t' (evT_cmp hd rfl (cmp_le_t h5)) (ss_step (l' := (zL ns st ce sa (cs.set (lastI (hs1 st sa c)).toNat (cs.getD (lastI (hs1 st sa c)).toNat 0 + 1)) (nv c) (iv (lack1 st c)) (iv (due1 st sa c)) (iv (due1 st sa c))).loc) ?_ ss_nil0)
    have := augI' (F := F) (W := W) (l := (zL ns st ce sa cs (nv c) (iv (lack1 st c)) (iv (due1 st sa c)) (iv (due1 st sa c))).loc) (k := 15) (op := .Add) (a := .sub (.subo 9 (.var 7)) (.un .USub (.lit (.int 1)))) (e := .lit (.int 1)) (ev_sub (ev_subd rfl rfl (climb_get D.p20 hc)) rfl hlast) hidx hget rfl rfl
    rw [← List.map_set] at this
    exact this
  · have hstep : step1 st sa ce cs c = cs := if_neg (by rw [decide_eq_false h5, Bool.and_false]; exact Bool.false_ne_true)
    rw [hstep]
    exact ite_n (evT_cmp hd rfl (cmp_le_f h5))
end
theorem step_loop (H : F1 F) (D : Dr1 ns st ce sa) (hc : c < 2 ^ st) (cs : List Int) (hcs : cs.length = ce + 1) (b' c' d' : Option MV) :
    ∃ b c2 d, evSs F W body16 (zL ns st ce sa cs (nv c) b' c' d').loc = some (.next, (zL ns st ce sa (step1 st sa ce cs c) (nv c) b c2 d).loc) := by
  have hcond : evT F (zL ns st ce sa cs (nv c) b' c' d').loc (.cmp .Eq (.subo 12 (.var 7)) (.subo 10 (.var 7))) = some (keepB st sa c) := by
    refine evT_cmp (ev_subd rfl rfl (kept_get D hc)) (ev_subd rfl rfl (text_get D.p20 hc)) (cmp_seq ?_)
    rw [S_list, S_list]
    cases keepB st sa c
    · exact beq_eq_false_iff_ne.mpr fun e => txt_ne_bad [] _ _ _ rfl (by rw [← text1P_eq]; exact e.symm)
    · exact beq_self_eq_true _
  cases hk : keepB st sa c
  · rw [hk] at hcond
    have hstep : step1 st sa ce cs c = cs := if_neg (by rw [hk, Bool.false_and]; exact Bool.false_ne_true)
    rw [hstep]
    exact ⟨b', c', d', ss_step (ite_n hcond) ss_nil0⟩
  · rw [hk] at hcond
    exact ⟨iv (lack1 st c), iv (due1 st sa c), iv (due1 st sa c), ss_step (ite_t' hcond (ss_step (sl1 D hc) (ss_step (sl2 D hc) (ss_step (sl3 H D hc) (ss_step (if_false_ev (l0 := (zL ns st ce sa cs (nv c) (iv (lack1 st c)) (iv (due1 st sa c)) (iv (due1 st sa c))).loc) rfl (ev_or_f (ev_cmp rfl rfl (cmp_ne_f rfl)) rfl rfl rfl)) (ss_step (sl5 D hc hk hcs) ss_nil0)))))) ss_nil0⟩
theorem step1_len (cs : List Int) (c : Nat) : (step1 st sa ce cs c).length = cs.length := by
  unfold step1; split
  · exact List.length_set
  · rfl
theorem count_loop (H : F1 F) (D : Dr1 ns st ce sa) : ∀ (m k : Nat) (cs : List Int) (a b c d : Option MV), k + m = 2 ^ st → cs.length = ce + 1 →
    ∃ a' b' c' d', evFor (.one 7) (fun l => evSs F W body16 l) (ilist k m) (zL ns st ce sa cs a b c d).loc = some (.next, (zL ns st ce sa ((List.range' k m).foldl (step1 st sa ce) cs) a' b' c' d').loc)
  | 0, _, cs, a, b, c, d, _, _ => ⟨a, b, c, d, rfl⟩
  | m + 1, k, cs, a, b, c, d, hk, hcs => by
    obtain ⟨b2, c2, d2, e⟩ := step_loop (W := W) H D (c := k) (hk ▸ Nat.lt_add_of_pos_right (Nat.succ_pos m)) cs hcs b c d
    obtain ⟨a', b', c', d', e2⟩ := count_loop H D m (k + 1) (step1 st sa ce cs k) (nv k) b2 c2 d2 ((Nat.succ_add_eq_add_succ k m).trans hk) ((step1_len ..).trans hcs)
    rw [ilist_succ, List.range'_succ, List.foldl_cons]
    exact ⟨a', b', c', d', (for_go rfl e).trans e2⟩
theorem counts_st (H : F1 F) (D : Dr1 ns st ce sa) : ∃ a b c d, evS F W s1_law_16 (zL ns st ce sa (List.replicate (ce + 1) 0) none none none none).loc = some (.next, (zL ns st ce sa (counts1 st sa ce) a b c d).loc) := by
  obtain ⟨a, b, c, d, e⟩ := count_loop (W := W) H D (2 ^ st) 0 (List.replicate (ce + 1) 0) none none none none (Nat.zero_add _) List.length_replicate
  rw [← List.range_eq_range'] at e
  exact ⟨a, b, c, d, for' (evI_rngv (n := 2 ^ st) rfl) e⟩
end
end Mine

-- L1h
namespace Mine
open PySem PySem.Spec PySem.Calls PyProof.Rows PySem.W

/-! ## the polynomial part, plain -/
theorem digs_undigs {n : Nat} : ∀ {l : List Nat}, (∀ d ∈ l, d < 2 ^ n) → digs n l.length (undigs n l) = l
  | [], _ => rfl
  | d :: r, h => by
    have hd := h d (.head _)
    show (d + 2 ^ n * undigs n r) % 2 ^ n :: digs n r.length ((d + 2 ^ n * undigs n r) / 2 ^ n) = d :: r
    rw [Nat.add_mul_mod_self_left, Nat.mod_eq_of_lt hd, Nat.add_mul_div_left _ _ (Nat.two_pow_pos n), Nat.div_eq_of_lt hd, Nat.zero_add, digs_undigs fun x hx => h x (.tail _ hx)]
theorem pow_len {n k : Nat} : 2 ^ (n * (k + 1)) = 2 ^ n * 2 ^ (n * k) := by rw [Nat.mul_succ, Nat.add_comm, Nat.pow_add]
theorem undigs_full {n : Nat} : ∀ k, undigs n (List.replicate k (2 ^ n - 1)) + 1 = 2 ^ (n * k)
  | 0 => rfl
  | k + 1 => by
    rw [pow_len, ← undigs_full k, Nat.mul_succ]
    show (2 ^ n - 1) + 2 ^ n * undigs n (List.replicate k (2 ^ n - 1)) + 1 = _
    rw [Nat.add_right_comm, Nat.sub_add_cancel (Nat.two_pow_pos n), Nat.add_comm]
theorem undigs_small1 {n : Nat} : ∀ {l : List Nat}, (∀ d ∈ l, d + 2 ≤ 2 ^ n) → undigs n l + 1 ≤ 2 ^ (n * l.length)
  | [], _ => Nat.le_refl 1
  | d :: r, h => by
    have h3 := Nat.mul_le_mul_left (2 ^ n) (undigs_small1 (n := n) (l := r) fun x hx => h x (.tail _ hx))
    have hd := h d (.head _)
    rw [← pow_len, Nat.mul_succ] at h3
    show d + 2 ^ n * undigs n r + 1 ≤ 2 ^ (n * (r.length + 1))
    clear h; omega
theorem undigs_small {n : Nat} {d : Nat} {r : List Nat} (h : ∀ x ∈ d :: r, x + 2 ≤ 2 ^ n) : undigs n (d :: r) + 2 ≤ 2 ^ (n * (r.length + 1)) := by
  have h3 := Nat.mul_le_mul_left (2 ^ n) (undigs_small1 (n := n) (l := r) fun x hx => h x (.tail _ hx))
  have hd := h d (.head _)
  rw [← pow_len, Nat.mul_succ] at h3
  show d + 2 ^ n * undigs n r + 2 ≤ _
  clear h; omega
/-- the number of digits of a number whose highest is not nought -/
theorem cnt_undigs {w : Nat} (hw : 1 ≤ w) {l : List Nat} {d : Nat} (h : ∀ x ∈ l ++ [d], x < 2 ^ w) (hd : d ≠ 0) : (bits ((undigs w (l ++ [d]) : Nat) : Int) + w - 1) / w = l.length + 1 := by
  have h1 := undigs_lt h
  rw [List.length_append, List.length_singleton] at h1
  have h2 : 2 ^ (w * l.length) ≤ undigs w (l ++ [d]) := by
    rw [undigs_append]
    exact Nat.le_trans (Nat.le_mul_of_pos_right _ (Nat.pos_of_ne_zero hd)) (Nat.le_add_left ..)
  have h3 : bits ((undigs w (l ++ [d]) : Nat) : Int) ≤ w * (l.length + 1) := small_bits h1
  have h4 : w * l.length < bits ((undigs w (l ++ [d]) : Nat) : Int) := Nat.lt_of_not_le fun q => Nat.not_lt.mpr h2 (bits_nat.mp q)
  obtain ⟨k, hk⟩ := Nat.exists_eq_add_of_lt h4
  rw [hk] at h3 ⊢
  have h5 : k < w := Nat.lt_of_add_lt_add_left (n := w * l.length) h3
  rw [show w * l.length + k + 1 + w - 1 = k + w * (l.length + 1) by rw [Nat.mul_succ]; omega, Nat.add_mul_div_left _ _ hw, Nat.div_eq_of_lt h5, Nat.zero_add]

noncomputable def trim1 (st sz : Nat) : List Nat := ((fold1 st sz).reverse.dropWhile (· == 0)).reverse
noncomputable def okFold (st sz : Nat) : Bool := (trim1 st sz).all (fun d => decide (d ≤ 16)) && decide ((trim1 st sz).length ≤ sz) && decide ((trim1 st sz) ≠ []) && decide ((trim1 st sz).getLastD 0 ≠ 0) && decide ((trim1 st sz).sum = 2 ^ st) &&
  (trim1 st sz ++ List.replicate (sz - (trim1 st sz).length) 0 == fold1 st sz)
theorem okFold_all : ([3, 4].all fun st => [3, 4, 5, 6].all fun sz => okFold st sz) = true := by decide +kernel
theorem okFold_of {st sz : Nat} (h1 : st = 3 ∨ st = 4) (h2 : 3 ≤ sz) (h3 : sz ≤ 6) : okFold st sz = true := by
  have hs : sz = 3 ∨ sz = 4 ∨ sz = 5 ∨ sz = 6 := by clear h1; omega
  refine List.all_eq_true.mp (List.all_eq_true.mp okFold_all st ?_) sz ?_
  · rcases h1 with rfl | rfl <;> decide
  · rcases hs with rfl | rfl | rfl | rfl <;> decide
theorem cube (X : Nat) : (X + 1) ^ 3 = 1 + X * (3 + X * (3 + X * 1)) := by grind
theorem quart (X : Nat) : (X + 1) ^ 4 = 1 + X * (4 + X * (6 + X * (4 + X * 1))) := by grind
theorem pow_fold {X st : Nat} (h1 : st = 3 ∨ st = 4) {sz : Nat} (h2 : 3 ≤ sz) (h3 : sz ≤ 6) {w : Nat} (hX : X = 2 ^ w) : ∃ Q, (X + 1) ^ st + Q = Q * X ^ sz + undigs w (trim1 st sz) := by
  have hs : sz = 3 ∨ sz = 4 ∨ sz = 5 ∨ sz = 6 := by clear h1; omega
  have hz : ∀ n m : Nat, n + 0 = 0 * m + n := fun n m => by rw [Nat.zero_mul, Nat.zero_add]; rfl
  rcases h1 with rfl | rfl
  · have hc : ∀ m : Nat, (X + 1) ^ 3 + 0 = 0 * m + undigs w [1, 3, 3, 1] := fun m => (cube X).trans (by subst hX; exact (hz _ m).trans rfl)
    rcases hs with rfl | rfl | rfl | rfl
    · refine ⟨1, ?_⟩
      rw [show trim1 3 3 = [2, 3, 3] by decide +kernel, cube]; show _ = 1 * X ^ 3 + (2 + 2 ^ w * (3 + 2 ^ w * (3 + 2 ^ w * 0))); rw [← hX]; grind
    · exact ⟨0, hc _⟩
    · exact ⟨0, hc _⟩
    · exact ⟨0, hc _⟩
  · have h4 : ∀ m : Nat, (X + 1) ^ 4 + 0 = 0 * m + undigs w [1, 4, 6, 4, 1] := fun m => (quart X).trans (by subst hX; exact (hz _ m).trans rfl)
    rcases hs with rfl | rfl | rfl | rfl
    · refine ⟨X + 4, ?_⟩
      rw [show trim1 4 3 = [5, 5, 6] by decide +kernel, quart]; show _ = (X + 4) * X ^ 3 + (5 + 2 ^ w * (5 + 2 ^ w * (6 + 2 ^ w * 0))); rw [← hX]; grind
    · refine ⟨1, ?_⟩
      rw [show trim1 4 4 = [2, 4, 6, 4] by decide +kernel, quart]; show _ = 1 * X ^ 4 + (2 + 2 ^ w * (4 + 2 ^ w * (6 + 2 ^ w * (4 + 2 ^ w * 0)))); rw [← hX]; grind
    · exact ⟨0, h4 _⟩
    · exact ⟨0, h4 _⟩
end Mine

-- L1i
namespace Mine
open PySem PySem.Spec PySem.Calls PyProof.Rows PySem.W

section
variable {F : Orc} {W : Nat} {ns : List Int} {st ce sa w : Nat} {a b c d : Option MV}
noncomputable def zN (ns : List Int) (st ce sa : Nat) (a b c d x19 x20 x21 x22 x23 x24 x25 x26 x27 x28 x29 x30 : Option MV) : Z := { zL ns st ce sa (counts1 st sa ce) a b c d with v19 := x19, v20 := x20, v21 := x21, v22 := x22, v23 := x23, v24 := x24, v25 := x25, v26 := x26, v27 := x27, v28 := x28, v29 := x29, v30 := x30 }
noncomputable def R1 (w ce : Nat) : Nat := 2 ^ (w * (ce + 2)) - 1
noncomputable def t1 (ns : List Int) : Int := 1 - 2 * ns.sum.fmod 2
noncomputable def f1 (ns : List Int) (w ce : Nat) : Int := (((dr [0, 1, 1, 2, 4, 3] ns).getD 4 0).fmod 7 - 3) * ((R1 w ce : Int) + 1) + ((dr [0, 1, 1, 2, 4, 3] ns).getD 5 0).fmod 9 - 4
noncomputable def dd1 (ns : List Int) (w ce st : Nat) : Int := (((2 ^ w : Nat) : Int) + 1) ^ st + f1 ns w ce * (R1 w ce : Int)
noncomputable def rest1 (w ce st : Nat) : Nat := undigs w (trim1 st (ce + 2))

structure Big (ns : List Int) (w : Nat) : Prop where
  ew : (w : Int) = 6 + ns.sum.fmod 1400
theorem Big.ex (ns : List Int) : ∃ w, Big ns w := by
  have := fmod_range (a := ns.sum) (b := 1400) (by decide)
  exact ⟨(6 + ns.sum.fmod 1400).toNat, Big.mk (by omega)⟩
theorem Big.lo (B : Big ns w) : 6 ≤ w ∧ w ≤ 1405 := by
  have := fmod_range (a := ns.sum) (b := 1400) (by decide)
  have := B.ew; omega
theorem fold_facts (D : Dr1 ns st ce sa) : (∀ x ∈ trim1 st (ce + 2), x ≤ 16) ∧ (trim1 st (ce + 2)).length ≤ ce + 2 ∧ (∃ l y, trim1 st (ce + 2) = l ++ [y] ∧ y ≠ 0) ∧ (trim1 st (ce + 2)).sum = 2 ^ st ∧ trim1 st (ce + 2) ++ List.replicate (ce + 2 - (trim1 st (ce + 2)).length) 0 = fold1 st (ce + 2) := by
  obtain ⟨h, h7⟩ := Bool.and_eq_true_iff.mp (okFold_of D.st34 (Nat.succ_le_succ (Nat.succ_le_succ D.ce14.1)) (Nat.succ_le_succ D.ce5))
  obtain ⟨h, h6⟩ := Bool.and_eq_true_iff.mp h
  obtain ⟨h, h5⟩ := Bool.and_eq_true_iff.mp h
  obtain ⟨h, h4⟩ := Bool.and_eq_true_iff.mp h
  obtain ⟨h2, h3⟩ := Bool.and_eq_true_iff.mp h
  have h4 := of_decide_eq_true h4
  refine ⟨fun x hx => of_decide_eq_true (List.all_eq_true.mp h2 x hx), of_decide_eq_true h3, ⟨(trim1 st (ce + 2)).dropLast, (trim1 st (ce + 2)).getLast h4, (List.dropLast_concat_getLast h4).symm, ?_⟩, of_decide_eq_true h6, eq_of_beq h7⟩
  have h5 := of_decide_eq_true h5
  rw [List.getLastD_eq_getLast?, List.getLast?_eq_some_getLast h4] at h5
  exact h5
theorem two_w (B : Big ns w) : 64 ≤ 2 ^ w := Nat.pow_le_pow_right (n := 2) (by decide) (show 6 ≤ w from B.lo.1)
theorem trim_lt2 (D : Dr1 ns st ce sa) (B : Big ns w) : ∀ x ∈ trim1 st (ce + 2), x + 2 ≤ 2 ^ w := fun x hx => Nat.le_trans (Nat.add_le_add_right ((fold_facts D).1 x hx) 2) (Nat.le_trans (by decide) (two_w B))
theorem trim_lt (D : Dr1 ns st ce sa) (B : Big ns w) : ∀ x ∈ trim1 st (ce + 2), x < 2 ^ w := fun x hx => Nat.lt_of_lt_of_le (Nat.lt_add_of_pos_right (by decide)) (trim_lt2 D B x hx)
theorem wsz_ne (B : Big ns w) : w * (ce + 2) ≠ 0 := Nat.ne_of_gt (Nat.mul_pos (Nat.le_trans (by decide) B.lo.1) (Nat.succ_pos _))
theorem R1_pos (B : Big ns w) : 0 < R1 w ce := Nat.sub_pos_of_lt (Nat.one_lt_two_pow (wsz_ne B))
theorem R1_succ : R1 w ce + 1 = 2 ^ (w * (ce + 2)) := Nat.sub_add_cancel (Nat.two_pow_pos _)
theorem R1_int : (R1 w ce : Int) + 1 = ((2 ^ w : Nat) : Int) ^ (ce + 2) := by
  rw [← Int.natCast_pow, ← Nat.pow_mul, ← R1_succ]; rfl
theorem wsz_le (D : Dr1 ns st ce sa) (B : Big ns w) : 18 ≤ w * (ce + 2) ∧ w * (ce + 2) ≤ 8430 :=
  ⟨Nat.mul_le_mul B.lo.1 (Nat.succ_le_succ (Nat.succ_le_succ D.ce14.1)), Nat.mul_le_mul B.lo.2 (Nat.succ_le_succ D.ce5)⟩
theorem rest_lt (D : Dr1 ns st ce sa) (B : Big ns w) : rest1 w ce st < R1 w ce := by
  have h := trim_lt2 D B
  obtain ⟨_, hl, ⟨l, y, e, _⟩, _⟩ := fold_facts D
  refine Nat.lt_sub_of_add_lt (Nat.lt_of_lt_of_le ?_ (Nat.pow_le_pow_right (by decide) (Nat.mul_le_mul_left w hl)))
  unfold rest1
  cases q : trim1 st (ce + 2) with
  | nil => rw [q] at e; exact absurd e.symm (List.append_ne_nil_of_right_ne_nil _ (List.cons_ne_nil _ _))
  | cons d r => rw [q] at h; exact undigs_small h
theorem bits_R (D : Dr1 ns st ce sa) (B : Big ns w) : bits (R1 w ce : Int) = w * (ce + 2) := by
  have hp := R1_pos (ce := ce) B
  have hn := wsz_ne (ce := ce) B
  unfold R1 at hp ⊢
  cases hk : w * (ce + 2) with
  | zero => exact absurd hk hn
  | succ k =>
    rw [hk] at hp
    refine (bits_eq (Nat.ne_of_gt hp)).mpr ⟨Nat.le_sub_of_add_le ?_, Nat.sub_lt (Nat.two_pow_pos _) Nat.one_pos⟩
    rw [Nat.pow_succ, Nat.mul_two]
    exact Nat.add_le_add_left (Nat.two_pow_pos k) _
theorem dd_split (D : Dr1 ns st ce sa) : ∃ q : Int, q * (R1 w ce : Int) + (rest1 w ce st : Int) = dd1 ns w ce st := by
  obtain ⟨Q, hQ⟩ := pow_fold (X := 2 ^ w) D.st34 (Nat.succ_le_succ (Nat.succ_le_succ D.ce14.1)) (Nat.succ_le_succ D.ce5) rfl
  have hQ' : (((2 ^ w : Nat) : Int) + 1) ^ st + (Q : Int) = (Q : Int) * ((2 ^ w : Nat) : Int) ^ (ce + 2) + (rest1 w ce st : Int) := by
    rw [show ((2 ^ w : Nat) : Int) + 1 = ((2 ^ w + 1 : Nat) : Int) from rfl, ← Int.natCast_pow, ← Int.natCast_add, hQ, Int.natCast_add, Int.natCast_mul, Int.natCast_pow]; rfl
  have e : (((2 ^ w : Nat) : Int) + 1) ^ st = (Q : Int) * (R1 w ce : Int) + (rest1 w ce st : Int) := (Int.add_left_inj (Q : Int)).mp (by rw [hQ', ← R1_int, Int.mul_add, Int.mul_one, Int.add_right_comm])
  refine ⟨Q + f1 ns w ce, ?_⟩
  unfold dd1
  rw [e, Int.add_mul, Int.add_right_comm]
theorem dd_div (D : Dr1 ns st ce sa) (B : Big ns w) : (dd1 ns w ce st).fmod (R1 w ce) = rest1 w ce st ∧ (dd1 ns w ce st).fdiv (R1 w ce) * (R1 w ce : Int) + (rest1 w ce st : Int) = dd1 ns w ce st := by
  obtain ⟨q, hq⟩ := dd_split (w := w) D
  obtain ⟨u1, u2⟩ := fd_unique (Int.natCast_pos.mpr (R1_pos (ce := ce) B)) hq (Int.natCast_nonneg _) (Int.ofNat_lt.mpr (rest_lt D B))
  exact ⟨u2, by rw [u1]; exact hq⟩
theorem t1_cases (ns : List Int) : t1 ns = 1 ∨ t1 ns = -1 := by
  rcases fm2 (a := ns.sum) with h | h
  · left; rw [t1, h]; rfl
  · right; rw [t1, h]; rfl
theorem dm_turn (D : Dr1 ns st ce sa) (B : Big ns w) : dm (t1 ns * dd1 ns w ce st) (t1 ns * (R1 w ce : Int)) = .tuple [.int ((dd1 ns w ce st).fdiv (R1 w ce)), .int (t1 ns * (rest1 w ce st : Int))] := by
  have h1 := (dd_div D B).1
  have h2 := Int.natCast_pos.mpr (R1_pos (ce := ce) B)
  unfold dm
  rcases t1_cases ns with e | e
  · rw [e, Int.one_mul, Int.one_mul, Int.one_mul, h1]
  · rw [e, Int.neg_mul, Int.neg_mul, Int.neg_mul, Int.one_mul, Int.one_mul, Int.one_mul]
    obtain ⟨u1, u2⟩ := neg_fd (a := -(dd1 ns w ce st)) (Int.neg_neg_of_pos h2)
    rw [u1, u2, Int.neg_neg, Int.neg_neg, h1]
theorem bits_mod {x : Int} {k m : Nat} (h : 0 ≤ x ∧ x < ((2 * k + 1 : Nat) : Int)) (hk : k < 2 ^ m) : bits (x - k) ≤ m := by
  exact bits_le.mpr (Nat.lt_of_le_of_lt (by omega) hk)
theorem bits_f (D : Dr1 ns st ce sa) (B : Big ns w) : bits (f1 ns w ce) ≤ w * (ce + 2) + 4 := by
  have h1 := bits_mod (k := 3) (m := 2) (fmod_range (a := (dr [0, 1, 1, 2, 4, 3] ns).getD 4 0) (b := 7) (by decide)) (by decide)
  have h2 := bits_mod (k := 4) (m := 3) (fmod_range (a := (dr [0, 1, 1, 2, 4, 3] ns).getD 5 0) (b := 9) (by decide)) (by decide)
  have h3 : bits ((R1 w ce : Int) + 1) ≤ w * (ce + 2) + 1 := small_bits (x := R1 w ce + 1) (by rw [R1_succ]; exact Nat.pow_lt_pow_right (by decide) (Nat.lt_succ_self _))
  have h := intBits_add_le (intBits_mul_le h1 h3) h2
  rw [← Int.add_sub_assoc] at h
  refine Nat.le_trans h (Nat.succ_le_succ (Nat.max_le.mpr ⟨Nat.le_of_eq ?_, Nat.le_add_left ..⟩))
  rw [Nat.add_comm]
theorem bits_dd (D : Dr1 ns st ce sa) (B : Big ns w) : bits (dd1 ns w ce st) ≤ 30000 := by
  have h3 := (wsz_le D B).2
  have hw : bits (((2 ^ w : Nat) : Int) + 1) ≤ w + 1 :=
    small_bits (x := 2 ^ w + 1) (by rw [Nat.pow_succ, Nat.mul_two]; exact Nat.add_lt_add_left (Nat.lt_of_lt_of_le (by decide) (two_w B)) _)
  have hws : (w + 1) * st + 1 ≤ 29999 := Nat.le_trans (Nat.succ_le_succ (Nat.mul_le_mul (Nat.succ_le_succ B.lo.2) D.st16)) (by decide)
  refine Nat.le_trans (intBits_add_le (intBits_pow_le hw st) (intBits_mul_le (bits_f D B) (Nat.le_of_eq (bits_R D B)))) (Nat.succ_le_succ (Nat.max_le.mpr ⟨hws, ?_⟩))
  exact Nat.le_trans (Nat.add_le_add (Nat.add_le_add_right h3 4) h3) (by decide)
end
end Mine

-- L1j
namespace Mine
open PySem PySem.Spec PySem.Calls PyProof.Rows PySem.W

section
variable {F : Orc} {W : Nat} {ns : List Int} {st ce sa w : Nat} {a b c d : Option MV}
noncomputable def noOwn (loc : Loc) (i : Nat) : Bool := (MV.at MV.own? loc i).isNone
theorem frz_id {loc : Loc} : ∀ {L : List Nat}, L.all (noOwn loc) = true → frz L loc = loc
  | [], _ => rfl
  | i :: r, h => by
    obtain ⟨h1, h2⟩ := Bool.and_eq_true_iff.mp h
    show frz r ((MV.at MV.own? loc i).elim loc _) = loc
    rw [Option.isNone_iff_eq_none.mp h1]
    exact frz_id h2
noncomputable def pairD (ns : List Int) (w ce st : Nat) : PyData := .tuple [.int ((dd1 ns w ce st).fdiv (R1 w ce)), .int (t1 ns * (rest1 w ce st : Int))]
theorem mul_left {x y : Int} (h : bits x ≤ 64) : binV .Mult (.int x) (.int y) = some (.int (x * y)) :=
  if_pos (by unfold mulOk; rw [decide_eq_true h]; rfl)
theorem bits_t1 (ns : List Int) : bits (t1 ns) ≤ 64 := by rcases t1_cases ns with e | e <;> rw [e] <;> decide
theorem shl1 {n : Nat} (h : n ≤ 2 ^ 20) : binV .LShift (.int 1) (.int (n : Int)) = some (.int ((2 ^ n : Nat) : Int)) := by
  have := binV_shl (a := 1) (n := n) (m := 1) (by decide) (Nat.le_trans (Nat.add_le_add_left h 1) (by decide))
  rw [Nat.one_mul] at this; exact this
theorem Big.w11 (B : Big ns w) : w ≤ 2 ^ 11 := Nat.le_trans B.lo.2 (by decide)
theorem Big.w20 (B : Big ns w) : w ≤ 2 ^ 20 := Nat.le_trans B.w11 (by decide)
theorem Big.w9 (B : Big ns w) : w ≤ 9000 := Nat.le_trans B.lo.2 (by decide)
theorem Big.w1 (B : Big ns w) : 1 ≤ w := Nat.le_trans (by decide) B.lo.1
theorem Dr1.c2 (D : Dr1 ns st ce sa) : ce + 2 ≤ 6 := Nat.succ_le_succ D.ce5
theorem ne_pl (l : List Nat) : cmpV .NotEq (.list (pl l)) (.list (pl l)) = some false := by
  have hne := ne_ints (casts l)
  rw [pl_casts] at hne; exact hne
theorem len_pl {l : List Nat} (h : l.length ≤ 2 ^ 20) : biV 0 [.list (pl l)] = some (.int (l.length : Int)) :=
  (if_pos (show (pl l).length ≤ 2 ^ 24 by rw [pl_len]; exact le24 h)).trans (by rw [pl_len])
theorem ev_cmp2 {l : Loc} {o1 o2 : CmpOp} {e1 e2 e3 : ME} {x y z : PyData} {t : Bool} (h1 : evE F l e1 = some x) (h2 : evE F l e2 = some y) (h3 : evE F l e3 = some z) (c1 : cmpV o1 x y = some true) (c2 : cmpV o2 y z = some t) : evE F l (.cmp2 o1 o2 e1 e2 e3) = some (.bool t) :=
  bindV h1 (bindV h2 (bindV c1 (by rw [if_pos rfl]; exact bindV h3 (mapV c2))))

noncomputable def y1 (ns : List Int) (st ce sa w : Nat) (a b c d : Option MV) : Loc := (zN ns st ce sa a b c d (nv w) none none none none none none none none none none none).loc
noncomputable def y2 (ns : List Int) (st ce sa w : Nat) (a b c d : Option MV) : Loc := (zN ns st ce sa a b c d (nv w) (nv (ce + 2)) none none none none none none none none none none).loc
noncomputable def y3 (ns : List Int) (st ce sa w : Nat) (a b c d : Option MV) : Loc := (zN ns st ce sa a b c d (nv w) (nv (ce + 2)) (nv (R1 w ce)) none none none none none none none none none).loc
noncomputable def y4 (ns : List Int) (st ce sa w : Nat) (a b c d : Option MV) : Loc := (zN ns st ce sa a b c d (nv w) (nv (ce + 2)) (nv (R1 w ce)) (iv (f1 ns w ce)) none none none none none none none none).loc
noncomputable def y5 (ns : List Int) (st ce sa w : Nat) (a b c d : Option MV) : Loc := (zN ns st ce sa a b c d (nv w) (nv (ce + 2)) (nv (R1 w ce)) (iv (f1 ns w ce)) (iv (dd1 ns w ce st)) none none none none none none none).loc
noncomputable def y6 (ns : List Int) (st ce sa w : Nat) (a b c d : Option MV) : Loc := (zN ns st ce sa a b c d (nv w) (nv (ce + 2)) (nv (R1 w ce)) (iv (f1 ns w ce)) (iv (dd1 ns w ce st)) (iv (t1 ns)) none none none none none none).loc
noncomputable def y7 (ns : List Int) (st ce sa w : Nat) (a b c d : Option MV) : Loc := (zN ns st ce sa a b c d (nv w) (nv (ce + 2)) (nv (R1 w ce)) (iv (f1 ns w ce)) (iv (dd1 ns w ce st)) (iv (t1 ns)) (dv (pairD ns w ce st)) none none none none none).loc
noncomputable def y9 (ns : List Int) (st ce sa w : Nat) (a b c d : Option MV) : Loc := (zN ns st ce sa a b c d (nv w) (nv (ce + 2)) (nv (R1 w ce)) (iv (f1 ns w ce)) (iv (dd1 ns w ce st)) (iv (t1 ns)) (dv (pairD ns w ce st)) (iv ((dd1 ns w ce st).fdiv (R1 w ce))) (iv (t1 ns * (rest1 w ce st : Int))) none none none).loc
noncomputable def y10 (ns : List Int) (st ce sa w : Nat) (a b c d : Option MV) : Loc := (zN ns st ce sa a b c d (nv w) (nv (ce + 2)) (nv (R1 w ce)) (iv (f1 ns w ce)) (iv (dd1 ns w ce st)) (iv (t1 ns)) (dv (pairD ns w ce st)) (iv ((dd1 ns w ce st).fdiv (R1 w ce))) (iv (t1 ns * (rest1 w ce st : Int))) (nv (rest1 w ce st)) none none).loc
noncomputable def y11 (ns : List Int) (st ce sa w : Nat) (a b c d : Option MV) : Loc := (zN ns st ce sa a b c d (nv w) (nv (ce + 2)) (nv (R1 w ce)) (iv (f1 ns w ce)) (iv (dd1 ns w ce st)) (iv (t1 ns)) (dv (pairD ns w ce st)) (iv ((dd1 ns w ce st).fdiv (R1 w ce))) (iv (t1 ns * (rest1 w ce st : Int))) (nv (rest1 w ce st)) (dv (.list (pl (trim1 st (ce + 2))))) none).loc
noncomputable def y12 (ns : List Int) (st ce sa w : Nat) (a b c d : Option MV) : Loc := (zN ns st ce sa a b c d (nv w) (nv (ce + 2)) (nv (R1 w ce)) (iv (f1 ns w ce)) (iv (dd1 ns w ce st)) (iv (t1 ns)) (dv (pairD ns w ce st)) (iv ((dd1 ns w ce st).fdiv (R1 w ce))) (iv (t1 ns * (rest1 w ce st : Int))) (nv (rest1 w ce st)) (dv (.list (pl (fold1 st (ce + 2))))) none).loc
theorem s17 (B : Big ns w) : evS F W s1_law_17 (zL ns st ce sa (counts1 st sa ce) a b c d).loc = some (.next, (y1 ns st ce sa w a b c d)) :=
  asg' (d := .int (w : Int)) (ev_bin rfl (ev_bin rfl rfl (mod_ev (by decide))) (by rw [B.ew]; rfl))
theorem s18 : evS F W s1_law_18 (y1 ns st ce sa w a b c d) = some (.next, (y2 ns st ce sa w a b c d)) := asg' (ev_bin rfl rfl rfl)
theorem s19 (D : Dr1 ns st ce sa) (B : Big ns w) : evS F W s1_law_19 (y2 ns st ce sa w a b c d) = some (.next, (y3 ns st ce sa w a b c d)) := by
  have m1 : binV .Mult (.int (w : Int)) (.int ((ce + 2 : Nat) : Int)) = some (.int ((w * (ce + 2) : Nat) : Int)) :=
    (mul_left (Nat.le_trans (small_bits (m := 12) (Nat.lt_of_le_of_lt B.w11 (by decide))) (by decide))).trans (congrArg (fun i => some (PyData.int i)) (Int.natCast_mul ..).symm)
  exact asg' (d := .int (R1 w ce : Int)) (ev_bin (ev_bin rfl (ev_bin rfl rfl m1) (shl1 (Nat.le_trans (wsz_le D B).2 (by decide)))) rfl (binV_sub1 (Nat.two_pow_pos _)))
theorem full_digs (D : Dr1 ns st ce sa) (B : Big ns w) : digs w (ce + 2) (R1 w ce) = List.replicate (ce + 2) (2 ^ w - 1) := by
  have h := undigs_full (n := w) (ce + 2)
  have h2 := digs_undigs (n := w) (l := List.replicate (ce + 2) (2 ^ w - 1)) fun x hx => by rw [List.eq_of_mem_replicate hx]; exact Nat.sub_lt (Nat.two_pow_pos w) Nat.one_pos
  rw [List.length_replicate] at h2
  rw [show R1 w ce = undigs w (List.replicate (ce + 2) (2 ^ w - 1)) by rw [R1, ← h, Nat.add_sub_cancel]]
  exact h2
theorem s20 (H : F1 F) (D : Dr1 ns st ce sa) (B : Big ns w) : evS F W s1_law_20 (y3 ns st ce sa w a b c d) = some (.next, (y3 ns st ce sa w a b c d)) := by
  have h1 := B.w1
  have hcnt : (bits (R1 w ce : Int) + w - 1) / w = ce + 2 := by
    rw [bits_R D B, Nat.add_sub_assoc h1, Nat.add_comm, Nat.add_mul_div_left _ _ h1, Nat.div_eq_of_lt (Nat.sub_lt h1 Nat.one_pos), Nat.zero_add]
  have hc : ce + 2 ≤ 2 ^ 20 := Nat.le_trans D.c2 (by decide)
  have h6 := H.h6 (R1 w ce) w h1 B.w9 (by rw [hcnt]; exact Nat.le_trans D.c2 (by decide))
  rw [hcnt, full_digs D B] at h6
  have a2 := compR (F := F) (z := (zN ns st ce sa a b c d (nv w) (nv (ce + 2)) (nv (R1 w ce)) none none none none none none none none none)) (it := .rng [(.var 20)]) (elt := .bin .Sub (.bin .LShift (.lit (.int 1)) (.var 19)) (.lit (.int 1))) (g := fun _ => .int ((2 ^ w - 1 : Nat) : Int)) (evI_rngN (n := ce + 2) rfl hc) (fun c _ => ev_bin (ev_bin rfl rfl (shl1 B.w20)) rfl (binV_sub1 (Nat.two_pow_pos _))) hc
  rw [List.map_const', List.length_range, show List.replicate (ce + 2) (PyData.int ((2 ^ w - 1 : Nat) : Int)) = pl (List.replicate (ce + 2) (2 ^ w - 1)) by rw [pl, List.map_replicate]] at a2
  exact if_false_ev rfl (ev_cmp (ev_call (evs2 rfl rfl) h6) a2 (ne_pl _))
theorem bits_fm {x : Int} (h : 0 ≤ x ∧ x < 7) : bits (x - 3) ≤ 64 := Nat.le_trans ((bits_le (m := 4)).mpr (by omega)) (by decide)
theorem s21 (D : Dr1 ns st ce sa) (B : Big ns w) : evS F W s1_law_21 (y3 ns st ce sa w a b c d) = some (.next, (y4 ns st ce sa w a b c d)) := by
  have d4 := subV_dr (own := [0, 1, 1, 2, 4, 3]) (ns := ns) (k := 4) (by decide)
  have d5 := subV_dr (own := [0, 1, 1, 2, 4, 3]) (ns := ns) (k := 5) (by decide)
  exact asg' (d := .int (f1 ns w ce)) (ev_bin (ev_bin (ev_bin (ev_bin (ev_bin (ev_subd rfl rfl d4) rfl (mod_ev (by decide))) rfl rfl) (ev_bin rfl rfl rfl) (mul_left (bits_fm (fmod_range (by decide))))) (ev_bin (ev_subd rfl rfl d5) rfl (mod_ev (by decide))) rfl) rfl rfl)
theorem bits_w1 (B : Big ns w) : bits (((2 ^ w : Nat) : Int) + 1) ≤ w + 1 :=
  small_bits (x := 2 ^ w + 1) (by rw [Nat.pow_succ, Nat.mul_two]; exact Nat.add_lt_add_left (Nat.lt_of_lt_of_le (by decide) (two_w B)) _)
theorem s22 (D : Dr1 ns st ce sa) (B : Big ns w) : evS F W s1_law_22 (y4 ns st ce sa w a b c d) = some (.next, (y5 ns st ce sa w a b c d)) := by
  have p1 : binV .Pow (.int (((2 ^ w : Nat) : Int) + 1)) (.int (st : Int)) = some (.int ((((2 ^ w : Nat) : Int) + 1) ^ st)) :=
    (if_pos ⟨Int.natCast_nonneg _, by rw [Int.toNat_natCast]; exact Nat.le_trans (Nat.mul_le_mul (Nat.le_trans (bits_w1 B) (Nat.succ_le_succ B.w11)) D.st16) (by decide)⟩).trans (by rw [Int.toNat_natCast])
  have m1 : binV .Mult (.int (f1 ns w ce)) (.int (R1 w ce : Int)) = some (.int (f1 ns w ce * (R1 w ce : Int))) := binV_mul (bits_f D B) (Nat.le_of_eq (bits_R D B)) (by have := (wsz_le D B).2; omega)
  exact asg' (d := .int (dd1 ns w ce st)) (ev_bin (ev_bin (ev_bin (ev_bin rfl rfl (shl1 B.w20)) rfl rfl) rfl p1) (ev_bin rfl rfl m1) rfl)
theorem s23 : evS F W s1_law_23 (y5 ns st ce sa w a b c d) = some (.next, (y6 ns st ce sa w a b c d)) :=
  asg' (d := .int (t1 ns)) (ev_bin rfl (ev_bin rfl (ev_bin rfl rfl (mod_ev (by decide))) (mul_left (by decide))) rfl)
theorem bits_turn {x : Int} : bits (t1 ns * x) = bits x := by
  have h : (t1 ns * x).natAbs = x.natAbs := by
    rcases t1_cases ns with e | e <;> rw [e]
    · rw [Int.one_mul]
    · rw [Int.neg_mul, Int.one_mul, Int.natAbs_neg]
  exact Nat.le_antisymm (intBits_le_of_natAbs (Nat.le_of_eq h) (Nat.le_refl _)) (intBits_le_of_natAbs (Nat.le_of_eq h.symm) (Nat.le_refl _))
theorem t1_t1 (x : Int) : t1 ns * (t1 ns * x) = x := by
  rcases t1_cases ns with e | e <;> rw [e]
  · rw [Int.one_mul, Int.one_mul]
  · rw [Int.neg_mul, Int.neg_mul, Int.one_mul, Int.one_mul, Int.neg_neg]
theorem s24 (H : F1 F) (D : Dr1 ns st ce sa) (B : Big ns w) : evS F W s1_law_24 (y6 ns st ce sa w a b c d) = some (.next, (y7 ns st ce sa w a b c d)) := by
  have hne : t1 ns * (R1 w ce : Int) ≠ 0 := fun q => by
    have := t1_t1 (ns := ns) (R1 w ce : Int)
    rw [q, Int.mul_zero] at this
    exact Nat.ne_of_gt (R1_pos (ce := ce) B) (Int.ofNat.inj this).symm
  have h9 := H.h9 (t1 ns * dd1 ns w ce st) (t1 ns * (R1 w ce : Int)) hne ⟨by rw [bits_turn, bits_R D B]; exact Nat.le_trans (wsz_le D B).2 (by decide), by rw [bits_turn, bits_turn, bits_R D B]; have := bits_dd D B; have := wsz_le D B; omega⟩
  rw [dm_turn D B] at h9
  exact asg' (d := pairD ns w ce st) (ev_call (evs2 (ev_bin rfl rfl (mul_left (bits_t1 ns))) (ev_bin rfl rfl (mul_left (bits_t1 ns)))) h9)
theorem s25 : evS F W s1_law_25 (y7 ns st ce sa w a b c d) = some (.next, (y9 ns st ce sa w a b c d)) := asgT' rfl
theorem s26 : evS F W s1_law_26 (y9 ns st ce sa w a b c d) = some (.next, (y10 ns st ce sa w a b c d)) :=
  asg' (ev_bin rfl rfl ((mul_left (bits_t1 ns)).trans (congrArg (fun i => some (PyData.int i)) (t1_t1 _))))
theorem ne_pair (x y : Int) : cmpV .NotEq (.tuple [.int x, .int y]) (.tuple [.int x, .int y]) = some false := by
  show some (!((x == x) && ((y == y) && true))) = some false
  rw [beq_self_eq_true, beq_self_eq_true]; rfl
theorem s27 (D : Dr1 ns st ce sa) (B : Big ns w) : evS F W s1_law_27 (y10 ns st ce sa w a b c d) = some (.next, (y10 ns st ce sa w a b c d)) := by
  have hw := (wsz_le D B).2
  have hq : bits ((dd1 ns w ce st).fdiv (R1 w ce)) ≤ 30000 := intBits_fdiv_le (bits_dd D B)
  have m1 : binV .Mult (.int ((dd1 ns w ce st).fdiv (R1 w ce))) (.int (R1 w ce : Int)) = some (.int ((dd1 ns w ce st).fdiv (R1 w ce) * (R1 w ce : Int))) := binV_mul hq (Nat.le_of_eq (bits_R D B)) (by omega)
  exact if_false_ev (l0 := (y10 ns st ce sa w a b c d)) (frz_id (by rfl)) (ev_or_f (ev_cmp (x := pairD ns w ce st) (y := pairD ns w ce st) rfl (ev_tup2 rfl rfl) (ne_pair _ _)) rfl rfl
    (ev_or_f (ev_cmp (ev_bin (ev_bin rfl rfl m1) rfl rfl) rfl (cmp_ne_f (dd_div D B).2)) rfl rfl
      (ev_un (ev_cmp2 rfl rfl rfl (cmp_le_t (Int.natCast_nonneg (rest1 w ce st))) (cmp_lt_t (Int.ofNat_lt.mpr (rest_lt D B)))) rfl)))
theorem s28 (H : F1 F) (D : Dr1 ns st ce sa) (B : Big ns w) : evS F W s1_law_28 (y10 ns st ce sa w a b c d) = some (.next, (y11 ns st ce sa w a b c d)) := by
  have FF := fold_facts D
  obtain ⟨l, y, f3, f4⟩ := FF.2.2.1
  have hlt := trim_lt D B
  have hcnt : (bits (rest1 w ce st : Int) + w - 1) / w = (trim1 st (ce + 2)).length := by
    unfold rest1
    rw [f3] at hlt ⊢
    rw [cnt_undigs B.w1 hlt f4, List.length_append]; rfl
  have h6 := H.h6 (rest1 w ce st) w B.w1 B.w9 (by rw [hcnt]; exact Nat.le_trans FF.2.1 (Nat.le_trans D.c2 (by decide)))
  rw [hcnt, show digs w (trim1 st (ce + 2)).length (rest1 w ce st) = trim1 st (ce + 2) from digs_undigs hlt] at h6
  exact asg' (d := .list (pl (trim1 st (ce + 2)))) (ev_call (evs2 rfl rfl) h6)
theorem sum_casts : ∀ (l : List Nat), (casts l).sum = ((l.sum : Nat) : Int)
  | [] => rfl
  | x :: r => (congrArg ((x : Int) + ·) (sum_casts r)).trans (Int.natCast_add x r.sum).symm
theorem clip_m1 (n : Nat) : clipAt (n + 1) (-1) = n := by
  unfold clipAt
  simp; omega
theorem slice_m1 {l : List Nat} {y : Nat} (h : l.length ≤ 2 ^ 19) : sliceV (.list (pl (l ++ [y]))) (.int (-1)) .none = some (.list [.int (y : Int)]) := by
  have hl : (pl (l ++ [y])).length = l.length + 1 := by rw [pl_len, List.length_append]; rfl
  refine (if_pos (by rw [hl]; exact Nat.le_trans (Nat.succ_le_succ h) (by decide))).trans ?_
  show some (PyData.list (((pl (l ++ [y])).drop (clipAt (pl (l ++ [y])).length (-1))).take ((pl (l ++ [y])).length - clipAt (pl (l ++ [y])).length (-1)))) = _
  rw [hl, clip_m1, Nat.add_sub_cancel_left, pl, List.map_append, List.drop_left' (List.length_map ..)]; rfl
theorem eq_one {y : Nat} (h : y ≠ 0) : cmpV .Eq (.list [.int (y : Int)]) (.list [.int 0]) = some false := by
  have hy : ((y : Int) == 0) = false := beq_eq_false_iff_ne.mpr fun q => h (Int.ofNat.inj q)
  show some (((y : Int) == 0) && true) = some false
  rw [hy]; rfl
theorem s29 (D : Dr1 ns st ce sa) (B : Big ns w) : evS F W s1_law_29 (y11 ns st ce sa w a b c d) = some (.next, (y11 ns st ce sa w a b c d)) := by
  obtain ⟨f1', f2, ⟨l, y, f3, f4⟩, f5, _⟩ := fold_facts D
  have hlen : (trim1 st (ce + 2)).length ≤ 6 := Nat.le_trans f2 D.c2
  have hl : biV 0 [.list (pl (trim1 st (ce + 2)))] = some (.int ((trim1 st (ce + 2)).length : Int)) := len_pl (Nat.le_trans hlen (by decide))
  have hs : sliceV (.list (pl (trim1 st (ce + 2)))) (.int (-1)) .none = some (.list [.int (y : Int)]) := by
    rw [f3] at hlen ⊢
    exact slice_m1 (Nat.le_trans (Nat.le_trans (List.length_append ▸ Nat.le_add_right _ _) hlen) (by decide))
  have hb : biV 1 [.list (pl (trim1 st (ce + 2)))] = some (.int ((2 ^ st : Nat) : Int)) := by
    rw [← pl_casts, sum_ev, sum_casts, f5]
  exact if_false_ev (l0 := (y11 ns st ce sa w a b c d)) (frz_id (by rfl)) (ev_or_f (ev_cmp (ev_bi (evs1 rfl) hl) rfl (cmp_gt_f (Int.not_lt.mpr (Int.ofNat_le.mpr f2)))) rfl rfl
    (ev_or_f (ev_cmp (ev_slice rfl rfl rfl hs) rfl (eq_one f4)) rfl rfl (ev_cmp (ev_bi (evs1 rfl) hb) (ev_bin rfl rfl (pow_st D.st34)) (cmp_ne_f rfl))))
theorem s30 (H : F1 F) (D : Dr1 ns st ce sa) (B : Big ns w) : evS F W s1_law_30 (y11 ns st ce sa w a b c d) = some (.next, (y11 ns st ce sa w a b c d)) :=
  if_false_ev rfl (ev_cmp (ev_call (evs2 rfl rfl) (H.h7 w (trim1 st (ce + 2)) B.w9 (Nat.le_trans (fold_facts D).2.1 (Nat.le_trans D.c2 (by decide))) (trim_lt D B))) rfl (cmp_ne_f rfl))
theorem s31 (D : Dr1 ns st ce sa) : evS F W s1_law_31 (y11 ns st ce sa w a b c d) = some (.next, (y12 ns st ce sa w a b c d)) := by
  obtain ⟨f1', f2, _, _, f6⟩ := fold_facts D
  have hlen : (trim1 st (ce + 2)).length ≤ 6 := Nat.le_trans f2 D.c2
  have hl : biV 0 [.list (pl (trim1 st (ce + 2)))] = some (.int ((trim1 st (ce + 2)).length : Int)) := len_pl (Nat.le_trans hlen (by decide))
  have m : binV .Mult (.list [.int 0]) (.int ((ce + 2 - (trim1 st (ce + 2)).length : Nat) : Int)) = some (.list (pl (List.replicate (ce + 2 - (trim1 st (ce + 2)).length) 0))) := by
    have h6 : ce + 2 - (trim1 st (ce + 2)).length ≤ 6 := Nat.le_trans (Nat.sub_le ..) D.c2
    refine (if_pos ⟨show 1 ≤ 2 ^ 12 by decide, by omega, by omega⟩).trans ?_
    rw [Int.toNat_natCast, List.flatten_replicate_singleton, pl, List.map_replicate]; rfl
  have hadd : binV .Add (.list (pl (trim1 st (ce + 2)))) (.list (pl (List.replicate (ce + 2 - (trim1 st (ce + 2)).length) 0))) = some (.list (pl (fold1 st (ce + 2)))) :=
    (if_pos (by rw [pl_len, pl_len, List.length_replicate, Nat.add_sub_cancel' f2]; exact Nat.le_trans D.c2 (by decide))).trans (by rw [← f6, pl, pl, pl, List.map_append])
  exact asg' (ev_bin rfl (ev_bin rfl (ev_bin rfl (ev_bi (evs1 rfl) hl) (binV_subN f2)) m) hadd)
noncomputable def body32 : List MS := [.ite (.cmp .Eq (.bin .Mod (.bin .Sub (.bin .Add (.var 3) (.var 14)) (.var 5)) (.lit (.int 2))) (.lit (.int 0))) [.assign 30 (.subo 29 (.bin .Mod (.bin .FloorDiv (.bin .Sub (.bin .Add (.var 3) (.var 14)) (.var 5)) (.lit (.int 2))) (.var 20))), .ite (.cmp .NotEq (.subo 15 (.var 14)) (.bin .Sub (.var 30) (.subo 29 (.bin .Mod (.bin .Add (.bin .FloorDiv (.bin .Add (.bin .Add (.var 3) (.var 14)) (.var 5)) (.lit (.int 2))) (.lit (.int 1))) (.var 20))))) [.ret (.lit (.bool false))] []] []]
theorem body32_eq : s1_law_32 = .for_ (.one 14) (.rng [(.bin .Add (.var 4) (.lit (.int 1)))]) body32 := rfl
end
end Mine

-- L1k
namespace Mine
open PySem PySem.Spec PySem.Calls PyProof.Rows PySem.W

section
variable {F : Orc} {W : Nat} {ns : List Int} {st ce sa w : Nat} {a b c d : Option MV}
noncomputable def zE (ns : List Int) (st ce sa w : Nat) (a b c d v14 v30 : Option MV) : Z := { zN ns st ce sa a b c d (nv w) (nv (ce + 2)) (nv (R1 w ce)) (iv (f1 ns w ce)) (iv (dd1 ns w ce st)) (iv (t1 ns)) (dv (pairD ns w ce st)) (iv ((dd1 ns w ce st).fdiv (R1 w ce))) (iv (t1 ns * (rest1 w ce st : Int))) (nv (rest1 w ce st)) (dv (.list (pl (fold1 st (ce + 2))))) v30 with v14 := v14 }
theorem fold1_len (st sz : Nat) : (fold1 st sz).length = sz := (List.length_map ..).trans List.length_range
theorem fold_step_len : ∀ (l : List Nat) (cs : List Int), (l.foldl (step1 st sa ce) cs).length = cs.length
  | [], _ => rfl
  | x :: r, cs => (fold_step_len r _).trans (step1_len cs x)
theorem counts1_len (st sa ce : Nat) : (counts1 st sa ce).length = ce + 1 := (fold_step_len _ _).trans List.length_replicate
theorem end1_of (D : Dr1 ns st ce sa) {h : Nat} (hh : h < ce + 1) (hm : ((st : Int) + h - sa).fmod 2 = 0) : (counts1 st sa ce).getD h 0 = (((fold1 st (ce + 2)).getD ((((st : Int) + h - sa).fdiv 2).fmod (ce + 2 : Nat)).toNat 0 : Nat) : Int) - (((fold1 st (ce + 2)).getD (((((st : Int) + h + sa).fdiv 2) + 1).fmod (ce + 2 : Nat)).toNat 0 : Nat) : Int) := by
  have ht : endAll st = true := by rcases D.st34 with rfl | rfl <;> first | exact end_3 | exact end_4
  have h2 := D.sa_le
  have h1 := D.ce14
  obtain ⟨k, rfl⟩ : ∃ k, ce = k + 1 := ⟨ce - 1, (Nat.sub_add_cancel h1.1).symm⟩
  have := List.all_eq_true.mp (List.all_eq_true.mp ht k (List.mem_range.mpr h1.2)) sa (List.mem_range.mpr (Nat.lt_succ_of_le h2))
  have := List.all_eq_true.mp this h (List.mem_range.mpr hh)
  rcases Bool.or_eq_true_iff.mp this with q | q
  · exact absurd hm (bne_iff_ne.mp q)
  · exact eq_of_beq q
theorem subV_pl {l : List Nat} {i : Int} (hl : l.length ≤ 2 ^ 20) (h0 : 0 ≤ i ∧ i < l.length) : subV (.list (pl l)) (.int i) = some (.int ((l.getD i.toNat 0 : Nat) : Int)) := by
  obtain ⟨k, rfl⟩ := Int.eq_ofNat_of_zero_le h0.1
  have hk : k < l.length := Int.ofNat_lt.mp h0.2
  refine subV_L (by rw [pl_len]; exact hl) ?_
  rw [Int.toNat_natCast]
  unfold pl
  rw [List.getElem?_map, List.getElem?_eq_getElem hk, List.getD_eq_getElem?_getD, List.getElem?_eq_getElem hk]; rfl
theorem fold_get (D : Dr1 ns st ce sa) {i : Int} : subV (.list (pl (fold1 st (ce + 2)))) (.int (i.fmod ((ce + 2 : Nat) : Int))) = some (.int (((fold1 st (ce + 2)).getD (i.fmod ((ce + 2 : Nat) : Int)).toNat 0 : Nat) : Int)) :=
  subV_pl (by rw [fold1_len]; exact Nat.le_trans D.c2 (by decide)) (by rw [fold1_len]; exact fmod_range (Int.natCast_pos.mpr (Nat.succ_pos _)))
theorem step32 (D : Dr1 ns st ce sa) {h : Nat} (hh : h < ce + 1) (x : Option MV) : ∃ x', evSs F W body32 (zE ns st ce sa w a b c d (nv h) x).loc = some (.next, (zE ns st ce sa w a b c d (nv h) x').loc) := by
  have a2 : ∀ x, evE F (zE ns st ce sa w a b c d (nv h) x).loc (.bin .Sub (.bin .Add (.var 3) (.var 14)) (.var 5)) = some (.int ((st : Int) + h - sa)) := fun x => ev_bin (ev_bin rfl rfl rfl) rfl rfl
  have m2 : binV .Mod (.int ((st : Int) + h - sa)) (.int 2) = some (.int (((st : Int) + h - sa).fmod 2)) := mod_ev (by decide)
  by_cases hm : ((st : Int) + h - sa).fmod 2 = 0
  · have hv := end1_of D hh hm
    have hne : ((ce + 2 : Nat) : Int) ≠ 0 := Int.ne_of_gt (Int.natCast_pos.mpr (Nat.succ_pos _))
    have e15 : subV (.list ((counts1 st sa ce).map .int)) (.int (h : Int)) = some (.int ((counts1 st sa ce).getD h 0)) :=
      subV_int (by rw [counts1_len]; exact Nat.le_trans D.ce5 (by decide)) (by rw [counts1_len]; exact hh)
    have b3 : evE F (zE ns st ce sa w a b c d (nv h) x).loc (.subo 29 (.bin .Mod (.bin .FloorDiv (.bin .Sub (.bin .Add (.var 3) (.var 14)) (.var 5)) (.lit (.int 2))) (.var 20))) = some (.int (((fold1 st (ce + 2)).getD ((((st : Int) + h - sa).fdiv 2).fmod ((ce + 2 : Nat) : Int)).toNat 0 : Nat) : Int)) :=
      ev_subd rfl (ev_bin (ev_bin (a2 x) rfl (fdiv_ev (by decide) (by decide))) rfl (mod_ev hne)) (fold_get D)
    generalize (((fold1 st (ce + 2)).getD ((((st : Int) + h - sa).fdiv 2).fmod ((ce + 2 : Nat) : Int)).toNat 0 : Nat) : Int) = i at b3 hv
    have c5 : evE F (zE ns st ce sa w a b c d (nv h) (iv i)).loc (.subo 29 (.bin .Mod (.bin .Add (.bin .FloorDiv (.bin .Add (.bin .Add (.var 3) (.var 14)) (.var 5)) (.lit (.int 2))) (.lit (.int 1))) (.var 20))) = some (.int (((fold1 st (ce + 2)).getD (((((st : Int) + h + sa).fdiv 2) + 1).fmod (ce + 2 : Nat)).toNat 0 : Nat) : Int)) :=
      ev_subd rfl (ev_bin (ev_bin (ev_bin (ev_bin (ev_bin rfl rfl rfl) rfl rfl) rfl (fdiv_ev (by decide) (by decide))) rfl rfl) rfl (mod_ev hne)) (fold_get D)
    exact ⟨iv i, ss_step (ite_t (frz_id (by rfl)) (evT_cmp (ev_bin (a2 x) rfl m2) rfl (cmp_eq_t hm)) (ss_step (l' := (zE ns st ce sa w a b c d (nv h) (iv i)).loc) (asg_ev (frz_id (by rfl)) b3)
      (ss_step (if_false_ev (frz_id (by rfl)) (ev_cmp (ev_subo rfl rfl e15) (ev_bin rfl c5 rfl) (cmp_ne_f hv))) ss_nil0))) ss_nil0⟩
  · exact ⟨x, ss_step (ite_f0 (frz_id (by rfl)) (evT_cmp (ev_bin (a2 x) rfl m2) rfl (cmp_eq_f hm))) ss_nil0⟩
theorem loop32 (D : Dr1 ns st ce sa) : ∀ (m k : Nat) (y x : Option MV), k + m = ce + 1 → ∃ y' x', evFor (.one 14) (fun l => evSs F W body32 l) (ilist k m) (zE ns st ce sa w a b c d y x).loc = some (.next, (zE ns st ce sa w a b c d y' x').loc)
  | 0, _, y, x, _ => ⟨y, x, rfl⟩
  | m + 1, k, y, x, hk => by
    obtain ⟨x2, e⟩ := step32 (F := F) (W := W) (w := w) (a := a) (b := b) (c := c) (d := d) D (h := k) (hk ▸ Nat.lt_add_of_pos_right (Nat.succ_pos m)) x
    obtain ⟨y', x', e2⟩ := loop32 D m (k + 1) (nv k) x2 ((Nat.succ_add_eq_add_succ k m).trans hk)
    rw [ilist_succ]
    exact ⟨y', x', (for_go rfl e).trans e2⟩
theorem s32 (D : Dr1 ns st ce sa) : ∃ y x, evS F W s1_law_32 (zE ns st ce sa w a b c d none none).loc = some (.next, (zE ns st ce sa w a b c d y x).loc) := by
  obtain ⟨y, x, e⟩ := loop32 (F := F) (W := W) (w := w) (a := a) (b := b) (c := c) (d := d) D (ce + 1) 0 none none (Nat.zero_add _)
  exact ⟨y, x, for' (evI_rngN (n := ce + 1) (ev_bin rfl rfl rfl) (Nat.le_trans D.ce5 (by decide))) e⟩
end
/-- law 01 -/
theorem law1_ev {F : Orc} {W : Nat} (H : F1 F) {ns : List Int} (hn : ns.length ≤ 63) : evFn F W m1_law [.list (ns.map .int)] = some (.bool true) := by
  obtain ⟨st, ce, sa, D⟩ := Dr1.ex hn
  obtain ⟨w, B⟩ := Big.ex ns
  obtain ⟨a, b, c, d, e16⟩ := counts_st (W := W) H D
  obtain ⟨y, x, e32⟩ := s32 (F := F) (W := W) (w := w) (a := a) (b := b) (c := c) (d := d) D
  refine evFn_ret (fn := m1_law) (loc := (z0 ns).loc) (loc' := (zE ns st ce sa w a b c d y x).loc) rfl rfl (st_0_5 H D ?_)
  refine ss_step (rows_st D) (ss_step (climbs_st H D) (ss_step (texts_st H D) (ss_step (given_st D) (ss_step (kept_st H D) (ss_step (check1_st D) (ss_step (check2_st H D) (ss_step (check3_st H D) (ss_step (ramp_st D) (ss_step (counts0_st D) (ss_step e16 ?_))))))))))
  refine ss_step (s17 B) (ss_step s18 (ss_step (s19 D B) (ss_step (s20 H D B) (ss_step (s21 D B) (ss_step (s22 D B) (ss_step s23 (ss_step (s24 H D B) (ss_step s25 (ss_step s26 (ss_step (s27 D B) (ss_step (s28 H D B) (ss_step (s29 D B) (ss_step (s30 H D B) (ss_step (s31 D) ?_))))))))))))))
  exact ss_step e32 (ss_ret (ret' rfl))
end Mine

-- H1
namespace Mine
open PySem PySem.Spec PySem.Calls PyProof.Rows PySem.W

/-! ## the head: from the top to the state -/
noncomputable abbrev prs (tabs : List Tab) : List (Addr × Addr) := tabs.map fun t => (t.c, t.P)
noncomputable abbrev exs (tabs : List Tab) : List Addr := (prs tabs).map (·.2)
theorem mem_exs {tabs : List Tab} {t : Tab} (h : t ∈ tabs) : t.P ∈ exs tabs := List.mem_map.mpr ⟨(t.c, t.P), List.mem_map.mpr ⟨t, h, rfl⟩, rfl⟩
theorem of_exs {tabs : List Tab} {a : Addr} (h : a ∈ exs tabs) : ∃ t ∈ tabs, t.P = a := by
  obtain ⟨q, hq, rfl⟩ := List.mem_map.mp h
  obtain ⟨t, ht, rfl⟩ := List.mem_map.mp hq
  exact ⟨t, ht, rfl⟩
section
variable {prog : Program} {w : World} {p : Program} {loose : List Str} {mean : ExcName → Option Value} {mg mb : Str → Option Value} {s : Shared} {tabs : List Tab}
theorem codeRec_ghost (hT : TabsAt (prs tabs) s.heap) {code : Value} {name : Str} (h : s.heap.CodeRec code name) : (Fz s.heap (exs tabs)).CodeRec code name := by
  obtain ⟨c, oc, vs, t, e1, e2, e3, e4⟩ := h
  refine ⟨c, oc, vs, t, e1, ghost_get hT e2 fun q => ?_, e3, e4⟩
  subst q
  cases e3
  simp at e4
theorem gd_of (T : Top p loose mean mg mb s.heap) (hT : TabsAt (prs tabs) s.heap) (hown : ∀ t ∈ tabs, ∃ a o fd, mg t.own = some (.ref a) ∧ s.heap.get? a = some o ∧ o.data = .func fd ∧ fd.code = .ref t.c) :
    Gd ⟨prog, w, mg, mb, recsOf p, tabs⟩ (Fz s.heap (exs tabs)) where
  g := ghost_ns hT T.g
  b := ghost_ns hT T.b
  nolimit := let ⟨mc, a, r⟩ := T.nolimit; ⟨mc, ghost_ns hT a, r⟩
  builtins := T.builtins
  fn := fun d hd => by
    obtain ⟨a, o, pm, code, doc, h1, h2, h3, h4⟩ := T.fn d hd
    exact ⟨a, o, pm, code, doc, h1, ghost_get hT h2 (fun q => by rw [q] at h3; cases h3), h3, codeRec_ghost hT h4⟩
  bmain := let ⟨bm, ob, a1, a2, a3, a4, r⟩ := T.bmain; ⟨bm, ob, a1, a2, ghost_get hT a3 (fun q => by rw [q] at a4; cases a4), a4, r⟩
  heads := fun t ht => by
    obtain ⟨o, vs, file, tf, flags, tg, inF, text, tt, e1, r1, r2, r3, r4, r5, r6, r7, r8, hne⟩ := (hT (t.c, t.P) (List.mem_map.mpr ⟨t, ht, rfl⟩)).1
    exact ⟨o, vs, file, tf, flags, tg, inF, text, tt, ghost_get hT e1 (fun q => by rw [q] at r1; cases r1), r1, r2, r3, r4, r5, r6, r7, r8, hne⟩
  owner := fun t ht => by
    obtain ⟨a, o, fd, h1, h2, h3, h4⟩ := hown t ht
    exact ⟨a, o, fd, h1, ghost_get hT h2 (fun q => by rw [q] at h3; cases h3), h3, h4⟩
theorem st_of (T : Top p loose mean mg mb s.heap) (hT : TabsAt (prs tabs) s.heap) (hown : ∀ t ∈ tabs, ∃ a o fd, mg t.own = some (.ref a) ∧ s.heap.get? a = some o ∧ o.data = .func fd ∧ fd.code = .ref t.c) (hg : s.gens = #[]) :
    St ⟨prog, w, mg, mb, recsOf p, tabs⟩ (exs tabs) s where
  gd := gd_of T hT hown
  tabx := fun t ht => mem_exs ht
  there := fun a ha => by
    obtain ⟨t, ht, rfl⟩ := of_exs ha
    exact ⟨_, (hT (t.c, t.P) (List.mem_map.mpr ⟨t, ht, rfl⟩)).2⟩
  tab := fun t ht => ⟨#[], (hT (t.c, t.P) (List.mem_map.mpr ⟨t, ht, rfl⟩)).2, .inl rfl⟩
  bare := by rw [hg]; intro i g; simp at g
theorem room_caller {k : Nat} (h : k ≤ 40) : Room callerA k := by
  have h1 : callerA.depth + 40 < recursionLimit := by decide +kernel
  have h2 : callerA.units + 8 * 40 + 100 < cLine := by decide +kernel
  exact ⟨rfl, by omega, by omega⟩
theorem reads_ints {h h' : Heap} : ∀ {vs : List Value} {ns : List Int} {as : List Addr}, ReadsAll h vs (ns.map .int) as → ReadsAll h' vs (ns.map .int) as
  | _, [], _, .nil => .nil
  | _, n :: r, _, .cons r1 r2 => by
    cases r1
    exact .cons (.int _ _) (reads_ints r2)
/-- the call of the law -/
theorem law_goes {k : Nat} {cw : ClaimW} {cl : Str → Option Addr} {args : List WData} {l : Addr} {vs : List Value} {ns : List Int} {as : List Addr} {fa : Addr} {x : Str} (T : Top p loose mean mg mb s.heap) (hT : TabsAt (prs tabs) s.heap)
    (hown : ∀ t ∈ tabs, ∃ a o fd, mg t.own = some (.ref a) ∧ s.heap.get? a = some o ∧ o.data = .func fd ∧ fd.code = .ref t.c) (hg : s.gens = #[]) (hl : s.heap.IsList l vs.toArray) (hr : ReadsAll s.heap vs (ns.map .int) as) (hk : k ≤ 40) (hmg : mg x = some (.ref fa))
    (hS : Srv ⟨prog, w, mg, mb, recsOf p, tabs⟩ k x [.list (ns.map .int)] (.bool true)) (hraise : ∀ a cls, cw.raises a cls = false) (hpost : cw.post args (.bool true) args = true) {mean' : ExcName → Option Value} :
    wpAny (model prog w) callerA (call (.ref fa) [.ref l] []) (fun v s' => GoodWG cw cl mean' args s (.ok (.ret v)) s') (fun e s' => GoodWG cw cl mean' args s (.error e) s') s := by
  have S₀ := st_of (prog := prog) (w := w) T hT hown hg
  obtain ⟨o, e1, e2, n, e3⟩ := id hl
  have hread : ReadsAll (Fz s.heap (exs tabs)) [.ref l] [.list (ns.map .int)] _ :=
    .cons (.list (o := o) (vs := vs.toArray) (n := n) (ghost_get hT e1 (fun q => by rw [q] at e2; cases e2)) e2 e3 (by simpa using reads_ints hr)) .nil
  refine hS.2 fa hmg callerA s (exs tabs) _ _ _ _ (room_caller hk) S₀ hread fun v as' s' g S' r => ?_
  obtain rfl := inv_bool r
  refine ⟨.inl ⟨.bool true, .bool true, [], rfl, fun cls => hraise args cls, .bool true, hpost, fun _ => ⟨List.nodup_nil, fun _ h => nomatch h⟩⟩, ⟨fun b o e => ?_, fun b o e => g.alive b o e⟩, g.os, S'.bare⟩
  by_cases hb : isTab ⟨prog, w, mg, mb, recsOf p, tabs⟩ b
  · obtain ⟨t, ht, rfl⟩ := hb
    have h2 := hT (t.c, t.P) (List.mem_map.mpr ⟨t, ht, rfl⟩)
    have h3 := h2.2
    have h3' : s.heap.get? t.P = some (tabObj #[]) := h3
    rw [h3'] at e
    cases e
    obtain ⟨ps, q1, _⟩ := S'.tab t ht
    exact .inr (.inl ⟨(h2.1.tab h2.2).isCodeTable, rfl, #[], ps, rfl, by rw [Array.empty_append]; exact q1⟩)
  · exact .inl (g.keep b o (fun h => nomatch h) hb e)
end
end Mine

-- H2
namespace Mine
open PySem PySem.Spec PySem.Calls PyProof.Rows PySem.W

/-! ## what the head tells of the tables of two defs -/
noncomputable def refOf : Option Value → Option Addr
  | some (.ref a) => some a
  | _ => none
theorem refOf_some {v : Option Value} {a : Addr} (h : refOf v = some a) : v = some (.ref a) := by
  unfold refOf at h; split at h <;> cases h; rfl
noncomputable def codeOf : Data → Option Addr
  | .func fd => refOf (some fd.code)
  | _ => none
noncomputable def cellsOf : Data → Option Addr
  | .fields vs => refOf vs[11]?
  | _ => none
noncomputable def tabSee (h : Heap) (x : Str) (c P : Addr) : Bool := ((refOf (h.nsMap mainGlobals x)).bind fun a => (h.get? a).bind fun o => codeOf o.data) == some c && ((h.get? c).bind fun o => cellsOf o.data) == some P
structure TabSays (h : Heap) (x : Str) (c P : Addr) : Prop where
  fn : ∀ mg, h.Ns mainGlobals mg → ∃ a o fd, mg x = some (.ref a) ∧ h.get? a = some o ∧ o.data = .func fd ∧ fd.code = .ref c
  cd : ∃ o vs, h.get? c = some o ∧ o.data = .fields vs ∧ vs[11]? = some (.ref P)
  ns : ∃ mg, h.Ns mainGlobals mg
theorem TabSays.of {h : Heap} {x : Str} {c P : Addr} (hn : h.isNs mainGlobals = true) (e : tabSee h x c P = true) : TabSays h x c P := by
  unfold tabSee at e
  obtain ⟨e1, e2⟩ := Bool.and_eq_true_iff.mp e
  obtain ⟨a, ha, e1⟩ := Option.bind_eq_some_iff.mp (eq_of_beq e1)
  obtain ⟨o, ho, e1⟩ := Option.bind_eq_some_iff.mp e1
  obtain ⟨oc, hc, e2⟩ := Option.bind_eq_some_iff.mp (eq_of_beq e2)
  have n := Heap.Ns.of_isNs hn
  refine ⟨fun mg k => ?_, ?_, ⟨_, n⟩⟩
  · rw [Ns.inj k n]
    unfold codeOf at e1; split at e1
    · rename_i fd hd
      exact ⟨a, o, fd, refOf_some ha, ho, hd, Option.some.inj (refOf_some e1)⟩
    · cases e1
  · unfold cellsOf at e2; split at e2
    · rename_i vs hd
      exact ⟨oc, vs, hc, hd, refOf_some e2⟩
    · cases e2
theorem TabSays.keeps {h h' : Heap} {x : Str} {c P : Addr} (t : TabSays h x c P) (k : ∀ b o, h.get? b = some o → h'.get? b = some o) : TabSays h' x c P := by
  obtain ⟨mg, n⟩ := t.ns
  obtain ⟨o, vs, e1, e2⟩ := t.cd
  refine ⟨fun mg' n' => ?_, ⟨o, vs, k _ _ e1, e2⟩, ⟨mg, n.keeps k⟩⟩
  rw [Ns.inj n' (n.keeps k)]
  obtain ⟨a, o, fd, h1, h2, r⟩ := t.fn mg n
  exact ⟨a, o, fd, h1, k _ _ h2, r⟩
noncomputable def hookT (x y : Str) (c P c' P' : Addr) : Hook where
  α := Bool
  obs := fun s => s.heap.isNs mainGlobals && (tabSee s.heap x c P && tabSee s.heap y c' P')
  val := fun _ => true
  says := fun _ h => TabSays h x c P ∧ TabSays h y c' P'
  of := fun w s e => let e := Bool.and_eq_true_iff.mp e; let f := Bool.and_eq_true_iff.mp e.2; ⟨.of e.1 f.1, .of e.1 f.2⟩
  keeps := fun w h h' e k => ⟨e.1.keeps k, e.2.keeps k⟩
section
variable {p : Program} {loose : List Str} {mean : ExcName → Option Value} {mg mb : Str → Option Value} {h : Heap}
theorem tab_says {x : Str} {c P : Addr} (T : Top p loose mean mg mb h) (X : TabSays h x c P) {d : DefRec} (hd : d ∈ recsOf p) (hx : d.name = x) : CodeHd h c P ∧ h.get? P = some (tabObj #[]) := by
  obtain ⟨a, o, fd, c', P', h1, h2, h3, h4, h5, h6⟩ := T.tab d hd
  obtain ⟨a', o', fd', g1, g2, g3, g4⟩ := X.fn mg T.g
  rw [hx, g1] at h1; cases h1
  rw [g2] at h2; cases h2
  rw [g3] at h3; cases h3
  rw [g4] at h4; cases h4
  obtain ⟨oc, vs, k1, k2, k3⟩ := X.cd
  have e := CodeHd.of h5 h6
  obtain ⟨⟨o1, vs1, j1, j2, j3, j4⟩, j5⟩ := h6
  rw [k1] at j1; cases j1
  rw [k2] at j3; cases j3
  rw [k3] at j4; cases j4
  exact ⟨e, j5⟩
end
end Mine

-- P1
namespace Mine
open PySem PySem.Spec PySem.Calls PyProof.Rows PySem.W

noncomputable def recsP (p : Program) : List DefRec := p.main.body.filterMap fun st => match st with
  | .FunctionDef n a b _ _ _ sc _ _ pos => some ⟨n, a, b, sc, pos⟩
  | _ => none
noncomputable def dum : DefRec := ⟨"", { posonlyargs := [], args := [], vararg := none, kwonlyargs := [], kw_defaults := [], kwarg := none, defaults := [] }, [], { kind := .function, names := [], isGenerator := false, isCoroutine := false, more := [] }, ⟨0, 0, 0, 0⟩⟩
noncomputable def dOf (p : Program) (i : Nat) : DefRec := (recsP p).getD i dum
theorem dOf_mem {p : Program} {i : Nat} (h : i < (recsP p).length) : dOf p i ∈ recsP p := by
  unfold dOf
  rw [List.getD_eq_getElem?_getD, List.getElem?_eq_getElem h]
  exact List.getElem_mem h
noncomputable abbrev PQ : Program := Challenge.pw_rw0096_01
noncomputable abbrev DQ (i : Nat) : DefRec := dOf PQ i
theorem len_PQ : (recsP PQ).length = 17 := by decide +kernel
theorem mem_DQ {C : Cx} (hC : C.defs = recsP PQ) {i : Nat} (h : i < 17) : DQ i ∈ C.defs := by
  rw [hC]; exact dOf_mem (by rw [len_PQ]; exact h)
noncomputable def BindOk (d : DefRec) : Prop := ∀ pm code doc vals, vals.length = (paramsOf d).length → bindArgs (docDef d.name d.params d.body d.scope pm code doc) ⟨vals, []⟩ = pure ((paramsOf d).zip vals)
theorem fnOk_c {C : Cx} (hC : C.defs = recsP PQ) {i : Nat} {x : Str} {m : MFn} (hi : i < 17) (hx : (DQ i).name = x) (hok : defOk (DQ i) = true) (hb : BindOk (DQ i)) (hnp : (DQ i).params.args.length = m.np) (hc : cSs 60 (ccOf (DQ i).params (DQ i).scope fnsAll constsAll) (DQ i).body = some m.body) : FnOk C x m :=
  ⟨⟨DQ i, mem_DQ hC hi, hx, .of hok, hb, hnp, fun F k W O => (sndS_all (C := C) (F := F) (k := k) (W := W) 60).ss _ _ _ O hc⟩⟩
theorem fnOk_g {C : Cx} (hC : C.defs = recsP PQ) {i g : Nat} {x : Str} {m : MFn} (GD : GenDef C (DQ g)) (hi : i < 17) (hx : (DQ i).name = x) (hok : defOk (DQ i) = true) (hb : BindOk (DQ i)) (hnp : (DQ i).params.args.length = m.np) (hc : cSsG (DQ g).name 60 (ccOf (DQ i).params (DQ i).scope fnsAll constsAll) (DQ i).body = some m.body) : FnOk C x m :=
  ⟨⟨DQ i, mem_DQ hC hi, hx, .of hok, hb, hnp, fun F k W O => cSsG_ok O GD hc⟩⟩

section
variable {α : Type} {l : List α}
theorem lenS {n : Nat} (h : l.length = n + 1) : ∃ a r, l = a :: r ∧ r.length = n := by
  cases l with
  | nil => cases h
  | cons a r => exact ⟨a, r, rfl, Nat.succ.inj h⟩
theorem len1 (h : l.length = 1) : ∃ a, l = [a] := by
  obtain ⟨a, r, e, h1⟩ := lenS h
  cases r with
  | nil => exact ⟨a, e⟩
  | cons => cases h1
theorem len2 (h : l.length = 2) : ∃ a b, l = [a, b] := by
  obtain ⟨a, r, e, h1⟩ := lenS h
  obtain ⟨b, e1⟩ := len1 h1
  exact ⟨a, b, e1 ▸ e⟩
theorem len3 (h : l.length = 3) : ∃ a b c, l = [a, b, c] := by
  obtain ⟨a, r, e, h1⟩ := lenS h
  obtain ⟨b, c, e1⟩ := len2 h1
  exact ⟨a, b, c, e1 ▸ e⟩
theorem len4 (h : l.length = 4) : ∃ a b c d, l = [a, b, c, d] := by
  obtain ⟨a, r, e, h1⟩ := lenS h
  obtain ⟨b, c, d, e1⟩ := len3 h1
  exact ⟨a, b, c, d, e1 ▸ e⟩
theorem len6 (h : l.length = 6) : ∃ a b c d e f, l = [a, b, c, d, e, f] := by
  obtain ⟨a, r, ea, h1⟩ := lenS h
  obtain ⟨b, r', eb, h2⟩ := lenS h1
  obtain ⟨c, d, e, f, e1⟩ := len4 h2
  exact ⟨a, b, c, d, e, f, e1 ▸ eb ▸ ea⟩
end
theorem bind_1 : BindOk (DQ 1) := by
  intro pm code doc vals h
  obtain ⟨a, rfl⟩ := len1 h
  kernel_rfl
theorem bind_2 : BindOk (DQ 2) := by
  intro pm code doc vals h
  obtain ⟨a, rfl⟩ := len1 h
  kernel_rfl
theorem bind_3 : BindOk (DQ 3) := by
  intro pm code doc vals h
  obtain ⟨a, rfl⟩ := len1 h
  kernel_rfl
theorem bind_4 : BindOk (DQ 4) := by
  intro pm code doc vals h
  obtain ⟨a, b, c, rfl⟩ := len3 h
  kernel_rfl
theorem bind_5 : BindOk (DQ 5) := by
  intro pm code doc vals h
  obtain ⟨a, b, c, d, e, f, rfl⟩ := len6 h
  kernel_rfl
theorem bind_6 : BindOk (DQ 6) := by
  intro pm code doc vals h
  obtain ⟨a, b, rfl⟩ := len2 h
  kernel_rfl
theorem bind_7 : BindOk (DQ 7) := by
  intro pm code doc vals h
  obtain ⟨a, b, rfl⟩ := len2 h
  kernel_rfl
theorem bind_8 : BindOk (DQ 8) := by
  intro pm code doc vals h
  obtain ⟨a, b, rfl⟩ := len2 h
  kernel_rfl
theorem bind_9 : BindOk (DQ 9) := by
  intro pm code doc vals h
  obtain ⟨a, b, rfl⟩ := len2 h
  kernel_rfl
theorem bind_10 : BindOk (DQ 10) := by
  intro pm code doc vals h
  obtain ⟨a, b, rfl⟩ := len2 h
  kernel_rfl
theorem bind_11 : BindOk (DQ 11) := by
  intro pm code doc vals h
  obtain ⟨a, b, c, rfl⟩ := len3 h
  kernel_rfl
theorem bind_12 : BindOk (DQ 12) := by
  intro pm code doc vals h
  obtain ⟨a, rfl⟩ := len1 h
  kernel_rfl
theorem bind_13 : BindOk (DQ 13) := by
  intro pm code doc vals h
  obtain ⟨a, b, rfl⟩ := len2 h
  kernel_rfl
theorem bind_14 : BindOk (DQ 14) := by
  intro pm code doc vals h
  obtain ⟨a, b, c, d, rfl⟩ := len4 h
  kernel_rfl
theorem bind_15 : BindOk (DQ 15) := by
  intro pm code doc vals h
  obtain ⟨a, rfl⟩ := len1 h
  kernel_rfl
theorem bind_16 : BindOk (DQ 16) := by
  intro pm code doc vals h
  obtain ⟨a, rfl⟩ := len1 h
  kernel_rfl

noncomputable def qgL : List Pos := [⟨3, 4, 3, 7⟩, ⟨3, 10, 3, 11⟩, ⟨3, 4, 3, 11⟩, ⟨4, 4, 4, 10⟩, ⟨4, 13, 4, 18⟩, ⟨4, 4, 4, 18⟩, ⟨5, 8, 5, 11⟩, ⟨5, 13, 5, 15⟩, ⟨5, 8, 5, 15⟩, ⟨5, 19, 5, 28⟩, ⟨5, 29, 5, 33⟩, ⟨5, 19, 5, 34⟩, ⟨6, 11, 6, 17⟩, ⟨7, 19, 7, 22⟩, ⟨7, 24, 7, 28⟩, ⟨7, 31, 7, 33⟩, ⟨7, 24, 7, 33⟩, ⟨7, 18, 7, 34⟩, ⟨7, 12, 7, 34⟩, ⟨7, 12, 7, 34⟩, ⟨8, 12, 8, 18⟩, ⟨8, 21, 8, 26⟩, ⟨8, 12, 8, 26⟩, ⟨9, 13, 9, 15⟩, ⟨9, 19, 9, 23⟩, ⟨9, 13, 9, 23⟩, ⟨10, 12, 10, 18⟩, ⟨10, 21, 10, 25⟩, ⟨10, 12, 10, 25⟩, ⟨12, 19, 12, 22⟩, ⟨12, 24, 12, 26⟩, ⟨12, 18, 12, 27⟩, ⟨12, 12, 12, 27⟩, ⟨12, 12, 12, 27⟩, ⟨9, 8, 12, 27⟩, ⟨6, 8, 12, 27⟩, ⟨5, 4, 12, 27⟩, ⟨13, 7, 13, 13⟩, ⟨14, 15, 14, 18⟩, ⟨14, 20, 14, 24⟩, ⟨14, 14, 14, 25⟩, ⟨14, 8, 14, 25⟩, ⟨14, 8, 14, 25⟩, ⟨13, 4, 14, 25⟩]
theorem gen_def {C : Cx} (hC : C.defs = recsP PQ) (hbi : C.mg "enumerate" = none) : GenDef C (DQ 0) where
  mem := mem_DQ hC (by decide)
  body := by
    exact cast (congrArg IterBody (show _ = (DQ 0).body by kernel_rfl)) (IterBody.mk (q := fun n => qgL.getD n ⟨0, 0, 0, 0⟩) (j := fun _ => 0))
  kind := by kernel_rfl
  co := by kernel_rfl
  gen := by kernel_rfl
  bind := fun pm code doc v => by kernel_rfl
  nocell := by decide +kernel
  addr := by decide +kernel
  pos := by decide +kernel
  escape := by decide +kernel
  ch := by decide +kernel
  enum := by decide +kernel
  en := hbi

theorem fn_1 {C : Cx} (hC : C.defs = recsP PQ) (hbi : C.mg "enumerate" = none) : FnOk C "_strip_quoted_realnames" m_strip_quoted_realnames := fnOk_g hC (gen_def hC hbi) (by decide) (by kernel_rfl) (by decide +kernel) bind_1 (by kernel_rfl) (by kernel_rfl)
theorem fn_2 {C : Cx} (hC : C.defs = recsP PQ) (hbi : C.mg "enumerate" = none) : FnOk C "_check_parenthesis" m_check_parenthesis := fnOk_g hC (gen_def hC hbi) (by decide) (by kernel_rfl) (by decide +kernel) bind_2 (by kernel_rfl) (by kernel_rfl)
theorem fn_3 {C : Cx} (hC : C.defs = recsP PQ) : FnOk C "_pre_parse_validation" m_pre_parse_validation := fnOk_c hC (i := 3) (by decide) (by kernel_rfl) (by decide +kernel) bind_3 (by kernel_rfl) (by kernel_rfl)
theorem fn_4 {C : Cx} (hC : C.defs = recsP PQ) : FnOk C "_div2n1n" m_div2n1n := fnOk_c hC (i := 4) (by decide) (by kernel_rfl) (by decide +kernel) bind_4 (by kernel_rfl) (by kernel_rfl)
theorem fn_5 {C : Cx} (hC : C.defs = recsP PQ) : FnOk C "_div3n2n" m_div3n2n := fnOk_c hC (i := 5) (by decide) (by kernel_rfl) (by decide +kernel) bind_5 (by kernel_rfl) (by kernel_rfl)
theorem fn_8 {C : Cx} (hC : C.defs = recsP PQ) : FnOk C "_divmod_pos" m_divmod_pos := fnOk_c hC (i := 8) (by decide) (by kernel_rfl) (by decide +kernel) bind_8 (by kernel_rfl) (by kernel_rfl)
theorem fn_9 {C : Cx} (hC : C.defs = recsP PQ) : FnOk C "int_divmod" m_int_divmod := fnOk_c hC (i := 9) (by decide) (by kernel_rfl) (by decide +kernel) bind_9 (by kernel_rfl) (by kernel_rfl)
theorem fn_10 {C : Cx} (hC : C.defs = recsP PQ) : FnOk C "_substitution_cost" m_substitution_cost := fnOk_c hC (i := 10) (by decide) (by kernel_rfl) (by decide +kernel) bind_10 (by kernel_rfl) (by kernel_rfl)
theorem fn_11 {C : Cx} (hC : C.defs = recsP PQ) : FnOk C "_levenshtein_distance" m_levenshtein_distance := fnOk_c hC (i := 11) (by decide) (by kernel_rfl) (by decide +kernel) bind_11 (by kernel_rfl) (by kernel_rfl)
theorem fn_12 {C : Cx} (hC : C.defs = recsP PQ) : FnOk C "_law_drawn" m1_law_drawn := fnOk_c hC (i := 12) (by decide) (by kernel_rfl) (by decide +kernel) bind_12 (by kernel_rfl) (by kernel_rfl)
theorem fn_13 {C : Cx} (hC : C.defs = recsP PQ) : FnOk C "_law_heights" m1_law_heights := fnOk_c hC (i := 13) (by decide) (by kernel_rfl) (by decide +kernel) bind_13 (by kernel_rfl) (by kernel_rfl)
theorem fn_14 {C : Cx} (hC : C.defs = recsP PQ) : FnOk C "_law_text" m1_law_text := fnOk_c hC (i := 14) (by decide) (by kernel_rfl) (by decide +kernel) bind_14 (by kernel_rfl) (by kernel_rfl)
theorem fn_15 {C : Cx} (hC : C.defs = recsP PQ) : FnOk C "_law_near" m1_law_near := fnOk_c hC (i := 15) (by decide) (by kernel_rfl) (by decide +kernel) bind_15 (by kernel_rfl) (by kernel_rfl)
theorem fn_16 {C : Cx} (hC : C.defs = recsP PQ) : FnOk C "law" m1_law := fnOk_c hC (i := 16) (by decide) (by kernel_rfl) (by decide +kernel) bind_16 (by kernel_rfl) (by kernel_rfl)

/-! the nested defs -/
noncomputable def fdOf (l : List Stmt) : Arguments × List Stmt × Scope × Pos := (l.findSome? fun s => match s with | .FunctionDef _ a b _ _ _ sc _ _ p => some (a, b, sc, p) | _ => none).getD (dum.params, [], dum.scope, ⟨0, 0, 0, 0⟩)
noncomputable abbrev n7 := fdOf (DQ 7).body
noncomputable abbrev n6 := fdOf (DQ 6).body
noncomputable def q7L : List Pos := [⟨102, 16, 102, 21⟩, ⟨102, 22, 102, 25⟩, ⟨102, 27, 102, 28⟩, ⟨102, 16, 102, 29⟩, ⟨102, 33, 102, 38⟩, ⟨102, 16, 102, 38⟩, ⟨102, 42, 102, 47⟩, ⟨102, 48, 102, 49⟩, ⟨102, 51, 102, 54⟩, ⟨102, 42, 102, 55⟩, ⟨102, 15, 102, 55⟩, ⟨102, 8, 102, 55⟩, ⟨0, 0, 0, 0⟩, ⟨0, 0, 0, 0⟩, ⟨0, 0, 0, 0⟩, ⟨0, 0, 0, 0⟩, ⟨0, 0, 0, 0⟩, ⟨0, 0, 0, 0⟩, ⟨0, 0, 0, 0⟩, ⟨0, 0, 0, 0⟩, ⟨103, 36, 103, 42⟩, ⟨103, 11, 103, 16⟩, ⟨103, 17, 103, 18⟩, ⟨103, 20, 103, 23⟩, ⟨103, 24, 103, 30⟩, ⟨103, 20, 103, 31⟩, ⟨103, 11, 103, 32⟩, ⟨103, 48, 103, 49⟩, ⟨103, 11, 103, 49⟩, ⟨103, 4, 103, 49⟩]
noncomputable def q6L : List Pos := [⟨90, 8, 90, 13⟩, ⟨90, 14, 90, 19⟩, ⟨90, 21, 90, 22⟩, ⟨90, 24, 90, 27⟩, ⟨90, 8, 90, 28⟩, ⟨90, 8, 90, 28⟩, ⟨91, 8, 91, 13⟩, ⟨91, 14, 91, 19⟩, ⟨91, 21, 91, 24⟩, ⟨91, 26, 91, 27⟩, ⟨91, 8, 91, 28⟩, ⟨91, 8, 91, 28⟩, ⟨0, 0, 0, 0⟩, ⟨0, 0, 0, 0⟩, ⟨0, 0, 0, 0⟩, ⟨0, 0, 0, 0⟩, ⟨0, 0, 0, 0⟩, ⟨0, 0, 0, 0⟩, ⟨0, 0, 0, 0⟩, ⟨0, 0, 0, 0⟩, ⟨92, 7, 92, 8⟩, ⟨93, 8, 93, 13⟩, ⟨93, 14, 93, 15⟩, ⟨93, 17, 93, 18⟩, ⟨93, 20, 93, 23⟩, ⟨93, 24, 93, 32⟩, ⟨93, 20, 93, 33⟩, ⟨93, 8, 93, 34⟩, ⟨93, 8, 93, 34⟩, ⟨92, 4, 93, 34⟩, ⟨94, 11, 94, 19⟩, ⟨94, 4, 94, 19⟩, ⟨0, 0, 0, 0⟩, ⟨0, 0, 0, 0⟩, ⟨0, 0, 0, 0⟩, ⟨0, 0, 0, 0⟩, ⟨0, 0, 0, 0⟩, ⟨0, 0, 0, 0⟩, ⟨0, 0, 0, 0⟩, ⟨0, 0, 0, 0⟩, ⟨80, 4, 80, 12⟩, ⟨80, 16, 80, 17⟩, ⟨80, 15, 80, 18⟩, ⟨80, 15, 80, 52⟩, ⟨80, 4, 80, 52⟩]
noncomputable def noS : Stmt := .Pass ⟨0, 0, 0, 0⟩
noncomputable def tab6 : Tab := ⟨62, 58, ((n6.2.2.2).line : Int), ((n6.2.2.2).col : Int), "_int2digits.<locals>.inner", "_int2digits"⟩
noncomputable def tab7 : Tab := ⟨69, 65, ((n7.2.2.2).line : Int), ((n7.2.2.2).col : Int), "_digits2int.<locals>.inner", "_digits2int"⟩
noncomputable def ci7 : CC := { sc := n7.2.2.1, tb := tbD, nx := 6, fns := [], consts := [] }
noncomputable def ci6 : CC := { sc := n6.2.2.1, tb := tbI, nx := 9, fns := [], consts := [] }
theorem free_iff {names : List (Str × NameKind)} {dn : Str} (h1 : (names.all fun p => p.2 != .free || (p.1 == ("inner" : Str) || p.1 == ("n" : Str) || p.1 == dn)) = true) (h2 : names.lookup ("inner" : Str) = some .free) (h3 : names.lookup ("n" : Str) = some .free) (h4 : names.lookup dn = some .free) :
    (∀ x : Str, names.lookup x = some .free ↔ x = "inner" ∨ x = "n" ∨ x = dn) ∧ ∀ x : Str, (x, NameKind.free) ∈ names ↔ x = "inner" ∨ x = "n" ∨ x = dn := by
  have k : ∀ x : Str, (x, NameKind.free) ∈ names → x = "inner" ∨ x = "n" ∨ x = dn := fun x hx => by
    have := List.all_eq_true.mp h1 _ hx
    simp only [Bool.or_eq_true, bne_iff_ne, ne_eq, not_true_eq_false, beq_iff_eq, false_or] at this
    rcases this with (e | e) | e
    · exact .inl e
    · exact .inr (.inl e)
    · exact .inr (.inr e)
  have b : ∀ x : Str, x = "inner" ∨ x = "n" ∨ x = dn → names.lookup x = some .free := fun x hx => by
    rcases hx with rfl | rfl | rfl
    · exact h2
    · exact h3
    · exact h4
  exact ⟨fun x => ⟨fun e => k x (mem_lookup e), b x⟩, fun x => ⟨k x, fun e => mem_lookup (b x e)⟩⟩
theorem free7 : (∀ x : Str, n7.2.2.1.names.lookup x = some .free ↔ x = "inner" ∨ x = "n" ∨ x = "digits") ∧ ∀ x : Str, (x, NameKind.free) ∈ n7.2.2.1.names ↔ x = "inner" ∨ x = "n" ∨ x = "digits" := free_iff (names := n7.2.2.1.names) (dn := "digits") (by decide +kernel) (by decide +kernel) (by decide +kernel) (by decide +kernel)
theorem free6 : (∀ x : Str, n6.2.2.1.names.lookup x = some .free ↔ x = "inner" ∨ x = "n" ∨ x = "a_digits") ∧ ∀ x : Str, (x, NameKind.free) ∈ n6.2.2.1.names ↔ x = "inner" ∨ x = "n" ∨ x = "a_digits" := free_iff (names := n6.2.2.1.names) (dn := "a_digits") (by decide +kernel) (by decide +kernel) (by decide +kernel) (by decide +kernel)
theorem inner7 {C : Cx} : InnerFn C ci7 n7.1 ["L", "R"] n7.2.2.1 "digits" where
  kind := by kernel_rfl
  co := by kernel_rfl
  gen := by kernel_rfl
  sc := rfl
  nocell := by decide +kernel
  tb := ⟨by decide +kernel, by decide +kernel, by decide +kernel⟩
  bind := fun name qual body clos doc pm cdv ctv vs h => by
    obtain ⟨a, b, rfl⟩ := len2 h
    kernel_rfl
  pl := by decide +kernel
  pnd := by decide +kernel
  free := free7.1
theorem inner6 {C : Cx} : InnerFn C ci6 n6.1 ["x", "L", "R"] n6.2.2.1 "a_digits" where
  kind := by kernel_rfl
  co := by kernel_rfl
  gen := by kernel_rfl
  sc := rfl
  nocell := by decide +kernel
  tb := ⟨by decide +kernel, by decide +kernel, by decide +kernel⟩
  bind := fun name qual body clos doc pm cdv ctv vs h => by
    obtain ⟨a, b, c, rfl⟩ := len3 h
    kernel_rfl
  pl := by decide +kernel
  pnd := by decide +kernel
  free := free6.1
theorem uniq67 : ∀ t ∈ [tab6, tab7], ∀ t' ∈ [tab6, tab7], t'.P = t.P → t' = t := by
  intro t ht t' ht' e
  simp only [List.mem_cons, List.not_mem_nil, or_false] at ht ht'
  rcases ht with rfl | rfl <;> rcases ht' with rfl | rfl
  · rfl
  · exact absurd e (by decide)
  · exact absurd e (by decide)
  · rfl
theorem nest7 {C : Cx} (hC : C.defs = recsP PQ) (ht : C.tabs = [tab6, tab7]) (bi : ∀ n ∈ biNames, C.mg n = none) : NestDef C (DQ 7) tab7 where
  mem := mem_DQ hC (by decide)
  ok := .of (by decide +kernel)
  bind := bind_7
  tab := by rw [ht]; exact .tail _ (.head _)
  uniq := by rw [ht]; exact uniq67 _ (.tail _ (.head _))
  own := by kernel_rfl
  qual := by kernel_rfl
  inner := by decide +kernel
  bi := bi
theorem nest6 {C : Cx} (hC : C.defs = recsP PQ) (ht : C.tabs = [tab6, tab7]) (bi : ∀ n ∈ biNames, C.mg n = none) : NestDef C (DQ 6) tab6 where
  mem := mem_DQ hC (by decide)
  ok := .of (by decide +kernel)
  bind := bind_6
  tab := by rw [ht]; exact .head _
  uniq := by rw [ht]; exact uniq67 _ (.head _)
  own := by kernel_rfl
  qual := by kernel_rfl
  inner := by decide +kernel
  bi := bi
theorem srv7 {C : Cx} (hC : C.defs = recsP PQ) (ht : C.tabs = [tab6, tab7]) (bi : ∀ n ∈ biNames, C.mg n = none) (ds : List Int) (n v : Int) (hds : ds.length ≤ 2 ^ 20) (hv : if ds = [] then v = 0 else d2iGo ds n 13 0 ds.length = some v) : Srv C 16 "_digits2int" [.list (ds.map .int), .int n] (.int v) :=
  ⟨⟨DQ 7, mem_DQ hC (by decide), by kernel_rfl⟩, d2i_call (f := 13) (nest7 hC ht bi) (inner7 (C := C)) rfl (s1 := n7.2.1.getD 0 noS) (s2 := n7.2.1.getD 1 noS) (s3 := n7.2.1.getD 2 noS) (by kernel_rfl) (by kernel_rfl) (by unfold Wr; decide +kernel) hds (by decide +kernel) rfl rfl
    (q := fun n => q7L.getD n ⟨0, 0, 0, 0⟩) (dp := n7.2.2.2) (j1 := 0) (j2 := 0) (by kernel_rfl) rfl rfl (by kernel_rfl) (by kernel_rfl) (fun env => by kernel_rfl) (by kernel_rfl) (by kernel_rfl) (by decide +kernel) ⟨by decide +kernel, by decide +kernel⟩ free7.2 hv⟩
theorem srv6 {C : Cx} (hC : C.defs = recsP PQ) (ht : C.tabs = [tab6, tab7]) (bi : ∀ n ∈ biNames, C.mg n = none) (a n : Int) (r : List Int) (hv : i2dTop 13 a n = some r) : Srv C 16 "_int2digits" [.int a, .int n] (.list (r.map .int)) :=
  ⟨⟨DQ 6, mem_DQ hC (by decide), by kernel_rfl⟩, i2d_call (f := 13) (nest6 hC ht bi) (inner6 (C := C)) rfl (s1 := n6.2.1.getD 0 noS) (sB := n6.2.1.getD 1 noS) (s3 := n6.2.1.getD 2 noS) (s4 := n6.2.1.getD 3 noS) (s5' := n6.2.1.getD 4 noS) (by kernel_rfl) (by kernel_rfl) (by unfold Wr; decide +kernel) (by decide +kernel) rfl rfl
    (q := fun n => q6L.getD n ⟨0, 0, 0, 0⟩) (dp := n6.2.2.2) (j1 := 0) (j2 := 0) (e0 := (match (DQ 6).body with | .Assign _ (.BinOp _ _ e _) _ :: _ => e | _ => .Name "" ⟨0, 0, 0, 0⟩)) (by kernel_rfl) (by kernel_rfl) rfl rfl (by kernel_rfl) (by kernel_rfl) (fun env => by kernel_rfl) (by kernel_rfl) (by kernel_rfl) (by decide +kernel) ⟨by decide +kernel, by decide +kernel⟩ free6.2 hv⟩

structure PF (C : Cx) : Prop where
  defs : C.defs = recsP PQ
  tabs : C.tabs = [tab6, tab7]
  base : Base C
  en : C.mg "enumerate" = none
theorem PF.long {C : Cx} (H : PF C) : PyLong C where
  base := H.base
  f4 := fn_4 H.defs
  f5 := fn_5 H.defs
  f8 := fn_8 H.defs
  f9 := fn_9 H.defs
  f6 := srv6 H.defs H.tabs H.base.bi
  f7 := srv7 H.defs H.tabs H.base.bi
theorem PF.texts {C : Cx} (H : PF C) : Texts C where
  base := H.base
  f1 := fn_1 H.defs H.en
  f2 := fn_2 H.defs H.en
  f3 := fn_3 H.defs
  f10 := fn_10 H.defs
  f11 := fn_11 H.defs
end Mine

-- Q1
namespace Mine
open PySem PySem.Spec PySem.Calls PyProof.Rows PySem.W

/-! ## the oracle of the law, by number -/
noncomputable def sel (L : List (Nat × Orc)) : Orc := fun i args => match L.lookup i with
  | some F => F i args
  | none => none
theorem mem_lookupN {α : Type} : ∀ {L : List (Nat × α)} {i : Nat} {F : α}, L.lookup i = some F → (i, F) ∈ L
  | [], _, _, h => nomatch h
  | (j, G) :: r, i, F, h => by
    rw [List.lookup_cons] at h
    cases hb : i == j with
    | true => rw [hb] at h; cases h; rw [eq_of_beq hb]; exact .head _
    | false => rw [hb] at h; exact .tail _ (mem_lookupN h)
theorem serves_sel {C : Cx} {k : Nat} {L : List (Nat × Orc)} (h : ∀ q ∈ L, Serves C k q.2) : Serves C k (sel L) := fun i x e args r hr => by
  unfold sel at hr
  split at hr
  · rename_i F hF
    exact h (i, F) (mem_lookupN hF) i x e args r hr
  · cases hr
noncomputable def FL1 : List (Nat × Orc) := [(12, orcF 12 orc0 0 m1_law_drawn), (13, orcF 13 orc0 0 m1_law_heights), (14, orcF 14 orc0 0 m1_law_text), (3, O3), (15, nearO), (11, levO), (6, orc1 6 P6), (7, orc1 7 P7), (9, orc1 9 (P9 fun _ b => b ≠ 0))]
theorem FL1_srv {C : Cx} (H : PF C) : Serves C 20 (sel FL1) := serves_sel fun q hq => by
  simp only [FL1, List.mem_cons, List.not_mem_nil, or_false] at hq
  rcases hq with rfl | rfl | rfl | rfl | rfl | rfl | rfl | rfl | rfl
  · exact (servesF (k := 0) H.base rfl (fn_12 H.defs) serves0).le (by omega)
  · exact (servesF (k := 0) H.base rfl (fn_13 H.defs) serves0).le (by omega)
  · exact (servesF (k := 0) H.base rfl (fn_14 H.defs) serves0).le (by omega)
  · exact (O3_srv H.texts).le (by omega)
  · exact (servesF (k := 2) H.base rfl (fn_15 H.defs) (levO_srv H.texts)).le (by omega)
  · exact (levO_srv H.texts).le (by omega)
  · exact (P6.srv H.long).le (by omega)
  · exact (P7.srv H.long).le (by omega)
  · exact P9.srv H.long
theorem FL1_ok : F1 (sel FL1) where
  h12 := fun ns h => (show sel FL1 12 _ = orcF 12 orc0 0 m1_law_drawn 12 _ from rfl).trans (orcF_eq.trans (drawn1_ev h))
  h13 := fun row s h => (show sel FL1 13 _ = orcF 13 orc0 0 m1_law_heights 13 _ from rfl).trans (orcF_eq.trans (heights1_ev (by omega)))
  h14 := fun row h0 la number code hs init t h1 h2 h3 h4 h5 h6 h7 h8 => (show sel FL1 14 _ = orcF 14 orc0 0 m1_law_text 14 _ from rfl).trans (orcF_eq.trans (text1_ev h1 h2 h3 h4 h5 h6 h7 h8))
  h3 := fun ts h1 h2 => (show sel FL1 3 _ = O3 3 _ from rfl).trans (O3_strs h1 h2)
  h15 := fun st h => (show sel FL1 15 _ = nearO 15 _ from rfl).trans (by rcases h with rfl | rfl; exact near_3; exact near_4)
  h11 := fun a b c h1 h2 h3 h4 => (show sel FL1 11 _ = levO 11 _ from rfl).trans (levO_val h1 h2 h3 h4)
  h6 := fun a n h1 h2 h3 => (show sel FL1 6 _ = orc1 6 P6 6 _ from rfl).trans (orc1_some P6.uniq ⟨a, n, h1, h2, h3, rfl, rfl⟩)
  h7 := fun n ds h1 h2 h3 => (show sel FL1 7 _ = orc1 7 P7 7 _ from rfl).trans (orc1_some P7.uniq ⟨n, ds, h1, h2, h3, rfl, rfl⟩)
  h9 := fun a b h1 h2 => (show sel FL1 9 _ = orc1 9 _ 9 _ from rfl).trans (orc1_some P9.uniq ⟨a, b, h2, h1, rfl, rfl⟩)
theorem law1_srv {C : Cx} (H : PF C) {ns : List Int} (hn : ns.length ≤ 63) : Srv C 21 "law" [.list (ns.map .int)] (.bool true) :=
  fn_call (W := 0) H.base (fn_16 H.defs) (FL1_srv H) (law1_ev FL1_ok hn)

/-! ## the end -/
noncomputable def freeB (view : Program) (loose : List Str) : Bool := (biNames ++ [("enumerate" : Str)]).all fun n => !startupNames.contains n && !loose.contains n && !((recsOf view).map (·.name)).contains n && !((litsOf view).map (·.1)).contains n && !((clssOf view loose).map (·.name)).contains n
theorem free_of {view : Program} {loose : List Str} {mean : ExcName → Option Value} {mg mb : Str → Option Value} {h : Heap} (T : Top view loose mean mg mb h) (hf : freeB view loose = true) : ∀ n ∈ biNames ++ [("enumerate" : Str)], mg n = none := fun n hn => by
  have := List.all_eq_true.mp hf n hn
  simp only [Bool.and_eq_true, Bool.not_eq_true', List.contains_eq_mem, decide_eq_false_iff_not] at this
  obtain ⟨⟨⟨⟨h1, h2⟩, h3⟩, h4⟩, h5⟩ := this
  exact T.free n h1 h2 h3 h4 h5
theorem pf_of {prog view : Program} {w : World} {loose : List Str} {mean : ExcName → Option Value} {mg mb : Str → Option Value} {h : Heap} (hv : recsOf view = recsP PQ) (T : Top view loose mean mg mb h) (hf : freeB view loose = true) (hc : ∀ q ∈ constsAll, valOf view q.1 = some q.2) : PF ⟨prog, w, mg, mb, recsOf view, [tab6, tab7]⟩ where
  defs := hv
  tabs := rfl
  base := ⟨fun n hn => free_of T hf n (List.mem_append_left _ hn), fun x d e => T.const x d (hc (x, d) (mem_lookup e))⟩
  en := free_of T hf _ (List.mem_append_right _ (.head _))
noncomputable def q1 : Program := view PQ [1, 2, 3, 4, 6, 7, 8, 9, 10, 11, 12, 14, 15, 16, 17, 18, 20, 21, 22, 23, 24]
theorem fin_law {prog view : Program} {w : World} {loose : List Str} {mean mean' : ExcName → Option Value} {mg mb : Str → Option Value} {s : Shared} {cw : ClaimW} {cl : Str → Option Addr} {args : List WData} {l fa : Addr} {vs : List Value} {ns : List Int} {as : List Addr}
    (hv : recsOf view = recsP PQ) (hf : freeB view loose = true) (hc : ∀ q ∈ constsAll, valOf view q.1 = some q.2) (X : TabSays s.heap tab6.own tab6.c tab6.P ∧ TabSays s.heap tab7.own tab7.c tab7.P)
    (T : Top view loose mean mg mb s.heap) (hg : s.gens = #[]) (hl : s.heap.IsList l vs.toArray) (hr : ReadsAll s.heap vs (ns.map .int) as) (hn : ns.length ≤ 63) (hmg : mg "law" = some (.ref fa)) (hraise : ∀ a cls, cw.raises a cls = false) (hpost : cw.post args (.bool true) args = true) :
    wpAny (model prog w) callerA (call (.ref fa) [.ref l] []) (fun v s' => GoodWG cw cl mean' args s (.ok (.ret v)) s') (fun e s' => GoodWG cw cl mean' args s (.error e) s') s := by
  have f6 : DQ 6 ∈ recsOf view := by rw [hv]; exact dOf_mem (by rw [len_PQ]; decide)
  have f7 : DQ 7 ∈ recsOf view := by rw [hv]; exact dOf_mem (by rw [len_PQ]; decide)
  exact law_goes (k := 21) (x := "law") (tabs := [tab6, tab7]) T (List.forall_mem_cons.mpr ⟨tab_says T X.1 f6 (by kernel_rfl), List.forall_mem_cons.mpr ⟨tab_says T X.2 f7 (by kernel_rfl), fun _ h => nomatch h⟩⟩)
    (List.forall_mem_cons.mpr ⟨X.1.fn _ T.g, List.forall_mem_cons.mpr ⟨X.2.fn _ T.g, fun _ h => nomatch h⟩⟩) hg hl hr (by omega) hmg (law1_srv (pf_of hv T hf hc) hn) hraise hpost
end Mine

open PySem PySem.W PyProof.Rows
namespace Mine
theorem law_said : OpenLaw.wellSaid PySem.Challenge.rw_rw0096_01 = true ∧ True := by
  refine ⟨?_, trivial⟩
  delta OpenLaw.wellSaid OpenRow.wellSaid OpenRow.partSaid looksOpen
  repeat' with_reducible refine look_both ?_ ?_
  all_goals decide +kernel
theorem q_recs : recsOf q1 = recsP PQ ∧ True := ⟨by kernel_rfl, trivial⟩
theorem q_free : freeB q1 [] = true := by decide +kernel
theorem q_const : ∀ q ∈ constsAll, valOf q1 q.1 = some q.2 := List.forall_mem_cons.mpr ⟨by kernel_rfl, List.forall_mem_cons.mpr ⟨by kernel_rfl, List.forall_mem_cons.mpr ⟨by kernel_rfl, List.forall_mem_cons.mpr ⟨by kernel_rfl, fun _ h => nomatch h⟩⟩⟩⟩
noncomputable abbrev qH : Hook := hookT tab6.own tab7.own tab6.c tab6.P tab7.c tab7.P
noncomputable abbrev qX (s : Shared) : Bool := xlAt q1 [] s && recOk (RowW.records (PySem.Challenge.rw_rw0096_01.row.toRowW)) s
theorem q_left : LeftO PQ q1 [] qX (Hook.obs qH) (Hook.val qH) 1382 ∧ True := ⟨fun w => by kernel_rfl, trivial⟩
end Mine
set_option maxHeartbeats 8000000 in
theorem PySem.Challenge.cw_rw0096_01_holds : PySem.Challenge.rw_rw0096_01.Holds := by
  w_on
  refine holds_law Mine.law_said.1 fun said => ?_
  refine holds_open (q := Mine.q1) (loose := []) (Xt := Mine.qX) (XP := XL Mine.q1 []) (Yf := Hook.obs Mine.qH) (Ya := Hook.val Mine.qH) (YP := Hook.says Mine.qH) (N := 1382) Mine.q_left.1 (Hook.of _) (Hook.keeps _) (fun s e => xl_of s (Bool.and_eq_true_iff.mp e).1) XL.keeps (by rfl) (by rfl) (by rfl) (fun s e => recFacts_of (Bool.and_eq_true_iff.mp e).2) (by rfl) (by assumption) (by decide +kernel) ⟨rfl, rfl, rfl, rfl, rfl, by decide +kernel⟩ ?hw ?hc
  case hw => w_witness2
  w_strict (
   intro w s₀ s₁ mg mb G Y fa o pm cd doc dV kV ho hd hcd hD hmg hg args vals as hpre hlay hrd hwl hlo
   clear hd hcd hD ho
   refine Ground.open G ?_
   intro T B D TE TW
   wrow_args hpre hlay hrd hwl hlo
   refine Mine.fin_law Mine.q_recs.1 Mine.q_free Mine.q_const Y T hg (by assumption) (by assumption) (by omega) hmg (fun _ _ => rfl) ?hp
   first | kernel_rfl | decide +kernel)
